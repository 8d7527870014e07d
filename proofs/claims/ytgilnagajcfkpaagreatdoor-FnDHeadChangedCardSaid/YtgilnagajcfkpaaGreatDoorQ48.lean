import Derived.Test.YtgilnagajcfkpaaGreatDoorQ34
import Derived.Test.YtgilnagajcfkpaaGreatDoorQ67
set_option maxHeartbeats 4000000
set_option maxRecDepth 1000000
set_option linter.all false
namespace Go.Proofs.YtgilnagajcfkpaaGreatDoor
open Go.RowKit
def hdC (c:Code):Code:=hd c
noncomputable def body90:Code:=Tryz.f90.body.getD .skip
def VBlk (w:World)(vb:Nat):Prop:= ∃(s1 s2:BS)(kv:Value)(t1 t2:Int)(b1 b2:Bool)(A:Option Addr)(n k:Nat),kv= .slice A n k∧Blk w vb 102 [Str s1,Str s2,kv, .int .i64 t1, .bool b1, .int .i64 t2, .bool b2, .nilIface]
theorem VBlk.frm {S:Nat→Prop} {w w':World} {vb:Nat} (h:VBlk w vb)(hF:Frm S w w')(hS: ¬S vb):VBlk w' vb:=by
 obtain⟨s1,s2,kv,t1,t2,b1,b2,A,n,k,h1,h2⟩:=h
 exact⟨s1,s2,kv,t1,t2,b1,b2,A,n,k,h1,h2.frm hF hS⟩
theorem VBlk.lt {w:World} {vb:Nat} (h:VBlk w vb):vb<w.heap.size:=by
 obtain⟨s1,s2,kv,t1,t2,b1,b2,A,n,k,h1,h2⟩:=h
 exact h2.lt
def VPost (w0:World)(SS:Nat→Prop)(vb c:Nat)(e:Ending)(w':World):Prop:=
 ∃ev,e= .returned (.tuple #[.pointer (some ⟨vb,0,none⟩),ev])∧ErrK ev c∧VBlk w' vb∧Frm SS w0 w'
def judgedS (hf key:BS)(FS NM:List BS)(sf s:BS):Bool:=sha (key++sha (allOf hf FS NM++without (fieldOf hf (E sf))))==s
theorem trunc {w:World} {B:Nat} (h:B≤w.heap.size): ∃wt:World,wt.heap.size=B∧Below wt.heap.size wt w:=by
 refine⟨{ w with heap:=w.heap.extract 0 B },by simp;omega,rfl,rfl,rfl,by simp;omega,fun k hk=> ?_⟩
 simp at hk
 show w.heap[k]?=(w.heap.extract 0 B)[k]?
 rw [Array.getElem?_extract]
 simp;omega
theorem snk_text {wt fn:Nat} {any:Bool} {Sk:World→Nat→Option Nat→BS→Prop} (L:SnkLaw wt fn any Sk)(h:Nat)(o:Option Nat)(acc l:BS)(w:World)(hA:Sk w h o acc)(hn:acc.length+l.length≤140737488355328)(ha:any=true∨l≠ []∨acc= []):
 ∃c w1,(convert 9 22 (Str l)).run Tryz.prog w= .ok (.slice (some ⟨w.heap.size,0,none⟩) l.length c) w1∧Calls Tryz.prog fn #[.pointer (some ⟨h,0,none⟩), .slice (some ⟨w.heap.size,0,none⟩) l.length c] w1 fun e w'=>
  e= .returned (.tuple #[.int .i64 l.length, .nilIface])∧(∃o',Sk w' h o' (acc++l)∧∀k,o'=some k→o=some k∨w.heap.size≤k)∧Frm (fun k=>k=h∨some k=o) w w':=by
 obtain⟨hl1,hl2⟩:=L.lt _ _ _ _ hA
 obtain⟨q,w1,hcv,ho,hb⟩:=conv_text w l (by omega)
 have hA1:=L.frm (fun _=>False) _ _ _ _ _ hA (Frm.of_new hb) id (fun _ _=>id)
 have hw:=L.write w1 h o acc _ l hA1 ho.rd ha hn (fun k hk=>by have hk:w.heap.size=k:=Option.some.inj hk;exact⟨by omega,fun e=>by have:=(hl2 k e).1;omega⟩)
 refine⟨q,w1,hcv,hw.mono ?_⟩
 rintro e w2 ⟨rfl,⟨o2,hA2,ho2⟩,hF2⟩
 have hs:=hb.size
 exact⟨rfl,⟨o2,hA2,fun k hk=>(ho2 k hk).imp id (fun e=>by omega)⟩,(Frm.of_new (S:=fun k=>k=h∨some k=o) hb).trans hF2⟩
theorem emptied_sub: ∀(n:Nat)(l:BS),(emptied n l).length≤l.length∧∀c∈emptied n l,c∈l
 |0,l=>by simp [emptied]
 |n+1,[]=>by simp [emptied]
 |n+1,c::r=>by
  rw [emptied]
  split
  ·next h=>
   have e:r.takeWhile blank++r.dropWhile blank=r:=List.takeWhile_append_dropWhile
   obtain⟨d,hd⟩: ∃d,r.dropWhile blank=61::d:=by
    cases hx:r.dropWhile blank with
    |nil=>rw [hx]at h;simp at h
    |cons a d=>rw [hx]at h;simp at h;exact⟨d,by rw [h.2]⟩
   have ih:=emptied_sub n (d.dropWhile (· !=59))
   have hl:=(List.dropWhile_sublist (· !=(59:UInt8)) (l:=d))
   rw [hd]at e⊢
   rw [List.tail_cons]
   have e2:r.length=(r.takeWhile blank).length+(d.length+1):=by
    have:=congrArg List.length e;rw [List.length_append,List.length_cons]at this;omega
   refine⟨?_,fun x hx=> ?_⟩
   ·simp only [List.length_append,List.length_cons,List.length_nil]
    have:=hl.length_le;have:=ih.1
    omega
   ·simp only [List.cons_append,List.mem_cons,List.mem_append,List.not_mem_nil,or_false]at hx
    rw [←e]
    simp only [List.mem_cons,List.mem_append]
    rcases hx with rfl|(hx|rfl)|hx
    ·exact .inl rfl
    ·exact .inr (.inl hx)
    ·exact .inr (.inr (.inl rfl))
    ·exact .inr (.inr (.inr (hl.mem (ih.2 x hx))))
  ·have ih:=emptied_sub n r
   refine⟨by simp only [List.length_cons];have:=ih.1;omega,fun x hx=> ?_⟩
   rcases List.mem_cons.1 hx with rfl|hx
   ·simp
   ·exact List.mem_cons_of_mem _ (ih.2 x hx)
theorem emptied_len (n:Nat)(l:BS):(emptied n l).length≤l.length:=(emptied_sub n l).1
theorem plain_E {l:BS} (h:plain l=true):plain (E l)=true:=plain_of_sub h (emptied_sub l.length l).2
theorem m94_Verify (kind:BS)(kv:Value)(w:World):(method 486 94 (Giv kind kv) "Verify").run Tryz.prog w= .ok (240,Giv kind kv) w:=by kernel_rfl
theorem n94_Verify (kind:BS)(kv:Value)(w:World):(nilAhead 486 94 (Giv kind kv) "Verify").run Tryz.prog w= .ok (some false) w:=by kernel_rfl
theorem m242_Error (a:Addr)(w:World):(method 486 242 (.pointer (some a)) "Error").run Tryz.prog w= .ok (269, .pointer (some a)) w:=by kernel_rfl
theorem n242_Error (a:Addr)(w:World):(nilAhead 486 242 (.pointer (some a)) "Error").run Tryz.prog w= .ok (some false) w:=by kernel_rfl
theorem errErr_any (a:Nat)(s:BS)(w:World)(hc:w.cell? ⟨a,0,none⟩=some (Str s)):Calls Tryz.prog 269 #[.pointer (some ⟨a,0,none⟩)] w fun e w'=>e= .returned (Str s)∧w'=w:=by
 go_enter Tryz.func269,Tryz.ntmps269
 go_wp2
 go_ret
 exact⟨rfl,rfl⟩
theorem ver4 (B B0 vb dg q ca mb n g8 o8 c8 cT jc:Nat)(hv kv sv:Value)(FS NM:List BS)(sf key s kind hfm:BS)(st:St8)(f:BS→Option BS)(SS:Nat→Prop)(w0 w:World)
 (hG:Glo B w)(hB0:B≤B0)(hb0:Frm SS w0 w)(hdw0:w0.heap.size≤dg)(hhd:Rd w hv (strs FS))(hnm:Rd w (.slice (some ⟨g8,o8,none⟩) NM.length c8) (strs NM))(hmp:MapS w mb n f)(hd:Blk w dg 270 (st.vals++ [.slice none 0 0]))(hq:Blk w q 220 (keyCells kind kv))(hkv:Rd w kv (byts key))(hsv:Rd w sv (byts s))(hvb:VBlk w vb)
 (hdB:B0≤dg)(hmB:B0≤mb)(hdm:dg≠mb)(hqd:q≠dg)(hvd:vb≠dg)(hhl: ∀k,hv.ownBlock=some k→k<w.heap.size∧k≠dg)(hnl:g8<w.heap.size∧g8≠dg)(hkl:kv.ownBlock≠some dg)(hsl:sv.ownBlock≠some dg)
 (hFS: ∀f∈FS,f.length≤8000000∧plain f=true)(lF:FS.length≤1000000)(hNM: ∀x∈NM,x.length≤400000∧plain x=true)(lNM:NM.length≤20000)(hF0:FS≠ [])(hN0:NM≠ [])(hsp:plain sf=true)(hsl2:sf.length≤8000000)(hky:key.length≤1000000)(hhf:formOk hfm)(hcT:cT=canT hfm)
 (Hj:Hid (jc=if judgedS hfm key FS NM sf s then 0 else 1))
 {AA AB AD AE AF AG AH AI AJ AK AL AM AN AO AP AQ AR AS AT AU AV AW AX AY AZ Aa Ab Ac Ad Ae Af Ag Ah Ai Aj Ak Al Am An Ao Ap Aq Ar As At Au Av Aw Ax Ay Az A0 A1 A2 A3 A4 A5 A6 A7 A8 A9 BA BB BC BD BE BF BG BH BI BJ BK BL BM BN BO BP BQ BR BT BU BV BW BX BY BZ Ba Bb Bc Bd Be Bf Bg Bh Bi Bj Bk Bl Bm Bn Bo Bp Bq Br Bs Bt Bu Bv Bw Bx By Bz B1 B2 B3 B4 B5 B6 B7 B8 B9 CA CB CC CD CE CG CH CI CJ CK CL CM CN CO CP CQ CR CS CT CU CV CW CX CY CZ Ca Cb Cc Cd Ce Cf Cg Ch Ci Cj Ck Cl Cm Cn Co Cp Cq Cr Cs Ct Cu Cv Cw Cx Cy Cz C0 C1 C2 C3 C4 C5 C6 C7 C8 C9 DA DB DC DD DE DF DG DH DI DJ DK DL DM DN DO DP DQ DR DS DT DU DV DW DX DY DZ Da Db Dc Dd De Df Dg Dh Di Dj Dk Dl Dm Dn Do Dp Dq Dr Ds Dt Du Dv Dw Dx Dy Dz D0 D1 D2 D3 D4 D5 D6 D7 D8 D9 EA EB EC ED EE EG EH EI EJ EK EL EM EN EO EP EQ ER ES ET EU EV EW EX EY EZ Ea Eb Ec Ed Ee Ef Eg Eh Ei Ej Ek El Em En Eo Ep Eq Er Es Et Eu Ev Ew Ex Ey Ez E0 E1 E2 E3 E4 E5 E6 E7 E8 E9 FA FB FC FD FE FF FG FH FI FJ FK FL FM FN FO FP FQ FR FT FU FV FW FX FY FZ Fa Fb Fc Fd Fe Ff Fg Fh Fi Fj Fk Fl Fm Fn Fo Fp Fq Fr Fs Ft Fu Fv Fw Fx Fy Fz F0 F1 F2 F3 F4 F5 F6 F7 F8 F9 GA GB GC GD GE GF GG GH GI GJ GK GL GM GN GO GP GQ GR GS GT GU GV GW GX GY GZ Ga Gb Gc Gd Ge Gf Gg Gh Gi Gj Gk Gl Gm Gn Go Gp Gq Gr Gs Gt Gu Gv Gw Gx Gy Gz G0 G1 G2 G3 G4 G5 G6 G7 G8 G9 HA HB HC HD HE HF HG HH HI HK HL HM HN HO HQ HR HS HT HU HV HW HX HY HZ Ha Hb Hc Hd He Hf Hg Hh Hi Hk Hl Hm Hn Ho Hp Hq Hr Hs Ht Hu Hv Hw Hx Hy Hz H0 H1 H2 H3 H4 H5 H6 H7 H8 H9 IA IB IC ID IE IF IG IH II IJ IK:Value}
 (K:Act→World→Prop)(hK: ∀a w,Code.wp Tryz.prog (tl 43 body90) (bodyPost Tryz.prog Tryz.f90 (VPost w0 SS vb jc)) a w→K a w):
 Code.wp Tryz.prog (hdC (tl 42 body90)) (Exit.then K (bodyPost Tryz.prog Tryz.f90 (VPost w0 SS vb jc))) ⟨(hv::AA::Str sf::AB::AD::AE::AF::AG::AH::AI::AJ::AK:: .pointer (some ⟨vb,0,none⟩)::AL::AM::AN::AO::AP::AQ::AR::AS:: .slice (some ⟨g8,o8,none⟩) NM.length c8::AT::AU::AV::AW::AX::AY::AZ::Aa::Ab::Ac::Ad::Ae::Af::Ag:: .pointer (some ⟨q,0,none⟩)::Ah::Ai::Aj::Ak::Al::Am::An::Ao::Ap::Aq::Ar::As::At::Au:: .iface cT (.pointer (some ⟨ca,0,none⟩))::Av::Aw::Ax::Ay::sv:: .pointer (some ⟨dg,0,none⟩)::Az::A0::A1::A2::A3::A4::A5::A6::A7::A8::A9::BA::BB::BC::BD::BE::BF::BG::BH::BI::BJ::BK::BL::BM::BN::BO::BP::BQ::BR::BT::BU::BV::BW::BX::BY::BZ::Ba::Bb::Bc::Bd::Be::Bf::Bg::Bh::Bi::Bj::Bk::Bl::Bm::Bn::Bo::Bp::Bq::Br::Bs::Bt::Bu::Bv::Bw::Bx::By::Bz::B1::B2::B3::B4::B5::B6::B7::B8::B9::CA::CB::CC::CD::CE::CG::CH::CI::CJ::CK::CL::CM::CN::CO::CP::CQ::CR::CS::CT::CU::CV::CW::CX::CY::CZ::Ca::Cb::Cc::Cd::Ce::Cf::Cg::Ch::Ci::Cj::Ck::Cl::Cm::Cn::Co::Cp::Cq::Cr::Cs::Ct::Cu::Cv::Cw::Cx::Cy::Cz::C0::C1::C2::C3::C4::C5::C6::C7::C8::C9::DA::DB::DC::DD::DE::DF::DG::DH::DI::DJ::DK::DL::DM::DN::DO::DP::DQ::DR::DS::DT::DU::DV::DW::DX::DY::DZ::Da::Db::Dc::Dd::De::Df::Dg::Dh::Di::Dj::Dk::Dl::Dm::Dn::Do::Dp::Dq::Dr::Ds::Dt::Du::Dv::Dw::Dx::Dy::Dz::D0::D1::D2::D3::D4::D5::D6::D7::D8::D9::EA::EB::EC::ED::EE::EG::EH::EI::EJ::EK::EL::EM::EN::EO::EP::EQ::ER::ES::ET::EU::EV::EW::EX::EY::EZ::Ea::Eb::Ec::Ed::Ee::Ef::Eg::Eh::Ei::Ej::Ek::El::Em::En::Eo::Ep::Eq::Er::Es::Et::Eu::Ev::Ew::Ex::Ey::Ez::E0::E1::E2::E3::E4::E5::E6::E7::E8::E9::FA::FB::FC::FD::FE::FF::FG::FH::FI::FJ::FK::FL::FM::FN::FO::FP::FQ::FR::FT::FU::FV::FW::FX::FY::FZ::Fa::Fb::Fc::Fd::Fe::Ff::Fg::Fh::Fi::Fj::Fk::Fl::Fm::Fn::Fo::Fp::Fq::Fr::Fs::Ft::Fu::Fv::Fw::Fx::Fy::Fz::F0::F1::F2::F3::F4::F5::F6::F7::F8::F9::GA::GB::GC::GD::GE::GF::GG::GH::GI::GJ::GK::GL::GM::GN::GO::GP::GQ::GR::GS::GT::GU::GV::GW::GX::GY::GZ::Ga::Gb::Gc::Gd::Ge::Gf::Gg::Gh::Gi::Gj::Gk::Gl::Gm::Gn::Go::Gp::Gq::Gr::Gs::Gt::Gu::Gv::Gw::Gx::Gy::Gz::G0::G1::G2::G3::G4::G5::G6::G7::G8::G9::HA::HB::HC::HD::HE::HF::HG::HH::HI::HK::HL::HM::HN::HO::HQ::HR::HS::HT::HU::HV::HW::HX::HY::HZ::Ha::Hb::Hc::Hd::He::Hf::Hg::Hh::Hi::Hk::Hl::Hm::Hn::Ho::Hp::Hq::Hr::Hs::Ht::Hu::Hv::Hw::Hx::Hy::Hz::H0::H1::H2::H3::H4::H5::H6::H7::H8::H9::IA::IB::IC::ID::IE::IF::IG::IH::II::IJ::IK:: []).toArray,[]⟩ w:=by
 conv=>arg 2;whnf
 obtain⟨y,hy⟩: ∃y,Hid (y=tl 43 body90):=⟨_,rfl⟩
 rw [←hy.out]at hK
 obtain⟨wt,ht1,ht2⟩:=trunc (w:=w) (B:=B0) (by have:=hmp.lt;omega)
 have hB0w:B0≤w.heap.size:=by have:=hmp.lt;omega
 obtain⟨hfn,hhm,hhn,hhe,hhc⟩:=hdr_law hfm hhf
 have hhm:=hhm ⟨ca,0,none⟩
 have hhn:=hhn ⟨ca,0,none⟩
 rw [←hcT]at hhm hhn
 clear hcT
 go_wp2_with fail
 refine(newPicker_any _ FS w hhd (fun k hk=>(hhl k hk).1)).mono ?_
 rintro e3 w42 ⟨rfl,hsz42,hpk42,hb42⟩
 obtain⟨P,HP⟩: ∃x,Hid (x=w42.heap.size):=⟨_,rfl⟩
 obtain⟨pb,Hpb⟩: ∃x,Hid (x=w.heap.size):=⟨_,rfl⟩
 have hgeo:LpGeo wt.heap.size P dg (pb+1) pb mb hv (.slice (some ⟨g8,o8,none⟩) NM.length c8):=by
  have e1:=HP.out;have e2:=Hpb.out;have e3:=hd.lt;have e4:=hmp.lt
  refine⟨by omega,by omega,by omega,by omega,by omega,fun k hk=> ?_,fun k hk=> ?_⟩
  ·have:=hhl k hk;omega
  ·have hk:g8=k:=Option.some.inj hk
   omega
 have hL0:LpSt wt w42 P dg (pb+1) pb st hv FS (.slice (some ⟨g8,o8,none⟩) NM.length c8) NM mb n f hfm 0:=⟨ht2.trans (hb42.mono ht2.size),hnm.below hb42,hmp.below hb42 hmp.lt,⟨0,Nat.le_refl _,by rw [Hpb.out];exact hpk42⟩,⟨none,⟨.slice none 0 0,hd.below hb42 hd.lt,OwnAt.nil _ _ _,rfl,Nat.le_refl _⟩,fun j e=>by cases e⟩,Nat.le_of_eq HP.out⟩
 have hEx:Frm (· =dg) w w42:=Frm.of_new hb42
 have hP1:w.heap.size≤P:=by rw [HP.out];exact hb42.size
 have hpb1:w.heap.size≤pb:=Nat.le_of_eq Hpb.out.symm
 rw [←Hpb.out]
 have lacc: ∀k,k≤NM.length→(accOf hfm FS NM k).length≤20000*32000010:=fun k hk=>by
  exact Nat.le_trans (accOf_len hfm FS NM 32000010 (fun f hf=>by have:=fieldOf_len hfm f;have:=(hFS f hf).1;omega) k hk) (Nat.mul_le_mul_right _ (Nat.le_trans hk lNM))
 clear hsz42 hpk42 hb42 ht2
 go_wp2_with fail
 rw [hy.out]
 clear hy
 conv=>arg 2;whnf
 go_wp2_with fail
 go_loopw [447] (fun v447 wy=> ∃k:Nat,k≤NM.length∧v447= .int .i64 k∧LpSt wt wy P dg (pb+1) pb st hv FS (.slice (some ⟨g8,o8,none⟩) NM.length c8) NM mb n f hfm k∧Frm (· =dg) w wy) (fun v447 _=>NM.length-(intOf v447).toNat)
 case atStart=>exact⟨0,Nat.zero_le _,rfl,hL0,hEx⟩
 case round=>
  obtain⟨k,hkN,rfl,hL,hX⟩:=hrel
  clear hL0 hEx
  by_cases hlt:k<NM.length
  ·have hk0:(0:Int)≤(k:Int):=by omega
   have hk1:(k:Int)<(NM.length:Int):=by omega
   have hck:wr.cell? ⟨g8,o8+k,none⟩=some (Str NM[k]):=hL.nms.get k _ (by simp [strs,hlt])
   obtain⟨np,hnp,hpk⟩:=hL.pk
   have hmk:=hNM NM[k] (List.getElem_mem hlt)
   go_wp2_with fail
   refine(pick_any (pb+1) pb np _ FS (NM.take k) NM[k] wr hpk (by omega) (by omega) (fun f hf=>⟨by have:=(hFS f hf).1;omega,(hFS f hf).2⟩) (by omega) hmk.2).mono ?_
   rintro e3 w50 ⟨rfl,hpk50,hF50⟩
   have hX50:Frm (· =dg) w w50:=hX.after hF50 (fun i hi e=>by omega)
   have hstp:=accOf_step hfm FS NM k hlt
   have hpm:=pickAt_mem FS (lower NM[k]) (countIn (lower NM[k]) (NM.take k))
   obtain⟨kv1,Hkv⟩: ∃x,Hid (x=pickAt FS (lower NM[k]) (countIn (lower NM[k]) (NM.take k))):=⟨_,Lib.hid rfl⟩
   rw [←Hkv.out]at hstp hpm⊢
   have Hstp:=Lib.hid hstp
   clear hstp hpk hck hX
   by_cases hpn:kv1= []
   ·have hL2:=hL.none hgeo hlt hpk50 (by omega) hF50 (by rw [←Hkv.out];exact hpn)
    have i1:kv1.isEmpty=true:=by rw [hpn];rfl
    clear hpn hpm hpk50 hF50
    go_wp2_with fail
    go_roundw
    case rel=>exact⟨k+1,hlt,by go_num,hL2,hX50⟩
    case measure=>simp [intOf];omega
   ·have hkF:=hpm.resolve_left hpn
    have i1:kv1.isEmpty=false:=by rw [List.isEmpty_eq_false_iff];exact hpn
    have lk:=(hFS kv1 hkF).1
    have pk:=(hFS kv1 hkF).2
    have Hst2:Hid (accOf hfm FS NM (k+1)=accOf hfm FS NM k++fieldOf hfm kv1):=by show _=_;rw [Hstp.out,if_neg hpn]
    clear hpn hpm Hstp
    go_wp2_with fail
    refine(hhc ⟨ca,0,none⟩ kv1 w50 pk (by omega)).mono ?_
    rintro e3 w51 ⟨rfl,hb51⟩
    obtain⟨od,hd51,hod,hnext⟩:=hL.some hgeo hlt hpk50 (by omega) hF50 hb51
    have hX51:Frm (· =dg) w w51:=hX50.trans (Frm.of_new hb51)
    have lfo:=fieldOf_len hfm kv1
    obtain⟨fo,Hfo⟩: ∃x,Hid (x=fieldOf hfm kv1):=⟨_,Lib.hid rfl⟩
    rw [←Hfo.out]at lfo Hst2⊢
    clear hpk50 hF50 hb51 hX50
    have lak:=lacc k hkN
    obtain⟨cc,wcv,hcv,hwr⟩:=snk_text (dig_law st dg) dg od (accOf hfm FS NM k) fo w51 hd51 (by omega) (.inl rfl)
    go_wp2_with fail
    refine hwr.mono ?_
    rintro e3 w52 ⟨rfl,⟨od2,hd52,hod2⟩,hF52⟩
    have hL2:=hnext w52 od2 fo hd52 hod2 hF52 Hst2.out
    have hX52:Frm (· =dg) w w52:=hX51.after hF52 (fun i hi e=>by
     rcases e with e|e
     ·exact e
     ·have:=hod i e.symm;omega)
    clear hnext hd52 hod2 hF52 hd51 hod hX51 hcv hwr
    go_wp2_with fail
    go_roundw
    case rel=>exact⟨k+1,hlt,by go_num,hL2,hX52⟩
    case measure=>simp [intOf];omega
  ·obtain rfl:k=NM.length:=by omega
   obtain⟨od,hdg,hod⟩:=hL.dig
   have hacc:=accOf_all hfm FS NM
   have lac:=lacc NM.length (Nat.le_refl _)
   obtain⟨AC,HAC⟩: ∃x,Hid (x=accOf hfm FS NM NM.length):=⟨_,Lib.hid rfl⟩
   rw [←HAC.out]at hdg lac hacc
   have Hacc:=Lib.hid hacc
   have hPw:=hL.hP
   clear hacc lacc hL
   go_wp2_with fail
   refine(removeSignature_any sf wr (by omega) hsp).mono ?_
   rintro e3 w61 ⟨rfl,hb61⟩
   have hX61:Frm (· =dg) w w61:=hX.trans (Frm.of_new hb61)
   have hd61:=(dig_law st dg).frm (fun _=>False) _ _ _ _ _ hdg (Frm.of_new hb61) id (fun _ _=>id)
   have lE:=emptied_len sf.length sf
   have pE:=plain_E hsp
   obtain⟨EF,HEF⟩: ∃x,Hid (x=E sf):=⟨_,Lib.hid rfl⟩
   have lE:(E sf).length≤sf.length:=lE
   rw [←HEF.out]at lE pE⊢
   clear hX hdg hb61
   go_wp2_with fail
   refine(hhc ⟨ca,0,none⟩ EF w61 pE (by omega)).mono ?_
   rintro e3 w62 ⟨rfl,hb62⟩
   have hX62:Frm (· =dg) w w62:=hX61.trans (Frm.of_new hb62)
   have hd62:=(dig_law st dg).frm (fun _=>False) _ _ _ _ _ hd61 (Frm.of_new hb62) id (fun _ _=>id)
   have lCF:=fieldOf_len hfm EF
   obtain⟨CF,HCF⟩: ∃x,Hid (x=fieldOf hfm EF):=⟨_,Lib.hid rfl⟩
   rw [←HCF.out]at lCF⊢
   clear hX61 hd61 hb62
   go_wp2_with fail
   refine(zzTrimRight_any CF w62 (by omega)).mono ?_
   rintro e3 w63 ⟨rfl,hb63⟩
   have hX63:Frm (· =dg) w w63:=hX62.trans (Frm.of_new hb63)
   have hd63:=(dig_law st dg).frm (fun _=>False) _ _ _ _ _ hd62 (Frm.of_new hb63) id (fun _ _=>id)
   have lTF:=without_len CF
   obtain⟨TF,HTF⟩: ∃x,Hid (x=without CF):=⟨_,Lib.hid rfl⟩
   rw [←HTF.out]at lTF⊢
   clear hX62 hd62 hb63
   obtain⟨cc,wcv,hcv,hwr⟩:=snk_text (dig_law st dg) dg od AC TF w63 hd63 (by omega) (.inl rfl)
   go_wp2_with fail
   refine hwr.mono ?_
   rintro e3 w64 ⟨rfl,⟨od2,⟨bv2,hk67,ho67,_,_⟩,hod2⟩,hF67⟩
   have hX64:Frm (· =dg) w w64:=hX63.after hF67 (fun i hi e=>by
    rcases e with e|e
    ·exact e
    ·have:=hod i e.symm;omega)
   have hk64:=(hG.below (hX64.below (fun k _ e=>by rw [e];exact Nat.le_trans hB0 hdB) hG.le)).k
   have h6:=hG.six
   clear hX63 hd63 hF67 hcv hwr hod2
   go_wp2_with fail
   refine(sum_one dg st bv2 (AC++TF) w64 hk67 ho67.rd (own_blk ho67 hk67 (by decide)) (by omega) hk64 (by rw [List.length_append];omega)).mono ?_
   rintro e3 w65 ⟨v65,rfl,ho68,_,hg68⟩
   have hX65:Frm (· =dg) w w65:=hX64.after (Frm.of_grown hg68) (fun i _ e=>Option.some.inj e)
   have hb65:Frm SS w0 w65:=hb0.after hX65 (fun i hi e=>by omega)
   have hk65:=(hG.below (hX65.below (fun k _ e=>by rw [e];exact Nat.le_trans hB0 hdB) hG.le)).k
   have hkv5:=hkv.frm hX65 (fun k hk e=>hkl (by rw [hk,e]))
   have hsv5:=hsv.frm hX65 (fun k hk e=>hsl (by rw [hk,e]))
   have hq5:=hq.frm hX65 hqd
   have hvb5:=hvb.frm hX65 hvd
   have q0:w65.cell? ⟨q,0,none⟩=some (.iface 94 (Giv kind kv)):=hq5.cell 0 _ rfl
   clear hX64 hk64 hk67 ho67 hg68
   have mm:=m94_Verify kind kv
   have nn94:=n94_Verify kind kv
   have e240: ∀(args:Array Value) (w:World),(callFunc 240 args).run Tryz.prog w= .ok (.enter 240 args) w:=fun args w=>by kernel_rfl
   have mE:=m242_Error
   have nE:=n242_Error
   have e269: ∀(args:Array Value) (w:World),(callFunc 269 args).run Tryz.prog w= .ok (.enter 269 args) w:=fun args w=>by kernel_rfl
   have hJ:judgedS hfm key FS NM sf s=(sha (key++sha (AC++TF))==s):=by
    unfold judgedS
    rw [←Hacc.out,HTF.out,HCF.out,HEF.out]
   have HJ:=Lib.hid hJ
   clear hJ
   go_wp2_with fail
   refine(givenVerify_any kind key (sha (AC++TF)) s kv v65 sv w65 hkv5 ho68.rd hsv5 hk65 (by rw [sha_len];omega)).mono ?_
   rintro e3 w66 ⟨⟨hs,rfl⟩|⟨hs,a,rfl,hca⟩,hb66⟩
   ·have hb66':=hb65.trans (Frm.of_new hb66)
    have hv66:=hvb5.frm (Frm.of_new (S:=fun _=>False) hb66) id
    have hj0:ErrK .nilIface jc:= .inl ⟨by rw [Hj.out,HJ.out,hs];simp,rfl⟩
    clear hs
    go_wp2_with fail
    go_ret2
    exact⟨_,rfl,hj0,hv66,hb66'⟩
   ·have hb66':=hb65.trans (Frm.of_new hb66)
    have hv66:=hvb5.frm (Frm.of_new (S:=fun _=>False) hb66) id
    have hj0: ∀x:BS,ErrK (.iface 223 (Str x)) jc:=fun x=> .inr (.inl ⟨by rw [Hj.out,HJ.out];simp [hs],x,rfl⟩)
    clear hs
    go_wp2_with fail
    refine(errErr_any a notSig w66 hca).mono ?_
    rintro e3 w67 ⟨rfl,rfl⟩
    have lns:notSig.length≤100:=by decide
    go_wp2_with fail
    go_ret2
    exact⟨_,rfl,hj0 _,hv66,hb66'⟩
structure SLk (T:List Tag)(hfm bfm x s:BS):Prop where
 c:look [99] T=some (hfm++47::bfm)
 l:look [108] T=none
 bh:look [98,104] T=some (enc64 x)
 b:look [98] T=some (enc64 s)
structure SRun (w:World)(mb:Nat)(hfm bfm x s:BS):Prop where
 c:(Instr.lookup 179 (.map (some mb)) (.string ⟨#[99]⟩) false).run Tryz.prog w= .ok (Str (hfm++47::bfm)) w
 l:(Instr.lookup 179 (.map (some mb)) (.string ⟨#[108]⟩) true).run Tryz.prog w= .ok (.tuple #[.string ⟨#[]⟩, .bool false]) w
 bh:(Instr.lookup 179 (.map (some mb)) (.string ⟨#[98,104]⟩) false).run Tryz.prog w= .ok (Str (enc64 x)) w
 b:(Instr.lookup 179 (.map (some mb)) (.string ⟨#[98]⟩) false).run Tryz.prog w= .ok (Str (enc64 s)) w
theorem SRun.of {w:World} {mb n:Nat} {T:List Tag} {hfm bfm x s:BS} (h:SLk T hfm bfm x s)(hm:MapS w mb n (fun k=>look k T)):SRun w mb hfm bfm x s where
 c:=(look_run hm [99] (by decide) _ h.c).2
 l:=(look_run hm [108] (by decide) _ h.l).1
 bh:=(look_run hm [98,104] (by decide) _ h.bh).2
 b:=(look_run hm [98] (by decide) _ h.b).2
theorem forms_cut {hfm bfm:BS} (h:formOk hfm)(k:formOk bfm):cutAt 47 (strip (hfm++47::bfm))=(hfm,bfm,true)∧plain (hfm++47::bfm)=true∧(hfm++47::bfm).length≤100∧hfm≠ []:=by
 rcases h with rfl|rfl<;>rcases k with rfl|rfl<;>decide
theorem ver3 (B B0 vb rg rh bb q mb n g8 o8 c8 jc i4 r4 n4:Nat)(hv kv rd:Value)(FS NM:List BS)(sf key x s kind hfm bfm body m cs:BS)(T:List Tag)(SS:Nat→Prop)(w0 w:World)
 (hG:Glo B w)(hB0:B≤B0)(hb0:Frm SS w0 w)(hSS:SS rg∧SS rh)(hhd:Rd w hv (strs FS))(hnm:Rd w (.slice (some ⟨g8,o8,none⟩) NM.length c8) (strs NM))(hmp:MapS w mb n (fun k=>look k T))(hT:SLk T hfm bfm x s)(hq:Blk w q 220 (keyCells kind kv))(hkv:Rd w kv (byts key))(hvb:VBlk w vb)
 (hbio:Bio w rg bb rh rd m i4 r4 n4 cs)(hrest:bioRest m i4 r4 n4 cs=body)(hrB:B0≤rg∧B0≤rh)(hml:m.length≤10000000)(hbl:body.length≤10000000)
 (hmB:B0≤mb)(hne: ∀k,k=rg∨k=rh→k≠vb∧k≠q∧k≠mb∧k≠g8∧kv.ownBlock≠some k∧hv.ownBlock≠some k)(hhl: ∀k,hv.ownBlock=some k→k<w.heap.size)(hnl:g8<w.heap.size)(hkl: ∀k,kv.ownBlock=some k→k<w.heap.size)
 (hFS: ∀f∈FS,f.length≤8000000∧plain f=true)(lF:FS.length≤1000000)(hNM: ∀x∈NM,x.length≤400000∧plain x=true)(lNM:NM.length≤20000)(hF0:FS≠ [])(hN0:NM≠ [])(hsp:plain sf=true)(hsl2:sf.length≤8000000)(hky:key.length≤1000000)(hhf:formOk hfm)(hbf:formOk bfm)(hxl:x.length≤100)(hsl:s.length≤100)
 (Hj:Hid (jc=if(sha (bodyOf bfm body)==x)&&judgedS hfm key FS NM sf s then 0 else 1))
 {AA AB AC AD AE AF AG AH AI AJ AK AL AM AN AO AP AQ AR AS AT AU AV AW AX AY AZ Aa Ab Ac Ad Ae Af Ag Ah Ai Aj Ak Al Am An Ao Ap Aq Ar As Au Av Aw Ax Ay Az A0 A1 A2 A3 A4 A5 A6 A7 A8 A9 BA BB BC BD BE BF BG BH BI BJ BK BL BM BN BO BP BQ BR BT BU BV BW BX BY BZ Ba Bb Bc Bd Be Bf Bg Bh Bi Bj Bk Bl Bm Bn Bo Bp Bq Br Bs Bt Bu Bv Bw Bx By Bz B1 B2 B3 B4 B5 B6 B7 B8 B9 CA CB CC CD CE CF CG CH CI CJ CK CL CM CN CO CP CQ CR CS CT CU CV CW CX CY CZ Ca Cb Cc Cd Ce Cf Cg Ch Ci Cj Ck Cl Cm Cn Co Cp Cq Cr Cs Ct Cu Cv Cw Cx Cy Cz C0 C1 C2 C3 C4 C5 C6 C7 C8 C9 DA DB DC DD DE DF DG DH DI DJ DK DL DM DN DO DP DQ DR DS DT DU DV DW DX DY DZ Da Db Dc Dd De Df Dg Dh Di Dj Dk Dl Dm Dn Do Dp Dq Dr Ds Dt Du Dv Dw Dx Dy Dz D0 D1 D2 D3 D4 D5 D6 D7 D8 D9 EA EB EC ED EE EF EG EH EI EJ EK EL EM EN EO EP EQ ER ES ET EU EV EW EX EY EZ Ea Eb Ec Ed Ee Ef Eg Eh Ei Ej Ek El Em En Eo Ep Eq Er Es Et Eu Ev Ew Ex Ey Ez E0 E1 E2 E3 E4 E5 E6 E7 E8 E9 FA FB FC FD FE FF FG FH FI FJ FK FL FM FN FO FP FQ FR FT FU FV FW FX FY FZ Fa Fb Fd Fe Ff Fg Fh Fi Fj Fk Fl Fm Fn Fo Fp Fq Fr Fs Ft Fu Fv Fw Fx Fy Fz F0 F1 F2 F3 F4 F5 F6 F7 F8 F9 GA GB GC GD GE GF GG GH GI GJ GK GL GM GN GO GP GQ GR GS GT GU GV GW GX GY GZ Ga Gb Gc Gd Ge Gf Gg Gh Gi Gj Gk Gl Gm Gn Go Gp Gq Gr Gs Gt Gu Gv Gw Gx Gy Gz G0 G1 G2 G3 G4 G5 G6 G7 G8 G9 HA HB HC HD HE HF HG HH HI HJ HK HL HM HN HO HP HQ HR HS HT HU HV HW HX HY HZ Ha Hb Hc Hd He Hf Hg Hh Hi Hk Hl Hm Hn Ho Hp Hq Hr Hs Ht Hu Hv Hw Hx Hy Hz H0 H1 H2 H3 H4 H5 H6 H7 H8 H9 IA IB IC ID IE IF IG IH II:Value}
 (K:Act→World→Prop)(hK: ∀a w,Code.wp Tryz.prog (tl 27 body90) (bodyPost Tryz.prog Tryz.f90 (VPost w0 SS vb jc)) a w→K a w):
 Code.wp Tryz.prog (hdC (tl 26 body90)) (Exit.then K (bodyPost Tryz.prog Tryz.f90 (VPost w0 SS vb jc))) ⟨(hv:: .iface 156 (.pointer (some ⟨rg,0,none⟩))::Str sf::AA::AB::AC::AD::AE::AF::AG::AH::AI:: .pointer (some ⟨vb,0,none⟩):: .map (some mb)::AJ::AK::AL::AM::AN::AO::AP:: .slice (some ⟨g8,o8,none⟩) NM.length c8::AQ::AR::AS::AT::AU::AV::AW::AX::AY::AZ::Aa::Ab::Ac::Ad:: .pointer (some ⟨q,0,none⟩)::Ae::Af::Ag::Ah::Ai::Aj::Ak::Al::Am::An::Ao::Ap::Aq::Ar::As::Au::Av::Aw::Ax::Ay::Az::A0::A1::A2::A3::A4::A5::A6::A7::A8::A9::BA::BB::BC::BD::BE::BF::BG::BH::BI::BJ::BK::BL::BM::BN::BO::BP::BQ::BR::BT::BU::BV::BW::BX::BY::BZ::Ba::Bb::Bc::Bd::Be::Bf::Bg::Bh::Bi::Bj::Bk::Bl::Bm::Bn::Bo::Bp::Bq::Br::Bs::Bt::Bu::Bv::Bw::Bx::By::Bz::B1::B2::B3::B4::B5::B6::B7::B8::B9::CA::CB::CC::CD::CE::CF::CG::CH::CI::CJ::CK::CL::CM::CN::CO::CP::CQ::CR::CS::CT::CU::CV::CW::CX::CY::CZ::Ca::Cb::Cc::Cd::Ce::Cf::Cg::Ch::Ci::Cj::Ck::Cl::Cm::Cn::Co::Cp::Cq::Cr::Cs::Ct::Cu::Cv::Cw::Cx::Cy::Cz::C0::C1::C2::C3::C4::C5::C6::C7::C8::C9::DA::DB::DC::DD::DE::DF::DG::DH::DI::DJ::DK::DL::DM::DN::DO::DP::DQ::DR::DS::DT::DU::DV::DW::DX::DY::DZ::Da::Db::Dc::Dd::De::Df::Dg::Dh::Di::Dj::Dk::Dl::Dm::Dn::Do::Dp::Dq::Dr::Ds::Dt::Du::Dv::Dw::Dx::Dy::Dz::D0::D1::D2::D3::D4::D5::D6::D7::D8::D9::EA::EB::EC::ED::EE::EF::EG::EH::EI::EJ::EK::EL::EM::EN::EO::EP::EQ::ER::ES::ET::EU::EV::EW::EX::EY::EZ::Ea::Eb::Ec::Ed::Ee::Ef::Eg::Eh::Ei::Ej::Ek::El::Em::En::Eo::Ep::Eq::Er::Es::Et::Eu::Ev::Ew::Ex::Ey::Ez::E0::E1::E2::E3::E4::E5::E6::E7::E8::E9::FA::FB::FC::FD::FE::FF::FG::FH::FI::FJ::FK::FL::FM::FN::FO::FP::FQ::FR::FT::FU::FV::FW::FX::FY::FZ::Fa::Fb::Fd::Fe::Ff::Fg::Fh::Fi::Fj::Fk::Fl::Fm::Fn::Fo::Fp::Fq::Fr::Fs::Ft::Fu::Fv::Fw::Fx::Fy::Fz::F0::F1::F2::F3::F4::F5::F6::F7::F8::F9::GA::GB::GC::GD::GE::GF::GG::GH::GI::GJ::GK::GL::GM::GN::GO::GP::GQ::GR::GS::GT::GU::GV::GW::GX::GY::GZ::Ga::Gb::Gc::Gd::Ge::Gf::Gg::Gh::Gi::Gj::Gk::Gl::Gm::Gn::Go::Gp::Gq::Gr::Gs::Gt::Gu::Gv::Gw::Gx::Gy::Gz::G0::G1::G2::G3::G4::G5::G6::G7::G8::G9::HA::HB::HC::HD::HE::HF::HG::HH::HI::HJ::HK::HL::HM::HN::HO::HP::HQ::HR::HS::HT::HU::HV::HW::HX::HY::HZ::Ha::Hb::Hc::Hd::He::Hf::Hg::Hh::Hi::Hk::Hl::Hm::Hn::Ho::Hp::Hq::Hr::Hs::Ht::Hu::Hv::Hw::Hx::Hy::Hz::H0::H1::H2::H3::H4::H5::H6::H7::H8::H9::IA::IB::IC::ID::IE::IF::IG::IH::II:: []).toArray,[]⟩ w:=by
 conv=>arg 2;whnf
 obtain⟨y,hy⟩: ∃y,Hid (y=tl 27 body90):=⟨_,rfl⟩
 rw [←hy.out]at hK
 have sr:=SRun.of hT hmp
 have l1:=sr.c
 obtain⟨fc,fp,fl,fn⟩:=forms_cut hhf hbf
 have Fc:=Lib.hid fc
 clear fc sr
 go_wp2_with fail
 refine(parseCanonicalization_two (hfm++47::bfm) hfm bfm w (by omega) fp Fc.out fn).mono ?_
 rintro e w1 ⟨rfl,hb1⟩
 have hb1':=hb1
 clear l1
 go_wp2_with fail
 rw [hy.out]
 clear hy
 conv=>arg 2;whnf
 go_wp2_with fail
 refine(cns_any hfm w1 hhf).mono ?_
 rintro e w2 ⟨rfl,hb2⟩
 have hb2':=hb1'.trans (hb2.mono hb1'.size)
 obtain⟨ca,Hca⟩: ∃z,Hid (z=w1.heap.size):=⟨_,Lib.hid rfl⟩
 rw [←Hca.out]
 obtain⟨cT,HcT⟩: ∃z,Hid (z=canT hfm):=⟨_,Lib.hid rfl⟩
 rw [←HcT.out]
 go_wp2_with fail
 refine(cns_any bfm w2 hbf).mono ?_
 rintro e w3 ⟨rfl,hb3⟩
 have hb3':=hb2'.trans (hb3.mono hb2'.size)
 obtain⟨cb,Hcb⟩: ∃z,Hid (z=w2.heap.size):=⟨_,Lib.hid rfl⟩
 rw [←Hcb.out]
 obtain⟨cU,HcU⟩: ∃z,Hid (z=canT bfm):=⟨_,Lib.hid rfl⟩
 rw [←HcU.out]
 have hm3:=hmp.below hb3' hmp.lt
 have sr:=SRun.of hT hm3
 have l2:=sr.l
 have l3:=sr.bh
 have lx:(enc64 x).length≤4294967296:=by rw [enc_len];omega
 have ls:(enc64 s).length≤4294967296:=by rw [enc_len];omega
 have px:=plain_enc x
 have ps:=plain_enc s
 have sx:=strip_dry (dry_enc x)
 have ss:=strip_dry (dry_enc s)
 have Sx:=Lib.hid sx
 have Ss:=Lib.hid ss
 clear sr sx ss hb1 hb2 hb3
 obtain⟨ex,Hex⟩: ∃z,Hid (z=enc64 x):=⟨_,Lib.hid rfl⟩
 rw [←Hex.out]at lx px l3 Sx
 go_wp2_with fail
 refine(decodeBase64_enc ex x w3 lx px (by rw [Sx.out,Hex.out])).mono ?_
 rintro e w4 ⟨bhv,rfl,hobh,hb4⟩
 have hb4':=hb3'.trans (hb4.mono hb3'.size)
 have hm4:=hmp.below hb4' hmp.lt
 have l4:=(SRun.of hT hm4).b
 obtain⟨es,Hes⟩: ∃z,Hid (z=enc64 s):=⟨_,Lib.hid rfl⟩
 rw [←Hes.out]at ls ps l4 Ss
 clear l2 l3 hm3
 go_wp2_with fail
 refine(decodeBase64_enc es s w4 ls ps (by rw [Ss.out,Hes.out])).mono ?_
 rintro e w5 ⟨sv,rfl,hosv,hb5⟩
 have hb5':=hb4'.trans (hb5.mono hb4'.size)
 clear l4 hm4
 go_wp2_with fail
 refine(new_any w5).mono ?_
 rintro e w6 ⟨rfl,hd6,hb6⟩
 have hb6':=hb5'.trans (hb6.mono hb5'.size)
 obtain⟨dg,Hdg⟩: ∃z,Hid (z=w5.heap.size):=⟨_,Lib.hid rfl⟩
 rw [←Hdg.out]at hd6⊢
 have hdw:w.heap.size≤dg:=by rw [Hdg.out];exact hb5'.size
 have hsk:DigSk ⟨0,0,0,0,0,0,0,0⟩ dg w6 dg none []:=⟨.slice none 0 0,hd6,OwnAt.nil _ _ _,rfl,Nat.le_refl _⟩
 obtain⟨nfn,ct,wfn,cfn,At,hcm,hcn,hce,L,hnew⟩:=can_new (dig_law ⟨0,0,0,0,0,0,0,0⟩ dg) dg dg bfm hbf (Nat.le_refl _)
 have hnw:=hnew ⟨cb,0,none⟩ w6 none (fun k e=>by simp at e) hsk
 have hcm:=hcm ⟨cb,0,none⟩
 have hcn:=hcn ⟨cb,0,none⟩
 rw [←HcU.out]at hcm hcn
 clear hnew hsk hd6
 go_wp2_with fail
 refine hnw.mono ?_
 rintro e w7 ⟨rfl,hA7,hb7⟩
 have hb7':=hb6'.trans (hb7.mono hb6'.size)
 have hb47:Below dg w5 w7:=(hb6.mono (Nat.le_of_eq Hdg.out)).trans (hb7.mono (by rw [Hdg.out];exact hb6.size))
 have hb57:Below w4.heap.size w4 w7:=hb5.trans (hb47.mono (by rw [Hdg.out];exact hb5.size))
 obtain⟨cc,hcc⟩: ∃cc,Hid (cc=w6.heap.size):=⟨_,Lib.hid rfl⟩
 rw [←hcc.out]at hA7⊢
 have hlt4:=hbio.lt
 have hbio7:=hbio.below hb7' hlt4.1 hlt4.2.1 hlt4.2.2
 have hw4:=hb4'.size
 have hw5:=hb5.size
 have hw3:=hb3'.size
 have hdge:=Hdg.out
 have hgb: ∀k,bhv.ownBlock=some k→k<dg∧k≠rg∧k≠rh:=fun k hk=>by have:=hobh.lt k hk;omega
 have hgs: ∀k,sv.ownBlock=some k→k<dg∧k≠rg∧k≠rh:=fun k hk=>by have:=hosv.lt k hk;omega
 have hbh7:Rd w7 bhv (byts x):=hobh.rd.below hb57
 have hsv7:Rd w7 sv (byts s):=hosv.rd.below (hb47.mono (Nat.le_of_eq Hdg.out.symm))
 have hX7:Frm (fun k=>k=rg∨k=rh) w w7:=Frm.of_new hb7'
 have hlrd:rg<dg∧bb<dg∧rh<dg:=by omega
 have Hdge:=Lib.hid hdge
 clear hdge hcm hcn hce hnw hobh hosv hb1' hb2' hb3' hb4' hb5' hb6' hb4 hb5 hb6 hb7 hb47 hb57
 go_wp2_with fail
 refine(ioCopy_can L rg bb rh rd m i4 r4 n4 cs cc [] w7 hbio7 hA7 hlrd.1 hlrd.2.1 hlrd.2.2 (by simp;omega)).mono ?_
 rintro e w8 ⟨⟨nn,rfl⟩,hA8,hF8⟩
 rw [hrest,List.nil_append]at hA8
 have hX8:Frm (fun k=>k=rg∨k=rh) w w8:=hX7.after hF8 (fun i hi e=>by
  rcases e with e|e|e
  ·exact .inl e
  ·exact .inr e
  ·omega)
 have hY8:Frm (fun k=>k=rg∨k=rh∨dg≤k) w7 w8:=hF8
 have hmc:=L.mc ⟨cc,0,none⟩
 have hnc:=L.nc ⟨cc,0,none⟩
 have hec:=L.ec
 have hcl:=L.close w8 cc body hA8 (by omega)
 clear hbio7 hF8 hA7 hX7
 go_wp2_with fail
 refine hcl.mono ?_
 rintro e w9 ⟨rfl,⟨o9,⟨bv9,hd9,ho9,_,_⟩,_⟩,hb9⟩
 have hX9:Frm (fun k=>k=rg∨k=rh) w w9:=hX8.after (Frm.of_below hb9) (fun i hi e=>by omega)
 have hY9:Frm (fun k=>k=rg∨k=rh∨dg≤k) w7 w9:=hY8.after (Frm.of_below hb9) (fun i hi e=> .inr (.inr e))
 have hne9:bv9.ownBlock≠some dg:=own_blk ho9 hd9 (by decide)
 have hBrg:B≤rg∧B≤rh:=by omega
 have hG9:Glo B w9:=hG.below (hX9.below (fun k _ e=>by rcases e with e|e<;>omega) hG.le)
 have hblen:=body_len bfm body
 have h6:=hG.six
 have hBl:=hG.le
 clear hmc hnc hec hcl hA8 hX8 hY8 hb9
 go_wp2_with fail
 refine(sum_one dg _ bv9 _ w9 hd9 ho9.rd hne9 (by omega) hG9.k (by omega)).mono ?_
 rintro e w10 ⟨bh,rfl,hobh,⟨st,hd10⟩,hg10⟩
 have hX10:Frm (fun k=>k=rg∨k=rh) w w10:=hX9.after (Frm.of_grown hg10) (fun i hi e=>by have:=Option.some.inj e;omega)
 have hY10:Frm (fun k=>k=rg∨k=rh∨dg≤k) w7 w10:=hY9.after (Frm.of_grown hg10) (fun i hi e=>by have:=Option.some.inj e;omega)
 have hbh10:Rd w10 bhv (byts x):=hbh7.frm hY10 (fun k hk e=>by have:=hgb k hk;omega)
 have hsv10:Rd w10 sv (byts s):=hsv7.frm hY10 (fun k hk e=>by have:=hgs k hk;omega)
 have hv10:VBlk w10 vb:=hvb.frm hX10 (fun e=>(hne vb e).1 rfl)
 have hb10:Frm SS w0 w10:=hb0.after hX10 (fun i hi e=>by rcases e with rfl|rfl;exact hSS.1;exact hSS.2)
 have hw00:=hb0.size
 have hq10:Blk w10 q 220 (keyCells kind kv):=hq.frm hX10 (fun e=>(hne q e).2.1 rfl)
 have hkv10:Rd w10 kv (byts key):=hkv.frm hX10 (fun k hk e=>(hne k e).2.2.2.2.1 hk)
 have hhd10:Rd w10 hv (strs FS):=hhd.frm hX10 (fun k hk e=>(hne k e).2.2.2.2.2 hk)
 have hnm10:Rd w10 (.slice (some ⟨g8,o8,none⟩) NM.length c8) (strs NM):=hnm.frm hX10 (fun k hk e=>by have hk:g8=k:=Option.some.inj hk;subst hk;exact(hne g8 e).2.2.2.1 rfl)
 have hmp10:MapS w10 mb n (fun k=>look k T):=hmp.frm hX10 (fun e=>(hne mb e).2.2.1 rfl)
 have hrbh:=hobh.rd
 have hw10:=hX10.size
 have hvl:=hvb.lt
 have hql:=hq.lt
 have hml2:=hmp.lt
 have hG10:Glo B w10:=hG.below (hX10.below (fun k _ e=>by rcases e with e|e<;>omega) hG.le)
 obtain⟨SB,HSB⟩: ∃z,Hid (z=sha (bodyOf bfm body)):=⟨_,Lib.hid rfl⟩
 rw [←HSB.out]at hrbh Hj
 clear hX9 hY9 hd9 ho9 hne9 hG9 hg10 hobh hbh7 hsv7 hX10 hY10
 go_wp2_with fail
 refine(bytesEqual_any SB x bh bhv w10 hrbh hbh10).mono ?_
 rintro e w11 ⟨rfl,rfl⟩
 by_cases hxe:SB=x
 ·have hxb:(SB==x)=true:=by simpa using hxe
  have Hj4:Hid (jc=if judgedS hfm key FS NM sf s then 0 else 1):=by show _=_;rw [Hj.out,hxb,Bool.true_and]
  clear hxe Hj hrbh hbh10
  go_wp2_with fail
  refine(digReset_any dg st bv9 w11 hd10).mono ?_
  rintro e w12 ⟨rfl,hd12,hF12⟩
  have hb12:Frm SS w0 w12:=hb10.after hF12 (fun i hi e=>by omega)
  have hG12:Glo B w12:=hG10.below (hF12.below (fun k _ e=>by omega) hG10.le)
  have hhl': ∀k,hv.ownBlock=some k→k<w12.heap.size∧k≠dg:=fun k hk=>by have:=hhl k hk;have:=hF12.size;omega
  have hnl':g8<w12.heap.size∧g8≠dg:=by have:=hF12.size;omega
  have hkl':kv.ownBlock≠some dg:=fun e=>by have:=hkl dg e;omega
  have hsl':sv.ownBlock≠some dg:=fun e=>by have:=(hgs dg e).1;omega
  have hhd12:=hhd10.frm hF12 (fun k hk e=>(hhl' k hk).2 e)
  have hnm12:=hnm10.frm hF12 (fun k hk e=>by have hk:g8=k:=Option.some.inj hk;omega)
  have hmp12:=hmp10.frm hF12 (fun e=>by omega)
  have hq12:=hq10.frm hF12 (fun e=>by omega)
  have hkv12:=hkv10.frm hF12 (fun k hk e=>hkl' (by rw [hk,e]))
  have hsv12:=hsv10.frm hF12 (fun k hk e=>hsl' (by rw [hk,e]))
  have hv12:=hv10.frm hF12 (fun e=>by omega)
  go_upto_region 119 with fail
  exact ver4 B B0 vb dg q ca mb n g8 o8 c8 cT jc hv kv sv FS NM sf key s kind hfm st _ SS w0 w12 hG12 hB0 hb12 (by omega) hhd12 hnm12 hmp12 hd12 hq12 hkv12 hsv12 hv12 (by omega) hmB (by omega) (by omega) (by omega) hhl' hnl' hkl' hsl' hFS lF hNM lNM hF0 hN0 hsp hsl2 hky hhf HcT.out Hj4 _ (by assumption)
 ·have hxb:(SB==x)=false:=by simpa using hxe
  have hj1: ∀z:BS,ErrK (.iface 223 (Str z)) jc:=fun z=> .inr (.inl ⟨by rw [Hj.out,hxb];rfl,z,rfl⟩)
  clear hxe Hj hrbh hbh10
  go_wp2_with fail
  go_ret2
  exact⟨_,rfl,hj1 _,hv10,hb10⟩
structure KLk2 (T:List Tag)(sel kind:BS):Prop where
 q:look [113] T=none
 s:look [115] T=some sel
 a:look [97] T=some (kind++sha256S)
def voCells (rc:Nat)(now:Int):List Value:= [fn55 rc, .int .i64 0, .int .i64 now, .bool true, .func (.func 56) #[] #[]]
theorem RecIn.below {w w':World} {v:Value} {rec:Option (BS×BS)} (h:RecIn w v rec)(hb:Below w.heap.size w w'):RecIn w' v rec:=by
 cases rec with
 |none=>exact h
 |some p=>
  obtain⟨r,q,h1,h2,h3,h4⟩:=h
  exact⟨r,q,h1,h2.below hb h2.lt,h3.below hb h3.lt,h4⟩
def recCode (rec:Option BS)(j:BS→Bool):Nat:=match rec with|none=>2|some key=>if j key then 0 else 1
theorem kind_cut {kind:BS} (h:kind=edS∨kind=rsaS):cutAt 45 (kind++sha256S)=(kind,[115,104,97,50,53,54],true)∧strip (kind++sha256S)=kind++sha256S∧plain (kind++sha256S)=true∧(kind++sha256S).length≤100:=by
 rcases h with rfl|rfl<;>decide
theorem ver2 (B B0 vb vo rc rg rh bb mb n g8 o8 c8 jc i4 r4 n4:Nat)(TR:TypeId)(now:Int)(hv rv rd:Value)(rec:Option BS)(FS NM:List BS)(sf x s kind dom sel hfm bfm body m cs:BS)(T:List Tag)(SS:Nat→Prop)(w0 w:World)
 (hG:Glo B w)(hB0:B≤B0)(hb0:Frm SS w0 w)(hSS:SS rg∧SS rh)(hhd:Rd w hv (strs FS))(hnm:Rd w (.slice (some ⟨g8,o8,none⟩) NM.length c8) (strs NM))(hmp:MapS w mb n (fun k=>look k T))(hT:SLk T hfm bfm x s)(hT2:KLk2 T sel kind)(hvb:VBlk w vb)(hvd:w.cell? ⟨vb,0,none⟩=some (Str dom))(hvo:Blk w vo 99 (voCells rc now))(hrc:Blk w rc TR [rv])(hri:RecIn w rv (rec.map fun k=>(sel++dkS++dom,recK kind k)))(hkk:kind=edS∨kind=rsaS)(hrk: ∀k,rec=some k→KeyOk kind k∧k.length≤1000000)
 (hbio:Bio w rg bb rh rd m i4 r4 n4 cs)(hrest:bioRest m i4 r4 n4 cs=body)(hrB:B0≤rg∧B0≤rh)(hml:m.length≤10000000)(hbl:body.length≤10000000)
 (hmB:B0≤mb)(hne: ∀k,k=rg∨k=rh→k≠vb∧k≠mb∧k≠g8∧hv.ownBlock≠some k)(hhl: ∀k,hv.ownBlock=some k→k<w.heap.size)(hnl:g8<w.heap.size)
 (hFS: ∀f∈FS,f.length≤8000000∧plain f=true)(lF:FS.length≤1000000)(hNM: ∀x∈NM,x.length≤400000∧plain x=true)(lNM:NM.length≤20000)(hF0:FS≠ [])(hN0:NM≠ [])(hsp:plain sf=true)(hsl2:sf.length≤8000000)(hhf:formOk hfm)(hbf:formOk bfm)(hxl:x.length≤100)(hsl:s.length≤100)(hdl:dom.length≤1000000∧sel.length≤1000000)(hsd:plain sel=true∧strip sel=sel)
 (Hj:Hid (jc=recCode rec fun key=>(sha (bodyOf bfm body)==x)&&judgedS hfm key FS NM sf s))
 {AA AB AC AD AE AF AG AH AI AJ AK AL AM AN AO AP AQ AR AS AT AU AV AW AX AY AZ Aa Ab Ac Ad Ae Af Ag Ah Ai Aj Ak Al Am An Ao Ap Aq Ar As At Au Av Aw Ax Ay Az A0 A1 A2 A3 A4 A5 A6 A7 A8 A9 BA BB BC BD BE BF BG BH BI BJ BK BL BM BN BO BP BQ BR BT BU BV BW BX BY BZ Ba Bb Bc Bd Be Bf Bg Bh Bi Bj Bk Bl Bm Bn Bo Bp Bq Br Bs Bt Bu Bv Bw Bx By Bz B1 B2 B3 B4 B5 B6 B7 B8 B9 CA CB CC CD CE CF CG CH CI CJ CK CL CM CN CO CP CQ CR CS CT CU CV CW CX CY CZ Ca Cb Cc Cd Ce Cf Cg Ch Ci Cj Ck Cl Cm Cn Co Cp Cq Cr Cs Ct Cu Cv Cw Cx Cy Cz C0 C1 C2 C3 C4 C5 C6 C7 C8 C9 DA DB DC DD DE DF DG DH DI DJ DK DL DM DN DO DP DQ DR DS DT DU DV DW DX DY DZ Da Db Dc Dd De Df Dg Dh Di Dj Dk Dl Dm Dn Do Dp Dq Dr Ds Dt Du Dv Dw Dx Dy Dz D0 D1 D2 D3 D4 D5 D6 D7 D8 D9 EA EB EC ED EE EF EG EH EI EJ EK EL EM EN EO EP EQ ER ES ET EU EV EW EX EY EZ Ea Eb Ec Ed Ee Ef Eg Eh Ei Ej Ek El Em En Eo Ep Eq Er Es Et Eu Ev Ew Ex Ey Ez E0 E1 E2 E3 E4 E5 E6 E7 E8 E9 FA FB FC FD FE FF FG FH FI FJ FK FL FM FN FO FP FQ FR FT FU FV FW FX FY FZ Fa Fb Fc Fd Fe Ff Fg Fh Fi Fj Fk Fl Fm Fn Fo Fp Fq Fr Fs Ft Fu Fv Fw Fx Fy Fz F0 F1 F2 F3 F4 F5 F6 F7 F8 F9 GA GB GC GD GE GF GG GH GI GJ GK GL GM GN GO GP GQ GR GS GT GU GV GW GX GY GZ Ga Gb Gc Gd Ge Gf Gg Gh Gi Gj Gk Gl Gm Gn Go Gp Gq Gr Gs Gt Gu Gv Gw Gx Gy Gz G0 G1 G2 G3 G4 G5 G6 G7 G8 G9 HA HB HC HD HE HF HG HH HI HJ HK HL HM HN HO HP HQ HR HT HU HV HW HX HY HZ Ha Hb Hc Hd He Hf Hg Hh Hi Hk Hl Hm Hn Ho Hp Hr Hs Ht Hu Hv Hw Hx Hy Hz H0 H1 H2 H3 H4 H5 H6 H7 H8 H9 IA IB IC ID IE IF IG IH II:Value}
 (K:Act→World→Prop)(hK: ∀a w,Code.wp Tryz.prog (tl 16 body90) (bodyPost Tryz.prog Tryz.f90 (VPost w0 SS vb jc)) a w→K a w):
 Code.wp Tryz.prog (hdC (tl 15 body90)) (Exit.then K (bodyPost Tryz.prog Tryz.f90 (VPost w0 SS vb jc))) ⟨(hv:: .iface 156 (.pointer (some ⟨rg,0,none⟩))::Str sf::AA:: .pointer (some ⟨vo,0,none⟩)::AB::AC::AD::AE::AF::AG::AH:: .pointer (some ⟨vb,0,none⟩):: .map (some mb)::AI::AJ::AK::AL::AM::AN::AO:: .slice (some ⟨g8,o8,none⟩) NM.length c8::AP::AQ::AR::AS::AT::AU::AV::AW::AX::AY::AZ::Aa::Ab::Ac::Ad::Ae::Af::Ag::Ah::Ai::Aj::Ak::Al::Am::An::Ao::Ap::Aq::Ar::As::At::Au::Av::Aw::Ax::Ay::Az::A0::A1::A2::A3::A4::A5::A6::A7::A8::A9::BA::BB::BC::BD::BE::BF::BG::BH::BI::BJ::BK::BL::BM::BN::BO::BP::BQ::BR::BT::BU::BV::BW::BX::BY::BZ::Ba::Bb::Bc::Bd::Be::Bf::Bg::Bh::Bi::Bj::Bk::Bl::Bm::Bn::Bo::Bp::Bq::Br::Bs::Bt::Bu::Bv::Bw::Bx::By::Bz::B1::B2::B3::B4::B5::B6::B7::B8::B9::CA::CB::CC::CD::CE::CF::CG::CH::CI::CJ::CK::CL::CM::CN::CO::CP::CQ::CR::CS::CT::CU::CV::CW::CX::CY::CZ::Ca::Cb::Cc::Cd::Ce::Cf::Cg::Ch::Ci::Cj::Ck::Cl::Cm::Cn::Co::Cp::Cq::Cr::Cs::Ct::Cu::Cv::Cw::Cx::Cy::Cz::C0::C1::C2::C3::C4::C5::C6::C7::C8::C9::DA::DB::DC::DD::DE::DF::DG::DH::DI::DJ::DK::DL::DM::DN::DO::DP::DQ::DR::DS::DT::DU::DV::DW::DX::DY::DZ::Da::Db::Dc::Dd::De::Df::Dg::Dh::Di::Dj::Dk::Dl::Dm::Dn::Do::Dp::Dq::Dr::Ds::Dt::Du::Dv::Dw::Dx::Dy::Dz::D0::D1::D2::D3::D4::D5::D6::D7::D8::D9::EA::EB::EC::ED::EE::EF::EG::EH::EI::EJ::EK::EL::EM::EN::EO::EP::EQ::ER::ES::ET::EU::EV::EW::EX::EY::EZ::Ea::Eb::Ec::Ed::Ee::Ef::Eg::Eh::Ei::Ej::Ek::El::Em::En::Eo::Ep::Eq::Er::Es::Et::Eu::Ev::Ew::Ex::Ey::Ez::E0::E1::E2::E3::E4::E5::E6::E7::E8::E9::FA::FB::FC::FD::FE::FF::FG::FH::FI::FJ::FK::FL::FM::FN::FO::FP::FQ::FR::FT::FU::FV::FW::FX::FY::FZ::Fa::Fb::Fc::Fd::Fe::Ff::Fg::Fh::Fi::Fj::Fk::Fl::Fm::Fn::Fo::Fp::Fq::Fr::Fs::Ft::Fu::Fv::Fw::Fx::Fy::Fz::F0::F1::F2::F3::F4::F5::F6::F7::F8::F9::GA::GB::GC::GD::GE::GF::GG::GH::GI::GJ::GK::GL::GM::GN::GO::GP::GQ::GR::GS::GT::GU::GV::GW::GX::GY::GZ::Ga::Gb::Gc::Gd::Ge::Gf::Gg::Gh::Gi::Gj::Gk::Gl::Gm::Gn::Go::Gp::Gq::Gr::Gs::Gt::Gu::Gv::Gw::Gx::Gy::Gz::G0::G1::G2::G3::G4::G5::G6::G7::G8::G9::HA::HB::HC::HD::HE::HF::HG::HH::HI::HJ::HK::HL::HM::HN::HO::HP::HQ::HR::HT::HU::HV::HW::HX::HY::HZ::Ha::Hb::Hc::Hd::He::Hf::Hg::Hh::Hi::Hk::Hl::Hm::Hn::Ho::Hp::Hr::Hs::Ht::Hu::Hv::Hw::Hx::Hy::Hz::H0::H1::H2::H3::H4::H5::H6::H7::H8::H9::IA::IB::IC::ID::IE::IF::IG::IH::II:: []).toArray,[]⟩ w:=by
 conv=>arg 2;whnf
 obtain⟨y,hy⟩: ∃y,Hid (y=tl 16 body90):=⟨_,rfl⟩
 rw [←hy.out]at hK
 have hb1:=(Below.refl w.heap.size w).alloc (Nat.le_refl _) (.cells #[.string ⟨#[100,110,115,47,116,120,116]⟩] 9)
 have hx:=Blk.new w 9 #[.string ⟨#[100,110,115,47,116,120,116]⟩]
 have c0:=hx.cell 0 _ rfl
 obtain⟨wa,hwa⟩: ∃z,Hid (z=w.alloc (.cells #[.string ⟨#[100,110,115,47,116,120,116]⟩] 9)):=⟨_,Lib.hid rfl⟩
 obtain⟨pw,hpw⟩: ∃z,Hid (z=w.heap.size):=⟨_,Lib.hid rfl⟩
 rw [←hwa.out]at hb1 hx c0
 rw [←hpw.out]at c0
 have hm1:=hmp.below hb1 hmp.lt
 have lq:=(look_run hm1 [113] (by decide) _ hT2.q).1
 have lq:(Instr.lookup 179 (.map (some mb)) (.string ⟨#[113]⟩) true).run Tryz.prog wa= .ok (.tuple #[.string ⟨#[]⟩, .bool false]) wa:=lq
 go_wp2_with fail
 rw [hy.out,←hwa.out,←hpw.out]
 clear hy
 conv=>arg 2;whnf
 go_wp2_with fail
 clear lq
 go_loopw [242] (fun v242 wx=>v242= .int .i64 0∧wx=wa) (fun _ _=>0)
 case atStart=>exact⟨rfl,rfl⟩
 case round=>
  obtain⟨rfl,rfl⟩:=hrel
  go_wp2_with fail
  refine(queryMethods_any wr).mono ?_
  rintro e w2 ⟨rfl,rfl⟩
  have ls:=(look_run hm1 [115] (by decide) _ hT2.s).2
  have d0:w2.cell? ⟨vb,0,none⟩=some (Str dom):=hb1.cell (p:=⟨vb,0,none⟩) (show vb<w.heap.size from hvb.lt)|>.trans hvd
  have hvo1:=hvo.below hb1 hvo.lt
  have hrc1:=hrc.below hb1 hrc.lt
  have hri1:RecIn w2 rv (rec.map fun k=>(sel++dkS++dom,recK kind k)):=hri.below hb1
  have ls:(Instr.lookup 179 (.map (some mb)) (.string ⟨#[115]⟩) false).run Tryz.prog w2= .ok (Str sel) w2:=ls
  have o0:=hvo1.cell 0 _ rfl
  have o4:=hvo1.cell 4 _ rfl
  have hSS: ∀ww,Below w2.heap.size w2 ww→ww.cell? ⟨vb,0,none⟩=some (Str dom)∧ww.cell? ⟨vo,0,none⟩=some (fn55 rc)∧ww.cell? ⟨vo,4,none⟩=some (.func (.func 56) #[] #[])∧(Instr.lookup 179 (.map (some mb)) (.string ⟨#[115]⟩) false).run Tryz.prog ww= .ok (Str sel) ww:=fun ww hb=>⟨bcell hb d0,bcell hb o0,bcell hb o4,(look_run (hm1.below hb hm1.lt) [115] (by decide) _ hT2.s).2⟩
  have HS:=Lib.hid hSS
  clear hSS
  have hq:=fun ww (h:Below w2.heap.size w2 ww)=>query_any rc TR rv dom sel kind rec ww (hrc1.below h hrc1.lt) (hri1.below h) (fun k hk=>(hrk k hk).1) hdl
  have Hq:=Lib.hid hq
  clear hq
  have e143: ∀(args:Array Value) (w:World),(callFunc 143 args).run Tryz.prog w= .ok (.enter 143 args) w:=fun args w=>by kernel_rfl
  have lsel:sel.length≤4294967296:=by omega
  go_wp2_with fail
  have hc97: ∀z,Below w2.heap.size w2 z→Calls Tryz.prog 97 #[Str sel] z fun e w'=>e= .returned (Str sel)∧Below w2.heap.size w2 w':=fun z hz=>(stW_any sel z lsel hsd.1).mono (by
   rintro e w' ⟨rfl,hb⟩
   rw [hsd.2]
   exact⟨rfl,hz.trans (hb.mono hz.size)⟩)
  have Hc97:=Lib.hid hc97
  clear hc97
  cases rec with
  |none=>
   go_region_held3 (fun ww=>ww.cell? ⟨vb,0,none⟩=some (Str dom)∧ww.cell? ⟨vo,0,none⟩=some (fn55 rc)∧ww.cell? ⟨vo,4,none⟩=some (.func (.func 56) #[] #[])∧(Instr.lookup 179 (.map (some mb)) (.string ⟨#[115]⟩) false).run Tryz.prog ww= .ok (Str sel) ww)
    (first|exact HS.out _ hb3|exact HS.out _ hb4|exact HS.out _ (bdw (Below.refl _ _))|go_keep)
    (first
      |(go_at_call 97;refine(Hc97.out _ (bdw (Below.refl _ _))).mono ?_;rintro e w3 ⟨he,hb3⟩;subst he)
      |(go_at_call 143;refine(Hq.out _ hb3).mono ?_;rintro e w4 ⟨⟨sx,he⟩,hb4'⟩;subst he;have hb4:=hb3.trans (hb4'.mono hb3.size))
      |fail)
   all_goals
    have hbw4:Below w.heap.size w w4:=hb1.trans (hb4.mono hb1.size)
    have hv4:=hvb.frm (Frm.of_new (S:=fun _=>False) hbw4) id
    have hbB:Frm SS w0 w4:=hb0.trans (Frm.of_new hbw4)
    have hj2:ErrK (.iface 209 (Str sx)) jc:= .inr (.inr ⟨Hj.out,sx,rfl⟩)
    go_wp2_with fail
    go_ret2
    exact⟨_,rfl,hj2,hv4,hbB⟩
  |some key=>
   go_region_held3 (fun ww=>ww.cell? ⟨vb,0,none⟩=some (Str dom)∧ww.cell? ⟨vo,0,none⟩=some (fn55 rc)∧ww.cell? ⟨vo,4,none⟩=some (.func (.func 56) #[] #[])∧(Instr.lookup 179 (.map (some mb)) (.string ⟨#[115]⟩) false).run Tryz.prog ww= .ok (Str sel) ww)
    (first|exact HS.out _ hb3|exact HS.out _ hb4|exact HS.out _ (bdw (Below.refl _ _))|go_keep)
    (first
      |(go_at_call 97;refine(Hc97.out _ (bdw (Below.refl _ _))).mono ?_;rintro e w3 ⟨he,hb3⟩;subst he)
      |(go_at_call 143;refine(Hq.out _ hb3).mono ?_;rintro e w4 ⟨q,kv,he,hq4,hkv4,hqw,hkw,hb4'⟩;subst he;have hb4:=hb3.trans (hb4'.mono hb3.size))
      |fail)
   all_goals
    have hbw4:Below w.heap.size w w4:=hb1.trans (hb4.mono hb1.size)
    have hw3s:=hb3.size
    have hw2s:=hb1.size
    have hm4:=hmp.below hbw4 hmp.lt
    have la0:=(look_run hm4 [97] (by decide) _ hT2.a).2
    obtain⟨kc1,kc2,kc3,kc4⟩:=kind_cut hkk
    obtain⟨KS,HKS⟩: ∃z,Hid (z=kind++sha256S):=⟨_,Lib.hid rfl⟩
    rw [←HKS.out]at kc1 kc2 kc3 kc4
    have la:(Instr.lookup 179 (.map (some mb)) (.string ⟨#[97]⟩) false).run Tryz.prog w4= .ok (Str KS) w4:=by rw [HKS.out];exact la0
    clear la0
    have Kc1:=Lib.hid kc1
    have Kc2:=Lib.hid kc2
    clear kc1 kc2 hm4
    go_wp2_with fail
    refine(stW_any KS w4 (by omega) kc3).mono ?_
    rintro e w5 ⟨rfl,hb5⟩
    rw [Kc2.out]
    have hbw5:=hbw4.trans (hb5.mono hbw4.size)
    have hq5:=hq4.below hb5 hq4.lt
    have hkv5:=hkv4.below hb5
    clear la
    go_wp2_with fail
    refine(zzCut_any KS 45 w5 (by omega)).mono ?_
    rintro e w6 ⟨rfl,hb6⟩
    rw [Kc1.out]
    have hbw6:=hbw5.trans (hb6.mono hbw5.size)
    have hq6:=hq5.below hb6 hq5.lt
    have hkv6:=hkv5.below hb6
    have hqlt:=hq4.lt
    have k1:=hq6.cell 1 _ rfl
    have k2:=hq6.cell 2 _ rfl
    have k4:=hq6.cell 4 _ rfl
    have hlt:=hbio.lt
    have hvl:=hvb.lt
    have hml3:=hmp.lt
    have hbB:Frm SS w0 w6:=hb0.trans (Frm.of_new hbw6)
    have hG6:=hG.above hbw6
    have hhd6:=hhd.below hbw6
    have hnm6:=hnm.below hbw6
    have hmp6:=hmp.below hbw6 hmp.lt
    have hv6:=hvb.frm (Frm.of_new (S:=fun _=>False) hbw6) id
    have hbio6:=hbio.below hbw6 hlt.1 hlt.2.1 hlt.2.2
    have hne6: ∀k,k=rg∨k=rh→k≠vb∧k≠q∧k≠mb∧k≠g8∧kv.ownBlock≠some k∧hv.ownBlock≠some k:=fun k hk=>by
     obtain⟨n1,n2,n3,n4⟩:=hne k hk
     refine⟨n1,by rcases hk with e|e<;>omega,n2,n3,fun e=> ?_,n4⟩
     have:=(hkw k e).1
     rcases hk with e|e<;>omega
    have hhl6: ∀k,hv.ownBlock=some k→k<w6.heap.size:=fun k hk=>Nat.lt_of_lt_of_le (hhl k hk) hbw6.size
    have hnl6:g8<w6.heap.size:=Nat.lt_of_lt_of_le hnl hbw6.size
    have hkl6: ∀k,kv.ownBlock=some k→k<w6.heap.size:=rd_lt hkv6 (by
     intro e
     have h1:=(hrk key rfl).1.1
     have h2:(byts key).length=0:=by rw [e];rfl
     rw [byL]at h2
     rcases h1 with h|h<;>omega)
    have hky:=(hrk key rfl).2
    clear hq5 hkv5 hb5 hb6 hbw4 hbw5 hq4 hkv4
    go_upto_region 92 with fail
    exact ver3 B B0 vb rg rh bb q mb n g8 o8 c8 jc i4 r4 n4 hv kv rd FS NM sf key x s kind hfm bfm body m cs T SS w0 w6 hG6 hB0 hbB hSS hhd6 hnm6 hmp6 hT hq6 hkv6 hv6 hbio6 hrest hrB hml hbl hmB hne6 hhl6 hnl6 hkl6 hFS lF hNM lNM hF0 hN0 hsp hsl2 hky hhf hbf hxl hsl Hj _ (by assumption)
structure TLk (T:List Tag)(NM:List BS)(tm ex:Nat):Prop where
 h:look [104] T=some (joinC NM)
 t:look [116] T=some (Lib.decDigits tm)
 x:look [120] T=if ex=0 then none else some (Lib.decDigits ex)
def verCode (ex now:Nat)(rec:Option BS)(j:BS→Bool):Nat:=if ex≠0∧ex<now then 2 else recCode rec j
theorem time_facts (n:Nat)(h:n<8589934592):strip (Lib.decDigits n)=Lib.decDigits n∧plain (Lib.decDigits n)=true∧(Lib.decDigits n).length≤4294967296:=by
 refine⟨strip_dry (word_dec n).dry,plain_dec n,?_⟩
 have:=dec_len 9 n (by omega)
 omega
theorem ver1b (B B0 vb vo rc rg rh bb mb n jc i4 r4 n4 tm ex now:Nat)(TR:TypeId)(hv rv rd:Value)(rec:Option BS)(FS NM:List BS)(sf x s kind dom s2 sel hfm bfm body m cs:BS)(T:List Tag)(SS:Nat→Prop)(w0 w:World)
 (hG:Glo B w)(hB0:B≤B0)(hb0:Frm SS w0 w)(hSS:SS rg∧SS rh)(hvw0:w0.heap.size≤vb)(hhd:Rd w hv (strs FS))(hmp:MapS w mb n (fun k=>look k T))(hT:SLk T hfm bfm x s)(hT2:KLk2 T sel kind)(hT3:TLk T NM tm ex)(hvb:Blk w vb 102 [Str dom,Str s2, .slice none 0 0, .int .i64 0, .bool false, .int .i64 0, .bool false, .nilIface])(hvo:Blk w vo 99 (voCells rc now))(hrc:Blk w rc TR [rv])(hri: ∀w',Below vb w w'→RecIn w' rv (rec.map fun k=>(sel++dkS++dom,recK kind k)))(hkk:kind=edS∨kind=rsaS)(hrk: ∀k,rec=some k→KeyOk kind k∧k.length≤1000000)
 (hbio:Bio w rg bb rh rd m i4 r4 n4 cs)(hrest:bioRest m i4 r4 n4 cs=body)(hrB:B0≤rg∧B0≤rh∧B0≤vb)(hml:m.length≤10000000)(hbl:body.length≤10000000)
 (hmB:B0≤mb)(hne: ∀k,k=rg∨k=rh→hv.ownBlock≠some k)(hvm:vb<mb)(hlv:rg<vb∧bb<vb∧rh<vb∧vo<vb∧rc<vb)(hhl: ∀k,hv.ownBlock=some k→k<vb)
 (hFS: ∀f∈FS,f.length≤8000000∧plain f=true)(lF:FS.length≤1000000)(hNM: ∀x∈NM,x.length≤400000∧plain x=true)(lNM:NM.length≤20000)(hF0:FS≠ [])(hNO:NamesOk NM)(hjl:(joinC NM).length≤4294967296)(hsp:plain sf=true)(hsl2:sf.length≤8000000)(hhf:formOk hfm)(hbf:formOk bfm)(hxl:x.length≤100)(hsl:s.length≤100)(hdl:dom.length≤1000000∧sel.length≤1000000)(hsd:plain sel=true∧strip sel=sel)(htm:tm<8589934592)(hex:ex<8589934592)
 (Hj:Hid (jc=verCode ex now rec fun key=>(sha (bodyOf bfm body)==x)&&judgedS hfm key FS NM sf s))
 {AA AB AC AD AE AF AG AH AI AJ AK AL AM AN AO AP AQ AR AS AT AU AV AW AX AY AZ Aa Ab Ac Ad Ae Af Ag Ah Ai Aj Ak Al Am An Ao Ap Aq Ar As At Au Av Aw Ax Ay Az A0 A1 A2 A3 A4 A5 A6 A7 A8 A9 BA BB BC BD BE BF BG BH BI BJ BK BL BM BN BO BP BQ BR BT BU BV BW BX BY BZ Ba Bb Bc Bd Be Bf Bg Bh Bi Bj Bk Bl Bm Bn Bo Bp Bq Br Bs Bt Bu Bv Bw Bx By Bz B1 B2 B3 B4 B5 B6 B7 B8 B9 CA CB CC CD CE CF CG CH CI CJ CK CL CM CN CO CP CQ CR CS CT CU CV CW CX CY CZ Ca Cb Cc Cd Ce Cf Cg Ch Ci Cj Ck Cl Cm Cn Co Cp Cq Cr Cs Ct Cu Cv Cw Cx Cy Cz C0 C1 C2 C3 C4 C5 C6 C7 C8 C9 DA DB DC DD DE DF DG DH DI DJ DK DL DM DN DO DP DQ DR DS DT DU DV DW DX DY DZ Da Db Dc Dd De Df Dg Dh Di Dj Dk Dl Dm Dn Do Dp Dq Dr Ds Dt Du Dv Dw Dx Dy Dz D0 D1 D2 D3 D4 D5 D6 D7 D8 D9 EA EB EC ED EE EF EG EH EI EJ EK EL EM EN EO EP EQ ER ES ET EU EV EW EX EY EZ Ea Eb Ec Ed Ee Ef Eg Eh Ei Ej Ek El Em En Eo Ep Eq Er Es Et Eu Ev Ew Ex Ey Ez E0 E1 E2 E3 E4 E5 E6 E7 E8 E9 FA FB FC FD FE FF FG FH FI FJ FK FL FM FN FO FP FQ FR FT FU FV FW FX FY FZ Fa Fb Fc Fd Fe Ff Fg Fh Fi Fj Fk Fl Fm Fn Fo Fp Fq Fr Fs Ft Fu Fv Fw Fx Fy Fz F0 F1 F2 F3 F4 F5 F6 F7 F8 F9 GA GB GC GD GE GF GG GH GI GJ GK GL GM GN GO GP GQ GR GS GT GU GV GW GX GY GZ Ga Gb Gc Gd Ge Gf Gg Gh Gi Gj Gk Gl Gm Gn Go Gp Gq Gr Gs Gt Gu Gv Gw Gx Gy Gz G0 G1 G2 G3 G4 G5 G6 G7 G8 G9 HA HB HC HD HE HF HG HH HI HJ HK HL HM HN HO HP HQ HR HS HT HU HV HW HX HY HZ Ha Hb Hc Hd He Hf Hg Hh Hi Hk Hl Hm Hn Ho Hp Hq Hr Hs Ht Hu Hv Hw Hx Hy Hz H1 H3 H4 H5 H6 H7 H8 H9 IA IB IC ID IE IF IG IH II IJ:Value}
 (K:Act→World→Prop)(hK: ∀a w,Code.wp Tryz.prog (tl 9 body90) (bodyPost Tryz.prog Tryz.f90 (VPost w0 SS vb jc)) a w→K a w):
 Code.wp Tryz.prog (hdC (tl 8 body90)) (Exit.then K (bodyPost Tryz.prog Tryz.f90 (VPost w0 SS vb jc))) ⟨(hv:: .iface 156 (.pointer (some ⟨rg,0,none⟩))::Str sf::AA:: .pointer (some ⟨vo,0,none⟩)::AB::AC::AD::AE::AF::AG::AH:: .pointer (some ⟨vb,0,none⟩):: .map (some mb)::AI::AJ::AK::AL::AM::AN::AO::AP::AQ::AR::AS::AT::AU::AV::AW::AX::AY::AZ::Aa::Ab::Ac::Ad::Ae::Af::Ag::Ah::Ai::Aj::Ak::Al::Am::An::Ao::Ap::Aq::Ar::As::At::Au::Av::Aw::Ax::Ay::Az::A0::A1::A2::A3::A4::A5::A6::A7::A8::A9::BA::BB::BC::BD::BE::BF::BG::BH::BI::BJ::BK::BL::BM::BN::BO::BP::BQ::BR::BT::BU::BV::BW::BX::BY::BZ::Ba::Bb::Bc::Bd::Be::Bf::Bg::Bh::Bi::Bj::Bk::Bl::Bm::Bn::Bo::Bp::Bq::Br::Bs::Bt::Bu::Bv::Bw::Bx::By::Bz::B1::B2::B3::B4::B5::B6::B7::B8::B9::CA::CB::CC::CD::CE::CF::CG::CH::CI::CJ::CK::CL::CM::CN::CO::CP::CQ::CR::CS::CT::CU::CV::CW::CX::CY::CZ::Ca::Cb::Cc::Cd::Ce::Cf::Cg::Ch::Ci::Cj::Ck::Cl::Cm::Cn::Co::Cp::Cq::Cr::Cs::Ct::Cu::Cv::Cw::Cx::Cy::Cz::C0::C1::C2::C3::C4::C5::C6::C7::C8::C9::DA::DB::DC::DD::DE::DF::DG::DH::DI::DJ::DK::DL::DM::DN::DO::DP::DQ::DR::DS::DT::DU::DV::DW::DX::DY::DZ::Da::Db::Dc::Dd::De::Df::Dg::Dh::Di::Dj::Dk::Dl::Dm::Dn::Do::Dp::Dq::Dr::Ds::Dt::Du::Dv::Dw::Dx::Dy::Dz::D0::D1::D2::D3::D4::D5::D6::D7::D8::D9::EA::EB::EC::ED::EE::EF::EG::EH::EI::EJ::EK::EL::EM::EN::EO::EP::EQ::ER::ES::ET::EU::EV::EW::EX::EY::EZ::Ea::Eb::Ec::Ed::Ee::Ef::Eg::Eh::Ei::Ej::Ek::El::Em::En::Eo::Ep::Eq::Er::Es::Et::Eu::Ev::Ew::Ex::Ey::Ez::E0::E1::E2::E3::E4::E5::E6::E7::E8::E9::FA::FB::FC::FD::FE::FF::FG::FH::FI::FJ::FK::FL::FM::FN::FO::FP::FQ::FR::FT::FU::FV::FW::FX::FY::FZ::Fa::Fb::Fc::Fd::Fe::Ff::Fg::Fh::Fi::Fj::Fk::Fl::Fm::Fn::Fo::Fp::Fq::Fr::Fs::Ft::Fu::Fv::Fw::Fx::Fy::Fz::F0::F1::F2::F3::F4::F5::F6::F7::F8::F9::GA::GB::GC::GD::GE::GF::GG::GH::GI::GJ::GK::GL::GM::GN::GO::GP::GQ::GR::GS::GT::GU::GV::GW::GX::GY::GZ::Ga::Gb::Gc::Gd::Ge::Gf::Gg::Gh::Gi::Gj::Gk::Gl::Gm::Gn::Go::Gp::Gq::Gr::Gs::Gt::Gu::Gv::Gw::Gx::Gy::Gz::G0::G1::G2::G3::G4::G5::G6::G7::G8::G9::HA::HB::HC::HD::HE::HF::HG::HH::HI::HJ::HK::HL::HM::HN::HO::HP::HQ::HR::HS::HT::HU::HV::HW::HX::HY::HZ::Ha::Hb::Hc::Hd::He::Hf::Hg::Hh::Hi::Hk::Hl::Hm::Hn::Ho::Hp::Hq::Hr::Hs::Ht::Hu::Hv::Hw::Hx::Hy::Hz::H1::H3::H4::H5::H6::H7::H8::H9::IA::IB::IC::ID::IE::IF::IG::IH::II::IJ:: []).toArray,[]⟩ w:=by
 conv=>arg 2;whnf
 obtain⟨y,hy⟩: ∃y,Hid (y=tl 9 body90):=⟨_,rfl⟩
 rw [←hy.out]at hK
 have lh:=(look_run hmp [104] (by decide) _ hT3.h).2
 have lh:(Instr.lookup 179 (.map (some mb)) (.string ⟨#[104]⟩) false).run Tryz.prog w= .ok (Str (joinC NM)) w:=lh
 have hjp:=plain_joinC NM (fun z hz=>(hNM z hz).2)
 have hsplit:(splitAt 58 (joinC NM)).map strip=NM:=by
  rw [splitAt_joinC NM hNO.ne (fun z hz=>(hNO.all z hz).1.c58)]
  exact(List.map_congr_left (g:=id) fun z hz=>strip_dry (hNO.all z hz).1.word.dry).trans (List.map_id NM)
 have Hsplit:=Lib.hid hsplit
 clear hsplit
 go_wp2_with fail
 refine(parseTagList_any (joinC NM) w hjl hjp).mono ?_
 rintro e w1 ⟨nv,rfl,hon,hb1⟩
 rw [Hsplit.out]at hon
 obtain⟨g8,o8,c8,rfl⟩:=hon.form_some (by simp [strs,hNO.ne])
 rw [stL]at hon⊢
 clear lh
 go_wp2_with fail
 rw [hy.out]
 clear hy
 conv=>arg 2;whnf
 go_wp2_with fail
 have hbr:=Below.refl w1.heap.size w1
 have H0:Hid (∀z∈NM.take 0,lower z≠fromS):=by intro z hz;simp at hz
 go_loopw [22,164] (fun v22 v164 wx=> ∃k:Nat,k≤NM.length∧v22= .bool false∧v164= .int .i64 k∧Hid (∀z∈NM.take k,lower z≠fromS)∧Below w1.heap.size w1 wx) (fun _ v164 _=>NM.length-(intOf v164).toNat)
 case atStart=>exact⟨0,Nat.zero_le _,rfl,rfl,H0,hbr⟩
 case round=>
  obtain⟨k,hkN,rfl,rfl,H,hbx⟩:=hrel
  clear hbr H0
  by_cases hlt:k<NM.length
  ·have hk0:(0:Int)≤(k:Int):=by omega
   have hk1:(k:Int)<(NM.length:Int):=by omega
   have hck:wr.cell? ⟨g8,o8+k,none⟩=some (Str NM[k]):=bcell hbx (hon.cell_at k (Str NM[k]) (by simp [strs,hlt])).1
   have hmk:=hNM NM[k] (List.getElem_mem hlt)
   by_cases hfr:lower NM[k]=fromS
   ·have hc89:Calls Tryz.prog 89 #[Str NM[k], .string ⟨#[102,114,111,109]⟩] wr fun e w'=>e= .returned (.bool true)∧Below wr.heap.size wr w':=by
     refine(zzEqualFold_any NM[k] fromS wr (by omega) (by decide) hmk.2 (by decide)).mono ?_
     rintro e w' ⟨rfl,hb⟩
     exact⟨by rw [hfr];rfl,hb⟩
    clear hfr H
    go_wp2_with fail
    refine hc89.mono ?_
    rintro e w2 ⟨rfl,hb2⟩
    have hb12:=hbx.trans (hb2.mono hbx.size)
    have hbw2:Below w.heap.size w w2:=hb1.trans (hb12.mono hb1.size)
    have hon2:=hon.below hb12
    clear hck hbx hb2 hc89 hon hb12 hb1
    have hv2:=hvb.below hbw2 hvb.lt
    have c2:=hv2.cell 2 _ rfl
    have f2:=hv2.frozen 2
    have hv3:Blk (w2.setCell ⟨vb,2,none⟩ (.slice (some ⟨g8,o8,none⟩) NM.length c8)) vb 102 [Str dom,Str s2, .slice (some ⟨g8,o8,none⟩) NM.length c8, .int .i64 0, .bool false, .int .i64 0, .bool false, .nilIface]:=hv2.set 2 (.slice (some ⟨g8,o8,none⟩) NM.length c8)
    have hF3:Frm (· =vb) w2 (w2.setCell ⟨vb,2,none⟩ (.slice (some ⟨g8,o8,none⟩) NM.length c8)):=Frm.setCell (S:=(· =vb)) (Frm.refl _ w2) ⟨vb,2,none⟩ _ (fun _=>rfl)
    have hm3:=(hmp.below hbw2 hmp.lt).frm hF3 (by omega)
    have lt:=(look_run hm3 [116] (by decide) _ hT3.t).1
    have lt2:(Instr.lookup 179 (.map (some mb)) (.string ⟨#[116]⟩) true).run Tryz.prog (w2.setCell ⟨vb,2,none⟩ (.slice (some ⟨g8,o8,none⟩) NM.length c8))= .ok (.tuple #[Str (Lib.decDigits tm), .bool true]) (w2.setCell ⟨vb,2,none⟩ (.slice (some ⟨g8,o8,none⟩) NM.length c8)):=lt
    clear lt
    have hgw:w.heap.size≤g8:=by have:=(hon2.lt g8 rfl).1;omega
    have hX3:Below vb w (w2.setCell ⟨vb,2,none⟩ (.slice (some ⟨g8,o8,none⟩) NM.length c8)):=(hbw2.mono (Nat.le_of_lt hvb.lt)).setCell (p:=⟨vb,2,none⟩) (Nat.le_refl _) _
    have hnm3:=hon2.rd.frm hF3 (fun k hk e=>by have hk:g8=k:=Option.some.inj hk;have:=hvb.lt;omega)
    go_wp2_with fail
    generalize w2.setCell ⟨vb,2,none⟩ (.slice (some ⟨g8,o8,none⟩) NM.length c8)=w3 at*
    clear lt2 c2 f2 hF3 hon2 hv2 hbw2
    obtain⟨tf1,tf2,tf3⟩:=time_facts tm htm
    refine(parseTime_any (Lib.decDigits tm) tm w3 tf2 tf3 tf1 (by omega)).mono ?_
    rintro e w4 ⟨rfl,hb4⟩
    have hX4:Below vb w w4:=hX3.trans (hb4.mono (by have:=hv3.lt;omega))
    have hv4:=hv3.below hb4 hv3.lt
    have hnm4:=hnm3.below hb4
    have hm4:=hm3.below hb4 hm3.lt
    have hb5:=(Below.refl w4.heap.size w4).alloc (Nat.le_refl _) (.cells #[.int .i64 tm, .bool true] 87)
    have hx5:=Blk.new w4 87 #[.int .i64 tm, .bool true]
    clear hX3 hv3 hnm3 hm3 hb4
    unfold Tm
    go_upto_if 191 with fail
    obtain⟨tb,Htb⟩: ∃z,Hid (z=w4.heap.size):=⟨_,Lib.hid rfl⟩
    have hX5:=hX4.trans (hb5.mono (by have:=hv4.lt;omega))
    have hv5:=hv4.below hb5 hv4.lt
    have hnm5:=hnm4.below hb5
    have hm5:=hm4.below hb5 hm4.lt
    have hvlt4:=hv4.lt
    have htbv:vb<tb:=by rw [Htb.out];exact hvlt4
    rw [←Htb.out]at hx5⊢
    generalize w4.alloc (.cells #[.int .i64 tm, .bool true] 87)=w5 at*
    clear hX4 hv4 hnm4 hm4 hb5
    have c3:=hv5.cell 3 _ rfl
    have f3:=hv5.frozen 3
    have c4:=hv5.cell 4 _ rfl
    have f4:=hv5.frozen 4
    have t0:=hx5.cell 0 _ rfl
    have t1:=hx5.cell 1 _ rfl
    have hv6:Blk ((w5.setCell ⟨vb,3,none⟩ (.int .i64 tm)).setCell ⟨vb,4,none⟩ (.bool true)) vb 102 [Str dom,Str s2, .slice (some ⟨g8,o8,none⟩) NM.length c8, .int .i64 tm, .bool true, .int .i64 0, .bool false, .nilIface]:=(hv5.set 3 (.int .i64 tm)).set 4 (.bool true)
    have hF6:Frm (· =vb) w5 ((w5.setCell ⟨vb,3,none⟩ (.int .i64 tm)).setCell ⟨vb,4,none⟩ (.bool true)):=Frm.setCell (S:=(· =vb)) (Frm.setCell (S:=(· =vb)) (Frm.refl _ w5) ⟨vb,3,none⟩ _ (fun _=>rfl)) ⟨vb,4,none⟩ _ (fun _=>rfl)
    have hX6:Below vb w ((w5.setCell ⟨vb,3,none⟩ (.int .i64 tm)).setCell ⟨vb,4,none⟩ (.bool true)):=(hX5.setCell (p:=⟨vb,3,none⟩) (Nat.le_refl _) _).setCell (p:=⟨vb,4,none⟩) (Nat.le_refl _) _
    have hm6:=hm5.frm hF6 (by omega)
    have hnm6:=hnm5.frm hF6 (fun k hk e=>by have hk:g8=k:=Option.some.inj hk;have:=hvb.lt;omega)
    have lx0:=(look_run hm6 [120] (by decide) _ hT3.x).1
    by_cases hz:ex=0
    ·rw [if_pos hz]at lx0
     have lx:(Instr.lookup 179 (.map (some mb)) (.string ⟨#[120]⟩) true).run Tryz.prog ((w5.setCell ⟨vb,3,none⟩ (.int .i64 tm)).setCell ⟨vb,4,none⟩ (.bool true))= .ok (.tuple #[.string ⟨#[]⟩, .bool false]) ((w5.setCell ⟨vb,3,none⟩ (.int .i64 tm)).setCell ⟨vb,4,none⟩ (.bool true)):=lx0
     have HJ2:Hid (jc=recCode rec fun key=>(sha (bodyOf bfm body)==x)&&judgedS hfm key FS NM sf s):=by
      have h:=Hj.out
      unfold verCode at h
      rw [if_neg (fun h=>h.1 hz)]at h
      exact h
     clear lx0 Hj hz hX5 hv5 hnm5 hm5 hF6
     go_upto_if 206 with fail
     generalize(w5.setCell ⟨vb,3,none⟩ (.int .i64 tm)).setCell ⟨vb,4,none⟩ (.bool true)=wz at*
     have hXz:=hX6
     have hvz:=hv6
     have hnmz:=hnm6
     have hmz:=hm6
     clear lx c3 f3 c4 f4 t0 t1 hx5
     have hbB:Frm SS w0 wz:=hb0.after (Frm.of_below hXz) (fun i hi e=>by omega)
     have hGz:Glo B wz:=hG.below (hXz.mono (Nat.le_trans hB0 hrB.2.2))
     have hhdz:Rd wz hv (strs FS):=hhd.frm (Frm.of_below hXz) (fun k hk e=>by have:=hhl k hk;omega)
     have hbioz:=hbio.below hXz hlv.1 hlv.2.1 hlv.2.2.1
     have hVB:VBlk wz vb:=⟨_,_,_,_,_,_,_,_,_,_,rfl,hvz⟩
     have hvd:=hvz.cell 0 _ rfl
     have hvoz:Blk wz vo 99 (voCells rc now):=hvo.below hXz hlv.2.2.2.1
     have hrcz:Blk wz rc TR [rv]:=hrc.below hXz hlv.2.2.2.2
     have hvl:=hvz.lt
     have hg8l:g8<wz.heap.size:=rd_lt hnmz (by simp [strs,hNO.ne]) g8 rfl
     have hnz: ∀k,k=rg∨k=rh→k≠vb∧k≠mb∧k≠g8∧hv.ownBlock≠some k:=fun k hk=>by
      have h1:=hne k hk
      have h2:=hvb.lt
      refine⟨?_,?_,?_,h1⟩<;>rcases hk with e|e<;>omega
     go_upto_region 46 with fail
     exact ver2 B B0 vb vo rc rg rh bb mb n g8 o8 c8 jc i4 r4 n4 TR now hv rv rd rec FS NM sf x s kind dom sel hfm bfm body m cs T SS w0 wz hGz hB0 hbB hSS hhdz hnmz hmz hT hT2 hVB hvd hvoz hrcz (hri wz hXz) hkk hrk hbioz hrest ⟨hrB.1,hrB.2.1⟩ hml hbl hmB hnz (fun k hk=>Nat.lt_trans (hhl k hk) hvl) hg8l hFS lF hNM lNM hF0 hNO.ne hsp hsl2 hhf hbf hxl hsl hdl hsd HJ2 _ (by assumption)
    ·rw [if_neg hz]at lx0
     have lx:(Instr.lookup 179 (.map (some mb)) (.string ⟨#[120]⟩) true).run Tryz.prog ((w5.setCell ⟨vb,3,none⟩ (.int .i64 tm)).setCell ⟨vb,4,none⟩ (.bool true))= .ok (.tuple #[Str (Lib.decDigits ex), .bool true]) ((w5.setCell ⟨vb,3,none⟩ (.int .i64 tm)).setCell ⟨vb,4,none⟩ (.bool true)):=lx0
     clear lx0 hX5 hv5 hnm5 hm5 hF6
     go_upto_if 206 with fail
     generalize(w5.setCell ⟨vb,3,none⟩ (.int .i64 tm)).setCell ⟨vb,4,none⟩ (.bool true)=w6 at*
     clear lx c3 f3 c4 f4 t0 t1 hx5
     obtain⟨xf1,xf2,xf3⟩:=time_facts ex hex
     go_wp2_with fail
     refine(parseTime_any (Lib.decDigits ex) ex w6 xf2 xf3 xf1 (by omega)).mono ?_
     rintro e w7 ⟨rfl,hb7⟩
     have hX7:Below vb w w7:=hX6.trans (hb7.mono (by have:=hv6.lt;omega))
     have hv7:=hv6.below hb7 hv6.lt
     have hnm7:=hnm6.below hb7
     have hm7:=hm6.below hb7 hm6.lt
     have hb8:=(Below.refl w7.heap.size w7).alloc (Nat.le_refl _) (.cells #[.int .i64 ex, .bool true] 87)
     have hx8:=Blk.new w7 87 #[.int .i64 ex, .bool true]
     clear hX6 hv6 hnm6 hm6 hb7
     unfold Tm
     go_upto_if 213 with fail
     obtain⟨tc,Htc⟩: ∃z,Hid (z=w7.heap.size):=⟨_,Lib.hid rfl⟩
     have hX8:=hX7.trans (hb8.mono (by have:=hv7.lt;omega))
     have hv8:=hv7.below hb8 hv7.lt
     have hnm8:=hnm7.below hb8
     have hm8:=hm7.below hb8 hm7.lt
     have hvlt7:=hv7.lt
     have htcv:vb<tc:=by rw [Htc.out];exact hvlt7
     rw [←Htc.out]at hx8⊢
     generalize w7.alloc (.cells #[.int .i64 ex, .bool true] 87)=w8 at*
     clear hX7 hv7 hnm7 hm7 hb8
     have c5:=hv8.cell 5 _ rfl
     have f5:=hv8.frozen 5
     have c6:=hv8.cell 6 _ rfl
     have f6:=hv8.frozen 6
     have hv9:Blk ((w8.setCell ⟨vb,5,none⟩ (.int .i64 ex)).setCell ⟨vb,6,none⟩ (.bool true)) vb 102 [Str dom,Str s2, .slice (some ⟨g8,o8,none⟩) NM.length c8, .int .i64 tm, .bool true, .int .i64 ex, .bool true, .nilIface]:=(hv8.set 5 (.int .i64 ex)).set 6 (.bool true)
     have hF9:Frm (· =vb) w8 ((w8.setCell ⟨vb,5,none⟩ (.int .i64 ex)).setCell ⟨vb,6,none⟩ (.bool true)):=Frm.setCell (S:=(· =vb)) (Frm.setCell (S:=(· =vb)) (Frm.refl _ w8) ⟨vb,5,none⟩ _ (fun _=>rfl)) ⟨vb,6,none⟩ _ (fun _=>rfl)
     have hX9:Below vb w ((w8.setCell ⟨vb,5,none⟩ (.int .i64 ex)).setCell ⟨vb,6,none⟩ (.bool true)):=(hX8.setCell (p:=⟨vb,5,none⟩) (Nat.le_refl _) _).setCell (p:=⟨vb,6,none⟩) (Nat.le_refl _) _
     have hm9:=hm8.frm hF9 (by omega)
     have hnm9:=hnm8.frm hF9 (fun k hk e=>by have hk:g8=k:=Option.some.inj hk;have:=hvb.lt;omega)
     have t0:=hx8.cell 0 _ rfl
     have t1:=hx8.cell 1 _ rfl
     have hx9:Blk ((w8.setCell ⟨vb,5,none⟩ (.int .i64 ex)).setCell ⟨vb,6,none⟩ (.bool true)) tc 87 [.int .i64 ex, .bool true]:=hx8.frm hF9 (by omega)
     clear hX8 hv8 hnm8 hm8 hF9 hx8
     go_upto_region 44 with fail
     generalize(w8.setCell ⟨vb,5,none⟩ (.int .i64 ex)).setCell ⟨vb,6,none⟩ (.bool true)=w9 at*
     have hvo9:Blk w9 vo 99 (voCells rc now):=hvo.below hX9 hlv.2.2.2.1
     have o2:=hvo9.cell 2 _ rfl
     have o3:=hvo9.cell 3 _ rfl
     have t0:=hx9.cell 0 _ rfl
     have t1:=hx9.cell 1 _ rfl
     have hc116: ∀z,Below w9.heap.size w9 z→Calls Tryz.prog 116 #[.agg #[.int .i64 now, .bool true], .agg #[.int .i64 ex, .bool true]] z fun e w'=>e= .returned (.bool (decide ((ex:Int)<(now:Int))))∧Below w9.heap.size w9 w':=fun z hz=>(timeAfter_any now ex true true z).mono (by
      rintro e w' ⟨rfl,hb⟩
      exact⟨rfl,hz.trans (hb.mono hz.size)⟩)
     by_cases hla:ex<now
     ·have hlb:decide ((ex:Int)<(now:Int))=true:=by simp;omega
      rw [hlb]at hc116
      have Hc116:=Lib.hid hc116
      have hj2: ∀z:BS,ErrK (.iface 209 (Str z)) jc:=fun z=> .inr (.inr ⟨by rw [Hj.out];unfold verCode;rw [if_pos ⟨hz,hla⟩],z,rfl⟩)
      clear hc116 hlb hla Hj hz
      go_region_held3 (fun ww=>ww.cell? ⟨vo,2,none⟩=some (.int .i64 now)∧ww.cell? ⟨vo,3,none⟩=some (.bool true)∧ww.cell? ⟨tc,0,none⟩=some (.int .i64 ex)∧ww.cell? ⟨tc,1,none⟩=some (.bool true))
       (first|exact⟨bcell hb10 o2,bcell hb10 o3,bcell hb10 t0,bcell hb10 t1⟩|go_keep)
       (first
         |(go_at_call 116;refine(Hc116.out _ (bdw (Below.refl _ _))).mono ?_;rintro e w10 ⟨he,hb10⟩;subst he)
         |fail)
      all_goals
       have hXz:=hX9.trans (hb10.mono (by have:=hv9.lt;omega))
       have hbB:Frm SS w0 w10:=hb0.after (Frm.of_below hXz) (fun i hi e=>by omega)
       have hvz:=hv9.below hb10 hv9.lt
       have hVB:VBlk w10 vb:=⟨_,_,_,_,_,_,_,_,_,_,rfl,hvz⟩
       go_wp2_with fail
       go_ret2
       exact⟨_,rfl,hj2 _,hVB,hbB⟩
     ·have hlb:decide ((ex:Int)<(now:Int))=false:=by simp;omega
      rw [hlb]at hc116
      have Hc116:=Lib.hid hc116
      have HJ2:Hid (jc=recCode rec fun key=>(sha (bodyOf bfm body)==x)&&judgedS hfm key FS NM sf s):=by
       have h:=Hj.out
       unfold verCode at h
       rw [if_neg (fun h=>hla h.2)]at h
       exact h
      clear hc116 hlb hla Hj hz
      go_region_held3 (fun ww=>ww.cell? ⟨vo,2,none⟩=some (.int .i64 now)∧ww.cell? ⟨vo,3,none⟩=some (.bool true)∧ww.cell? ⟨tc,0,none⟩=some (.int .i64 ex)∧ww.cell? ⟨tc,1,none⟩=some (.bool true))
       (first|exact⟨bcell hb10 o2,bcell hb10 o3,bcell hb10 t0,bcell hb10 t1⟩|go_keep)
       (first
         |(go_at_call 116;refine(Hc116.out _ (bdw (Below.refl _ _))).mono ?_;rintro e w10 ⟨he,hb10⟩;subst he)
         |fail)
      all_goals
       have hXz:=hX9.trans (hb10.mono (by have:=hv9.lt;omega))
       have hvz:=hv9.below hb10 hv9.lt
       have hnmz:=hnm9.below hb10
       have hmz:=hm9.below hb10 hm9.lt
       have hbB:Frm SS w0 w10:=hb0.after (Frm.of_below hXz) (fun i hi e=>by omega)
       have hGz:Glo B w10:=hG.below (hXz.mono (Nat.le_trans hB0 hrB.2.2))
       have hhdz:Rd w10 hv (strs FS):=hhd.frm (Frm.of_below hXz) (fun k hk e=>by have:=hhl k hk;omega)
       have hbioz:=hbio.below hXz hlv.1 hlv.2.1 hlv.2.2.1
       have hVB:VBlk w10 vb:=⟨_,_,_,_,_,_,_,_,_,_,rfl,hvz⟩
       have hvd:=hvz.cell 0 _ rfl
       have hvoz:Blk w10 vo 99 (voCells rc now):=hvo.below hXz hlv.2.2.2.1
       have hrcz:Blk w10 rc TR [rv]:=hrc.below hXz hlv.2.2.2.2
       have hvl:=hvz.lt
       have hg8l:g8<w10.heap.size:=rd_lt hnmz (by simp [strs,hNO.ne]) g8 rfl
       have hnz: ∀k,k=rg∨k=rh→k≠vb∧k≠mb∧k≠g8∧hv.ownBlock≠some k:=fun k hk=>by
        have h1:=hne k hk
        have h2:=hvb.lt
        refine⟨?_,?_,?_,h1⟩<;>rcases hk with e|e<;>omega
       go_upto_region 46 with fail
       exact ver2 B B0 vb vo rc rg rh bb mb n g8 o8 c8 jc i4 r4 n4 TR now hv rv rd rec FS NM sf x s kind dom sel hfm bfm body m cs T SS w0 w10 hGz hB0 hbB hSS hhdz hnmz hmz hT hT2 hVB hvd hvoz hrcz (hri w10 hXz) hkk hrk hbioz hrest ⟨hrB.1,hrB.2.1⟩ hml hbl hmB hnz (fun k hk=>Nat.lt_trans (hhl k hk) hvl) hg8l hFS lF hNM lNM hF0 hNO.ne hsp hsl2 hhf hbf hxl hsl hdl hsd HJ2 _ (by assumption)
   ·have hc89:Calls Tryz.prog 89 #[Str NM[k], .string ⟨#[102,114,111,109]⟩] wr fun e w'=>e= .returned (.bool false)∧Below wr.heap.size wr w':=by
     refine(zzEqualFold_any NM[k] fromS wr (by omega) (by decide) hmk.2 (by decide)).mono ?_
     rintro e w' ⟨rfl,hb⟩
     refine⟨?_,hb⟩
     have:(lower NM[k]==lower fromS)=false:=by rw [beq_eq_false_iff_ne];exact hfr
     rw [this]
    have H2:Hid (∀z∈NM.take (k+1),lower z≠fromS):=by
     show∀z∈NM.take (k+1),_
     intro z hz
     rw [List.take_succ_eq_append_getElem hlt]at hz
     rcases List.mem_append.1 hz with hz|hz
     ·exact H.out z hz
     ·rw [List.mem_singleton.1 hz];exact hfr
    clear hfr H
    go_wp2_with fail
    refine hc89.mono ?_
    rintro e w2 ⟨rfl,hb2⟩
    have hb12:=hbx.trans (hb2.mono hbx.size)
    clear hck hbx hb2 hc89
    go_wp2_with fail
    go_roundw
    case rel=>exact⟨k+1,hlt,rfl,by go_num,H2,hb12⟩
    case measure=>simp [intOf];omega
  ·exfalso
   obtain⟨z,hz,hzf⟩:=hNO.from_
   exact H.out z (by rw [List.take_of_length_le (by omega)];exact hz) hzf
def reqL:List BS:= [[118],[97],[98],[98,104],[100],[104],[115]]
def ReqT (B:Nat)(w:World):Prop:= ∃gr og cr,w.cell? ⟨1,0,none⟩=some (.slice (some ⟨gr,og,none⟩) 7 cr)∧gr<B∧1<B∧∀k u,reqL[k]?=some u→w.cell? ⟨gr,og+k,none⟩=some (Str u)
theorem ReqT.below {B:Nat} {w w':World} (h:ReqT B w)(hb:Below B w w'):ReqT B w':=by
 obtain⟨gr,og,cr,h1,h2,h3,h4⟩:=h
 exact⟨gr,og,cr,(hb.cell (p:=⟨1,0,none⟩) h3).trans h1,h2,h3,fun k u hu=>(hb.cell (p:=⟨gr,og+k,none⟩) h2).trans (h4 k u hu)⟩
structure DLk (T:List Tag)(dom ident:BS):Prop where
 v:look [118] T=some [49]
 d:look [100] T=some dom
 i:look [105] T=if ident= []then none else some ident
 all: ∀t∈reqL,(look t T).isSome=true
theorem verify_any (B B0 vo rc rg rh bb jc i4 r4 n4 tm ex now:Nat)(TR:TypeId)(hv rv rd:Value)(rec:Option BS)(FS NM:List BS)(sf sl x s kind dom ident sel hfm bfm body m cs:BS)(T:List Tag)(SS:Nat→Prop)(w0:World)
 (hG:Glo B w0)(hR:ReqT B w0)(hB0:B≤B0)(hB1:B0≤w0.heap.size)(hSS:SS rg∧SS rh)(hhd:Rd w0 hv (strs FS))(hpm:pmap sl=some T)(hT:SLk T hfm bfm x s)(hT2:KLk2 T sel kind)(hT3:TLk T NM tm ex)(hT4:DLk T dom ident)(hvo:Blk w0 vo 99 (voCells rc now))(hrc:Blk w0 rc TR [rv])(hri: ∀w',Below w0.heap.size w0 w'→RecIn w' rv (rec.map fun k=>(sel++dkS++dom,recK kind k)))(hkk:kind=edS∨kind=rsaS)(hrk: ∀k,rec=some k→KeyOk kind k∧k.length≤1000000)
 (hbio:Bio w0 rg bb rh rd m i4 r4 n4 cs)(hrest:bioRest m i4 r4 n4 cs=body)(hrB:B0≤rg∧B0≤rh)(hml:m.length≤10000000)(hbl:body.length≤10000000)
 (hne: ∀k,k=rg∨k=rh→hv.ownBlock≠some k)(hhl: ∀k,hv.ownBlock=some k→k<w0.heap.size)
 (hFS: ∀f∈FS,f.length≤8000000∧plain f=true)(lF:FS.length≤1000000)(hNM: ∀x∈NM,x.length≤400000∧plain x=true)(lNM:NM.length≤20000)(hF0:FS≠ [])(hNO:NamesOk NM)(hjl:(joinC NM).length≤4294967296)(hsp:plain sf=true)(hsl2:sf.length≤8000000)(hslp:plain sl=true)(hsll:sl.length≤8000000)(hhf:formOk hfm)(hbf:formOk bfm)(hxl:x.length≤100)(hsl:s.length≤100)(hdl:dom.length≤1000000∧sel.length≤1000000)(hsd:plain sel=true∧strip sel=sel)(htm:tm<8589934592)(hex:ex<8589934592)
 (hid:ident= []∨ident= [64]++dom∨ident=joeS++dom)(hdo:plain dom=true∧strip dom=dom)
 (Hj:Hid (jc=verCode ex now rec fun key=>(sha (bodyOf bfm body)==x)&&judgedS hfm key FS NM sf s)):
 Calls Tryz.prog 90 #[hv, .iface 156 (.pointer (some ⟨rg,0,none⟩)),Str sf,Str sl, .pointer (some ⟨vo,0,none⟩)] w0 (VPost w0 SS w0.heap.size jc):=by
 have hb1:=(Below.refl w0.heap.size w0).alloc (Nat.le_refl _) (.cells #[Str [],Str [], .slice none 0 0, .int .i64 0, .bool false, .int .i64 0, .bool false, .nilIface] 102)
 have hv1:=Blk.new w0 102 #[Str [],Str [], .slice none 0 0, .int .i64 0, .bool false, .int .i64 0, .bool false, .nilIface]
 simp only [Array.toList]at hv1
 obtain⟨vb,Hvb⟩: ∃z,Hid (z=w0.heap.size):=⟨_,Lib.hid rfl⟩
 have hlt:=hbio.lt
 have hvolt:=hvo.lt
 have hrclt:=hrc.lt
 have hsz1:(w0.alloc (.cells #[Str [],Str [], .slice none 0 0, .int .i64 0, .bool false, .int .i64 0, .bool false, .nilIface] 102)).heap.size=w0.heap.size+1:=by simp
 rw [←Hvb.out]at hb1 hv1 hri hhl hlt hvolt hrclt hsz1 hB1
 have hlv:rg<vb∧bb<vb∧rh<vb∧vo<vb∧rc<vb:=⟨hlt.1,hlt.2.1,hlt.2.2,hvolt,hrclt⟩
 rw [←Hvb.out]
 go_enter Tryz.func90,Tryz.ntmps90
 go_upto_region 2 with fail
 rw [←Hvb.out]
 generalize w0.alloc (.cells #[Str [],Str [], .slice none 0 0, .int .i64 0, .bool false, .int .i64 0, .bool false, .nilIface] 102)=w1 at*
 go_wp2_with fail
 refine(parseHeaderParams_any sl T w1 (by omega) hslp hpm).mono ?_
 rintro e w2 ⟨mb,n,rfl,hmb,hm2,_,hb2⟩
 have hvl:=hv1.lt
 have hX2:Below vb w0 w2:=hb1.trans (hb2.mono (Nat.le_of_lt hvl))
 have hv2:=hv1.below hb2 hvl
 have l1:(Instr.lookup 179 (.map (some mb)) (.string ⟨#[118]⟩) false).run Tryz.prog w2= .ok (.string ⟨#[49]⟩) w2:=(look_run hm2 [118] (by decide) _ hT4.v).2
 have l2:(Instr.lookup 179 (.map (some mb)) (.string ⟨#[100]⟩) false).run Tryz.prog w2= .ok (Str dom) w2:=(look_run hm2 [100] (by decide) _ hT4.d).2
 clear hb1 hv1 hb2
 go_wp2_with fail
 refine(stW_any dom w2 (by omega) hdo.1).mono ?_
 rintro e w3 ⟨rfl,hb3⟩
 rw [hdo.2]
 have hv3:=hv2.below hb3 hv2.lt
 have hX3:Below vb w0 w3:=hX2.trans (hb3.mono (Nat.le_of_lt hv2.lt))
 have hm3:=hm2.below hb3 hm2.lt
 have hvmb:vb<mb:=by omega
 have c0:=hv3.cell 0 _ rfl
 have f0:=hv3.frozen 0
 have hv4:Blk (w3.setCell ⟨vb,0,none⟩ (Str dom)) vb 102 [Str dom,Str [], .slice none 0 0, .int .i64 0, .bool false, .int .i64 0, .bool false, .nilIface]:=hv3.set 0 (Str dom)
 have hX4:Below vb w0 (w3.setCell ⟨vb,0,none⟩ (Str dom)):=hX3.setCell (p:=⟨vb,0,none⟩) (Nat.le_refl _) _
 have hF4:Frm (· =vb) w3 (w3.setCell ⟨vb,0,none⟩ (Str dom)):=Frm.setCell (S:=(· =vb)) (Frm.refl _ w3) ⟨vb,0,none⟩ _ (fun _=>rfl)
 have hm4:=hm3.frm hF4 (by omega)
 obtain⟨gr,og,cr,q1,q2,q3,q4⟩:=hR.below (hX4.mono (Nat.le_trans hB0 hB1))
 have Q4:=Lib.hid q4
 clear q4
 clear l1 l2 hX2 hv2 hm2 hb3
 go_upto_region 8 with fail
 generalize w3.setCell ⟨vb,0,none⟩ (Str dom)=w4 at*
 clear c0 f0 hv3 hX3 hm3 hF4
 go_wp2_with fail
 go_loopw [99] (fun v99 wx=> ∃k:Nat,k≤7∧v99= .int .i64 k∧wx=w4) (fun v99 _=>7-(intOf v99).toNat)
 case atStart=>exact⟨0,by omega,rfl,rfl⟩
 case round=>
  obtain⟨k,hk7,rfl,rfl⟩:=hrel
  by_cases hlt7:k<7
  ·have hk0:(0:Int)≤(k:Int):=by omega
   have hk1:(k:Int)<7:=by omega
   have hkr:k<reqL.length:=hlt7
   obtain⟨tg,htg⟩: ∃z,Hid (z=reqL[k]):=⟨_,Lib.hid rfl⟩
   have hck:wr.cell? ⟨gr,og+k,none⟩=some (Str tg):=by rw [htg.out];exact Q4.out k _ (List.getElem?_eq_getElem hkr)
   have htl:tg.length≤1000:=by
    rw [htg.out]
    have: ∀t∈reqL,t.length≤1000:=by decide
    exact this _ (List.getElem_mem hkr)
   have hlk:=run_mapS_ok hm4 tg (by omega)
   have hsm:(look tg T).isSome=true:=by rw [htg.out];exact hT4.all _ (List.getElem_mem hkr)
   rw [hsm]at hlk
   clear hsm htl
   go_wp2_with fail
   go_roundw
   case rel=>exact⟨k+1,by omega,by go_num,trivial⟩
   case measure=>simp [intOf];omega
  ·obtain rfl:k=7:=by omega
   have li0:=(look_run hm4 [105] (by decide) _ hT4.i).1
   clear q1 Q4
   rcases hid with hid|hid|hid
   ·subst hid
    have li:(Instr.lookup 179 (.map (some mb)) (.string ⟨#[105]⟩) true).run Tryz.prog wr= .ok (.tuple #[.string ⟨#[]⟩, .bool false]) wr:=li0
    have c0:=hv4.cell 0 _ rfl
    have c1:=hv4.cell 1 _ rfl
    have f1:=hv4.frozen 1
    have hv5:Blk (wr.setCell ⟨vb,1,none⟩ (Str (64::dom))) vb 102 [Str dom,Str (64::dom), .slice none 0 0, .int .i64 0, .bool false, .int .i64 0, .bool false, .nilIface]:=hv4.set 1 (Str (64::dom))
    have hX5:Below vb w0 (wr.setCell ⟨vb,1,none⟩ (Str (64::dom))):=hX4.setCell (p:=⟨vb,1,none⟩) (Nat.le_refl _) _
    have hF5:Frm (· =vb) wr (wr.setCell ⟨vb,1,none⟩ (Str (64::dom))):=Frm.setCell (S:=(· =vb)) (Frm.refl _ wr) ⟨vb,1,none⟩ _ (fun _=>rfl)
    have hm5:=hm4.frm hF5 (by omega)
    have ldm:dom.length≤1000000:=hdl.1
    clear li0 hF5
    go_upto_region 21 with fail
    generalize wr.setCell ⟨vb,1,none⟩ (Str (64::dom))=wz at*
    have hXz:=hX5
    have hvz:=hv5
    have hmz:=hm5
    clear li c0 c1 f1
    have hbB:Frm SS w0 wz:=(Frm.of_below hXz).mono (fun k hk e=>absurd hk (by have:=Hvb.out;omega))
    have hGz:Glo B wz:=hG.below (hXz.mono (Nat.le_trans hB0 hB1))
    have hhdz:Rd wz hv (strs FS):=hhd.frm (Frm.of_below hXz) (fun k hk e=>by have:=hhl k hk;omega)
    have hbioz:=hbio.below hXz hlv.1 hlv.2.1 hlv.2.2.1
    have hvoz:Blk wz vo 99 (voCells rc now):=hvo.below hXz hlv.2.2.2.1
    have hrcz:Blk wz rc TR [rv]:=hrc.below hXz hlv.2.2.2.2
    have hriz: ∀w',Below vb wz w'→RecIn w' rv (rec.map fun k=>(sel++dkS++dom,recK kind k)):=fun w' h=>hri w' (hXz.trans h)
    go_upto_region 21 with fail
    exact ver1b B B0 vb vo rc rg rh bb mb n jc i4 r4 n4 tm ex now TR hv rv rd rec FS NM sf x s kind dom (64::dom) sel hfm bfm body m cs T SS w0 wz hGz hB0 hbB hSS (Nat.le_of_eq Hvb.out.symm) hhdz hmz hT hT2 hT3 hvz hvoz hrcz hriz hkk hrk hbioz hrest ⟨hrB.1,hrB.2,hB1⟩ hml hbl (by omega) hne (by omega) hlv hhl hFS lF hNM lNM hF0 hNO hjl hsp hsl2 hhf hbf hxl hsl hdl hsd htm hex Hj _ (by assumption)
   ·have lid:ident.length≤2000000:=by rw [hid];simp [joeS];omega
    have pid:plain ident=true∧strip ident=ident:=by
     rw [hid]
     refine⟨plain_app.2 ⟨by decide,hdo.1⟩,?_⟩
     have:strip ([64]++dom)=strip [64]++strip dom:=by unfold strip;rw [List.filter_append]
     rw [this,hdo.2];rfl
    have hne0:ident≠ []:=by rw [hid];simp [joeS]
    rw [if_neg hne0]at li0
    have li:(Instr.lookup 179 (.map (some mb)) (.string ⟨#[105]⟩) true).run Tryz.prog wr= .ok (.tuple #[Str ident, .bool true]) wr:=li0
    have h1:endsB ident (64::dom)=true:=by rw [hid];unfold endsB;simp
    clear li0 hid hne0
    go_wp2_with fail
    refine(stW_any ident wr (by omega) pid.1).mono ?_
    rintro e w5 ⟨rfl,hb5⟩
    rw [pid.2]
    have hv5:=hv4.below hb5 hv4.lt
    have hX5:Below vb w0 w5:=hX4.trans (hb5.mono (Nat.le_of_lt hv4.lt))
    have hm5:=hm4.below hb5 hm4.lt
    have c1:=hv5.cell 1 _ rfl
    have f1:=hv5.frozen 1
    have hv6:Blk (w5.setCell ⟨vb,1,none⟩ (Str ident)) vb 102 [Str dom,Str ident, .slice none 0 0, .int .i64 0, .bool false, .int .i64 0, .bool false, .nilIface]:=hv5.set 1 (Str ident)
    have hX6:Below vb w0 (w5.setCell ⟨vb,1,none⟩ (Str ident)):=hX5.setCell (p:=⟨vb,1,none⟩) (Nat.le_refl _) _
    have hF6:Frm (· =vb) w5 (w5.setCell ⟨vb,1,none⟩ (Str ident)):=Frm.setCell (S:=(· =vb)) (Frm.refl _ w5) ⟨vb,1,none⟩ _ (fun _=>rfl)
    have hm6:=hm5.frm hF6 (by omega)
    have ldm:dom.length≤1000000:=hdl.1
    clear li hF6 hX5 hm5 hb5
    go_upto_region 18 with fail
    generalize w5.setCell ⟨vb,1,none⟩ (Str ident)=w6 at*
    clear c1 f1 hv5
    have d0:=hv6.cell 0 _ rfl
    have d1:=hv6.cell 1 _ rfl
    have hcE: ∀(y:BS) (ww:World),y.length≤1000001→Calls Tryz.prog 114 #[Str ident,Str y] ww fun e w'=>e= .returned (.bool (endsB ident y))∧w'=ww:=fun y ww hy=>hasSuffix_any ident y ww (by omega) (by omega)
    have HcE:=Lib.hid hcE
    clear hcE
    go_quiet ((go_at_call 114;refine Calls.quiet_of_same (HcE.out _ _ ?_);simp;omega))
    generalize hwd:w6.drewN nq=wz
    have hXz:Below vb w0 wz:=by rw [←hwd];exact bdN hX6 _
    have hvz:Blk wz vb 102 [Str dom,Str ident, .slice none 0 0, .int .i64 0, .bool false, .int .i64 0, .bool false, .nilIface]:=by rw [←hwd];exact hv6
    have hmz:MapS wz mb n (fun k=>look k T):=by rw [←hwd];exact hm6
    clear hwd d0 d1 hX6 hv6 hm6
    have hbB:Frm SS w0 wz:=(Frm.of_below hXz).mono (fun k hk e=>absurd hk (by have:=Hvb.out;omega))
    have hGz:Glo B wz:=hG.below (hXz.mono (Nat.le_trans hB0 hB1))
    have hhdz:Rd wz hv (strs FS):=hhd.frm (Frm.of_below hXz) (fun k hk e=>by have:=hhl k hk;omega)
    have hbioz:=hbio.below hXz hlv.1 hlv.2.1 hlv.2.2.1
    have hvoz:Blk wz vo 99 (voCells rc now):=hvo.below hXz hlv.2.2.2.1
    have hrcz:Blk wz rc TR [rv]:=hrc.below hXz hlv.2.2.2.2
    have hriz: ∀w',Below vb wz w'→RecIn w' rv (rec.map fun k=>(sel++dkS++dom,recK kind k)):=fun w' h=>hri w' (hXz.trans h)
    go_upto_region 21 with fail
    exact ver1b B B0 vb vo rc rg rh bb mb n jc i4 r4 n4 tm ex now TR hv rv rd rec FS NM sf x s kind dom ident sel hfm bfm body m cs T SS w0 wz hGz hB0 hbB hSS (Nat.le_of_eq Hvb.out.symm) hhdz hmz hT hT2 hT3 hvz hvoz hrcz hriz hkk hrk hbioz hrest ⟨hrB.1,hrB.2,hB1⟩ hml hbl (by omega) hne (by omega) hlv hhl hFS lF hNM lNM hF0 hNO hjl hsp hsl2 hhf hbf hxl hsl hdl hsd htm hex Hj _ (by assumption)
   ·have lid:ident.length≤2000000:=by rw [hid];simp [joeS];omega
    have pid:plain ident=true∧strip ident=ident:=by
     rw [hid]
     refine⟨plain_app.2 ⟨by decide,hdo.1⟩,?_⟩
     have:strip (joeS++dom)=strip joeS++strip dom:=by unfold strip;rw [List.filter_append]
     rw [this,hdo.2];rfl
    have hne0:ident≠ []:=by rw [hid];simp [joeS]
    rw [if_neg hne0]at li0
    have li:(Instr.lookup 179 (.map (some mb)) (.string ⟨#[105]⟩) true).run Tryz.prog wr= .ok (.tuple #[Str ident, .bool true]) wr:=li0
    have h1:endsB ident (64::dom)=false:=by
     rw [hid];unfold endsB
     have:(joeS++dom).drop ((joeS++dom).length-(64::dom).length)=46::dom:=by
      rw [show(joeS++dom).length-(64::dom).length=7 by simp [joeS]];rfl
     rw [this];simp
    have h2:endsB ident (46::dom)=true:=by
     rw [hid];unfold endsB
     have:(joeS++dom).drop ((joeS++dom).length-(46::dom).length)=46::dom:=by
      rw [show(joeS++dom).length-(46::dom).length=7 by simp [joeS]];rfl
     rw [this];simp [joeS]
    clear li0 hid hne0
    go_wp2_with fail
    refine(stW_any ident wr (by omega) pid.1).mono ?_
    rintro e w5 ⟨rfl,hb5⟩
    rw [pid.2]
    have hv5:=hv4.below hb5 hv4.lt
    have hX5:Below vb w0 w5:=hX4.trans (hb5.mono (Nat.le_of_lt hv4.lt))
    have hm5:=hm4.below hb5 hm4.lt
    have c1:=hv5.cell 1 _ rfl
    have f1:=hv5.frozen 1
    have hv6:Blk (w5.setCell ⟨vb,1,none⟩ (Str ident)) vb 102 [Str dom,Str ident, .slice none 0 0, .int .i64 0, .bool false, .int .i64 0, .bool false, .nilIface]:=hv5.set 1 (Str ident)
    have hX6:Below vb w0 (w5.setCell ⟨vb,1,none⟩ (Str ident)):=hX5.setCell (p:=⟨vb,1,none⟩) (Nat.le_refl _) _
    have hF6:Frm (· =vb) w5 (w5.setCell ⟨vb,1,none⟩ (Str ident)):=Frm.setCell (S:=(· =vb)) (Frm.refl _ w5) ⟨vb,1,none⟩ _ (fun _=>rfl)
    have hm6:=hm5.frm hF6 (by omega)
    have ldm:dom.length≤1000000:=hdl.1
    clear li hF6 hX5 hm5 hb5
    go_upto_region 18 with fail
    generalize w5.setCell ⟨vb,1,none⟩ (Str ident)=w6 at*
    clear c1 f1 hv5
    have d0:=hv6.cell 0 _ rfl
    have d1:=hv6.cell 1 _ rfl
    have hcE: ∀(y:BS) (ww:World),y.length≤1000001→Calls Tryz.prog 114 #[Str ident,Str y] ww fun e w'=>e= .returned (.bool (endsB ident y))∧w'=ww:=fun y ww hy=>hasSuffix_any ident y ww (by omega) (by omega)
    have HcE:=Lib.hid hcE
    clear hcE
    go_quiet ((go_at_call 114;refine Calls.quiet_of_same (HcE.out _ _ ?_);simp;omega))
    generalize hwd:w6.drewN nq=wz
    have hXz:Below vb w0 wz:=by rw [←hwd];exact bdN hX6 _
    have hvz:Blk wz vb 102 [Str dom,Str ident, .slice none 0 0, .int .i64 0, .bool false, .int .i64 0, .bool false, .nilIface]:=by rw [←hwd];exact hv6
    have hmz:MapS wz mb n (fun k=>look k T):=by rw [←hwd];exact hm6
    clear hwd d0 d1 hX6 hv6 hm6
    have hbB:Frm SS w0 wz:=(Frm.of_below hXz).mono (fun k hk e=>absurd hk (by have:=Hvb.out;omega))
    have hGz:Glo B wz:=hG.below (hXz.mono (Nat.le_trans hB0 hB1))
    have hhdz:Rd wz hv (strs FS):=hhd.frm (Frm.of_below hXz) (fun k hk e=>by have:=hhl k hk;omega)
    have hbioz:=hbio.below hXz hlv.1 hlv.2.1 hlv.2.2.1
    have hvoz:Blk wz vo 99 (voCells rc now):=hvo.below hXz hlv.2.2.2.1
    have hrcz:Blk wz rc TR [rv]:=hrc.below hXz hlv.2.2.2.2
    have hriz: ∀w',Below vb wz w'→RecIn w' rv (rec.map fun k=>(sel++dkS++dom,recK kind k)):=fun w' h=>hri w' (hXz.trans h)
    go_upto_region 21 with fail
    exact ver1b B B0 vb vo rc rg rh bb mb n jc i4 r4 n4 tm ex now TR hv rv rd rec FS NM sf x s kind dom ident sel hfm bfm body m cs T SS w0 wz hGz hB0 hbB hSS (Nat.le_of_eq Hvb.out.symm) hhdz hmz hT hT2 hT3 hvz hvoz hrcz hriz hkk hrk hbioz hrest ⟨hrB.1,hrB.2,hB1⟩ hml hbl (by omega) hne (by omega) hlv hhl hFS lF hNM lNM hF0 hNO hjl hsp hsl2 hhf hbf hxl hsl hdl hsd htm hex Hj _ (by assumption)
structure SgOk (o:Opt)(F:List BS)(b M:BS)(P F':List BS)(b':BS):Prop where
 msg:SgMsg o F b M P F' b'
 plain:plain M=true
 len:M.length≤8000000
 flen: ∀f∈P++F',f.length≤1000000
 fcnt:(P++F').length≤100000
 blen:b'.length≤1000000
 sgp:Go.Proofs.YtgilnagajcfkpaaGreatDoor.plain (signed o F b)=true∧(signed o F b).length≤7000044
 nm: ∀x∈namesOf o F,x.length≤400000∧Go.Proofs.YtgilnagajcfkpaaGreatDoor.plain x=true
 nmc:(namesOf o F).length≤20000
 nmj:(joinC (namesOf o F)).length≤400000
theorem Tryz.info164:(Tryz.prog.info? 164).map (fun i=>(i.zero,i.size,i.bytes))=some (some (.pointer none),1,8):=by kernel_rfl
theorem Tryz.und161:Tryz.prog.underlying 161=some (.slice 164):=by kernel_rfl
theorem appP {ops:Array Oper} {rest:List Oper} {o:Oper} {a:Act} {Q:Exit→Act→World→Prop} {w:World} {B:Nat} {v xv:Value} (hgd:o.guard=none)(s x:Operand)(ho:o.op= .call { callee:= .builtin .append,args:= #[s,x],argTypes:= #[161,161] })
 (l news:List Value)(hs:a.eval s=v)(hown:OwnAt w B 164 v l)(hxv:a.eval x=xv)(hx:Src Tryz.prog w xv news)(hn:l.length+news.length≤8796093022208)(hB:B≤w.heap.size)
 (h: ∀v' w',OwnAt w' B 164 v' (l++news)→w.grownBy w' v.ownBlock→Below B w w'→(v'.ownBlock=v.ownBlock∨v'.ownBlock=some w.heap.size)→wpList Tryz.prog ops Q rest (a.put o.dst v') w'):wpList Tryz.prog ops Q (o::rest) a w:=by
 obtain⟨i,hi,hz,hs1,hb⟩:=info_parts Tryz.info164
 refine wpList_plain hgd fun K hK=>wp_app s x 161 161 ho B 164 i _ 8 Tryz.und161 (.inr ⟨_,Tryz.und161⟩) hi hz hs1 hb rfl v _ hs hown xv _ hxv hx ?_ ?_ hB fun v' w' h2 h3 h4=>hK _ _ (h v' w' h2 h3 (grown_below hown h3 hB) h4)
 ·simp only [maxLen];omega
 ·omega
theorem vcode_eq (o:Opt)(F:List BS)(b:BS)(FS:List BS)(b':BS)(rec:Option BS)(now:Nat):
 vcode o F b FS b' rec now=verCode o.exp now rec fun key=>(sha (bodyOf (formOf o.bdy) b')==sha (bodyOf (formOf o.bdy) b))&&judgedS (formOf o.hdr) key FS (namesOf o F) (signed o F b) (sigOf o F b):=by
 unfold vcode verCode
 split
 ·rfl
 ·cases rec with
  |none=>rfl
  |some k=>rfl
theorem sig_looks {o:Opt} {F:List BS} {b:BS} (ho:OptOk o)(hn:NamesOk (namesOf o F)): ∃T,pmap (trim (cutAt 58 (signed o F b)).2.1)=some T∧SLk T (formOf o.hdr) (formOf o.bdy) (sha (bodyOf (formOf o.bdy) b)) (sigOf o F b)∧KLk2 T o.sel o.kind∧TLk T (namesOf o F) o.now o.exp∧DLk T o.dom o.ident:=by
 have hp:=(pmap_signed ho hn (word_enc (sha (bodyOf (formOf o.bdy) b))) (word_enc (sigOf o F b))).2
 have hT:=sigTags_p o (namesOf o F) (enc64 (sha (bodyOf (formOf o.bdy) b))) (enc64 (sigOf o F b))
 refine⟨_,hp,⟨?_,hT.l,hT.bh,hT.b⟩,⟨hT.q,hT.s,hT.a⟩,⟨hT.h,hT.t,hT.x⟩,⟨hT.v,hT.d,hT.i,?_⟩⟩
 ·rw [hT.c];simp
 ·intro t ht
  simp only [reqL,List.mem_cons,List.not_mem_nil,or_false]at ht
  rcases ht with rfl|rfl|rfl|rfl|rfl|rfl|rfl
  ·rw [hT.v];rfl
  ·rw [hT.a];rfl
  ·rw [hT.b];rfl
  ·rw [hT.bh];rfl
  ·rw [hT.d];rfl
  ·rw [hT.h];rfl
  ·rw [hT.s];rfl
def VwoPost (w:World)(B0 jc:Nat)(e:Ending)(w':World):Prop:=
 ∃(l vb:Nat) (ev kv:Value) (s1 s2:BS) (t1 t2:Int) (b1 b2:Bool) (A:Option Addr) (n k:Nat),e= .returned (.tuple #[.slice (some ⟨l,0,none⟩) 1 1, .nilIface])∧ErrK ev jc∧w'.cell? ⟨l,0,none⟩=some (.pointer (some ⟨vb,0,none⟩))∧kv= .slice A n k∧Blk w' vb 102 [Str s1,Str s2,kv, .int .i64 t1, .bool b1, .int .i64 t2, .bool b2,ev]∧Below B0 w w'
theorem vwo_any (B B0 vo rc hh jc now:Nat)(TR:TypeId)(pr:Int)(rv:Value)(rec:Option BS)(o:Opt)(F:List BS)(b M:BS)(P F':List BS)(b':BS)(w:World)(hG:Glo B w)(hR:ReqT B w)(hB0:B≤B0)(hB1:B0≤hh)(H:SgOk o F b M P F' b')
 (hh0:Blk w hh 132 [Str M, .int .i64 0, .int .i64 pr])(hvo:Blk w vo 99 (voCells rc now))(hrc:Blk w rc TR [rv])(hri:RecIn w rv (rec.map fun k=>(o.sel++dkS++o.dom,recK o.kind k)))(hrk: ∀k,rec=some k→KeyOk o.kind k∧k.length≤1000000)(hvh:vo≠hh∧rc≠hh)(hrih: ∀w',Frm (· =hh) w w'→RecIn w' rv (rec.map fun k=>(o.sel++dkS++o.dom,recK o.kind k)))
 (Hj:Hid (jc=vcode o F b (P++signed o F b::F') b' rec now)):
 Calls Tryz.prog 53 #[.iface 76 (.pointer (some ⟨hh,0,none⟩)), .pointer (some ⟨vo,0,none⟩)] w (VwoPost w B0 jc):=by
 have hhl:=hh0.lt
 have hml:=H.len
 go_enter Tryz.func53,Tryz.ntmps53
 go_wp2_with fail
 refine(bioNew2_any (.iface 76 (.pointer (some ⟨hh,0,none⟩))) hh M w (fun g bb _ _=> .inl ⟨rfl,pr,hh0⟩) (by omega) hhl).mono ?_
 rintro e w1 ⟨rfl,hb1,cs,hbio⟩
 obtain⟨rg,Hrg⟩: ∃z,Hid (z=w.heap.size):=⟨_,Lib.hid rfl⟩
 rw [←Hrg.out]at hbio⊢
 have hrg1:w.heap.size≤rg:=Nat.le_of_eq Hrg.out.symm
 have hrg2:rg≤w.heap.size:=Nat.le_of_eq Hrg.out
 have h6:=hG.six
 have hBl:=hG.le
 have hheads:heads (bioRest M 0 0 0 cs)=some (P++signed o F b::F',b'):=by rw [show bioRest M 0 0 0 cs=M by simp [bioRest]];exact H.msg.heads
 have hG1:=hG.above hb1
 go_wp2_with fail
 refine(readHeader_any rg (rg+1) hh _ M 0 0 0 cs _ b' w1 hbio hheads hG1.full ⟨by omega,by omega,by omega⟩).mono ?_
 rintro e w2 ⟨i4,r4,n4,cs4,hv,rfl,hoh,hbio2,hrest,hF2⟩
 have hw1s:rg+2≤w1.heap.size:=by have:=hbio.lt;omega
 have hlt1:=hbio.lt
 have hw2g:rg+2≤w2.heap.size:=Nat.le_trans hw1s hF2.size
 have hX2:Frm (· =hh) w w2:=(Frm.of_new hb1).after hF2 (fun i hi e=>by omega)
 obtain⟨FS,HFS⟩: ∃z,Hid (z=P++signed o F b::F'):=⟨_,Lib.hid rfl⟩
 rw [←HFS.out]at hoh Hj
 have hpl:P.length<FS.length:=by rw [HFS.out];simp
 obtain⟨g5,o5,c5,rfl⟩:=hoh.form_some (by intro e;have h:=congrArg List.length e;rw [stL]at h;simp at h;rw [h]at hpl;simp at hpl)
 rw [stL]at hoh⊢
 have hFp: ∀k (hk:k<FS.length),plain FS[k]=true∧FS[k].length≤8000000∧(lname FS[k]=dkimS↔k=P.length):=by
  intro k hk
  have hp:=(plain_heads H.msg.heads H.plain).1
  rw [←HFS.out]at hp
  refine⟨hp _ (List.getElem_mem hk),?_⟩
  have hmem: ∀k (hk:k<FS.length),k≠P.length→FS[k]∈P++F':=by
   intro k hk hne
   have e:FS[k]=(P++signed o F b::F')[k]'(by rw [←HFS.out];exact hk):=by congr 1
   rw [e,List.getElem_append]
   split
   ·exact List.mem_append_left _ (List.getElem_mem _)
   ·refine List.mem_append_right _ ?_
    have: ∃j,k-P.length=j+1:=⟨k-P.length-1,by omega⟩
    obtain⟨j,hj⟩:=this
    simp only [hj,List.getElem_cons_succ]
    exact List.getElem_mem _
  have hsg: ∀(hk:P.length<FS.length),FS[P.length]=signed o F b:=by
   intro hk
   have e:FS[P.length]=(P++signed o F b::F')[P.length]'(by rw [←HFS.out];exact hk):=by congr 1
   rw [e];simp
  by_cases hkp:k=P.length
  ·subst hkp
   rw [hsg hk]
   exact⟨by have:=H.sgp.2;omega,fun _=>rfl,fun _=>lname_signed H.msg.opt H.msg.nms⟩
  ·have hm:=hmem k hk hkp
   exact⟨by have:=H.flen _ hm;omega,fun e=>absurd e (H.msg.other _ hm),fun e=>absurd e hkp⟩
 have hsgF:FS[P.length]=signed o F b:=by
  have e:FS[P.length]=(P++signed o F b::F')[P.length]'(by simp):=by congr 1
  rw [e];simp
 obtain⟨p,Hp⟩: ∃z,Hid (z=P.length):=⟨_,Lib.hid rfl⟩
 have hFl:FS.length≤200000:=by
  have:=H.fcnt
  rw [HFS.out]
  simp only [List.length_append,List.length_cons]at this⊢
  omega
 have HFp:=Lib.hid hFp
 have Hsg:=Lib.hid hsgF
 clear hFp hheads hbio hb1 hF2 hG1 hsgF
 go_wp2_with fail
 have hlow:lower sigName=dkimS:=by decide
 have hbA:=Below.refl w2.heap.size w2
 obtain⟨VV,HVV⟩: ∃z,Hid (z=trim (cutAt 58 (signed o F b)).2.1):=⟨_,Lib.hid rfl⟩
 go_loopw [9,30] (fun v9 v30 wx=> ∃k:Nat,k≤FS.length∧v30= .int .i64 k∧Below w2.heap.size w2 wx∧((k≤p∧v9= .slice none 0 0)∨(p<k∧∃r ro c sg,(rg<r∧rg<sg)∧v9= .slice (some ⟨r,ro,none⟩) 1 c∧wx.cell? ⟨r,ro,none⟩=some (.pointer (some ⟨sg,0,none⟩))∧Blk wx sg 166 [.int .i64 p,Str VV]))) (fun _ v30 _=>FS.length-(intOf v30).toNat)
 case atStart=>exact⟨0,Nat.zero_le _,rfl,hbA, .inl ⟨Nat.zero_le _,rfl⟩⟩
 case round=>
  obtain⟨k,hkF,rfl,hbx,hor⟩:=hrel
  clear hbA
  by_cases hlt:k<FS.length
  ·have hk0:(0:Int)≤(k:Int):=by omega
   have hk1:(k:Int)<(FS.length:Int):=by omega
   have hck:wr.cell? ⟨g5,o5+k,none⟩=some (Str FS[k]):=bcell hbx (hoh.cell_at k (Str FS[k]) (by simp [strs,hlt])).1
   obtain⟨p1,p2,p3⟩:=HFp.out k hlt
   go_wp2_with fail
   refine(parseHeaderField_any FS[k] wr (by omega) p1).mono ?_
   rintro e w3 ⟨rfl,hb3⟩
   have hb3':=hb3
   have hbx3:=hbx.trans (hb3.mono hbx.size)
   have pn:=plain_name p1
   have ln:=nmLen FS[k]
   have hc89:Calls Tryz.prog 89 #[Str (name FS[k]), .string ⟨#[68,75,73,77,45,83,105,103,110,97,116,117,114,101]⟩] w3 fun e w'=>e= .returned (.bool (decide (k=p)))∧Below w3.heap.size w3 w':=by
    refine(zzEqualFold_any (name FS[k]) sigName w3 (by omega) (by decide) pn (by decide)).mono ?_
    rintro e w' ⟨rfl,hb⟩
    refine⟨?_,hb⟩
    rw [hlow]
    have:(lower (name FS[k])==dkimS)=decide (k=p):=by
     rw [Bool.eq_iff_iff,beq_iff_eq,decide_eq_true_iff,Hp.out];exact p3
    rw [this]
   by_cases hkp:k=p
   ·have hd:decide (k=p)=true:=by simp [hkp]
    rw [hd]at hc89
    have hval:trim (cutAt 58 FS[k]).2.1=VV:=by
     have e:FS[k]=signed o F b:=by rw [←Hsg.out];congr 1;rw [hkp,Hp.out]
     rw [HVV.out,e]
    rw [hval]
    have hkp2:=Lib.hid hkp
    rcases hor with⟨_,rfl⟩|⟨hor,_⟩
    rotate_left
    ·omega
    clear hkp hd hval p3 pn ln hck hbx hb3 hb3'
    go_wp2_with fail
    refine hc89.mono ?_
    rintro e w4 ⟨rfl,hb4⟩
    have hbx4:=hbx3.trans (hb4.mono hbx3.size)
    have hs5:(w4.alloc (.cells #[.int .i64 k,Str VV] 166)).heap.size=w4.heap.size+1:=by simp
    have hsg0:=(Blk.new w4 166 #[.int .i64 k,Str VV]).alloc (.cells #[.pointer (some ⟨w4.heap.size,0,none⟩)] 164)
    have hsrc:=Src.one (P:=Tryz.prog) (w4.alloc (.cells #[.int .i64 k,Str VV] 166)) 164 (.pointer (some ⟨w4.heap.size,0,none⟩)) rfl
    rw [hs5]at hsrc
    have hbA:=((Below.refl w4.heap.size w4).alloc (Nat.le_refl _) (.cells #[.int .i64 k,Str VV] 166)).alloc (by simp) (.cells #[.pointer (some ⟨w4.heap.size,0,none⟩)] 164)
    obtain⟨sg,Hsg2⟩: ∃z,Hid (z=w4.heap.size):=⟨_,Lib.hid rfl⟩
    have hsz2:w4.heap.size≤((w4.alloc (.cells #[.int .i64 k,Str VV] 166)).alloc (.cells #[.pointer (some ⟨w4.heap.size,0,none⟩)] 164)).heap.size:=hbA.size
    clear hc89 hbx3 hb4 hs5
    go_wp2_with (first|(at_builtin;refine appP rfl (.tmp 42) (.tmp 47) rfl [] [.pointer (some ⟨w4.heap.size,0,none⟩)] rfl (OwnAt.nil _ w4.heap.size 164) rfl hsrc (by simp) hsz2 ?_;intro v5 w5 ho5 hg5 hb5 _)|fail)
    obtain⟨r5,ro5,rc5,rfl⟩:=ho5.form_some (by simp)
    have hc5:=(ho5.cell_at 0 _ rfl).1
    have hgt5:rg<r5∧rg<sg:=by have h1:=(ho5.lt r5 rfl).1;have h2:=Hsg2.out;have h3:=hbx4.size;have h4:=hw2g;omega
    have hsg5:=hsg0.grown hg5 (fun e=>by cases e)
    have hbx5:=hbx4.trans ((hbA.trans hb5).mono hbx4.size)
    rw [←Hsg2.out]at hc5 hsg5
    have hsg5:Blk w5 sg 166 [.int .i64 p,Str VV]:=by
     have:=hsg5
     rw [hkp2.out]at this
     exact this
    clear hsg0 hsrc hbA hsz2 hg5 hb5 hbx4 ho5
    go_roundw
    case rel=>exact⟨k+1,hlt,by go_num,hbx5, .inr ⟨by have:=hkp2.out;omega,r5,ro5,rc5,sg,hgt5,rfl,hc5,hsg5⟩⟩
    case measure=>simp [intOf];omega
   ·have hd:decide (k=p)=false:=by simp [hkp]
    rw [hd]at hc89
    clear hd p3 pn ln hck hbx hb3
    go_wp2_with fail
    refine hc89.mono ?_
    rintro e w4 ⟨rfl,hb4⟩
    have hbx4:=hbx3.trans (hb4.mono hbx3.size)
    rcases hor with⟨hor,rfl⟩|⟨hor,r,ro,c,sg,hgt,rfl,h1,h2⟩
    ·clear hc89
     go_wp2_with fail
     go_roundw
     case rel=>exact⟨k+1,hlt,by go_num,hbx4, .inl ⟨by omega,rfl⟩⟩
     case measure=>simp [intOf];omega
    ·have hb34:Below wr.heap.size wr w4:=by
      have:=hb4.size
      exact hb3'.trans (hb4.mono hb3'.size)
     have h1':=bcell hb34 h1
     have h2':=h2.below hb34 h2.lt
     clear hc89 h1 h2 hb34 hb3'
     go_wp2_with fail
     go_roundw
     case rel=>exact⟨k+1,hlt,by go_num,hbx4, .inr ⟨by omega,r,ro,c,sg,hgt,rfl,h1',h2'⟩⟩
     case measure=>simp [intOf];omega
  ·obtain rfl:k=FS.length:=by omega
   rcases hor with⟨hor,_⟩|⟨_,r,ro,c,sg,hgt,rfl,h1,h2⟩
   ·exfalso;have:=Hp.out;omega
   have hX:Frm (· =hh) w wr:=hX2.trans (Frm.of_new hbx)
   have hw2s:=hX2.size
   have hvoR:=hvo.frm hX hvh.1
   have hrcR:=hrc.frm hX hvh.2
   have hriR:=hrih wr hX
   have hbioR:=hbio2.below hbx hbio2.lt.1 hbio2.lt.2.1 hbio2.lt.2.2
   have hohR:=hoh.below hbx
   have hGR:Glo B wr:=hG.below (hX.below (fun k _ e=>by omega) hBl)
   have hRR:ReqT B wr:=hR.below (hX.below (fun k _ e=>by omega) hBl)
   have hbB:Below B0 w wr:=hX.below (fun k _ e=>by omega) (by omega)
   have o1:=hvoR.cell 1 _ rfl
   clear hbx hoh hbio2
   go_upto_region 19 with fail
   have s0:=h2.cell 0 _ rfl
   have s1:=h2.cell 1 _ rfl
   have hpF:p<FS.length:=by rw [Hp.out];exact hpl
   have hpi0:(0:Int)≤(p:Int):=by omega
   have hpi1:(p:Int)<(FS.length:Int):=by omega
   have hsgp:FS[p]=signed o F b:=by rw [←Hsg.out];congr 1
   obtain⟨SG,HSG⟩: ∃z,Hid (z=signed o F b):=⟨_,Lib.hid rfl⟩
   have hck:wr.cell? ⟨g5,o5+p,none⟩=some (Str SG):=by
    have:=(hohR.cell_at p (Str FS[p]) (by simp [strs,hpF])).1
    rw [hsgp,←HSG.out]at this;exact this
   obtain⟨T,T0,T1,T2,T3,T4⟩:=sig_looks (b:=b) H.msg.opt H.msg.nms
   rw [←HVV.out]at T0
   have hO:=H.msg.opt
   have hpls:=H.sgp
   rw [←HSG.out]at hpls
   have hpV:plain VV=true∧VV.length≤8000000:=by
    rw [HVV.out,←HSG.out]
    refine⟨plain_of_sub hpls.1 fun c hc=>cutAt_mem.2 (trim_sub hc),?_⟩
    have h1:=trim_len (cutAt 58 SG).2.1
    have h2:=(cutAt_len 58 SG).2.1
    have:=hpls.2
    omega
   have hj2:Hid (jc=verCode o.exp now rec fun key=>(sha (bodyOf (formOf o.bdy) b')==sha (bodyOf (formOf o.bdy) b))&&judgedS (formOf o.hdr) key FS (namesOf o F) SG (sigOf o F b)):=by
    show _=_
    rw [Hj.out,HSG.out]
    exact vcode_eq o F b FS b' rec now
   have hbd:Below B0 w wr.drew:=bdw hbB
   have hbioD:Bio wr.drew rg (rg+1) hh (.iface 76 (.pointer (some ⟨hh,0,none⟩))) M i4 r4 n4 cs4:=hbioR.below (B:=wr.heap.size) (bdw (Below.refl _ _)) hbioR.lt.1 hbioR.lt.2.1 hbioR.lt.2.2
   have hoR:=hohR.lt g5 rfl
   have hg5l:rg+2≤g5:=by
    have:=(hohR.lt g5 rfl).1
    have:=hw1s
    omega
   have hc90:Calls Tryz.prog 90 #[.slice (some ⟨g5,o5,none⟩) FS.length c5, .iface 156 (.pointer (some ⟨rg,0,none⟩)),Str SG,Str VV, .pointer (some ⟨vo,0,none⟩)] wr.drew (VPost wr.drew (fun k=>k=rg∨k=hh) wr.drew.heap.size jc):=by
    refine verify_any B B0 vo rc rg hh (rg+1) jc i4 r4 n4 o.now o.exp now TR _ rv _ rec FS (namesOf o F) SG VV _ _ o.kind o.dom o.ident o.sel _ _ b' M cs4 T _ wr.drew ⟨hGR.six,hGR.le,hGR.k,hGR.full,hGR.eof,hGR.pow.below (bdw (Below.refl _ _))⟩ hRR hB0 (by show B0≤wr.heap.size;have:=hbB.size;omega) ⟨.inl rfl, .inr rfl⟩ hohR.rd T0 T1 T2 T3 T4 hvoR hrcR (fun w' h=>hrih w' ((hX.drew).trans (Frm.of_new h))) hO.kinds hrk hbioD hrest ⟨by omega,hB1⟩ (by omega) (by have:=H.blen;omega) (fun k hk e=> ?_) (fun k hk=> ?_) ?_ (by omega) H.nm H.nmc ?_ H.msg.nms (by have:=H.nmj;omega) hpls.1 (by have:=hpls.2;omega) hpV.1 hpV.2 hO.hform hO.bform (by rw [sha_len];decide) (by unfold sigOf;rw [sha_len];decide) ⟨by have:=hO.lens.1;omega,by have:=hO.lens.2.1;omega⟩ ⟨hO.plain.2.1,strip_dry hO.sel.word.dry⟩ hO.now hO.exp hO.ident ⟨hO.plain.1,strip_dry hO.dom.word.dry⟩ hj2
    ·have e:g5=k:=Option.some.inj e
     omega
    ·have e:g5=k:=Option.some.inj hk
     show k<wr.heap.size
     omega
    ·intro f hf
     obtain⟨k,hk,rfl⟩:=List.getElem_of_mem hf
     have:=HFp.out k hk
     exact⟨this.2.1,this.1⟩
    ·intro e;rw [e]at hpl;simp at hpl
   have n5: ¬(g5=rg∨g5=hh):=by omega
   have nr: ¬(r=rg∨r=hh):=by omega
   have ng: ¬(sg=rg∨sg=hh):=by omega
   obtain⟨VB,HVB⟩: ∃z,Hid (z=wr.drew.heap.size):=⟨_,Lib.hid rfl⟩
   rw [←HVB.out]at hc90
   have hVBs:VB=wr.heap.size:=HVB.out
   have hVB0:B0≤VB:=by have:=hbB.size;omega
   have hbds:B0≤wr.drew.heap.size:=by show B0≤wr.heap.size;omega
   clear T0 T1 T2 T3 T4 hj2 Hj hVBs hbioD hbioR
   go_region_held3 (fun ww=>ww.cell? ⟨g5,o5+p,none⟩=some (Str SG)∧ww.cell? ⟨r,ro,none⟩=some (.pointer (some ⟨sg,0,none⟩))∧ww.cell? ⟨sg,0,none⟩=some (.int .i64 p)∧ww.cell? ⟨sg,1,none⟩=some (Str VV))
    (first|exact⟨hck,h1,s0,s1⟩|exact⟨frC hF5 hck n5,frC hF5 h1 nr,frC hF5 s0 ng,frC hF5 s1 ng⟩|go_keep)
    (first
      |(go_at_call 90;refine hc90.mono ?_;rintro e w5 ⟨ev,he,hk,hvb,hF5⟩;subst he)
      |fail)
   all_goals
    have hBB5:Below B0 w w5:=hbd.trans (hF5.below (fun k _ e=>by rcases e with e|e<;>omega) hbds)
    obtain⟨s1',s2',kv,t1,t2,b1,b2,A,n,kk,hkv,hvbk⟩:=hvb
    have f7:=hvbk.frozen 7
    have c7:=hvbk.cell 7 _ rfl
    have hv9:Blk ((w5.setCell ⟨VB,7,none⟩ ev).alloc (.cells #[.pointer (some ⟨VB,0,none⟩)] 100)) VB 102 [Str s1',Str s2',kv, .int .i64 t1, .bool b1, .int .i64 t2, .bool b2,ev]:=(hvbk.set 7 ev).alloc _
    have hl9:=(Blk.new (w5.setCell ⟨VB,7,none⟩ ev) 100 #[.pointer (some ⟨VB,0,none⟩)]).cell 0 _ rfl
    have hB9:Below B0 w ((w5.setCell ⟨VB,7,none⟩ ev).alloc (.cells #[.pointer (some ⟨VB,0,none⟩)] 100)):=(hBB5.setCell (p:=⟨VB,7,none⟩) hVB0 _).alloc (by have:=hBB5.size;simp [World.setCell];omega) _
    have hsz:(w5.setCell ⟨VB,7,none⟩ ev).heap.size=w5.heap.size:=by simp [World.setCell]
    rw [hsz]at hl9
    clear hck h1 s0 s1 hF5 hvbk hBB5 hc90 hsz
    have hkk:=hk
    rcases hk with⟨_,rfl⟩|⟨_,sx,rfl⟩|⟨_,sx,rfl⟩
    ·go_wp2_with fail
     go_ret2
     exact⟨w5.heap.size,VB,_,kv,s1',s2',t1,t2,b1,b2,A,n,kk,rfl,hkk,hl9,hkv,hv9,hB9⟩
    ·have hi1:=isTemp_any _ 1 w5 (.inr (.inl ⟨rfl,sx,rfl⟩))
     have hi2:=isPerm_any _ 1 w5 (.inr (.inl ⟨rfl,sx,rfl⟩))
     have hi3:=isFail_any _ 1 w5 (.inr (.inl ⟨rfl,sx,rfl⟩))
     go_wp2_with fail
     refine hi1.mono ?_
     rintro e w6 ⟨rfl,rfl⟩
     go_wp2_with fail
     refine hi2.mono ?_
     rintro e w7 ⟨rfl,rfl⟩
     go_wp2_with fail
     refine hi3.mono ?_
     rintro e w8 ⟨rfl,rfl⟩
     go_wp2_with fail
     go_ret2
     exact⟨_,VB,_,kv,s1',s2',t1,t2,b1,b2,A,n,kk,rfl,hkk,hl9,hkv,hv9,hB9⟩
    ·have hi1:=isTemp_any _ 2 w5 (.inr (.inr ⟨rfl,sx,rfl⟩))
     have hi2:=isPerm_any _ 2 w5 (.inr (.inr ⟨rfl,sx,rfl⟩))
     go_wp2_with fail
     refine hi1.mono ?_
     rintro e w6 ⟨rfl,rfl⟩
     go_wp2_with fail
     refine hi2.mono ?_
     rintro e w7 ⟨rfl,rfl⟩
     go_wp2_with fail
     go_ret2
     exact⟨_,VB,_,kv,s1',s2',t1,t2,b1,b2,A,n,kk,rfl,hkk,hl9,hkv,hv9,hB9⟩
def TooM (w:World):Prop:= ∃a,w.cell? ⟨0,0,none⟩=some (.iface 242 (.pointer (some a)))
structure Vars (B:Nat)(w:World):Prop where
 glo:Glo B w
 req:ReqT B w
 too:TooM w
theorem Vars.below {B:Nat} {w w':World} (h:Vars B w)(hb:Below B w w'):Vars B w':=⟨h.glo.below hb,h.req.below hb,by
 obtain⟨a,ha⟩:=h.too
 exact⟨a,(hb.cell (p:=⟨0,0,none⟩) (show 0<B by have:=h.glo.six;omega)).trans ha⟩⟩
theorem Vars.above {B:Nat} {w w':World} (h:Vars B w)(hb:Below w.heap.size w w'):Vars B w':=h.below (hb.mono h.glo.le)
def DVPost (w:World)(jc:Nat)(e:Ending)(w':World):Prop:=
 (∃(r c:Nat),e= .returned (.tuple #[.slice (some ⟨r,0,none⟩) 1 c, .bool true, .bool false])∧w'.cell? ⟨r,5,none⟩=some (.int .i64 jc))∧Below w.heap.size w w'
theorem RecIn.frm {S:Nat→Prop} {w w':World} {v:Value} {rec:Option (BS×BS)} (h:RecIn w v rec)(hF:Frm S w w')(hS: ∀k,S k→w.heap.size≤k):RecIn w' v rec:=by
 cases rec with
 |none=>exact h
 |some p=>
  obtain⟨r,q,h1,h2,h3,h4⟩:=h
  exact⟨r,q,h1,h2.frm hF (fun e=>by have:=hS _ e;have:=h2.lt;omega),h3.frm hF (fun e=>by have:=hS _ e;have:=h3.lt;omega),h4⟩
theorem eqNil242 (a:Addr)(w:World):(binOp .eql 74 .nilIface (.iface 242 (.pointer (some a)))).run Tryz.prog w= .ok (.bool false) w:=by kernel_rfl
theorem dVerify_any (B jc now:Nat)(rv:Value)(rec:Option BS)(o:Opt)(F:List BS)(b M:BS)(P F':List BS)(b':BS)(w:World)(hV:Vars B w)(H:SgOk o F b M P F' b')(hri:RecIn w rv (rec.map fun k=>(o.sel++dkS++o.dom,recK o.kind k)))(hrk: ∀k,rec=some k→KeyOk o.kind k∧k.length≤1000000)(hrs: ∃A n c,rv= .slice A n c)(hnow:now≤1000000000000)
 (Hj:Hid (jc=vcode o F b (P++signed o F b::F') b' rec now)):
 Calls Tryz.prog 39 #[Str M,rv, .int .i64 0, .int .i64 now] w (DVPost w jc):=by
 obtain⟨rA,rn,rcp,rfl⟩:=hrs
 have hb1:=(Below.refl w.heap.size w).alloc (Nat.le_refl _) (.cells #[.slice rA rn rcp] 30)
 have hrc1:=Blk.new w 30 #[.slice rA rn rcp]
 obtain⟨rc,Hrc⟩: ∃z,Hid (z=w.heap.size):=⟨_,Lib.hid rfl⟩
 have hrcw:w.heap.size≤rc:=Nat.le_of_eq Hrc.out.symm
 go_enter Tryz.func39,Tryz.ntmps39
 go_upto_region 1 with fail
 rw [←Hrc.out]at hrc1⊢
 generalize w.alloc (.cells #[.slice rA rn rcp] 30)=w1 at*
 go_wp2_with fail
 refine(strNew_blk M w1).mono ?_
 rintro e w2 ⟨rfl,hb2,hs2,p,hh2⟩
 obtain⟨hh,Hhh⟩: ∃z,Hid (z=w1.heap.size):=⟨_,Lib.hid rfl⟩
 rw [←Hhh.out]at hh2⊢
 have hhw:w.heap.size≤hh:=by rw [Hhh.out];exact hb1.size
 have hrl:=hrc1.lt
 have hrh:rc<hh:=by rw [Hhh.out];exact hrl
 have hb2':=hb1.trans (hb2.mono hb1.size)
 have hrc2:=hrc1.below hb2 hrl
 clear hrc1 hb1 hb2 hs2
 go_wp2_with fail
 refine(unix_any now w2).mono ?_
 rintro e w3 ⟨rfl,hb3⟩
 have hb3':=hb2'.trans (hb3.mono hb2'.size)
 have hh3:=hh2.below hb3 hh2.lt
 have hrc3:=hrc2.below hb3 hrc2.lt
 have hb4:=(Below.refl w3.heap.size w3).alloc (Nat.le_refl _) (.cells #[.func (.func 55) #[] #[.pointer (some ⟨rc,0,none⟩)], .int .i64 0, .int .i64 now, .bool true, .func (.func 56) #[] #[]] 99)
 have hvo:=Blk.new w3 99 #[.func (.func 55) #[] #[.pointer (some ⟨rc,0,none⟩)], .int .i64 0, .int .i64 now, .bool true, .func (.func 56) #[] #[]]
 clear hb2' hh2 hrc2 hb3
 unfold Tm
 go_wp2_with fail
 have hs4:(w3.alloc (.cells #[.func (.func 55) #[] #[.pointer (some ⟨rc,0,none⟩)], .int .i64 0, .int .i64 now, .bool true, .func (.func 56) #[] #[]] 99)).heap.size=w3.heap.size+1:=by simp
 obtain⟨vo,Hvo⟩: ∃z,Hid (z=w3.heap.size):=⟨_,Lib.hid rfl⟩
 have hhv:hh<vo:=by rw [Hvo.out];exact hh3.lt
 have hvo:Blk (w3.alloc (.cells #[.func (.func 55) #[] #[.pointer (some ⟨rc,0,none⟩)], .int .i64 0, .int .i64 now, .bool true, .func (.func 56) #[] #[]] 99)) w3.heap.size 99 (voCells rc now):=hvo
 have hb5:Below w.heap.size w (w3.alloc (.cells #[.func (.func 55) #[] #[.pointer (some ⟨rc,0,none⟩)], .int .i64 0, .int .i64 now, .bool true, .func (.func 56) #[] #[]] 99)):=hb3'.trans (hb4.mono hb3'.size)
 have hh4:=hh3.below hb4 hh3.lt
 have hrc4:=hrc3.below hb4 hrc3.lt
 rw [←Hvo.out]at hvo⊢
 generalize w3.alloc (.cells #[.func (.func 55) #[] #[.pointer (some ⟨rc,0,none⟩)], .int .i64 0, .int .i64 now, .bool true, .func (.func 56) #[] #[]] 99)=w4 at*
 clear hs4 hb4 hb3' hh3 hrc3
 have hV4:=hV.above hb5
 have hBw:=hV.glo.le
 have hri4: ∀w',Frm (· =hh) w4 w'→RecIn w' (.slice rA rn rcp) (rec.map fun k=>(o.sel++dkS++o.dom,recK o.kind k)):=fun w' hF=>hri.frm ((Frm.of_new (S:=(· =hh)) hb5).trans hF) (fun k e=>by omega)
 refine(vwo_any B hh vo rc hh jc now 30 p (.slice rA rn rcp) rec o F b M P F' b' w4 hV4.glo hV4.req (by omega) (Nat.le_refl _) H hh4 hvo hrc4 (hri4 w4 (Frm.refl _ _)) hrk ⟨by omega,by omega⟩ hri4 Hj).mono ?_
 rintro e w5 ⟨l,vb,ev,kv,s1,s2,t1,t2,b1,b2,A,n,k,rfl,hk,hl,rfl,hvb,hb6⟩
 have hb7:Below w.heap.size w w5:=hb5.trans (hb6.mono hhw)
 obtain⟨ta,hta⟩:=(hV.above hb7).too
 clear hb5 hb6 hh4 hrc4 hvo hri4 hV4
 have heq:=eqNil242
 clear Hj
 go_upto_region 5 with fail
 have hc58: ∀(s:Int) (d:Bool) (z:World),Below w5.heap.size w5 z→Calls Tryz.prog 58 #[.agg #[.int .i64 s, .bool d]] z fun e w'=>e= .returned (.int .i64 s)∧Below w5.heap.size w5 w':=fun s d z hz=>(timeUnix_any s d z).mono (by
  rintro e w' ⟨rfl,hb⟩
  exact⟨rfl,hz.trans (hb.mono hz.size)⟩)
 have hc59: ∀(z:World),Below w5.heap.size w5 z→Calls Tryz.prog 59 #[ev] z fun e w'=>e= .returned (.int .i64 jc)∧Below w5.heap.size w5 w':=fun z hz=>(codeOf_any ev jc z hk).mono (by
  rintro e w' ⟨rfl,rfl⟩
  exact⟨rfl,hz⟩)
 have Hc58:=Lib.hid hc58
 have Hc59:=Lib.hid hc59
 have hSS: ∀ww,Below w5.heap.size w5 ww→ww.cell? ⟨vb,0,none⟩=some (Str s1)∧ww.cell? ⟨vb,1,none⟩=some (Str s2)∧ww.cell? ⟨vb,2,none⟩=some (.slice A n k)∧ww.cell? ⟨vb,3,none⟩=some (.int .i64 t1)∧ww.cell? ⟨vb,4,none⟩=some (.bool b1)∧ww.cell? ⟨vb,5,none⟩=some (.int .i64 t2)∧ww.cell? ⟨vb,6,none⟩=some (.bool b2)∧ww.cell? ⟨vb,7,none⟩=some ev:=fun ww hb=>⟨bcell hb (hvb.cell 0 _ rfl),bcell hb (hvb.cell 1 _ rfl),bcell hb (hvb.cell 2 _ rfl),bcell hb (hvb.cell 3 _ rfl),bcell hb (hvb.cell 4 _ rfl),bcell hb (hvb.cell 5 _ rfl),bcell hb (hvb.cell 6 _ rfl),bcell hb (hvb.cell 7 _ rfl)⟩
 have HS:=Lib.hid hSS
 clear hc58 hc59 hSS hta heq
 go_wp2_with fail
 go_loopw [14,41] (fun v14 v41 wx=>(v41= .int .i64 0∧v14= .slice none 0 0∧wx=w5)∨(v41= .int .i64 1∧Below w5.heap.size w5 wx∧∃r c,v14= .slice (some ⟨r,0,none⟩) 1 c∧wx.cell? ⟨r,5,none⟩=some (.int .i64 jc))) (fun _ v41 _=>1-(intOf v41).toNat)
 case atStart=>exact .inl ⟨rfl,rfl,rfl⟩
 case round=>
  rcases hrel with⟨rfl,rfl,rfl⟩|⟨rfl,hbx,r,c,rfl,hr⟩
  ·obtain⟨q0,q1,q2,q3,q4,q5,q6,q7⟩:=HS.out wr.drew (bdw (Below.refl _ _))
   have hq0:=bdw (Below.refl wr.heap.size wr)
   go_wp2_with fail
   go_region_held3 (fun ww=>(ww.cell? ⟨vb,0,none⟩=some (Str s1)∧ww.cell? ⟨vb,1,none⟩=some (Str s2)∧ww.cell? ⟨vb,2,none⟩=some (.slice A n k)∧ww.cell? ⟨vb,3,none⟩=some (.int .i64 t1)∧ww.cell? ⟨vb,4,none⟩=some (.bool b1)∧ww.cell? ⟨vb,5,none⟩=some (.int .i64 t2)∧ww.cell? ⟨vb,6,none⟩=some (.bool b2)∧ww.cell? ⟨vb,7,none⟩=some ev))
    (first|exact HS.out _ (by assumption)|exact HS.out _ ((by assumption:Below wr.heap.size wr _).alloc (by assumption:Below wr.heap.size wr _).size _)|go_keep)
    (first
      |(go_at_call 58;refine(Hc58.out _ _ _ (by assumption)).mono ?_;rintro e w6 ⟨he,hb6⟩;subst he)
      |(go_at_call 59;refine(Hc59.out _ (by assumption)).mono ?_;rintro e w6 ⟨he,hb6⟩;subst he)
      |fail)
   all_goals
    go_wp2_with fail
    go_roundw
    case rel=>
     refine .inr ⟨by go_num,?_,_,_,rfl,?_⟩
     ·exact bdw ((hb6.alloc hb6.size _).alloc (hb6.alloc hb6.size _).size _)
     ·obtain⟨Y,HY⟩: ∃z,Hid (z= #[Str s1,Str s2,Value.slice A n k,Value.int IntKind.i64 t1,Value.int IntKind.i64 t2,Value.int IntKind.i64 ↑jc]++Builtin.zeroCells #[Value.string { data:= #[] },Value.string { data:= #[] },Value.slice none 0 0,Value.int IntKind.i64 0,Value.int IntKind.i64 0,Value.int IntKind.i64 0] ((Question.appendCap 1 0 61).cut (w6.tape w6.drawn (Question.appendCap 1 0 61))-1)):=⟨_,Lib.hid rfl⟩
      rw [←HY.out]
      have hn:=heap_alloc_new (w6.alloc (.cells #[Str s1,Str s2, .slice A n k, .int .i64 t1, .int .i64 t2, .int .i64 jc] 61)) (.cells Y 61)
      have hsz:(w6.alloc (.cells #[Str s1,Str s2, .slice A n k, .int .i64 t1, .int .i64 t2, .int .i64 jc] 61)).heap.size=w6.heap.size+1:=by simp
      rw [hsz]at hn
      have hc:=cell_of_row _ _ 5 _ _ _ hn
      have hy:Y[5]?=some (.int .i64 jc):=by
       rw [HY.out,Array.getElem?_append_left (by simp)];rfl
      rw [hy]at hc
      exact hc
    case measure=>simp [intOf]
  ·have hbw:=hb7.trans (hbx.mono hb7.size)
   go_wp2_with fail
   go_ret3
   exact⟨⟨r,c,rfl,hr⟩,hbw⟩
end Go.Proofs.YtgilnagajcfkpaaGreatDoor
