import Derived.Test.YtgilnagajcfkpaaGreatDoorQ25
import Derived.Test.YtgilnagajcfkpaaGreatDoorQ40
import Derived.Test.YtgilnagajcfkpaaGreatDoorQ48
set_option maxHeartbeats 4000000
set_option maxRecDepth 1000000
set_option linter.all false
namespace Go.Proofs.YtgilnagajcfkpaaGreatDoor
open Go.RowKit
theorem dSeal85_any (key l:BS)(w:World)(hs:key.length+l.length<=1099511627776):Calls Tryz.prog 85 #[Str key,Str l] w fun e w'=>e= .returned (Str (sha (key++l)))∧Below w.heap.size w w':=by
 go_enter Tryz.func85,Tryz.ntmps85
 go_wp2_with fail
 refine(dSum_any (key++l) w (by simp;omega)).mono ?_
 rintro e w1 ⟨rfl,hb⟩
 go_wp2_with fail
 go_ret
 exact⟨rfl,hb⟩
noncomputable def body52:Code:=Tryz.f52.body.getD .skip
def JPost (w0:World)(c:Nat)(e:Ending)(w':World):Prop:=
 ∃(s1 s2:BS) (A:Option Addr) (n m:Nat) (t1 t2:Int),e= .returned (.agg #[Str s1,Str s2, .slice A n m, .int .i64 t1, .int .i64 t2, .int .i64 c])∧Below w0.heap.size w0 w'
def vdCells (s1 s2:BS)(kv:Value)(t1 t2:Int)(c:Nat):List Value:= [Str s1,Str s2,kv, .int .i64 t1, .int .i64 t2, .int .i64 c]
theorem at_vd {ops:Array Oper} {rest:List Oper} {d:Option Tmp} {ty:TypeId} {ps:String} {af:Array Edge} {g:Option (Nat×Bool)} {a:Act} {w:World} {Q:Exit->Act->World->Prop}
 (h:wpList Tryz.prog ops Q (⟨d, .load 61 (.tmp 11),ty,ps,af,g⟩::rest) a w):wpList Tryz.prog ops Q (⟨d, .load 61 (.tmp 11),ty,ps,af,g⟩::rest) a w:=h
theorem vd_row {ops:Array Oper} {rest:List Oper} {o1 o2:Oper} {a:Act} {w:World} {Q:Exit->Act->World->Prop} (d rb ob n m c:Nat)(s1 s2:BS)(A:Option Addr)(t1 t2:Int)(os:List Value)
 (hB:Blk w ob 61 (vdCells s1 s2 (.slice A n m) t1 t2 c))(hR:Blk w rb 61 os)(ho:os.length=6)(g1:o1.guard=none)(h1:o1.op= .load 61 (.tmp 11))(g2:o2.guard=none)(h2:o2.op= .store 61 (.tmp 10) (.tmp d))
 (ha:a.eval (.tmp 11)= .pointer (some ⟨ob,0,none⟩))(hb:(a.put o1.dst (.agg #[Str s1,Str s2, .slice A n m, .int .i64 t1, .int .i64 t2, .int .i64 c])).eval (.tmp 10)= .pointer (some ⟨rb,0,none⟩))
 (hy:(a.put o1.dst (.agg #[Str s1,Str s2, .slice A n m, .int .i64 t1, .int .i64 t2, .int .i64 c])).eval (.tmp d)= .agg #[Str s1,Str s2, .slice A n m, .int .i64 t1, .int .i64 t2, .int .i64 c])
 (h:wpList Tryz.prog ops Q rest ((a.put o1.dst (.agg #[Str s1,Str s2, .slice A n m, .int .i64 t1, .int .i64 t2, .int .i64 c])).put o2.dst undef) (w.setRow rb #[Str s1,Str s2, .slice A n m, .int .i64 t1, .int .i64 t2, .int .i64 c])):
 wpList Tryz.prog ops Q (o1::o2::rest) a w:=
 wpList_load_row g1 61 (.tmp 11) h1 ob ha 61 _ (0,0) _ hB Tryz.underlying61 rfl (by kernel_rfl)
  (wpList_store_row g2 61 (.tmp 10) (.tmp d) h2 rb #[Str s1,Str s2, .slice A n m, .int .i64 t1, .int .i64 t2, .int .i64 c] hb hy 61 os.toArray hR (by kernel_rfl) (by simp [ho]) (by simp [Value.oneCell']) h)
structure JSt (hv:Value)(FS:List BS)(nv:Value)(NM:List BS)(kb:Nat)(kv:Value)(key:BS)(rb:Nat)(os:List Value)(ob:Nat)(cs:List Value)(w:World):Prop where
 hd:Rd w hv (strs FS)
 nm:Rd w nv (strs NM)
 kc:w.cell? ⟨kb,1,none⟩=some kv
 ky:Rd w kv (byts key)
 out:Blk w ob 61 cs
 res:Blk w rb 61 os
 kl:kb<w.heap.size
theorem pk_at (F nm:List BS)(k:Nat)(h:k<nm.length):(strs (picked F nm))[k]?=some (Str (pickAt F (lower nm[k]) (countIn (lower nm[k]) (nm.take k)))):=by
 have hg:=pickedC_get F nm [] k h
 rw [<-picked_eq,List.nil_append]at hg
 unfold strs
 rw [List.getElem?_map,hg];rfl
theorem JSt.below {hv:Value} {FS:List BS} {nv:Value} {NM:List BS} {kb:Nat} {kv:Value} {key:BS} {rb:Nat} {os:List Value} {ob:Nat} {cs:List Value} {w w':World} (h:JSt hv FS nv NM kb kv key rb os ob cs w)(hb:Below w.heap.size w w'):JSt hv FS nv NM kb kv key rb os ob cs w':=
 ⟨h.hd.below hb,h.nm.below hb,bcell hb h.kc,h.ky.below hb,h.out.below hb h.out.lt,h.res.below hb h.res.lt,Nat.lt_of_lt_of_le h.kl hb.size⟩
theorem vd_ret {w0 w:World} {rb:Nat} {os:List Value} (h:Blk w rb 61 os)(hb:Below w0.heap.size w0 w)(hr:w0.heap.size<=rb)(s1 s2:BS)(A:Option Addr)(n m:Nat)(t1 t2:Int)(c:Nat)(a:Act)(ha:a.tmps.getD 10 undef= .pointer (some ⟨rb,0,none⟩))(hd:a.defers= []):
 bodyPost Tryz.prog Tryz.f52 (JPost w0 c) .ret a (w.setRow rb #[Str s1,Str s2, .slice A n m, .int .i64 t1, .int .i64 t2, .int .i64 c]):=by
 refine bodyPost_ret_by (results_cell_row (t:=61) (fr:=(0,0)) (g:=rb) rfl _ _ _ _ ha (h.setRow [Str s1,Str s2, .slice A n m, .int .i64 t1, .int .i64 t2, .int .i64 c]) Tryz.underlying61 rfl (by kernel_rfl)) hd ?_
 exact⟨s1,s2,A,n,m,t1,t2,rfl,(hb.grown (gsR w rb _) hb.size (by simpa using hr))⟩
theorem jud4 (ob rb kb jc n8 c8:Nat)(A8:Option Addr)(hv tv kv:Value)(FS NM:List BS)(field body hfm bfm kind key x s bhv bv s1 s2:BS)(t1 t2:Int)(L:List Tag)(os kr:List Value)(w0 w:World)
 (hb0:Below w0.heap.size w0 w)(hob:w0.heap.size<=ob)(hrb:w0.heap.size<=rb)(hne:ob≠rb)(hhd:Rd w hv (strs FS))(hnm:Rd w (.slice A8 n8 c8) (strs NM))(htv:RdT w tv L)(hLl:L.length<=100)
 (hbh:look [98,104] L=some bhv)(hbv:look [98] L=some bv)(hB:Blk w ob 61 (vdCells s1 s2 (.slice A8 n8 c8) t1 t2 2))(hR:Blk w rb 61 os)(hos:os.length=6)(hkb:Blk w kb 151 kr)(hk1:kr[1]?=some kv)(hkv:Rd w kv (byts key))(hkc:kb≠ob)(hko:kv.ownBlock≠some ob)(hhn:hv.ownBlock≠some ob)(hnn:(Value.slice A8 n8 c8).ownBlock≠some ob)
 (hsb:strip bhv=bhv∧bhv.length<=1000∧decR bhv=some x∧bhv.length%4=0)(hsv:strip bv=bv∧bv.length<=1000∧decR bv=some s∧bv.length%4=0)
 (hFS: ∀f∈FS,f.length<=8000000)(lF:FS.length<=1000000)(hNM: ∀x∈NM,x.length<=400000)(lNM:NM.length<=20000)(hsl2:field.length<=8000000)(hbl:body.length<=10000000)(hkey:key.length<=1000000)
 (Hj:Hid (jc=if judged hfm bfm key x s FS NM field body then 0 else 1))
 {AA AB AD AE AF AG AH AI AJ AK AM AN AO AP AQ AR AS AT AU AV AW AX AY AZ Aa Ab Ac Ad Ae Af Ag Ah Ai Aj Ak Al Am An Ao Ap Aq Ar As At Au Av Aw Ax Ay Az A0 A1 A2 A3 A4 A5 A6 A7 A9 BA BB BC BD BE BF BG BH BI BJ BK BL BM BN BP BQ BR BT BU BV BW BX BY BZ Ba Bb Bc Bd Be Bf Bg Bh Bi Bj Bk Bl Bm Bn Bo Bp Bq Br Bs Bt Bu Bv Bw Bx By Bz B0 B1 B2 B3 B4 B5 B6 B7 B8 B9 CA CB CC CD CE CG CH CI CJ CK CL CM CN CO CP CQ CR CS CT CU CV CW CX CY CZ Ca Cb Cc Cd Ce Cf Cg Ch Ci Cj Ck Cl Cm Cn Co Cp Cq Cr Cs Ct Cu Cv Cw Cx Cy Cz C0 C1 C2 C3 C4 C5 C6 C7 C8 C9 DA DB DC DD DE DF DG DH DI DJ DK DL DM DN DO DP DQ DR DS DT DU DV DW DX DY DZ Da Db Dc Dd De Df Dg Dh Di Dj Dk Dl Dm Dn Do Dp Dq Dr Ds Dt Du Dv Dw Dx Dy Dz D0 D1 D2 D3 D4 D5 D6 D7 D8 D9 EA EB EC ED EE EG EH EI EJ EK EL EM EN EO EP EQ ER ES ET EU EV EW EX EY EZ Ea Eb Ec Ed Ee Ef Eg Eh Ei Ej Ek El Em En Eo Ep Eq Er Es Et Eu Ev Ew Ex Ey Ez E0 E1 E2 E3 E4 E5 E6 E7 E8 E9 FA FB FC FD FE FF FG FH FI FJ FK FL FM FN FO FP FQ FR FT FU FV FW FX FY FZ Fa Fb Fc Fd Fe Ff Fg Fh Fi Fj Fk Fl Fm Fn Fo Fp Fq Fr Fs Ft Fu Fv Fw Fx Fy Fz F0 F1 F2 F3 F4 F5 F6 F7 F8 F9 GA GB GC GD GE GF GG GH GI GJ GK GL GM GN GO GP GQ GR GS GT GU GV GW GX GY:Value}
 (K:Act->World->Prop)(hK: ∀a w,Code.wp Tryz.prog (tl 33 body52) (bodyPost Tryz.prog Tryz.f52 (JPost w0 jc)) a w->K a w):
 Code.wp Tryz.prog (hdC (tl 32 body52)) (Exit.then K (bodyPost Tryz.prog Tryz.f52 (JPost w0 jc))) ⟨(hv::Str body::Str field::AA::AB::AD::AE::AF::AG::AH:: .pointer (some ⟨rb,0,none⟩):: .pointer (some ⟨ob,0,none⟩)::AI::AJ::AK::tv::AM::AN::AO::AP::AQ::AR::AS::AT::AU::AV::AW::AX::AY::AZ::Aa::Ab::Ac::Ad::Ae::Af::Ag::Ah::Ai::Aj::Ak::Al::Am::An:: .pointer (some ⟨kb,0,none⟩)::Ao::Ap::Aq::Ar::As::At::Str hfm::Str bfm::Au::Av::Aw::Ax::Ay::Az::A0::A1::A2::A3::A4::A5::A6::A7::A9::BA::BB::BC::BD::BE::BF::BG::BH::BI::BJ::BK::BL::BM::BN::BP::BQ::BR::BT::BU::BV::BW::BX::BY::BZ::Ba::Bb::Bc::Bd::Be::Bf::Bg::Bh::Bi::Bj::Bk::Bl::Bm::Bn::Bo::Bp::Bq::Br::Bs::Bt::Bu::Bv::Bw::Bx::By::Bz::B0::B1::B2::B3::B4::B5::B6::B7::B8::B9::CA::CB::CC::CD::CE::CG::CH::CI::CJ::CK::CL::CM::CN::CO::CP::CQ::CR::CS::CT::CU::CV::CW::CX::CY::CZ::Ca::Cb::Cc::Cd::Ce::Cf::Cg::Ch::Ci::Cj::Ck::Cl::Cm::Cn::Co::Cp::Cq::Cr::Cs::Ct::Cu::Cv::Cw::Cx::Cy::Cz::C0::C1::C2::C3::C4::C5::C6::C7::C8::C9::DA::DB::DC::DD::DE::DF::DG::DH::DI::DJ::DK::DL::DM::DN::DO::DP::DQ::DR::DS::DT::DU::DV::DW::DX::DY::DZ::Da::Db::Dc::Dd::De::Df::Dg::Dh::Di::Dj::Dk::Dl::Dm::Dn::Do::Dp::Dq::Dr::Ds::Dt::Du::Dv::Dw::Dx::Dy::Dz::D0::D1::D2::D3::D4::D5::D6::D7::D8::D9::EA::EB::EC::ED::EE::EG::EH::EI::EJ::EK::EL::EM::EN::EO::EP::EQ::ER::ES::ET::EU::EV::EW::EX::EY::EZ::Ea::Eb::Ec::Ed::Ee::Ef::Eg::Eh::Ei::Ej::Ek::El::Em::En::Eo::Ep::Eq::Er::Es::Et::Eu::Ev::Ew::Ex::Ey::Ez::E0::E1::E2::E3::E4::E5::E6::E7::E8::E9::FA::FB::FC::FD::FE::FF::FG::FH::FI::FJ::FK::FL::FM::FN::FO::FP::FQ::FR::FT::FU::FV::FW::FX::FY::FZ::Fa::Fb::Fc::Fd::Fe::Ff::Fg::Fh::Fi::Fj::Fk::Fl::Fm::Fn::Fo::Fp::Fq::Fr::Fs::Ft::Fu::Fv::Fw::Fx::Fy::Fz::F0::F1::F2::F3::F4::F5::F6::F7::F8::F9::GA::GB::GC::GD::GE::GF::GG::GH::GI::GJ::GK::GL::GM::GN::GO::GP::GQ::GR::GS::GT::GU::GV::GW::GX::GY:: []).toArray,[]⟩ w:=by
 conv=>arg 2;whnf
 obtain⟨y,hy⟩: ∃y,Hid (y=tl 33 body52):=⟨_,rfl⟩
 rw [<-hy.out]at hK
 obtain⟨eb1,eb2,eb3,eb4⟩:=hsb
 obtain⟨ev1,ev2,ev3,ev4⟩:=hsv
 have Eb1:=Lib.hid eb1
 have Ev1:=Lib.hid ev1
 have Hbh:=Lib.hid hbh
 have Hbv:=Lib.hid hbv
 have Eb3:=Lib.hid eb3
 have Ev3:=Lib.hid ev3
 have Eb4:=Lib.hid eb4
 have Ev4:=Lib.hid ev4
 have Hos:=Lib.hid hos
 clear hos
 clear eb1 ev1 hbh hbv eb3 ev3 eb4 ev4
 go_wp2_with fail
 refine(dValue_any L [98,104] tv w htv (by omega)).mono ?_
 rintro e w1 ⟨rfl,rfl⟩
 rw [Hbh.out]
 go_wp2_with fail
 rw [hy.out]
 clear hy
 conv=>arg 2;whnf
 go_wp2_with fail
 refine(dValue_any L [98] tv w htv (by omega)).mono ?_
 rintro e w1 ⟨rfl,rfl⟩
 rw [Hbv.out]
 go_wp2_with fail
 refine(dStrip_any bhv w (by omega)).mono ?_
 rintro e w1 ⟨rfl,hb1⟩
 rw [Eb1.out]
 go_wp2_with fail
 refine(dBytes64_any bhv x w1 (by omega) Eb3.out Eb4.out).mono ?_
 rintro e w2 ⟨rfl,hb2⟩
 have hb2:=hb1.trans (hb2.mono hb1.size)
 clear hb1
 go_wp2_with fail
 refine(dStrip_any bv w2 (by omega)).mono ?_
 rintro e w3 ⟨rfl,hb3⟩
 have hb3:=hb2.trans (hb3.mono hb2.size)
 clear hb2
 rw [Ev1.out]
 go_wp2_with fail
 refine(dBytes64_any bv s w3 (by omega) Ev3.out Ev4.out).mono ?_
 rintro e w4 ⟨rfl,hb4⟩
 have hb4:=hb3.trans (hb4.mono hb3.size)
 clear hb3
 have hB4:=hB.below hb4 hB.lt
 have hR4:=hR.below hb4 hR.lt
 have f5:=hB4.frozen 5
 have c5:=hB4.cell 5 _ rfl
 have hb04:=hb0.trans (hb4.mono hb0.size)
 have hFk:Frm (· =ob) w w4:=Frm.of_new hb4
 go_wp2_with fail
 have hB5:=hB4.set 5 (.int .i64 (1:Nat))
 have hB5:Blk (w4.setCell ⟨ob,5,none⟩ (.int .i64 1)) ob 61 (vdCells s1 s2 (.slice A8 n8 c8) t1 t2 1):=hB5
 have hR5:=hR4.far (p:=⟨ob,5,none⟩) (Ne.symm hne) (.int .i64 1)
 have hb05:Below w0.heap.size w0 (w4.setCell ⟨ob,5,none⟩ (.int .i64 1)):=hb04.setCell hob _
 have hF5:Frm (· =ob) w (w4.setCell ⟨ob,5,none⟩ (.int .i64 1)):=hFk.setCell ⟨ob,5,none⟩ _ (fun _=>rfl)
 have hS5:JSt hv FS (.slice A8 n8 c8) NM kb kv key rb os ob (vdCells s1 s2 (.slice A8 n8 c8) t1 t2 1) (w4.setCell ⟨ob,5,none⟩ (.int .i64 1)):=
  ⟨hhd.frm hF5 (fun k hk e=>hhn (by rw [hk,e])),hnm.frm hF5 (fun k hk e=>hnn (by rw [hk,e])),(hkb.frm hF5 (fun e=>hkc e)).cell 1 _ hk1,hkv.frm hF5 (fun k hk e=>hko (by rw [hk,e])),hB5,hR5,(hkb.frm hF5 (fun e=>hkc e)).lt⟩
 generalize w4.setCell ⟨ob,5,none⟩ (.int .i64 1)=w5 at*
 clear hk1 hFk hb04 f5 c5 hB4 hR4 hb4 hB5 hR5 hF5 hb0 hhd hnm htv hB hR hkb hkv
 refine(dBodyOf_any bfm body w5 (by omega)).mono ?_
 rintro e w6 ⟨rfl,hb6⟩
 have lbo:=body_len bfm body
 obtain⟨BO,HBO⟩: ∃z,Hid (z=bodyOf bfm body):=⟨_,Lib.hid rfl⟩
 rw [<-HBO.out]at lbo⊢
 go_wp2_with fail
 refine(dSum_any BO w6 (by omega)).mono ?_
 rintro e w7 ⟨rfl,hb7⟩
 have hb7:=hb6.trans (hb7.mono hb6.size)
 have hS7:=hS5.below hb7
 have hb07:=hb05.trans (hb7.mono hb05.size)
 clear hb6 hb7 hb05 hS5
 obtain⟨SB,HSB⟩: ∃z,Hid (z=sha BO):=⟨_,Lib.hid rfl⟩
 rw [<-HSB.out]
 by_cases hx: ¬x=SB
 ·have hj0:jc=1:=by
   rw [Hj.out]
   unfold judged
   rw [<-HBO.out,<-HSB.out]
   have:(SB==x)=false:=by simpa using fun e=>hx e.symm
   rw [this,Bool.false_and];rfl
  have hxb:(x==SB)=false:=by simpa using hx
  have hret:=vd_ret hS7.res hb07 hrb s1 s2 A8 n8 c8 t1 t2 1
  clear Hj hx
  subst hj0
  go_wp2_with (first|(with_reducible refine at_vd ?_;refine vd_row 357 rb ob n8 c8 1 s1 s2 A8 t1 t2 os hS7.out hS7.res Hos.out rfl rfl rfl rfl rfl rfl rfl ?_)|fail)
  exact hret _ rfl rfl
 have hx':x=SB:=by simpa using hx
 clear hx
 have hx:=hx'
 clear hx'
 have hxb:(x==SB)=true:=by simpa using hx
 have Hj2:Hid (jc=if(sha (key++sha (allOf hfm FS NM++without (fieldOf hfm (emptied field.length field))))==s)then 0 else 1):=by
  show _=_
  rw [Hj.out]
  unfold judged
  rw [<-HBO.out,<-HSB.out,hx,beq_self_eq_true,Bool.true_and]
 have c2:=hS7.out.cell 2 _ rfl
 clear Hj hx
 go_upto_region 80 with(first|(go_at_call 25;refine(dPicked_any FS NM hv _ w7 hS7.hd hS7.nm (by omega) (by omega) (fun f hf=>by have:=hFS f hf;omega) (fun f hf=>by have:=hNM f hf;omega)).mono ?_;rintro e w8 ⟨pv,rfl,hpo,hb8⟩)|fail)
 have hS8:=hS7.below hb8
 have hb08:=hb07.trans (hb8.mono hb07.size)
 have hpr:=hpo.rd
 have lpk:=picked_length FS NM
 obtain⟨PK,HPK⟩: ∃z,Hid (z=picked FS NM):=⟨_,Lib.hid rfl⟩
 rw [<-HPK.out]at hpr lpk
 obtain⟨pA,pc,rfl,_,_⟩:=id hpr
 rw [stL]at hpr⊢
 have lacc: ∀k,k<=NM.length->(accOf hfm FS NM k).length<=20000*32000010:=fun k hk=>Nat.le_trans (accOf_len hfm FS NM 32000010 (fun f hf=>by have:=fieldOf_len hfm f;have:=hFS f hf;omega) k hk) (Nat.mul_le_mul_right _ (Nat.le_trans hk lNM))
 have Hlacc:=Lib.hid lacc
 have Hlpk:=Lib.hid lpk
 clear hS7 hb07 hpo hb8 c2 lacc lpk
 clear hxb
 have hpr8:=hpr
 clear hpr
 go_wp2_with fail
 go_loopw [64,66] (fun v64 v66 wx=> ∃k:Nat,k<=NM.length∧v66= .int .i64 k∧v64=Str (accOf hfm FS NM k)∧Below w8.heap.size w8 wx) (fun _ v66 _=>NM.length-(intOf v66).toNat)
 case atStart=>exact⟨0,Nat.zero_le _,rfl,by simp [accOf],Below.refl _ _⟩
 case round=>
  obtain⟨k,hk,rfl,rfl,hbx⟩:=hrel
  have hpr:=hpr8.below hbx
  by_cases hlt:k<NM.length
  ·have hklt:(k:Int)<(PK.length:Int):=by have:=Hlpk.out;omega
   have h0:(0:Int)<=(k:Int):=by omega
   have hg:=pk_at FS NM k hlt
   have hstp:=accOf_step hfm FS NM k hlt
   have hpm:=pickAt_mem FS (lower NM[k]) (countIn (lower NM[k]) (NM.take k))
   have hl0:=Hlacc.out k hk
   have hl1:=Hlacc.out (k+1) hlt
   rw [<-HPK.out]at hg
   obtain⟨f,Hf⟩: ∃z,Hid (z=pickAt FS (lower NM[k]) (countIn (lower NM[k]) (NM.take k))):=⟨_,Lib.hid rfl⟩
   rw [<-Hf.out]at hg hstp hpm
   obtain⟨acc,Ha⟩: ∃z,Hid (z=accOf hfm FS NM k):=⟨_,Lib.hid rfl⟩
   rw [<-Ha.out]at hstp hl0⊢
   have Hstp:=Lib.hid hstp
   clear hstp
   obtain⟨A',c',he,_,h0|⟨g,off,e,_,hc⟩⟩:=id hpr
   ·exfalso;rw [h0]at hg;simp at hg
   injection he with h1 h2 h3
   clear h2 h3
   subst h1
   subst e
   have hck:=hc k _ hg
   clear hc hg
   by_cases hf:f= []
   ·have i1:f.isEmpty=true:=by rw [hf];rfl
    have Hs2:Hid (accOf hfm FS NM (k+1)=acc):=by show _=_;rw [Hstp.out,if_pos hf,List.append_nil]
    clear Hstp hf hpm
    go_wp2_with fail
    go_roundw
    case rel=>exact⟨k+1,hlt,by go_num,by rw [Hs2.out],hbx⟩
    case measure=>simp [intOf];omega
   ·have i1:f.isEmpty=false:=by rw [List.isEmpty_eq_false_iff];exact hf
    have Hs2:Hid (accOf hfm FS NM (k+1)=acc++fieldOf hfm f):=by show _=_;rw [Hstp.out,if_neg hf]
    have lf:=hFS f (hpm.resolve_left hf)
    rw [Hs2.out,List.length_append]at hl1
    clear Hstp hf hpm
    go_wp2_with fail
    refine(dFieldOf_any hfm f wr (by omega)).mono ?_
    rintro e w9 ⟨rfl,hb9⟩
    have hb9:=hbx.trans (hb9.mono hbx.size)
    obtain⟨fo,Hfo⟩: ∃z,Hid (z=fieldOf hfm f):=⟨_,Lib.hid rfl⟩
    rw [<-Hfo.out]at hl1⊢
    go_wp2_with fail
    go_roundw
    case rel=>exact⟨k+1,hlt,by go_num,by rw [Hs2.out,Hfo.out],hb9⟩
    case measure=>simp [intOf];omega
  ·obtain rfl:k=NM.length:=by omega
   have hnlt: ¬((NM.length:Int)<(PK.length:Int)):=by have:=Hlpk.out;omega
   have hS9:=hS8.below hbx
   have hb09:=hb08.trans (hbx.mono hb08.size)
   have lac:=Hlacc.out NM.length (Nat.le_refl _)
   rw [accOf_all]at lac⊢
   obtain⟨AC,HAC⟩: ∃z,Hid (z=allOf hfm FS NM):=⟨_,Lib.hid rfl⟩
   rw [<-HAC.out]at lac Hj2⊢
   clear hbx hpr hpr8 hS8 hb08 Hlacc
   go_wp2_with fail
   refine(dEmptied_any field wr (by omega)).mono ?_
   rintro e w9 ⟨rfl,rfl⟩
   have lE:=emptied_len field.length field
   obtain⟨EF,HEF⟩: ∃z,Hid (z=emptied field.length field):=⟨_,Lib.hid rfl⟩
   rw [<-HEF.out]at lE Hj2⊢
   go_wp2_with fail
   refine(dFieldOf_any hfm EF wr (by omega)).mono ?_
   rintro e w10 ⟨rfl,hb10⟩
   have lCF:=fieldOf_len hfm EF
   obtain⟨CF,HCF⟩: ∃z,Hid (z=fieldOf hfm EF):=⟨_,Lib.hid rfl⟩
   rw [<-HCF.out]at lCF Hj2⊢
   go_wp2_with fail
   refine(dWithout_any CF w10 (by omega)).mono ?_
   rintro e w11 ⟨rfl,rfl⟩
   have lTF:=without_len CF
   obtain⟨TF,HTF⟩: ∃z,Hid (z=without CF):=⟨_,Lib.hid rfl⟩
   rw [<-HTF.out]at lTF Hj2⊢
   have hS10:=hS9.below hb10
   have hb010:=hb09.trans (hb10.mono hb09.size)
   clear hS9 hb09 hb10
   have hAT:(AC++TF).length<=1099511627776:=by rw [List.length_append];omega
   go_wp2_with fail
   obtain⟨AL,HAL⟩: ∃z,Hid (z=AC++TF):=⟨_,Lib.hid rfl⟩
   rw [<-HAL.out]at hAT Hj2⊢
   have lsA:(sha AL).length=32:=sha_len AL
   have lsA2:key.length+(sha AL).length<=1099511627776:=by omega
   obtain⟨SA,HSA⟩: ∃z,Hid (z=sha AL):=⟨_,Lib.hid rfl⟩
   obtain⟨Z,HZ⟩: ∃z,Hid (z=sha (key++SA)):=⟨_,Lib.hid rfl⟩
   rw [<-HSA.out,<-HZ.out]at Hj2
   rw [<-HSA.out]at lsA2
   clear lsA
   have hq80: ∀z:World,Below w10.heap.size w10 z->Calls Tryz.prog 80 #[Str AL] z fun e w'=>e= .returned (Str SA)∧Below w10.heap.size w10 w':=fun z hz=>(dSum_any AL z hAT).mono (by
    rintro e w' ⟨rfl,hb⟩
    exact⟨by rw [HSA.out],hz.trans (hb.mono hz.size)⟩)
   have hq85: ∀z:World,Below w10.heap.size w10 z->Calls Tryz.prog 85 #[Str key,Str SA] z fun e w'=>e= .returned (Str Z)∧Below w10.heap.size w10 w':=fun z hz=>(dSeal85_any key SA z lsA2).mono (by
    rintro e w' ⟨rfl,hb⟩
    exact⟨by rw [HZ.out],hz.trans (hb.mono hz.size)⟩)
   have hSS: ∀ww,Below w10.heap.size w10 ww->ww.cell? ⟨kb,1,none⟩=some kv∧(convert 22 9 kv).run Tryz.prog ww= .ok (Str key) ww:=fun ww hb=>⟨(hS10.below hb).kc,cvB (hS10.below hb).ky⟩
   have HS:=Lib.hid hSS
   have Hq80:=Lib.hid hq80
   have Hq85:=Lib.hid hq85
   clear hSS hq80 hq85
   by_cases hz:s=Z
   ·have hzb:(s==Z)=true:=by simpa using hz
    have hj0:jc=0:=by rw [Hj2.out,<-hz];simp
    clear Hj2 hz HZ HSA HAL
    subst hj0
    have hq0:=bdw (Below.refl w10.heap.size w10)
    obtain⟨q0,q1⟩:=HS.out w10.drew hq0
    go_region_held3 (fun ww=>ww.cell? ⟨kb,1,none⟩=some kv∧(convert 22 9 kv).run Tryz.prog ww= .ok (Str key) ww) (exact HS.out _ (by assumption))
     (first
       |(go_at_call 80;refine(Hq80.out _ (by assumption)).mono ?_;rintro e w12 ⟨he,hb12⟩;subst he)
       |(go_at_call 85;refine(Hq85.out _ (by assumption)).mono ?_;rintro e w12 ⟨he,hb12⟩;subst he)
       |fail)
    all_goals
     have hS12:=hS10.below hb12
     have hb012:=hb010.trans (hb12.mono hb010.size)
     have c5:=hS12.out.cell 5 _ rfl
     have f5:=hS12.out.frozen 5
     go_upto_region 88 with fail
     have hB13:Blk (w12.setCell ⟨ob,5,none⟩ (.int .i64 0)) ob 61 (vdCells s1 s2 (.slice A8 n8 c8) t1 t2 0):=hS12.out.set 5 (.int .i64 (0:Nat))
     have hR13:=hS12.res.far (p:=⟨ob,5,none⟩) (Ne.symm hne) (.int .i64 0)
     have hb013:Below w0.heap.size w0 (w12.setCell ⟨ob,5,none⟩ (.int .i64 0)):=hb012.setCell hob _
     have hret:=vd_ret hR13 hb013 hrb s1 s2 A8 n8 c8 t1 t2 0
     go_wp2_with (first|(with_reducible refine at_vd ?_;refine vd_row 397 rb ob n8 c8 0 s1 s2 A8 t1 t2 os hB13 hR13 Hos.out rfl rfl rfl rfl rfl rfl rfl ?_)|fail)
     exact hret _ rfl rfl
   ·have hzb:(s==Z)=false:=by simpa using hz
    have hj0:jc=1:=by rw [Hj2.out,if_neg (by simpa using fun e=>hz e.symm)]
    clear Hj2 hz HZ HSA HAL
    subst hj0
    have hq0:=bdw (Below.refl w10.heap.size w10)
    obtain⟨q0,q1⟩:=HS.out w10.drew hq0
    go_region_held3 (fun ww=>ww.cell? ⟨kb,1,none⟩=some kv∧(convert 22 9 kv).run Tryz.prog ww= .ok (Str key) ww) (exact HS.out _ (by assumption))
     (first
       |(go_at_call 80;refine(Hq80.out _ (by assumption)).mono ?_;rintro e w12 ⟨he,hb12⟩;subst he)
       |(go_at_call 85;refine(Hq85.out _ (by assumption)).mono ?_;rintro e w12 ⟨he,hb12⟩;subst he)
       |fail)
    all_goals
     have hS12:=hS10.below hb12
     have hb012:=hb010.trans (hb12.mono hb010.size)
     have hret:=vd_ret hS12.res hb012 hrb s1 s2 A8 n8 c8 t1 t2 1
     go_wp2_with (first|(with_reducible refine at_vd ?_;refine vd_row 397 rb ob n8 c8 1 s1 s2 A8 t1 t2 os hS12.out hS12.res Hos.out rfl rfl rfl rfl rfl rfl rfl ?_)|fail)
     exact hret _ rfl rfl
theorem OneRec.rec1 {w:World} {v:Value} {nm tx:BS} (h:OneRec w v nm tx):Rec1 w v nm tx:=by
 obtain⟨r,q,rfl,hr,hq,_⟩:=h
 exact⟨r,0,1,q,0,1,rfl,hr.cell 0 _ rfl,hr.cell 1 _ rfl,hr.cell 2 _ rfl,hr.cell 3 _ rfl,hq.cell 0 _ rfl⟩
theorem forms_cut' {a b:BS} (ha:formOk a)(hb:formOk b):cutAt 47 (strip (a++47::b))=(a,b,true)∧knownB a=true∧knownB b=true∧(a++47::b).length<=100:=by
 rcases ha with rfl|rfl<;>rcases hb with rfl|rfl<;>decide
theorem OwnAt.ge {w:World} {B:Nat} {e:TypeId} {v:Value} {l:List Value} (h:OwnAt w B e v l)(k:Nat)(hk:k<B):v.ownBlock≠some k:=by
 rcases h with⟨rfl,_⟩|⟨g,off,cap,cur,fr,rfl,hb,_⟩
 ·intro e;simp [Value.ownBlock]at e
 ·intro e;simp [Value.ownBlock]at e;omega
theorem jud3 (ob rb jc n8 c8:Nat)(A8:Option Addr)(hv tv rv:Value)(rec:Option BS)(FS NM:List BS)(field body hfm bfm kind x s bhv bv dom sel s2:BS)(t1 t2:Int)(L:List Tag)(os:List Value)(w0 w:World)
 (hb0:Below w0.heap.size w0 w)(hob:w0.heap.size<=ob)(hrb:w0.heap.size<=rb)(hne:ob≠rb)(hhd:Rd w hv (strs FS))(hnm:Rd w (.slice A8 n8 c8) (strs NM))(htv:RdT w tv L)(hLl:L.length<=100)
 (hri:RecIn w rv (rec.map fun k=>(sel++dkS++dom,recK kind k)))(hkk:kind=edS∨kind=rsaS)(hrk: ∀k,rec=some k->KeyOk kind k∧k.length<=1000000)
 (hbh:look [98,104] L=some bhv)(hbv:look [98] L=some bv)(hls:look [115] L=some sel)(hla:look [97] L=some (kind++sha256S))(hlc:look [99] L=some (hfm++47::bfm))(hll:look [108] L=none)
 (hB:Blk w ob 61 (vdCells dom s2 (.slice A8 n8 c8) t1 t2 2))(hR:Blk w rb 61 os)(hos:os.length=6)(hhn:hv.ownBlock≠some ob)(hnn:(Value.slice A8 n8 c8).ownBlock≠some ob)
 (hsb:strip bhv=bhv∧bhv.length<=1000∧decR bhv=some x∧bhv.length%4=0)(hsv:strip bv=bv∧bv.length<=1000∧decR bv=some s∧bv.length%4=0)(hhf:formOk hfm)(hbf:formOk bfm)(hdl:dom.length<=1000000∧sel.length<=1000000)(hsd:strip sel=sel)
 (hFS: ∀f∈FS,f.length<=8000000)(lF:FS.length<=1000000)(hNM: ∀x∈NM,x.length<=400000)(lNM:NM.length<=20000)(hsl2:field.length<=8000000)(hbl:body.length<=10000000)
 (Hj:Hid (jc=recCode rec fun key=>judged hfm bfm key x s FS NM field body))
 {AA AB AC AD AE AF AG AH AI AJ AK AL AM AN AO AP AQ AR AS AT AU AV AW AX AY AZ Aa Ab Ac Ad Ae Af Ag Ah Ai Aj Ak Al Am An Ao Ap Aq Ar As At Au Av Aw Ax Ay Az A0 A1 A2 A3 A4 A5 A6 A7 A9 BA BB BC BD BE BF BG BH BI BJ BK BL BM BN BO BP BQ BR BT BU BV BW BX BY BZ Ba Bb Bc Bd Be Bf Bg Bh Bi Bj Bk Bl Bm Bn Bo Bp Bq Br Bs Bt Bu Bv Bw Bx By Bz B0 B1 B2 B3 B4 B5 B6 B7 B8 B9 CA CB CC CD CE CF CG CH CI CJ CK CL CM CN CO CP CQ CR CS CT CU CV CW CX CY CZ Ca Cb Cc Cd Ce Cf Cg Ch Ci Cj Ck Cl Cm Cn Co Cp Cq Cr Cs Ct Cu Cv Cw Cx Cy Cz C0 C1 C2 C3 C4 C5 C6 C7 C8 C9 DA DB DC DD DE DF DG DH DI DJ DK DL DM DN DO DP DQ DR DS DT DU DV DW DX DY DZ Da Db Dc Dd De Df Dg Dh Di Dj Dk Dl Dm Dn Do Dp Dq Dr Ds Dt Du Dv Dw Dx Dy Dz D0 D1 D2 D3 D4 D5 D6 D7 D8 D9 EA EB EC ED EE EF EG EH EI EJ EK EL EM EN EO EP EQ ER ES ET EU EV EW EX EY EZ Ea Eb Ec Ed Ee Ef Eg Eh Ei Ej Ek El Em En Eo Ep Eq Er Es Et Eu Ev Ew Ex Ey Ez E0 E1 E2 E3 E4 E5 E6 E7 E8 E9 FA FB FC FD FE FF FG FH FI FJ FK FL FM FN FO FP FQ FR FT FU FV FW FX FY FZ Fa Fb Fc Fd Fe Ff Fg Fh Fi Fj Fk Fl Fm Fn Fo Fp Fq Fr Fs Ft Fu Fv Fw Fx Fy Fz F0 F1 F2 F3 F4 F5 F6 F7 F8 F9 GA GB GC GD GE GF GG GH GI GJ GK GL GM GN GO GP GQ GR GS GT GU GV:Value}
 (K:Act->World->Prop)(hK: ∀a w,Code.wp Tryz.prog (tl 21 body52) (bodyPost Tryz.prog Tryz.f52 (JPost w0 jc)) a w->K a w):
 Code.wp Tryz.prog (hdC (tl 20 body52)) (Exit.then K (bodyPost Tryz.prog Tryz.f52 (JPost w0 jc))) ⟨(hv::Str body::Str field::rv::AA::AB::AC::AD::AE::AF:: .pointer (some ⟨rb,0,none⟩):: .pointer (some ⟨ob,0,none⟩)::AG::AH::AI::tv::AJ::AK::AL::AM::AN::AO::AP::AQ::AR::AS::AT::AU::AV::AW::AX::AY::AZ::Aa::Ab::Ac::Ad::Ae::Af::Ag::Ah::Ai::Aj::Ak::Al::Am::An::Ao::Ap::Aq::Ar::As::At::Au::Av::Aw::Ax::Ay::Az::A0::A1::A2::A3::A4::A5::A6::A7::A9::BA::BB::BC::BD::BE::BF::BG::BH::BI::BJ::BK::BL::BM::BN::BO::BP::BQ::BR::BT::BU::BV::BW::BX::BY::BZ::Ba::Bb::Bc::Bd::Be::Bf::Bg::Bh::Bi::Bj::Bk::Bl::Bm::Bn::Bo::Bp::Bq::Br::Bs::Bt::Bu::Bv::Bw::Bx::By::Bz::B0::B1::B2::B3::B4::B5::B6::B7::B8::B9::CA::CB::CC::CD::CE::CF::CG::CH::CI::CJ::CK::CL::CM::CN::CO::CP::CQ::CR::CS::CT::CU::CV::CW::CX::CY::CZ::Ca::Cb::Cc::Cd::Ce::Cf::Cg::Ch::Ci::Cj::Ck::Cl::Cm::Cn::Co::Cp::Cq::Cr::Cs::Ct::Cu::Cv::Cw::Cx::Cy::Cz::C0::C1::C2::C3::C4::C5::C6::C7::C8::C9::DA::DB::DC::DD::DE::DF::DG::DH::DI::DJ::DK::DL::DM::DN::DO::DP::DQ::DR::DS::DT::DU::DV::DW::DX::DY::DZ::Da::Db::Dc::Dd::De::Df::Dg::Dh::Di::Dj::Dk::Dl::Dm::Dn::Do::Dp::Dq::Dr::Ds::Dt::Du::Dv::Dw::Dx::Dy::Dz::D0::D1::D2::D3::D4::D5::D6::D7::D8::D9::EA::EB::EC::ED::EE::EF::EG::EH::EI::EJ::EK::EL::EM::EN::EO::EP::EQ::ER::ES::ET::EU::EV::EW::EX::EY::EZ::Ea::Eb::Ec::Ed::Ee::Ef::Eg::Eh::Ei::Ej::Ek::El::Em::En::Eo::Ep::Eq::Er::Es::Et::Eu::Ev::Ew::Ex::Ey::Ez::E0::E1::E2::E3::E4::E5::E6::E7::E8::E9::FA::FB::FC::FD::FE::FF::FG::FH::FI::FJ::FK::FL::FM::FN::FO::FP::FQ::FR::FT::FU::FV::FW::FX::FY::FZ::Fa::Fb::Fc::Fd::Fe::Ff::Fg::Fh::Fi::Fj::Fk::Fl::Fm::Fn::Fo::Fp::Fq::Fr::Fs::Ft::Fu::Fv::Fw::Fx::Fy::Fz::F0::F1::F2::F3::F4::F5::F6::F7::F8::F9::GA::GB::GC::GD::GE::GF::GG::GH::GI::GJ::GK::GL::GM::GN::GO::GP::GQ::GR::GS::GT::GU::GV:: []).toArray,[]⟩ w:=by
 conv=>arg 2;whnf
 obtain⟨y,hy⟩: ∃y,Hid (y=tl 21 body52):=⟨_,rfl⟩
 rw [<-hy.out]at hK
 have Hls:=Lib.hid hls
 have Hla:=Lib.hid hla
 have Hlc:=Lib.hid hlc
 have Hll:=Lib.hid hll
 have Hbh:=Lib.hid hbh
 have Hbv:=Lib.hid hbv
 have Hsb:=Lib.hid hsb
 have Hsv:=Lib.hid hsv
 have Hsd:=Lib.hid hsd
 have Hos:=Lib.hid hos
 obtain⟨ek1,ek2,ek3,ek4⟩:=kind_cut hkk
 have Ek1:=Lib.hid ek1
 have Ek2:=Lib.hid ek2
 obtain⟨ef1,ef2,ef3,ef4⟩:=forms_cut' hhf hbf
 have Ef1:=Lib.hid ef1
 have Ef2:=Lib.hid ef2
 have Ef3:=Lib.hid ef3
 have hB0:=hB.lt
 clear hls hla hlc hll hbh hbv hsb hsv hsd hos ek1 ek2 ek3 ef1 ef2 ef3
 go_wp2_with fail
 refine(dValue_any L [115] tv w htv (by omega)).mono ?_
 rintro e w1 ⟨rfl,rfl⟩
 rw [Hls.out]
 go_wp2_with fail
 rw [hy.out]
 clear hy
 conv=>arg 2;whnf
 have hn:sel++dkS++dom=sel++46::95::100::111::109::97::105::110::107::101::121::46::dom:=by simp [dkS]
 rw [hn]at hri
 clear hn
 have l1:sel.length<=1000000:=hdl.2
 have l2:dom.length<=1000000:=hdl.1
 have hask: ∃(tx:BS) (cd:Nat),(∀z,Below w.heap.size w z->Calls Tryz.prog 76 #[rv,Str (sel++46::95::100::111::109::97::105::110::107::101::121::46::dom)] z fun e w'=>e= .returned (.tuple #[Str tx, .int .i64 cd])∧Below w.heap.size w w')∧((cd=2∧jc=2)∨∃key,rec=some key∧cd=0∧tx=recK kind key):=by
  cases rec with
  |none=>
   have hri:rv= .slice none 0 0:=hri
   subst hri
   exact⟨[],2,fun z hz=>(dAsk_none _ z).mono (by rintro e w' ⟨rfl,rfl⟩;exact⟨rfl,hz⟩), .inl ⟨rfl,Hj.out⟩⟩
  |some key=>
   have hri:OneRec w rv _ (recK kind key):=hri
   exact⟨_,0,fun z hz=>(dAsk_one rv _ _ z (hri.rec1.below hz)).mono (by rintro e w' ⟨rfl,hb⟩;exact⟨rfl,hz.trans (hb.mono hz.size)⟩), .inr ⟨key,rfl,rfl,rfl⟩⟩
 obtain⟨tx,cd,hq76,hcd⟩:=hask
 have hq29: ∀z,Below w.heap.size w z->Calls Tryz.prog 29 #[Str sel] z fun e w'=>e= .returned (Str sel)∧Below w.heap.size w w':=fun z hz=>(dStrip_any sel z (by omega)).mono (by rintro e w' ⟨rfl,hb⟩;exact⟨by rw [Hsd.out],hz.trans (hb.mono hz.size)⟩)
 have Hq76:=Lib.hid hq76
 have Hq29:=Lib.hid hq29
 have Hcd:=Lib.hid hcd
 have hSS: ∀ww,Below w.heap.size w ww->ww.cell? ⟨ob,0,none⟩=some (Str dom):=fun ww hb=>bcell hb (hB.cell 0 _ rfl)
 have HS:=Lib.hid hSS
 clear hq76 hq29 hcd hSS
 have hq0:=bdw (Below.refl w.heap.size w)
 have q0:=HS.out w.drew hq0
 go_wp2_with fail
 have n1: ¬9223372036854775807<sel.length+12:=by omega
 have n2: ¬9223372036854775807<sel.length+12+dom.length:=by omega
 go_region_held3 (fun ww=>ww.cell? ⟨ob,0,none⟩=some (Str dom)) (exact HS.out _ (by assumption))
  (first
    |(go_at_call 29;refine(Hq29.out _ (by assumption)).mono ?_;rintro e w3 ⟨he,hb3⟩;subst he)
    |(go_at_call 76;refine(Hq76.out _ (by assumption)).mono ?_;rintro e w3 ⟨he,hb3⟩;subst he)
    |fail)
 have hB3:=hB.below hb3 hB.lt
 have hR3:=hR.below hb3 hR.lt
 have hb03:=hb0.trans (hb3.mono hb0.size)
 have htv3:=htv.below hb3
 rcases Hcd.out with⟨rfl,hj2⟩|⟨key,hrec,rfl,htx⟩
 ·have c5:=hB3.cell 5 _ rfl
  have f5:=hB3.frozen 5
  clear Hj Hcd Hq76 Hq29
  subst hj2
  go_upto_region 53 with fail
  have hB13:Blk (w3.setCell ⟨ob,5,none⟩ (.int .i64 2)) ob 61 (vdCells dom s2 (.slice A8 n8 c8) t1 t2 2):=hB3.set 5 (.int .i64 (2:Nat))
  have hR13:=hR3.far (p:=⟨ob,5,none⟩) (Ne.symm hne) (.int .i64 2)
  have hb013:Below w0.heap.size w0 (w3.setCell ⟨ob,5,none⟩ (.int .i64 2)):=hb03.setCell hob _
  have hret:=vd_ret hR13 hb013 hrb dom s2 A8 n8 c8 t1 t2 2
  go_wp2_with (first|(with_reducible refine at_vd ?_;refine vd_row 239 rb ob n8 c8 2 dom s2 A8 t1 t2 os hB13 hR13 Hos.out rfl rfl rfl rfl rfl rfl rfl ?_)|fail)
  exact hret _ rfl rfl
 ·subst htx
  have hj:Hid (jc=if judged hfm bfm key x s FS NM field body then 0 else 1):=by
   have:=Hj.out
   rw [hrec]at this
   exact this
  obtain⟨hk1,hk2⟩:=hrk key hrec
  have hhd3:=hhd.below hb3
  have hnm3:=hnm.below hb3
  clear Hj Hcd Hq76 Hq29 hrec hri hrk hB hR hb0 htv hhd hnm
  have lR:=recK_len kind key hk1
  have Hk1:=Lib.hid hk1
  clear hk1
  obtain⟨RK,HRK⟩: ∃z,Hid (z=recK kind key):=⟨_,Lib.hid rfl⟩
  rw [<-HRK.out]at lR⊢
  go_wp2_with fail
  refine(dRead_key RK kind key _ w3 lR Hk1.out.2 (by rw [HRK.out];exact tagsOf_rec kind key hkk) (by simp) (keyTags_r kind key Hk1.out.1)).mono ?_
  rintro e w4 ⟨kv,rfl,hkv,hb4⟩
  have hB4:=hB3.below hb4 hB3.lt
  have hR4:=hR3.below hb4 hR3.lt
  have hb04:=hb03.trans (hb4.mono hb03.size)
  have htv4:=htv3.below hb4
  have hhd4:=hhd3.below hb4
  have hnm4:=hnm3.below hb4
  have hs4:=hb4.size
  have hs3:=hb3.size
  obtain⟨kA,kc,hkv0,_,_⟩:=id hkv.rd
  have hkO:=hkv.ge ob (by omega)
  have hkR:=hkv.rd
  clear hB3 hR3 hb03 htv3 hhd3 hnm3 hb3 hb4 hkv
  subst hkv0
  go_upto_region 55 with fail
  have hb5:=(Below.refl w4.heap.size w4).alloc (Nat.le_refl _) (.cells #[Str kind, .slice kA (byts key).length kc, .int .i64 (8*(key.length:Int)), .slice none 0 0, .slice none 0 0, .slice none 0 0,Str [], .bool true, .bool true] 151)
  have hkb:=Blk.new w4 151 #[Str kind, .slice kA (byts key).length kc, .int .i64 (8*(key.length:Int)), .slice none 0 0, .slice none 0 0, .slice none 0 0,Str [], .bool true, .bool true]
  obtain⟨kb,Hkb⟩: ∃z,Hid (z=w4.heap.size):=⟨_,Lib.hid rfl⟩
  have hkc:kb≠ob:=by have:=Hkb.out;omega
  rw [<-Hkb.out]at hkb⊢
  change Code.wp Tryz.prog _ _ _ (w4.alloc (.cells #[Str kind, .slice kA (byts key).length kc, .int .i64 (8*(key.length:Int)), .slice none 0 0, .slice none 0 0, .slice none 0 0,Str [], .bool true, .bool true] 151))
  generalize w4.alloc (.cells #[Str kind, .slice kA (byts key).length kc, .int .i64 (8*(key.length:Int)), .slice none 0 0, .slice none 0 0, .slice none 0 0,Str [], .bool true, .bool true] 151)=w5 at*
  have hB5:=hB4.below hb5 hB4.lt
  have hR5:=hR4.below hb5 hR4.lt
  have hb05:=hb04.trans (hb5.mono hb04.size)
  have htv5:=htv4.below hb5
  have hhd5:=hhd4.below hb5
  have hnm5:=hnm4.below hb5
  have hkR5:=hkR.below hb5
  clear hB4 hR4 hb04 htv4 hhd4 hnm4 hkR hb5 hs4 hs3
  go_wp2_with fail
  refine(dValue_any L [97] tv w5 htv5 (by omega)).mono ?_
  rintro e w6 ⟨rfl,rfl⟩
  rw [Hla.out]
  go_wp2_with fail
  refine(dStrip_any (kind++sha256S) w5 (by omega)).mono ?_
  rintro e w6 ⟨rfl,hb6⟩
  rw [Ek2.out]
  go_wp2_with fail
  refine(dCut_any (kind++sha256S) 45 w6 (by omega)).mono ?_
  rintro e w7 ⟨rfl,hb7⟩
  have hb7:=hb6.trans (hb7.mono hb6.size)
  rw [Ek1.out]
  have hkb7:=hkb.below hb7 hkb.lt
  have k0:=hkb7.cell 0 _ rfl
  have k7:=hkb7.cell 7 _ rfl
  have k8:=hkb7.cell 8 _ rfl
  have htv7:=htv5.below hb7
  clear hb6
  go_upto_region 59 with fail
  go_wp2_with fail
  refine(dValue_any L [99] tv w7 htv7 (by omega)).mono ?_
  rintro e w8 ⟨rfl,rfl⟩
  rw [Hlc.out]
  clear k0 k7 k8
  go_wp2_with fail
  refine(dFormsOf_two (hfm++47::bfm) hfm bfm w7 (by omega) Ef1.out Ef2.out Ef3.out).mono ?_
  rintro e w8 ⟨rfl,hb8⟩
  have hb8:=hb7.trans (hb8.mono hb7.size)
  have htv8:=htv5.below hb8
  clear hb7 hkb7 htv7
  go_wp2_with fail
  refine(dValue_any L [108] tv w8 htv8 (by omega)).mono ?_
  rintro e w9 ⟨rfl,rfl⟩
  rw [Hll.out]
  go_upto_region 69 with fail
  have hkb8:=hkb.below hb8 hkb.lt
  exact jud4 ob rb kb jc n8 c8 A8 hv tv (.slice kA (byts key).length kc) FS NM field body hfm bfm kind key x s bhv bv dom s2 t1 t2 L os _ w0 w8
   (hb05.trans (hb8.mono hb05.size)) hob hrb hne (hhd5.below hb8) (hnm5.below hb8) htv8 hLl Hbh.out Hbv.out (hB5.below hb8 hB5.lt) (hR5.below hb8 hR5.lt) Hos.out hkb8 rfl (hkR5.below hb8) hkc hkO hhn hnn Hsb.out Hsv.out hFS lF hNM lNM hsl2 hbl hk2 hj
   _ (by assumption)
theorem dWhole_nil (w:World):Calls Tryz.prog 74 #[Str []] w fun e w'=>e= .returned (.tuple #[.int .i64 0, .bool false])∧Below w.heap.size w w':=by
 go_enter Tryz.func74,Tryz.ntmps74
 go_wp2_with fail
 refine(dStrip_any [] w (by simp)).mono ?_
 rintro e w1 ⟨rfl,hb1⟩
 have hs:strip []= []:=rfl
 rw [hs]
 clear hs
 go_wp2_with fail
 go_loopw [7] (fun i wx=>i= .int .i64 0∧wx=w1) (fun _ _=>0)
 case atStart=>exact⟨rfl,rfl⟩
 case round=>
  obtain⟨rfl,rfl⟩:=hrel
  go_wp2_with fail
  go_ret2
  exact⟨rfl,hb1⟩
theorem dWhole_opt (o:Option Nat)(w:World)(h: ∀n,o=some n->n<8589934592):Calls Tryz.prog 74 #[Str ((o.map Lib.decDigits).getD [])] w fun e w'=>e= .returned (.tuple #[.int .i64 ((o.getD 0:Nat):Int), .bool o.isSome])∧Below w.heap.size w w':=by
 cases o with
 |none=>exact dWhole_nil w
 |some n=>
  have:=h n rfl
  have hd:=dWhole_digits (Lib.decDigits n) w (by have:=dec_len 9 n (by omega);omega) (dec_ne n) (dec_digits n) (by rw [dec_num];omega)
  rw [dec_num]at hd
  exact hd
theorem RdT.frm {S:Nat->Prop} {w w':World} {v:Value} {l:List Tag} (h:RdT w v l)(hF:Frm S w w')(hS: ∀k,v.ownBlock=some k->¬S k):RdT w' v l:=by
 obtain⟨A,c,rfl,hc,hx⟩:=h
 refine⟨A,c,rfl,hc,?_⟩
 rcases hx with hx|⟨g,off,rfl,hg,hk⟩
 ·exact .inl hx
 ·exact .inr ⟨g,off,rfl,Nat.lt_of_lt_of_le hg hF.size,fun k h=>⟨frC hF (hk k h).1 (hS g rfl),frC hF (hk k h).2 (hS g rfl)⟩⟩
theorem jud2 (ob rb jc now tn en:Nat)(hv tv rv:Value)(rec:Option BS)(FS NM:List BS)(field body hfm bfm kind x s bhv bv dom sel s2 hn:BS)(L:List Tag)(os:List Value)(w0 w:World)
 (hb0:Below w0.heap.size w0 w)(hob:w0.heap.size<=ob)(hrb:w0.heap.size<=rb)(hne:ob≠rb)(hhd:Rd w0 hv (strs FS))(htv:RdT w tv L)(hto:tv.ownBlock≠some ob)(hLl:L.length<=100)
 (hri:RecIn w0 rv (rec.map fun k=>(sel++dkS++dom,recK kind k)))(hkk:kind=edS∨kind=rsaS)(hrk: ∀k,rec=some k->KeyOk kind k∧k.length<=1000000)
 (hlh:look [104] L=some hn)(hhn:splitAt 58 (strip hn)=NM)(hhl:hn.length<=4294967296)(hfrom: ∃z∈NM,lower z=fromS)(hlt:look [116] L=some (Lib.decDigits tn))(hlx:look [120] L=(if en=0 then none else some en).map Lib.decDigits)(hlq:look [113] L=none)(htn:tn<8589934592)(hen:en<8589934592)
 (hbh:look [98,104] L=some bhv)(hbv:look [98] L=some bv)(hls:look [115] L=some sel)(hla:look [97] L=some (kind++sha256S))(hlc:look [99] L=some (hfm++47::bfm))(hll:look [108] L=none)
 (hB:Blk w ob 61 (vdCells dom s2 (.slice none 0 0) 0 0 2))(hR:Blk w rb 61 os)(hos:os.length=6)(hhO:hv.ownBlock≠some ob)
 (hsb:strip bhv=bhv∧bhv.length<=1000∧decR bhv=some x∧bhv.length%4=0)(hsv:strip bv=bv∧bv.length<=1000∧decR bv=some s∧bv.length%4=0)(hhf:formOk hfm)(hbf:formOk bfm)(hdl:dom.length<=1000000∧sel.length<=1000000)(hsd:strip sel=sel)
 (hFS: ∀f∈FS,f.length<=8000000)(lF:FS.length<=1000000)(hNM: ∀x∈NM,x.length<=400000)(lNM:NM.length<=20000)(hsl2:field.length<=8000000)(hbl:body.length<=10000000)
 (Hj:Hid (jc=if en≠0∧en<now then 2 else recCode rec fun key=>judged hfm bfm key x s FS NM field body))
 {AA AB AC AD AE AF AG AH AI AJ AK AL AM AN AO AP AQ AR AS AT AU AV AW AX AY AZ Aa Ab Ac Ad Ae Af Ag Ah Ai Aj Ak Al Am An Ao Ap Aq Ar As At Au Av Aw Ax Ay Az A0 A1 A2 A3 A4 A5 A6 A7 A8 A9 BA BB BC BD BE BF BG BH BI BJ BK BL BM BN BO BP BQ BR BT BU BV BW BX BY BZ Ba Bb Bc Bd Be Bf Bg Bh Bi Bj Bk Bl Bm Bn Bo Bp Bq Br Bs Bt Bu Bv Bw Bx By Bz B0 B1 B2 B3 B4 B5 B6 B7 B8 B9 CA CB CC CD CE CF CG CH CI CJ CK CL CM CN CO CP CQ CR CS CT CU CV CW CX CY CZ Ca Cb Cc Cd Ce Cf Cg Ch Ci Cj Ck Cl Cm Cn Co Cp Cq Cr Cs Ct Cu Cv Cw Cx Cy Cz C0 C1 C2 C3 C4 C5 C6 C7 C8 C9 DA DB DC DD DE DF DG DH DI DJ DK DL DM DN DO DP DQ DR DS DT DU DV DW DX DY DZ Da Db Dc Dd De Df Dg Dh Di Dj Dk Dl Dm Dn Do Dp Dq Dr Ds Dt Du Dv Dw Dx Dy Dz D0 D1 D2 D3 D4 D5 D6 D7 D8 D9 EA EB EC ED EE EF EG EH EI EJ EK EL EM EN EO EP EQ ER ES ET EU EV EW EX EY EZ Ea Eb Ec Ed Ee Ef Eg Eh Ei Ej Ek El Em En Eo Ep Eq Er Es Et Eu Ev Ew Ex Ey Ez E0 E1 E2 E3 E4 E5 E6 E7 E8 E9 FA FB FC FD FE FF FG FH FI FJ FK FL FM FN FO FP FQ FR FT FU FV FW FX FY FZ Fa Fb Fc Fd Fe Ff Fg Fh Fi Fj Fk Fl Fm Fn Fo Fp Fq Fr Fs Ft Fu Fv Fw Fx Fy Fz F0 F1 F2 F3 F4 F5 F6 F7 F8 F9 GA GB GC GD GE GF GG GH GI GJ GK GL GM GN GO GP GQ GR GS GT:Value}
 (K:Act->World->Prop)(hK: ∀a w,Code.wp Tryz.prog (tl 13 body52) (bodyPost Tryz.prog Tryz.f52 (JPost w0 jc)) a w->K a w):
 Code.wp Tryz.prog (hdC (tl 12 body52)) (Exit.then K (bodyPost Tryz.prog Tryz.f52 (JPost w0 jc))) ⟨(hv::Str body::Str field::rv:: .int .i64 (now:Int)::AA::AB::AC::AD::AE:: .pointer (some ⟨rb,0,none⟩):: .pointer (some ⟨ob,0,none⟩)::AF::AG::AH::tv::AI::AJ::AK::AL::AM::AN::AO::AP::AQ::AR::AS::AT::AU::AV::AW::AX::AY::AZ::Aa::Ab::Ac::Ad::Ae::Af::Ag::Ah::Ai::Aj::Ak::Al::Am::An::Ao::Ap::Aq::Ar::As::At::Au::Av::Aw::Ax::Ay::Az::A0::A1::A2::A3::A4::A5::A6::A7::A8::A9::BA::BB::BC::BD::BE::BF::BG::BH::BI::BJ::BK::BL::BM::BN::BO::BP::BQ::BR::BT::BU::BV::BW::BX::BY::BZ::Ba::Bb::Bc::Bd::Be::Bf::Bg::Bh::Bi::Bj::Bk::Bl::Bm::Bn::Bo::Bp::Bq::Br::Bs::Bt::Bu::Bv::Bw::Bx::By::Bz::B0::B1::B2::B3::B4::B5::B6::B7::B8::B9::CA::CB::CC::CD::CE::CF::CG::CH::CI::CJ::CK::CL::CM::CN::CO::CP::CQ::CR::CS::CT::CU::CV::CW::CX::CY::CZ::Ca::Cb::Cc::Cd::Ce::Cf::Cg::Ch::Ci::Cj::Ck::Cl::Cm::Cn::Co::Cp::Cq::Cr::Cs::Ct::Cu::Cv::Cw::Cx::Cy::Cz::C0::C1::C2::C3::C4::C5::C6::C7::C8::C9::DA::DB::DC::DD::DE::DF::DG::DH::DI::DJ::DK::DL::DM::DN::DO::DP::DQ::DR::DS::DT::DU::DV::DW::DX::DY::DZ::Da::Db::Dc::Dd::De::Df::Dg::Dh::Di::Dj::Dk::Dl::Dm::Dn::Do::Dp::Dq::Dr::Ds::Dt::Du::Dv::Dw::Dx::Dy::Dz::D0::D1::D2::D3::D4::D5::D6::D7::D8::D9::EA::EB::EC::ED::EE::EF::EG::EH::EI::EJ::EK::EL::EM::EN::EO::EP::EQ::ER::ES::ET::EU::EV::EW::EX::EY::EZ::Ea::Eb::Ec::Ed::Ee::Ef::Eg::Eh::Ei::Ej::Ek::El::Em::En::Eo::Ep::Eq::Er::Es::Et::Eu::Ev::Ew::Ex::Ey::Ez::E0::E1::E2::E3::E4::E5::E6::E7::E8::E9::FA::FB::FC::FD::FE::FF::FG::FH::FI::FJ::FK::FL::FM::FN::FO::FP::FQ::FR::FT::FU::FV::FW::FX::FY::FZ::Fa::Fb::Fc::Fd::Fe::Ff::Fg::Fh::Fi::Fj::Fk::Fl::Fm::Fn::Fo::Fp::Fq::Fr::Fs::Ft::Fu::Fv::Fw::Fx::Fy::Fz::F0::F1::F2::F3::F4::F5::F6::F7::F8::F9::GA::GB::GC::GD::GE::GF::GG::GH::GI::GJ::GK::GL::GM::GN::GO::GP::GQ::GR::GS::GT:: []).toArray,[]⟩ w:=by
 conv=>arg 2;whnf
 obtain⟨y,hy⟩: ∃y,Hid (y=tl 13 body52):=⟨_,rfl⟩
 rw [<-hy.out]at hK
 have Hlh:=Lib.hid hlh
 have Hhn:=Lib.hid hhn
 have Hfrom:=Lib.hid hfrom
 have Hlt:=Lib.hid hlt
 have Hlx:=Lib.hid hlx
 have Hlq:=Lib.hid hlq
 have Hls:=Lib.hid hls
 have Hla:=Lib.hid hla
 have Hlc:=Lib.hid hlc
 have Hll:=Lib.hid hll
 have Hbh:=Lib.hid hbh
 have Hbv:=Lib.hid hbv
 have Hsb:=Lib.hid hsb
 have Hsv:=Lib.hid hsv
 have Hsd:=Lib.hid hsd
 have Hos:=Lib.hid hos
 have hB0:=hB.lt
 clear hlh hhn hfrom hlt hlx hlq hls hla hlc hll hbh hbv hsb hsv hsd hos
 go_wp2_with fail
 refine(dValue_any L [104] tv w htv (by omega)).mono ?_
 rintro e w1 ⟨rfl,rfl⟩
 rw [Hlh.out]
 go_wp2_with fail
 rw [hy.out]
 clear hy
 conv=>arg 2;whnf
 go_wp2_with fail
 refine(dParts_any hn w hhl).mono ?_
 rintro e w1 ⟨nv,rfl,hno,hb1⟩
 rw [Hhn.out]at hno
 have hnr:=hno.rd
 have hnO:=hno.ge ob hB0
 obtain⟨nA,nc,rfl,_,_⟩:=id hnr
 rw [stL]at hnr hnO⊢
 have hB1:=hB.below hb1 hB.lt
 have hR1:=hR.below hb1 hR.lt
 have htv1:=htv.below hb1
 have hb01:=hb0.trans (hb1.mono hb0.size)
 clear hno hb1 hB hR htv hb0
 go_wp2_with fail
 go_loopw [30,31] (fun v30 v31 wx=> ∃k:Nat,k<=NM.length∧v31= .int .i64 k∧v30= .bool ((NM.take k).any fun z=>lower z==fromS)∧Below w1.heap.size w1 wx) (fun _ v31 _=>NM.length-(intOf v31).toNat)
 case atStart=>exact⟨0,Nat.zero_le _,rfl,by simp,Below.refl _ _⟩
 case round=>
  obtain⟨k,hk,rfl,rfl,hbx⟩:=hrel
  by_cases hlt:k<NM.length
  ·have hnw:=hnr.below hbx
   obtain⟨A',c',he,_,hn0|⟨g,off,e,_,hc⟩⟩:=id hnw
   ·exfalso
    have:NM.length=0:=by rw [<-stL,hn0];rfl
    omega
   injection he with h1 h2 h3
   clear h2 h3
   subst h1
   subst e
   have hck:=hc k (Str NM[k]) (by simp [strs,hlt])
   clear hc
   have h0:(0:Int)<=(k:Int):=by omega
   have h1:(k:Int)<(NM.length:Int):=by omega
   have hxl:=hNM _ (List.getElem_mem hlt)
   have hs1:Hid (((NM.take (k+1)).any fun z=>lower z==fromS)=(((NM.take k).any fun z=>lower z==fromS)||(lower NM[k]==fromS))):=by
    show _=_
    rw [List.take_succ_eq_append_getElem hlt,List.any_append];simp
   obtain⟨y,Hy⟩: ∃z,Hid (z=NM[k]):=⟨_,Lib.hid rfl⟩
   rw [<-Hy.out]at hck hxl hs1
   obtain⟨b,Hb⟩: ∃z,Hid (z=(NM.take k).any fun z=>lower z==fromS):=⟨_,Lib.hid rfl⟩
   rw [<-Hb.out]at hs1⊢
   cases b with
   |true=>
    clear hck
    go_wp2_with fail
    go_roundw
    case rel=>exact⟨k+1,hlt,by go_num,by rw [hs1.out];rfl,hbx⟩
    case measure=>simp [intOf];omega
   |false=>
    go_wp2_with fail
    refine(dLower_any y wr (by omega)).mono ?_
    rintro e w2 ⟨rfl,hb2⟩
    have hbx2:=hbx.trans (hb2.mono hbx.size)
    by_cases hb:lower y=fromS
    ·have e1:(lower y== [102,114,111,109])=true:=by simpa [fromS]using hb
     have hs2:Hid (((NM.take (k+1)).any fun z=>lower z==fromS)=true):=by show _=_;rw [hs1.out,hb];rfl
     clear hb hs1
     go_wp2_with fail
     go_roundw
     case rel=>exact⟨k+1,hlt,by go_num,by rw [hs2.out],hbx2⟩
     case measure=>simp [intOf];omega
    ·have e1:(lower y== [102,114,111,109])=false:=by simpa [fromS]using hb
     have hs2:Hid (((NM.take (k+1)).any fun z=>lower z==fromS)=false):=by show _=_;rw [hs1.out];simpa using hb
     clear hb hs1
     go_wp2_with fail
     go_roundw
     case rel=>exact⟨k+1,hlt,by go_num,by rw [hs2.out],hbx2⟩
     case measure=>simp [intOf];omega
  ·have hfr:Hid (((NM.take k).any fun z=>lower z==fromS)=true):=by
    show _=_
    rw [List.take_of_length_le (by omega),List.any_eq_true]
    obtain⟨z,hz,he⟩:=Hfrom.out
    exact⟨z,hz,by simpa using he⟩
   rw [hfr.out]
   have hB2:=hB1.below hbx hB1.lt
   have hR2:=hR1.below hbx hR1.lt
   have htv2:=htv1.below hbx
   have hn2:=hnr.below hbx
   have hb02:=hb01.trans (hbx.mono hb01.size)
   have c2:=hB2.cell 2 _ rfl
   have f2:=hB2.frozen 2
   clear hB1 hR1 htv1 hnr hb01 hbx hfr
   go_upto_region 32 with fail
   have hB3:Blk (wr.setCell ⟨ob,2,none⟩ (.slice nA NM.length nc)) ob 61 (vdCells dom s2 (.slice nA NM.length nc) 0 0 2):=hB2.set 2 (.slice nA NM.length nc)
   have hR3:=hR2.far (p:=⟨ob,2,none⟩) (Ne.symm hne) (.slice nA NM.length nc)
   have hb03:Below w0.heap.size w0 (wr.setCell ⟨ob,2,none⟩ (.slice nA NM.length nc)):=hb02.setCell hob _
   have hF3:Frm (· =ob) wr (wr.setCell ⟨ob,2,none⟩ (.slice nA NM.length nc)):=(Frm.refl _ wr).setCell ⟨ob,2,none⟩ _ (fun _=>rfl)
   have htv3:=htv2.frm hF3 (fun k hk e=>hto (by rw [hk,e]))
   have hn3:=hn2.frm hF3 (fun k hk e=>hnO (by rw [hk,e]))
   generalize wr.setCell ⟨ob,2,none⟩ (.slice nA NM.length nc)=w3 at*
   clear hB2 hR2 htv2 hn2 hb02 c2 f2 hF3
   have hbA:=(Below.refl w3.heap.size w3).alloc (Nat.le_refl _) (.cells #[.string ⟨#[116]⟩, .string ⟨#[120]⟩] 9)
   have hxA:=Blk.new w3 9 #[.string ⟨#[116]⟩, .string ⟨#[120]⟩]
   have hobw:=hB3.lt
   obtain⟨tb,Htb⟩: ∃z,Hid (z=w3.heap.size):=⟨_,Lib.hid rfl⟩
   have htb:tb≠ob:=by have:=Htb.out;omega
   rw [<-Htb.out]at hxA
   go_wp2_with fail
   rw [<-Htb.out]
   generalize w3.alloc (.cells #[.string ⟨#[116]⟩, .string ⟨#[120]⟩] 9)=wA at*
   have hBA:=hB3.below hbA hB3.lt
   have hRA:=hR3.below hbA hR3.lt
   have htvA:=htv3.below hbA
   have hnA:=hn3.below hbA
   have hb0A:=hb03.trans (hbA.mono hb03.size)
   clear hB3 hR3 htv3 hn3 hb03 hbA hobw
   have hwt: ∀z,Calls Tryz.prog 74 #[Str (Lib.decDigits tn)] z fun e w'=>e= .returned (.tuple #[.int .i64 (tn:Int), .bool true])∧Below z.heap.size z w':=fun z=>dWhole_opt (some tn) z (by rintro _ ⟨⟩;exact htn)
   have hwe: ∀z,Calls Tryz.prog 74 #[Str (Lib.decDigits en)] z fun e w'=>e= .returned (.tuple #[.int .i64 (en:Int), .bool true])∧Below z.heap.size z w':=fun z=>dWhole_opt (some en) z (by rintro _ ⟨⟩;exact hen)
   obtain⟨dt,Hdt⟩: ∃z,Hid (z=Lib.decDigits tn):=⟨_,Lib.hid rfl⟩
   obtain⟨de,Hde⟩: ∃z,Hid (z=Lib.decDigits en):=⟨_,Lib.hid rfl⟩
   rw [<-Hdt.out]at hwt
   rw [<-Hde.out]at hwe
   have Hwt:=Lib.hid hwt
   have Hwe:=Lib.hid hwe
   clear hwt hwe
   go_loopw [175] (fun v175 wx=>(v175= .int .i64 0∧wx=wA)∨(v175= .int .i64 1∧Blk wx ob 61 (vdCells dom s2 (.slice nA NM.length nc) (tn:Int) 0 2)∧Below w0.heap.size w0 wx∧Frm (· =ob) wA wx)∨
    (v175= .int .i64 2∧Blk wx ob 61 (vdCells dom s2 (.slice nA NM.length nc) (tn:Int) (en:Int) 2)∧Below w0.heap.size w0 wx∧Frm (· =ob) wA wx∧Hid (¬(en≠0∧en<now)))) (fun v175 _=>2-(intOf v175).toNat)
   case atStart=>exact .inl ⟨rfl,rfl⟩
   case round=>
    rcases hrel with⟨rfl,rfl⟩|⟨rfl,hBx,hb0x,hFx⟩|⟨rfl,hBx,hb0x,hFx,hnl⟩
    ·have a0:=hxA.cell 0 _ rfl
     go_wp2_with fail
     refine(dValue_any L [116] tv wr htvA (by omega)).mono ?_
     rintro e w5 ⟨rfl,rfl⟩
     rw [Hlt.out,<-Hdt.out]
     go_wp2_with fail
     refine(Hwt.out wr).mono ?_
     rintro e w5 ⟨rfl,hb5⟩
     have hB5:=hBA.below hb5 hBA.lt
     have c3:=hB5.cell 3 _ rfl
     have f3:=hB5.frozen 3
     have hb05:=hb0A.trans (hb5.mono hb0A.size)
     have hF5:Frm (· =ob) wr w5:=Frm.of_new hb5
     go_wp2_with fail
     go_roundw
     case rel=>exact .inr (.inl ⟨by go_num,hB5.set 3 (.int .i64 (tn:Int)),hb05.setCell hob _,hF5.setCell ⟨ob,3,none⟩ _ (fun _=>rfl)⟩)
     case measure=>simp [intOf]
    ·have a1:=frC hFx (hxA.cell 1 _ rfl) htb
     have htvx:=htvA.frm hFx (fun k hk e=>hto (by rw [hk,e]))
     by_cases he:en=0
     ·have Hlx2:Hid (look [120] L=none):=by show _=_;rw [Hlx.out,if_pos he];rfl
      have hnl:Hid (¬(en≠0∧en<now)):=fun h=>h.1 he
      have hBx2:Blk wr ob 61 (vdCells dom s2 (.slice nA NM.length nc) (tn:Int) (en:Int) 2):=by rw [he];exact hBx
      clear he
      go_wp2_with fail
      refine(dValue_any L [120] tv wr htvx (by omega)).mono ?_
      rintro e w5 ⟨rfl,rfl⟩
      rw [Hlx2.out]
      go_wp2_with fail
      refine(dWhole_nil wr).mono ?_
      rintro e w5 ⟨rfl,hb5⟩
      have hb05:=hb0x.trans (hb5.mono hb0x.size)
      go_wp2_with fail
      go_roundw
      case rel=>exact .inr (.inr ⟨by go_num,hBx2.below hb5 hBx2.lt,hb05,hFx.trans (Frm.of_new hb5),hnl⟩)
      case measure=>simp [intOf]
     ·have Hlx2:Hid (look [120] L=some de):=by show _=_;rw [Hlx.out,if_neg he,Hde.out];rfl
      have Hen:=Lib.hid he
      clear he
      go_wp2_with fail
      refine(dValue_any L [120] tv wr htvx (by omega)).mono ?_
      rintro e w5 ⟨rfl,rfl⟩
      rw [Hlx2.out]
      go_wp2_with fail
      refine(Hwe.out wr).mono ?_
      rintro e w5 ⟨rfl,hb5⟩
      have hB5:=hBx.below hb5 hBx.lt
      have c4:=hB5.cell 4 _ rfl
      have f4:=hB5.frozen 4
      have hb05:=hb0x.trans (hb5.mono hb0x.size)
      have hF5:Frm (· =ob) wA w5:=hFx.trans (Frm.of_new hb5)
      have hR5:=hRA.frm hF5 (fun e=>hne e.symm)
      have hB6:Blk (w5.setCell ⟨ob,4,none⟩ (.int .i64 (en:Int))) ob 61 (vdCells dom s2 (.slice nA NM.length nc) (tn:Int) (en:Int) 2):=hB5.set 4 (.int .i64 (en:Int))
      have hR6:=hR5.far (p:=⟨ob,4,none⟩) (Ne.symm hne) (.int .i64 (en:Int))
      have hb06:Below w0.heap.size w0 (w5.setCell ⟨ob,4,none⟩ (.int .i64 (en:Int))):=hb05.setCell hob _
      by_cases hl:en<now
      ·have hgt:(en:Int)<(now:Int):=by omega
       have hj2:jc=2:=by rw [Hj.out,if_pos ⟨Hen.out,hl⟩]
       have hret:=vd_ret hR6 hb06 hrb dom s2 nA NM.length nc (tn:Int) (en:Int) 2
       clear Hj hl
       subst hj2
       go_wp2_with (first|(with_reducible refine at_vd ?_;refine vd_row 204 rb ob NM.length nc 2 dom s2 nA (tn:Int) (en:Int) os hB6 hR6 Hos.out rfl rfl rfl rfl rfl rfl rfl ?_)|fail)
       exact hret _ rfl rfl
      ·have hgt: ¬((en:Int)<(now:Int)):=by omega
       have hnl:Hid (¬(en≠0∧en<now)):=fun h=>hl h.2
       clear hl
       go_wp2_with fail
       go_roundw
       case rel=>exact .inr (.inr ⟨by go_num,hB6,hb06,hF5.setCell ⟨ob,4,none⟩ _ (fun _=>rfl),hnl⟩)
       case measure=>simp [intOf]
    ·have htvx:=htvA.frm hFx (fun k hk e=>hto (by rw [hk,e]))
     have hRx:=hRA.frm hFx (fun e=>hne e.symm)
     have hnx:=hnA.frm hFx (fun k hk e=>hnO (by rw [hk,e]))
     have hj:Hid (jc=recCode rec fun key=>judged hfm bfm key x s FS NM field body):=by
      show _=_
      rw [Hj.out,if_neg hnl.out]
     clear Hj
     go_wp2_with fail
     refine(dValue_any L [113] tv wr htvx (by omega)).mono ?_
     rintro e w5 ⟨rfl,rfl⟩
     rw [Hlq.out]
     go_upto_region 49 with fail
     exact jud3 ob rb jc NM.length nc nA hv tv rv rec FS NM field body hfm bfm kind x s bhv bv dom sel s2 (tn:Int) (en:Int) L os w0 wr
      hb0x hob hrb hne (hhd.below hb0x) hnx htvx hLl (hri.below hb0x) hkk hrk Hbh.out Hbv.out Hls.out Hla.out Hlc.out Hll.out hBx hRx Hos.out hhO hnO Hsb.out Hsv.out hhf hbf hdl Hsd.out hFS lF hNM lNM hsl2 hbl hj
      _ (by assumption)
def reqS:List BS:= [[118],[97],[98],[98,104],[100],[104],[115]]
theorem tv_ne {w:World} {tv:Value} {L:List Tag} {ob:Nat} {s1 s2:BS} {A:Option Addr} {n m:Nat} {t1 t2:Int} {c:Nat} (h:RdT w tv L)(hL:2<=L.length)(hB:Blk w ob 61 (vdCells s1 s2 (.slice A n m) t1 t2 c)):tv.ownBlock≠some ob:=by
 obtain⟨A',c',rfl,_,h0|⟨g,off,rfl,_,hk⟩⟩:=h
 ·rw [h0]at hL;simp at hL
 ·intro e
  have e:g=ob:=Option.some.inj e
  subst e
  have h1:=(hk 1 hL).1
  rw [cell_of_row w g (off+1*2) _ 61 (0,0) hB]at h1
  simp only [vdCells]at h1
  match off,h1 with
  |0,h1=>simp at h1
  |1,h1=>simp at h1
  |2,h1=>simp at h1
  |3,h1=>simp at h1
  |n+4,h1=>simp at h1
theorem dJudged_raw (jc now tn en:Nat)(hv rv:Value)(rec:Option BS)(FS NM:List BS)(field body hfm bfm kind x s bhv bv dom sel ident hn:BS)(L:List Tag)(w:World)
 (hL:tagsOf (cutAt 58 field).2.1=some L)(hhd:Rd w hv (strs FS))(hhO0:strs FS≠ [])(hLl:L.length<=100)(hL2:2<=L.length)
 (hri:RecIn w rv (rec.map fun k=>(sel++dkS++dom,recK kind k)))(hkk:kind=edS∨kind=rsaS)(hrk: ∀k,rec=some k->KeyOk kind k∧k.length<=1000000)
 (hreq: ∀k,(h:k<reqS.length)->(look reqS[k] L).isSome=true)(hlv:look [118] L=some [49])(hld:look [100] L=some dom)(hli:look [105] L=if ident= []then none else some ident)(hid:ident= []∨ident= [64]++dom∨ident=joeS++dom)(hdd:strip dom=dom)
 (hlh:look [104] L=some hn)(hhn:splitAt 58 (strip hn)=NM)(hhl:hn.length<=4294967296)(hfrom: ∃z∈NM,lower z=fromS)(hlt:look [116] L=some (Lib.decDigits tn))(hlx:look [120] L=(if en=0 then none else some en).map Lib.decDigits)(hlq:look [113] L=none)(htn:tn<8589934592)(hen:en<8589934592)
 (hbh:look [98,104] L=some bhv)(hbv:look [98] L=some bv)(hls:look [115] L=some sel)(hla:look [97] L=some (kind++sha256S))(hlc:look [99] L=some (hfm++47::bfm))(hll:look [108] L=none)
 (hsb:strip bhv=bhv∧bhv.length<=1000∧decR bhv=some x∧bhv.length%4=0)(hsv:strip bv=bv∧bv.length<=1000∧decR bv=some s∧bv.length%4=0)(hhf:formOk hfm)(hbf:formOk bfm)(hdl:dom.length<=100000∧sel.length<=1000000)(hsd:strip sel=sel)
 (hFS: ∀f∈FS,f.length<=8000000)(lF:FS.length<=1000000)(hNM: ∀x∈NM,x.length<=400000)(lNM:NM.length<=20000)(hsl2:field.length<=8000000)(hbl:body.length<=10000000)
 (Hj:Hid (jc=if en≠0∧en<now then 2 else recCode rec fun key=>judged hfm bfm key x s FS NM field body)):
 Calls Tryz.prog 52 #[hv,Str body,Str field,rv, .int .i64 (now:Int)] w (JPost w jc):=by
 have Hlh:=Lib.hid hlh
 have Hhn:=Lib.hid hhn
 have Hfrom:=Lib.hid hfrom
 have Hlt:=Lib.hid hlt
 have Hlx:=Lib.hid hlx
 have Hlq:=Lib.hid hlq
 have Hls:=Lib.hid hls
 have Hla:=Lib.hid hla
 have Hlc:=Lib.hid hlc
 have Hll:=Lib.hid hll
 have Hbh:=Lib.hid hbh
 have Hbv:=Lib.hid hbv
 have Hsb:=Lib.hid hsb
 have Hsv:=Lib.hid hsv
 have Hsd:=Lib.hid hsd
 have Hlv:=Lib.hid hlv
 have Hld:=Lib.hid hld
 have Hli:=Lib.hid hli
 have Hid':=Lib.hid hid
 have Hdd:=Lib.hid hdd
 have HL:=Lib.hid hL
 have Hreq:=Lib.hid hreq
 clear hlh hhn hfrom hlt hlx hlq hls hla hlc hll hbh hbv hsb hsv hsd hlv hld hli hid hdd hL hreq
 have hlc:=cutAt_len 58 field
 have hb1:=((Below.refl w.heap.size w).alloc (Nat.le_refl _) (.cells #[Str [],Str [], .slice none 0 0, .int .i64 0, .int .i64 0, .int .i64 0] 61)).alloc (by simp) (.cells #[Str [],Str [], .slice none 0 0, .int .i64 0, .int .i64 0, .int .i64 2] 61)
 have hR1:=(Blk.new w 61 #[Str [],Str [], .slice none 0 0, .int .i64 0, .int .i64 0, .int .i64 0]).alloc (.cells #[Str [],Str [], .slice none 0 0, .int .i64 0, .int .i64 0, .int .i64 2] 61)
 have hB1:=Blk.new (w.alloc (.cells #[Str [],Str [], .slice none 0 0, .int .i64 0, .int .i64 0, .int .i64 0] 61)) 61 #[Str [],Str [], .slice none 0 0, .int .i64 0, .int .i64 0, .int .i64 2]
 have hsz:(w.alloc (.cells #[Str [],Str [], .slice none 0 0, .int .i64 0, .int .i64 0, .int .i64 0] 61)).heap.size=w.heap.size+1:=by simp
 rw [hsz]at hB1
 go_enter Tryz.func52,Tryz.ntmps52
 go_upto_region 2 with fail
 obtain⟨rb,Hrb⟩: ∃z,Hid (z=w.heap.size):=⟨_,Lib.hid rfl⟩
 obtain⟨ob,Hob⟩: ∃z,Hid (z=w.heap.size+1):=⟨_,Lib.hid rfl⟩
 have e1:=Hrb.out
 have e2:=Hob.out
 change Code.wp Tryz.prog _ _ _ ((w.alloc (.cells #[Str [],Str [], .slice none 0 0, .int .i64 0, .int .i64 0, .int .i64 0] 61)).alloc (.cells #[Str [],Str [], .slice none 0 0, .int .i64 0, .int .i64 0, .int .i64 2] 61))
 rw [<-Hob.out]at hB1⊢
 rw [<-Hrb.out]at hR1⊢
 generalize((w.alloc (.cells #[Str [],Str [], .slice none 0 0, .int .i64 0, .int .i64 0, .int .i64 0] 61)).alloc (.cells #[Str [],Str [], .slice none 0 0, .int .i64 0, .int .i64 0, .int .i64 2] 61))=w1 at*
 have HE:Hid (rb=w.heap.size∧ob=w.heap.size+1):=⟨e1,e2⟩
 clear e1 e2 hsz
 go_wp2_with fail
 refine(dCut_any field 58 w1 (by omega)).mono ?_
 rintro e w2 ⟨rfl,hb2⟩
 have hlv:(cutAt 58 field).2.1.length<=2147483648:=by have:=hlc;omega
 obtain⟨VV,HVV⟩: ∃z,Hid (z=(cutAt 58 field).2.1):=⟨_,Lib.hid rfl⟩
 rw [<-HVV.out]at hlv⊢
 go_wp2_with fail
 refine(dTags_any VV L w2 hlv (by rw [HVV.out];exact HL.out)).mono ?_
 rintro e w3 ⟨tv,rfl,htv3,hb3⟩
 have hb3:=hb2.trans (hb3.mono hb2.size)
 have hR3:=hR1.below hb3 hR1.lt
 have hB3:Blk w3 ob 61 (vdCells [] [] (.slice none 0 0) 0 0 2):=hB1.below hb3 hB1.lt
 have hb03:=hb1.trans (hb3.mono hb1.size)
 have htO:=tv_ne htv3 hL2 hB3
 clear hb2 hb3 hR1 hB1 hb1
 go_wp2_with fail
 refine(dValue_any L [118] tv w3 htv3 (by omega)).mono ?_
 rintro e w4 ⟨rfl,rfl⟩
 rw [Hlv.out]
 go_wp2_with fail
 refine(dValue_any L [100] tv w3 htv3 (by omega)).mono ?_
 rintro e w4 ⟨rfl,rfl⟩
 rw [Hld.out]
 go_wp2_with fail
 refine(dStrip_any dom w3 (by omega)).mono ?_
 rintro e w4 ⟨rfl,hb4⟩
 rw [Hdd.out]
 have hR4:=hR3.below hb4 hR3.lt
 have hB4:=hB3.below hb4 hB3.lt
 have hb04:=hb03.trans (hb4.mono hb03.size)
 have htv4:=htv3.below hb4
 have c0:=hB4.cell 0 _ rfl
 have f0:=hB4.frozen 0
 clear hR3 hB3 hb03 htv3 hb4
 have hne:ob≠rb:=by have:=HE.out;omega
 have hhO:hv.ownBlock≠some ob:=by
  intro e
  obtain⟨A,c,rfl,_,h0|⟨g,off,rfl,hg,_⟩⟩:=hhd
  ·exact hhO0 h0
  ·have e:g=ob:=Option.some.inj e
   have:=HE.out
   omega
 have hwo:w.heap.size<=ob:=by have:=HE.out;omega
 have hwr:w.heap.size<=rb:=by have:=HE.out;omega
 go_upto_region 9 with fail
 have hB5:Blk (w4.setCell ⟨ob,0,none⟩ (Str dom)) ob 61 (vdCells dom [] (.slice none 0 0) 0 0 2):=hB4.set 0 (Str dom)
 have hR5:=hR4.far (p:=⟨ob,0,none⟩) (Ne.symm hne) (Str dom)
 have hb05:Below w.heap.size w (w4.setCell ⟨ob,0,none⟩ (Str dom)):=hb04.setCell hwo _
 have hF5:Frm (· =ob) w4 (w4.setCell ⟨ob,0,none⟩ (Str dom)):=(Frm.refl _ w4).setCell ⟨ob,0,none⟩ _ (fun _=>rfl)
 have htv5:=htv4.frm hF5 (fun k hk e=>htO (by rw [hk,e]))
 generalize w4.setCell ⟨ob,0,none⟩ (Str dom)=w5 at*
 clear hR4 hB4 hb04 htv4 c0 f0 hF5
 have hbA:=(Below.refl w5.heap.size w5).alloc (Nat.le_refl _) (.cells #[.string ⟨#[118]⟩, .string ⟨#[97]⟩, .string ⟨#[98]⟩, .string ⟨#[98,104]⟩, .string ⟨#[100]⟩, .string ⟨#[104]⟩, .string ⟨#[115]⟩] 9)
 have hxA:=Blk.new w5 9 #[.string ⟨#[118]⟩, .string ⟨#[97]⟩, .string ⟨#[98]⟩, .string ⟨#[98,104]⟩, .string ⟨#[100]⟩, .string ⟨#[104]⟩, .string ⟨#[115]⟩]
 obtain⟨tb,Htb⟩: ∃z,Hid (z=w5.heap.size):=⟨_,Lib.hid rfl⟩
 rw [<-Htb.out]at hxA
 go_wp2_with fail
 rw [<-Htb.out]
 generalize w5.alloc (.cells #[.string ⟨#[118]⟩, .string ⟨#[97]⟩, .string ⟨#[98]⟩, .string ⟨#[98,104]⟩, .string ⟨#[100]⟩, .string ⟨#[104]⟩, .string ⟨#[115]⟩] 9)=wA at*
 have hR6:=hR5.below hbA hR5.lt
 have hB6:=hB5.below hbA hB5.lt
 have hb06:=hb05.trans (hbA.mono hb05.size)
 have htv6:=htv5.below hbA
 clear hR5 hB5 hb05 htv5 hbA
 go_loopw [101] (fun v101 wx=> ∃k:Nat,k<=7∧v101= .int .i64 k∧wx=wA) (fun v101 _=>7-(intOf v101).toNat)
 case atStart=>exact⟨0,by omega,rfl,rfl⟩
 case round=>
  obtain⟨k,hk,rfl,rfl⟩:=hrel
  by_cases hlt:k<7
  ·have ck:wr.cell? ⟨tb,k,none⟩=some (Str (reqS[k]'hlt)):=hxA.cell k _ (by
    match k,hlt with
    |0,_=>rfl
    |1,_=>rfl
    |2,_=>rfl
    |3,_=>rfl
    |4,_=>rfl
    |5,_=>rfl
    |6,_=>rfl)
   have hrk:=Hreq.out k hlt
   obtain⟨q,Hq⟩: ∃z,Hid (z=reqS[k]'hlt):=⟨_,Lib.hid rfl⟩
   rw [<-Hq.out]at ck hrk
   have h0:(0:Int)<=(k:Int):=by omega
   have h1:(k:Int)<7:=by omega
   have Hrk:=Lib.hid hrk
   clear hrk
   go_wp2_with fail
   refine(dValue_any L q tv wr htv6 (by omega)).mono ?_
   rintro e w7 ⟨rfl,rfl⟩
   rw [Hrk.out]
   go_wp2_with fail
   go_roundw
   case rel=>exact⟨k+1,by omega,by go_num,trivial⟩
   case measure=>simp [intOf];omega
  ·obtain rfl:k=7:=by omega
   have ldm:dom.length<=100000:=hdl.1
   go_wp2_with fail
   refine(dValue_any L [105] tv wr htv6 (by omega)).mono ?_
   rintro e w7 ⟨rfl,rfl⟩
   rw [Hli.out]
   rcases Hid'.out with he|he|he
   ·subst he
    rw [if_pos rfl]
    go_wp2_with fail
    refine(dStrip_any [] wr (by simp)).mono ?_
    rintro e w7 ⟨rfl,hb7⟩
    have hBp:=hB6.below hb7 hB6.lt
    have hRp:=hR6.below hb7 hR6.lt
    have hb0p:=hb06.trans (hb7.mono hb06.size)
    have htvp:=htv6.below hb7
    have c1:=hBp.cell 1 _ rfl
    have f1:=hBp.frozen 1
    clear hb7
    rw [show strip []= []from rfl]
    go_upto_region 18 with fail
    have hB8:Blk (w7.setCell ⟨ob,1,none⟩ (Str [])) ob 61 (vdCells dom [] (.slice none 0 0) 0 0 2):=hBp.set 1 (Str [])
    have hR8:=hRp.far (p:=⟨ob,1,none⟩) (Ne.symm hne) (Str [])
    have hb08:Below w.heap.size w (w7.setCell ⟨ob,1,none⟩ (Str [])):=hb0p.setCell hwo _
    have hF8:Frm (· =ob) w7 (w7.setCell ⟨ob,1,none⟩ (Str [])):=(Frm.refl _ w7).setCell ⟨ob,1,none⟩ _ (fun _=>rfl)
    have htv8:=htvp.frm hF8 (fun k hk e=>htO (by rw [hk,e]))
    generalize w7.setCell ⟨ob,1,none⟩ (Str [])=w8 at*
    clear hF8
    clear hBp hRp hb0p htvp c1 f1
    have c0:=hB8.cell 0 _ rfl
    have c1:=hB8.cell 1 _ rfl
    have f1:=hB8.frozen 1
    have hBp:=hB8
    have hRp:=hR8
    have hb0p:=hb08
    have htvp:=htv8
    go_upto_region 22 with fail
    have hB9:Blk (w8.setCell ⟨ob,1,none⟩ (Str (64::dom))) ob 61 (vdCells dom (64::dom) (.slice none 0 0) 0 0 2):=hBp.set 1 (Str (64::dom))
    have hR9:=hRp.far (p:=⟨ob,1,none⟩) (Ne.symm hne) (Str (64::dom))
    have hb09:Below w.heap.size w (w8.setCell ⟨ob,1,none⟩ (Str (64::dom))):=hb0p.setCell hwo _
    have hF9:Frm (· =ob) w8 (w8.setCell ⟨ob,1,none⟩ (Str (64::dom))):=(Frm.refl _ w8).setCell ⟨ob,1,none⟩ _ (fun _=>rfl)
    have htv9:=htvp.frm hF9 (fun k hk e=>htO (by rw [hk,e]))
    generalize w8.setCell ⟨ob,1,none⟩ (Str (64::dom))=w9 at*
    clear hF9
    exact jud2 ob rb jc now tn en hv tv rv rec FS NM field body hfm bfm kind x s bhv bv dom sel (64::dom) hn L _ w w9
     hb09 hwo hwr hne hhd htv9 htO hLl hri hkk hrk Hlh.out Hhn.out hhl Hfrom.out Hlt.out Hlx.out Hlq.out htn hen Hbh.out Hbv.out Hls.out Hla.out Hlc.out Hll.out hB9 hR9 rfl hhO Hsb.out Hsv.out hhf hbf ⟨by omega,hdl.2⟩ Hsd.out hFS lF hNM lNM hsl2 hbl Hj
     _ (by assumption)
   ·have hne0:ident≠ []:=by rw [he];simp [joeS]
    have lid:ident.length<=200000:=by rw [he];simp [joeS];omega
    have hsi:Hid (strip ident=ident):=by
     show _=_
     have e2:strip ([64]++dom)=strip [64]++strip dom:=by unfold strip;rw [List.filter_append]
     rw [he,e2,Hdd.out];rfl
    rw [if_neg hne0]
    have hE1: ∀z,Calls Tryz.prog 72 #[Str ident,Str (64::dom)] z fun e w'=>e= .returned (.bool true)∧z=w':=fun z=>(dEnds_any ident (64::dom) z (by omega) (by simp;omega)).mono (by
     rintro e w' ⟨rfl,rfl⟩
     exact⟨by rw [he];simp,rfl⟩)
    have hE2:True:=trivial
    have HE1:=Lib.hid hE1
    have HE2:=Lib.hid hE2
    clear hE1 hE2 hne0 he
    go_wp2_with fail
    refine(dStrip_any ident wr (by omega)).mono ?_
    rintro e w7 ⟨rfl,hb7⟩
    have hBp:=hB6.below hb7 hB6.lt
    have hRp:=hR6.below hb7 hR6.lt
    have hb0p:=hb06.trans (hb7.mono hb06.size)
    have htvp:=htv6.below hb7
    have c1:=hBp.cell 1 _ rfl
    have f1:=hBp.frozen 1
    clear hb7
    rw [hsi.out]
    go_upto_region 18 with fail
    have hB9:Blk (w7.setCell ⟨ob,1,none⟩ (Str ident)) ob 61 (vdCells dom ident (.slice none 0 0) 0 0 2):=hBp.set 1 (Str ident)
    have hR9:=hRp.far (p:=⟨ob,1,none⟩) (Ne.symm hne) (Str ident)
    have hb09:Below w.heap.size w (w7.setCell ⟨ob,1,none⟩ (Str ident)):=hb0p.setCell hwo _
    have hF9:Frm (· =ob) w7 (w7.setCell ⟨ob,1,none⟩ (Str ident)):=(Frm.refl _ w7).setCell ⟨ob,1,none⟩ _ (fun _=>rfl)
    have htv9:=htvp.frm hF9 (fun k hk e=>htO (by rw [hk,e]))
    generalize w7.setCell ⟨ob,1,none⟩ (Str ident)=w9 at*
    clear hF9
    clear hBp hRp hb0p htvp c1 f1
    have c0:=hB9.cell 0 _ rfl
    have c1:=hB9.cell 1 _ rfl
    go_wp2_with fail
    refine(HE1.out w9).mono ?_
    rintro e w10 ⟨rfl,rfl⟩
    go_upto_region 22 with fail
    exact jud2 ob rb jc now tn en hv tv rv rec FS NM field body hfm bfm kind x s bhv bv dom sel ident hn L _ w w9
     hb09 hwo hwr hne hhd htv9 htO hLl hri hkk hrk Hlh.out Hhn.out hhl Hfrom.out Hlt.out Hlx.out Hlq.out htn hen Hbh.out Hbv.out Hls.out Hla.out Hlc.out Hll.out hB9 hR9 rfl hhO Hsb.out Hsv.out hhf hbf ⟨by omega,hdl.2⟩ Hsd.out hFS lF hNM lNM hsl2 hbl Hj
     _ (by assumption)
   ·have hne0:ident≠ []:=by rw [he];simp [joeS]
    have lid:ident.length<=200000:=by rw [he];simp [joeS];omega
    have hsi:Hid (strip ident=ident):=by
     show _=_
     have e2:strip (joeS++dom)=strip joeS++strip dom:=by unfold strip;rw [List.filter_append]
     rw [he,e2,Hdd.out];rfl
    rw [if_neg hne0]
    have hE1: ∀z,Calls Tryz.prog 72 #[Str ident,Str (64::dom)] z fun e w'=>e= .returned (.bool false)∧z=w':=fun z=>(dEnds_any ident (64::dom) z (by omega) (by simp;omega)).mono (by
     rintro e w' ⟨rfl,rfl⟩
     refine⟨?_,rfl⟩
     have:(joeS++dom).drop ((joeS++dom).length-(64::dom).length)=46::dom:=by
      rw [show(joeS++dom).length-(64::dom).length=7 by simp [joeS]];rfl
     rw [he,this];simp)
    have hE2: ∀z,Calls Tryz.prog 72 #[Str ident,Str (46::dom)] z fun e w'=>e= .returned (.bool true)∧z=w':=fun z=>(dEnds_any ident (46::dom) z (by omega) (by simp;omega)).mono (by
     rintro e w' ⟨rfl,rfl⟩
     refine⟨?_,rfl⟩
     have:(joeS++dom).drop ((joeS++dom).length-(46::dom).length)=46::dom:=by
      rw [show(joeS++dom).length-(46::dom).length=7 by simp [joeS]];rfl
     rw [he,this];simp [joeS])
    have HE1:=Lib.hid hE1
    have HE2:=Lib.hid hE2
    clear hE1 hE2 hne0 he
    go_wp2_with fail
    refine(dStrip_any ident wr (by omega)).mono ?_
    rintro e w7 ⟨rfl,hb7⟩
    have hBp:=hB6.below hb7 hB6.lt
    have hRp:=hR6.below hb7 hR6.lt
    have hb0p:=hb06.trans (hb7.mono hb06.size)
    have htvp:=htv6.below hb7
    have c1:=hBp.cell 1 _ rfl
    have f1:=hBp.frozen 1
    clear hb7
    rw [hsi.out]
    go_upto_region 18 with fail
    have hB9:Blk (w7.setCell ⟨ob,1,none⟩ (Str ident)) ob 61 (vdCells dom ident (.slice none 0 0) 0 0 2):=hBp.set 1 (Str ident)
    have hR9:=hRp.far (p:=⟨ob,1,none⟩) (Ne.symm hne) (Str ident)
    have hb09:Below w.heap.size w (w7.setCell ⟨ob,1,none⟩ (Str ident)):=hb0p.setCell hwo _
    have hF9:Frm (· =ob) w7 (w7.setCell ⟨ob,1,none⟩ (Str ident)):=(Frm.refl _ w7).setCell ⟨ob,1,none⟩ _ (fun _=>rfl)
    have htv9:=htvp.frm hF9 (fun k hk e=>htO (by rw [hk,e]))
    generalize w7.setCell ⟨ob,1,none⟩ (Str ident)=w9 at*
    clear hF9
    clear hBp hRp hb0p htvp c1 f1
    have c0:=hB9.cell 0 _ rfl
    have c1:=hB9.cell 1 _ rfl
    go_wp2_with fail
    refine(HE1.out w9).mono ?_
    rintro e w10 ⟨rfl,rfl⟩
    go_wp2_with fail
    refine(HE2.out w9).mono ?_
    rintro e w10 ⟨rfl,rfl⟩
    go_upto_region 22 with fail
    exact jud2 ob rb jc now tn en hv tv rv rec FS NM field body hfm bfm kind x s bhv bv dom sel ident hn L _ w w9
     hb09 hwo hwr hne hhd htv9 htO hLl hri hkk hrk Hlh.out Hhn.out hhl Hfrom.out Hlt.out Hlx.out Hlq.out htn hen Hbh.out Hbv.out Hls.out Hla.out Hlc.out Hll.out hB9 hR9 rfl hhO Hsb.out Hsv.out hhf hbf ⟨by omega,hdl.2⟩ Hsd.out hFS lF hNM lNM hsl2 hbl Hj
     _ (by assumption)
theorem optTags_len (o:Opt)(nm:List BS)(bh:BS):2<=(optTags o nm bh).length∧(optTags o nm bh).length<=20:=by
 unfold optTags
 by_cases h1:o.ident= []<;>by_cases h2:o.exp=0<;>simp [h1,h2]
theorem dJudged_any (jc now:Nat)(hv rv:Value)(rec:Option BS)(o:Opt)(F:List BS)(b M:BS)(P F':List BS)(b':BS)(w:World)(H:SgOk o F b M P F' b')(hhd:Rd w hv (strs (P++signed o F b::F')))
 (hri:RecIn w rv (rec.map fun k=>(o.sel++dkS++o.dom,recK o.kind k)))(hrk: ∀k,rec=some k->KeyOk o.kind k∧k.length<=1000000)
 (Hj:Hid (jc=vcode o F b (P++signed o F b::F') b' rec now)):Calls Tryz.prog 52 #[hv,Str b',Str (signed o F b),rv, .int .i64 (now:Int)] w (JPost w jc):=by
 have ho:=H.msg.opt
 have hn:=H.msg.nms
 have hS:=sigTags_r o (namesOf o F) (enc64 (sha (bodyOf (formOf o.bdy) b))) (enc64 (sigOf o F b))
 have hT:=tagsOf_signed ho hn (word_enc (sha (bodyOf (formOf o.bdy) b))) (word_enc (sigOf o F b))
 have hle:=optTags_len o (namesOf o F) (enc64 (sha (bodyOf (formOf o.bdy) b)))
 rw [<-signed_tags]at hT
 have hsg:=H.sgp.2
 have hlen:=ho.lens
 refine dJudged_raw jc now o.now o.exp hv rv rec (P++signed o F b::F') (namesOf o F) (signed o F b) b' (formOf o.hdr) (formOf o.bdy) o.kind (sha (bodyOf (formOf o.bdy) b)) (sigOf o F b) _ _ o.dom o.sel o.ident (joinC (namesOf o F)) _ w hT hhd (by simp [strs]) ?_ ?_ hri ho.kinds hrk ?_
  hS.v hS.d hS.i ho.ident (strip_dry ho.dom.word.dry) hS.h ?_ (by have:=H.nmj;omega) hn.from_ hS.t ?_ hS.q ho.now ho.exp hS.bh hS.b hS.s hS.a (by rw [hS.c];simp) hS.l
  ⟨strip_dry (word_enc _).dry,?_,enc_r _,?_⟩ ⟨strip_dry (word_enc _).dry,?_,enc_r _,?_⟩ ho.hform ho.bform ⟨by omega,by omega⟩ (strip_dry ho.sel.word.dry) ?_ ?_ (fun x hx=>(H.nm x hx).1) H.nmc (by omega) (by have:=H.blen;omega) ?_
 ·simp only [List.length_append,List.length_take,List.length_drop,List.length_cons,List.length_nil];omega
 ·simp only [List.length_append,List.length_take,List.length_drop,List.length_cons,List.length_nil];omega
 ·intro k hk
  match k,hk with
  |0,_=>show(look [118] _).isSome=true;rw [hS.v];rfl
  |1,_=>show(look [97] _).isSome=true;rw [hS.a];rfl
  |2,_=>show(look [98] _).isSome=true;rw [hS.b];rfl
  |3,_=>show(look [98,104] _).isSome=true;rw [hS.bh];rfl
  |4,_=>show(look [100] _).isSome=true;rw [hS.d];rfl
  |5,_=>show(look [104] _).isSome=true;rw [hS.h];rfl
  |6,_=>show(look [115] _).isSome=true;rw [hS.s];rfl
 ·rw [strip_dry (word_joinC _ fun x hx=>(hn.all x hx).1.word).dry,splitAt_joinC _ hn.ne fun x hx=>(hn.all x hx).1.c58]
 ·rw [hS.x];by_cases h:o.exp=0<;>simp [h]
 ·rw [enc_len,sha_len];decide
 ·rw [enc_len,sha_len]
 ·rw [enc_len];have:(sigOf o F b).length=32:=rfl;rw [this];decide
 ·rw [enc_len];omega
 ·intro f hf
  rcases List.mem_append.1 hf with hf|hf
  ·have:=H.flen f (by simp [hf]);omega
  ·rcases List.mem_cons.1 hf with rfl|hf
   ·omega
   ·have:=H.flen f (by simp [hf]);omega
 ·have:=H.fcnt
  simp only [List.length_append,List.length_cons]at this⊢;omega
 ·show _=_
  rw [Hj.out];rfl
theorem dVerdicts_any (jc now:Nat)(rv:Value)(rec:Option BS)(o:Opt)(F:List BS)(b M:BS)(P F':List BS)(b':BS)(w:World)(H:SgOk o F b M P F' b')
 (hri:RecIn w rv (rec.map fun k=>(o.sel++dkS++o.dom,recK o.kind k)))(hrk: ∀k,rec=some k->KeyOk o.kind k∧k.length<=1000000)(hrs: ∃A n c,rv= .slice A n c)
 (Hj:Hid (jc=vcode o F b (P++signed o F b::F') b' rec now)):Calls Tryz.prog 38 #[Str M,rv, .int .i64 0, .int .i64 (now:Int)] w (DVPost w jc):=by
 obtain⟨rA,rn,rcp,rfl⟩:=hrs
 have hM:=H.len
 obtain⟨FS,HFS⟩: ∃z,Hid (z=P++signed o F b::F'):=⟨_,Lib.hid rfl⟩
 have hl1:Hid (FS.length=P.length+1+F'.length):=by show _=_;rw [HFS.out];simp;omega
 have hFSl:FS.length<=100001:=by have:=hl1.out;have:=H.fcnt;simp only [List.length_append]at this;omega
 have hflen:Hid (∀f∈FS,f.length<=8000000):=by
  show∀f∈FS,_
  rw [HFS.out]
  intro f hf
  rcases List.mem_append.1 hf with hf|hf
  ·have:=H.flen f (by simp [hf]);omega
  ·rcases List.mem_cons.1 hf with rfl|hf
   ·have:=H.sgp.2;omega
   ·have:=H.flen f (by simp [hf]);omega
 have hJ:Hid (∀(z:World) (fv:Value),Below w.heap.size w z->Rd z fv (strs FS)->Calls Tryz.prog 52 #[fv,Str b',Str (signed o F b), .slice rA rn rcp, .int .i64 (now:Int)] z (JPost z jc)):=fun z fv hz hf=>
  dJudged_any jc now fv _ rec o F b M P F' b' z H (by rw [HFS.out]at hf;exact hf) (hri.below hz) hrk Hj
 have hat:Hid (∀k,(h:k<FS.length)->(k≠P.length->lower (name FS[k])≠dkimS)∧(k=P.length->FS[k]=signed o F b)):=by
  intro k h
  have hg:FS[k]=(P++signed o F b::F')[k]'(by rw [<-HFS.out];exact h):=by
   have:=HFS.out
   subst this
   rfl
  refine⟨fun hne=> ?_,fun he=> ?_⟩
  ·refine H.msg.other FS[k] ?_
   rw [hg]
   rcases Nat.lt_or_gt_of_ne hne with hk|hk
   ·rw [List.getElem_append_left hk];simp
   ·rw [List.getElem_append_right (by omega)]
    obtain⟨d,hd⟩: ∃d,k-P.length=d+1:=⟨k-P.length-1,by omega⟩
    simp only [hd,List.getElem_cons_succ]
    exact List.mem_append_right _ (List.getElem_mem _)
  ·subst he;rw [hg];simp
 have hlS:Hid (lower (name (signed o F b))=dkimS):=lname_signed H.msg.opt H.msg.nms
 have hh:=H.msg.heads
 have lS:=H.sgp.2
 obtain⟨SG,HSG⟩: ∃z,Hid (z=signed o F b):=⟨_,Lib.hid rfl⟩
 rw [<-HSG.out]at hJ hat hlS lS
 clear hrk Hj hri
 go_enter Tryz.func38,Tryz.ntmps38
 go_wp2_with fail
 refine(dHead_any M w (by omega)).mono ?_
 rintro e w1 ⟨hp,hb1⟩
 rw [hh]at hp
 obtain⟨v,rfl,hv⟩:=hp
 rw [<-HFS.out]at hv
 have hvr:=hv.rd
 obtain⟨vA,vc,rfl,_,_⟩:=id hvr
 rw [stL]at hvr⊢
 clear hv hh HFS
 go_wp2_with fail
 go_loopw [14,15] (fun v14 v15 wx=> ∃k:Nat,k<=FS.length∧v15= .int .i64 k∧Below w1.heap.size w1 wx∧((k<=P.length∧v14= .slice none 0 0)∨(P.length<k∧∃r c,v14= .slice (some ⟨r,0,none⟩) 1 c∧wx.cell? ⟨r,5,none⟩=some (.int .i64 jc)))) (fun _ v15 _=>FS.length-(intOf v15).toNat)
 case atStart=>exact⟨0,Nat.zero_le _,rfl,Below.refl _ _, .inl ⟨Nat.zero_le _,rfl⟩⟩
 case round=>
  obtain⟨k,hk,rfl,hbx,hst⟩:=hrel
  by_cases hlt:k<FS.length
  ·have hvx:=hvr.below hbx
   obtain⟨A',c',he,_,hn0|⟨g,off,e,_,hc⟩⟩:=id hvx
   ·exfalso
    have:FS.length=0:=by rw [<-stL,hn0];rfl
    omega
   injection he with h1 h2 h3
   clear h2 h3
   subst h1
   subst e
   have hck:=hc k (Str FS[k]) (by simp [strs,hlt])
   clear hc
   have h0:(0:Int)<=(k:Int):=by omega
   have h1:(k:Int)<(FS.length:Int):=by omega
   have lf:=hflen.out _ (List.getElem_mem hlt)
   obtain⟨hk1,hk2⟩:=hat.out k hlt
   by_cases hkP:k=P.length
   ·have hf:=hk2 hkP
    rw [hf]at hck lf
    have hst':=hst.resolve_right (fun h=>by omega)
    obtain⟨_,rfl⟩:=hst'
    have HkP:=Lib.hid hkP
    clear hkP
    clear hk1 hk2 hf hst
    go_wp2_with fail
    refine(dName_any SG wr (by omega)).mono ?_
    rintro e w2 ⟨rfl,hb2⟩
    have lnm:(name SG).length<=4294967296:=by have:=name_len SG;omega
    go_wp2_with fail
    refine(dLower_any (name SG) w2 lnm).mono ?_
    rintro e w3 ⟨rfl,hb3⟩
    rw [hlS.out]
    have hb3:=hb2.trans (hb3.mono hb2.size)
    have hb13:=hbx.trans (hb3.mono hbx.size)
    have hck3:=bcell hb3 hck
    clear hb2
    have hw3:=hb1.trans (hb13.mono hb1.size)
    unfold dkimS
    go_wp2_with fail
    refine(hJ.out w3 _ hw3 (hvr.below hb13)).mono ?_
    rintro e w4 ⟨s1,s2,kA,kn,km,t1,t2,rfl,hb4⟩
    have hb14:=hb13.trans (hb4.mono hb13.size)
    clear hck3 hb4 hck
    go_wp2_with fail
    go_roundw
    case rel=>
     refine⟨k+1,hlt,by go_num,bdw ((hb14.alloc hb14.size _).alloc (hb14.alloc hb14.size _).size _), .inr ⟨by have:k=P.length:=HkP.out;omega,_,_,rfl,?_⟩⟩
     obtain⟨Y,HY⟩: ∃z,Hid (z= #[Str s1,Str s2,Value.slice kA kn km,Value.int IntKind.i64 t1,Value.int IntKind.i64 t2,Value.int IntKind.i64 ↑jc]++Builtin.zeroCells #[Value.string { data:= #[] },Value.string { data:= #[] },Value.slice none 0 0,Value.int IntKind.i64 0,Value.int IntKind.i64 0,Value.int IntKind.i64 0] ((Question.appendCap 1 0 61).cut (w4.tape w4.drawn (Question.appendCap 1 0 61))-1)):=⟨_,Lib.hid rfl⟩
     rw [<-HY.out]
     have hn:=heap_alloc_new (w4.alloc (.cells #[Str s1,Str s2, .slice kA kn km, .int .i64 t1, .int .i64 t2, .int .i64 jc] 61)) (.cells Y 61)
     have hsz:(w4.alloc (.cells #[Str s1,Str s2, .slice kA kn km, .int .i64 t1, .int .i64 t2, .int .i64 jc] 61)).heap.size=w4.heap.size+1:=by simp
     rw [hsz]at hn
     have hc:=cell_of_row _ _ 5 _ _ _ hn
     have hy:Y[5]?=some (.int .i64 jc):=by
      rw [HY.out,Array.getElem?_append_left (by simp)];rfl
     rw [hy]at hc
     exact hc
    case measure=>simp [intOf];omega
   ·have hne:=hk1 hkP
    obtain⟨f,Hf⟩: ∃z,Hid (z=FS[k]):=⟨_,Lib.hid rfl⟩
    rw [<-Hf.out]at hck lf hne
    have HkP:=Lib.hid hkP
    clear hkP
    clear hk1 hk2
    go_wp2_with fail
    refine(dName_any f wr (by omega)).mono ?_
    rintro e w2 ⟨rfl,hb2⟩
    have lnm:(name f).length<=4294967296:=by have:=name_len f;omega
    go_wp2_with fail
    refine(dLower_any (name f) w2 lnm).mono ?_
    rintro e w3 ⟨rfl,hb3⟩
    have hb3:=hb2.trans (hb3.mono hb2.size)
    have hb13:=hbx.trans (hb3.mono hbx.size)
    have e1:(lower (name f)== [100,107,105,109,45,115,105,103,110,97,116,117,114,101])=false:=by simpa [dkimS]using hne
    have hst3:(k+1<=P.length∧_=Value.slice none 0 0)∨(P.length<k+1∧∃r c,_=Value.slice (some ⟨r,0,none⟩) 1 c∧w3.cell? ⟨r,5,none⟩=some (.int .i64 jc)):=hst.imp (fun h=>⟨by have:k≠P.length:=HkP.out;omega,h.2⟩) (fun h=>⟨by omega,by
     obtain⟨r,c,h1,h2⟩:=h.2
     exact⟨r,c,h1,bcell hb3 h2⟩⟩)
    clear hb2 hne hst
    go_wp2_with fail
    go_roundw
    case rel=>exact⟨k+1,hlt,by go_num,hb13,hst3⟩
    case measure=>simp [intOf];omega
  ·obtain⟨hkP,r,c,rfl,hr⟩:=hst.resolve_left (fun h=>by have:=hl1.out;omega)
   have hbw:=hb1.trans (hbx.mono hb1.size)
   go_wp2_with fail
   go_ret3
   exact⟨⟨r,c,rfl,hr⟩,hbw⟩
theorem dAwake_any (w:World):Calls Tryz.prog 11 #[] w fun e w'=>e= .returned (.bool true)∧Below w.heap.size w w':=by
 go_enter Tryz.func11,Tryz.ntmps11
 go_wp2_with fail
 refine(dList_any [97,58,98] w (by decide) (by decide)).mono ?_
 rintro e w1 ⟨v,rfl,hv,hb1⟩
 have hr:=hv.rd
 rw [show(splitAt 58 [97,58,98]).map strip= [[97],[98]] by decide+kernel]at hr
 obtain⟨A,c,rfl,_,_⟩:=hr
 clear hv
 go_wp2_with fail
 refine(dCanonField_any [114,101,108,97,120,101,100] [65,58,32,66,13,10] w1 (.inr rfl) (by decide) (by decide)).mono ?_
 rintro e w2 ⟨rfl,hb2⟩
 rw [show fieldOf [114,101,108,97,120,101,100] [65,58,32,66,13,10]= [97,58,66,13,10] by decide+kernel]
 go_wp2_with fail
 go_ret
 exact⟨rfl,hb1.trans (hb2.mono hb1.size)⟩
theorem dFine_any (B jc now c:Nat)(rv:Value)(rec:Option BS)(o:Opt)(F:List BS)(b M:BS)(P F':List BS)(b':BS)(w:World)(hV:Vars B w)(H:SgOk o F b M P F' b')
 (hri:RecIn w rv (rec.map fun k=>(o.sel++dkS++o.dom,recK o.kind k)))(hrk: ∀k,rec=some k->KeyOk o.kind k∧k.length<=1000000)(hrs: ∃A n c,rv= .slice A n c)(hnow:now<=10^12)
 (Hj:Hid (jc=vcode o F b (P++signed o F b::F') b' rec now)):Calls Tryz.prog 15 #[Str M,rv, .int .i64 (now:Int), .int .i64 (c:Int)] w fun e w'=>e= .returned (.bool (decide (jc=c)))∧Below w.heap.size w w':=by
 have h:=dVerify_any B jc now rv rec o F b M P F' b' w hV H hri hrk hrs hnow Hj
 obtain⟨rA,rn,rcp,rfl⟩:=hrs
 clear hri Hj hV H hrk hnow
 go_enter Tryz.func15,Tryz.ntmps15
 go_wp2_with fail
 refine h.mono ?_
 rintro e w1 ⟨⟨r,q,rfl,hr⟩,hb⟩
 clear h
 by_cases hc:jc=c
 ·have e1:((jc:Int)==(c:Int))=true:=by rw [hc];simp
  have e2:Hid (decide (jc=c)=true):=by show _=_;simpa using hc
  clear hc
  go_wp2_with fail
  go_ret
  exact⟨by rw [e2.out];rfl,hb⟩
 ·have e1:((jc:Int)==(c:Int))=false:=by simpa using fun e:(jc:Int)=c=>hc (by omega)
  have e2:Hid (decide (jc=c)=false):=by show _=_;simpa using hc
  clear hc
  go_wp2_with fail
  go_ret
  exact⟨by rw [e2.out];rfl,hb⟩
theorem dFails_any (B jc now:Nat)(rv:Value)(rec:Option BS)(o:Opt)(F:List BS)(b M:BS)(P F':List BS)(b':BS)(w:World)(hV:Vars B w)(H:SgOk o F b M P F' b')
 (hri:RecIn w rv (rec.map fun k=>(o.sel++dkS++o.dom,recK o.kind k)))(hrk: ∀k,rec=some k->KeyOk o.kind k∧k.length<=1000000)(hrs: ∃A n c,rv= .slice A n c)(hnow:now<=10^12)
 (Hj:Hid (jc=vcode o F b (P++signed o F b::F') b' rec now))(hj:jc=0∨jc=1):Calls Tryz.prog 13 #[Str M,rv, .int .i64 (now:Int)] w fun e w'=>e= .returned (.bool true)∧Below w.heap.size w w':=by
 have h:=dVerdicts_any jc now rv rec o F b M P F' b' w H hri hrk hrs Hj
 have h2: ∀z,Below w.heap.size w z->Calls Tryz.prog 15 #[Str M,rv, .int .i64 (now:Int), .int .i64 ((1:Nat):Int)] z fun e w'=>e= .returned (.bool (decide (jc=1)))∧Below z.heap.size z w':=fun z hz=>
  dFine_any B jc now 1 rv rec o F b M P F' b' z (hV.above hz) H (hri.below hz) hrk hrs hnow Hj
 obtain⟨rA,rn,rcp,rfl⟩:=hrs
 have H2:=Lib.hid h2
 clear hri Hj hV H hrk hnow h2
 go_enter Tryz.func13,Tryz.ntmps13
 go_wp2_with fail
 refine h.mono ?_
 rintro e w1 ⟨⟨r,q,rfl,hr⟩,hb⟩
 clear h
 rcases hj with rfl|rfl
 ·have hr:w1.cell? ⟨r,5,none⟩=some (.int .i64 0):=hr
  go_wp2_with fail
  refine(dAwake_any w1).mono ?_
  rintro e w2 ⟨rfl,hb2⟩
  go_wp2_with fail
  go_ret
  exact⟨rfl,hb.trans (hb2.mono hb.size)⟩
 ·have hr:w1.cell? ⟨r,5,none⟩=some (.int .i64 1):=hr
  go_wp2_with fail
  refine(H2.out w1 hb).mono ?_
  rintro e w2 ⟨rfl,hb2⟩
  go_wp2_with fail
  go_ret
  exact⟨rfl,hb.trans (hb2.mono hb.size)⟩
theorem plain_flat {a:BS} {l:List BS} (h: ∀x∈l,plain x=true)(e:a=l.flatten):plain a=true:=by
 rw [e,plain_all]
 intro c hc
 obtain⟨x,hx,hcx⟩:=List.mem_flatten.1 hc
 exact plain_all.1 (h x hx) c hcx
structure SgnOk (o:Opt)(F:List BS)(b:BS):Prop where
 sgp:plain (signed o F b)=true∧(signed o F b).length<=7000044
 nm: ∀x∈namesOf o F,x.length<=400000∧plain x=true
 nmc:(namesOf o F).length<=20000
 nmj:(joinC (namesOf o F)).length<=400000
theorem sgn_ok {o:Opt} {m:BS} {F:List BS} {b:BS} (ho:OptOk o)(hm:MsgOk m F b)(hf:o.all=true∨∃k∈o.keys,lower k=fromS)(hl:m.length<=5000):SgnOk o F b:=by
 have hN:=names_ok ho hm hf
 have hj:=(names_len ho hm (by omega)).1
 have hp:plain (bhOf o b)=true:=plain_enc _
 have hbl:(bhOf o b).length<=1000:=by unfold bhOf;rw [enc_len,sha_len];decide
 refine⟨⟨plain_field _ _ (plain_opt ho (fun x hx=>hN.plain x hx) hp) (plain_enc _),?_⟩,fun x hx=>⟨names_short ho hm (by omega) x hx,hN.plain x hx⟩,?_,hj⟩
 ·have h:=field_len ho (nm:=namesOf o F) (bh:=bhOf o b) hj hbl (enc64 (sigOf o F b))
  have h2:(enc64 (sigOf o F b)).length=44:=by unfold sigOf;rw [enc_len,sha_len]
  rw [h2]at h
  exact h
 ·have hlf:=heads_len hm.heads
  have hcf:=count_flatten (F:=F) (fun f hf=>(heads_ne hm.heads) f hf)
  have:=ho.nkeys
  unfold namesOf
  split
  ·rw [List.length_map];omega
  ·omega
theorem sg_ahead {o:Opt} {m:BS} {F:List BS} {b:BS} (ho:OptOk o)(hm:MsgOk m F b)(hf:o.all=true∨∃k∈o.keys,lower k=fromS)(hl:m.length<=5000)
 (P:List BS)(hP: ∀f∈P,Fld f∧lname f≠dkimS)(hPp:plain P.flatten=true)(hPl:P.flatten.length<=1000)(x:BS)(hx:plain x=true)(hxl:x.length<=1000):
 SgOk o F b (P.flatten++(signed o F b++(m++x))) P F (b++x):=by
 have hS:=sgn_ok ho hm hf hl
 have hlf:=heads_len hm.heads
 have hcf:=count_flatten (F:=F) (fun f hf=>(heads_ne hm.heads) f hf)
 have hcp:=count_flatten (F:=P) (fun f hf=>((hP f hf).1.1).ne)
 have hsl:=hS.sgp.2
 refine⟨SgMsg.ahead ho hm hf P hP x,?_,?_,fun f h=> ?_,?_,?_,hS.sgp,hS.nm,hS.nmc,hS.nmj⟩
 ·simp only [plain_app];exact⟨hPp,hS.sgp.1,hm.plain,hx⟩
 ·simp only [List.length_append];omega
 ·rcases List.mem_append.1 h with h|h<;>have:=mem_flatten_len h<;>omega
 ·rw [List.length_append];omega
 ·rw [List.length_append];omega
theorem sg_upon {o:Opt} {m:BS} {F:List BS} {b:BS} (ho:OptOk o)(hm:MsgOk m F b)(hf:o.all=true∨∃k∈o.keys,lower k=fromS)(hl:m.length<=5000)
 (F':List BS)(hF: ∀f∈F',Fld f∧lname f≠dkimS)(hFp:plain F'.flatten=true)(hFl:F'.flatten.length<=90000)(x:BS)(hx:plain x=true)(hxl:x.length<=100000):
 SgOk o F b (signed o F b++(F'.flatten++(crlf++x))) [] F' x:=by
 have hS:=sgn_ok ho hm hf hl
 have hcf:=count_flatten (F:=F') (fun f hf'=>((hF f hf').1.1).ne)
 have hsl:=hS.sgp.2
 refine⟨SgMsg.upon ho hm hf F' hF x,?_,?_,fun f h=> ?_,?_,?_,hS.sgp,hS.nm,hS.nmc,hS.nmj⟩
 ·simp only [plain_app];exact⟨hS.sgp.1,hFp,by decide,hx⟩
 ·simp only [List.length_append,crlf,List.length_cons,List.length_nil];omega
 ·rw [List.nil_append]at h;have:=mem_flatten_len h;omega
 ·rw [List.nil_append];omega
 ·omega
theorem rec_eq (o:Opt):recordOf o=recK o.kind o.key:=rfl
structure Sgd (o:Opt)(m:BS)(F:List BS)(b:BS):Prop where
 opt:OptOk o
 msg:MsgOk m F b
 frm:signsFrom o
 len:m.length<=5000
theorem Sgd.keyOk {o:Opt} {m:BS} {F:List BS} {b:BS} (h:Sgd o m F b):KeyOk o.kind o.key∧o.key.length<=1000000:=by
 have h1:=h.opt.key
 refine⟨⟨?_,by omega⟩,by omega⟩
 rcases h.opt.kind with k|k
 ·exact .inr k
 ·exact .inl k
theorem rec_sl {z:World} {rv:Value} {nm tx:BS} (h:OneRec z rv nm tx): ∃A n c,rv= .slice A n c:=by
 obtain⟨r,q,rfl,_⟩:=h
 exact⟨_,_,_,rfl⟩
theorem Sgd.now_le {o:Opt} {m:BS} {F:List BS} {b:BS} (h:Sgd o m F b):o.now<=10^12:=by have:=h.opt.now;omega
theorem Sgd.fails {o:Opt} {m:BS} {F:List BS} {b:BS} (h:Sgd o m F b)(B:Nat)(k X:BS)(P F':List BS)(b':BS)(H:SgOk o F b X P F' b')(hk:KeyOk o.kind k∧k.length<=1000000)(z:World)(rv:Value)(hV:Vars B z)(hr:OneRec z rv (o.sel++dkS++o.dom) (recK o.kind k)):
 Calls Tryz.prog 13 #[Str X,rv, .int .i64 (o.now:Int)] z fun e w'=>e= .returned (.bool true)∧Below z.heap.size z w':=
 dFails_any B _ o.now rv (some k) o F b X P F' b' z hV H hr (fun k' e=>by cases e;exact hk) (rec_sl hr) h.now_le (Lib.hid rfl) (vcode_key h.opt _ _ _)
theorem Sgd.fine {o:Opt} {m:BS} {F:List BS} {b:BS} (h:Sgd o m F b)(B now c:Nat)(ni ci:Int)(X:BS)(P F':List BS)(b':BS)(H:SgOk o F b X P F' b')(hni:ni=(now:Int))(hci:ci=(c:Int))(hn:now<=10^12)(hc:vcode o F b (P++signed o F b::F') b' (some o.key) now=c)(z:World)(rv:Value)(hV:Vars B z)(hr:OneRec z rv (o.sel++dkS++o.dom) (recK o.kind o.key)):
 Calls Tryz.prog 15 #[Str X,rv, .int .i64 ni, .int .i64 ci] z fun e w'=>e= .returned (.bool true)∧Below z.heap.size z w':=by
 subst hni hci
 refine(dFine_any B _ now c rv (some o.key) o F b X P F' b' z hV H hr (fun k' e=>by cases e;exact h.keyOk) (rec_sl hr) hn (Lib.hid rfl)).mono ?_
 rintro e w' ⟨rfl,hb⟩
 exact⟨by rw [hc];simp,hb⟩
def oCells (o:Opt)(kv hv:Value):List Value:= [Str o.dom,Str o.sel,Str o.ident,Str o.kind,kv,Str o.hdr,Str o.bdy,hv, .bool o.all, .int .i64 o.exp, .int .i64 o.now, .slice none 0 0]
def ofO (o:Opt):RawO:=⟨o.dom,o.sel,o.ident,o.kind,o.key,o.hdr,o.bdy,o.keys,o.all,o.exp,o.now,[]⟩
theorem OneRec.of {w:World} {r q:Nat} {nm tx:BS} (h1:Blk w r 39 [Str nm, .slice (some ⟨q,0,none⟩) 1 1, .bool false, .bool false])(h2:Blk w q 9 [Str tx])(h3:r≠q):OneRec w (.slice (some ⟨r,0,none⟩) 1 1) nm tx:=⟨r,q,rfl,h1,h2,h3⟩
def TrueP (w0:World)(e:Ending)(w':World):Prop:=e= .returned (.bool true)∧Below w0.heap.size w0 w'
theorem opt_val {o:RawO} (h:o.Fit)(kv hv qv:Value):o.cells kv hv qv= [Str (toOpt o).dom,Str (toOpt o).sel,Str (toOpt o).ident,Str (toOpt o).kind,kv,Str (toOpt o).hdr,Str (toOpt o).bdy,hv, .bool (toOpt o).all, .int .i64 ((toOpt o).exp:Int), .int .i64 ((toOpt o).now:Int),qv]:=by
 have:=h.nonneg
 show [Str o.dom,Str o.sel,Str o.ident,Str o.kind,kv,Str o.hdr,Str o.bdy,hv, .bool o.all, .int .i64 o.exp, .int .i64 o.now,qv]= [Str o.dom,Str o.sel,Str o.ident,Str o.kind,kv,Str o.hdr,Str o.bdy,hv, .bool o.all, .int .i64 (o.exp.toNat:Int), .int .i64 (o.now.toNat:Int),qv]
 rw [this.1,this.2]
theorem rd_blk {w:World} {A:Option Addr} {n c:Nat} {l:BS} (h:Rd w (.slice A n c) (byts l))(hl:0<l.length): ∀k,(Value.slice A n c).ownBlock=some k->k<w.heap.size:=by
 obtain⟨A',c',he,_,hn|⟨g,off,e,hg,_⟩⟩:=id h
 ·exfalso
  have:l.length=0:=by rw [<-byL,hn];rfl
  omega
 ·injection he with h1 h2 h3
  subst h1;subst e
  intro k hk
  cases hk;exact hg
theorem sealed_len {O:Opt} {M S:BS} {F:List BS} {b:BS} (h:Sgd O M F b)(hS:S=signed O F b++M):S.length<=7005044∧M.length<S.length:=by
 have h1:=(sgn_ok h.opt h.msg h.frm h.len).sgp.2
 have h2:=(fld_signed (b:=b) h.opt (names_ok h.opt h.msg h.frm)).1.ne
 have h3:0<(signed O F b).length:=List.length_pos_iff.2 h2
 have h4:=h.len
 rw [hS,List.length_append]
 omega
end Go.Proofs.YtgilnagajcfkpaaGreatDoor
