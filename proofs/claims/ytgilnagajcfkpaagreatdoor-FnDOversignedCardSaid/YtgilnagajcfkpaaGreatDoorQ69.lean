import Derived.Test.YtgilnagajcfkpaaGreatDoorQ62
set_option maxHeartbeats 4000000
set_option maxRecDepth 1000000
set_option linter.all false
namespace Go.Proofs.YtgilnagajcfkpaaGreatDoor
open Go.RowKit
noncomputable def body6:Code:=Tryz.f6.body.getD .skip
def vCells (o:Opt)(kv v:Value):List Value:= [Str o.dom,Str o.sel,Str o.ident,Str o.kind,kv,Str o.hdr,Str o.bdy,v, .bool false, .int .i64 (o.exp:Int), .int .i64 (o.now:Int), .slice none 0 0]
theorem overC (B x:Nat)(O:Opt)(KA HA:Option Addr)(KC HC:Nat)(M nm:BS)(once:Bool)(F:List BS)(b:BS)(w0 w:World)(hV:Vars B w)(hB0:B<=w0.heap.size)(hb0:Below w0.heap.size w0 w)(hx:Blk w x 25 (vCells O (.slice KA O.key.length KC) (.slice HA (overKeys F nm once).length HC)))
 (hk:Rd w (.slice KA O.key.length KC) (byts O.key))(hh:Rd w (.slice HA (overKeys F nm once).length HC) (strs (overKeys F nm once)))(hO:Hid (OptOk O))(hM:Hid (MsgOk M F b))(hMl:M.length<=5000)(hM0:Hid (M≠ []))(hw:Hid (letters nm))(hw0:Hid (nm≠ []))(hwl:nm.length<=50)
 {AA AB AC AD AE AF AG AH AI AJ AK AL AM AN AO AP AQ AR AS AT AU AV AW AX AY AZ Aa Ab Ac Ad Ae Af Ag Ah Ai Aj Ak Al Am An Ao Ap Aq Ar As At Au Av Aw Ax Ay Az A0 A1 A2 A3 A4 A5 A6 A7 A8 A9 BA BB BC BD BE BF BG BH BI BJ BK BL BM BN BO BP BQ BR BT BU BV BW BX BY BZ Ba Bb Bc Bd Be Bf Bg Bh Bi Bj Bk Bl Bm Bn Bo Bp Bq Br Bs Bt Bu Bv Bw Bx By Bz B0 B1 B2 B3 B4 B5 B6 B7 B8 B9 CA CB CC CD CE CF CG CH CI CJ CK CL CM CN CO CP CQ CR CS CT CU CV CW CX CY CZ Ca Cb Cc Cd Ce Cf Cg Ch Ci Cj Ck Cl Cm Cn Co:Value} :
 Code.wp Tryz.prog (tl 9 body6) (bodyPost Tryz.prog Tryz.f6 (TrueP w0)) ⟨(AA::Str M::Str nm:: .bool once:: .pointer (some ⟨x,0,none⟩)::AB::AC::AD::AE::AF::AG::AH::AI::AJ::AK::AL::AM::AN::AO::AP::AQ::AR::AS::AT::AU::AV::AW::AX::AY::AZ::Aa::Ab::Ac::Ad::Ae::Af::Ag::Ah::Ai::Aj::Ak::Al::Am::An::Ao::Ap::Aq::Ar::As::At::Au::Av::Aw::Ax::Ay::Az::A0::A1::A2::A3::A4::A5::A6::A7::A8::A9::BA::BB::BC::BD::BE::BF::BG::BH::BI::BJ::BK::BL::BM::BN::BO::BP::BQ::BR::BT::BU::BV::BW::BX::BY::BZ::Ba::Bb::Bc::Bd::Be::Bf::Bg::Bh::Bi::Bj::Bk::Bl::Bm::Bn::Bo::Bp::Bq::Br::Bs::Bt::Bu::Bv::Bw::Bx::By::Bz::B0::B1::B2::B3::B4::B5::B6::B7::B8::B9::CA::CB::CC::CD::CE::CF::CG::CH::CI::CJ::CK::CL::CM::CN::CO::CP::CQ::CR::CS::CT::CU::CV::CW::CX::CY::CZ::Ca::Cb::Cc::Cd::Ce::Cf::Cg::Ch::Ci::Cj::Ck::Cl::Cm::Cn::Co:: []).toArray,[]⟩ w:=by
 conv=>arg 2;whnf
 have c7:w.cell? ⟨x,7,none⟩=some (.slice HA (overKeys F nm once).length HC):=hx.cell 7 _ rfl
 obtain⟨KN,HKN⟩: ∃z,Hid (z=(overKeys F nm once).length):=⟨_,Lib.hid rfl⟩
 rw [<-HKN.out]at c7 hx hh
 by_cases hk20:20<(KN:Int)
 ·go_wp2_with fail
  refine(dAwake_any w).mono ?_
  rintro e wz ⟨rfl,hbz⟩
  go_wp2_with fail
  go_ret
  exact⟨rfl,hb0.trans (hbz.mono hb0.size)⟩
 have hK20:KN<=20:=by omega
 have HO':=Lib.hid (over_ok (once:=once) hO.out hw.out hw0.out (by omega) (by rw [<-HKN.out];exact hK20))
 obtain⟨O',HOe⟩: ∃z,Hid (z=overO O F nm once):=⟨_,Lib.hid rfl⟩
 have HO':Hid (OptOk O'):=by rw [HOe.out];exact HO'.out
 have hsf:Hid (signsFrom O'):=by rw [HOe.out];exact over_from O F nm once
 have Hg:Hid (Sgd O' M F b):=⟨HO'.out,hM.out,hsf.out,hMl⟩
 have hnow:Hid ((O'.now:Int)=(O.now:Int)):=by rw [HOe.out];rfl
 have hex:vCells O (.slice KA O.key.length KC) (.slice HA KN HC)=oCells O' (.slice KA O'.key.length KC) (.slice HA O'.keys.length HC):=by rw [HOe.out,HKN.out];rfl
 rw [hex]at hx
 have hk':Rd w (.slice KA O'.key.length KC) (byts O'.key):=by rw [HOe.out];exact hk
 have hh':Rd w (.slice HA O'.keys.length HC) (strs O'.keys):=by rw [HOe.out];rw [HKN.out]at hh;exact hh
 have hKe:Hid (O'.keys.length=KN):=by rw [HOe.out,HKN.out];rfl
 have HL2:Hid (once=false->vcode O' F b ([nm++anotherS++crlf]++signed O' F b::F) b (some O'.key) O'.now=0):=by
  intro ho
  rw [HOe.out]
  subst ho
  exact law_over hO.out hM.out hw.out hw0.out (by omega) (by rw [<-HKN.out];exact hK20)
 clear hk hh hex c7
 have c7:w.cell? ⟨x,7,none⟩=some (.slice HA O'.keys.length HC):=hx.cell 7 _ rfl
 have hk21: ¬20<(O'.keys.length:Int):=by rw [hKe.out];exact hk20
 clear hk20 hKe HKN hK20
 have h12:=dSealed_any B O' (.slice KA O'.key.length KC) (.slice HA O'.keys.length HC) M F b w hV.glo HO'.out hk' (rd_blk hk' (by have:=HO'.out.key;rcases HO'.out.kind with h|h<;>omega)) hh' hM.out (by omega) hM0.out
 unfold optV at h12
 clear c7
 have c0:=hx.cell 0 _ rfl
 have c1:=hx.cell 1 _ rfl
 have c2:=hx.cell 2 _ rfl
 have c3:=hx.cell 3 _ rfl
 have c4:=hx.cell 4 _ rfl
 have c5:=hx.cell 5 _ rfl
 have c6:=hx.cell 6 _ rfl
 have c7:=hx.cell 7 _ rfl
 have c8:=hx.cell 8 _ rfl
 have c9:=hx.cell 9 _ rfl
 have c10:=hx.cell 10 _ rfl
 have c11:=hx.cell 11 _ rfl
 go_wp2_with fail
 refine h12.mono ?_
 rintro e w1 ⟨⟨S,is,r,q,rfl,hsi,hr,hq,hrq,hrw,hqw⟩,hb1⟩
 have hx1:=hx.below hb1 hx.lt
 have hb01:=hb0.trans (hb1.mono hb0.size)
 have hV1:=hV.above hb1
 clear h12 c0 c1 c2 c3 c4 c5 c6 c7 c8 c9 c10 c11
 obtain⟨_,hs,hi⟩|⟨hsn,_⟩:=hsi
 rotate_left
 ·exact absurd hsf.out hsn
 have HS:=Lib.hid hs
 clear hs
 subst hi
 obtain⟨lS,lSM⟩:=sealed_len Hg.out HS.out
 have hxf:=aField_ok hw.out hw0.out
 have HX1:SgOk O' F b S [] F b:=by
  have h:=sg_ahead HO'.out hM.out hsf.out hMl [] (by simp) rfl (by simp) [] rfl (by simp)
  rw [HS.out]
  simpa using h
 have HX1:=Lib.hid HX1
 have HX2:Hid (∀X,X=nm++58::32::97::110::111::116::104::101::114::13::10::S->SgOk O' F b X [nm++anotherS++crlf] F b):=by
  intro X hX
  have h:=sg_ahead HO'.out hM.out hsf.out hMl [nm++anotherS++crlf] (by intro f hf;rw [List.mem_singleton.1 hf];exact⟨hxf.1,by rw [hxf.2.1];exact hxf.2.2.1⟩) (by rw [List.flatten_singleton];exact hxf.2.2.2) (by simp [anotherS,crlf];omega) [] rfl (by simp)
  rw [hX,HS.out]
  simpa [anotherS,crlf]using h
 have HC1:=Lib.hid (law_same HO'.out hM.out hsf.out)
 clear hxf
 have hrec:=OneRec.of hr hq hrq
 have c10:=hx1.cell 10 _ rfl
 go_wp2_with fail
 refine(Hg.out.fine B O'.now 0 _ _ S [] F b HX1.out rfl rfl Hg.out.now_le HC1.out w1 _ hV1 hrec).mono ?_
 rintro e w2 ⟨rfl,hb2⟩
 have hx2:=hx1.below hb2 hx1.lt
 have hb02:=hb01.trans (hb2.mono hb01.size)
 have hV2:=hV1.above hb2
 have hrec2:=OneRec.of (hr.below hb2 hr.lt) (hq.below hb2 hq.lt) hrq
 clear c10
 have c10:=hx2.cell 10 _ rfl
 cases once
 ·go_wp2_with fail
  refine(Hg.out.fine B O'.now 0 _ _ _ [nm++anotherS++crlf] F b (HX2.out _ (by simp)) rfl rfl Hg.out.now_le (HL2.out (by first|rfl|trivial)) w2 _ hV2 hrec2).mono ?_
  rintro e w3 ⟨rfl,hb3⟩
  go_wp2_with fail
  go_ret
  exact⟨rfl,hb02.trans (hb3.mono hb02.size)⟩
 ·go_wp2_with fail
  refine(Hg.out.fails B O'.key _ [nm++anotherS++crlf] F b (HX2.out _ (by simp)) Hg.out.keyOk w2 _ hV2 hrec2).mono ?_
  rintro e w3 ⟨rfl,hb3⟩
  go_wp2_with fail
  go_ret
  exact⟨rfl,hb02.trans (hb3.mono hb02.size)⟩
def kl (nm:BS)(n:Nat):List BS:=fromU::List.replicate n nm
theorem kl_push (nm:BS)(n:Nat):kl nm n++ [nm]=kl nm (n+1):=by unfold kl;rw [List.replicate_succ',List.cons_append]
theorem kl_len (nm:BS)(n:Nat):(kl nm n).length=n+1:=by simp [kl]
def cnt (F:List BS)(nm:BS)(k:Nat):Nat:=((F.take k).filter (named nm)).length
theorem cnt_succ (F:List BS)(nm:BS)(k:Nat)(h:k<F.length):cnt F nm (k+1)=cnt F nm k+if lower (name F[k])=nm then 1 else 0:=by
 unfold cnt
 rw [List.take_succ_eq_append_getElem h,List.filter_append,List.length_append]
 congr 1
 by_cases e:lower (name F[k])=nm
 ·rw [if_pos e,List.filter_cons_of_pos (by unfold named lname;simpa using e)];rfl
 ·rw [if_neg e,List.filter_cons_of_neg (by unfold named lname;simpa using e)];rfl
theorem cnt_le (F:List BS)(nm:BS)(k:Nat):cnt F nm k<=F.length:=Nat.le_trans (List.length_filter_le _ _) (by rw [List.length_take];omega)
theorem cnt_whole (F:List BS)(nm:BS):cnt F nm F.length=cntF F nm 0:=by unfold cnt cntF;rw [List.take_length,List.drop_zero]
def KSt (B x:Nat)(O:Opt)(kv:Value)(l:List BS)(w:World):Prop:= ∃g off c,Blk w x 25 (vCells O kv (.slice (some ⟨g,off,none⟩) l.length c))∧OwnAt w B 9 (.slice (some ⟨g,off,none⟩) l.length c) (strs l)∧g≠x
theorem KSt.below {B x:Nat} {O:Opt} {kv:Value} {l:List BS} {w w':World} (h:KSt B x O kv l w)(hb:Below w.heap.size w w'):KSt B x O kv l w':=by
 obtain⟨g,off,c,h1,h2,h3⟩:=h
 exact⟨g,off,c,h1.below hb h1.lt,h2.below hb,h3⟩
theorem KSt.put {B x:Nat} {O:Opt} {kv:Value} {l:List BS} {w:World} {v:Value} {cs:List Value} (hx:Blk w x 25 cs)(ho:OwnAt w B 9 v (strs l))(hl:l≠ [])(hc: ∀u,cs.set 7 u=vCells O kv u):KSt B x O kv l (w.setCell ⟨x,7,none⟩ v):=by
 obtain⟨g,off,c,rfl⟩:=ho.form_some (by intro e;exact hl (List.length_eq_zero_iff.1 (by rw [<-stL,e];rfl)))
 rw [stL]at ho⊢
 have hne:g≠x:=fun e=>own_blk ho hx (by decide) (by rw [e];rfl)
 refine⟨g,off,c,?_,?_,hne⟩
 ·rw [<-hc];exact hx.set 7 _
 ·exact ho.frm (S:=(· =x)) ((Frm.refl _ w).setCell ⟨x,7,none⟩ _ (fun _=>rfl)) (fun k hk e=>by cases hk;exact hne e)
theorem overB1 (B x:Nat)(O:Opt)(KA HA FA:Option Addr)(KC HC FC:Nat)(M nm:BS)(once:Bool)(F:List BS)(b:BS)(w0 w:World)(hV:Vars B w0)(hb0:Below w0.heap.size w0 w)(hx:Blk w x 25 (oCells O (.slice KA O.key.length KC) (.slice HA O.keys.length HC)))(hx0:w0.heap.size<=x)
 (hk:Rd w0 (.slice KA O.key.length KC) (byts O.key))(hvr:Rd w (.slice FA F.length FC) (strs F))(hO:Hid (OptOk O))(hM:Hid (MsgOk M F b))(hMl:M.length<=5000)(hM0:Hid (M≠ []))(hw:Hid (letters nm))(hw0:Hid (nm≠ []))(hwl:nm.length<=50)
 (hFx:(Value.slice FA F.length FC).ownBlock≠some x)(hFl:Hid (∀f∈F,f.length<=1000000))(hFn:F.length<=10000)(hnf:nm≠fromS)
 {AA AB AC AD AE AF AG AH AI AJ AK AL AM AN AO AP AQ AR AS AT AU AV AW AX AY AZ Aa Ab Ac Ad Ae Af Ag Ah Ai Aj Ak Al Am An Ao Ap Aq Ar As At Au Av Aw Ax Ay Az A0 A1 A2 A3 A4 A5 A6 A7 A8 A9 BA BB BC BD BE BF BG BH BI BJ BK BL BM BN BO BP BQ BR BT BU BV BW BX BY BZ Ba Bb Bc Bd Be Bf Bg Bh Bi Bj Bk Bl Bm Bn Bo Bp Bq Br Bs Bt Bu Bv Bw Bx By Bz B0 B1 B2 B3 B4 B5 B6 B7 B8 B9 CA CB CC CD CE CF CG CH CI CJ CK CL CM CN CO CP CQ CR CS CT CU CV CW CX CY CZ Ca Cb Cc Cd Ce Cf Cg Ch Ci Cj Ck Cl Cm Cn:Value}
 (K:Act->World->Prop)(hK: ∀a w,Code.wp Tryz.prog (tl 6 body6) (bodyPost Tryz.prog Tryz.f6 (TrueP w0)) a w->K a w):
 Code.wp Tryz.prog (hdC (tl 5 body6)) (Exit.then K (bodyPost Tryz.prog Tryz.f6 (TrueP w0))) ⟨(AA::Str M::Str nm:: .bool once:: .pointer (some ⟨x,0,none⟩)::AB::AC::AD::AE::AF:: .slice FA F.length FC::AG::AH::AI::AJ::AK::AL::AM::AN::AO::AP::AQ::AR::AS::AT::AU::AV::AW::AX::AY::AZ::Aa::Ab::Ac::Ad::Ae::Af::Ag::Ah::Ai::Aj::Ak::Al::Am::An::Ao::Ap::Aq::Ar::As::At::Au::Av::Aw::Ax::Ay::Az::A0::A1::A2::A3::A4::A5::A6::A7::A8::A9::BA::BB::BC::BD::BE::BF::BG::BH::BI::BJ::BK::BL::BM::BN::BO::BP::BQ::BR::BT::BU::BV::BW::BX::BY::BZ::Ba::Bb::Bc::Bd::Be::Bf::Bg::Bh::Bi::Bj::Bk::Bl::Bm::Bn::Bo::Bp::Bq::Br::Bs::Bt::Bu::Bv::Bw::Bx::By::Bz::B0::B1::B2::B3::B4::B5::B6::B7::B8::B9::CA::CB::CC::CD::CE::CF::CG::CH::CI::CJ::CK::CL::CM::CN::CO::CP::CQ::CR::CS::CT::CU::CV::CW::CX::CY::CZ::Ca::Cb::Cc::Cd::Ce::Cf::Cg::Ch::Ci::Cj::Ck::Cl::Cm::Cn:: []).toArray,[]⟩ w:=by
 conv=>arg 2;whnf
 obtain⟨y,hy⟩: ∃y,Hid (y=tl 6 body6):=⟨_,rfl⟩
 rw [<-hy.out]at hK
 obtain⟨y9,hy9⟩: ∃y,Hid (y=tl 9 body6):=⟨_,rfl⟩
 have e6:tl 6 body6= .seq (hdC (tl 6 body6)) (.seq (hdC (tl 7 body6)) (.seq (hdC (tl 8 body6)) y9)):=by rw [hy9.out];rfl
 have E6:=Lib.hid e6
 clear e6
 have hnfb:(nm== [102,114,111,109])=false:=by simpa [fromS]using hnf
 have hnfn:(nm != [102,114,111,109])=true:=by simpa [fromS]using hnf
 have Hnf:=Lib.hid hnf
 clear hnf
 have hba:=(Below.refl w.heap.size w).alloc (Nat.le_refl _) (.cells #[Str [70,114,111,109]] 9)
 have hra:OwnAt (w.alloc (.cells #[Str [70,114,111,109]] 9)) w.heap.size 9 (.slice (some ⟨w.heap.size,0,none⟩) 1 1) (strs [fromU]):=OwnAt.lit w w.heap.size 9 (strs [fromU]) (Nat.le_refl _) (by simp [maxLen,strs])
 have hx1:=hx.alloc (.cells #[Str [70,114,111,109]] 9)
 have f8:=hx1.frozen 8
 have g8:=hx1.cell 8 _ rfl
 have hx2:=hx1.set 8 (.bool false)
 have f7:=hx2.frozen 7
 have g7:=hx2.cell 7 _ rfl
 have hra2:=hra.frm (S:=(· =x)) ((Frm.refl _ (w.alloc (.cells #[Str [70,114,111,109]] 9))).setCell ⟨x,8,none⟩ (.bool false) (fun _=>rfl)) (fun k hk e=>by cases hk;exact absurd e (by have:=hx.lt;show w.heap.size≠x;omega))
 have hKS:=KSt.put (B:=w.heap.size) (O:=O) (kv:= .slice KA O.key.length KC) hx2 hra2 (by simp) (fun u=>rfl)
 have hF1:Frm (· =x) w (((w.alloc (.cells #[Str [70,114,111,109]] 9)).setCell ⟨x,8,none⟩ (.bool false)).setCell ⟨x,7,none⟩ (.slice (some ⟨w.heap.size,0,none⟩) 1 1)):=Frm.setCell (S:=(· =x)) (Frm.setCell (S:=(· =x)) (Frm.alloc (Frm.refl (· =x) w) _) ⟨x,8,none⟩ _ (fun _=>rfl)) ⟨x,7,none⟩ _ (fun _=>rfl)
 go_wp2_with fail
 rw [hy.out,E6.out]
 clear hy E6 hx1 f8 g8 hx2 f7 g7 hra hra2 hba
 generalize((w.alloc (.cells #[Str [70,114,111,109]] 9)).setCell ⟨x,8,none⟩ (.bool false)).setCell ⟨x,7,none⟩ (.slice (some ⟨w.heap.size,0,none⟩) 1 1)=w1 at*
 conv=>arg 2;arg 1;whnf
 conv=>arg 2;arg 2;arg 1;whnf
 conv=>arg 2;arg 2;arg 2;arg 1;whnf
 go_wp2_with fail
 go_loopw [13] (fun v13 wx=> ∃k:Nat,k<=F.length∧v13= .int .i64 k∧KSt w.heap.size x O (.slice KA O.key.length KC) (kl nm (cnt F nm k)) wx∧Frm (· =x) w wx) (fun v13 _=>F.length-(intOf v13).toNat)
 case atStart=>exact⟨0,Nat.zero_le _,rfl,hKS,hF1⟩
 case round=>
  clear hKS hF1
  obtain⟨k,hk0,rfl,hKS,hFr⟩:=hrel
  by_cases hlt:k<F.length
  ·have hvx:=hvr.frm hFr (fun k hk e=>hFx (by rw [hk,e]))
   obtain⟨A',c',he,_,hn0|⟨gF,oF,e,_,hcc⟩⟩:=id hvx
   ·exfalso
    have:F.length=0:=by rw [<-stL,hn0];rfl
    omega
   injection he with h1 h2 h3
   clear h2 h3
   subst h1
   subst e
   have hck:=hcc k (Str F[k]) (by simp [strs,hlt])
   clear hcc hvx
   have h0:(0:Int)<=(k:Int):=by omega
   have h1:(k:Int)<(F.length:Int):=by omega
   have lf:=hFl.out _ (List.getElem_mem hlt)
   have hcs:=Lib.hid (cnt_succ F nm k hlt)
   obtain⟨f,Hff⟩: ∃z,Hid (z=F[k]):=⟨_,Lib.hid rfl⟩
   have hcs:Hid (cnt F nm (k+1)=cnt F nm k+if lower (name f)=nm then 1 else 0):=by rw [Hff.out];exact hcs
   rw [<-Hff.out]at hck lf
   go_wp2_with fail
   refine(dName_any f wr (by omega)).mono ?_
   rintro e wa ⟨rfl,hba⟩
   have lnm:(name f).length<=4294967296:=by have:=name_len f;omega
   go_wp2_with fail
   refine(dLower_any (name f) wa lnm).mono ?_
   rintro e wc ⟨rfl,hbc⟩
   have hbac:=hba.trans (hbc.mono hba.size)
   have hFc:Frm (· =x) w wc:=hFr.trans (Frm.of_new hbac)
   have hKc:=hKS.below hbac
   have hBc:w.heap.size<=wc.heap.size:=hFc.size
   obtain⟨lf2,Hlf⟩: ∃z,Hid (z=lower (name f)):=⟨_,Lib.hid rfl⟩
   rw [<-Hlf.out]
   have hcs:Hid (cnt F nm (k+1)=cnt F nm k+if lf2=nm then 1 else 0):=by rw [Hlf.out];exact hcs
   have hcl:=cnt_le F nm k
   clear hck lf lnm h0 h1 hKS hba hbc hbac hFr
   by_cases hm:lf2=nm
   ·have e1:(lf2==nm)=true:=by simpa using hm
    have hcs2:Hid (cnt F nm (k+1)=cnt F nm k+1):=by show _=_;rw [hcs.out,if_pos hm]
    clear hm hcs
    obtain⟨gx,ox,cx,hxr,hov,hgx⟩:=hKc
    have c7:=hxr.cell 7 _ rfl
    have lkl:(kl nm (cnt F nm k)).length<=4398046511104:=by rw [kl_len];omega
    obtain⟨LL,HLL⟩: ∃z,Hid (z=kl nm (cnt F nm k)):=⟨_,Lib.hid rfl⟩
    rw [<-HLL.out]at hxr hov c7 lkl
    have hgy:some x≠(Value.slice (some ⟨gx,ox,none⟩) LL.length cx).ownBlock:=fun e=>hgx (Option.some.inj (show some x=some gx from e)).symm
    go_wp2_with (first|(at_builtin;refine appS1 (w0:=wc) rfl (.tmp 91) (.tmp 93) rfl LL nm rfl hov rfl lkl (Below.refl _ _) hBc ?_;intro v2 w2 ho2 hg2 hb2;have hx2:=(hxr.alloc (.cells #[Str nm] 9)).grown hg2 hgy;have f2:=hx2.frozen 7;have e2:=hx2.cell 7 _ rfl;have ho2':=ho2;obtain⟨g2,o2,c2,hv2⟩:=ho2.form_some (by simp [strs]);subst hv2)|fail)
    have hK3:KSt w.heap.size x O (.slice KA O.key.length KC) (kl nm (cnt F nm k+1)) (w2.setCell ⟨x,7,none⟩ (.slice (some ⟨g2,o2,none⟩) (strs (LL++ [nm])).length c2)):=by
     rw [<-kl_push,<-HLL.out];exact KSt.put hx2 ho2' (by simp) (fun u=>rfl)
    have hF3:Frm (· =x) w (w2.setCell ⟨x,7,none⟩ (.slice (some ⟨g2,o2,none⟩) (strs (LL++ [nm])).length c2)):=Frm.setCell (hFc.after (Frm.of_below hb2) (fun i hi ht=>absurd hi (Nat.not_lt.2 ht))) ⟨x,7,none⟩ _ (fun _=>rfl)
    go_roundw
    case rel=>exact⟨k+1,hlt,by go_num,by rw [hcs2.out];exact hK3,hF3⟩
    case measure=>simp [intOf];omega
   ·have e1:(lf2==nm)=false:=by simpa using hm
    have hcs2:Hid (cnt F nm (k+1)=cnt F nm k):=by show _=_;rw [hcs.out,if_neg hm,Nat.add_zero]
    clear hm hcs
    go_wp2_with fail
    go_roundw
    case rel=>exact⟨k+1,hlt,by go_num,by rw [hcs2.out];exact hKc,hFc⟩
    case measure=>simp [intOf];omega
  ·have hkF:k=F.length:=by omega
   subst hkF
   clear hlt hk0
   have hKz:=hKS
   have hFz:=hFr
   clear hKS hFr
   have hFe:=Lib.hid (cnt_whole F nm)
   clear hvr
   have hn:Hid (cnt F nm F.length=overN F nm):=by show _=_;unfold overN;rw [if_neg Hnf.out,<-hFe.out]
   have hcl:=cnt_le F nm F.length
   have hBz:w.heap.size<=wr.heap.size:=hFz.size
   cases once
   ·go_wp2_with fail
    rw [hy9.out]
    obtain⟨gx,ox,cx,hxr,hov,hgx⟩:=hKz
    have hke:kl nm (cnt F nm F.length)=overKeys F nm false:=by rw [hn.out];simp [kl,overKeys]
    rw [hke]at hxr hov
    have hbz:Below w0.heap.size w0 wr:=hb0.trans (hFz.below (fun i _ e=>by rw [e];exact hx0) hb0.size)
    exact overC B x O KA (some ⟨gx,ox,none⟩) KC cx M nm false F b w0 wr (hV.above hbz) hV.glo.le hbz hxr (hk.below hbz) hov.rd hO hM hMl hM0 hw hw0 hwl
   ·have hKc:=hKz
    have hFc:=hFz
    have hBc:=hBz
    clear hKz hFz hBz
    obtain⟨gx,ox,cx,hxr,hov,hgx⟩:=hKc
    have c7:=hxr.cell 7 _ rfl
    have lkl:(kl nm (cnt F nm F.length)).length<=4398046511104:=by rw [kl_len];omega
    obtain⟨LL,HLL⟩: ∃z,Hid (z=kl nm (cnt F nm F.length)):=⟨_,Lib.hid rfl⟩
    rw [<-HLL.out]at hxr hov c7 lkl
    have hgy:some x≠(Value.slice (some ⟨gx,ox,none⟩) LL.length cx).ownBlock:=fun e=>hgx (Option.some.inj (show some x=some gx from e)).symm
    go_wp2_with (first|(at_builtin;refine appS1 (w0:=wr) rfl (.tmp 124) (.tmp 126) rfl LL nm rfl hov rfl lkl (Below.refl _ _) hBc ?_;intro v2 w2 ho2 hg2 hb2;have hx2:=(hxr.alloc (.cells #[Str nm] 9)).grown hg2 hgy;have f2:=hx2.frozen 7;have e2:=hx2.cell 7 _ rfl;have ho2':=ho2;obtain⟨g2,o2,c2,hv2⟩:=ho2.form_some (by simp [strs]);subst hv2)|fail)
    have hK3:KSt w.heap.size x O (.slice KA O.key.length KC) (kl nm (cnt F nm F.length+1)) (w2.setCell ⟨x,7,none⟩ (.slice (some ⟨g2,o2,none⟩) (strs (LL++ [nm])).length c2)):=by
     rw [<-kl_push,<-HLL.out];exact KSt.put hx2 ho2' (by simp) (fun u=>rfl)
    have hF3:Frm (· =x) w (w2.setCell ⟨x,7,none⟩ (.slice (some ⟨g2,o2,none⟩) (strs (LL++ [nm])).length c2)):=Frm.setCell (hFc.after (Frm.of_below hb2) (fun i hi ht=>absurd hi (Nat.not_lt.2 ht))) ⟨x,7,none⟩ _ (fun _=>rfl)
    go_wp2_with fail
    rw [hy9.out]
    obtain⟨gx,ox,cx,hxr,hov,hgx⟩:=hK3
    have hke:kl nm (cnt F nm F.length+1)=overKeys F nm true:=by rw [hn.out,<-kl_push];simp [kl,overKeys]
    rw [hke]at hxr hov
    have hbz:Below w0.heap.size w0 _:=hb0.trans (hF3.below (fun i _ e=>by rw [e];exact hx0) hb0.size)
    exact overC B x O KA (some ⟨gx,ox,none⟩) KC cx M nm true F b w0 _ (hV.above hbz) hV.glo.le hbz hxr (hk.below hbz) hov.rd hO hM hMl hM0 hw hw0 hwl
theorem overB2 (B x:Nat)(O:Opt)(KA HA FA:Option Addr)(KC HC FC:Nat)(M nm:BS)(once:Bool)(F:List BS)(b:BS)(w0 w:World)(hV:Vars B w0)(hb0:Below w0.heap.size w0 w)(hx:Blk w x 25 (oCells O (.slice KA O.key.length KC) (.slice HA O.keys.length HC)))(hx0:w0.heap.size<=x)
 (hk:Rd w0 (.slice KA O.key.length KC) (byts O.key))(hvr:Rd w (.slice FA F.length FC) (strs F))(hO:Hid (OptOk O))(hM:Hid (MsgOk M F b))(hMl:M.length<=5000)(hM0:Hid (M≠ []))(hw:Hid (letters nm))(hw0:Hid (nm≠ []))(hwl:nm.length<=50)
 (hFx:(Value.slice FA F.length FC).ownBlock≠some x)(hFl:Hid (∀f∈F,f.length<=1000000))(hFn:F.length<=10000)(hnf:nm=fromS)
 {AA AB AC AD AE AF AG AH AI AJ AK AL AM AN AO AP AQ AR AS AT AU AV AW AX AY AZ Aa Ab Ac Ad Ae Af Ag Ah Ai Aj Ak Al Am An Ao Ap Aq Ar As At Au Av Aw Ax Ay Az A0 A1 A2 A3 A4 A5 A6 A7 A8 A9 BA BB BC BD BE BF BG BH BI BJ BK BL BM BN BO BP BQ BR BT BU BV BW BX BY BZ Ba Bb Bc Bd Be Bf Bg Bh Bi Bj Bk Bl Bm Bn Bo Bp Bq Br Bs Bt Bu Bv Bw Bx By Bz B0 B1 B2 B3 B4 B5 B6 B7 B8 B9 CA CB CC CD CE CF CG CH CI CJ CK CL CM CN CO CP CQ CR CS CT CU CV CW CX CY CZ Ca Cb Cc Cd Ce Cf Cg Ch Ci Cj Ck Cl Cm Cn:Value}
 (K:Act->World->Prop)(hK: ∀a w,Code.wp Tryz.prog (tl 6 body6) (bodyPost Tryz.prog Tryz.f6 (TrueP w0)) a w->K a w):
 Code.wp Tryz.prog (hdC (tl 5 body6)) (Exit.then K (bodyPost Tryz.prog Tryz.f6 (TrueP w0))) ⟨(AA::Str M::Str nm:: .bool once:: .pointer (some ⟨x,0,none⟩)::AB::AC::AD::AE::AF:: .slice FA F.length FC::AG::AH::AI::AJ::AK::AL::AM::AN::AO::AP::AQ::AR::AS::AT::AU::AV::AW::AX::AY::AZ::Aa::Ab::Ac::Ad::Ae::Af::Ag::Ah::Ai::Aj::Ak::Al::Am::An::Ao::Ap::Aq::Ar::As::At::Au::Av::Aw::Ax::Ay::Az::A0::A1::A2::A3::A4::A5::A6::A7::A8::A9::BA::BB::BC::BD::BE::BF::BG::BH::BI::BJ::BK::BL::BM::BN::BO::BP::BQ::BR::BT::BU::BV::BW::BX::BY::BZ::Ba::Bb::Bc::Bd::Be::Bf::Bg::Bh::Bi::Bj::Bk::Bl::Bm::Bn::Bo::Bp::Bq::Br::Bs::Bt::Bu::Bv::Bw::Bx::By::Bz::B0::B1::B2::B3::B4::B5::B6::B7::B8::B9::CA::CB::CC::CD::CE::CF::CG::CH::CI::CJ::CK::CL::CM::CN::CO::CP::CQ::CR::CS::CT::CU::CV::CW::CX::CY::CZ::Ca::Cb::Cc::Cd::Ce::Cf::Cg::Ch::Ci::Cj::Ck::Cl::Cm::Cn:: []).toArray,[]⟩ w:=by
 conv=>arg 2;whnf
 obtain⟨y,hy⟩: ∃y,Hid (y=tl 6 body6):=⟨_,rfl⟩
 rw [<-hy.out]at hK
 obtain⟨y9,hy9⟩: ∃y,Hid (y=tl 9 body6):=⟨_,rfl⟩
 have e6:tl 6 body6= .seq (hdC (tl 6 body6)) (.seq (hdC (tl 7 body6)) (.seq (hdC (tl 8 body6)) y9)):=by rw [hy9.out];rfl
 have E6:=Lib.hid e6
 clear e6
 have hnfb:(nm== [102,114,111,109])=true:=by rw [hnf];rfl
 have hnfn:(nm != [102,114,111,109])=false:=by rw [hnf];rfl
 have Hnf:=Lib.hid hnf
 clear hnf
 have hba:=(Below.refl w.heap.size w).alloc (Nat.le_refl _) (.cells #[Str [70,114,111,109]] 9)
 have hra:OwnAt (w.alloc (.cells #[Str [70,114,111,109]] 9)) w.heap.size 9 (.slice (some ⟨w.heap.size,0,none⟩) 1 1) (strs [fromU]):=OwnAt.lit w w.heap.size 9 (strs [fromU]) (Nat.le_refl _) (by simp [maxLen,strs])
 have hx1:=hx.alloc (.cells #[Str [70,114,111,109]] 9)
 have f8:=hx1.frozen 8
 have g8:=hx1.cell 8 _ rfl
 have hx2:=hx1.set 8 (.bool false)
 have f7:=hx2.frozen 7
 have g7:=hx2.cell 7 _ rfl
 have hra2:=hra.frm (S:=(· =x)) ((Frm.refl _ (w.alloc (.cells #[Str [70,114,111,109]] 9))).setCell ⟨x,8,none⟩ (.bool false) (fun _=>rfl)) (fun k hk e=>by cases hk;exact absurd e (by have:=hx.lt;show w.heap.size≠x;omega))
 have hKS:=KSt.put (B:=w.heap.size) (O:=O) (kv:= .slice KA O.key.length KC) hx2 hra2 (by simp) (fun u=>rfl)
 have hF1:Frm (· =x) w (((w.alloc (.cells #[Str [70,114,111,109]] 9)).setCell ⟨x,8,none⟩ (.bool false)).setCell ⟨x,7,none⟩ (.slice (some ⟨w.heap.size,0,none⟩) 1 1)):=Frm.setCell (S:=(· =x)) (Frm.setCell (S:=(· =x)) (Frm.alloc (Frm.refl (· =x) w) _) ⟨x,8,none⟩ _ (fun _=>rfl)) ⟨x,7,none⟩ _ (fun _=>rfl)
 go_wp2_with fail
 rw [hy.out,E6.out]
 clear hy E6 hx1 f8 g8 hx2 f7 g7 hra hra2 hba
 generalize((w.alloc (.cells #[Str [70,114,111,109]] 9)).setCell ⟨x,8,none⟩ (.bool false)).setCell ⟨x,7,none⟩ (.slice (some ⟨w.heap.size,0,none⟩) 1 1)=w1 at*
 conv=>arg 2;arg 1;whnf
 conv=>arg 2;arg 2;arg 1;whnf
 conv=>arg 2;arg 2;arg 2;arg 1;whnf
 go_wp2_with fail
 go_loopw [13] (fun v13 wx=> ∃k:Nat,k<=F.length∧v13= .int .i64 k∧KSt w.heap.size x O (.slice KA O.key.length KC) (kl nm (0)) wx∧Frm (· =x) w wx) (fun v13 _=>F.length-(intOf v13).toNat)
 case atStart=>exact⟨0,Nat.zero_le _,rfl,hKS,hF1⟩
 case round=>
  clear hKS hF1
  obtain⟨k,hk0,rfl,hKS,hFr⟩:=hrel
  by_cases hlt:k<F.length
  ·have hvx:=hvr.frm hFr (fun k hk e=>hFx (by rw [hk,e]))
   obtain⟨A',c',he,_,hn0|⟨gF,oF,e,_,hcc⟩⟩:=id hvx
   ·exfalso
    have:F.length=0:=by rw [<-stL,hn0];rfl
    omega
   injection he with h1 h2 h3
   clear h2 h3
   subst h1
   subst e
   have hck:=hcc k (Str F[k]) (by simp [strs,hlt])
   clear hcc hvx
   have h0:(0:Int)<=(k:Int):=by omega
   have h1:(k:Int)<(F.length:Int):=by omega
   have lf:=hFl.out _ (List.getElem_mem hlt)
   have hcs:=Lib.hid (cnt_succ F nm k hlt)
   obtain⟨f,Hff⟩: ∃z,Hid (z=F[k]):=⟨_,Lib.hid rfl⟩
   have hcs:Hid (cnt F nm (k+1)=cnt F nm k+if lower (name f)=nm then 1 else 0):=by rw [Hff.out];exact hcs
   rw [<-Hff.out]at hck lf
   go_wp2_with fail
   refine(dName_any f wr (by omega)).mono ?_
   rintro e wa ⟨rfl,hba⟩
   have lnm:(name f).length<=4294967296:=by have:=name_len f;omega
   go_wp2_with fail
   refine(dLower_any (name f) wa lnm).mono ?_
   rintro e wc ⟨rfl,hbc⟩
   have hbac:=hba.trans (hbc.mono hba.size)
   have hFc:Frm (· =x) w wc:=hFr.trans (Frm.of_new hbac)
   have hKc:=hKS.below hbac
   have hBc:w.heap.size<=wc.heap.size:=hFc.size
   obtain⟨lf2,Hlf⟩: ∃z,Hid (z=lower (name f)):=⟨_,Lib.hid rfl⟩
   rw [<-Hlf.out]
   have hcs:Hid (cnt F nm (k+1)=cnt F nm k+if lf2=nm then 1 else 0):=by rw [Hlf.out];exact hcs
   have hcl:=cnt_le F nm k
   clear hck lf lnm h0 h1 hKS hba hbc hbac hFr
   by_cases hm:lf2=nm
   ·have e1:(lf2==nm)=true:=by simpa using hm
    have hcs2:Hid (cnt F nm (k+1)=cnt F nm k+1):=by show _=_;rw [hcs.out,if_pos hm]
    clear hm hcs
    go_wp2_with fail
    go_roundw
    case rel=>exact⟨k+1,hlt,by go_num,hKc,hFc⟩
    case measure=>simp [intOf];omega
   ·have e1:(lf2==nm)=false:=by simpa using hm
    have hcs2:Hid (cnt F nm (k+1)=cnt F nm k):=by show _=_;rw [hcs.out,if_neg hm,Nat.add_zero]
    clear hm hcs
    go_wp2_with fail
    go_roundw
    case rel=>exact⟨k+1,hlt,by go_num,hKc,hFc⟩
    case measure=>simp [intOf];omega
  ·have hkF:k=F.length:=by omega
   subst hkF
   clear hlt hk0
   have hFe:=Lib.hid (cnt_whole F nm)
   go_wp2_with fail
   go_loopw [14,15] (fun v14 v15 wx=> ∃k:Nat,k<=F.length∧v14= .int .i64 k∧v15= .int .i64 (cnt F nm k:Nat)∧KSt w.heap.size x O (.slice KA O.key.length KC) (kl nm (cnt F nm k-1)) wx∧Frm (· =x) w wx) (fun v14 _ _=>F.length-(intOf v14).toNat)
   case atStart=>exact⟨0,Nat.zero_le _,rfl,rfl,hKS,hFr⟩
   case round=>
    clear hKS hFr
    obtain⟨k,hk0,rfl,rfl,hKS,hFr⟩:=hrel
    by_cases hlt:k<F.length
    ·have hvx:=hvr.frm hFr (fun k hk e=>hFx (by rw [hk,e]))
     obtain⟨A',c',he,_,hn0|⟨gF,oF,e,_,hcc⟩⟩:=id hvx
     ·exfalso
      have:F.length=0:=by rw [<-stL,hn0];rfl
      omega
     injection he with h1 h2 h3
     clear h2 h3
     subst h1
     subst e
     have hck:=hcc k (Str F[k]) (by simp [strs,hlt])
     clear hcc hvx
     have h0:(0:Int)<=(k:Int):=by omega
     have h1:(k:Int)<(F.length:Int):=by omega
     have lf:=hFl.out _ (List.getElem_mem hlt)
     have hcs:=Lib.hid (cnt_succ F nm k hlt)
     obtain⟨f,Hff⟩: ∃z,Hid (z=F[k]):=⟨_,Lib.hid rfl⟩
     have hcs:Hid (cnt F nm (k+1)=cnt F nm k+if lower (name f)=nm then 1 else 0):=by rw [Hff.out];exact hcs
     rw [<-Hff.out]at hck lf
     go_wp2_with fail
     refine(dName_any f wr (by omega)).mono ?_
     rintro e wa ⟨rfl,hba⟩
     have lnm:(name f).length<=4294967296:=by have:=name_len f;omega
     go_wp2_with fail
     refine(dLower_any (name f) wa lnm).mono ?_
     rintro e wc ⟨rfl,hbc⟩
     have hbac:=hba.trans (hbc.mono hba.size)
     have hFc:Frm (· =x) w wc:=hFr.trans (Frm.of_new hbac)
     have hKc:=hKS.below hbac
     have hBc:w.heap.size<=wc.heap.size:=hFc.size
     obtain⟨lf2,Hlf⟩: ∃z,Hid (z=lower (name f)):=⟨_,Lib.hid rfl⟩
     rw [<-Hlf.out]
     have hcs:Hid (cnt F nm (k+1)=cnt F nm k+if lf2=nm then 1 else 0):=by rw [Hlf.out];exact hcs
     have hcl:=cnt_le F nm k
     clear hck lf lnm h0 h1 hKS hba hbc hbac hFr
     by_cases hm:lf2=nm
     ·have e1:(lf2==nm)=true:=by simpa using hm
      have hcs2:Hid (cnt F nm (k+1)=cnt F nm k+1):=by show _=_;rw [hcs.out,if_pos hm]
      clear hm hcs
      obtain⟨N,HN⟩: ∃z,Hid (z=cnt F nm k):=⟨_,Lib.hid rfl⟩
      rw [<-HN.out]at hKc hcl hcs2⊢
      by_cases hN0:N=0
      ·have e2: ¬1<(N:Int)+1:=by omega
       have hcs3:Hid (cnt F nm (k+1)-1=N-1):=by show _=_;rw [hcs2.out];omega
       go_wp2_with fail
       go_roundw
       case rel=>exact⟨k+1,hlt,by go_num,by rw [hcs2.out];go_num,by rw [hcs3.out];exact hKc,hFc⟩
       case measure=>simp [intOf];omega
      ·have e2:1<(N:Int)+1:=by omega
       have hcs3:Hid (cnt F nm (k+1)-1=N-1+1):=by show _=_;rw [hcs2.out];omega
       clear hN0
       obtain⟨gx,ox,cx,hxr,hov,hgx⟩:=hKc
       have c7:=hxr.cell 7 _ rfl
       have lkl:(kl nm (N-1)).length<=4398046511104:=by rw [kl_len];omega
       obtain⟨LL,HLL⟩: ∃z,Hid (z=kl nm (N-1)):=⟨_,Lib.hid rfl⟩
       rw [<-HLL.out]at hxr hov c7 lkl
       have hgy:some x≠(Value.slice (some ⟨gx,ox,none⟩) LL.length cx).ownBlock:=fun e=>hgx (Option.some.inj (show some x=some gx from e)).symm
       go_wp2_with (first|(at_builtin;refine appS1 (w0:=wc) rfl (.tmp 117) (.tmp 119) rfl LL nm rfl hov rfl lkl (Below.refl _ _) hBc ?_;intro v2 w2 ho2 hg2 hb2;have hx2:=(hxr.alloc (.cells #[Str nm] 9)).grown hg2 hgy;have f2:=hx2.frozen 7;have e2:=hx2.cell 7 _ rfl;have ho2':=ho2;obtain⟨g2,o2,c2,hv2⟩:=ho2.form_some (by simp [strs]);subst hv2)|fail)
       have hK3:KSt w.heap.size x O (.slice KA O.key.length KC) (kl nm (N-1+1)) (w2.setCell ⟨x,7,none⟩ (.slice (some ⟨g2,o2,none⟩) (strs (LL++ [nm])).length c2)):=by
        rw [<-kl_push,<-HLL.out];exact KSt.put hx2 ho2' (by simp) (fun u=>rfl)
       have hF3:Frm (· =x) w (w2.setCell ⟨x,7,none⟩ (.slice (some ⟨g2,o2,none⟩) (strs (LL++ [nm])).length c2)):=Frm.setCell (hFc.after (Frm.of_below hb2) (fun i hi ht=>absurd hi (Nat.not_lt.2 ht))) ⟨x,7,none⟩ _ (fun _=>rfl)
       go_roundw
       case rel=>exact⟨k+1,hlt,by go_num,by rw [hcs2.out];go_num,by rw [hcs3.out];exact hK3,hF3⟩
       case measure=>simp [intOf];omega
     ·have e1:(lf2==nm)=false:=by simpa using hm
      have hcs2:Hid (cnt F nm (k+1)=cnt F nm k):=by show _=_;rw [hcs.out,if_neg hm,Nat.add_zero]
      clear hm hcs
      go_wp2_with fail
      go_roundw
      case rel=>exact⟨k+1,hlt,by go_num,by rw [hcs2.out],by rw [hcs2.out];exact hKc,hFc⟩
      case measure=>simp [intOf];omega
    ·have hkF:k=F.length:=by omega
     subst hkF
     clear hlt hk0
     have hKz:=hKS
     have hFz:=hFr
     clear hKS hFr hvr
     have hn:Hid (cnt F nm F.length-1=overN F nm):=by show _=_;unfold overN;rw [if_pos Hnf.out,<-hFe.out]
     have hcl:=cnt_le F nm F.length
     have hBz:w.heap.size<=wr.heap.size:=hFz.size
     cases once
     ·go_wp2_with fail
      rw [hy9.out]
      obtain⟨gx,ox,cx,hxr,hov,hgx⟩:=hKz
      have hke:kl nm (cnt F nm F.length-1)=overKeys F nm false:=by rw [hn.out];simp [kl,overKeys]
      rw [hke]at hxr hov
      have hbz:Below w0.heap.size w0 wr:=hb0.trans (hFz.below (fun i _ e=>by rw [e];exact hx0) hb0.size)
      exact overC B x O KA (some ⟨gx,ox,none⟩) KC cx M nm false F b w0 wr (hV.above hbz) hV.glo.le hbz hxr (hk.below hbz) hov.rd hO hM hMl hM0 hw hw0 hwl
     ·have hKc:=hKz
      have hFc:=hFz
      have hBc:=hBz
      clear hKz hFz hBz
      obtain⟨gx,ox,cx,hxr,hov,hgx⟩:=hKc
      have c7:=hxr.cell 7 _ rfl
      have lkl:(kl nm (cnt F nm F.length-1)).length<=4398046511104:=by rw [kl_len];omega
      obtain⟨LL,HLL⟩: ∃z,Hid (z=kl nm (cnt F nm F.length-1)):=⟨_,Lib.hid rfl⟩
      rw [<-HLL.out]at hxr hov c7 lkl
      have hgy:some x≠(Value.slice (some ⟨gx,ox,none⟩) LL.length cx).ownBlock:=fun e=>hgx (Option.some.inj (show some x=some gx from e)).symm
      go_wp2_with (first|(at_builtin;refine appS1 (w0:=wr) rfl (.tmp 124) (.tmp 126) rfl LL nm rfl hov rfl lkl (Below.refl _ _) hBc ?_;intro v2 w2 ho2 hg2 hb2;have hx2:=(hxr.alloc (.cells #[Str nm] 9)).grown hg2 hgy;have f2:=hx2.frozen 7;have e2:=hx2.cell 7 _ rfl;have ho2':=ho2;obtain⟨g2,o2,c2,hv2⟩:=ho2.form_some (by simp [strs]);subst hv2)|fail)
      have hK3:KSt w.heap.size x O (.slice KA O.key.length KC) (kl nm (cnt F nm F.length-1+1)) (w2.setCell ⟨x,7,none⟩ (.slice (some ⟨g2,o2,none⟩) (strs (LL++ [nm])).length c2)):=by
       rw [<-kl_push,<-HLL.out];exact KSt.put hx2 ho2' (by simp) (fun u=>rfl)
      have hF3:Frm (· =x) w (w2.setCell ⟨x,7,none⟩ (.slice (some ⟨g2,o2,none⟩) (strs (LL++ [nm])).length c2)):=Frm.setCell (hFc.after (Frm.of_below hb2) (fun i hi ht=>absurd hi (Nat.not_lt.2 ht))) ⟨x,7,none⟩ _ (fun _=>rfl)
      go_wp2_with fail
      rw [hy9.out]
      obtain⟨gx,ox,cx,hxr,hov,hgx⟩:=hK3
      have hke:kl nm (cnt F nm F.length-1+1)=overKeys F nm true:=by rw [hn.out,<-kl_push];simp [kl,overKeys]
      rw [hke]at hxr hov
      have hbz:Below w0.heap.size w0 _:=hb0.trans (hF3.below (fun i _ e=>by rw [e];exact hx0) hb0.size)
      exact overC B x O KA (some ⟨gx,ox,none⟩) KC cx M nm true F b w0 _ (hV.above hbz) hV.glo.le hbz hxr (hk.below hbz) hov.rd hO hM hMl hM0 hw hw0 hwl
theorem ov_snoc {l:BS} {k:Nat} (h:letters (l.take k))(hk:k<l.length)(h1:97<=l[k])(h2:l[k]<=122):letters (l.take (k+1)):=by
 intro c hc
 rw [List.take_succ_eq_append_getElem hk]at hc
 rcases List.mem_append.1 hc with hc|hc
 ·exact h c hc
 ·rw [List.mem_singleton.1 hc];exact⟨h1,h2⟩
theorem oversigned_any (B:Nat)(o:RawO)(kv hv qv:Value)(M word:BS)(once:Bool)(w:World)(hV:Vars B w)(h:o.In w kv hv qv)(hqv: ∀n c,qv= .slice none n c->qv= .slice none 0 0):
 Calls Tryz.prog 6 #[o.val kv hv qv,Str M,Str word, .bool once] w (TrueP w):=by
 obtain⟨kA,kc,rfl,_⟩:=h.key
 obtain⟨hA,hc,rfl,_⟩:=h.keys
 obtain⟨qA,qc,rfl,_⟩:=h.query
 have HIn:=Lib.hid h
 have Hqv:=Lib.hid hqv
 have HV:=Lib.hid hV
 unfold RawO.val
 rw [byL,stL,stL]
 have hb1:=(Below.refl w.heap.size w).alloc (Nat.le_refl _) (.cells #[Str o.dom,Str o.sel,Str o.ident,Str o.kind, .slice kA o.key.length kc,Str o.hdr,Str o.bdy, .slice hA o.keys.length hc, .bool o.all, .int .i64 o.exp, .int .i64 o.now, .slice qA o.query.length qc] 25)
 have hx1:=RawO.blk w o (.slice kA o.key.length kc) (.slice hA o.keys.length hc) (.slice qA o.query.length qc)
 clear h hqv hV
 go_enter Tryz.func6,Tryz.ntmps6
 go_upto_region 1 with fail
 obtain⟨x,Hx⟩: ∃z,Hid (z=w.heap.size):=⟨_,Lib.hid rfl⟩
 rw [<-Hx.out]at hx1⊢
 generalize w.alloc (.cells #[Str o.dom,Str o.sel,Str o.ident,Str o.kind, .slice kA o.key.length kc,Str o.hdr,Str o.bdy, .slice hA o.keys.length hc, .bool o.all, .int .i64 o.exp, .int .i64 o.now, .slice qA o.query.length qc] 25)=w1 at*
 have hxw:w.heap.size<=x:=by rw [Hx.out];exact Nat.le_refl _
 have q0:=hx1.cell 0 _ rfl
 have q1:=hx1.cell 1 _ rfl
 have q2:=hx1.cell 2 _ rfl
 have q3:=hx1.cell 3 _ rfl
 have q4:=hx1.cell 4 _ rfl
 have q5:=hx1.cell 5 _ rfl
 have q6:=hx1.cell 6 _ rfl
 have q7:=hx1.cell 7 _ rfl
 have q8:=hx1.cell 8 _ rfl
 have q9:=hx1.cell 9 _ rfl
 have q10:=hx1.cell 10 _ rfl
 have q11:=hx1.cell 11 _ rfl
 have h7:=zzFits10_any o _ _ _ w1 (HIn.out.below hb1)
 unfold RawO.val at h7
 rw [byL,stL,stL]at h7
 go_wp2_with fail
 refine h7.mono ?_
 obtain⟨r7,H7⟩: ∃z,Hid (z=o.fits):=⟨_,Lib.hid rfl⟩
 rw [<-H7.out]
 rintro e w2 ⟨rfl,hb2⟩
 have hbw2:=hb1.trans (hb2.mono hb1.size)
 have hx2:=hx1.below hb2 hx1.lt
 clear h7 q0 q1 q2 q3 q4 q5 q6 q7 q8 q9 q10 q11
 cases r7
 ·go_wp2_with fail
  go_ret
  exact⟨rfl,hbw2⟩
 by_cases l1:2147483647<(M.length:Int)
 ·go_wp2_with fail
  go_ret
  exact⟨rfl,hbw2⟩
 by_cases l2:2147483647<(word.length:Int)
 ·go_wp2_with fail
  go_ret
  exact⟨rfl,hbw2⟩
 have l2':word.length<=2147483647:=by omega
 have l1':M.length<=2147483647:=by omega
 have q0:=hx2.cell 0 _ rfl
 have q1:=hx2.cell 1 _ rfl
 have q2:=hx2.cell 2 _ rfl
 have q3:=hx2.cell 3 _ rfl
 have q4:=hx2.cell 4 _ rfl
 have q5:=hx2.cell 5 _ rfl
 have q6:=hx2.cell 6 _ rfl
 have q7:=hx2.cell 7 _ rfl
 have q8:=hx2.cell 8 _ rfl
 have q9:=hx2.cell 9 _ rfl
 have q10:=hx2.cell 10 _ rfl
 have q11:=hx2.cell 11 _ rfl
 have h18:=dTold_any o _ _ _ M w2 (HIn.out.below hbw2) H7.out.symm l1'
 unfold RawO.val at h18
 rw [byL,stL,stL]at h18
 go_wp2_with fail
 refine h18.mono ?_
 rintro e w3 ⟨⟨r8,rfl,H8⟩,hb3⟩
 have H8:=Lib.hid H8
 have hbw3:=hbw2.trans (hb3.mono hbw2.size)
 have hx3:=hx2.below hb3 hx2.lt
 clear h18 q0 q1 q2 q3 q4 q5 q6 q7 q8 q9 q10 q11 H7
 cases r8
 ·go_wp2_with fail
  refine(dAwake_any w3).mono ?_
  rintro e wz ⟨rfl,hbz⟩
  go_wp2_with fail
  go_ret
  exact⟨rfl,hbw3.trans (hbz.mono hbw3.size)⟩
 by_cases p1:word= []
 ·have p2:word.isEmpty=true:=by rw [p1];rfl
  clear p1
  go_wp2_with fail
  refine(dAwake_any w3).mono ?_
  rintro e wz ⟨rfl,hbz⟩
  go_wp2_with fail
  go_ret
  exact⟨rfl,hbw3.trans (hbz.mono hbw3.size)⟩
 have P1:=Lib.hid p1
 have p2:word.isEmpty=false:=by rw [List.isEmpty_eq_false_iff];exact p1
 clear p1
 by_cases l3:50<(word.length:Int)
 ·go_wp2_with fail
  refine(dAwake_any w3).mono ?_
  rintro e wz ⟨rfl,hbz⟩
  go_wp2_with fail
  go_ret
  exact⟨rfl,hbw3.trans (hbz.mono hbw3.size)⟩
 have hwl:word.length<=50:=by omega
 clear l2 l2'
 go_wp2_with fail
 clear p2 l3
 go_loopw [9] (fun v9 wx=> ∃k:Nat,k<=word.length∧v9= .int .i64 k∧Hid (letters (word.take k))∧wx=w3) (fun v9 _=>word.length-(intOf v9).toNat)
 case atStart=>exact⟨0,Nat.zero_le _,rfl,by intro c hc;simp at hc,rfl⟩
 case round=>
  obtain⟨k,hk,rfl,hlk,rfl⟩:=hrel
  by_cases hlt:k<word.length
  ·have h0:(0:Int)<=(k:Int):=by omega
   have h1:(k:Int)<(word.length:Int):=by omega
   by_cases p1:97<=(word[k].toNat:Int)
   ·by_cases p2:122<(word[k].toNat:Int)
    ·go_wp2_with fail
     refine(dAwake_any wr).mono ?_
     rintro e wz ⟨rfl,hbz⟩
     go_wp2_with fail
     go_ret
     exact⟨rfl,hbw3.trans (hbz.mono hbw3.size)⟩
    ·have hl2:Hid (letters (word.take (k+1))):=ov_snoc hlk.out hlt (by rw [UInt8.le_iff_toNat_le];show 97<=_;omega) (by rw [UInt8.le_iff_toNat_le];show _<=122;omega)
     clear hlk
     go_wp2_with fail
     go_roundw
     case rel=>exact⟨k+1,hlt,by go_num,hl2,trivial⟩
     case measure=>simp [intOf];omega
   ·go_wp2_with fail
    refine(dAwake_any wr).mono ?_
    rintro e wz ⟨rfl,hbz⟩
    go_wp2_with fail
    go_ret
    exact⟨rfl,hbw3.trans (hbz.mono hbw3.size)⟩
  ·have hall:Hid (letters word):=by
    have:=hlk.out
    rw [List.take_of_length_le (by omega)]at this
    exact this
   clear hlk
   have hT:=H8.out (by first|rfl|trivial)
   obtain⟨⟨hf,n,c,hqn⟩,⟨hMp,hMl⟩,F,b,hNP⟩:=hT
   obtain⟨hMs,h58⟩:=hNP.msg hMp
   have hM0:M≠ []:=by
    rintro rfl
    have:=hNP.heads
    simp [heads,headGo,cutAt]at this
   have hqq:=Hqv.out n c (by rw [stL];exact hqn)
   rw [stL]at hqq
   clear hqn hNP hMp l1 l1'
   have hO:=hf.ok
   have hxo:Blk wr x 25 (oCells (toOpt o) (.slice kA (toOpt o).key.length kc) (.slice hA (toOpt o).keys.length hc)):=by
    have:=hx3
    rw [opt_val hf,hqq]at this
    exact this
   have hk0:Rd w (.slice kA (toOpt o).key.length kc) (byts (toOpt o).key):=by have:=HIn.out.key;rw [byL]at this;exact this
   obtain⟨O,HO⟩: ∃z,Hid (z=toOpt o):=⟨_,Lib.hid rfl⟩
   rw [<-HO.out]at hxo hk0 hO
   have hOk:=Lib.hid hO
   have hMk:=Lib.hid hMs
   have hM0':=Lib.hid hM0
   clear hx1 hx2 hx3 HIn Hqv H8 hqq hO hf HO h58 hb1 hb2 hb3 hbw2 hM0
   go_wp2_with fail
   refine(dHead_any M wr (by omega)).mono ?_
   rintro e w6 ⟨hp,hb6⟩
   rw [hMs.heads]at hp
   obtain⟨vf,rfl,hvf⟩:=hp
   have hvr:=hvf.rd
   obtain⟨vA,vc,rfl,_,_⟩:=id hvr
   rw [stL]at hvr hvf⊢
   have hbw6:=hbw3.trans (hb6.mono hbw3.size)
   have hx6:=hxo.below hb6 hxo.lt
   have hFx:(Value.slice vA F.length vc).ownBlock≠some x:=fun e=>by have:=(hvf.lt x e).1;have:=hxo.lt;omega
   have hfl:=heads_len hMk.out.heads
   have hfc:=count_flatten (F:=F) (fun f hf=>(heads_ne hMk.out.heads) f hf)
   have hFl:Hid (∀f∈F,f.length<=1000000):=fun f hf=>by have:=mem_flatten_len hf;omega
   have hFn:F.length<=10000:=by omega
   clear hvf hMs hxo hfl hfc
   go_upto_region 11 with fail
   by_cases hnf:word=fromS
   ·exact overB2 B x O kA hA vA kc hc vc M word once F b w w6 HV.out hbw6 hx6 hxw hk0 hvr hOk hMk hMl hM0' hall P1 hwl hFx hFl hFn hnf _ (by assumption)
   ·exact overB1 B x O kA hA vA kc hc vc M word once F b w w6 HV.out hbw6 hx6 hxw hk0 hvr hOk hMk hMl hM0' hall P1 hwl hFx hFl hFn hnf _ (by assumption)
end Go.Proofs.YtgilnagajcfkpaaGreatDoor
