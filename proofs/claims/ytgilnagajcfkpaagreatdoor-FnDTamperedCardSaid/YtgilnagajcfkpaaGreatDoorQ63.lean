import Derived.Test.YtgilnagajcfkpaaGreatDoorQ62
set_option maxHeartbeats 4000000
set_option maxRecDepth 1000000
set_option linter.all false
namespace Go.Proofs.YtgilnagajcfkpaaGreatDoor
open Go.RowKit
theorem other_flat {F:List BS} {word:BS} :(otherFrom F word).flatten.length≤F.flatten.length+word.length+2:=by
 unfold otherFrom
 by_cases hl:lastFrom F<F.length
 ·rw [List.set_eq_take_append_cons_drop,if_pos hl]
  have e:F.flatten.length=(F.take (lastFrom F)).flatten.length+(F[lastFrom F].length+(F.drop (lastFrom F+1)).flatten.length):=by
   conv=>lhs;rw [←List.take_append_drop (lastFrom F) F,List.drop_eq_getElem_cons hl]
   rw [List.flatten_append,List.flatten_cons,List.length_append,List.length_append]
  rw [e,List.flatten_append,List.flatten_cons,List.length_append,List.length_append,List.getD_eq_getElem?_getD,List.getElem?_eq_getElem hl]
  unfold moreOf
  simp only [Option.getD_some,List.length_append,List.length_take,crlf,List.length_cons,List.length_nil]
  omega
 ·rw [List.set_eq_of_length_le (by omega)];omega
theorem other_pl {F:List BS} {word:BS} (hF: ∀f∈F,plain f=true)(hw:plain word=true):plain (otherFrom F word).flatten=true:=by
 refine plain_flat (fun f hf=> ?_) rfl
 unfold otherFrom at hf
 rcases List.mem_or_eq_of_mem_set hf with hf|rfl
 ·exact hF f hf
 ·unfold moreOf
  simp only [plain_app]
  refine⟨⟨?_,hw⟩,by decide⟩
  rw [List.getD_eq_getElem?_getD]
  cases h:F[lastFrom F]? with
  |none=>simp [plain]
  |some f=>exact plain_all.2 fun c hc=>plain_all.1 (hF f (List.mem_of_getElem? h)) c (List.mem_of_mem_take hc)
theorem Sgd.bare {o:Opt} {m:BS} {F:List BS} {b:BS} (h:Sgd o m F b)(B:Nat)(X:BS)(P F':List BS)(b':BS)(H:SgOk o F b X P F' b')(z:World)(hV:Vars B z):
 Calls Tryz.prog 15 #[Str X, .slice none 0 0, .int .i64 (o.now:Int), .int .i64 2] z fun e w'=>e= .returned (.bool true)∧Below z.heap.size z w':=by
 refine(dFine_any B _ o.now 2 (.slice none 0 0) none o F b X P F' b' z hV H rfl (fun k' e=>by cases e) ⟨_,_,_,rfl⟩ h.now_le (Lib.hid rfl)).mono ?_
 rintro e w' ⟨rfl,hb⟩
 exact⟨by rw [vcode_none];rfl,hb⟩
noncomputable def body3:Code:=Tryz.f3.body.getD .skip
theorem tamB3 (B x r q:Nat)(O:Opt)(KA HA:Option Addr)(KC HC:Nat)(M word S:BS)(F:List BS)(b:BS)(w0 w:World)(hV:Vars B w)(hB0:B≤w0.heap.size)(hb0:Below w0.heap.size w0 w)(hx:Blk w x 25 (oCells O (.slice KA O.key.length KC) (.slice HA O.keys.length HC)))(hx0:w0.heap.size≤x)
 (hk:Rd w (.slice KA O.key.length KC) (byts O.key))(hh:Rd w (.slice HA O.keys.length HC) (strs O.keys))(Hg:Hid (Sgd O M F b))(h58:Hid (∀f∈F,58∈f))(hw:Hid (letters word))(hwl:word.length≤50)(hMl:M.length≤5000)
 (hr:Blk w r 39 [Str (O.sel++dkS++O.dom), .slice (some ⟨q,0,none⟩) 1 1, .bool false, .bool false])(hq:Blk w q 9 [Str (recordOf O)])(hrq:r≠q)(hrw:w0.heap.size≤r)(hqw:w0.heap.size≤q)(HS:Hid (S=signed O F b++M))(lS:S.length≤7005044)(lSM:M.length<S.length)
 {AA AB AC AD AE AF AG AH AI AJ AK AL AM AN AO AP AQ AR AS AT AU AV AW AX AY AZ Aa Ab Ac Ad Ae Af Ag Ah Ai Aj Ak Al Am An Ao Ap Aq Ar As At Au Av Aw Ax Ay Az A0 A1 A2 A3 A4 A5 A6 A7 A8 A9 BA BB BC BD BE BF BG BH BI BJ BK BL BM BN BO BP BQ BR BT BU BV BW BX BY BZ Ba Bb Bc Bd Be Bf Bg Bh Bi Bj Bk Bl Bm Bn Bo Bp Bq Br Bs Bt Bu Bv Bw Bx By Bz B0 B1 B2 B3 B4 B5 B6 B7 B8 B9 CA CB CC CD CE CF CG CH CI CJ CK CL CM CN CO CP CQ CR CS CT CU CV CW CX CY CZ Ca Cb Cc Cd Ce Cf Cg Ch Ci Cj Ck Cl Cm Cn Co Cp Cq Cr Cs Ct Cu:Value}
 (K:Act→World→Prop)(hK: ∀a w,Code.wp Tryz.prog (tl 10 body3) (bodyPost Tryz.prog Tryz.f3 (TrueP w0)) a w→K a w):
 Code.wp Tryz.prog (hdC (tl 9 body3)) (Exit.then K (bodyPost Tryz.prog Tryz.f3 (TrueP w0))) ⟨(AA::Str M::Str word:: .pointer (some ⟨x,0,none⟩)::AB::AC::AD::AE::Str S:: .slice (some ⟨r,0,none⟩) 1 1::AF::AG::AH::AI::AJ::AK::AL::AM::AN::AO::AP::AQ::AR::AS::AT::AU::AV::AW::AX::AY::AZ::Aa::Ab::Ac::Ad::Ae::Af::Ag::Ah::Ai::Aj::Ak::Al::Am::An::Ao::Ap::Aq::Ar::As::At::Au::Av::Aw::Ax::Ay::Az::A0::A1::A2::A3::A4::A5::A6::A7::A8::A9::BA::BB::BC::BD::BE::BF::BG::BH::BI::BJ::BK::BL::BM::BN::BO::BP::BQ::BR::BT::BU::BV::BW::BX::BY::BZ::Ba::Bb::Bc::Bd::Be::Bf::Bg::Bh::Bi::Bj::Bk::Bl::Bm::Bn::Bo::Bp::Bq::Br::Bs::Bt::Bu::Bv::Bw::Bx::By::Bz::B0::B1::B2::B3::B4::B5::B6::B7::B8::B9::CA::CB::CC::CD::CE::CF::CG::CH::CI::CJ::CK::CL::CM::CN::CO::CP::CQ::CR::CS::CT::CU::CV::CW::CX::CY::CZ::Ca::Cb::Cc::Cd::Ce::Cf::Cg::Ch::Ci::Cj::Ck::Cl::Cm::Cn::Co::Cp::Cq::Cr::Cs::Ct::Cu:: []).toArray,[]⟩ w:=by
 conv=>arg 2;whnf
 obtain⟨y,hy⟩: ∃y,Hid (y=tl 10 body3):=⟨_,rfl⟩
 rw [←hy.out]at hK
 have c0:=hx.cell 0 _ rfl
 have c1:=hx.cell 1 _ rfl
 have c2:=hx.cell 2 _ rfl
 have c3:=hx.cell 3 _ rfl
 have c4:=hx.cell 4 _ rfl
 have c5:=hx.cell 5 _ rfl
 have c6:=hx.cell 6 _ rfl
 have c7:=hx.cell 7 _ rfl
 have c8:=hx.cell 8 _ rfl
 have c9:=hx.cell 9 _ rfl
 have c10:=hx.cell 10 _ rfl
 have c11:=hx.cell 11 _ rfl
 have hKl:32≤O.key.length∧O.key.length≤1000:=by
  have h1:=Hg.out.opt.key
  rcases Hg.out.opt.kind with h|h<;>omega
 have hba:=(Below.refl w.heap.size w).alloc (Nat.le_refl _) (.cells #[Str O.dom,Str O.sel,Str O.ident,Str O.kind, .slice KA O.key.length KC,Str O.hdr,Str O.bdy, .slice HA O.keys.length HC, .bool O.all, .int .i64 (O.exp:Int), .int .i64 (O.now:Int), .slice none 0 0] 25)
 have hy1:=Blk.new w 25 #[Str O.dom,Str O.sel,Str O.ident,Str O.kind, .slice KA O.key.length KC,Str O.hdr,Str O.bdy, .slice HA O.keys.length HC, .bool O.all, .int .i64 (O.exp:Int), .int .i64 (O.now:Int), .slice none 0 0]
 simp only [Array.toList]at hy1
 obtain⟨yb,Hyb⟩: ∃z,Hid (z=w.heap.size):=⟨_,Lib.hid rfl⟩
 have hyw:w.heap.size≤yb:=by rw [Hyb.out];exact Nat.le_refl _
 go_wp2_with fail
 rw [hy.out]
 clear hy
 conv=>arg 2;whnf
 rw [←Hyb.out]at hy1⊢
 have hx1:=hx.below hba hx.lt
 have hk1:=hk.below hba
 generalize w.alloc (.cells #[Str O.dom,Str O.sel,Str O.ident,Str O.kind, .slice KA O.key.length KC,Str O.hdr,Str O.bdy, .slice HA O.keys.length HC, .bool O.all, .int .i64 (O.exp:Int), .int .i64 (O.now:Int), .slice none 0 0] 25)=w1 at*
 clear c0 c1 c2 c3 c4 c5 c6 c7 c8 c9 c10 c11
 have hbb:=(Below.refl w1.heap.size w1).alloc (Nat.le_refl _) (.cells #[] 5)
 have hra:=OwnAt.lit w1 w1.heap.size 5 [] (Nat.le_refl _) (by simp [maxLen])
 have hx2:=hx1.below hbb hx1.lt
 have hy2:=hy1.below hbb hy1.lt
 have hk2:=hk1.below hbb
 have c4:=hx2.cell 4 _ rfl
 have hs2:w1.heap.size≤(w1.alloc (.cells #[] 5)).heap.size:=hbb.size
 have hkn:byts ([]++O.key)≠ []:=by
  intro e
  have:(byts ([]++O.key)).length=0:=by rw [e];rfl
  rw [byL,List.nil_append]at this
  omega
 go_upto_region 21 with(first|(at_builtin;refine appB rfl (.tmp 146) (.tmp 148) 22 (.inl rfl) rfl [] O.key rfl hra rfl (Src.rd hk2 (by intro u hu;obtain⟨z,_,rfl⟩:=List.mem_map.1 hu;rfl)) (by simp;omega) hs2 ?_;intro v3 w3 ho3 hg3 hb3 _;obtain⟨g3,o3,k3,hv3⟩:=ho3.form_some hkn;subst hv3;have hy3:=hy2.below hb3 hy1.lt;have f4:=hy3.frozen 4;have e4:=hy3.cell 4 _ rfl)|fail)
 obtain⟨k0,kr,HK⟩: ∃k0 kr,Hid (O.key=k0::kr):=by
  cases e:O.key with
  |nil=>rw [e]at hKl;simp at hKl
  |cons a r=>exact⟨a,r,rfl⟩
 have ho3:OwnAt w3 w1.heap.size 5 (.slice (some ⟨g3,o3,none⟩) (byts O.key).length k3) (byts O.key):=ho3
 rw [byL]at ho3
 have hl3:=ho3.lt g3 rfl
 have hb13:=hbb.trans hb3
 have hyl:=hy1.lt
 have hyg:yb≠g3:=by omega
 have hw3:=hba.trans (hb13.mono hba.size)
 have hw4:=hw3.setCell (p:=⟨yb,4,none⟩) hyw (.slice (some ⟨g3,o3,none⟩) O.key.length k3)
 have hF4:Frm (· =yb) w3 (w3.setCell ⟨yb,4,none⟩ (.slice (some ⟨g3,o3,none⟩) O.key.length k3)):=(Frm.refl _ w3).setCell ⟨yb,4,none⟩ _ (fun _=>rfl)
 have hy4:Blk (w3.setCell ⟨yb,4,none⟩ (.slice (some ⟨g3,o3,none⟩) O.key.length k3)) yb 25 [Str O.dom,Str O.sel,Str O.ident,Str O.kind, .slice (some ⟨g3,o3,none⟩) O.key.length k3,Str O.hdr,Str O.bdy, .slice HA O.keys.length HC, .bool O.all, .int .i64 (O.exp:Int), .int .i64 (O.now:Int), .slice none 0 0]:=hy3.set 4 (.slice (some ⟨g3,o3,none⟩) O.key.length k3)
 have ho4:=ho3.frm hF4 (fun k hk e=>by cases hk;exact hyg e.symm)
 rw [byL]
 clear hF4 hx1 hk1 hbb hra hx2 hy2 hk2 c4 hs2 hkn hg3 hb3 hy3 e4 f4 hb13 ho3
 generalize w3.setCell ⟨yb,4,none⟩ (.slice (some ⟨g3,o3,none⟩) O.key.length k3)=w4 at*
 have a4:w4.cell? ⟨yb,4,none⟩=some (.slice (some ⟨g3,o3,none⟩) O.key.length k3):=hy4.cell 4 _ rfl
 have hkb:(byts O.key)[0]?=some (.int .u8 (k0.toNat:Int)):=by rw [HK.out];rfl
 obtain⟨b0,z0⟩:=ho4.cell_at 0 _ hkb
 have ho5:=ho4.set_at 0 (.int .u8 ((k0+1).toNat:Int)) (by rw [byL];omega)
 rw [Nat.add_zero]at b0 z0 ho5
 have i0:(0:Int)<(O.key.length:Int):=by omega
 have hwr:Hid (((k0.toNat:Int)+1)%256=((k0+1).toNat:Int)):=by show _=_;rw [UInt8.toNat_add];simp
 have hs5:(byts O.key).set 0 (.int .u8 ((k0+1).toNat:Int))=byts ((k0+1)::kr):=by rw [HK.out];rfl
 rw [hs5]at ho5
 have hg3w:w.heap.size≤g3:=Nat.le_trans hba.size hl3.1
 have hw5:=hw4.setCell (p:=⟨g3,o3,none⟩) hg3w (.int .u8 ((k0+1).toNat:Int))
 have hy5:=hy4.far (p:=⟨g3,o3,none⟩) hyg (.int .u8 ((k0+1).toNat:Int))
 clear hkb hs5
 go_upto_region 22 with fail
 rw [hwr.out]
 clear a4 b0 z0 hwr hy4 ho4 hw4
 generalize w4.setCell ⟨g3,o3,none⟩ (.int .u8 ((k0+1).toNat:Int))=w5 at*
 have hr5:=hr.below hw5 hr.lt
 have hq5:=hq.below hw5 hq.lt
 have hx5:=hx.below hw5 hx.lt
 have hkeyl:((k0+1)::kr).length=O.key.length:=by rw [HK.out];rfl
 have h17:Calls Tryz.prog 17 #[.agg #[Str O.dom,Str O.sel,Str O.ident,Str O.kind, .slice (some ⟨g3,o3,none⟩) O.key.length k3,Str O.hdr,Str O.bdy, .slice HA O.keys.length HC, .bool O.all, .int .i64 (O.exp:Int), .int .i64 (O.now:Int), .slice none 0 0]] w5.drew fun e w'=>e= .returned (Str (recK O.kind ((k0+1)::kr)))∧Below w5.heap.size w5 w':=by
  have hk5:Rd w5.drew (.slice (some ⟨g3,o3,none⟩) O.key.length k3) (byts ((k0+1)::kr)):=ho5.rd
  have h:=dPublic_any { O with key:=(k0+1)::kr } (.slice (some ⟨g3,o3,none⟩) O.key.length k3) (.slice HA O.keys.length HC) (.slice none 0 0) w5.drew hk5 (by show((k0+1)::kr).length≤_;omega) (by show O.kind.length≤_;rcases Hg.out.opt.kinds with h|h<;>rw [h]<;>decide) ⟨_,_,_,rfl⟩ ⟨_,_,_,rfl⟩
  unfold optV at h
  refine h.mono ?_
  rintro e w' ⟨rfl,h1⟩
  exact⟨rfl,⟨h1.os,h1.tape,h1.output,h1.size,h1.block⟩⟩
 have Hkl:=Lib.hid hkeyl
 have hcl: ∀ww,Blk ww yb 25 [Str O.dom,Str O.sel,Str O.ident,Str O.kind, .slice (some ⟨g3,o3,none⟩) O.key.length k3,Str O.hdr,Str O.bdy, .slice HA O.keys.length HC, .bool O.all, .int .i64 (O.exp:Int), .int .i64 (O.now:Int), .slice none 0 0]→Blk ww r 39 [Str (O.sel++dkS++O.dom), .slice (some ⟨q,0,none⟩) 1 1, .bool false, .bool false]→(ww.cell? ⟨r,1,none⟩=some (.slice (some ⟨q,0,none⟩) 1 1)∧ww.cell? ⟨yb,0,none⟩=some (Str O.dom)∧ww.cell? ⟨yb,1,none⟩=some (Str O.sel)∧ww.cell? ⟨yb,2,none⟩=some (Str O.ident)∧ww.cell? ⟨yb,3,none⟩=some (Str O.kind)∧ww.cell? ⟨yb,4,none⟩=some (.slice (some ⟨g3,o3,none⟩) O.key.length k3)∧ww.cell? ⟨yb,5,none⟩=some (Str O.hdr)∧ww.cell? ⟨yb,6,none⟩=some (Str O.bdy)∧ww.cell? ⟨yb,7,none⟩=some (.slice HA O.keys.length HC)∧ww.cell? ⟨yb,8,none⟩=some (.bool O.all)∧ww.cell? ⟨yb,9,none⟩=some (.int .i64 (O.exp:Int))∧ww.cell? ⟨yb,10,none⟩=some (.int .i64 (O.now:Int))∧ww.cell? ⟨yb,11,none⟩=some (.slice none 0 0)):=fun ww h h'=>⟨h'.cell 1 _ rfl,h.cell 0 _ rfl,h.cell 1 _ rfl,h.cell 2 _ rfl,h.cell 3 _ rfl,h.cell 4 _ rfl,h.cell 5 _ rfl,h.cell 6 _ rfl,h.cell 7 _ rfl,h.cell 8 _ rfl,h.cell 9 _ rfl,h.cell 10 _ rfl,h.cell 11 _ rfl⟩
 have hcl:=Lib.hid hcl
 have HXS:SgOk O F b S [] F (b++ []):=by
  have h:=sg_ahead Hg.out.opt Hg.out.msg Hg.out.frm hMl [] (by simp) rfl (by simp) [] rfl (by simp)
  rw [HS.out]
  simpa using h
 have hkok:KeyOk O.kind ((k0+1)::kr)∧((k0+1)::kr).length≤1000000:=by
  rw [Hkl.out]
  refine⟨⟨?_,?_⟩,by omega⟩
  ·rw [Hkl.out];exact Hg.out.keyOk.1.1
  ·rw [Hkl.out];omega
 have HXS:=Lib.hid HXS
 have hkok:=Lib.hid hkok
 clear hkeyl ho5 hy1
 have hyq:yb≠q:=by have:=hq.lt;omega
 obtain⟨t0,t1,t2,t3,t4,t5,t6,t7,t8,t9,t10,t11,t12⟩:=hcl.out w5.drew hy5 hr5
 go_region_held3 (fun ww=>ww.cell? ⟨r,1,none⟩=some (.slice (some ⟨q,0,none⟩) 1 1)∧ww.cell? ⟨yb,0,none⟩=some (Str O.dom)∧ww.cell? ⟨yb,1,none⟩=some (Str O.sel)∧ww.cell? ⟨yb,2,none⟩=some (Str O.ident)∧ww.cell? ⟨yb,3,none⟩=some (Str O.kind)∧ww.cell? ⟨yb,4,none⟩=some (.slice (some ⟨g3,o3,none⟩) O.key.length k3)∧ww.cell? ⟨yb,5,none⟩=some (Str O.hdr)∧ww.cell? ⟨yb,6,none⟩=some (Str O.bdy)∧ww.cell? ⟨yb,7,none⟩=some (.slice HA O.keys.length HC)∧ww.cell? ⟨yb,8,none⟩=some (.bool O.all)∧ww.cell? ⟨yb,9,none⟩=some (.int .i64 (O.exp:Int))∧ww.cell? ⟨yb,10,none⟩=some (.int .i64 (O.now:Int))∧ww.cell? ⟨yb,11,none⟩=some (.slice none 0 0))
  (first|exact hcl.out _ hy6 hr6|exact hcl.out _ (hy6.far (p:=⟨q,0,none⟩) hyq _) (hr6.far (p:=⟨q,0,none⟩) hrq _)|go_keep)
  (first|(go_at_call 17;refine h17.mono ?_;rintro e w6 ⟨he,hb6⟩;subst he;have hy6:=hy5.below hb6 hy5.lt;have hr6:=hr5.below hb6 hr5.lt;have hq6:=hq5.below hb6 hq5.lt;have f6:=hq6.frozen 0;have g6:=hq6.cell 0 _ rfl)|fail)
 all_goals(first|(exfalso;omega)|skip)
 all_goals clear g6 f6 t0 t1 t2 t3 t4 t5 t6 t7 t8 t9 t10 t11 t12 hcl
 all_goals have hw6:=hw5.trans (hb6.mono hw5.size)
 all_goals have hx6:=hx5.below hb6 hx5.lt
 all_goals have hqx:x≠q:=hx6.ne hq6 (by decide)
 all_goals have hx7:=hx6.far (p:=⟨q,0,none⟩) hqx (Str (recK O.kind ((k0+1)::kr)))
 all_goals have hr7:=hr6.far (p:=⟨q,0,none⟩) hrq (Str (recK O.kind ((k0+1)::kr)))
 all_goals have hq7:=hq6.set 0 (Str (recK O.kind ((k0+1)::kr)))
 all_goals have hV7:Vars B (w6.setCell ⟨q,0,none⟩ (Str (recK O.kind ((k0+1)::kr)))):=hV.below ((hw6.mono hV.glo.le).setCell (p:=⟨q,0,none⟩) (Nat.le_trans hB0 hqw) _)
 all_goals have hb7:=(hb0.trans (hw6.mono hb0.size)).setCell (p:=⟨q,0,none⟩) hqw (Str (recK O.kind ((k0+1)::kr)))
 all_goals clear hy6 hr6 hq6 hy5 hr5 hq5 hx5 hx6 hw5 hw6 hb6
 all_goals generalize w6.setCell ⟨q,0,none⟩ (Str (recK O.kind ((k0+1)::kr)))=w7 at*
 all_goals have c10:=hx7.cell 10 _ rfl
 all_goals go_wp2_with fail
 all_goals refine(Hg.out.fails B ((k0+1)::kr) S [] F (b++ []) HXS.out hkok.out w7 _ hV7 (OneRec.of hr7 hq7 hrq)).mono ?_
 all_goals rintro e w8 ⟨rfl,hb8⟩
 all_goals have hx8:=hx7.below hb8 hx7.lt
 all_goals have hV8:=hV7.above hb8
 all_goals have hb08:=hb7.trans (hb8.mono hb7.size)
 all_goals clear c10
 all_goals have c10:=hx8.cell 10 _ rfl
 all_goals go_wp2_with fail
 all_goals refine(Hg.out.bare B S [] F (b++ []) HXS.out w8 hV8).mono ?_
 all_goals rintro e w9 ⟨rfl,hb9⟩
 all_goals go_wp2_with fail
 all_goals go_ret
 all_goals exact⟨rfl,hb08.trans (hb9.mono hb08.size)⟩
theorem tamB2 (B x r q:Nat)(O:Opt)(KA HA:Option Addr)(KC HC:Nat)(M word S:BS)(F:List BS)(b:BS)(w0 w:World)(hV:Vars B w)(hB0:B≤w0.heap.size)(hb0:Below w0.heap.size w0 w)(hx:Blk w x 25 (oCells O (.slice KA O.key.length KC) (.slice HA O.keys.length HC)))(hx0:w0.heap.size≤x)
 (hk:Rd w (.slice KA O.key.length KC) (byts O.key))(hh:Rd w (.slice HA O.keys.length HC) (strs O.keys))(Hg:Hid (Sgd O M F b))(h58:Hid (∀f∈F,58∈f))(hw:Hid (letters word))(hwl:word.length≤50)(hMl:M.length≤5000)
 (hr:Blk w r 39 [Str (O.sel++dkS++O.dom), .slice (some ⟨q,0,none⟩) 1 1, .bool false, .bool false])(hq:Blk w q 9 [Str (recordOf O)])(hrq:r≠q)(hrw:w0.heap.size≤r)(hqw:w0.heap.size≤q)(HS:Hid (S=signed O F b++M))(lS:S.length≤7005044)(lSM:M.length<S.length)
 {AA AB AC AD AE AF AG AH AI AJ AK AL AM AN AO AP AQ AR AS AT AU AV AW AX AY AZ Aa Ab Ac Ad Ae Af Ag Ah Ai Aj Ak Al Am An Ao Ap Aq Ar As At Au Av Aw Ax Ay Az A0 A1 A2 A3 A4 A5 A6 A7 A8 A9 BA BB BC BD BE BF BG BH BI BJ BK BL BM BN BO BP BQ BR BT BU BV BW BX BY BZ Ba Bb Bc Bd Be Bf Bg Bh Bi Bj Bk Bl Bm Bn Bo Bp Bq Br Bs Bt Bu Bv Bw Bx By Bz B0 B1 B2 B3 B4 B5 B6 B7 B8 B9 CA CB CC CD CE CF CG CH CI CJ CK CL CM CN CO CP CQ CR CS CT CU CV CW CX CY CZ Ca Cb Cc Cd Ce Cf Cg Ch Ci Cj Ck Cl Cm Cn Co Cp Cq Cr Cs Ct Cu:Value} :
 Code.wp Tryz.prog (tl 7 body3) (bodyPost Tryz.prog Tryz.f3 (TrueP w0)) ⟨(AA::Str M::Str word:: .pointer (some ⟨x,0,none⟩)::AB::AC::AD::AE::Str S:: .slice (some ⟨r,0,none⟩) 1 1::AF::AG::AH::AI::AJ::AK::AL::AM::AN::AO::AP::AQ::AR::AS::AT::AU::AV::AW::AX::AY::AZ::Aa::Ab::Ac::Ad::Ae::Af::Ag::Ah::Ai::Aj::Ak::Al::Am::An::Ao::Ap::Aq::Ar::As::At::Au::Av::Aw::Ax::Ay::Az::A0::A1::A2::A3::A4::A5::A6::A7::A8::A9::BA::BB::BC::BD::BE::BF::BG::BH::BI::BJ::BK::BL::BM::BN::BO::BP::BQ::BR::BT::BU::BV::BW::BX::BY::BZ::Ba::Bb::Bc::Bd::Be::Bf::Bg::Bh::Bi::Bj::Bk::Bl::Bm::Bn::Bo::Bp::Bq::Br::Bs::Bt::Bu::Bv::Bw::Bx::By::Bz::B0::B1::B2::B3::B4::B5::B6::B7::B8::B9::CA::CB::CC::CD::CE::CF::CG::CH::CI::CJ::CK::CL::CM::CN::CO::CP::CQ::CR::CS::CT::CU::CV::CW::CX::CY::CZ::Ca::Cb::Cc::Cd::Ce::Cf::Cg::Ch::Ci::Cj::Ck::Cl::Cm::Cn::Co::Cp::Cq::Cr::Cs::Ct::Cu:: []).toArray,[]⟩ w:=by
 conv=>arg 2;whnf
 have hq0:=bdw (Below.refl w.heap.size w)
 have hMs:=Hg.out.msg
 have hlf:=heads_len hMs.heads
 have hcf:=count_flatten (F:=F) (fun f hf=>(heads_ne hMs.heads) f hf)
 have hfl:Hid (∀f∈F,2≤f.length∧f.length≤4294967296):=fun f hf=>by
  have h1:=(hMs.flds f hf).1
  obtain⟨l,ls,e,h2,_⟩:=h1
  have h3:=mem_flatten_len hf
  rw [e]at h3⊢
  simp only [List.length_append,crlf,List.length_cons,List.length_nil]at h3⊢
  omega
 have hof:=other_flat (F:=F) (word:=word)
 have hwp:plain word=true:=plain_all.2 fun c hc=>(letters_fact c (hw.out c hc)).2.2.2.2
 have hpF:=plain_heads hMs.heads hMs.plain
 have hmore:=otherFrom_ok (F:=F) (word:=word) (fun f hf=>⟨hMs.flds f hf,(hMs.fields f hf).2.2.2.2,h58.out f hf⟩) hw.out
 have hsg:=sg_upon Hg.out.opt hMs Hg.out.frm hMl (otherFrom F word) hmore (other_pl hpF.1 hwp) (by omega) b hpF.2 (by omega)
 have H16: ∀z,Calls Tryz.prog 16 #[Str M,Str word] z fun e w'=>e= .returned (Str ((otherFrom F word).flatten++crlf++b))∧Below z.heap.size z w':=fun z=>
  dOtherFrom_any M word F b z (by omega) hMs.heads hfl.out (by omega) (by omega) (by omega) (by omega)
 have lOF:((otherFrom F word).flatten++crlf++b).length≤20100:=by simp only [List.length_append,crlf,List.length_cons,List.length_nil];omega
 obtain⟨OF,HOF⟩: ∃z,Hid (z=(otherFrom F word).flatten++crlf++b):=⟨_,Lib.hid rfl⟩
 rw [←HOF.out]at H16 lOF
 have hsl:S.take (S.length-M.length)=signed O F b:=by rw [HS.out,List.length_append,Nat.add_sub_cancel,List.take_left]
 have HX:Hid (∀X,X=S.take (S.length-M.length)++OF→SgOk O F b X [] (otherFrom F word) b):=by
  intro X hX
  rw [hX,hsl,HOF.out,List.append_assoc]
  exact hsg
 have hrec: ∀z,Below w.heap.size w z→OneRec z (.slice (some ⟨r,0,none⟩) 1 1) (O.sel++dkS++O.dom) (recK O.kind O.key):=fun z hz=>OneRec.of (hr.below hz hr.lt) (hq.below hz hq.lt) hrq
 have H13: ∀z,Below w.heap.size w z→∀X,X=S.take (S.length-M.length)++OF→Calls Tryz.prog 13 #[Str X, .slice (some ⟨r,0,none⟩) 1 1, .int .i64 (O.now:Int)] z fun e w'=>e= .returned (.bool true)∧Below z.heap.size z w':=fun z hz X hX=>
  Hg.out.fails B O.key X [] (otherFrom F word) b (HX.out X hX) Hg.out.keyOk z _ (hV.above hz) (hrec z hz)
 have H13:=Lib.hid H13
 have hrec:=Lib.hid hrec
 have HXS:SgOk O F b S [] F (b++ []):=by
  have h:=sg_ahead Hg.out.opt Hg.out.msg Hg.out.frm hMl [] (by simp) rfl (by simp) [] rfl (by simp)
  rw [HS.out]
  simpa using h
 have HXS:=Lib.hid HXS
 clear hMs hlf hcf hfl hof hwp hpF hmore hsg hsl HX
 have hle:decide (S.length≤M.length)=false:=by rw [decide_eq_false_iff_not];omega
 have c1:(0:Int)≤(S.length:Int)-(M.length:Int):=by omega
 have c2:(S.length:Int)-(M.length:Int)≤(S.length:Int):=by omega
 have c3:((S.length:Int)-(M.length:Int)).toNat=S.length-M.length:=by omega
 have c4:IntKind.i64.wrap ((S.length:Int)-(M.length:Int))=(S.length:Int)-(M.length:Int):=by rw [IntKind.wrap_i64];omega
 have n1:M.length≤S.length:=by omega
 have n2: ¬9223372036854775807<S.length-M.length+OF.length:=by omega
 have d10:w.drew.cell? ⟨x,10,none⟩=some (.int .i64 (O.now:Int)):=hx.cell 10 _ rfl
 go_wp2_with fail
 go_region_held3 (fun ww=>ww.cell? ⟨x,10,none⟩=some (.int .i64 (O.now:Int)))
  (first|go_keep|(repeat (first|assumption|refine bcell (by assumption) ?_)))
  (first|(go_at_call 16;refine(H16 _).mono ?_;rintro e w3 ⟨he,hb3⟩;subst he)|(go_at_call 13;refine(H13.out _ (hq0.trans hb3) _ (by simp)).mono ?_;rintro e w4 ⟨he,hb4⟩;subst he)|fail)
 all_goals(first|(exfalso;omega)|skip)
 all_goals have hb3w:Below w.heap.size w w3:=hq0.trans hb3
 all_goals have hb4w:=hb3w.trans (hb4.mono hb3w.size)
 all_goals have hx4:=hx.below hb4w hx.lt
 all_goals have hr4:=hr.below hb4w hr.lt
 all_goals have hq4:=hq.below hb4w hq.lt
 all_goals have hk4:=hk.below hb4w
 all_goals have hh4:=hh.below hb4w
 all_goals have hb04:=hb0.trans (hb4w.mono hb0.size)
 all_goals have hV4:=hV.above hb4w
 all_goals clear H16 H13 hle c1 c2 c3 c4 n1 n2 d10 HOF lOF
 all_goals have c9:=hx4.cell 9 _ rfl
 all_goals by_cases he:O.exp=0
 all_goals first
  |(have e9:((O.exp:Int) !=0)=false:=by rw [he];rfl
    clear he
    go_upto_region 19 with fail
    exact tamB3 B x r q O KA HA KC HC M word S F b w0 w4 hV4 hB0 hb04 hx4 hx0 hk4 hh4 Hg h58 hw hwl hMl hr4 hq4 hrq hrw hqw HS lS lSM _ (by assumption))
  |(have e9:((O.exp:Int) !=0)=true:=by rw [bne_iff_ne];omega
    have He:=Lib.hid he
    have hel:=Hg.out.opt.exp
    clear he
    go_wp2_with fail
    refine(Hg.out.fine B (O.exp+1) 2 _ _ S [] F (b++ []) HXS.out (by omega) rfl (by omega) (vcode_late He.out) w4 _ hV4 (OneRec.of hr4 hq4 hrq)).mono ?_
    rintro e w5 ⟨rfl,hb5⟩
    have hx5:=hx4.below hb5 hx4.lt
    have hr5:=hr4.below hb5 hr4.lt
    have hq5:=hq4.below hb5 hq4.lt
    have hk5:=hk4.below hb5
    have hh5:=hh4.below hb5
    have hb05:=hb04.trans (hb5.mono hb04.size)
    have hV5:=hV4.above hb5
    go_upto_region 19 with fail
    exact tamB3 B x r q O KA HA KC HC M word S F b w0 w5 hV5 hB0 hb05 hx5 hx0 hk5 hh5 Hg h58 hw hwl hMl hr5 hq5 hrq hrw hqw HS lS lSM _ (by assumption))
theorem tamB1 (B x:Nat)(O:Opt)(KA HA:Option Addr)(KC HC:Nat)(M word:BS)(F:List BS)(b:BS)(w0 w:World)(hV:Vars B w)(hB0:B≤w0.heap.size)(hb0:Below w0.heap.size w0 w)(hx:Blk w x 25 (oCells O (.slice KA O.key.length KC) (.slice HA O.keys.length HC)))(hx0:w0.heap.size≤x)
 (hk:Rd w (.slice KA O.key.length KC) (byts O.key))(hh:Rd w (.slice HA O.keys.length HC) (strs O.keys))(hO:OptOk O)(hM:MsgOk M F b)(h58: ∀f∈F,58∈f)(hMl:M.length≤5000)(hM0:M≠ [])(hw:letters word)(hwl:word.length≤50)
 {AA AB AC AD AE AF AG AH AI AJ AK AL AM AN AO AP AQ AR AS AT AU AV AW AX AY AZ Aa Ab Ac Ad Ae Af Ag Ah Ai Aj Ak Al Am An Ao Ap Aq Ar As At Au Av Aw Ax Ay Az A0 A1 A2 A3 A4 A5 A6 A7 A8 A9 BA BB BC BD BE BF BG BH BI BJ BK BL BM BN BO BP BQ BR BT BU BV BW BX BY BZ Ba Bb Bc Bd Be Bf Bg Bh Bi Bj Bk Bl Bm Bn Bo Bp Bq Br Bs Bt Bu Bv Bw Bx By Bz B0 B1 B2 B3 B4 B5 B6 B7 B8 B9 CA CB CC CD CE CF CG CH CI CJ CK CL CM CN CO CP CQ CR CS CT CU CV CW CX CY CZ Ca Cb Cc Cd Ce Cf Cg Ch Ci Cj Ck Cl Cm Cn Co Cp Cq Cr Cs Ct Cu Cv Cw:Value}
 (K:Act→World→Prop)(hK: ∀a w,Code.wp Tryz.prog (tl 5 body3) (bodyPost Tryz.prog Tryz.f3 (TrueP w0)) a w→K a w):
 Code.wp Tryz.prog (hdC (tl 4 body3)) (Exit.then K (bodyPost Tryz.prog Tryz.f3 (TrueP w0))) ⟨(AA::Str M::Str word:: .pointer (some ⟨x,0,none⟩)::AB::AC::AD::AE::AF::AG::AH::AI::AJ::AK::AL::AM::AN::AO::AP::AQ::AR::AS::AT::AU::AV::AW::AX::AY::AZ::Aa::Ab::Ac::Ad::Ae::Af::Ag::Ah::Ai::Aj::Ak::Al::Am::An::Ao::Ap::Aq::Ar::As::At::Au::Av::Aw::Ax::Ay::Az::A0::A1::A2::A3::A4::A5::A6::A7::A8::A9::BA::BB::BC::BD::BE::BF::BG::BH::BI::BJ::BK::BL::BM::BN::BO::BP::BQ::BR::BT::BU::BV::BW::BX::BY::BZ::Ba::Bb::Bc::Bd::Be::Bf::Bg::Bh::Bi::Bj::Bk::Bl::Bm::Bn::Bo::Bp::Bq::Br::Bs::Bt::Bu::Bv::Bw::Bx::By::Bz::B0::B1::B2::B3::B4::B5::B6::B7::B8::B9::CA::CB::CC::CD::CE::CF::CG::CH::CI::CJ::CK::CL::CM::CN::CO::CP::CQ::CR::CS::CT::CU::CV::CW::CX::CY::CZ::Ca::Cb::Cc::Cd::Ce::Cf::Cg::Ch::Ci::Cj::Ck::Cl::Cm::Cn::Co::Cp::Cq::Cr::Cs::Ct::Cu::Cv::Cw:: []).toArray,[]⟩ w:=by
 conv=>arg 2;whnf
 obtain⟨y,hy⟩: ∃y,Hid (y=tl 5 body3):=⟨_,rfl⟩
 rw [←hy.out]at hK
 have hkl: ∀k,(Value.slice KA O.key.length KC).ownBlock=some k→k<w.heap.size:=by
  obtain⟨A,c,he,_,hn|⟨g,off,e,hg,_⟩⟩:=id hk
  ·exfalso
   have:O.key.length=0:=by rw [←byL,hn];rfl
   have hkk:=hO.kind
   rcases hkk with h|h<;>omega
  ·injection he with h1 h2 h3
   subst h1;subst e
   intro k hk
   cases hk;exact hg
 have h12:=dSealed_any B O (.slice KA O.key.length KC) (.slice HA O.keys.length HC) M F b w hV.glo hO hk hkl hh hM (by omega) hM0
 unfold optV at h12
 have HO:=Lib.hid hO
 have HM:=Lib.hid hM
 have Hw:=Lib.hid hw
 have H58:=Lib.hid h58
 clear hO hM hw h58 hM0 hkl
 have c0:=hx.cell 0 _ rfl
 have c1:=hx.cell 1 _ rfl
 have c2:=hx.cell 2 _ rfl
 have c3:=hx.cell 3 _ rfl
 have c4:=hx.cell 4 _ rfl
 have c5:=hx.cell 5 _ rfl
 have c6:=hx.cell 6 _ rfl
 have c7:=hx.cell 7 _ rfl
 have c8:=hx.cell 8 _ rfl
 have c9:=hx.cell 9 _ rfl
 have c10:=hx.cell 10 _ rfl
 have c11:=hx.cell 11 _ rfl
 go_wp2_with fail
 refine h12.mono ?_
 rintro e w1 ⟨⟨S,is,r,q,rfl,hsi,hr,hq,hrq,hrw,hqw⟩,hb1⟩
 have hx1:=hx.below hb1 hx.lt
 have hb01:=hb0.trans (hb1.mono hb0.size)
 clear h12 c0 c1 c2 c3 c4 c5 c6 c7 c8 c9 c10 c11
 go_wp2_with fail
 obtain⟨y7,hy7⟩: ∃y,Hid (y=tl 7 body3):=⟨_,rfl⟩
 have e5:tl 5 body3= .seq (hdC (tl 5 body3)) (.seq (hdC (tl 6 body3)) y7):=by rw [hy7.out];rfl
 rw [hy.out,e5]
 clear hy e5
 conv=>arg 2;arg 1;whnf
 conv=>arg 2;arg 2;arg 1;whnf
 obtain⟨hsf,hs,hi⟩|⟨hsf,hs,hi⟩:=hsi
 ·have HS:=Lib.hid hs
  clear hs
  subst hi
  have Hg:Hid (Sgd O M F b):=⟨HO.out,HM.out,hsf,hMl⟩
  have HSl:S.length≤7005044∧M.length<S.length:=by
   have h1:=(sgn_ok HO.out HM.out hsf hMl).sgp.2
   have h2:=(fld_signed (b:=b) HO.out (names_ok HO.out HM.out hsf)).1.ne
   have h3:0<(signed O F b).length:=List.length_pos_iff.2 h2
   rw [HS.out,List.length_append]
   omega
  obtain⟨lS,lSM⟩:=HSl
  have hwp:plain word=true:=plain_all.2 fun c hc=>(letters_fact c (Hw.out c hc)).2.2.2.2
  have HX1: ∀X,X=S++13::10::(word++ [13,10])→SgOk O F b X [] F (b++(crlf++word++crlf)):=by
   intro X hX
   have h:=sg_ahead HO.out HM.out hsf hMl [] (by simp) rfl (by simp) (crlf++word++crlf) (by simp only [plain_app];exact⟨⟨by decide,hwp⟩,by decide⟩) (by simp [crlf];omega)
   rw [hX,HS.out]
   simpa [crlf]using h
  have HX1:=Lib.hid HX1
  have hxf:=xField_ok Hw.out
  have HX2:Hid (∀X,X=88::45::(word++58::32::121::13::10::S)→SgOk O F b X [xField word] F (b++ [])):=by
   intro X hX
   have h:=sg_ahead HO.out HM.out hsf hMl [xField word] (by intro f hf;rw [List.mem_singleton.1 hf];exact⟨hxf.1,hxf.2.2.1⟩) (by rw [List.flatten_singleton];exact hxf.2.2.2) (by simp [xField,crlf];omega) [] rfl (by simp)
   rw [hX,HS.out]
   simpa [xField,crlf]using h
  have HN2:Hid ((O.keys.any fun k=>lower k==120::45::word)=false→vcode O F b ([xField word]++signed O F b::F) (b++ []) (some O.key) O.now=0):=by
   intro hn
   rw [List.append_nil]
   refine law_x HO.out HM.out hsf _ (.inr fun k hk e=> ?_)
   have:=List.any_eq_false.1 hn k hk
   rw [hxf.2.1]at e
   exact this (by rw [e];simp)
  clear hxf hwp
  have hV1:=hV.above hb1
  have hrec: ∀z,Below w1.heap.size w1 z→OneRec z (.slice (some ⟨r,0,none⟩) 1 1) (O.sel++dkS++O.dom) (recK O.kind O.key):=fun z hz=>OneRec.of (hr.below hz hr.lt) (hq.below hz hq.lt) hrq
  have hrec:=Lib.hid hrec
  have c0:=hx1.cell 0 _ rfl
  have c1:=hx1.cell 1 _ rfl
  have c2:=hx1.cell 2 _ rfl
  have c3:=hx1.cell 3 _ rfl
  have c4:=hx1.cell 4 _ rfl
  have c5:=hx1.cell 5 _ rfl
  have c6:=hx1.cell 6 _ rfl
  have c7:=hx1.cell 7 _ rfl
  have c8:=hx1.cell 8 _ rfl
  have c9:=hx1.cell 9 _ rfl
  have c10:=hx1.cell 10 _ rfl
  have c11:=hx1.cell 11 _ rfl
  go_wp2_with fail
  refine(Hg.out.fails B O.key _ [] F _ (HX1.out _ (by simp)) Hg.out.keyOk w1 _ hV1 (hrec.out w1 (Below.refl _ _))).mono ?_
  rintro e w2 ⟨rfl,hb2⟩
  have hx2:=hx1.below hb2 hx1.lt
  clear c0 c1 c2 c3 c4 c5 c6 c7 c8 c9 c10 c11 HX1
  have c0:=hx2.cell 0 _ rfl
  have c1:=hx2.cell 1 _ rfl
  have c2:=hx2.cell 2 _ rfl
  have c3:=hx2.cell 3 _ rfl
  have c4:=hx2.cell 4 _ rfl
  have c5:=hx2.cell 5 _ rfl
  have c6:=hx2.cell 6 _ rfl
  have c7:=hx2.cell 7 _ rfl
  have c8:=hx2.cell 8 _ rfl
  have c9:=hx2.cell 9 _ rfl
  have c10:=hx2.cell 10 _ rfl
  have c11:=hx2.cell 11 _ rfl
  have hb12:=hb1.trans (hb2.mono hb1.size)
  have h14:=dNames14_any (ofO O) (.slice KA O.key.length KC) (.slice HA O.keys.length HC) (.slice none 0 0) (120::45::word) w2 (hh.below hb12) ⟨_,_,_,rfl⟩ ⟨_,_,_,rfl⟩ (fun k hk=>by have:=HO.out.lens.2.2.2 k hk;omega) (by have:=HO.out.nkeys;show O.keys.length≤_;omega)
  unfold RawO.val at h14
  go_wp2_with fail
  refine h14.mono ?_
  obtain⟨r3,H3⟩: ∃z,Hid (z=O.keys.any fun k=>lower k==120::45::word):=⟨_,Lib.hid rfl⟩
  have H3':Hid (r3=(ofO O).keys.any fun k=>lower k==120::45::word):=H3
  rw [←H3'.out]
  rintro e w3 ⟨rfl,hb3⟩
  have hx3:=hx2.below hb3 hx2.lt
  have hb13:=hb2.trans (hb3.mono hb2.size)
  clear h14 H3' c0 c1 c2 c3 c4 c5 c6 c7 c8 c9 c10 c11
  have c0:=hx3.cell 0 _ rfl
  have c1:=hx3.cell 1 _ rfl
  have c2:=hx3.cell 2 _ rfl
  have c3:=hx3.cell 3 _ rfl
  have c4:=hx3.cell 4 _ rfl
  have c5:=hx3.cell 5 _ rfl
  have c6:=hx3.cell 6 _ rfl
  have c7:=hx3.cell 7 _ rfl
  have c8:=hx3.cell 8 _ rfl
  have c9:=hx3.cell 9 _ rfl
  have c10:=hx3.cell 10 _ rfl
  have c11:=hx3.cell 11 _ rfl
  cases r3
  ·go_wp2_with fail
   refine(Hg.out.fine B O.now 0 _ _ _ [xField word] F _ (HX2.out _ (by simp)) rfl rfl Hg.out.now_le (HN2.out H3.out.symm) w3 _ (hV1.above hb13) (hrec.out w3 hb13)).mono ?_
   rintro e w4 ⟨rfl,hb4⟩
   have hx4:=hx3.below hb4 hx3.lt
   have hb14:=hb1.trans ((hb13.trans (hb4.mono hb13.size)).mono hb1.size)
   go_wp2_with fail
   rw [hy7.out]
   exact tamB2 B x r q O KA HA KC HC M word S F b w0 w4 (hV.above hb14) hB0 (hb0.trans (hb14.mono hb0.size)) hx4 hx0 (hk.below hb14) (hh.below hb14) Hg H58 Hw hwl hMl (hr.below (hb13.trans (hb4.mono hb13.size)) hr.lt) (hq.below (hb13.trans (hb4.mono hb13.size)) hq.lt) hrq (Nat.le_trans hb0.size hrw) (Nat.le_trans hb0.size hqw) HS lS lSM
  ·have hb14:=hb1.trans (hb13.mono hb1.size)
   go_wp2_with fail
   rw [hy7.out]
   exact tamB2 B x r q O KA HA KC HC M word S F b w0 w3 (hV.above hb14) hB0 (hb0.trans (hb14.mono hb0.size)) hx3 hx0 (hk.below hb14) (hh.below hb14) Hg H58 Hw hwl hMl (hr.below hb13 hr.lt) (hq.below hb13 hq.lt) hrq (Nat.le_trans hb0.size hrw) (Nat.le_trans hb0.size hqw) HS lS lSM
 ·have ha:O.all=false:=by
   cases h:O.all
   ·rfl
   ·exact absurd (.inl h) hsf
  have c8:w1.cell? ⟨x,8,none⟩=some (.bool false):=by rw [←ha];exact hx1.cell 8 _ rfl
  clear ha hs
  subst hi
  go_wp2_with fail
  refine(dAwake_any w1).mono ?_
  rintro e w2 ⟨rfl,hb2⟩
  go_wp2_with fail
  go_ret
  exact⟨rfl,hb01.trans (hb2.mono hb01.size)⟩
theorem letters_snoc {l:BS} {k:Nat} (h:letters (l.take k))(hk:k<l.length)(h1:97≤l[k])(h2:l[k]≤122):letters (l.take (k+1)):=by
 intro c hc
 rw [List.take_succ_eq_append_getElem hk]at hc
 rcases List.mem_append.1 hc with hc|hc
 ·exact h c hc
 ·rw [List.mem_singleton.1 hc];exact⟨h1,h2⟩
theorem tampered_any (B:Nat)(o:RawO)(kv hv qv:Value)(M word:BS)(w:World)(hV:Vars B w)(h:o.In w kv hv qv)(hqv: ∀n c,qv= .slice none n c→qv= .slice none 0 0):
 Calls Tryz.prog 3 #[o.val kv hv qv,Str M,Str word] w (TrueP w):=by
 obtain⟨kA,kc,rfl,_⟩:=h.key
 obtain⟨hA,hc,rfl,_⟩:=h.keys
 obtain⟨qA,qc,rfl,_⟩:=h.query
 have HIn:=Lib.hid h
 have Hqv:=Lib.hid hqv
 have HV:=Lib.hid hV
 unfold RawO.val
 rw [byL,stL,stL]
 have hb1:=(Below.refl w.heap.size w).alloc (Nat.le_refl _) (.cells #[Str o.dom,Str o.sel,Str o.ident,Str o.kind, .slice kA o.key.length kc,Str o.hdr,Str o.bdy, .slice hA o.keys.length hc, .bool o.all, .int .i64 o.exp, .int .i64 o.now, .slice qA o.query.length qc] 25)
 have hx1:=RawO.blk w o (.slice kA o.key.length kc) (.slice hA o.keys.length hc) (.slice qA o.query.length qc)
 clear h hqv hV
 go_enter Tryz.func3,Tryz.ntmps3
 go_upto_region 1 with fail
 obtain⟨x,Hx⟩: ∃z,Hid (z=w.heap.size):=⟨_,Lib.hid rfl⟩
 rw [←Hx.out]at hx1⊢
 generalize w.alloc (.cells #[Str o.dom,Str o.sel,Str o.ident,Str o.kind, .slice kA o.key.length kc,Str o.hdr,Str o.bdy, .slice hA o.keys.length hc, .bool o.all, .int .i64 o.exp, .int .i64 o.now, .slice qA o.query.length qc] 25)=w1 at*
 have hxw:w.heap.size≤x:=by rw [Hx.out];exact Nat.le_refl _
 have q0:=hx1.cell 0 _ rfl
 have q1:=hx1.cell 1 _ rfl
 have q2:=hx1.cell 2 _ rfl
 have q3:=hx1.cell 3 _ rfl
 have q4:=hx1.cell 4 _ rfl
 have q5:=hx1.cell 5 _ rfl
 have q6:=hx1.cell 6 _ rfl
 have q7:=hx1.cell 7 _ rfl
 have q8:=hx1.cell 8 _ rfl
 have q9:=hx1.cell 9 _ rfl
 have q10:=hx1.cell 10 _ rfl
 have q11:=hx1.cell 11 _ rfl
 have h7:=zzFits10_any o _ _ _ w1 (HIn.out.below hb1)
 unfold RawO.val at h7
 rw [byL,stL,stL]at h7
 go_wp2_with fail
 refine h7.mono ?_
 obtain⟨r7,H7⟩: ∃z,Hid (z=o.fits):=⟨_,Lib.hid rfl⟩
 rw [←H7.out]
 rintro e w2 ⟨rfl,hb2⟩
 have hbw2:=hb1.trans (hb2.mono hb1.size)
 have hx2:=hx1.below hb2 hx1.lt
 clear h7 q0 q1 q2 q3 q4 q5 q6 q7 q8 q9 q10 q11
 cases r7
 ·go_wp2_with fail
  go_ret
  exact⟨rfl,hbw2⟩
 by_cases l1:2147483647<(M.length:Int)
 ·go_wp2_with fail
  go_ret
  exact⟨rfl,hbw2⟩
 by_cases l2:2147483647<(word.length:Int)
 ·go_wp2_with fail
  go_ret
  exact⟨rfl,hbw2⟩
 have l1':M.length≤2147483647:=by omega
 have l2':word.length≤2147483647:=by omega
 have q0:=hx2.cell 0 _ rfl
 have q1:=hx2.cell 1 _ rfl
 have q2:=hx2.cell 2 _ rfl
 have q3:=hx2.cell 3 _ rfl
 have q4:=hx2.cell 4 _ rfl
 have q5:=hx2.cell 5 _ rfl
 have q6:=hx2.cell 6 _ rfl
 have q7:=hx2.cell 7 _ rfl
 have q8:=hx2.cell 8 _ rfl
 have q9:=hx2.cell 9 _ rfl
 have q10:=hx2.cell 10 _ rfl
 have q11:=hx2.cell 11 _ rfl
 have h8:=dProper_any o _ _ _ w2 (HIn.out.below hbw2) H7.out.symm
 unfold RawO.val at h8
 rw [byL,stL,stL]at h8
 go_wp2_with fail
 refine h8.mono ?_
 rintro e w3 ⟨⟨r8,rfl,H8⟩,hb3⟩
 have H8:=Lib.hid H8
 have hbw3:=hbw2.trans (hb3.mono hbw2.size)
 have hx3:=hx2.below hb3 hx2.lt
 clear h8 q0 q1 q2 q3 q4 q5 q6 q7 q8 q9 q10 q11 H7
 cases r8
 ·go_wp2_with fail
  refine(dAwake_any w3).mono ?_
  rintro e w4 ⟨rfl,hb4⟩
  go_wp2_with fail
  go_ret
  exact⟨rfl,hbw3.trans (hb4.mono hbw3.size)⟩
 have hba:=(Below.refl w3.heap.size w3).alloc (Nat.le_refl _) (.cells #[Str M] 9)
 have hxa:=Blk.new w3 9 #[Str M]
 have hra:Rd (w3.alloc (.cells #[Str M] 9)) (.slice (some ⟨w3.heap.size,0,none⟩) 1 1) (strs [M]):=
  ⟨_,1,rfl,Nat.le_refl _, .inr ⟨_,0,rfl,hxa.lt,fun j u hu=>by rw [Nat.zero_add];exact hxa.cell j u hu⟩⟩
 have hbw4:=hbw3.trans (hba.mono hbw3.size)
 have hx4:=hx3.below hba hx3.lt
 go_wp2_with fail
 generalize w3.alloc (.cells #[Str M] 9)=w4 at*
 refine(dShort_any 5000 _ _ w4 hra (fun x hx=>by rw [List.mem_singleton.1 hx];omega) (by simp)).mono ?_
 rintro e w5 ⟨⟨r9,rfl,H9⟩,rfl⟩
 have H9:=Lib.hid H9
 clear hra hxa hba
 cases r9
 ·go_wp2_with fail
  refine(dAwake_any w5).mono ?_
  rintro e w6 ⟨rfl,hb6⟩
  go_wp2_with fail
  go_ret
  exact⟨rfl,hbw4.trans (hb6.mono hbw4.size)⟩
 have hMl:M.length≤5000:=by have:=((H9.out (by first|rfl|trivial)).1 M (by simp)).2;omega
 have hMp:=Lib.hid ((H9.out (by first|rfl|trivial)).1 M (by simp)).1
 clear H9 l1 l1'
 go_wp2_with fail
 refine(dNamed_any M w5 (by omega)).mono ?_
 rintro e w6 ⟨⟨r10,rfl,H10⟩,hb6⟩
 have H10:=Lib.hid H10
 have hbw6:=hbw4.trans (hb6.mono hbw4.size)
 have hx6:=hx4.below hb6 hx4.lt
 cases r10
 ·go_wp2_with fail
  refine(dAwake_any w6).mono ?_
  rintro e w7 ⟨rfl,hb7⟩
  go_wp2_with fail
  go_ret
  exact⟨rfl,hbw6.trans (hb7.mono hbw6.size)⟩
 by_cases p1:word= []
 ·have p2:word.isEmpty=true:=by rw [p1];rfl
  clear p1
  go_wp2_with fail
  refine(dAwake_any w6).mono ?_
  rintro e w7 ⟨rfl,hb7⟩
  go_wp2_with fail
  go_ret
  exact⟨rfl,hbw6.trans (hb7.mono hbw6.size)⟩
 have P1:=Lib.hid p1
 have p2:word.isEmpty=false:=by rw [List.isEmpty_eq_false_iff];exact p1
 clear p1
 by_cases l3:50<(word.length:Int)
 ·go_wp2_with fail
  refine(dAwake_any w6).mono ?_
  rintro e w7 ⟨rfl,hb7⟩
  go_wp2_with fail
  go_ret
  exact⟨rfl,hbw6.trans (hb7.mono hbw6.size)⟩
 have hwl:word.length≤50:=by omega
 clear l2 l2'
 go_wp2_with fail
 clear p2 l3
 go_loopw [7] (fun v7 wx=> ∃k:Nat,k≤word.length∧v7= .int .i64 k∧Hid (letters (word.take k))∧wx=w6) (fun v7 _=>word.length-(intOf v7).toNat)
 case atStart=>exact⟨0,Nat.zero_le _,rfl,by intro c hc;simp at hc,rfl⟩
 case round=>
  obtain⟨k,hk,rfl,hlk,rfl⟩:=hrel
  by_cases hlt:k<word.length
  ·have h0:(0:Int)≤(k:Int):=by omega
   have h1:(k:Int)<(word.length:Int):=by omega
   by_cases p1:97≤(word[k].toNat:Int)
   ·by_cases p2:122<(word[k].toNat:Int)
    ·go_wp2_with fail
     refine(dAwake_any wr).mono ?_
     rintro e w7 ⟨rfl,hb7⟩
     go_wp2_with fail
     go_ret
     exact⟨rfl,hbw6.trans (hb7.mono hbw6.size)⟩
    ·have hl2:Hid (letters (word.take (k+1))):=letters_snoc hlk.out hlt (by rw [UInt8.le_iff_toNat_le];show 97≤_;omega) (by rw [UInt8.le_iff_toNat_le];show _≤122;omega)
     clear hlk
     go_wp2_with fail
     go_roundw
     case rel=>exact⟨k+1,hlt,by go_num,hl2,trivial⟩
     case measure=>simp [intOf];omega
   ·go_wp2_with fail
    refine(dAwake_any wr).mono ?_
    rintro e w7 ⟨rfl,hb7⟩
    go_wp2_with fail
    go_ret
    exact⟨rfl,hbw6.trans (hb7.mono hbw6.size)⟩
  ·have hall:Hid (letters word):=by
    have:=hlk.out
    rw [List.take_of_length_le (by omega)]at this
    exact this
   clear hlk
   have hf:=(H8.out (by first|rfl|trivial)).1
   obtain⟨F,b,hNP⟩:=H10.out (by first|rfl|trivial)
   obtain⟨hMs,h58⟩:=hNP.msg hMp.out
   have hM0:M≠ []:=by
    rintro rfl
    have:=hNP.heads
    simp [heads,headGo,cutAt]at this
   have hq0:=Hqv.out
   obtain⟨n,c,hqn⟩:=(H8.out (by first|rfl|trivial)).2
   have hqq:=hq0 n c (by rw [stL];exact hqn)
   rw [stL]at hqq
   have hxo:Blk wr x 25 (oCells (toOpt o) (.slice kA (toOpt o).key.length kc) (.slice hA (toOpt o).keys.length hc)):=by
    have:=hx6
    rw [opt_val hf,hqq]at this
    exact this
   have hk6:Rd wr (.slice kA (toOpt o).key.length kc) (byts (toOpt o).key):=by have:=(HIn.out.below hbw6).key;rw [byL]at this;exact this
   have hh6:Rd wr (.slice hA (toOpt o).keys.length hc) (strs (toOpt o).keys):=by have:=(HIn.out.below hbw6).keys;rw [stL]at this;exact this
   go_upto_region 10 with fail
   exact tamB1 B x (toOpt o) kA hA kc hc M word F b w wr (HV.out.above hbw6) HV.out.glo.le hbw6 hxo hxw hk6 hh6 hf.ok hMs h58 hMl hM0 hall.out hwl _ (by assumption)
end Go.Proofs.YtgilnagajcfkpaaGreatDoor
