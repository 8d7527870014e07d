import Derived.Test.YtgilnagajcfkpaaGreatDoorQ62
set_option maxHeartbeats 4000000
set_option maxRecDepth 1000000
set_option linter.all false
namespace Go.Proofs.YtgilnagajcfkpaaGreatDoor
open Go.RowKit
noncomputable def body5:Code:=Tryz.f5.body.getD .skip
theorem rd_at {w:World} {A:Option Addr} {n c:Nat} {l:List BS} (h:Rd w (.slice A n c) (strs l))(hl:0<l.length): ∃g off,A=some ⟨g,off,none⟩∧∀(k:Nat)(u:Value),(strs l)[k]?=some u→w.cell? ⟨g,off+k,none⟩=some u:=by
 obtain⟨A',c',he,_,hn|⟨g,off,e,hg,hc⟩⟩:=id h
 ·exfalso
  have:l.length=0:=by rw [←stL,hn];rfl
  omega
 ·injection he with h1 h2 h3
  subst h1
  exact⟨g,off,e,hc⟩
theorem headB (B x r q:Nat)(O:Opt)(oA nA aA bA:Option Addr)(oc nc ac bc:Nat)(M S fm b:BS)(F other NM:List BS)(hK':List Value)(w0 w:World)(hV:Vars B w)(hB0:B≤w0.heap.size)(hb0:Below w0.heap.size w0 w)(hx:Blk w x 25 hK')(hc10:hK'[10]?=some (.int .i64 (O.now:Int)))
 (hvo:Rd w (.slice oA other.length oc) (strs other))(haR:Rd w (.slice aA NM.length ac) (strs (picked F NM)))(hbR:Rd w (.slice bA NM.length bc) (strs (picked other NM)))(hNM:NM.length≤20000)(hNe:Hid (NM=namesOf O F))
 (Hg:Hid (Sgd O M F b))(hfe:Hid (fm=formOf O.hdr))(hfm:Hid (formOk fm))(hFp:Hid (∀f∈F,plain f=true∧f.length≤20000))(hOp:Hid (∀f∈other,plain f=true∧f.length≤20000))(hOl:other.flatten.length≤30000)(hOc:other.length≤30)(hbl:b.length≤10000)(hMl:M.length≤5000)
 (hr:Blk w r 39 [Str (O.sel++dkS++O.dom), .slice (some ⟨q,0,none⟩) 1 1, .bool false, .bool false])(hq:Blk w q 9 [Str (recordOf O)])(hrq:r≠q)(lS:S.length≤7005044)(lSM:M.length<S.length)
 (HX:Hid (∀X,X=S.take (S.length-M.length)++(other.flatten++crlf++b)→SgOk O F b X [] other b))
 {AA AB AC AD AE AF AG AH AI AJ AK AL AM AN AO AP AQ AR AS AT AU AV AW AX AY AZ Aa Ab Ac Ad Ae Af Ag Ah Ai Aj Ak Al Am An Ao Ap Aq Ar As At Au Av Aw Ax Ay Az A0 A1 A2 A3 A4 A5 A6 A7 A8 A9 BA BB BC BD BE BF BG BH BI BJ BK BL BM BN BO BP BQ BR BT BU BV BW BX BY BZ Ba Bb Bc Bd Be Bf Bg Bh Bi Bj Bk Bl Bm Bn Bo Bp Bq Br Bs Bt Bu Bv Bw Bx By Bz B0 B1 B2 B3 B4 B5 B6 B7 B8 B9 CA CB CC CD CE CF CG CH CI CJ CK CL CM CN CO CP CQ CR CS CT CU CV CW CX CY CZ Ca Cb Cc Cd Ce Cf Cg Ch Ci Cj Ck Cl Cm Cn Co Cp Cq:Value}
 (K:Act→World→Prop)(hK: ∀a w,Code.wp Tryz.prog (tl 13 body5) (bodyPost Tryz.prog Tryz.f5 (TrueP w0)) a w→K a w):
 Code.wp Tryz.prog (hdC (tl 12 body5)) (Exit.then K (bodyPost Tryz.prog Tryz.f5 (TrueP w0))) ⟨(AA::Str M:: .slice oA other.length oc:: .pointer (some ⟨x,0,none⟩)::AB::AC::AD::AE::AF::AG::AH::Str b::AI::Str S:: .slice (some ⟨r,0,none⟩) 1 1::AJ::Str fm:: .slice nA NM.length nc:: .slice aA NM.length ac:: .slice bA NM.length bc::AK::AL::AM::AN::AO::AP::AQ::AR::AS::AT::AU::AV::AW::AX::AY::AZ::Aa::Ab::Ac::Ad::Ae::Af::Ag::Ah::Ai::Aj::Ak::Al::Am::An::Ao::Ap::Aq::Ar::As::At::Au::Av::Aw::Ax::Ay::Az::A0::A1::A2::A3::A4::A5::A6::A7::A8::A9::BA::BB::BC::BD::BE::BF::BG::BH::BI::BJ::BK::BL::BM::BN::BO::BP::BQ::BR::BT::BU::BV::BW::BX::BY::BZ::Ba::Bb::Bc::Bd::Be::Bf::Bg::Bh::Bi::Bj::Bk::Bl::Bm::Bn::Bo::Bp::Bq::Br::Bs::Bt::Bu::Bv::Bw::Bx::By::Bz::B0::B1::B2::B3::B4::B5::B6::B7::B8::B9::CA::CB::CC::CD::CE::CF::CG::CH::CI::CJ::CK::CL::CM::CN::CO::CP::CQ::CR::CS::CT::CU::CV::CW::CX::CY::CZ::Ca::Cb::Cc::Cd::Ce::Cf::Cg::Ch::Ci::Cj::Ck::Cl::Cm::Cn::Co::Cp::Cq:: []).toArray,[]⟩ w:=by
 conv=>arg 2;whnf
 obtain⟨y,hy⟩: ∃y,Hid (y=tl 13 body5):=⟨_,rfl⟩
 rw [←hy.out]at hK
 go_wp2_with fail
 rw [hy.out]
 clear hy
 conv=>arg 2;whnf
 go_wp2_with fail
 go_loopw [20,21,22] (fun v20 v21 v22 wx=> ∃k:Nat,k≤NM.length∧v20=Str (accOf fm F NM k)∧v21=Str (accOf fm other NM k)∧v22= .int .i64 k∧Below w.heap.size w wx) (fun _ _ v22 _=>NM.length-(intOf v22).toNat)
 case atStart=>exact⟨0,Nat.zero_le _,rfl,rfl,rfl,Below.refl _ _⟩
 case round=>
  obtain⟨k,hk,rfl,rfl,rfl,hbx⟩:=hrel
  by_cases hlt:k<NM.length
  ·have hA:=pk_at F NM k hlt
   have hpm:=pickAt_mem F (lower NM[k]) (countIn (lower NM[k]) (NM.take k))
   have hst:=Lib.hid (accOf_step fm F NM k hlt)
   have hC:=pk_at other NM k hlt
   have hpm2:=pickAt_mem other (lower NM[k]) (countIn (lower NM[k]) (NM.take k))
   have hst2:=Lib.hid (accOf_step fm other NM k hlt)
   obtain⟨f,Hf⟩: ∃z,Hid (z=pickAt F (lower NM[k]) (countIn (lower NM[k]) (NM.take k))):=⟨_,Lib.hid rfl⟩
   obtain⟨g,Hgg⟩: ∃z,Hid (z=pickAt other (lower NM[k]) (countIn (lower NM[k]) (NM.take k))):=⟨_,Lib.hid rfl⟩
   have hst:Hid (accOf fm F NM (k+1)=accOf fm F NM k++(if f= []then []else fieldOf fm f)):=by show _=_;rw [hst.out,←Hf.out]
   have hst2:Hid (accOf fm other NM (k+1)=accOf fm other NM k++(if g= []then []else fieldOf fm g)):=by show _=_;rw [hst2.out,←Hgg.out]
   rw [←Hf.out]at hA hpm
   rw [←Hgg.out]at hC hpm2
   have hfo:Hid (f= []∨(plain f=true∧f.length≤20000)):=hpm.imp id fun h=>hFp.out f h
   have hgo:Hid (g= []∨(plain g=true∧g.length≤20000)):=hpm2.imp id fun h=>hOp.out g h
   have hl1:=accOf_len fm F NM 100000 (fun z hz=>by have:=fieldOf_len fm z;have:=(hFp.out z hz).2;omega) k (by omega)
   have hl2:=accOf_len fm other NM 100000 (fun z hz=>by have:=fieldOf_len fm z;have:=(hOp.out z hz).2;omega) k (by omega)
   have hkl:k*100000≤20000*100000:=Nat.mul_le_mul_right _ (by omega)
   obtain⟨one,H1⟩: ∃z,Hid (z=accOf fm F NM k):=⟨_,Lib.hid rfl⟩
   obtain⟨two,H2⟩: ∃z,Hid (z=accOf fm other NM k):=⟨_,Lib.hid rfl⟩
   rw [←H1.out]at hl1 hst⊢
   rw [←H2.out]at hl2 hst2⊢
   have l1:one.length≤2000000000:=by omega
   have l2:two.length≤2000000000:=by omega
   clear hpm hpm2 hl1 hl2 hkl Hf Hgg H1 H2
   have hav:=(haR.below hbx)
   have hbv:=(hbR.below hbx)
   obtain⟨ga,oa,hae,hac⟩:=rd_at hav (by rw [picked_length];omega)
   obtain⟨gb,ob,hbe,hbc⟩:=rd_at hbv (by rw [picked_length];omega)
   subst hae hbe
   have hca:=hac k _ hA
   have hcb:=hbc k _ hC
   have h0:(0:Int)≤(k:Int):=by omega
   have h1:(k:Int)<(NM.length:Int):=by omega
   clear hA hC hac hbc hav hbv
   have hbw:=hb0.trans (hbx.mono hb0.size)
   by_cases hf0:f= []
   ·have e1:f.isEmpty=true:=by rw [hf0];rfl
    have hst:Hid (accOf fm F NM (k+1)=one):=by show _=_;rw [hst.out,if_pos hf0,List.append_nil]
    clear hf0 hfo
    by_cases hg0:g= []
    ·have e2:g.isEmpty=true:=by rw [hg0];rfl
     have hst2:Hid (accOf fm other NM (k+1)=two):=by show _=_;rw [hst2.out,if_pos hg0,List.append_nil]
     clear hg0 hgo
     go_wp2_with fail
     go_roundw
     case rel=>exact⟨k+1,hlt,by rw [hst.out],by rw [hst2.out],by go_num,hbx⟩
     case measure=>simp [intOf];omega
    ·have e2:g.isEmpty=false:=by rw [List.isEmpty_eq_false_iff];exact hg0
     have hst2:Hid (accOf fm other NM (k+1)=two++fieldOf fm g):=by show _=_;rw [hst2.out,if_neg hg0]
     obtain⟨gp,gl⟩:=hgo.out.resolve_left hg0
     clear hg0 hgo
     go_wp2_with fail
     refine(dCanonField_any fm g wr hfm.out gp (by omega)).mono ?_
     rintro e wy ⟨rfl,hby⟩
     have hbx2:=hbx.trans (hby.mono hbx.size)
     have lfo:(fieldOf fm g).length≤100000:=by have:=fieldOf_len fm g;omega
     obtain⟨fg,Hfg⟩: ∃z,Hid (z=fieldOf fm g):=⟨_,Lib.hid rfl⟩
     rw [←Hfg.out]at lfo hst2⊢
     go_wp2_with fail
     go_roundw
     case rel=>exact⟨k+1,hlt,by rw [hst.out],by rw [hst2.out],by go_num,hbx2⟩
     case measure=>simp [intOf];omega
   ·have e1:f.isEmpty=false:=by rw [List.isEmpty_eq_false_iff];exact hf0
    have hst:Hid (accOf fm F NM (k+1)=one++fieldOf fm f):=by show _=_;rw [hst.out,if_neg hf0]
    obtain⟨fp,fl⟩:=hfo.out.resolve_left hf0
    clear hf0 hfo
    have lff:(fieldOf fm f).length≤100000:=by have:=fieldOf_len fm f;omega
    obtain⟨ff,Hff⟩: ∃z,Hid (z=fieldOf fm f):=⟨_,Lib.hid rfl⟩
    have hcf:=dCanonField_any fm f wr hfm.out fp (by omega)
    rw [←Hff.out]at lff hst hcf
    by_cases hg0:g= []
    ·have e2:g.isEmpty=true:=by rw [hg0];rfl
     have hst2:Hid (accOf fm other NM (k+1)=two):=by show _=_;rw [hst2.out,if_pos hg0,List.append_nil]
     clear hg0 hgo
     go_wp2_with fail
     refine hcf.mono ?_
     rintro e wz ⟨rfl,hbz⟩
     have hcb:=bcell hbz hcb
     have hbx1:=hbx.trans (hbz.mono hbx.size)
     go_wp2_with fail
     go_roundw
     case rel=>exact⟨k+1,hlt,by rw [hst.out],by rw [hst2.out],by go_num,hbx1⟩
     case measure=>simp [intOf];omega
    ·have e2:g.isEmpty=false:=by rw [List.isEmpty_eq_false_iff];exact hg0
     have hst2:Hid (accOf fm other NM (k+1)=two++fieldOf fm g):=by show _=_;rw [hst2.out,if_neg hg0]
     obtain⟨gp,gl⟩:=hgo.out.resolve_left hg0
     clear hg0 hgo
     go_wp2_with fail
     refine hcf.mono ?_
     rintro e wz ⟨rfl,hbz⟩
     have hcb:=bcell hbz hcb
     have hbx1:=hbx.trans (hbz.mono hbx.size)
     go_wp2_with fail
     refine(dCanonField_any fm g wz hfm.out gp (by omega)).mono ?_
     rintro e wy ⟨rfl,hby⟩
     have hbx2:=hbx1.trans (hby.mono hbx1.size)
     have lfo:(fieldOf fm g).length≤100000:=by have:=fieldOf_len fm g;omega
     obtain⟨fg,Hfg⟩: ∃z,Hid (z=fieldOf fm g):=⟨_,Lib.hid rfl⟩
     rw [←Hfg.out]at lfo hst2⊢
     go_wp2_with fail
     go_roundw
     case rel=>exact⟨k+1,hlt,by rw [hst.out],by rw [hst2.out],by go_num,hbx2⟩
     case measure=>simp [intOf];omega
  ·have hkN:k=NM.length:=by omega
   rw [hkN,accOf_all,accOf_all]
   clear hlt hk hkN haR hbR
   obtain⟨y1,Hy1⟩: ∃z,Hid (z=allOf fm F NM):=⟨_,Lib.hid rfl⟩
   obtain⟨y2,Hy2⟩: ∃z,Hid (z=allOf fm other NM):=⟨_,Lib.hid rfl⟩
   rw [←Hy1.out,←Hy2.out]
   have hbw:=hb0.trans (hbx.mono hb0.size)
   have hx7:=hx.below hbx hx.lt
   have hr7:=hr.below hbx hr.lt
   have hq7:=hq.below hbx hq.lt
   have hV7:=hV.above hbx
   have n1:M.length≤S.length:=by omega
   have n2:max (0:Int) ((S.length:Int)-(M.length:Int))=(S.length:Int)-(M.length:Int):=by omega
   have n3:(0:Int)≤(S.length:Int)-(M.length:Int):=by omega
   have n4:(S.length:Int)-(M.length:Int)≤(S.length:Int):=by omega
   have n5:((S.length:Int)-(M.length:Int)).toNat=S.length-M.length:=by omega
   have n6:IntKind.i64.wrap ((S.length:Int)-(M.length:Int))=(S.length:Int)-(M.length:Int):=by rw [IntKind.wrap_i64];omega
   obtain⟨FL,HFL⟩: ∃z,Hid (z=other.flatten++crlf):=⟨_,Lib.hid rfl⟩
   have lFL:FL.length≤30002:=by rw [HFL.out,List.length_append];simp only [crlf,List.length_cons,List.length_nil];omega
   have n7: ¬9223372036854775807<S.length-M.length+FL.length:=by omega
   have n8: ¬9223372036854775807<S.length-M.length+FL.length+b.length:=by omega
   have hvd:Rd wr.drew (.slice oA other.length oc) (strs other):=by have h:=hvo.below hbx;exact h
   have h20:=dHeadOf_any _ other wr.drew hvd (by omega) (by omega)
   rw [←HFL.out]at h20
   clear hx hr hq hV hvo hbx
   go_upto_region 25 with fail
   go_region_held3 (fun ww=>True) (trivial)
    (first|(go_at_call 20;refine h20.mono ?_;rintro e w8 ⟨he,hw8⟩;subst he)|fail)
   all_goals(first|(exfalso;omega)|skip)
   all_goals subst hw8
   all_goals clear h20 hvd n1 n2 n3 n4 n5 n6 n7 n8
   all_goals obtain⟨X,HX2⟩: ∃z,Hid (z=S.take (S.length-M.length)++(FL++b)):=⟨_,Lib.hid rfl⟩
   all_goals rw [←HX2.out]
   all_goals have HXX:Hid (SgOk O F b X [] other b):=HX.out X (by rw [HX2.out,HFL.out,List.append_assoc])
   all_goals have hx8:=hx7.drew
   all_goals have hr8:=hr7.drew
   all_goals have hq8:=hq7.drew
   all_goals have hbw8:=bdw hbw
   all_goals have hV8:Vars B wr.drew:=hV7.above (bdw (Below.refl _ _))
   all_goals clear HX hx7 hr7 hq7 hbw hV7
   all_goals generalize wr.drew=w8 at*
   all_goals have hrec:=OneRec.of hr8 hq8 hrq
   all_goals have c10:=hx8.cell 10 _ hc10
   all_goals have lS2:(M.length:Int)<(S.length:Int):=by omega
   all_goals by_cases hy:y1=y2
   all_goals first
    |(have hy1:(y1==y2)=true:=by simpa using hy
      have hy2:(y1 !=y2)=false:=by simpa using hy
      have HC:=Lib.hid (law_head Hg.out.opt Hg.out.msg Hg.out.frm (F':=other) (show allOf (formOf O.hdr) F (namesOf O F)=allOf (formOf O.hdr) other (namesOf O F) by rw [←hfe.out,←hNe.out,←Hy1.out,←Hy2.out];exact hy))
      clear hy
      go_wp2_with fail
      refine(Hg.out.fine B O.now 0 _ _ X [] other b HXX.out rfl rfl Hg.out.now_le HC.out w8 _ hV8 hrec).mono ?_
      rintro e w13 ⟨rfl,hb13⟩
      go_wp2_with fail
      go_ret
      exact⟨rfl,hbw8.trans (hb13.mono hbw8.size)⟩)
    |(have hy1:(y1==y2)=false:=by simpa using hy
      have hy2:(y1 !=y2)=true:=by simpa using hy
      clear hy
      go_wp2_with fail
      refine(Hg.out.fails B O.key X [] other b HXX.out Hg.out.keyOk w8 _ hV8 hrec).mono ?_
      rintro e w13 ⟨rfl,hb13⟩
      go_wp2_with fail
      go_ret
      exact⟨rfl,hbw8.trans (hb13.mono hbw8.size)⟩)
theorem flat_le (l:List BS)(k:Nat)(h: ∀x∈l,x.length≤k):l.flatten.length≤l.length*k:=by
 induction l with
 |nil=>simp
 |cons a r ih=>
  rw [List.flatten_cons,List.length_append,List.length_cons,Nat.add_mul]
  have h1:=h a (by simp)
  have h2:=ih fun x hx=>h x (by simp [hx])
  omega
theorem headChanged_any (B:Nat)(o:RawO)(kv hv qv vo:Value)(M:BS)(other:List BS)(w:World)(hV:Vars B w)(h:o.In w kv hv qv)(hqv: ∀n c,qv= .slice none n c→qv= .slice none 0 0)(hvo:Rd w vo (strs other)):
 Calls Tryz.prog 5 #[o.val kv hv qv,Str M,vo] w (TrueP w):=by
 obtain⟨oA,oc,rfl,_,_⟩:=id hvo
 rw [stL]at hvo⊢
 obtain⟨kA,kc,rfl,_⟩:=h.key
 obtain⟨hA,hc,rfl,_⟩:=h.keys
 obtain⟨qA,qc,rfl,_⟩:=h.query
 have HIn:=Lib.hid h
 have Hqv:=Lib.hid hqv
 have HV:=Lib.hid hV
 unfold RawO.val
 rw [byL,stL,stL]
 have hb1:=(Below.refl w.heap.size w).alloc (Nat.le_refl _) (.cells #[Str o.dom,Str o.sel,Str o.ident,Str o.kind, .slice kA o.key.length kc,Str o.hdr,Str o.bdy, .slice hA o.keys.length hc, .bool o.all, .int .i64 o.exp, .int .i64 o.now, .slice qA o.query.length qc] 25)
 have hx1:=RawO.blk w o (.slice kA o.key.length kc) (.slice hA o.keys.length hc) (.slice qA o.query.length qc)
 clear h hqv hV
 go_enter Tryz.func5,Tryz.ntmps5
 go_upto_region 1 with fail
 obtain⟨x,Hx⟩: ∃z,Hid (z=w.heap.size):=⟨_,Lib.hid rfl⟩
 rw [←Hx.out]at hx1⊢
 generalize w.alloc (.cells #[Str o.dom,Str o.sel,Str o.ident,Str o.kind, .slice kA o.key.length kc,Str o.hdr,Str o.bdy, .slice hA o.keys.length hc, .bool o.all, .int .i64 o.exp, .int .i64 o.now, .slice qA o.query.length qc] 25)=w1 at*
 have hxw:w.heap.size≤x:=by rw [Hx.out];exact Nat.le_refl _
 have q0:=hx1.cell 0 _ rfl
 have q1:=hx1.cell 1 _ rfl
 have q2:=hx1.cell 2 _ rfl
 have q3:=hx1.cell 3 _ rfl
 have q4:=hx1.cell 4 _ rfl
 have q5:=hx1.cell 5 _ rfl
 have q6:=hx1.cell 6 _ rfl
 have q7:=hx1.cell 7 _ rfl
 have q8:=hx1.cell 8 _ rfl
 have q9:=hx1.cell 9 _ rfl
 have q10:=hx1.cell 10 _ rfl
 have q11:=hx1.cell 11 _ rfl
 have h7:=zzFits10_any o _ _ _ w1 (HIn.out.below hb1)
 unfold RawO.val at h7
 rw [byL,stL,stL]at h7
 go_wp2_with fail
 refine h7.mono ?_
 obtain⟨r7,H7⟩: ∃z,Hid (z=o.fits):=⟨_,Lib.hid rfl⟩
 rw [←H7.out]
 rintro e w2 ⟨rfl,hb2⟩
 have hbw2:=hb1.trans (hb2.mono hb1.size)
 have hx2:=hx1.below hb2 hx1.lt
 clear h7 q0 q1 q2 q3 q4 q5 q6 q7 q8 q9 q10 q11
 cases r7
 ·go_wp2_with fail
  go_ret
  exact⟨rfl,hbw2⟩
 by_cases l1:2147483647<(M.length:Int)
 ·go_wp2_with fail
  go_ret
  exact⟨rfl,hbw2⟩
 have hvo2:=hvo.below hbw2
 go_wp2_with fail
 refine(zzFits7_any _ other w2 hvo2).mono ?_
 obtain⟨r22,H22⟩: ∃z,Hid (z=fitsL other):=⟨_,Lib.hid rfl⟩
 rw [←H22.out]
 rintro e w2' ⟨rfl,rfl⟩
 cases r22
 ·go_wp2_with fail
  go_ret
  exact⟨rfl,hbw2⟩
 have hfo:=(fitsL_iff other).1 H22.out.symm
 have hfo1:=hfo.1
 have Hfo:=Lib.hid hfo.2
 clear hfo H22
 have l1':M.length≤2147483647:=by omega
 have q0:=hx2.cell 0 _ rfl
 have q1:=hx2.cell 1 _ rfl
 have q2:=hx2.cell 2 _ rfl
 have q3:=hx2.cell 3 _ rfl
 have q4:=hx2.cell 4 _ rfl
 have q5:=hx2.cell 5 _ rfl
 have q6:=hx2.cell 6 _ rfl
 have q7:=hx2.cell 7 _ rfl
 have q8:=hx2.cell 8 _ rfl
 have q9:=hx2.cell 9 _ rfl
 have q10:=hx2.cell 10 _ rfl
 have q11:=hx2.cell 11 _ rfl
 have h18:=dTold_any o _ _ _ M w2 (HIn.out.below hbw2) H7.out.symm l1'
 unfold RawO.val at h18
 rw [byL,stL,stL]at h18
 go_wp2_with fail
 refine h18.mono ?_
 rintro e w3 ⟨⟨r8,rfl,H8⟩,hb3⟩
 have H8:=Lib.hid H8
 have hbw3:=hbw2.trans (hb3.mono hbw2.size)
 have hx3:=hx2.below hb3 hx2.lt
 clear h18 q0 q1 q2 q3 q4 q5 q6 q7 q8 q9 q10 q11 H7
 cases r8
 ·go_wp2_with fail
  refine(dAwake_any w3).mono ?_
  rintro e wz ⟨rfl,hbz⟩
  go_wp2_with fail
  go_ret
  exact⟨rfl,hbw3.trans (hbz.mono hbw3.size)⟩
 have hvo3:=hvo.below hbw3
 go_wp2_with fail
 refine(dShort_any 1000 _ other w3 hvo3 (fun z hz=>by have:=Hfo.out z hz;omega) (by omega)).mono ?_
 rintro e w5 ⟨⟨r9,rfl,H9⟩,rfl⟩
 have H9:=Lib.hid H9
 cases r9
 ·go_wp2_with fail
  refine(dAwake_any w5).mono ?_
  rintro e wz ⟨rfl,hbz⟩
  go_wp2_with fail
  go_ret
  exact⟨rfl,hbw3.trans (hbz.mono hbw3.size)⟩
 have Hos:Hid (∀z∈other,plain z=true∧z.length≤1000):=fun z hz=>by
  have:=(H9.out (by first|rfl|trivial)).1 z hz
  exact⟨this.1,by have:=this.2;omega⟩
 clear H9
 by_cases l3:30<(other.length:Int)
 ·go_wp2_with fail
  refine(dAwake_any w5).mono ?_
  rintro e wz ⟨rfl,hbz⟩
  go_wp2_with fail
  go_ret
  exact⟨rfl,hbw3.trans (hbz.mono hbw3.size)⟩
 have hoc:other.length≤30:=by omega
 have hof:other.flatten.length≤30000:=by have:=flat_le other 1000 (fun z hz=>(Hos.out z hz).2);omega
 obtain⟨MO,HMO⟩: ∃z,Hid (z=other.flatten++crlf):=⟨_,Lib.hid rfl⟩
 have lMO:MO.length≤30002:=by rw [HMO.out,List.length_append];simp only [crlf,List.length_cons,List.length_nil];omega
 have h20: ∀z,Below w.heap.size w z→Calls Tryz.prog 20 #[.slice oA other.length oc] z fun e w'=>e= .returned (Str MO)∧w'=z:=fun z hz=>by
  rw [HMO.out]
  exact dHeadOf_any _ other z (hvo.below hz) (by omega) (by omega)
 have h20:=Lib.hid h20
 clear l3 hvo3
 go_wp2_with fail
 refine(h20.out w5 hbw3).mono ?_
 rintro e wq ⟨rfl,rfl⟩
 go_wp2_with fail
 refine(dNamed_any MO wq (by omega)).mono ?_
 rintro e w6 ⟨⟨r10,rfl,H10⟩,hb6⟩
 have H10:=Lib.hid H10
 have hbw6:=hbw3.trans (hb6.mono hbw3.size)
 have hx6:=hx3.below hb6 hx3.lt
 cases r10
 ·go_wp2_with fail
  refine(dAwake_any w6).mono ?_
  rintro e wz ⟨rfl,hbz⟩
  go_wp2_with fail
  go_ret
  exact⟨rfl,hbw6.trans (hbz.mono hbw6.size)⟩
 obtain⟨F2,b2,hNP2⟩:=H10.out (by first|rfl|trivial)
 have hplMO:plain MO=true:=by
  rw [HMO.out,plain_app]
  exact⟨plain_flat (fun z hz=>(Hos.out z hz).1) rfl,by decide⟩
 have hMO:=Lib.hid (hNP2.msg hplMO).1
 have hhM:=hNP2.heads
 clear H10 hNP2 hplMO
 go_wp2_with fail
 refine(h20.out w6 hbw6).mono ?_
 rintro e wq ⟨rfl,rfl⟩
 go_wp2_with fail
 refine(dHead_any MO wq (by omega)).mono ?_
 rintro e w7 ⟨hp,hb7⟩
 rw [hhM]at hp
 obtain⟨v2,rfl,hv2⟩:=hp
 have hr2:=hv2.rd
 obtain⟨A2,c2,rfl,_,_⟩:=id hr2
 rw [stL]at hr2⊢
 have hbw7:=hbw6.trans (hb7.mono hbw6.size)
 have hx7:=hx6.below hb7 hx6.lt
 have hvo7:=hvo.below hbw7
 have hlh:=heads_len hhM
 have hlc:=count_flatten (F:=F2) (fun f hf=>(heads_ne hhM) f hf)
 clear hv2 hhM
 go_wp2_with fail
 refine(dSame_any _ _ F2 other w7 hr2 hvo7 (by omega)).mono ?_
 obtain⟨r23,H23⟩: ∃z,Hid (z=decide (F2=other)):=⟨_,Lib.hid rfl⟩
 rw [←H23.out]
 rintro e w8 ⟨rfl,hb8⟩
 have hbw8:=hbw7.trans (hb8.mono hbw7.size)
 have hx8:=hx7.below hb8 hx7.lt
 cases r23
 ·go_wp2_with fail
  refine(dAwake_any w8).mono ?_
  rintro e wz ⟨rfl,hbz⟩
  go_wp2_with fail
  go_ret
  exact⟨rfl,hbw8.trans (hbz.mono hbw8.size)⟩
 have hFe:F2=other:=of_decide_eq_true H23.out.symm
 have hMO2:Hid (MsgOk MO other b2):=by rw [←hFe];exact hMO.out
 clear hFe H23 hMO hlh hlc hr2 hvo7
 have hT:=H8.out (by first|rfl|trivial)
 obtain⟨⟨hf,n,c,hqn⟩,⟨hMp,hMl⟩,F,b,hNP⟩:=hT
 obtain⟨hMs,h58⟩:=hNP.msg hMp
 have hM0:M≠ []:=by
  rintro rfl
  have:=hNP.heads
  simp [heads,headGo,cutAt]at this
 have hqq:=Hqv.out n c (by rw [stL];exact hqn)
 rw [stL]at hqq
 clear hqn hNP hMp l1 l1'
 have hO:=hf.ok
 have hxo:Blk w8 x 25 (oCells (toOpt o) (.slice kA (toOpt o).key.length kc) (.slice hA (toOpt o).keys.length hc)):=by
  have:=hx8
  rw [opt_val hf,hqq]at this
  exact this
 have hk8:Rd w8 (.slice kA (toOpt o).key.length kc) (byts (toOpt o).key):=by have:=(HIn.out.below hbw8).key;rw [byL]at this;exact this
 have hh8:Rd w8 (.slice hA (toOpt o).keys.length hc) (strs (toOpt o).keys):=by have:=(HIn.out.below hbw8).keys;rw [stL]at this;exact this
 obtain⟨O,HO⟩: ∃z,Hid (z=toOpt o):=⟨_,Lib.hid rfl⟩
 rw [←HO.out]at hxo hk8 hh8 hO
 have hOk:=Lib.hid hO
 have hMk:=Lib.hid hMs
 clear hx1 hx2 hx3 hx6 hx7 hx8 HIn Hqv H8 hqq hO hf HO h58 hb1 hb2 hb3 hb6 hb7 hb8 hbw2 hbw3 hbw6 hbw7
 go_wp2_with fail
 refine(dHead_any M w8 (by omega)).mono ?_
 rintro e w9 ⟨hp,hb9⟩
 rw [hMs.heads]at hp
 obtain⟨vf,rfl,hvf⟩:=hp
 have hvr:=hvf.rd
 obtain⟨vA,vc,rfl,_,_⟩:=id hvr
 rw [stL]at hvr⊢
 have hbw9:=hbw8.trans (hb9.mono hbw8.size)
 have hx9:=hxo.below hb9 hxo.lt
 have hk9:=hk8.below hb9
 have hh9:=hh8.below hb9
 clear hvf hMs hxo hk8 hh8
 have q0:=hx9.cell 0 _ rfl
 have q1:=hx9.cell 1 _ rfl
 have q2:=hx9.cell 2 _ rfl
 have q3:=hx9.cell 3 _ rfl
 have q4:=hx9.cell 4 _ rfl
 have q5:=hx9.cell 5 _ rfl
 have q6:=hx9.cell 6 _ rfl
 have q7:=hx9.cell 7 _ rfl
 have q8:=hx9.cell 8 _ rfl
 have q9:=hx9.cell 9 _ rfl
 have q10:=hx9.cell 10 _ rfl
 have q11:=hx9.cell 11 _ rfl
 have h12:=dSealed_any B O (.slice kA O.key.length kc) (.slice hA O.keys.length hc) M F b w9 (HV.out.glo.above hbw9) hOk.out hk9 (rd_blk hk9 (by have:=hOk.out.key;rcases hOk.out.kind with h|h<;>omega)) hh9 hMk.out (by omega) hM0
 unfold optV at h12
 go_wp2_with fail
 refine h12.mono ?_
 rintro e wA ⟨⟨S,is,r,q,rfl,hsi,hr,hq,hrq,hrw,hqw⟩,hbA⟩
 have hxA:=hx9.below hbA hx9.lt
 have hbwA:=hbw9.trans (hbA.mono hbw9.size)
 have hvrA:=hvr.below hbA
 have hhA:=hh9.below hbA
 clear h12 q0 q1 q2 q3 q4 q5 q6 q7 q8 q9 q10 q11 hM0
 obtain⟨hsf,hs,hi⟩|⟨hsf,hs,hi⟩:=hsi
 rotate_left
 ·have ha:O.all=false:=by
   cases h:O.all
   ·rfl
   ·exact absurd (.inl h) hsf
  have c8:wA.cell? ⟨x,8,none⟩=some (.bool false):=by rw [←ha];exact hxA.cell 8 _ rfl
  clear ha hs
  subst hi
  go_wp2_with fail
  refine(dAwake_any wA).mono ?_
  rintro e wz ⟨rfl,hbz⟩
  go_wp2_with fail
  go_ret
  exact⟨rfl,hbwA.trans (hbz.mono hbwA.size)⟩
 have HS:=Lib.hid hs
 clear hs
 subst hi
 have Hg:Hid (Sgd O M F b):=⟨hOk.out,hMk.out,hsf,hMl⟩
 obtain⟨lS,lSM⟩:=sealed_len Hg.out HS.out
 obtain⟨fm,Hfm⟩: ∃z,Hid (z=formOf O.hdr):=⟨_,Lib.hid rfl⟩
 have hform:Hid (formOk fm):=by rw [Hfm.out];exact hOk.out.hform
 have hfl:=heads_len hMk.out.heads
 have hfc:=count_flatten (F:=F) (fun f hf=>(heads_ne hMk.out.heads) f hf)
 have hpF:=plain_heads hMk.out.heads hMk.out.plain
 have hFp:Hid (∀f∈F,plain f=true∧f.length≤20000):=fun f hf=>⟨hpF.1 f hf,by have:=mem_flatten_len hf;omega⟩
 have hOp:Hid (∀f∈other,plain f=true∧f.length≤20000):=fun f hf=>⟨(Hos.out f hf).1,by have:=(Hos.out f hf).2;omega⟩
 have HX:Hid (∀X,X=S.take (S.length-M.length)++(other.flatten++crlf++b)→SgOk O F b X [] other b):=by
  intro X hX
  have h:=sg_upon Hg.out.opt hMk.out hsf hMl other (fun f hf=>⟨hMO2.out.flds f hf,(hMO2.out.fields f hf).2.2.2.2⟩) (plain_flat (fun z hz=>(Hos.out z hz).1) rfl) (by omega) b hpF.2 (by omega)
  rw [hX,HS.out,List.length_append,Nat.add_sub_cancel,List.take_left]
  simpa using h
 have hbF:b.length≤10000:=by omega
 have hFc:F.length≤10000:=by omega
 have hso:=sgn_ok Hg.out.opt Hg.out.msg Hg.out.frm hMl
 have hNs:=hso.nmc
 have hNl:=Lib.hid fun z hz=>(hso.nm z hz).1
 obtain⟨NM,HNM⟩: ∃z,Hid (z=namesOf O F):=⟨_,Lib.hid rfl⟩
 have hNl:Hid (∀z∈NM,z.length≤400000):=by rw [HNM.out];exact hNl.out
 rw [←HNM.out]at hNs
 clear hpF hso
 have c5:wA.cell? ⟨x,5,none⟩=some (Str O.hdr):=hxA.cell 5 _ rfl
 have d0:=hxA.cell 0 _ rfl
 have d1:=hxA.cell 1 _ rfl
 have d2:=hxA.cell 2 _ rfl
 have d3:=hxA.cell 3 _ rfl
 have d4:=hxA.cell 4 _ rfl
 have d5:=hxA.cell 5 _ rfl
 have d6:=hxA.cell 6 _ rfl
 have d7:=hxA.cell 7 _ rfl
 have d8:=hxA.cell 8 _ rfl
 have d9:=hxA.cell 9 _ rfl
 have d10:=hxA.cell 10 _ rfl
 have d11:=hxA.cell 11 _ rfl
 have h24:=dNamesOf_any (ofO O) (.slice kA O.key.length kc) (.slice hA O.keys.length hc) (.slice none 0 0) _ F wA hhA ⟨_,_,_,rfl⟩ ⟨_,_,_,rfl⟩ hvrA (fun f hf=>by have:=(hFp.out f hf).2;omega) (by omega)
 unfold RawO.val at h24
 have h24:Calls Tryz.prog 24 #[.agg #[Str O.dom,Str O.sel,Str O.ident,Str O.kind, .slice kA O.key.length kc,Str O.hdr,Str O.bdy, .slice hA O.keys.length hc, .bool O.all, .int .i64 (O.exp:Int), .int .i64 (O.now:Int), .slice none 0 0], .slice vA F.length vc] wA fun e w'=>(∃v,e= .returned v∧Rd w' v (strs NM))∧Below wA.heap.size wA w':=by
  rw [HNM.out];exact h24
 by_cases hb0:O.hdr= []
 ·have e6:O.hdr.isEmpty=true:=by rw [hb0];rfl
  have Hff:Hid (([115,105,109,112,108,101]:BS)=fm):=by show _=_;rw [Hfm.out];unfold formOf;rw [if_pos hb0];rfl
  clear hb0
  go_wp2_with fail
  refine h24.mono ?_
  rintro e wB ⟨⟨nv,rfl,hnv⟩,hbB⟩
  obtain⟨nA,nc,rfl,_,_⟩:=id hnv
  rw [stL]at hnv⊢
  have hbAB:=hbwA.trans (hbB.mono hbwA.size)
  have hvrB:=hvrA.below hbB
  clear h24 d0 d1 d2 d3 d4 d5 d6 d7 d8 d9 d10 d11 c5 e6
  go_wp2_with fail
  refine(dPicked_any F NM _ _ wB hvrB hnv (by omega) (by omega) (fun f hf=>by have:=(hFp.out f hf).2;omega) (fun f hf=>by have:=hNl.out f hf;omega)).mono ?_
  rintro e wC ⟨av,rfl,hav,hbC⟩
  have har:=hav.rd
  obtain⟨aA,ac,rfl,_,_⟩:=id har
  rw [stL,picked_length]at har⊢
  have hbAC:=hbAB.trans (hbC.mono hbAB.size)
  have hvoC:=hvo.below hbAC
  have hnvC:=hnv.below hbC
  clear hav
  go_wp2_with fail
  refine(dPicked_any other NM _ _ wC hvoC hnvC (by omega) (by omega) (fun f hf=>by have:=(hOp.out f hf).2;omega) (fun f hf=>by have:=hNl.out f hf;omega)).mono ?_
  rintro e wD ⟨bv,rfl,hbv,hbD⟩
  have hbr:=hbv.rd
  obtain⟨bA,bc,rfl,_,_⟩:=id hbr
  rw [stL,picked_length]at hbr⊢
  have hbAD:=hbAC.trans (hbD.mono hbAC.size)
  have hAD:=(hbB.trans (hbC.mono hbB.size)).trans (hbD.mono (Nat.le_trans hbB.size hbC.size))
  clear hbv
  go_upto_region 17 with fail
  exact headB B x r q O oA nA aA bA oc nc ac bc M S [115,105,109,112,108,101] b F other NM _ w wD (HV.out.above hbAD) HV.out.glo.le hbAD (hxA.below hAD hxA.lt) rfl (hvo.below hbAD) (har.below hbD) hbr hNs HNM Hg (Lib.hid (Hff.out.trans Hfm.out)) (by rw [Hff.out];exact hform) hFp hOp hof hoc hbF hMl (hr.below hAD hr.lt) (hq.below hAD hq.lt) hrq lS lSM HX _ (by assumption)
 ·have e6:O.hdr.isEmpty=false:=by rw [List.isEmpty_eq_false_iff];exact hb0
  have Hff:Hid (O.hdr=fm):=by show _=_;rw [Hfm.out];unfold formOf;rw [if_neg hb0]
  clear hb0
  go_wp2_with fail
  refine h24.mono ?_
  rintro e wB ⟨⟨nv,rfl,hnv⟩,hbB⟩
  obtain⟨nA,nc,rfl,_,_⟩:=id hnv
  rw [stL]at hnv⊢
  have hbAB:=hbwA.trans (hbB.mono hbwA.size)
  have hvrB:=hvrA.below hbB
  clear h24 d0 d1 d2 d3 d4 d5 d6 d7 d8 d9 d10 d11 c5 e6
  go_wp2_with fail
  refine(dPicked_any F NM _ _ wB hvrB hnv (by omega) (by omega) (fun f hf=>by have:=(hFp.out f hf).2;omega) (fun f hf=>by have:=hNl.out f hf;omega)).mono ?_
  rintro e wC ⟨av,rfl,hav,hbC⟩
  have har:=hav.rd
  obtain⟨aA,ac,rfl,_,_⟩:=id har
  rw [stL,picked_length]at har⊢
  have hbAC:=hbAB.trans (hbC.mono hbAB.size)
  have hvoC:=hvo.below hbAC
  have hnvC:=hnv.below hbC
  clear hav
  go_wp2_with fail
  refine(dPicked_any other NM _ _ wC hvoC hnvC (by omega) (by omega) (fun f hf=>by have:=(hOp.out f hf).2;omega) (fun f hf=>by have:=hNl.out f hf;omega)).mono ?_
  rintro e wD ⟨bv,rfl,hbv,hbD⟩
  have hbr:=hbv.rd
  obtain⟨bA,bc,rfl,_,_⟩:=id hbr
  rw [stL,picked_length]at hbr⊢
  have hbAD:=hbAC.trans (hbD.mono hbAC.size)
  have hAD:=(hbB.trans (hbC.mono hbB.size)).trans (hbD.mono (Nat.le_trans hbB.size hbC.size))
  clear hbv
  go_upto_region 17 with fail
  exact headB B x r q O oA nA aA bA oc nc ac bc M S O.hdr b F other NM _ w wD (HV.out.above hbAD) HV.out.glo.le hbAD (hxA.below hAD hxA.lt) rfl (hvo.below hbAD) (har.below hbD) hbr hNs HNM Hg (Lib.hid (Hff.out.trans Hfm.out)) (by rw [Hff.out];exact hform) hFp hOp hof hoc hbF hMl (hr.below hAD hr.lt) (hq.below hAD hq.lt) hrq lS lSM HX _ (by assumption)
end Go.Proofs.YtgilnagajcfkpaaGreatDoor
