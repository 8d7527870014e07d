import Derived.Test.YtgilnagajcfkpaaGreatDoorQ62
set_option maxHeartbeats 4000000
set_option maxRecDepth 1000000
set_option linter.all false
namespace Go.Proofs.YtgilnagajcfkpaaGreatDoor
open Go.RowKit
theorem bodyChanged_any (B:Nat)(o:RawO)(kv hv qv:Value)(M body:BS)(w:World)(hV:Vars B w)(h:o.In w kv hv qv)(hqv: ∀n c,qv= .slice none n c→qv= .slice none 0 0):
 Calls Tryz.prog 4 #[o.val kv hv qv,Str M,Str body] w (TrueP w):=by
 obtain⟨kA,kc,rfl,_⟩:=h.key
 obtain⟨hA,hc,rfl,_⟩:=h.keys
 obtain⟨qA,qc,rfl,_⟩:=h.query
 have HIn:=Lib.hid h
 have Hqv:=Lib.hid hqv
 have HV:=Lib.hid hV
 unfold RawO.val
 rw [byL,stL,stL]
 have hb1:=(Below.refl w.heap.size w).alloc (Nat.le_refl _) (.cells #[Str o.dom,Str o.sel,Str o.ident,Str o.kind, .slice kA o.key.length kc,Str o.hdr,Str o.bdy, .slice hA o.keys.length hc, .bool o.all, .int .i64 o.exp, .int .i64 o.now, .slice qA o.query.length qc] 25)
 have hx1:=RawO.blk w o (.slice kA o.key.length kc) (.slice hA o.keys.length hc) (.slice qA o.query.length qc)
 clear h hqv hV
 go_enter Tryz.func4,Tryz.ntmps4
 go_upto_region 1 with fail
 obtain⟨x,Hx⟩: ∃z,Hid (z=w.heap.size):=⟨_,Lib.hid rfl⟩
 rw [←Hx.out]at hx1⊢
 generalize w.alloc (.cells #[Str o.dom,Str o.sel,Str o.ident,Str o.kind, .slice kA o.key.length kc,Str o.hdr,Str o.bdy, .slice hA o.keys.length hc, .bool o.all, .int .i64 o.exp, .int .i64 o.now, .slice qA o.query.length qc] 25)=w1 at*
 have hxw:w.heap.size≤x:=by rw [Hx.out];exact Nat.le_refl _
 have q0:=hx1.cell 0 _ rfl
 have q1:=hx1.cell 1 _ rfl
 have q2:=hx1.cell 2 _ rfl
 have q3:=hx1.cell 3 _ rfl
 have q4:=hx1.cell 4 _ rfl
 have q5:=hx1.cell 5 _ rfl
 have q6:=hx1.cell 6 _ rfl
 have q7:=hx1.cell 7 _ rfl
 have q8:=hx1.cell 8 _ rfl
 have q9:=hx1.cell 9 _ rfl
 have q10:=hx1.cell 10 _ rfl
 have q11:=hx1.cell 11 _ rfl
 have h7:=zzFits10_any o _ _ _ w1 (HIn.out.below hb1)
 unfold RawO.val at h7
 rw [byL,stL,stL]at h7
 go_wp2_with fail
 refine h7.mono ?_
 obtain⟨r7,H7⟩: ∃z,Hid (z=o.fits):=⟨_,Lib.hid rfl⟩
 rw [←H7.out]
 rintro e w2 ⟨rfl,hb2⟩
 have hbw2:=hb1.trans (hb2.mono hb1.size)
 have hx2:=hx1.below hb2 hx1.lt
 clear h7 q0 q1 q2 q3 q4 q5 q6 q7 q8 q9 q10 q11
 cases r7
 ·go_wp2_with fail
  go_ret
  exact⟨rfl,hbw2⟩
 by_cases l1:2147483647<(M.length:Int)
 ·go_wp2_with fail
  go_ret
  exact⟨rfl,hbw2⟩
 by_cases l2:2147483647<(body.length:Int)
 ·go_wp2_with fail
  go_ret
  exact⟨rfl,hbw2⟩
 have l2':body.length≤2147483647:=by omega
 have l1':M.length≤2147483647:=by omega
 have q0:=hx2.cell 0 _ rfl
 have q1:=hx2.cell 1 _ rfl
 have q2:=hx2.cell 2 _ rfl
 have q3:=hx2.cell 3 _ rfl
 have q4:=hx2.cell 4 _ rfl
 have q5:=hx2.cell 5 _ rfl
 have q6:=hx2.cell 6 _ rfl
 have q7:=hx2.cell 7 _ rfl
 have q8:=hx2.cell 8 _ rfl
 have q9:=hx2.cell 9 _ rfl
 have q10:=hx2.cell 10 _ rfl
 have q11:=hx2.cell 11 _ rfl
 have h18:=dTold_any o _ _ _ M w2 (HIn.out.below hbw2) H7.out.symm l1'
 unfold RawO.val at h18
 rw [byL,stL,stL]at h18
 go_wp2_with fail
 refine h18.mono ?_
 rintro e w3 ⟨⟨r8,rfl,H8⟩,hb3⟩
 have H8:=Lib.hid H8
 have hbw3:=hbw2.trans (hb3.mono hbw2.size)
 have hx3:=hx2.below hb3 hx2.lt
 clear h18 q0 q1 q2 q3 q4 q5 q6 q7 q8 q9 q10 q11 H7
 cases r8
 ·go_wp2_with fail
  refine(dAwake_any w3).mono ?_
  rintro e wz ⟨rfl,hbz⟩
  go_wp2_with fail
  go_ret
  exact⟨rfl,hbw3.trans (hbz.mono hbw3.size)⟩
 have hba:=(Below.refl w3.heap.size w3).alloc (Nat.le_refl _) (.cells #[Str body] 9)
 have hxa:=Blk.new w3 9 #[Str body]
 have hra:Rd (w3.alloc (.cells #[Str body] 9)) (.slice (some ⟨w3.heap.size,0,none⟩) 1 1) (strs [body]):=
  ⟨_,1,rfl,Nat.le_refl _, .inr ⟨_,0,rfl,hxa.lt,fun j u hu=>by rw [Nat.zero_add];exact hxa.cell j u hu⟩⟩
 have hbw4:=hbw3.trans (hba.mono hbw3.size)
 have hx4:=hx3.below hba hx3.lt
 go_wp2_with fail
 generalize w3.alloc (.cells #[Str body] 9)=w4 at*
 refine(dShort_any 5000 _ _ w4 hra (fun x hx=>by rw [List.mem_singleton.1 hx];omega) (by simp)).mono ?_
 rintro e w5 ⟨⟨r9,rfl,H9⟩,rfl⟩
 have H9:=Lib.hid H9
 clear hra hxa hba
 cases r9
 ·go_wp2_with fail
  refine(dAwake_any w5).mono ?_
  rintro e wz ⟨rfl,hbz⟩
  go_wp2_with fail
  go_ret
  exact⟨rfl,hbw4.trans (hbz.mono hbw4.size)⟩
 have hBl:body.length≤5000:=by have:=((H9.out (by first|rfl|trivial)).1 body (by simp)).2;omega
 have hBp:=Lib.hid ((H9.out (by first|rfl|trivial)).1 body (by simp)).1
 clear H9 l2 l2'
 have hT:=H8.out (by first|rfl|trivial)
 obtain⟨⟨hf,n,c,hqn⟩,⟨hMp,hMl⟩,F,b,hNP⟩:=hT
 obtain⟨hMs,h58⟩:=hNP.msg hMp
 have hM0:M≠ []:=by
  rintro rfl
  have:=hNP.heads
  simp [heads,headGo,cutAt]at this
 have hqq:=Hqv.out n c (by rw [stL];exact hqn)
 rw [stL]at hqq
 clear hqn hNP hMp l1 l1'
 have hO:=hf.ok
 have hxo:Blk w5 x 25 (oCells (toOpt o) (.slice kA (toOpt o).key.length kc) (.slice hA (toOpt o).keys.length hc)):=by
  have:=hx4
  rw [opt_val hf,hqq]at this
  exact this
 have hk5:Rd w5 (.slice kA (toOpt o).key.length kc) (byts (toOpt o).key):=by have:=(HIn.out.below hbw4).key;rw [byL]at this;exact this
 have hh5:Rd w5 (.slice hA (toOpt o).keys.length hc) (strs (toOpt o).keys):=by have:=(HIn.out.below hbw4).keys;rw [stL]at this;exact this
 obtain⟨O,HO⟩: ∃z,Hid (z=toOpt o):=⟨_,Lib.hid rfl⟩
 rw [←HO.out]at hxo hk5 hh5 hO
 have hOk:=Lib.hid hO
 have hMk:=Lib.hid hMs
 clear hx1 hx2 hx3 hx4 HIn Hqv H8 hqq hO hf HO h58 hb1 hb2 hb3 hbw2 hbw3
 go_wp2_with fail
 refine(dHead_any M w5 (by omega)).mono ?_
 rintro e w6 ⟨hp,hb6⟩
 rw [hMs.heads]at hp
 obtain⟨vf,rfl,hvf⟩:=hp
 have hvr:=hvf.rd
 obtain⟨vA,vc,rfl,_,_⟩:=id hvr
 rw [stL]at hvr⊢
 have hbw6:=hbw4.trans (hb6.mono hbw4.size)
 have hx6:=hxo.below hb6 hxo.lt
 have hk6:=hk5.below hb6
 have hh6:=hh5.below hb6
 clear hvf hMs hxo hk5 hh5
 have q0:=hx6.cell 0 _ rfl
 have q1:=hx6.cell 1 _ rfl
 have q2:=hx6.cell 2 _ rfl
 have q3:=hx6.cell 3 _ rfl
 have q4:=hx6.cell 4 _ rfl
 have q5:=hx6.cell 5 _ rfl
 have q6:=hx6.cell 6 _ rfl
 have q7:=hx6.cell 7 _ rfl
 have q8:=hx6.cell 8 _ rfl
 have q9:=hx6.cell 9 _ rfl
 have q10:=hx6.cell 10 _ rfl
 have q11:=hx6.cell 11 _ rfl
 have h12:=dSealed_any B O (.slice kA O.key.length kc) (.slice hA O.keys.length hc) M F b w6 (HV.out.glo.above hbw6) hOk.out hk6 (rd_blk hk6 (by have:=hOk.out.key;rcases hOk.out.kind with h|h<;>omega)) hh6 hMk.out (by omega) hM0
 unfold optV at h12
 go_wp2_with fail
 refine h12.mono ?_
 rintro e w7 ⟨⟨S,is,r,q,rfl,hsi,hr,hq,hrq,hrw,hqw⟩,hb7⟩
 have hx7:=hx6.below hb7 hx6.lt
 have hbw7:=hbw6.trans (hb7.mono hbw6.size)
 have hvr7:=hvr.below hb7
 clear h12 q0 q1 q2 q3 q4 q5 q6 q7 q8 q9 q10 q11 hM0
 obtain⟨hsf,hs,hi⟩|⟨hsf,hs,hi⟩:=hsi
 rotate_left
 ·have ha:O.all=false:=by
   cases h:O.all
   ·rfl
   ·exact absurd (.inl h) hsf
  have c8:w7.cell? ⟨x,8,none⟩=some (.bool false):=by rw [←ha];exact hx7.cell 8 _ rfl
  clear ha hs
  subst hi
  go_wp2_with fail
  refine(dAwake_any w7).mono ?_
  rintro e wz ⟨rfl,hbz⟩
  go_wp2_with fail
  go_ret
  exact⟨rfl,hbw7.trans (hbz.mono hbw7.size)⟩
 have HS:=Lib.hid hs
 clear hs
 subst hi
 have Hg:Hid (Sgd O M F b):=⟨hOk.out,hMk.out,hsf,hMl⟩
 have HSl:=sealed_len Hg.out HS.out
 obtain⟨lS,lSM⟩:=HSl
 obtain⟨fm,Hfm⟩: ∃z,Hid (z=formOf O.bdy):=⟨_,Lib.hid rfl⟩
 have hform:Hid (formOk fm):=by rw [Hfm.out];exact hOk.out.bform
 have hfl:=heads_len hMk.out.heads
 have hfc:=count_flatten (F:=F) (fun f hf=>(heads_ne hMk.out.heads) f hf)
 have hpF:=plain_heads hMk.out.heads hMk.out.plain
 have HX:Hid (∀X,X=S.take (S.length-M.length)++(F.flatten++crlf++body)→SgOk O F b X [] F body):=by
  intro X hX
  have h:=sg_upon Hg.out.opt hMk.out hsf hMl F (fun f hf=>⟨hMk.out.flds f hf,(hMk.out.fields f hf).2.2.2.2⟩) (plain_flat hpF.1 rfl) (by omega) body hBp.out (by omega)
  rw [hX,HS.out,List.length_append,Nat.add_sub_cancel,List.take_left]
  simpa using h
 have hbF:b.length≤10000:=by omega
 clear hpF
 have c6:w7.cell? ⟨x,6,none⟩=some (Str O.bdy):=hx7.cell 6 _ rfl
 have n1:M.length≤S.length:=by omega
 have n2:max (0:Int) ((S.length:Int)-(M.length:Int))=(S.length:Int)-(M.length:Int):=by omega
 have n3:(0:Int)≤(S.length:Int)-(M.length:Int):=by omega
 have n4:(S.length:Int)-(M.length:Int)≤(S.length:Int):=by omega
 have n5:((S.length:Int)-(M.length:Int)).toNat=S.length-M.length:=by omega
 have n6:IntKind.i64.wrap ((S.length:Int)-(M.length:Int))=(S.length:Int)-(M.length:Int):=by rw [IntKind.wrap_i64];omega
 obtain⟨FL,HFL⟩: ∃z,Hid (z=F.flatten++crlf):=⟨_,Lib.hid rfl⟩
 have lFL:FL.length≤10002:=by rw [HFL.out,List.length_append];simp only [crlf,List.length_cons,List.length_nil];omega
 have n7: ¬9223372036854775807<S.length-M.length+FL.length:=by omega
 have n8: ¬9223372036854775807<S.length-M.length+FL.length+body.length:=by omega
 have hvd:Rd w7.drew (.slice vA F.length vc) (strs F):=hvr7
 have h20:=dHeadOf_any _ F w7.drew hvd (by omega) (by omega)
 rw [←HFL.out]at h20
 by_cases hb0:O.bdy= []
 ·have e6:O.bdy.isEmpty=true:=by rw [hb0];rfl
  have Hff:Hid (([115,105,109,112,108,101]:BS)=fm):=by show _=_;rw [Hfm.out];unfold formOf;rw [if_pos hb0];rfl
  clear hb0
  go_upto_region 12 with fail
  go_region_held3 (fun ww=>True) (trivial)
   (first|(go_at_call 20;refine h20.mono ?_;rintro e w8 ⟨he,hw8⟩;subst he)|fail)
  all_goals(first|(exfalso;omega)|skip)
  all_goals subst hw8
  all_goals clear h20 hvd n1 n2 n3 n4 n5 n6 n7 n8 e6 c6
  all_goals obtain⟨X,HX2⟩: ∃z,Hid (z=S.take (S.length-M.length)++(FL++body)):=⟨_,Lib.hid rfl⟩
  all_goals rw [←HX2.out]
  all_goals have HXX:Hid (SgOk O F b X [] F body):=HX.out X (by rw [HX2.out,HFL.out])
  all_goals have hx8:=hx7.drew
  all_goals have hr8:=hr.drew
  all_goals have hq8:=hq.drew
  all_goals have hbw8:=bdw hbw7
  all_goals clear HX hx7 hr hq hbw7 hvr7
  all_goals generalize w7.drew=w8 at*
  all_goals have hba:=(Below.refl w8.heap.size w8).alloc (Nat.le_refl _) (.cells #[Str b] 9)
  all_goals have hxa:=Blk.new w8 9 #[Str b]
  all_goals have hra:Rd (w8.alloc (.cells #[Str b] 9)) (.slice (some ⟨w8.heap.size,0,none⟩) 1 1) (strs [b]):=⟨_,1,rfl,Nat.le_refl _, .inr ⟨_,0,rfl,hxa.lt,fun j u hu=>by rw [Nat.zero_add];exact hxa.cell j u hu⟩⟩
  all_goals have hx9:=hx8.below hba hx8.lt
  all_goals have hr9:=hr8.below hba hr8.lt
  all_goals have hq9:=hq8.below hba hq8.lt
  all_goals have hbw9:=hbw8.trans (hba.mono hbw8.size)
  all_goals go_wp2_with fail
  all_goals generalize w8.alloc (.cells #[Str b] 9)=w9 at*
  all_goals refine(dCanonBody_any _ b _ w9 (by rw [Hff.out];exact hform.out) hra (by omega)).mono ?_
  all_goals rintro e w10 ⟨rfl,hb10⟩
  all_goals obtain⟨y1,Hy1⟩: ∃z,Hid (z=bodyOf fm b):=⟨_,Lib.hid rfl⟩
  all_goals rw [show bodyOf [115,105,109,112,108,101] b=bodyOf fm b by rw [Hff.out],←Hy1.out]
  all_goals have hx10:=hx9.below hb10 hx9.lt
  all_goals have hr10:=hr9.below hb10 hr9.lt
  all_goals have hq10:=hq9.below hb10 hq9.lt
  all_goals have hbw10:=hbw9.trans (hb10.mono hbw9.size)
  all_goals clear hxa hra hba hx8 hr8 hq8 hbw8 hx9 hr9 hq9 hbw9
  all_goals have hba:=(Below.refl w10.heap.size w10).alloc (Nat.le_refl _) (.cells #[Str body] 9)
  all_goals have hxa:=Blk.new w10 9 #[Str body]
  all_goals have hra:Rd (w10.alloc (.cells #[Str body] 9)) (.slice (some ⟨w10.heap.size,0,none⟩) 1 1) (strs [body]):=⟨_,1,rfl,Nat.le_refl _, .inr ⟨_,0,rfl,hxa.lt,fun j u hu=>by rw [Nat.zero_add];exact hxa.cell j u hu⟩⟩
  all_goals have hx11:=hx10.below hba hx10.lt
  all_goals have hr11:=hr10.below hba hr10.lt
  all_goals have hq11:=hq10.below hba hq10.lt
  all_goals have hbw11:=hbw10.trans (hba.mono hbw10.size)
  all_goals go_wp2_with fail
  all_goals generalize w10.alloc (.cells #[Str body] 9)=w11 at*
  all_goals refine(dCanonBody_any _ body _ w11 (by rw [Hff.out];exact hform.out) hra (by omega)).mono ?_
  all_goals rintro e w12 ⟨rfl,hb12⟩
  all_goals obtain⟨y2,Hy2⟩: ∃z,Hid (z=bodyOf fm body):=⟨_,Lib.hid rfl⟩
  all_goals rw [show bodyOf [115,105,109,112,108,101] body=bodyOf fm body by rw [Hff.out],←Hy2.out]
  all_goals have hx12:=hx11.below hb12 hx11.lt
  all_goals have hr12:=hr11.below hb12 hr11.lt
  all_goals have hq12:=hq11.below hb12 hq11.lt
  all_goals have hbw12:=hbw11.trans (hb12.mono hbw11.size)
  all_goals have hV12:=HV.out.above hbw12
  all_goals have hrec:=OneRec.of hr12 hq12 hrq
  all_goals have c10:=hx12.cell 10 _ rfl
  all_goals have lS2:(M.length:Int)<(S.length:Int):=by omega
  all_goals clear hxa hra hba hx10 hr10 hq10 hbw10 hx11 hr11 hq11 hbw11
  all_goals by_cases hy:y1=y2
  all_goals first
   |(have hy1:(y1==y2)=true:=by simpa using hy
     have hy2:(y1 !=y2)=false:=by simpa using hy
     have HC:=Lib.hid (law_body hOk.out hMk.out hsf (b':=body) (show bodyOf (formOf O.bdy) b=bodyOf (formOf O.bdy) body by rw [←Hfm.out,←Hy1.out,←Hy2.out];exact hy))
     clear hy
     go_wp2_with fail
     refine(Hg.out.fine B O.now 0 _ _ X [] F body HXX.out rfl rfl Hg.out.now_le HC.out w12 _ hV12 hrec).mono ?_
     rintro e w13 ⟨rfl,hb13⟩
     go_wp2_with fail
     go_ret
     exact⟨rfl,hbw12.trans (hb13.mono hbw12.size)⟩)
   |(have hy1:(y1==y2)=false:=by simpa using hy
     have hy2:(y1 !=y2)=true:=by simpa using hy
     clear hy
     go_wp2_with fail
     refine(Hg.out.fails B O.key X [] F body HXX.out Hg.out.keyOk w12 _ hV12 hrec).mono ?_
     rintro e w13 ⟨rfl,hb13⟩
     go_wp2_with fail
     go_ret
     exact⟨rfl,hbw12.trans (hb13.mono hbw12.size)⟩)
 ·have e6:O.bdy.isEmpty=false:=by rw [List.isEmpty_eq_false_iff];exact hb0
  have Hff:Hid (O.bdy=fm):=by show _=_;rw [Hfm.out];unfold formOf;rw [if_neg hb0]
  clear hb0
  go_upto_region 12 with fail
  go_region_held3 (fun ww=>True) (trivial)
   (first|(go_at_call 20;refine h20.mono ?_;rintro e w8 ⟨he,hw8⟩;subst he)|fail)
  all_goals(first|(exfalso;omega)|skip)
  all_goals subst hw8
  all_goals clear h20 hvd n1 n2 n3 n4 n5 n6 n7 n8 e6 c6
  all_goals obtain⟨X,HX2⟩: ∃z,Hid (z=S.take (S.length-M.length)++(FL++body)):=⟨_,Lib.hid rfl⟩
  all_goals rw [←HX2.out]
  all_goals have HXX:Hid (SgOk O F b X [] F body):=HX.out X (by rw [HX2.out,HFL.out])
  all_goals have hx8:=hx7.drew
  all_goals have hr8:=hr.drew
  all_goals have hq8:=hq.drew
  all_goals have hbw8:=bdw hbw7
  all_goals clear HX hx7 hr hq hbw7 hvr7
  all_goals generalize w7.drew=w8 at*
  all_goals have hba:=(Below.refl w8.heap.size w8).alloc (Nat.le_refl _) (.cells #[Str b] 9)
  all_goals have hxa:=Blk.new w8 9 #[Str b]
  all_goals have hra:Rd (w8.alloc (.cells #[Str b] 9)) (.slice (some ⟨w8.heap.size,0,none⟩) 1 1) (strs [b]):=⟨_,1,rfl,Nat.le_refl _, .inr ⟨_,0,rfl,hxa.lt,fun j u hu=>by rw [Nat.zero_add];exact hxa.cell j u hu⟩⟩
  all_goals have hx9:=hx8.below hba hx8.lt
  all_goals have hr9:=hr8.below hba hr8.lt
  all_goals have hq9:=hq8.below hba hq8.lt
  all_goals have hbw9:=hbw8.trans (hba.mono hbw8.size)
  all_goals go_wp2_with fail
  all_goals generalize w8.alloc (.cells #[Str b] 9)=w9 at*
  all_goals refine(dCanonBody_any _ b _ w9 (by rw [Hff.out];exact hform.out) hra (by omega)).mono ?_
  all_goals rintro e w10 ⟨rfl,hb10⟩
  all_goals obtain⟨y1,Hy1⟩: ∃z,Hid (z=bodyOf fm b):=⟨_,Lib.hid rfl⟩
  all_goals rw [show bodyOf O.bdy b=bodyOf fm b by rw [Hff.out],←Hy1.out]
  all_goals have hx10:=hx9.below hb10 hx9.lt
  all_goals have hr10:=hr9.below hb10 hr9.lt
  all_goals have hq10:=hq9.below hb10 hq9.lt
  all_goals have hbw10:=hbw9.trans (hb10.mono hbw9.size)
  all_goals clear hxa hra hba hx8 hr8 hq8 hbw8 hx9 hr9 hq9 hbw9
  all_goals have hba:=(Below.refl w10.heap.size w10).alloc (Nat.le_refl _) (.cells #[Str body] 9)
  all_goals have hxa:=Blk.new w10 9 #[Str body]
  all_goals have hra:Rd (w10.alloc (.cells #[Str body] 9)) (.slice (some ⟨w10.heap.size,0,none⟩) 1 1) (strs [body]):=⟨_,1,rfl,Nat.le_refl _, .inr ⟨_,0,rfl,hxa.lt,fun j u hu=>by rw [Nat.zero_add];exact hxa.cell j u hu⟩⟩
  all_goals have hx11:=hx10.below hba hx10.lt
  all_goals have hr11:=hr10.below hba hr10.lt
  all_goals have hq11:=hq10.below hba hq10.lt
  all_goals have hbw11:=hbw10.trans (hba.mono hbw10.size)
  all_goals go_wp2_with fail
  all_goals generalize w10.alloc (.cells #[Str body] 9)=w11 at*
  all_goals refine(dCanonBody_any _ body _ w11 (by rw [Hff.out];exact hform.out) hra (by omega)).mono ?_
  all_goals rintro e w12 ⟨rfl,hb12⟩
  all_goals obtain⟨y2,Hy2⟩: ∃z,Hid (z=bodyOf fm body):=⟨_,Lib.hid rfl⟩
  all_goals rw [show bodyOf O.bdy body=bodyOf fm body by rw [Hff.out],←Hy2.out]
  all_goals have hx12:=hx11.below hb12 hx11.lt
  all_goals have hr12:=hr11.below hb12 hr11.lt
  all_goals have hq12:=hq11.below hb12 hq11.lt
  all_goals have hbw12:=hbw11.trans (hb12.mono hbw11.size)
  all_goals have hV12:=HV.out.above hbw12
  all_goals have hrec:=OneRec.of hr12 hq12 hrq
  all_goals have c10:=hx12.cell 10 _ rfl
  all_goals have lS2:(M.length:Int)<(S.length:Int):=by omega
  all_goals clear hxa hra hba hx10 hr10 hq10 hbw10 hx11 hr11 hq11 hbw11
  all_goals by_cases hy:y1=y2
  all_goals first
   |(have hy1:(y1==y2)=true:=by simpa using hy
     have hy2:(y1 !=y2)=false:=by simpa using hy
     have HC:=Lib.hid (law_body hOk.out hMk.out hsf (b':=body) (show bodyOf (formOf O.bdy) b=bodyOf (formOf O.bdy) body by rw [←Hfm.out,←Hy1.out,←Hy2.out];exact hy))
     clear hy
     go_wp2_with fail
     refine(Hg.out.fine B O.now 0 _ _ X [] F body HXX.out rfl rfl Hg.out.now_le HC.out w12 _ hV12 hrec).mono ?_
     rintro e w13 ⟨rfl,hb13⟩
     go_wp2_with fail
     go_ret
     exact⟨rfl,hbw12.trans (hb13.mono hbw12.size)⟩)
   |(have hy1:(y1==y2)=false:=by simpa using hy
     have hy2:(y1 !=y2)=true:=by simpa using hy
     clear hy
     go_wp2_with fail
     refine(Hg.out.fails B O.key X [] F body HXX.out Hg.out.keyOk w12 _ hV12 hrec).mono ?_
     rintro e w13 ⟨rfl,hb13⟩
     go_wp2_with fail
     go_ret
     exact⟨rfl,hbw12.trans (hb13.mono hbw12.size)⟩)
end Go.Proofs.YtgilnagajcfkpaaGreatDoor
