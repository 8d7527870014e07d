import Derived.Test.YtgilnagajcfkpaaGreatDoorQ45
set_option maxHeartbeats 4000000
set_option maxRecDepth 1000000
set_option linter.all false
namespace Go.Proofs.YtgilnagajcfkpaaGreatDoor
open Go.RowKit
theorem relS_len (l:BS): ∀(s:BS×Bool×BS),(l.foldl relStep s).1.length+(l.foldl relStep s).2.2.length≤s.1.length+s.2.2.length+2*l.length:=by
 induction l with
 |nil=>intro s;simp
 |cons c r ih=>
  intro s
  rw [List.foldl_cons]
  have h:=ih (relStep s c)
  have h2:(relStep s c).1.length+(relStep s c).2.2.length≤s.1.length+s.2.2.length+2:=by
   unfold relStep
   split
   ·simp
   ·split
    ·simp;omega
    ·simp;split<;>simp<;>omega
  simp only [List.length_cons]
  omega
theorem noEndsR_len: ∀(l:BS),(noEndsR l).length≤l.length
 | []=>by simp [noEndsR]
 | [a]=>by unfold noEndsR;split<;>simp_all
 |a::b::r=>by
  by_cases h:a=10∧b=13
  ·obtain⟨rfl,rfl⟩:=h
   rw [noEndsR]
   have:=noEndsR_len r
   simp;omega
  ·rw [noEndsR]
   ·exact Nat.le_refl _
   ·intro r' e;injection e with e1 e2;injection e2 with e2 e3;exact h ⟨e1,e2⟩
theorem body_len (form b:BS):(bodyOf form b).length≤4*b.length+2:=by
 have h1:=ended_len false b
 unfold bodyOf
 split
 ·have h:=noEndsR_len (ended b).reverse
  simp only [noEnds,List.length_append,List.length_reverse,crlf,List.length_cons,List.length_nil]at h⊢
  have h1:(ended b).length≤2*b.length:=h1
  omega
 ·have h:=relS_len (ended b) ([],false,[])
  have h1:(ended b).length≤2*b.length:=h1
  simp only [List.length_nil]at h
  dsimp only
  split
  ·simp
  ·simp only [List.length_append,crlf,List.length_cons,List.length_nil];omega
theorem heads_ne {m:BS} {F:List BS} {b:BS} (h:heads m=some (F,b)): ∀f∈F,f≠ []:=fun f hf=>((heads_flds h).1 f hf).ne
theorem joinC_len: ∀(l:List BS),(joinC l).length≤(l.map List.length).sum+l.length
 | []=>by simp [joinC]
 | [a]=>by simp [joinC]
 |a::b::r=>by
  have ih:=joinC_len (b::r)
  rw [joinC]
  ·simp only [List.length_append,List.map_cons,List.sum_cons,List.length_cons,List.length_nil]at ih⊢
   omega
  ·simp
theorem sum_le (l:List BS)(n:Nat)(h: ∀x∈l,x.length≤n):(l.map List.length).sum≤l.length*n:=by
 induction l with
 |nil=>simp
 |cons a r ih=>
  have h1:=h a (by simp)
  have h2:=ih (fun x hx=>h x (by simp [hx]))
  simp only [List.map_cons,List.sum_cons,List.length_cons,Nat.add_mul]
  omega
theorem sum_flat (F:List BS):((F.map name).map List.length).sum≤F.flatten.length:=by
 induction F with
 |nil=>simp
 |cons a r ih=>
  have:=nmLen a
  simp only [List.map_cons,List.sum_cons,List.flatten_cons,List.length_append]
  omega
theorem names_len {o:Opt} {m body:BS} {F:List BS} (hO:OptOk o)(hM:MsgOk m F body)(hm:m.length≤100000):(joinC (namesOf o F)).length≤400000∧(namesOf o F).length≤200000:=by
 have hlf:=heads_len hM.heads
 have hcf:=count_flatten (F:=F) (fun f hf=>(heads_ne hM.heads) f hf)
 unfold namesOf
 split
 ·have h1:=joinC_len (F.map name)
  have h2:=sum_flat F
  rw [List.length_map]at h1⊢
  omega
 ·have h1:=joinC_len o.keys
  have h2:=sum_le o.keys 200 hO.lens.2.2.2
  have h3:=hO.nkeys
  omega
theorem names_short {o:Opt} {m body:BS} {F:List BS} (hO:OptOk o)(hM:MsgOk m F body)(hm:m.length≤100000): ∀x∈namesOf o F,x.length≤400000:=by
 have hlf:=heads_len hM.heads
 unfold namesOf
 split
 ·intro x hx
  obtain⟨f,hf,rfl⟩:=List.mem_map.1 hx
  have:=mem_flatten_len hf
  have:=nmLen f
  omega
 ·intro x hx
  have:=hO.lens.2.2.2 x hx
  omega
def SignPost (w:World)(sg op:Nat)(o:Opt)(bv:Value)(lr:Int)(F:List BS)(body:BS)(e:Ending)(w':World):Prop:=
 e= .returned .nilIface∧∃mb n,Blk w' sg 181 (sgnCells o op bv lr true (.map (some mb)))∧MapS w' mb n (PF (optT o F body) (enc64 (sigOf o F body)))∧n≤1000∧w.heap.size≤mb∧Frm (· =sg) w w'
theorem sign_any (B sg op:Nat)(o:Opt)(kv ksv bv:Value)(lr:Int)(m:BS)(F:List BS)(body:BS)(w:World)(hG:Glo B w)(hs:Blk w sg 181 (sgnCells o op bv lr true (.map none)))(hop:Blk w op 137 (optCells o kv ksv))(hBs:B≤sg)(hBo:B≤op)(hso:sg≠op)
 (hbv:BufV w bv m)(hk:Rd w kv (byts o.key))(hks:KeysIn w o ksv)(hO:OptOk o)(hM:MsgOk m F body)(hf:o.all=true∨∃k∈o.keys,lower k=fromS)(hm:m.length≤100000):
 Calls Tryz.prog 99 #[.pointer (some ⟨sg,0,none⟩)] w (SignPost w sg op o bv lr F body):=by
 have s0:w.cell? ⟨sg,0,none⟩=some (.pointer (some ⟨op,0,none⟩)):=hs.cell 0 _ rfl
 go_enter Tryz.func99,Tryz.ntmps99
 go_wp2_with fail
 refine(bufBytes_any sg 4 181 _ bv m w hs rfl rfl hbv).mono ?_
 rintro e w1 ⟨rfl,k1,rfl⟩
 have hb1:Below w.heap.size w (w.drewN k1):=bdN (Below.refl _ _) _
 have hbv1:BufV (w.drewN k1) bv m:=hbv
 generalize hw1:w.drewN k1=w1 at*
 clear hw1
 have hbl:=hbv1.lt
 go_wp2_with fail
 refine(bytNew_any bv m w1 hbv1.rd hbl).mono ?_
 rintro e w2 ⟨rfl,hb2,hs2,hsrc⟩
 have hb2':=hb1.trans (hb2.mono hb1.size)
 obtain⟨rh,hrh⟩: ∃rh,Hid (rh=w1.heap.size):=⟨_,Lib.hid rfl⟩
 rw [←hrh.out]at hs2 hsrc⊢
 have hrw:w.heap.size≤rh:=by rw [hrh.out];exact hb1.size
 go_wp2_with fail
 refine(bioNew2_any (.iface 238 (.pointer (some ⟨rh,0,none⟩))) rh m w2 (fun g bb hg hbb=>hsrc g bb (by omega) (by omega)) (by omega) hs2).mono ?_
 rintro e w3 ⟨rfl,hb3,cs,hbio⟩
 have hb3':=hb2'.trans (hb3.mono hb2'.size)
 obtain⟨rg,hrg⟩: ∃rg,Hid (rg=w2.heap.size):=⟨_,Lib.hid rfl⟩
 rw [←hrg.out]at hbio⊢
 have hrw2:w.heap.size≤rg:=by rw [hrg.out];exact hb2'.size
 have hG3:=hG.above hb3'
 have h6:=hG.six
 have hBl:=hG.le
 have hheads:heads (bioRest m 0 0 0 cs)=some (F,body):=by rw [show bioRest m 0 0 0 cs=m by simp [bioRest]];exact hM.heads
 go_wp2_with fail
 refine(readHeader_any rg (rg+1) rh _ m 0 0 0 cs F body w3 hbio hheads hG3.full ⟨by omega,by omega,by omega⟩).mono ?_
 rintro e w4 ⟨i4,r4,n4,cs4,hv,rfl,hoh,hbio4,hrest,hF4⟩
 have hlt3:=hbio.lt
 clear hsrc hheads hbio
 have hb4:Below w.heap.size w w4:=hb3'.trans (hF4.below (fun k _ e=>by omega) hb3'.size)
 have hs4:=hb4.size
 have hG4:=hG.above hb4
 go_wp2_with fail
 refine(new_any w4).mono ?_
 rintro e w5 ⟨rfl,hd5,hb5⟩
 have hb5':=hb4.trans (hb5.mono hs4)
 have s3:w5.cell? ⟨sg,3,none⟩=some (Str (formOf o.bdy)):=bcell hb5' (hs.cell 3 _ rfl)
 have hbf:formOk (formOf o.bdy):=hO.bform
 have hhf:formOk (formOf o.hdr):=hO.hform
 go_wp2_with fail
 refine(cns_any (formOf o.bdy) w5 hbf).mono ?_
 rintro e w6 ⟨rfl,hb6⟩
 have hb6':=hb5'.trans (hb6.mono hb5'.size)
 obtain⟨dg,hdg⟩: ∃dg,Hid (dg=w4.heap.size):=⟨_,Lib.hid rfl⟩
 rw [←hdg.out]at hd5⊢
 have hd6:=hd5.below hb6 hd5.lt
 have hdw:w.heap.size≤dg:=by rw [hdg.out];exact hs4
 have hsk:DigSk ⟨0,0,0,0,0,0,0,0⟩ dg w6 dg none []:=⟨.slice none 0 0,hd6,OwnAt.nil _ _ _,rfl,Nat.le_refl _⟩
 obtain⟨nfn,ct,wfn,cfn,At,hcm,hcn,hce,L,hnew⟩:=can_new (dig_law ⟨0,0,0,0,0,0,0,0⟩ dg) dg dg (formOf o.bdy) hbf (Nat.le_refl _)
 have hnw:=hnew ⟨w5.heap.size,0,none⟩ w6 none (fun k e=>by simp at e) hsk
 clear hnew hsk
 have hcm:=hcm ⟨w5.heap.size,0,none⟩
 have hcn:=hcn ⟨w5.heap.size,0,none⟩
 generalize canT (formOf o.bdy)=cT at*
 go_wp2_with fail
 refine hnw.mono ?_
 rintro e w7 ⟨rfl,hA7,hb7⟩
 have hb7':=hb6'.trans (hb7.mono hb6'.size)
 obtain⟨cc,hcc⟩: ∃cc,Hid (cc=w6.heap.size):=⟨_,Lib.hid rfl⟩
 rw [←hcc.out]at hA7⊢
 have hlt4:rg<dg∧rg+1<dg∧rh<dg:=by rw [hdg.out];exact hbio4.lt
 have hb47:Below dg w4 w7:=(hb5.mono (Nat.le_of_eq hdg.out)).trans ((hb6.mono (by rw [hdg.out];exact hb5.size)).trans (hb7.mono (by rw [hdg.out];exact Nat.le_trans hb5.size hb6.size)))
 have hbio7:Bio w7 rg (rg+1) rh (.iface 238 (.pointer (some ⟨rh,0,none⟩))) m i4 r4 n4 cs4:=hbio4.below hb47 hlt4.1 hlt4.2.1 hlt4.2.2
 clear hcm hcn hce hnw hbio4 hd5
 go_wp2_with fail
 refine(ioCopy_can L rg (rg+1) rh _ m i4 r4 n4 cs4 cc [] w7 hbio7 hA7 (by omega) (by omega) (by omega) (by simp;omega)).mono ?_
 rintro e w8 ⟨⟨nn,rfl⟩,hA8,hF8⟩
 rw [hrest,List.nil_append]at hA8
 have hb8:Below w.heap.size w w8:=hb7'.trans (hF8.below (fun k _ e=>by omega) hb7'.size)
 have hmc:=L.mc ⟨cc,0,none⟩
 have hnc:=L.nc ⟨cc,0,none⟩
 have hec:=L.ec
 have hbodl:body.length≤20000000:=by have:=heads_len hM.heads;omega
 have hcl:=L.close w8 cc body hA8 (by omega)
 have hgeo:=fun k hk=>hoh.lt k hk
 have hoh8:OwnAt w8 w3.heap.size 9 hv (strs F):=(hoh.below (by rw [←hdg.out];exact hb47)).frm hF8 (fun k hk=>by have:=hgeo k hk;have:=hdg.out;omega)
 clear hbio7 hF8 hA7 hoh
 go_wp2_with fail
 refine hcl.mono ?_
 rintro e w9 ⟨rfl,⟨o9,⟨bv9,hd9,ho9,_,_⟩,_⟩,hb9⟩
 have hb9':Below w.heap.size w w9:=hb8.trans (hb9.mono hdw)
 have hoh9:OwnAt w9 w3.heap.size 9 hv (strs F):=hoh8.frm (Frm.of_below hb9) (fun k hk=>by have:=hgeo k hk;have:=hdg.out;omega)
 have hb9s: ∀x:BS,bv9≠Str x:=fun x e=>by obtain⟨A,c,h⟩:=ho9.form;rw [h]at e;cases e
 have hne9:bv9.ownBlock≠some dg:=own_blk ho9 hd9 (by decide)
 have hG9:=hG.above hb9'
 have hblen:=body_len (formOf o.bdy) body
 clear hmc hnc hec hcl hA8
 go_wp2_with fail
 refine(sum_one dg _ bv9 _ w9 hd9 ho9.rd hne9 (by omega) hG9.k (by omega)).mono ?_
 rintro e w10 ⟨bh,rfl,hobh,⟨st,hd10⟩,hg10⟩
 have hb10:Below w.heap.size w w10:=hb9'.trans (grown_at hg10 hdw hb9'.size)
 have hrbh:=hobh.rd
 have hoh10:OwnAt w10 w3.heap.size 9 hv (strs F):=hoh9.kept hg10 (.inr (fun e=>by have:=hgeo dg e;have:=hdg.out;omega))
 clear hd9 ho9 hne9 hobh hoh8 hoh9 hgeo
 go_wp2_with fail
 have mixed:Tryz.prog.follows Departure.mixedOrders=true:=by kernel_rfl
 obtain⟨hfm,Hhf⟩: ∃x,Hid (x=formOf o.hdr):=⟨_,rfl⟩
 obtain⟨bfm,Hbf⟩: ∃x,Hid (x=formOf o.bdy):=⟨_,rfl⟩
 have q1:w10.drew.cell? ⟨sg,1,none⟩=some (Str o.kind):=bcell hb10 (hs.cell 1 _ rfl)
 have q2:w10.drew.cell? ⟨sg,2,none⟩=some (Str hfm):=by rw [Hhf.out];exact bcell hb10 (hs.cell 2 _ rfl)
 have q3:w10.drew.cell? ⟨sg,3,none⟩=some (Str bfm):=by rw [Hbf.out];exact bcell hb10 (hs.cell 3 _ rfl)
 have q4:w10.drew.cell? ⟨op,0,none⟩=some (Str o.dom):=bcell hb10 (hop.cell 0 _ rfl)
 have q5:w10.drew.cell? ⟨op,1,none⟩=some (Str o.sel):=bcell hb10 (hop.cell 1 _ rfl)
 have q6:w10.drew.cell? ⟨op,10,none⟩=some (.int .i64 o.now):=bcell hb10 (hop.cell 10 _ rfl)
 have q7:w10.drew.cell? ⟨op,11,none⟩=some (.bool true):=bcell hb10 (hop.cell 11 _ rfl)
 have l1:o.kind.length≤1000000:=by rcases hO.kinds with h|h<;>rw [h]<;>decide
 have l2:hfm.length≤1000000:=by rw [Hhf.out];rcases hO.hform with h|h<;>rw [h]<;>decide
 have l3:bfm.length≤1000000:=by rw [Hbf.out];rcases hO.bform with h|h<;>rw [h]<;>decide
 refine wp_region_held_drew (S:=fun x=>x.cell? ⟨sg,1,none⟩=some (Str o.kind)∧x.cell? ⟨sg,2,none⟩=some (Str hfm)∧x.cell? ⟨sg,3,none⟩=some (Str bfm)∧x.cell? ⟨op,0,none⟩=some (Str o.dom)∧x.cell? ⟨op,1,none⟩=some (Str o.sel)∧x.cell? ⟨op,10,none⟩=some (.int .i64 o.now)∧x.cell? ⟨op,11,none⟩=some (.bool true)) mixed ⟨q1,q2,q3,q4,q5,q6,q7⟩ ?_
 intro hSS
 clear q1 q2 q3 q4 q5 q6 q7
 refine take_at 2 (some 87) (.pointer (some ⟨sg,0,none⟩)) rfl rfl (by kernel_rfl) (by kernel_rfl) (by kernel_rfl) (fun _ _ _ h=>h) (Or.inl ⟨by kernel_rfl,?_⟩) hSS ?_
 ·intro x hx;(try dsimp only at hx);obtain⟨_,_,_,_,_,_,_⟩:=hx;go_simp;all_goals(first|omega|rfl)
 simp only [Act.put,List.setIfInBounds_toArray,List.set_cons_zero,List.set_cons_succ]
 refine take_at 3 (some 88) (.pointer (some ⟨sg,0,none⟩)) rfl rfl (by kernel_rfl) (by kernel_rfl) (by kernel_rfl) (fun _ _ _ h=>h) (Or.inl ⟨by kernel_rfl,?_⟩) hSS ?_
 ·intro x hx;(try dsimp only at hx);obtain⟨_,_,_,_,_,_,_⟩:=hx;go_simp;all_goals(first|omega|rfl)
 simp only [Act.put,List.setIfInBounds_toArray,List.set_cons_zero,List.set_cons_succ]
 refine take_at 4 (some 89) (.pointer (some ⟨sg,1,none⟩)) rfl rfl (by kernel_rfl) (by kernel_rfl) (by kernel_rfl) (fun _ _ _ h=>h) (Or.inl ⟨by kernel_rfl,?_⟩) hSS ?_
 ·intro x hx;(try dsimp only at hx);obtain⟨_,_,_,_,_,_,_⟩:=hx;go_simp;all_goals(first|omega|rfl)
 simp only [Act.put,List.setIfInBounds_toArray,List.set_cons_zero,List.set_cons_succ]
 refine take_at 5 (some 90) (Str o.kind) rfl rfl (by kernel_rfl) (by kernel_rfl) (by kernel_rfl) (fun _ _ _ h=>h) (Or.inl ⟨by kernel_rfl,?_⟩) hSS ?_
 ·intro x hx;(try dsimp only at hx);obtain⟨_,_,_,_,_,_,_⟩:=hx;go_simp;all_goals(first|omega|rfl)
 simp only [Act.put,List.setIfInBounds_toArray,List.set_cons_zero,List.set_cons_succ]
 refine take_at 6 (some 91) (Str (o.kind++ [45])) rfl rfl (by kernel_rfl) (by kernel_rfl) (by kernel_rfl) (fun _ _ _ h=>h) (Or.inl ⟨by kernel_rfl,?_⟩) hSS ?_
 ·intro x hx;(try dsimp only at hx);obtain⟨_,_,_,_,_,_,_⟩:=hx;go_simp;all_goals(first|omega|rfl)
 simp only [Act.put,List.setIfInBounds_toArray,List.set_cons_zero,List.set_cons_succ]
 refine take_at 7 (some 92) (Str (o.kind++ [45,115,104,97,50,53,54])) rfl rfl (by kernel_rfl) (by kernel_rfl) (by kernel_rfl) (fun _ _ _ h=>h) (Or.inl ⟨by kernel_rfl,?_⟩) hSS ?_
 ·intro x hx;(try dsimp only at hx);obtain⟨_,_,_,_,_,_,_⟩:=hx;go_simp;all_goals(first|omega|rfl)
 simp only [Act.put,List.setIfInBounds_toArray,List.set_cons_zero,List.set_cons_succ]
 refine take_at 9 (some 93) (bh) rfl rfl (by kernel_rfl) (by kernel_rfl) (by kernel_rfl) (fun _ _ _ h=>h) (Or.inl ⟨by kernel_rfl,?_⟩) hSS ?_
 ·intro x hx;(try dsimp only at hx);obtain⟨_,_,_,_,_,_,_⟩:=hx;go_simp;all_goals(first|omega|rfl)
 simp only [Act.put,List.setIfInBounds_toArray,List.set_cons_zero,List.set_cons_succ]
 refine take_at 12 (some 95) (.pointer (some ⟨sg,0,none⟩)) rfl rfl (by kernel_rfl) (by kernel_rfl) (by kernel_rfl) (fun _ _ _ h=>h) (Or.inl ⟨by kernel_rfl,?_⟩) hSS ?_
 ·intro x hx;(try dsimp only at hx);obtain⟨_,_,_,_,_,_,_⟩:=hx;go_simp;all_goals(first|omega|rfl)
 simp only [Act.put,List.setIfInBounds_toArray,List.set_cons_zero,List.set_cons_succ]
 refine take_at 13 (some 96) (.pointer (some ⟨sg,0,none⟩)) rfl rfl (by kernel_rfl) (by kernel_rfl) (by kernel_rfl) (fun _ _ _ h=>h) (Or.inl ⟨by kernel_rfl,?_⟩) hSS ?_
 ·intro x hx;(try dsimp only at hx);obtain⟨_,_,_,_,_,_,_⟩:=hx;go_simp;all_goals(first|omega|rfl)
 simp only [Act.put,List.setIfInBounds_toArray,List.set_cons_zero,List.set_cons_succ]
 refine take_at 14 (some 97) (.pointer (some ⟨sg,2,none⟩)) rfl rfl (by kernel_rfl) (by kernel_rfl) (by kernel_rfl) (fun _ _ _ h=>h) (Or.inl ⟨by kernel_rfl,?_⟩) hSS ?_
 ·intro x hx;(try dsimp only at hx);obtain⟨_,_,_,_,_,_,_⟩:=hx;go_simp;all_goals(first|omega|rfl)
 simp only [Act.put,List.setIfInBounds_toArray,List.set_cons_zero,List.set_cons_succ]
 refine take_at 15 (some 98) (Str hfm) rfl rfl (by kernel_rfl) (by kernel_rfl) (by kernel_rfl) (fun _ _ _ h=>h) (Or.inl ⟨by kernel_rfl,?_⟩) hSS ?_
 ·intro x hx;(try dsimp only at hx);obtain⟨_,_,_,_,_,_,_⟩:=hx;go_simp;all_goals(first|omega|rfl)
 simp only [Act.put,List.setIfInBounds_toArray,List.set_cons_zero,List.set_cons_succ]
 refine take_at 16 (some 99) (Str (hfm++ [47])) rfl rfl (by kernel_rfl) (by kernel_rfl) (by kernel_rfl) (fun _ _ _ h=>h) (Or.inl ⟨by kernel_rfl,?_⟩) hSS ?_
 ·intro x hx;(try dsimp only at hx);obtain⟨_,_,_,_,_,_,_⟩:=hx;go_simp;all_goals(first|omega|rfl)
 simp only [Act.put,List.setIfInBounds_toArray,List.set_cons_zero,List.set_cons_succ]
 refine take_at 17 (some 100) (.pointer (some ⟨sg,0,none⟩)) rfl rfl (by kernel_rfl) (by kernel_rfl) (by kernel_rfl) (fun _ _ _ h=>h) (Or.inl ⟨by kernel_rfl,?_⟩) hSS ?_
 ·intro x hx;(try dsimp only at hx);obtain⟨_,_,_,_,_,_,_⟩:=hx;go_simp;all_goals(first|omega|rfl)
 simp only [Act.put,List.setIfInBounds_toArray,List.set_cons_zero,List.set_cons_succ]
 refine take_at 18 (some 101) (.pointer (some ⟨sg,0,none⟩)) rfl rfl (by kernel_rfl) (by kernel_rfl) (by kernel_rfl) (fun _ _ _ h=>h) (Or.inl ⟨by kernel_rfl,?_⟩) hSS ?_
 ·intro x hx;(try dsimp only at hx);obtain⟨_,_,_,_,_,_,_⟩:=hx;go_simp;all_goals(first|omega|rfl)
 simp only [Act.put,List.setIfInBounds_toArray,List.set_cons_zero,List.set_cons_succ]
 refine take_at 19 (some 102) (.pointer (some ⟨sg,3,none⟩)) rfl rfl (by kernel_rfl) (by kernel_rfl) (by kernel_rfl) (fun _ _ _ h=>h) (Or.inl ⟨by kernel_rfl,?_⟩) hSS ?_
 ·intro x hx;(try dsimp only at hx);obtain⟨_,_,_,_,_,_,_⟩:=hx;go_simp;all_goals(first|omega|rfl)
 simp only [Act.put,List.setIfInBounds_toArray,List.set_cons_zero,List.set_cons_succ]
 refine take_at 20 (some 103) (Str bfm) rfl rfl (by kernel_rfl) (by kernel_rfl) (by kernel_rfl) (fun _ _ _ h=>h) (Or.inl ⟨by kernel_rfl,?_⟩) hSS ?_
 ·intro x hx;(try dsimp only at hx);obtain⟨_,_,_,_,_,_,_⟩:=hx;go_simp;all_goals(first|omega|rfl)
 simp only [Act.put,List.setIfInBounds_toArray,List.set_cons_zero,List.set_cons_succ]
 refine take_at 21 (some 104) (Str (hfm++47::bfm)) rfl rfl (by kernel_rfl) (by kernel_rfl) (by kernel_rfl) (fun _ _ _ h=>h) (Or.inl ⟨by kernel_rfl,?_⟩) hSS ?_
 ·intro x hx;(try dsimp only at hx);obtain⟨_,_,_,_,_,_,_⟩:=hx;go_simp;all_goals(first|omega|rfl)
 simp only [Act.put,List.setIfInBounds_toArray,List.set_cons_zero,List.set_cons_succ]
 refine take_at 23 (some 105) (.pointer (some ⟨op,0,none⟩)) rfl rfl (by kernel_rfl) (by kernel_rfl) (by kernel_rfl) (fun _ _ _ h=>h) (Or.inl ⟨by kernel_rfl,?_⟩) hSS ?_
 ·intro x hx;(try dsimp only at hx);obtain⟨_,_,_,_,_,_,_⟩:=hx;go_simp;all_goals(first|omega|rfl)
 simp only [Act.put,List.setIfInBounds_toArray,List.set_cons_zero,List.set_cons_succ]
 refine take_at 24 (some 106) (.pointer (some ⟨op,0,none⟩)) rfl rfl (by kernel_rfl) (by kernel_rfl) (by kernel_rfl) (fun _ _ _ h=>h) (Or.inl ⟨by kernel_rfl,?_⟩) hSS ?_
 ·intro x hx;(try dsimp only at hx);obtain⟨_,_,_,_,_,_,_⟩:=hx;go_simp;all_goals(first|omega|rfl)
 simp only [Act.put,List.setIfInBounds_toArray,List.set_cons_zero,List.set_cons_succ]
 refine take_at 25 (some 107) (.pointer (some ⟨op,0,none⟩)) rfl rfl (by kernel_rfl) (by kernel_rfl) (by kernel_rfl) (fun _ _ _ h=>h) (Or.inl ⟨by kernel_rfl,?_⟩) hSS ?_
 ·intro x hx;(try dsimp only at hx);obtain⟨_,_,_,_,_,_,_⟩:=hx;go_simp;all_goals(first|omega|rfl)
 simp only [Act.put,List.setIfInBounds_toArray,List.set_cons_zero,List.set_cons_succ]
 refine take_at 26 (some 108) (Str o.dom) rfl rfl (by kernel_rfl) (by kernel_rfl) (by kernel_rfl) (fun _ _ _ h=>h) (Or.inl ⟨by kernel_rfl,?_⟩) hSS ?_
 ·intro x hx;(try dsimp only at hx);obtain⟨_,_,_,_,_,_,_⟩:=hx;go_simp;all_goals(first|omega|rfl)
 simp only [Act.put,List.setIfInBounds_toArray,List.set_cons_zero,List.set_cons_succ]
 refine take_at 28 (some 109) (.pointer (some ⟨op,0,none⟩)) rfl rfl (by kernel_rfl) (by kernel_rfl) (by kernel_rfl) (fun _ _ _ h=>h) (Or.inl ⟨by kernel_rfl,?_⟩) hSS ?_
 ·intro x hx;(try dsimp only at hx);obtain⟨_,_,_,_,_,_,_⟩:=hx;go_simp;all_goals(first|omega|rfl)
 simp only [Act.put,List.setIfInBounds_toArray,List.set_cons_zero,List.set_cons_succ]
 refine take_at 29 (some 110) (.pointer (some ⟨op,0,none⟩)) rfl rfl (by kernel_rfl) (by kernel_rfl) (by kernel_rfl) (fun _ _ _ h=>h) (Or.inl ⟨by kernel_rfl,?_⟩) hSS ?_
 ·intro x hx;(try dsimp only at hx);obtain⟨_,_,_,_,_,_,_⟩:=hx;go_simp;all_goals(first|omega|rfl)
 simp only [Act.put,List.setIfInBounds_toArray,List.set_cons_zero,List.set_cons_succ]
 refine take_at 30 (some 111) (.pointer (some ⟨op,1,none⟩)) rfl rfl (by kernel_rfl) (by kernel_rfl) (by kernel_rfl) (fun _ _ _ h=>h) (Or.inl ⟨by kernel_rfl,?_⟩) hSS ?_
 ·intro x hx;(try dsimp only at hx);obtain⟨_,_,_,_,_,_,_⟩:=hx;go_simp;all_goals(first|omega|rfl)
 simp only [Act.put,List.setIfInBounds_toArray,List.set_cons_zero,List.set_cons_succ]
 refine take_at 31 (some 112) (Str o.sel) rfl rfl (by kernel_rfl) (by kernel_rfl) (by kernel_rfl) (fun _ _ _ h=>h) (Or.inl ⟨by kernel_rfl,?_⟩) hSS ?_
 ·intro x hx;(try dsimp only at hx);obtain⟨_,_,_,_,_,_,_⟩:=hx;go_simp;all_goals(first|omega|rfl)
 simp only [Act.put,List.setIfInBounds_toArray,List.set_cons_zero,List.set_cons_succ]
 refine take_at 33 (some 113) (.pointer (some ⟨op,0,none⟩)) rfl rfl (by kernel_rfl) (by kernel_rfl) (by kernel_rfl) (fun _ _ _ h=>h) (Or.inl ⟨by kernel_rfl,?_⟩) hSS ?_
 ·intro x hx;(try dsimp only at hx);obtain⟨_,_,_,_,_,_,_⟩:=hx;go_simp;all_goals(first|omega|rfl)
 simp only [Act.put,List.setIfInBounds_toArray,List.set_cons_zero,List.set_cons_succ]
 refine take_at 34 (some 114) (.pointer (some ⟨op,0,none⟩)) rfl rfl (by kernel_rfl) (by kernel_rfl) (by kernel_rfl) (fun _ _ _ h=>h) (Or.inl ⟨by kernel_rfl,?_⟩) hSS ?_
 ·intro x hx;(try dsimp only at hx);obtain⟨_,_,_,_,_,_,_⟩:=hx;go_simp;all_goals(first|omega|rfl)
 simp only [Act.put,List.setIfInBounds_toArray,List.set_cons_zero,List.set_cons_succ]
 refine take_at 35 (some 115) (.pointer (some ⟨op,10,none⟩)) rfl rfl (by kernel_rfl) (by kernel_rfl) (by kernel_rfl) (fun _ _ _ h=>h) (Or.inl ⟨by kernel_rfl,?_⟩) hSS ?_
 ·intro x hx;(try dsimp only at hx);obtain⟨_,_,_,_,_,_,_⟩:=hx;go_simp;all_goals(first|omega|rfl)
 simp only [Act.put,List.setIfInBounds_toArray,List.set_cons_zero,List.set_cons_succ]
 refine take_at 36 (some 116) (Tm o.now true) rfl rfl (by kernel_rfl) (by kernel_rfl) (by kernel_rfl) (fun _ _ _ h=>h) (Or.inl ⟨by kernel_rfl,?_⟩) hSS ?_
 ·intro x hx;(try dsimp only at hx);obtain⟨_,_,_,_,_,_,_⟩:=hx;go_simp;all_goals(first|omega|rfl)
 simp only [Act.put,List.setIfInBounds_toArray,List.set_cons_zero,List.set_cons_succ]
 have hw0:Below w.heap.size w w10.drew:=bdw hb10
 have hG0:=hG.above hw0
 have hrb0:Rd w10.drew bh (byts (sha (bodyOf bfm body))):=by rw [Hbf.out];exact hrbh.below (bdw (Below.refl _ _))
 have hS0: ∀x,Below w10.drew.heap.size w10.drew x→x.cell? ⟨sg,1,none⟩=some (Str o.kind)∧x.cell? ⟨sg,2,none⟩=some (Str hfm)∧x.cell? ⟨sg,3,none⟩=some (Str bfm)∧x.cell? ⟨op,0,none⟩=some (Str o.dom)∧x.cell? ⟨op,1,none⟩=some (Str o.sel)∧x.cell? ⟨op,10,none⟩=some (.int .i64 o.now)∧x.cell? ⟨op,11,none⟩=some (.bool true):=
  fun x hx=>⟨bcell hx hSS.1,bcell hx hSS.2.1,bcell hx hSS.2.2.1,bcell hx hSS.2.2.2.1,bcell hx hSS.2.2.2.2.1,bcell hx hSS.2.2.2.2.2.1,bcell hx hSS.2.2.2.2.2.2⟩
 have hd0:Blk w10.drew dg 270 (st.vals++ [bv9]):=hd10
 have hoh0:OwnAt w10.drew w3.heap.size 9 hv (strs F):=hoh10
 clear hd10 hoh10
 generalize w10.drew=w0 at*
 generalize ha0:(Act.mk _ _:Act)=a0
 have z0:a0.tmps.size=274:=by rw [←ha0];rfl
 have y92:a0.eval (.tmp 92)=Str (o.kind++sha256S):=by rw [←ha0];rfl
 have y93:a0.eval (.tmp 93)=bh:=by rw [←ha0];rfl
 have y104:a0.eval (.tmp 104)=Str (hfm++47::bfm):=by rw [←ha0];rfl
 have y108:a0.eval (.tmp 108)=Str o.dom:=by rw [←ha0];rfl
 have y112:a0.eval (.tmp 112)=Str o.sel:=by rw [←ha0];rfl
 have y116:a0.eval (.tmp 116)=Tm o.now true:=by rw [←ha0];rfl
 obtain⟨BH,HBH⟩: ∃x,Hid (x=enc64 (sha (bodyOf bfm body))):=⟨_,rfl⟩
 obtain⟨TM,HTM⟩: ∃x,Hid (x=Lib.decDigits o.now):=⟨_,rfl⟩
 have lBH:BH.length≤1000:=by rw [HBH.out,enc_len,sha_len];decide
 have lTM:TM.length≤1000:=by rw [HTM.out];have:=dec_len 9 o.now (by have:=hO.now;omega);omega
 have lens:=hO.lens
 have e60: ∀(args:Array Value) (w:World),(callFunc 60 args).run Tryz.prog w= .ok (.enter 60 args) w:=fun args w=>by kernel_rfl
 have e134: ∀(args:Array Value) (w:World),(callFunc 134 args).run Tryz.prog w= .ok (.enter 134 args) w:=fun args w=>by kernel_rfl
 have ev86: ∀(y1 x1 t e:Bool) (g:Nat),(putB y1 15 (.map (some g)) (putB x1 118 (.map (some g)) (putB t 117 (Str TM) (putB e 94 (Str BH) (putB true 86 (.map (some g)) a0))))).eval (.tmp 86)= .map (some g):=by
  intro y1 x1 t e g
  rw [evalB_ne _ _ _ _ _ (by decide),evalB_ne _ _ _ _ _ (by decide),evalB_ne _ _ _ _ _ (by decide),evalB_ne _ _ _ _ _ (by decide)]
  exact eval_same a0 86 _ (by omega)
 have evk: ∀(k:Nat) (y1 x1 t e m:Bool) (g:Nat),15≠k→118≠k→117≠k→94≠k→86≠k→(putB y1 15 (.map (some g)) (putB x1 118 (.map (some g)) (putB t 117 (Str TM) (putB e 94 (Str BH) (putB m 86 (.map (some g)) a0))))).eval (.tmp k)=a0.eval (.tmp k):=by
  intro k y1 x1 t e m g h1 h2 h3 h4 h5
  rw [evalB_ne _ _ _ _ _ h1,evalB_ne _ _ _ _ _ h2,evalB_ne _ _ _ _ _ h3,evalB_ne _ _ _ _ _ h4,evalB_ne _ _ _ _ _ h5]
 have ev94: ∀(y1 x1 t m:Bool) (g:Nat),(putB y1 15 (.map (some g)) (putB x1 118 (.map (some g)) (putB t 117 (Str TM) (putB true 94 (Str BH) (putB m 86 (.map (some g)) a0))))).eval (.tmp 94)=Str BH:=by
  intro y1 x1 t m g
  rw [evalB_ne _ _ _ _ _ (by decide),evalB_ne _ _ _ _ _ (by decide),evalB_ne _ _ _ _ _ (by decide)]
  exact eval_same _ 94 _ (by rw [putB_size];omega)
 have ev117: ∀(y1 x1 e m:Bool) (g:Nat),(putB y1 15 (.map (some g)) (putB x1 118 (.map (some g)) (putB true 117 (Str TM) (putB e 94 (Str BH) (putB m 86 (.map (some g)) a0))))).eval (.tmp 117)=Str TM:=by
  intro y1 x1 e m g
  rw [evalB_ne _ _ _ _ _ (by decide),evalB_ne _ _ _ _ _ (by decide)]
  exact eval_same _ 117 _ (by rw [putB_size,putB_size];omega)
 have ev118: ∀(y1 t e m:Bool) (g:Nat),(putB y1 15 (.map (some g)) (putB true 118 (.map (some g)) (putB t 117 (Str TM) (putB e 94 (Str BH) (putB m 86 (.map (some g)) a0))))).eval (.tmp 118)= .map (some g):=by
  intro y1 t e m g
  rw [evalB_ne _ _ _ _ _ (by decide)]
  exact eval_same _ 118 _ (by rw [putB_size,putB_size,putB_size];omega)
 refine wpAnyH_inv (Inv:=fun l x wx=> ∃(m v a e h c d s t u x1 y1:Bool) (g n:Nat),l= #[m,v,true,true,true,true,true,true,a,true,e,h,true,true,true,true,true,true,true,true,true,true,c,true,true,true,true,d,true,true,true,true,s,true,true,true,true,t,u,x1,y1]∧
  x=putB y1 15 (.map (some g)) (putB x1 118 (.map (some g)) (putB t 117 (Str TM) (putB e 94 (Str BH) (putB m 86 (.map (some g)) a0))))∧Below w0.heap.size w0 wx∧(m=true→w0.heap.size≤g∧MapS wx g n (FF o.kind BH (hfm++47::bfm) o.dom o.sel TM v a h c d s u))∧
  (m=false→v=false∧a=false∧h=false∧c=false∧d=false∧s=false∧u=false∧x1=false∧y1=false)∧n≤v.toNat+a.toNat+h.toNat+c.toNat+d.toNat+s.toNat+u.toNat) (fun l x wx hI=> ?_) (fun l x wx i hI hi=> ?_) (fun l x wx hI hr=> ?_) _ _ _ _ (Nat.le_of_ble_eq_true (by kernel_rfl)) ?_
 ·obtain⟨m,v,a,e,h,c,d,s,t,u,x1,y1,g,n,_,_,hb,_⟩:=hI
  exact hS0 wx hb
 ·obtain⟨m,v,a,e,h,c,d,s,t,u,x1,y1,g,n,rfl,rfl,hb,hM1,hM0,hn⟩:=hI
  have h1:=ready_false hi
  have hi41:i<41:=(Array.getElem?_eq_some_iff.1 h1).1
  rcases(show i=0∨i=1∨i=2∨i=3∨i=4∨i=5∨i=6∨i=7∨i=8∨i=9∨i=10∨i=11∨i=12∨i=13∨i=14∨i=15∨i=16∨i=17∨i=18∨i=19∨i=20∨i=21∨i=22∨i=23∨i=24∨i=25∨i=26∨i=27∨i=28∨i=29∨i=30∨i=31∨i=32∨i=33∨i=34∨i=35∨i=36∨i=37∨i=38∨i=39∨i=40 by omega)with rfl|rfl|rfl|rfl|rfl|rfl|rfl|rfl|rfl|rfl|rfl|rfl|rfl|rfl|rfl|rfl|rfl|rfl|rfl|rfl|rfl|rfl|rfl|rfl|rfl|rfl|rfl|rfl|rfl|rfl|rfl|rfl|rfl|rfl|rfl|rfl|rfl|rfl|rfl|rfl|rfl
  ·simp at h1;subst h1
   obtain⟨rfl,rfl,rfl,rfl,rfl,rfl,rfl,rfl,rfl⟩:=hM0 rfl
   refine wpOp_of rfl rfl (wp_makeMap rfl ?_)
   refine⟨true,false,false,e,false,false,false,false,t,false,false,false,wx.heap.size,0,rfl,?_,hb.alloc hb.size _,fun _=>⟨hb.size,(MapS.new wx).congr (ff_0 _ _ _ _ _ _)⟩,fun e=>(by cases e),by simp⟩
   show(putB t 117 (Str TM) (putB e 94 (Str BH) a0)).put (some 86) _=putB t 117 (Str TM) (putB e 94 (Str BH) (a0.put (some 86) _))
   rw [putB_comm _ _ _ _ _ _ (by decide),putB_comm _ _ _ _ _ _ (by decide)]
  ·simp at h1;subst h1
   have d0:=ready_dep hi 0 0 (by kernel_rfl)
   simp at d0;subst d0
   obtain⟨hg,hmp⟩:=hM1 rfl
   refine wpOp_of rfl rfl (wp_insert (.tmp 86) (.const (.string ⟨#[118]⟩)) (.const (.string ⟨#[49]⟩)) rfl (b:=g) (n:=n) (ev86 _ _ _ _ _) hmp (by simp at hn;have:=Bool.toNat_le a;have:=Bool.toNat_le h;have:=Bool.toNat_le c;have:=Bool.toNat_le d;have:=Bool.toNat_le s;have:=Bool.toNat_le u;omega) [118] _ (by decide) ?_ rfl rfl ?_)
   ·first|decide|omega|(simp [sha256S];omega)
   ·intro w' hm' hg'
    refine⟨true,true,a,e,h,c,d,s,t,u,x1,y1,g,n+1,rfl,rfl,hb.trans ((Below.refl _ _).grown hg' hb.size (by simp [hg])),fun _=>⟨hg,hm'.congr (ff_v _ _ _ _ _ _ _ _ _ _ _ _)⟩,fun e=>(by cases e),?_⟩
    simp at hn⊢;omega
  ·simp at h1
  ·simp at h1
  ·simp at h1
  ·simp at h1
  ·simp at h1
  ·simp at h1
  ·simp at h1;subst h1
   have d0:=ready_dep hi 0 0 (by kernel_rfl)
   simp at d0;subst d0
   obtain⟨hg,hmp⟩:=hM1 rfl
   refine wpOp_of rfl rfl (wp_insert (.tmp 86) (.const (.string ⟨#[97]⟩)) (.tmp 92) rfl (b:=g) (n:=n) (ev86 _ _ _ _ _) hmp (by simp at hn;have:=Bool.toNat_le v;have:=Bool.toNat_le h;have:=Bool.toNat_le c;have:=Bool.toNat_le d;have:=Bool.toNat_le s;have:=Bool.toNat_le u;omega) [97] _ (by decide) ?_ rfl ((evk 92 _ _ _ _ _ _ (by decide) (by decide) (by decide) (by decide) (by decide)).trans y92) ?_)
   ·first|decide|omega|(simp [sha256S];omega)
   ·intro w' hm' hg'
    refine⟨true,v,true,e,h,c,d,s,t,u,x1,y1,g,n+1,rfl,rfl,hb.trans ((Below.refl _ _).grown hg' hb.size (by simp [hg])),fun _=>⟨hg,hm'.congr (ff_a _ _ _ _ _ _ _ _ _ _ _ _)⟩,fun e=>(by cases e),?_⟩
    simp at hn⊢;omega
  ·simp at h1
  ·simp at h1;subst h1
   refine wpOp_of rfl rfl (wp_call1 60 (.tmp 93) 22 rfl e60 bh ((evk 93 _ _ _ _ _ _ (by decide) (by decide) (by decide) (by decide) (by decide)).trans y93) ?_)
   refine(zzEncode_any _ bh wx (hrb0.below hb) (by rw [sha_len];decide)).mono ?_
   rintro r w' ⟨rfl,hb'⟩
   rw [←HBH.out]
   refine⟨_,rfl,m,v,a,true,h,c,d,s,t,u,x1,y1,g,n,rfl,?_,hb.trans (hb'.mono hb.size),fun hm=>⟨(hM1 hm).1,(hM1 hm).2.below hb' (hM1 hm).2.lt⟩,hM0,hn⟩
   show(putB y1 15 _ (putB x1 118 _ (putB t 117 _ (putB false 94 _ (putB m 86 _ a0))))).put (some 94) _=_
   rw [putB_comm _ _ _ _ _ _ (by decide),putB_comm _ _ _ _ _ _ (by decide),putB_comm _ _ _ _ _ _ (by decide)]
   rfl
  ·simp at h1;subst h1
   have d0:=ready_dep hi 0 0 (by kernel_rfl)
   simp at d0;subst d0
   have d1:=ready_dep hi 1 10 (by kernel_rfl)
   simp at d1;subst d1
   obtain⟨hg,hmp⟩:=hM1 rfl
   refine wpOp_of rfl rfl (wp_insert (.tmp 86) (.const (.string ⟨#[98,104]⟩)) (.tmp 94) rfl (b:=g) (n:=n) (ev86 _ _ _ _ _) hmp (by simp at hn;have:=Bool.toNat_le v;have:=Bool.toNat_le a;have:=Bool.toNat_le c;have:=Bool.toNat_le d;have:=Bool.toNat_le s;have:=Bool.toNat_le u;omega) [98,104] _ (by decide) ?_ rfl (ev94 _ _ _ _ _) ?_)
   ·first|decide|omega|(simp [sha256S];omega)
   ·intro w' hm' hg'
    refine⟨true,v,a,true,true,c,d,s,t,u,x1,y1,g,n+1,rfl,rfl,hb.trans ((Below.refl _ _).grown hg' hb.size (by simp [hg])),fun _=>⟨hg,hm'.congr (ff_h _ _ _ _ _ _ _ _ _ _ _ _)⟩,fun e=>(by cases e),?_⟩
    simp at hn⊢;omega
  ·simp at h1
  ·simp at h1
  ·simp at h1
  ·simp at h1
  ·simp at h1
  ·simp at h1
  ·simp at h1
  ·simp at h1
  ·simp at h1
  ·simp at h1
  ·simp at h1;subst h1
   have d0:=ready_dep hi 0 0 (by kernel_rfl)
   simp at d0;subst d0
   obtain⟨hg,hmp⟩:=hM1 rfl
   refine wpOp_of rfl rfl (wp_insert (.tmp 86) (.const (.string ⟨#[99]⟩)) (.tmp 104) rfl (b:=g) (n:=n) (ev86 _ _ _ _ _) hmp (by simp at hn;have:=Bool.toNat_le v;have:=Bool.toNat_le a;have:=Bool.toNat_le h;have:=Bool.toNat_le d;have:=Bool.toNat_le s;have:=Bool.toNat_le u;omega) [99] _ (by decide) ?_ rfl ((evk 104 _ _ _ _ _ _ (by decide) (by decide) (by decide) (by decide) (by decide)).trans y104) ?_)
   ·first|decide|omega|(simp [sha256S];omega)
   ·intro w' hm' hg'
    refine⟨true,v,a,e,h,true,d,s,t,u,x1,y1,g,n+1,rfl,rfl,hb.trans ((Below.refl _ _).grown hg' hb.size (by simp [hg])),fun _=>⟨hg,hm'.congr (ff_c _ _ _ _ _ _ _ _ _ _ _ _)⟩,fun e=>(by cases e),?_⟩
    simp at hn⊢;omega
  ·simp at h1
  ·simp at h1
  ·simp at h1
  ·simp at h1
  ·simp at h1;subst h1
   have d0:=ready_dep hi 0 0 (by kernel_rfl)
   simp at d0;subst d0
   obtain⟨hg,hmp⟩:=hM1 rfl
   refine wpOp_of rfl rfl (wp_insert (.tmp 86) (.const (.string ⟨#[100]⟩)) (.tmp 108) rfl (b:=g) (n:=n) (ev86 _ _ _ _ _) hmp (by simp at hn;have:=Bool.toNat_le v;have:=Bool.toNat_le a;have:=Bool.toNat_le h;have:=Bool.toNat_le c;have:=Bool.toNat_le s;have:=Bool.toNat_le u;omega) [100] _ (by decide) ?_ rfl ((evk 108 _ _ _ _ _ _ (by decide) (by decide) (by decide) (by decide) (by decide)).trans y108) ?_)
   ·first|decide|omega|(simp [sha256S];omega)
   ·intro w' hm' hg'
    refine⟨true,v,a,e,h,c,true,s,t,u,x1,y1,g,n+1,rfl,rfl,hb.trans ((Below.refl _ _).grown hg' hb.size (by simp [hg])),fun _=>⟨hg,hm'.congr (ff_d _ _ _ _ _ _ _ _ _ _ _ _)⟩,fun e=>(by cases e),?_⟩
    simp at hn⊢;omega
  ·simp at h1
  ·simp at h1
  ·simp at h1
  ·simp at h1
  ·simp at h1;subst h1
   have d0:=ready_dep hi 0 0 (by kernel_rfl)
   simp at d0;subst d0
   obtain⟨hg,hmp⟩:=hM1 rfl
   refine wpOp_of rfl rfl (wp_insert (.tmp 86) (.const (.string ⟨#[115]⟩)) (.tmp 112) rfl (b:=g) (n:=n) (ev86 _ _ _ _ _) hmp (by simp at hn;have:=Bool.toNat_le v;have:=Bool.toNat_le a;have:=Bool.toNat_le h;have:=Bool.toNat_le c;have:=Bool.toNat_le d;have:=Bool.toNat_le u;omega) [115] _ (by decide) ?_ rfl ((evk 112 _ _ _ _ _ _ (by decide) (by decide) (by decide) (by decide) (by decide)).trans y112) ?_)
   ·first|decide|omega|(simp [sha256S];omega)
   ·intro w' hm' hg'
    refine⟨true,v,a,e,h,c,d,true,t,u,x1,y1,g,n+1,rfl,rfl,hb.trans ((Below.refl _ _).grown hg' hb.size (by simp [hg])),fun _=>⟨hg,hm'.congr (ff_s _ _ _ _ _ _ _ _ _ _ _ _)⟩,fun e=>(by cases e),?_⟩
    simp at hn⊢;omega
  ·simp at h1
  ·simp at h1
  ·simp at h1
  ·simp at h1
  ·simp at h1;subst h1
   refine wpOp_of rfl rfl (wp_call1 134 (.tmp 116) 87 rfl e134 (Tm o.now true) ((evk 116 _ _ _ _ _ _ (by decide) (by decide) (by decide) (by decide) (by decide)).trans y116) ?_)
   refine(formatTime_any B o.now true wx (hG0.above hb).pow (hG0.above hb).le (by have:=hO.now;omega)).mono ?_
   rintro r w' ⟨rfl,hb'⟩
   rw [←HTM.out]
   refine⟨_,rfl,m,v,a,e,h,c,d,s,true,u,x1,y1,g,n,rfl,?_,hb.trans (hb'.mono hb.size),fun hm=>⟨(hM1 hm).1,(hM1 hm).2.below hb' (hM1 hm).2.lt⟩,hM0,hn⟩
   show(putB y1 15 _ (putB x1 118 _ (putB false 117 _ (putB e 94 _ (putB m 86 _ a0))))).put (some 117) _=_
   rw [putB_comm _ _ _ _ _ _ (by decide),putB_comm _ _ _ _ _ _ (by decide)]
   rfl
  ·simp at h1;subst h1
   have d0:=ready_dep hi 0 0 (by kernel_rfl)
   simp at d0;subst d0
   have d1:=ready_dep hi 1 37 (by kernel_rfl)
   simp at d1;subst d1
   obtain⟨hg,hmp⟩:=hM1 rfl
   refine wpOp_of rfl rfl (wp_insert (.tmp 86) (.const (.string ⟨#[116]⟩)) (.tmp 117) rfl (b:=g) (n:=n) (ev86 _ _ _ _ _) hmp (by simp at hn;have:=Bool.toNat_le v;have:=Bool.toNat_le a;have:=Bool.toNat_le h;have:=Bool.toNat_le c;have:=Bool.toNat_le d;have:=Bool.toNat_le s;omega) [116] _ (by decide) ?_ rfl (ev117 _ _ _ _ _) ?_)
   ·first|decide|omega|(simp [sha256S];omega)
   ·intro w' hm' hg'
    refine⟨true,v,a,e,h,c,d,s,true,true,x1,y1,g,n+1,rfl,rfl,hb.trans ((Below.refl _ _).grown hg' hb.size (by simp [hg])),fun _=>⟨hg,hm'.congr (ff_u _ _ _ _ _ _ _ _ _ _ _ _)⟩,fun e=>(by cases e),?_⟩
    simp at hn⊢;omega
  ·simp at h1;subst h1
   have d0:=ready_dep hi 0 0 (by kernel_rfl)
   simp at d0;subst d0
   refine wpOp_of rfl rfl (wp_move (.tmp 86) _ (.inl rfl) (ev86 _ _ _ _ _) ?_)
   refine⟨true,v,a,e,h,c,d,s,t,u,true,y1,g,n,rfl,?_,hb,hM1,fun e=>(by cases e),hn⟩
   show(putB y1 15 _ (putB false 118 _ (putB t 117 _ (putB e 94 _ (putB true 86 _ a0))))).put (some 118) _=_
   rw [putB_comm _ _ _ _ _ _ (by decide)]
   rfl
  ·simp at h1;subst h1
   have d0:=ready_dep hi 0 39 (by kernel_rfl)
   simp at d0;subst d0
   cases m with
   |false=>have:=hM0 rfl;simp at this
   |true=>
   refine wpOp_of rfl rfl (wp_move (.tmp 118) _ (.inr rfl) (ev118 _ _ _ _ _) ?_)
   exact⟨true,v,a,e,h,c,d,s,t,u,true,true,g,n,rfl,rfl,hb,hM1,fun e=>(by cases e),hn⟩
 ·obtain⟨m,v,a,e,h,c,d,s,t,u,x1,y1,g,n,rfl,rfl,hb,hM1,hM0,hn⟩:=hI
  have hal:=fun k hk=>all_listed (by kernel_rfl) rfl hr 41 k hk hk
  obtain rfl:m=true:=by have:=hal 0 (by decide);simpa using this
  obtain rfl:v=true:=by have:=hal 1 (by decide);simpa using this
  obtain rfl:a=true:=by have:=hal 8 (by decide);simpa using this
  obtain rfl:e=true:=by have:=hal 10 (by decide);simpa using this
  obtain rfl:h=true:=by have:=hal 11 (by decide);simpa using this
  obtain rfl:c=true:=by have:=hal 22 (by decide);simpa using this
  obtain rfl:d=true:=by have:=hal 27 (by decide);simpa using this
  obtain rfl:s=true:=by have:=hal 32 (by decide);simpa using this
  obtain rfl:t=true:=by have:=hal 37 (by decide);simpa using this
  obtain rfl:u=true:=by have:=hal 38 (by decide);simpa using this
  obtain rfl:x1=true:=by have:=hal 39 (by decide);simpa using this
  obtain rfl:y1=true:=by have:=hal 40 (by decide);simpa using this
  obtain⟨hg,hmp⟩:=hM1 rfl
  clear hal hr hM1 hM0 ev86 evk ev94 ev117 ev118 y92 y93 y104 y108 y112 y116 z0
  have hbx:Below w.heap.size w wx:=hw0.trans (hb.mono hw0.size)
  have hdx:Blk wx dg 270 (st.vals++ [bv9]):=hd0.below hb hd0.lt
  have hohx:OwnAt wx w3.heap.size 9 hv (strs F):=hoh0.below hb
  clear hb hd0 hoh0 hrb0 hG0 hS0
  rw [←ha0]
  simp only [putB,if_true,Act.put,List.setIfInBounds_toArray,List.set_cons_zero,List.set_cons_succ]
  clear ha0 a0
  have hnq: ∀w,(binOp .neq 23 ksv (.slice none 0 0)).run Tryz.prog w= .ok (.bool (!o.all)) w:=by
   intro w
   rcases hks with⟨h1,h2⟩|⟨h1,a,n,c,h2,_⟩
   ·rw [h1,h2];rfl
   ·rw [h1,h2];rfl
  have heg: ∀w,(eqGuard .neq 23 (.tmp 122) (.const (.slice none 0 0)) ksv (.slice none 0 0)).run Tryz.prog w= .ok () w:=by
   intro w
   rcases hks with⟨h1,h2⟩|⟨h1,a,n,c,h2,_⟩
   ·rw [h2];kernel_rfl
   ·rw [h2];kernel_rfl
  have o6:wx.cell? ⟨op,6,none⟩=some ksv:=bcell hbx (hop.cell 6 _ rfl)
  obtain⟨A5,c5,rfl⟩:=hohx.form
  rw [stL]at hohx⊢
  go_upto_if 123 with fail
  go_cut [16,18,19,20]from 119 (fun v16 v18 v19 v20 wc=>Rd wc v16 (strs (namesOf o F))∧Below wx.heap.size wx wc)
  case first=>
   have hksx:=hks.below hbx
   cases hoa:o.all with
   |false=>
    obtain⟨_,a,n,c,hks2,hrd⟩:=hksx.resolve_left (by simp [hoa])
    have hN:Hid (namesOf o F=o.keys):=by show _=_;unfold namesOf;rw [hoa];rfl
    have hBx:Below wx.heap.size wx wx:=Below.refl _ _
    clear hks2 hksx hnq heg
    go_wp2_with fail
    go_meet
    case rel=>exact⟨by rw [hN.out];exact hrd,hBx⟩
   |true=>
    have hN:Hid (namesOf o F=F.map name):=by show _=_;unfold namesOf;rw [hoa];rfl
    have hpf:=plain_heads hM.heads hM.plain
    have hlf:=heads_len hM.heads
    have hcf:=count_flatten (F:=F) (fun f hf=>(heads_ne hM.heads) f hf)
    have hnil:OwnAt wx wx.heap.size 9 (.slice none 0 0) (strs []):=OwnAt.nil _ _ _
    have hBx:Below wx.heap.size wx wx:=Below.refl _ _
    have hL0:Hid (([]:List BS)=(F.map name).take 0):=rfl
    go_wp2_with fail
    go_loopw [16,130] (fun v16 v130 wy=> ∃(k:Nat) (L:List BS) (A6:Option Addr) (c6:Nat),k≤F.length∧v130= .int .i64 k∧v16= .slice A6 L.length c6∧Hid (L=(F.map name).take k)∧L.length≤k∧OwnAt wy wx.heap.size 9 v16 (strs L)∧Below wx.heap.size wx wy) (fun _ v130 _=>F.length-(intOf v130).toNat)
    case atStart=>exact⟨0,[],none,0,by omega,rfl,rfl,hL0,by simp,hnil,hBx⟩
    case round=>
     obtain⟨k,L,A6,c6,hkF,rfl,rfl,hL,hLk,hok,hbk⟩:=hrel
     by_cases hlt:k<F.length
     ·have hk0:(0:Int)≤(k:Int):=by omega
      have hk1:(k:Int)<(F.length:Int):=by omega
      obtain⟨g5,o5,cc5,he5⟩:=hohx.form_some (by intro e;have:=congrArg List.length e;simp [strs]at this;subst this;simp at hlt)
      injection he5 with he5 he6 he7
      clear he6 he7
      subst he5
      have hck:wr.cell? ⟨g5,o5+k,none⟩=some (Str F[k]):=bcell hbk (hohx.cell_at k (Str F[k]) (by simp [strs,hlt])).1
      have hfl:F[k].length≤40000000:=by have:=mem_flatten_len (List.getElem_mem hlt);omega
      have hH:Hid (L++ [name F[k]]=(F.map name).take (k+1)):=by show _=_;rw [hL.out,List.take_succ_eq_append_getElem (by simpa using hlt)];simp
      have hpk:=hpf.1 _ (List.getElem_mem hlt)
      go_wp2_with fail
      refine(parseHeaderField_any F[k] wr (by omega) hpk).mono ?_
      rintro e2 w20 ⟨rfl,hb20⟩
      have hok2:=hok.below hb20
      have hb20':=hbk.trans (hb20.mono hbk.size)
      go_wp2_with (first
       |(at_builtin;refine appS1' (.slice A6 L.length c6) rfl (.tmp 139) (.tmp 141) rfl L (name F[k]) rfl hok2 _ rfl rfl (by omega) hb20' (Nat.le_refl _) ?_;intro v21 w21 ho21 _ hb21;obtain⟨A7,c7,rfl⟩:=ho21.form)
       |fail)
      go_roundw
      case rel=>
       repeat apply Exists.intro
       exact⟨⟨k+1,L++ [name F[k]],A7,c7,hlt,by go_num,by rw [stL],hH,by simp;omega,ho21,hb21⟩,rfl⟩
      case measure=>simp [intOf];omega
     ·obtain rfl:k=F.length:=by omega
      have hrd:Rd wr (.slice A6 L.length c6) (strs (namesOf o F)):=by
       rw [hN.out,←List.take_of_length_le (l:=F.map name) (i:=F.length) (by simp),←hL.out]
       exact hok.rd
      go_wp2_with fail
      go_meet
      case rel=>exact⟨hrd,hbk⟩
  case rest=>
   obtain⟨hrd16,hbc⟩:=hcut
   have hNM:=names_ok hO hM hf
   have hnl:(joinC (namesOf o F)).length≤400000∧(namesOf o F).length≤200000:=names_len hO hM hm
   obtain⟨NM,hNMe⟩: ∃x,Hid (x=namesOf o F):=⟨_,rfl⟩
   rw [←hNMe.out]at hrd16 hnl
   have hn7:n≤7:=hn
   have hNM0:NM≠ []:=by rw [hNMe.out];exact hNM.ne
   have hF0:=hM.ne
   have hgw:w.heap.size≤g:=Nat.le_trans hw0.size hg
   obtain⟨f0,Hf0⟩: ∃f0,Hid (f0=FF o.kind BH (hfm++47::bfm) o.dom o.sel TM true true true true true true true):=⟨_,rfl⟩
   rw [←Hf0.out]at hmp
   have hS0:SgSt w wc dg st bv9 (.slice A5 F.length c5) F u16 NM g 7 f0:=⟨hbx.trans (hbc.mono hbx.size),hdx.below hbc hdx.lt,(hohx.below hbc).rd,hrd16,(hmp.below hbc hmp.lt).mono hn7⟩
   clear hn hmp hdx hohx hrd16
   go_wp2_with fail
   refine(formatTagList_any u16 NM wc hS0.nms (by omega) (by omega)).mono ?_
   rintro e2 w20 ⟨rfl,hb20⟩
   have hS1:=hS0.below hb20
   have hm20:=hS1.map
   have o2:w20.cell? ⟨op,2,none⟩=some (Str o.ident):=bcell hS1.b (hop.cell 2 _ rfl)
   have lid:o.ident.length≤200:=lens.2.2.1
   obtain⟨f1,Hf1⟩: ∃f1,Hid (f1=putF f0 [104] (joinC NM)):=⟨_,rfl⟩
   obtain⟨f2,Hf2⟩: ∃f2,Hid (f2=if o.ident= []then f1 else putF f1 [105] o.ident):=⟨_,rfl⟩
   go_upto_if 151 with(first|(at_mapUpdate;refine mapS_put rfl (.tmp 144) (.const (.string ⟨#[104]⟩)) (.tmp 146) rfl rfl hm20 (by omega) [104] (joinC NM) (by decide) (by omega) rfl rfl ?_;intro w21 hm21 hg21;have hS2:=hS1.put hm21 hg21 hgw hF0 hNM0;rw [←Hf1.out]at hS2;have o2:w21.cell? ⟨op,2,none⟩=some (Str o.ident):=bcell hS2.b (hop.cell 2 _ rfl))|fail)
   clear hS0 hS1 hm20 hm21 hg21 hb20
   go_cut [15]from 147 (fun v15 wd=>v15= .map (some g)∧SgSt w wd dg st bv9 (.slice A5 F.length c5) F u16 NM g 9 f2)
   case first=>
    have hS2':o.ident= []→SgSt w w21 dg st bv9 (.slice A5 F.length c5) F u16 NM g 9 f2:=fun hi=>by
     rw [Hf2.out,if_pos hi];exact⟨hS2.b,hS2.dig,hS2.hdr,hS2.nms,hS2.map.mono (by omega)⟩
    obtain⟨w22,hr22,hm22,hg22⟩:=run_mapS_put hS2.map (by omega) [105] o.ident (by decide) (by omega)
    have hr22:(Instr.mapUpdate 179 (.map (some g)) (.string ⟨#[105]⟩) (Str o.ident)).run Tryz.prog w21= .ok () w22:=hr22
    have hS3:=hS2.put hm22 hg22 hgw hF0 hNM0
    have hS3':o.ident≠ []→SgSt w w22 dg st bv9 (.slice A5 F.length c5) F u16 NM g 9 f2:=fun hi=>by
     rw [Hf2.out,if_neg hi];exact hS3
    clear hm22 hg22 hS3
    go_wp2_with fail
    ·rename_i hi
     go_meet
     case rel=>exact⟨rfl,hS3' (fun e=>by rw [e]at hi;cases hi)⟩
    ·rename_i hi
     go_meet
     case rel=>exact⟨rfl,hS2' (by cases hq:o.ident with|nil=>rfl|cons a r=>rw [hq]at hi;cases hi)⟩
   case rest=>
   obtain⟨rfl,hS3⟩:=hcut
   clear hS2 o2
   have o9:wc.cell? ⟨op,9,none⟩=some (.slice none 0 0):=bcell hS3.b (hop.cell 9 _ rfl)
   have o7:wc.cell? ⟨op,7,none⟩=some (.int .i64 o.exp):=bcell hS3.b (hop.cell 7 _ rfl)
   have o8:wc.cell? ⟨op,8,none⟩=some (.bool (o.exp !=0)):=bcell hS3.b (hop.cell 8 _ rfl)
   obtain⟨f3,Hf3⟩: ∃f3,Hid (f3=if o.exp=0 then f2 else putF f2 [120] (Lib.decDigits o.exp)):=⟨_,rfl⟩
   go_upto_if 191 with(first|(go_at_call 136;refine(timeIsZero_any o.exp (o.exp !=0) _).mono ?_;rintro e3 w30 ⟨rfl,hb30⟩;have hS4:=hS3.below hb30;have o7:w30.cell? ⟨op,7,none⟩=some (.int .i64 o.exp):=bcell hS4.b (hop.cell 7 _ rfl);have o8:w30.cell? ⟨op,8,none⟩=some (.bool (o.exp !=0)):=bcell hS4.b (hop.cell 8 _ rfl))|fail)
   clear hS3 hb30 o9
   go_cut [15]from 186 (fun v15 wd=>v15= .map (some g)∧SgSt w wd dg st bv9 (.slice A5 F.length c5) F u16 NM g 10 f3)
   case first=>
    have hS4':o.exp=0→SgSt w w30 dg st bv9 (.slice A5 F.length c5) F u16 NM g 10 f3:=fun hi=>by
     rw [Hf3.out,if_pos hi];exact⟨hS4.b,hS4.dig,hS4.hdr,hS4.nms,hS4.map.mono (by omega)⟩
    have hG30:=hG.above hS4.b
    have hdl:(Lib.decDigits o.exp).length≤10:=dec_len 9 o.exp (by have:=hO.exp;omega)
    go_wp2_with fail
    ·have hne:o.exp≠0:=by have h:= ‹(o.exp !=0)=true›;simpa using h
     refine(formatTime_any B o.exp _ w30 hG30.pow hG30.le (by have:=hO.exp;omega)).mono ?_
     rintro e3 w31 ⟨rfl,hb31⟩
     have hS5:=hS4.below hb31
     obtain⟨w32,hr32,hm32,hg32⟩:=run_mapS_put hS5.map (by omega) [120] (Lib.decDigits o.exp) (by decide) (by omega)
     have hr32:(Instr.mapUpdate 179 (.map (some g)) (.string ⟨#[120]⟩) (Str (Lib.decDigits o.exp))).run Tryz.prog w31= .ok () w32:=hr32
     have hS6:=hS5.put hm32 hg32 hgw hF0 hNM0
     have hS6':SgSt w w32 dg st bv9 (.slice A5 F.length c5) F u16 NM g 10 f3:=by
      rw [Hf3.out,if_neg hne];exact hS6
     clear hm32 hg32 hS6 hne
     go_wp2_with fail
     go_meet
     case rel=>exact⟨rfl,hS6'⟩
    ·have hne:o.exp=0:=by have h:= ‹(o.exp !=0)=false›;simpa using h
     go_meet
     case rel=>exact⟨rfl,hS4' hne⟩
   case rest=>
   obtain⟨rfl,hS5⟩:=hcut
   clear hS4 o7 o8
   have hl7:7≤7:=Nat.le_refl _
   go_wp2_with fail
   refine(digReset_any dg st bv9 wc hS5.dig).mono ?_
   rintro e3 w40 ⟨rfl,hd40,hF40⟩
   have hu40:=rd_ne_blkS hS5.nms hNM0 hS5.dig hb9s
   have hh40:=rd_ne_blkS hS5.hdr hF0 hS5.dig hb9s
   have hnm40:=hS5.nms.frm hF40 (fun k hk e=>hu40 (by rw [hk,e]))
   have hhd40:=hS5.hdr.frm hF40 (fun k hk e=>hh40 (by rw [hk,e]))
   have hmp40:=hS5.map.frm hF40 (fun e=>blk_ne_map hS5.dig hS5.map e.symm)
   have hb40:Below w.heap.size w w40:=hS5.b.trans (hF40.below (fun k _ e=>by rw [e];exact hdw) hS5.b.size)
   have hgd:dg≠g:=blk_ne_map hS5.dig hS5.map
   clear hS5 hF40
   have s2:w40.cell? ⟨sg,2,none⟩=some (Str hfm):=by rw [Hhf.out];exact bcell hb40 (hs.cell 2 _ rfl)
   have hhf2:formOk hfm:=by rw [Hhf.out];exact hhf
   go_wp2_with fail
   refine(cns_any hfm w40 hhf2).mono ?_
   rintro e3 w41 ⟨rfl,hb41⟩
   have hnm41:=hnm40.below hb41
   have hhd41:=hhd40.below hb41
   have hmp41:=hmp40.below hb41 hmp40.lt
   have hd41:=hd40.below hb41 hd40.lt
   have hb41':=hb40.trans (hb41.mono hb40.size)
   obtain⟨hfn,hhm,hhn,hhe,hhc⟩:=hdr_law hfm hhf2
   obtain⟨ca,Hca⟩: ∃x,Hid (x=w40.heap.size):=⟨_,rfl⟩
   rw [←Hca.out]
   have hhm:=hhm ⟨ca,0,none⟩
   have hhn:=hhn ⟨ca,0,none⟩
   generalize canT hfm=cT2 at*
   clear hnm40 hhd40 hmp40 hd40 hb40 s2
   have hhlt:=rd_lt hhd41 (by simp [strs,hF0])
   have hult:=rd_lt hnm41 (by simp [strs,hNM0])
   go_wp2_with fail
   refine(newPicker_any _ F w41 hhd41 hhlt).mono ?_
   rintro e3 w42 ⟨rfl,hsz42,hpk42,hb42⟩
   obtain⟨P,HP⟩: ∃x,Hid (x=w42.heap.size):=⟨_,rfl⟩
   obtain⟨pb,Hpb⟩: ∃x,Hid (x=w41.heap.size):=⟨_,rfl⟩
   have hgeo:LpGeo w.heap.size P dg (pb+1) pb g (.slice A5 F.length c5) u16:=by
    have e1:=HP.out;have e2:=Hpb.out;have e3:=hd41.lt;have e4:=hmp41.lt;have e5:=hb41'.size
    refine⟨by omega,by omega,by omega,by omega,by omega,fun k hk=> ?_,fun k hk=> ?_⟩
    ·have:=hhlt k hk;exact⟨by omega,by omega,fun e=>hh40 (by rw [hk,e])⟩
    ·have:=hult k hk;exact⟨by omega,by omega,fun e=>hu40 (by rw [hk,e])⟩
   have hL0:LpSt w w42 P dg (pb+1) pb st (.slice A5 F.length c5) F u16 NM g 10 f3 hfm 0:=⟨hb41'.trans (hb42.mono hb41'.size),hnm41.below hb42,hmp41.below hb42 hmp41.lt,⟨0,Nat.le_refl _,by rw [Hpb.out];exact hpk42⟩,⟨none,⟨.slice none 0 0,hd41.below hb42 hd41.lt,OwnAt.nil _ _ _,rfl,Nat.le_refl _⟩,fun j e=>by cases e⟩,Nat.le_of_eq HP.out⟩
   rw [←Hpb.out]
   clear hnm41 hhd41 hmp41 hd41 hb41' hsz42 hpk42 hb42 hhlt hult hb41 hh40 hu40
   obtain⟨g8,o8,c8,hu8⟩:=hL0.nms.ptr (by simp [strs,hNM0])
   rw [stL]at hu8
   subst hu8
   have hpf:=plain_heads hM.heads hM.plain
   have hlf:=heads_len hM.heads
   have hcf:=count_flatten (F:=F) (fun f hf=>(heads_ne hM.heads) f hf)
   have hff: ∀f∈F,f.length≤200000:=fun f hf=>by have:=mem_flatten_len hf;omega
   have hnmp: ∀x∈NM,x.length≤400000∧plain x=true:=by
    intro x hx
    rw [hNMe.out]at hx
    exact⟨names_short hO hM hm x hx,hNM.plain x hx⟩
   have lNM:NM.length≤200000:=hnl.2
   have lF:F.length≤200000:=by omega
   have lacc: ∀k,k≤NM.length→(accOf hfm F NM k).length≤200000*800010:=fun k hk=>by
    exact Nat.le_trans (accOf_len hfm F NM 800010 (fun f hf=>by have:=fieldOf_len hfm f;have:=hff f hf;omega) k hk) (Nat.mul_le_mul_right _ (Nat.le_trans hk lNM))
   go_wp2_with fail
   go_loopw [212] (fun v212 wy=> ∃k:Nat,k≤NM.length∧v212= .int .i64 k∧LpSt w wy P dg (pb+1) pb st (.slice A5 F.length c5) F (.slice (some ⟨g8,o8,none⟩) NM.length c8) NM g 10 f3 hfm k) (fun v212 _=>NM.length-(intOf v212).toNat)
   case atStart=>exact⟨0,Nat.zero_le _,rfl,hL0⟩
   case round=>
    obtain⟨k,hkN,rfl,hL⟩:=hrel
    clear hL0
    by_cases hlt:k<NM.length
    ·have hk0:(0:Int)≤(k:Int):=by omega
     have hk1:(k:Int)<(NM.length:Int):=by omega
     have hck:wr.cell? ⟨g8,o8+k,none⟩=some (Str NM[k]):=hL.nms.get k _ (by simp [strs,hlt])
     obtain⟨np,hnp,hpk⟩:=hL.pk
     have hmk:=hnmp NM[k] (List.getElem_mem hlt)
     go_wp2_with fail
     refine(pick_any (pb+1) pb np _ F (NM.take k) NM[k] wr hpk (by omega) (by omega) (fun f hf=>⟨by have:=hff f hf;omega,hpf.1 f hf⟩) (by omega) hmk.2).mono ?_
     rintro e3 w50 ⟨rfl,hpk50,hF50⟩
     have hstp:=accOf_step hfm F NM k hlt
     have hpm:=pickAt_mem F (lower NM[k]) (countIn (lower NM[k]) (NM.take k))
     obtain⟨kv1,Hkv⟩: ∃x,Hid (x=pickAt F (lower NM[k]) (countIn (lower NM[k]) (NM.take k))):=⟨_,Lib.hid rfl⟩
     rw [←Hkv.out]at hstp hpm⊢
     have Hstp:=Lib.hid hstp
     clear hstp hpk hck
     by_cases hpn:kv1= []
     ·have hL2:=hL.none hgeo hlt hpk50 (by omega) hF50 (by rw [←Hkv.out];exact hpn)
      have i1:kv1.isEmpty=true:=by rw [hpn];rfl
      clear hpn hpm hpk50 hF50
      go_wp2_with fail
      go_roundw
      case rel=>
       exact⟨k+1,hlt,by go_num,hL2⟩
      case measure=>simp [intOf];omega
     ·have hkF:=hpm.resolve_left hpn
      have i1:kv1.isEmpty=false:=by rw [List.isEmpty_eq_false_iff];exact hpn
      have lk:=hff kv1 hkF
      have pk:=hpf.1 kv1 hkF
      have Hst2:Hid (accOf hfm F NM (k+1)=accOf hfm F NM k++fieldOf hfm kv1):=by show _=_;rw [Hstp.out,if_neg hpn]
      clear hpn hpm Hstp
      go_wp2_with fail
      refine(hhc ⟨ca,0,none⟩ kv1 w50 pk (by omega)).mono ?_
      rintro e3 w51 ⟨rfl,hb51⟩
      obtain⟨od,hd51,hod,hnext⟩:=hL.some hgeo hlt hpk50 (by omega) hF50 hb51
      have lfo:=fieldOf_len hfm kv1
      obtain⟨fo,Hfo⟩: ∃x,Hid (x=fieldOf hfm kv1):=⟨_,Lib.hid rfl⟩
      rw [←Hfo.out]at lfo Hst2⊢
      clear hpk50 hF50 hb51
      go_wp2_with fail
      refine(ioWriteString_snk (dig_law st dg) ns226 dg od (accOf hfm F NM k) fo w51 hd51 (by have:=lacc k hkN;omega) (.inl rfl)).mono ?_
      rintro e3 w52 ⟨rfl,⟨od2,hd52,hod2⟩,hF52⟩
      have hL2:=hnext w52 od2 fo hd52 hod2 hF52 Hst2.out
      clear hnext hd52 hod2 hF52 hd51 hod
      go_wp2_with fail
      go_roundw
      case rel=>
       exact⟨k+1,hlt,by go_num,hL2⟩
      case measure=>simp [intOf];omega
    ·obtain rfl:k=NM.length:=by omega
     obtain⟨od,hdg,hod⟩:=hL.dig
     have hmp:=hL.map
     go_wp2_with (first|(at_mapUpdate;refine mapS_put rfl (.tmp 235) (.const (.string ⟨#[98]⟩)) (.const (.string ⟨#[]⟩)) rfl rfl hmp (by omega) [98] [] (by decide) (by simp) rfl rfl ?_;intro w60 hm60 hg60)|fail)
     have Hgat:f3=gathered o NM BH:=gathered_is o NM BH Hf0.out Hf1.out Hf2.out Hf3.out Hhf.out Hbf.out HTM.out
     have hm61:MapS w60 g 11 (PF (optTags o NM BH) []):=hm60.congr (fun z=>by rw [Hgat];exact gathered_eq o NM BH [] z)
     have hb60:Below w.heap.size w w60:=hL.b.trans ((Below.refl _ _).grown hg60 hL.b.size (by simp [hgw]))
     have hd60:=(dig_law st dg).frm _ _ _ _ _ _ hdg (Frm.of_grown hg60) (fun e=>hgd (Option.some.inj e)) (fun j hj e=>by have h1:=hod j hj;have h2:=hgeo.fg.1;have h3:=Option.some.inj e;omega)
     have heof60:=(hG.above hb60).eof
     have hacc:=accOf_all hfm F NM
     have lac:=lacc NM.length (Nat.le_refl _)
     obtain⟨AC,HAC⟩: ∃x,Hid (x=accOf hfm F NM NM.length):=⟨_,Lib.hid rfl⟩
     rw [←HAC.out]at hd60 lac hacc
     have Hacc:=Lib.hid hacc
     clear hm60 hg60 Hgat hdg hmp hL hacc lacc
     have HBHp:plain BH=true:=by rw [HBH.out];exact plain_enc _
     have hfl:=field_len hO (nm:=NM) (bh:=BH) hnl.1 lBH []
     have hfp:=plain_field (optTags o NM BH) [] (plain_opt hO (fun x hx=>(hnmp x hx).2) HBHp) rfl
     have hpf2:=pf_conds o NM BH []
     have hsh2:=opt_short (nm:=NM) (bh:=BH) hO (by omega) lBH
     obtain⟨SF,HSF⟩: ∃x,Hid (x=sigField (optTags o NM BH) []):=⟨_,Lib.hid rfl⟩
     rw [←HSF.out]at hfl hfp
     simp only [List.length_nil,Nat.add_zero]at hfl
     refine(formatSignature_any g 11 (PF (optTags o NM BH) []) (optTags o NM BH) [] w60 hm61 hpf2.1 hpf2.2.1 (opt_nodup o NM BH).1 hpf2.2.2 (opt_sorted o NM BH) (opt_count o NM BH).1 (by omega) (opt_count o NM BH).2 hsh2 (by simp) heof60).mono ?_
     rintro e3 w61 ⟨rfl,hb61⟩
     rw [←HSF.out]
     have hm62:=hm61.below hb61 hm61.lt
     have hd61:=(dig_law st dg).frm (fun _=>False) _ _ _ _ _ hd60 (Frm.of_new hb61) id (fun _ _=>id)
     have hb62:=hb60.trans (hb61.mono hb60.size)
     clear hm61 hb60 hd60 heof60 hpf2 hsh2 HBHp hb61
     go_wp2_with fail
     refine(hhc ⟨ca,0,none⟩ SF w61 hfp (by omega)).mono ?_
     rintro e3 w62 ⟨rfl,hb63⟩
     have hm63:=hm62.below hb63 hm62.lt
     have hd63:=(dig_law st dg).frm (fun _=>False) _ _ _ _ _ hd61 (Frm.of_new hb63) id (fun _ _=>id)
     have hb64:=hb62.trans (hb63.mono hb62.size)
     have lCF:=fieldOf_len hfm SF
     obtain⟨CF,HCF⟩: ∃x,Hid (x=fieldOf hfm SF):=⟨_,Lib.hid rfl⟩
     rw [←HCF.out]at lCF⊢
     clear hm62 hd61 hb62 hb63
     go_wp2_with fail
     refine(zzTrimRight_any CF w62 (by omega)).mono ?_
     rintro e3 w63 ⟨rfl,hb65⟩
     have hm65:=hm63.below hb65 hm63.lt
     have hd65:=(dig_law st dg).frm (fun _=>False) _ _ _ _ _ hd63 (Frm.of_new hb65) id (fun _ _=>id)
     have hb66:=hb64.trans (hb65.mono hb64.size)
     have lTF:=without_len CF
     obtain⟨TF,HTF⟩: ∃x,Hid (x=without CF):=⟨_,Lib.hid rfl⟩
     rw [←HTF.out]at lTF⊢
     clear hm63 hd63 hb64 hb65
     go_wp2_with fail
     refine(ioWriteString_snk (dig_law st dg) ns226 dg od AC TF w63 hd65 (by omega) (.inl rfl)).mono ?_
     rintro e3 w64 ⟨rfl,⟨od2,⟨bv2,hk67,ho67,_,_⟩,_⟩,hF67⟩
     have hm67:=hm65.frm hF67 (fun e=>by
      rcases e with e|e
      ·exact hgd e.symm
      ·have h1:=hod _ e.symm;have h2:=hgeo.fg.1;omega)
     have hb67:=hb66.trans (hF67.below (fun j _ e=>by
      rcases e with e|e
      ·rw [e];exact hgeo.fdg.2
      ·have h1:=hod _ e.symm;have h2:=hgeo.fq;omega) hb66.size)
     have hk670:=(hG.above hb67).k
     clear hm65 hd65 hb66 hF67
     go_wp2_with fail
     refine(sum_one dg st bv2 (AC++TF) w64 hk67 ho67.rd (own_blk ho67 hk67 (by decide)) (by omega) hk670 (by rw [List.length_append];omega)).mono ?_
     rintro e3 w65 ⟨v65,rfl,ho68,_,hg68⟩
     have hm68:=hm67.frm (Frm.of_grown hg68) (fun e=>hgd (Option.some.inj e).symm)
     have hb68:=hb67.trans ((Below.refl _ _).grown hg68 hb67.size (by simp [hdw]))
     have hk68:=(hG.above hb68).k
     have hkr68:=hk.below hb68
     have q3:w65.cell? ⟨op,3,none⟩=some (.iface 94 (Giv o.kind kv)):=bcell hb68 (hop.cell 3 _ rfl)
     clear hm67 hb67 hk67 ho67 hg68 hk670
     have mm:=m94_Sign o.kind kv
     have nn94:=n94_Sign o.kind kv
     have e239: ∀(args:Array Value) (w:World),(callFunc 239 args).run Tryz.prog w= .ok (.enter 239 args) w:=fun args w=>by kernel_rfl
     go_wp2_with fail
     refine(givenSign_any o.kind o.key (sha (AC++TF)) kv v65 w65 hkr68 ho68.rd hk68 (by have:=hO.key;rw [sha_len];omega)).mono ?_
     rintro e3 w66 ⟨sv,rfl,hsv,hb69⟩
     have hm69:=hm68.below hb69 hm68.lt
     have hb70:=hb68.trans (hb69.mono hb68.size)
     clear hm68 hb68 hk68 hkr68 ho68 q3 hb69
     go_wp2_with fail
     refine(zzEncode_any _ sv w66 hsv.rd (by rw [sha_len];decide)).mono ?_
     rintro e3 w67 ⟨rfl,hb71⟩
     have hm71:=hm69.below hb71 hm69.lt
     have hb72:=hb70.trans (hb71.mono hb70.size)
     have lSG:(enc64 (sha (o.key++sha (AC++TF)))).length≤1000:=by rw [enc_len,sha_len];decide
     obtain⟨SG,HSG⟩: ∃x,Hid (x=enc64 (sha (o.key++sha (AC++TF)))):=⟨_,Lib.hid rfl⟩
     rw [←HSG.out]at lSG⊢
     clear hm69 hb70 hb71 hsv
     go_wp2_with (first|(at_mapUpdate;refine mapS_put rfl (.tmp 267) (.const (.string ⟨#[98]⟩)) (.tmp 269) rfl rfl hm71 (by omega) [98] SG (by decide) (by omega) rfl rfl ?_;intro w72 hm72 hg72;have hb73:Below w.heap.size w w72:=hb72.trans ((Below.refl _ _).grown hg72 hb72.size (by simp [hgw]));have hs73:=hs.below hb73 hs.lt;have c8:=hs73.cell 8 _ rfl;have f8:=hs73.frozen 8)|fail)
     have hm73:MapS w72 g 12 (PF (optTags o NM BH) SG):=hm72.congr (fun z=>pf_put _ _ _ z)
     have hsg:sg≠g:=by have:=hs.lt;omega
     have hFs:Frm (· =sg) w72 (w72.setCell ⟨sg,8,none⟩ (.map (some g))):=(Frm.refl _ w72).setCell ⟨sg,8,none⟩ _ (fun _=>rfl)
     have hT:optTags o NM BH=optT o F body:=by rw [hNMe.out,HBH.out,Hbf.out];rfl
     have hSG:SG=enc64 (sigOf o F body):=by
      unfold sigOf
      rw [HSG.out,Hacc.out,HTF.out,HCF.out,HSF.out,hT,Hhf.out,hNMe.out]
     have hm74:=hm73.frm hFs hsg.symm
     rw [hT,hSG]at hm74
     have hsf:=hs73.set 8 (.map (some g))
     have hFf:Frm (· =sg) w (w72.setCell ⟨sg,8,none⟩ (.map (some g))):=(Frm.of_new hb73).setCell ⟨sg,8,none⟩ _ (fun _=>rfl)
     go_ret
     exact⟨rfl,g,12,hsf,hm74,by omega,hgw,hFf⟩
 ·exact⟨false,false,false,false,false,false,false,false,false,false,false,false,0,0,rfl,rfl,Below.refl _ _,fun e=>(by cases e),fun _=>⟨rfl,rfl,rfl,rfl,rfl,rfl,rfl,rfl,rfl⟩,by simp⟩
end Go.Proofs.YtgilnagajcfkpaaGreatDoor
