import Derived.Test.YtgilnagajcfkpaaGreatDoorQ13
import Derived.Test.YtgilnagajcfkpaaGreatDoorQ18
set_option maxHeartbeats 4000000
set_option maxRecDepth 1000000
set_option linter.all false
namespace Go.Proofs.YtgilnagajcfkpaaGreatDoor
open Go.RowKit
theorem strs_set (l:List BS)(k:Nat)(u:BS):(strs l).set k (Str u)=strs (l.set k u):=by simp [strs,List.map_set]
theorem strips_set (ps:List BS)(k:Nat)(h:k<ps.length):((ps.take k).map strip++ps.drop k).set k (strip ps[k])=(ps.take (k+1)).map strip++ps.drop (k+1):=by
 have h1:((ps.take k).map strip).length=k:=by simp;omega
 rw [List.set_append,if_neg (by omega),h1,Nat.sub_self,List.drop_eq_getElem_cons h,List.set_cons_zero,List.take_succ_eq_append_getElem h,List.map_append]
 simp
theorem strips_at (ps:List BS)(k:Nat)(h:k<ps.length):(strs ((ps.take k).map strip++ps.drop k))[k]?=some (Str ps[k]):=by
 have h1:((ps.take k).map strip).length=k:=by simp;omega
 unfold strs
 rw [List.getElem?_map,List.getElem?_append_right (by omega),h1,Nat.sub_self,List.drop_eq_getElem_cons h];rfl
theorem plain_split (c:UInt8)(l:BS)(h:plain l=true): ∀p∈splitAt c l,plain p=true∧p.length≤l.length:=by
 induction l with
 |nil=>intro p hp;simp [splitAt]at hp;subst hp;exact⟨rfl,by simp⟩
 |cons x r ih=>
  intro p hp
  have hx:plainB x=true:=List.all_eq_true.1 h x (by simp)
  have hr:plain r=true:=List.all_eq_true.2 fun c hc=>List.all_eq_true.1 h c (by simp [hc])
  rw [splitAt]at hp
  split at hp
  ·rcases List.mem_cons.1 hp with rfl|hp
   ·exact⟨rfl,by simp⟩
   ·have:=ih hr p hp;exact⟨this.1,by simp;omega⟩
  ·have hne:=splitAt_ne c r
   cases hs:splitAt c r with
   |nil=>exact absurd hs hne
   |cons q qs=>
    rw [hs]at hp ih
    simp only [List.headD_cons,List.tail_cons]at hp
    rcases List.mem_cons.1 hp with rfl|hp
    ·have:=ih hr q (by simp)
     exact⟨by simp only [plain,List.all_cons,hx,Bool.true_and];exact this.1,by simp;exact this.2⟩
    ·have:=ih hr p (by simp [hp]);exact⟨this.1,by simp;omega⟩
theorem parseTagList_any (l:BS)(w:World)(hs:l.length≤4294967296)(hp:plain l=true):
 Calls Tryz.prog 63 #[Str l] w fun e w'=> ∃v,e= .returned v∧OwnAt w' w.heap.size 9 v (strs ((splitAt 58 l).map strip))∧Below w.heap.size w w':=by
 obtain⟨ps,hps⟩: ∃ps,Hid (ps=splitAt 58 l):=⟨_,Lib.hid rfl⟩
 have hsl:ps.length≤l.length+1:=by rw [hps.out];exact spL 58 l
 have hne:ps≠ []:=by rw [hps.out];exact splitAt_ne 58 l
 have hpos:0<ps.length:=List.length_pos_iff.2 hne
 have Hps:Hid (∀p∈ps,plain p=true∧p.length≤l.length):=by intro p h;rw [hps.out]at h;exact plain_split 58 l hp p h
 have hds: ∀ww,Calls Tryz.prog 96 #[Str l,Str [58]] ww fun e w'=> ∃g o c,e= .returned (.slice (some ⟨g,o,none⟩) ps.length c)∧OwnAt w' ww.heap.size 9 (.slice (some ⟨g,o,none⟩) ps.length c) (strs ps)∧Below ww.heap.size ww w':=fun ww=>(zzSplit_any l 58 ww (by omega)).mono (by
  rintro e w1 ⟨v1,rfl,ho1,hb1⟩
  rw [←hps.out]at ho1
  obtain⟨g,o,c1,rfl⟩:=ho1.form_some (by intro e;have:=congrArg List.length e;rw [stL]at this;simp at this;exact hne this)
  rw [stL]at ho1⊢
  exact⟨g,o,c1,rfl,ho1,hb1⟩)
 have Hds:=Lib.hid hds;clear hds hne hp
 have hgoal:(splitAt 58 l).map strip=ps.map strip:=by rw [hps.out]
 rw [hgoal];clear hgoal
 go_enter Tryz.func63,Tryz.ntmps63
 go_wp2_with (go_at_call 96;refine(Hds.out _).mono ?_;rintro e w1 ⟨g,o,c1,rfl,ho1,hb1⟩)
 go_loopw [4,5,10] (fun _ _ i wr=> ∃k:Nat,k≤ps.length∧i= .int .i64 k∧OwnAt wr w.heap.size 9 (.slice (some ⟨g,o,none⟩) ps.length c1) (strs ((ps.take k).map strip++ps.drop k))∧Below w.heap.size w wr) (fun _ _ i _=>ps.length-(intOf i).toNat)
 case atStart=>exact⟨0,Nat.zero_le _,rfl,by simpa using ho1,hb1⟩
 case round=>
  obtain⟨k,hk,rfl,ho,hb⟩:=hrel
  clear ho1 hb1
  by_cases hlt:k<ps.length
  ·obtain⟨hc,hf⟩:=ho.cell_at k _ (strips_at ps k hlt)
   have hpp:=Hps.out ps[k] (List.getElem_mem hlt)
   obtain⟨hpl,hpn⟩:=hpp
   have Hpl:=Lib.hid hpl;clear hpl
   have hk0:(0:Int)≤(k:Int):=by omega
   have hk1:(k:Int)<(ps.length:Int):=by omega
   go_wp2_with (go_at_call 97;refine(stW_any ps[k] _ (by omega) Hpl.out).mono ?_;rintro e w2 ⟨rfl,hb2⟩;have ho2:=ho.below hb2;obtain⟨hc2,hf2⟩:=ho2.cell_at k _ (strips_at ps k hlt))
   have hgB:=ho.len_at.2.2.1
   have hb3:=hb.trans (hb2.mono hb.size)
   have ho3:=ho2.set_at k (Str (strip ps[k])) (by rw [stL];simp;omega)
   rw [strs_set,strips_set ps k hlt]at ho3
   go_roundw
   case rel=>exact⟨k+1,by omega,by go_num,ho3,hb3.setCell hgB _⟩
   case measure=>simp [intOf];omega
  ·have e:(ps.take k).map strip++ps.drop k=ps.map strip:=by rw [List.take_of_length_le (by omega),List.drop_eq_nil_of_le (by omega),List.append_nil]
   rw [e]at ho
   go_wp2
   go_ret
   exact⟨_,rfl,ho,hb⟩
theorem decodeBase64_enc (l x:BS)(w:World)(hs:l.length≤4294967296)(hp:plain l=true)(hx:strip l=enc64 x):
 Calls Tryz.prog 119 #[Str l] w fun e w'=> ∃v,e= .returned (.tuple #[v, .nilIface])∧OwnAt w' w.heap.size 5 v (byts x)∧Below w.heap.size w w':=by
 have Hx:=Lib.hid hx
 have hll:=strip_len l
 rw [hx]at hll
 clear hx
 have Hd:=Lib.hid (enc_p x)
 have hm4:(enc64 x).length%4=0:=by rw [enc_len];omega
 have Hc:Hid (∀c∈enc64 x,c≠13∧c≠10):=fun c hc=>by
  have:=(enc_all x c hc).1
  constructor<;>(rintro rfl;revert this;decide)
 go_enter Tryz.func119,Tryz.ntmps119
 go_wp2_with (first
  |(go_at_call 97;refine(stW_any l _ hs hp).mono ?_;rintro e w1 ⟨rfl,hb1⟩;rw [Hx.out])
  |(go_at_call 145;refine(zzDecode_any (enc64 x) x _ (by omega) Hd.out Hc.out hm4).mono ?_;rintro e w2 ⟨v2,rfl,ho2,hb2⟩))
 go_ret2
 exact⟨_,rfl,ho2.mono hb1.size,hb1.trans (hb2.mono hb1.size)⟩
theorem parseCanonicalization_two (l a b:BS)(w:World)(hs:l.length≤4294967296)(hp:plain l=true)(hc:cutAt 47 (strip l)=(a,b,true))(ha:a≠ []):
 Calls Tryz.prog 118 #[Str l] w fun e w'=>e= .returned (.tuple #[Str a,Str b])∧Below w.heap.size w w':=by
 have hh:halves 47 (strip l)= [a,b]:=by unfold halves;rw [hc];rfl
 have Hh:=Lib.hid hh;clear hh hc
 have hll:=strip_len l
 have hne:a.isEmpty=false:=by cases a with|nil=>exact absurd rfl ha|cons=>rfl
 clear ha
 have hzc: ∀ww,Calls Tryz.prog 144 #[Str (strip l), .int .u8 47] ww fun e w'=> ∃g o c,e= .returned (.slice (some ⟨g,o,none⟩) 2 c)∧w'.cell? ⟨g,o,none⟩=some (Str a)∧w'.cell? ⟨g,o+1,none⟩=some (Str b)∧Below ww.heap.size ww w':=fun ww=>(zzCut2_any (strip l) 47 ww (by omega)).mono (by
  rintro e w1 ⟨v1,rfl,ho1,hb1⟩
  rw [Hh.out]at ho1
  obtain⟨g,o,c1,rfl⟩:=ho1.form_some (by simp [strs])
  exact⟨g,o,c1,rfl,(ho1.cell_at 0 _ rfl).1,(ho1.cell_at 1 _ rfl).1,hb1⟩)
 have Hzc:=Lib.hid hzc;clear hzc
 go_enter Tryz.func118,Tryz.ntmps118
 go_wp2_with (first
  |(go_at_call 97;refine(stW_any l _ hs hp).mono ?_;rintro e w1 ⟨rfl,hb1⟩)
  |(go_at_call 144;refine(Hzc.out _).mono ?_;rintro e w2 ⟨g,o,c1,rfl,x0,x1,hb2⟩))
 go_ret2
 exact⟨rfl,hb1.trans (hb2.mono hb1.size)⟩
theorem tagList_any (l:BS)(w:World)(hs:l.length≤4294967296)(hp:plain l=true):
 Calls Tryz.prog 47 #[Str l] w fun e w'=> ∃v,e= .returned v∧OwnAt w' w.heap.size 9 v (strs ((splitAt 58 l).map strip))∧Below w.heap.size w w':=by
 go_enter Tryz.func47,Tryz.ntmps47
 go_wp2_with fail
 refine(parseTagList_any l w hs hp).mono ?_
 rintro e w1 ⟨v,rfl,ho,hb⟩
 go_wp2
 go_ret
 exact⟨v,rfl,ho,hb⟩
theorem dList_any (l:BS)(w:World)(hs:l.length≤4294967296)(hp:plain l=true):
 Calls Tryz.prog 36 #[Str l] w fun e w'=> ∃v,e= .returned v∧OwnAt w' w.heap.size 9 v (strs ((splitAt 58 l).map strip))∧Below w.heap.size w w':=by
 go_enter Tryz.func36,Tryz.ntmps36
 go_wp2_with fail
 refine(tagList_any l w hs hp).mono ?_
 rintro e w1 ⟨v,rfl,ho,hb⟩
 go_wp2
 go_ret
 exact⟨v,rfl,ho,hb⟩
end Go.Proofs.YtgilnagajcfkpaaGreatDoor
