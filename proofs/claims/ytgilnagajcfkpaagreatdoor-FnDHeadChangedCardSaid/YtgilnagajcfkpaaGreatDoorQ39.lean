import Derived.Test.YtgilnagajcfkpaaGreatDoorQ15
import Derived.Test.YtgilnagajcfkpaaGreatDoorQ26
import Derived.Test.YtgilnagajcfkpaaGreatDoorQ27
import Derived.Test.YtgilnagajcfkpaaGreatDoorQ32
set_option maxHeartbeats 4000000
set_option maxRecDepth 1000000
set_option linter.all false
namespace Go.Proofs.YtgilnagajcfkpaaGreatDoor
open Go.RowKit
theorem sum_one (g:Nat)(s:St8)(bv:Value)(c:BS)(w:World)(hd:Blk w g 270 (s.vals++ [bv]))(hp:Rd w bv (byts c))(hne:bv.ownBlock≠some g)(hg6:g≠6)(hk:KTab w)(hn:c.length≤1099511627776):
 Calls Tryz.prog 122 #[.pointer (some ⟨g,0,none⟩)] w fun e w'=> ∃v,e= .returned v∧OwnAt w' w.heap.size 5 v (byts (sha c))∧(∃s':St8,Blk w' g 270 (s'.vals++ [bv]))∧w.grownBy w' (some g):=
 sum_any (fun g s bv pv l w h1 h2 h3 h4=>block_one g s bv pv l w h1 h2 h3 h4) g s bv c w hd hp hne hg6 hk hn
theorem KTab.lt {w:World} (h:KTab w):6<w.heap.size:=World.block_lt_of_cell? w _ (h 0 (by omega))
theorem KTab.below {w w':World} {B:Nat} (h:KTab w)(hb:Below B w w')(h6:6<B):KTab w':=fun i hi=>(hb.cell (p:=⟨6,i,none⟩) h6).trans (h i hi)
theorem frm_dig {w1 w2:World} {bv:Value} {g B:Nat} (hf:Frm (fun k=>k=g∨some k=bv.ownBlock) w1 w2)(hB:B≤g)(hv: ∀k,bv.ownBlock=some k→B≤k)(hl:B≤w1.heap.size):Below B w1 w2:=
 hf.below (fun i _ h=>by rcases h with h|h
                         ·omega
                         ·exact hv i h.symm) hl
theorem grown_at {w1 w2:World} {g B:Nat} (hg:w1.grownBy w2 (some g))(hB:B≤g)(hl:B≤w1.heap.size):Below B w1 w2:=
 (Frm.of_grown hg).below (fun i _ h=>by injection h;omega) hl
theorem sealed_any (kv hv:Value)(k h:BS)(w:World)(hk:Rd w kv (byts k))(hh:Rd w hv (byts h))(hkt:KTab w)(hn:k.length+h.length≤1099511627776):
 Calls Tryz.prog 241 #[kv,hv] w fun e w'=> ∃v,e= .returned v∧OwnAt w' w.heap.size 5 v (byts (sha (k++h)))∧Below w.heap.size w w':=by
 have HKT:=Lib.hid hkt;clear hkt
 have hk6:=HKT.out.lt
 have t1:True:=trivial
 go_enter Tryz.func241,Tryz.ntmps241
 go_wp2_with (first
  |(go_at_call 120;refine(new_any _).mono ?_;rintro e w1 ⟨rfl,hd1,hb1⟩;have hl1:=hb1.size)
  |(go_at_call 126;have _t:=t1;refine(digWrite_any _ w.heap.size _ _ _ [] k _ hd1 (OwnAt.nil _ _ _) (hk.below hb1) (by simp only [List.length_nil];omega) hl1).mono ?_;rintro e w2 ⟨rfl,⟨bv2,hd2,ho2,hv2⟩,hf2⟩;rw [List.nil_append]at ho2;have hb2:=hb1.trans (frm_dig hf2 (Nat.le_refl _) (by intro k hk;cases hk) hl1);have hl2:=hb2.size;have t2:True:=trivial;clear t1)
  |(go_at_call 126;have _t:=t2;refine(digWrite_any _ w.heap.size _ _ _ k h _ hd2 ho2 (hh.below hb2) (by omega) hl2).mono ?_;rintro e w3 ⟨rfl,⟨bv3,hd3,ho3,hv3⟩,hf3⟩;have hb3:=hb2.trans (frm_dig hf3 (Nat.le_refl _) (fun k hk=>(ho2.lt k hk).1) hl2);have hl3:=hb3.size;clear t2)
  |(go_at_call 122;refine(sum_one _ _ _ (k++h) _ hd3 ho3.rd (own_blk ho3 hd3 (by decide)) (by omega) (HKT.out.below hb3 hk6) (by rw [List.length_append];omega)).mono ?_;rintro e w4 ⟨v4,rfl,ho4,_,hg4⟩)
  |fail)
 go_ret
 exact⟨_,rfl,ho4.mono hl3,hb3.trans (grown_at hg4 (Nat.le_refl _) hl3)⟩
def Giv (kind:BS)(kv:Value):Value:= .agg #[Str kind,kv]
theorem givenAlgo_any (kind:BS)(kv:Value)(w:World):Calls Tryz.prog 238 #[Giv kind kv] w fun e w'=>e= .returned (Str kind)∧Below w.heap.size w w':=by
 unfold Giv
 go_enter Tryz.func238,Tryz.ntmps238
 go_wp2
 go_ret
 exact⟨rfl,(Below.refl _ w).alloc (Nat.le_refl _) _⟩
theorem givenSign_any (kind k h:BS)(kv hv:Value)(w:World)(hk:Rd w kv (byts k))(hh:Rd w hv (byts h))(hkt:KTab w)(hn:k.length+h.length≤1099511627776):
 Calls Tryz.prog 239 #[Giv kind kv,hv] w fun e w'=> ∃v,e= .returned (.tuple #[v, .nilIface])∧OwnAt w' w.heap.size 5 v (byts (sha (k++h)))∧Below w.heap.size w w':=by
 unfold Giv
 have h6:=hkt.lt
 have hb1:Below w.heap.size w (w.alloc (.cells #[Str kind,kv] 94)):=(Below.refl _ w).alloc (Nat.le_refl _) _
 have hs1:=hb1.size
 have hc:=sealed_any kv hv k h (w.alloc (.cells #[Str kind,kv] 94)) (hk.below hb1) (hh.below hb1) (hkt.below hb1 h6) hn
 go_enter Tryz.func239,Tryz.ntmps239
 go_wp2_with fail
 refine hc.mono ?_
 rintro e w2 ⟨v,rfl,ho,hb2⟩
 go_wp2
 go_ret2
 exact⟨v,rfl,ho.mono hs1,hb1.trans (hb2.mono hs1)⟩
theorem bytesEqual_any (a b:BS)(av bv:Value)(w:World)(ha:Rd w av (byts a))(hb:Rd w bv (byts b)):
 Calls Tryz.prog 121 #[av,bv] w fun e w'=>e= .returned (.bool (a==b))∧w'=w:=by
 have h1:=cvB ha
 have h2:=cvB hb
 go_enter Tryz.func121,Tryz.ntmps121
 go_wp2
 go_ret
 exact⟨by simp,rfl⟩
def notSig:BS:= [110,111,116,32,105,116,115,32,115,105,103,110,97,116,117,114,101]
theorem givenVerify_any (kind k h s:BS)(kv hv sv:Value)(w:World)(hk:Rd w kv (byts k))(hh:Rd w hv (byts h))(hs:Rd w sv (byts s))(hkt:KTab w)(hn:k.length+h.length≤1099511627776):
 Calls Tryz.prog 240 #[Giv kind kv,hv,sv] w fun e w'=>((sha (k++h)=s∧e= .returned .nilIface)∨(sha (k++h)≠s∧∃a,e= .returned (.iface 242 (.pointer (some ⟨a,0,none⟩)))∧w'.cell? ⟨a,0,none⟩=some (Str notSig)))∧Below w.heap.size w w':=by
 unfold Giv
 have h6:=hkt.lt
 have hb1:Below w.heap.size w (w.alloc (.cells #[Str kind,kv] 94)):=(Below.refl _ w).alloc (Nat.le_refl _) _
 have hs1:=hb1.size
 have hc:=sealed_any kv hv k h (w.alloc (.cells #[Str kind,kv] 94)) (hk.below hb1) (hh.below hb1) (hkt.below hb1 h6) hn
 go_enter Tryz.func240,Tryz.ntmps240
 go_wp2_with fail
 refine hc.mono ?_
 rintro e w2 ⟨v,rfl,ho,hb2⟩
 have hb12:=hb1.trans (hb2.mono hs1)
 go_wp2_with fail
 refine(bytesEqual_any _ s v sv w2 ho.rd (hs.below hb12)).mono ?_
 rintro e w3 ⟨rfl,rfl⟩
 cases he:(sha (k++h)==s)with
 |true=>
  go_wp2
  go_ret
  exact⟨.inl ⟨eq_of_beq he,rfl⟩,hb12⟩
 |false=>
  go_wp2_with fail
  refine(errNew _ _).mono ?_
  rintro e w4 ⟨rfl,rfl⟩
  go_wp2
  go_ret
  exact⟨.inr ⟨by rw [beq_eq_false_iff_ne]at he;exact he,_,rfl,(Blk.new _ 244 #[Str notSig]).cell 0 _ rfl⟩,hb12.alloc hb12.size _⟩
theorem digReset_any (g:Nat)(s:St8)(bv:Value)(w:World)(hd:Blk w g 270 (s.vals++ [bv])):
 Calls Tryz.prog 123 #[.pointer (some ⟨g,0,none⟩)] w fun e w'=>e= .returned (.tuple #[])∧Blk w' g 270 (s.vals++ [.slice none 0 0])∧Frm (· =g) w w':=by
 have c8:=hd.cell 8 bv rfl
 have f8:=hd.frozen 8
 have h2:=hd.set 8 (.slice none 0 0)
 have hF:Frm (· =g) w (w.setCell ⟨g,8,none⟩ (.slice none 0 0)):=(Frm.refl _ w).setCell ⟨g,8,none⟩ _ (fun _=>rfl)
 go_enter Tryz.func123,Tryz.ntmps123
 go_wp2
 go_end0
 exact⟨rfl,h2,hF⟩
theorem encode_any (l:BS)(v:Value)(w:World)(hv:Rd w v (byts l))(hs:l.length≤2147483648):
 Calls Tryz.prog 40 #[v] w fun e w'=>e= .returned (Str (enc64 l))∧Below w.heap.size w w':=by
 go_enter Tryz.func40,Tryz.ntmps40
 go_wp2_with fail
 refine(zzEncode_any l v w hv hs).mono ?_
 rintro e w1 ⟨rfl,hb⟩
 go_wp2
 go_ret
 exact⟨rfl,hb⟩
end Go.Proofs.YtgilnagajcfkpaaGreatDoor
