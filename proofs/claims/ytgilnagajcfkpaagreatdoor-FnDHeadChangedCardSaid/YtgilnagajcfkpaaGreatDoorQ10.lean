import Derived.StillTailTactics
import Derived.Test.YtgilnagajcfkpaaGreatDoorQ06
import Derived.Test.YtgilnagajcfkpaaGreatDoorQ07
set_option maxHeartbeats 4000000
set_option maxRecDepth 1000000
set_option linter.all false
namespace Go.Proofs.YtgilnagajcfkpaaGreatDoor
open Go.RowKit
theorem zzSplit_any (l:BS)(c:UInt8)(w:World)(hs:l.length≤4294967296):
 Calls Tryz.prog 96 #[Str l,Str [c]] w fun e w'=> ∃v,e= .returned v∧OwnAt w' w.heap.size 9 v (strs (splitAt c l))∧Below w.heap.size w w':=by
 have hsl:=spL c l
 go_enter Tryz.func96,Tryz.ntmps96
 go_wp2
 go_loopw [0,5,8] (fun s v _ wr=> ∃(x:BS) (done:List BS),x.length≤l.length∧s=Str x∧Hid (splitAt c l=done++splitAt c x)∧OwnAt wr w.heap.size 9 v (strs done)∧Below w.heap.size w wr) (fun s _ _ _=>match s with| .string b=>b.size|_=>0)
 case atStart=>exact⟨l,[],by omega,rfl,rfl,OwnAt.nil _ _ _,Below.refl _ _⟩
 case round=>
  obtain⟨x,done,hx,rfl,H,ho,hb⟩:=hrel
  have hdl:done.length≤l.length+1:=by have h:=congrArg List.length H.out;simp at h;omega
  have hsc:=splitAt_cut c x
  cases hf:(cutAt c x).2.2 with
  |false=>
   have F:Hid (indexOf c x= -1):=by show _=_;rw [indexOf,hf];rfl
   have Hs:Hid (splitAt c l=done++ [x]):=by
    show _=_
    rw [H.out,hsc,cutAt_miss c x hf];rfl
   clear hf hsc
   go_wp2_with (first
    |(go_at_call 131;refine(zzIndex_any x c _ (by omega)).mono ?_;rintro e w1 ⟨rfl,rfl⟩;rw [F.out])
    |(at_builtin;refine appS1 rfl (.tmp 42) (.tmp 44) rfl _ x rfl ho rfl (by omega) hb (Nat.le_refl _) ?_;intro v1 w1 ho1 _ hb1))
   go_ret
   exact⟨_,rfl,by rw [Hs.out];exact ho1,hb1⟩
  |true=>
   obtain⟨h1,h2,h3⟩:=cutAt_parts c x hf
   have F:Hid (indexOf c x=(cutAt c x).1.length):=by show _=_;rw [indexOf,hf];rfl
   rw [hf,if_pos rfl,h1,h2]at hsc
   generalize hk:(cutAt c x).1.length=k at*
   have hk0:(0:Int)≤(k:Int):=by omega
   have Hs:Hid (splitAt c l=(done++ [x.take k])++splitAt c (x.drop (k+1))):=by
    show _=_
    rw [H.out,hsc];simp
   clear hsc h1 h2 hf hk
   go_wp2_with (first
    |(go_at_call 131;refine(zzIndex_any x c _ (by omega)).mono ?_;rintro e w1 ⟨rfl,rfl⟩;rw [F.out])
    |(at_builtin;refine appS1 rfl (.tmp 46) (.tmp 50) rfl _ (x.take k) rfl ho rfl (by omega) hb (Nat.le_refl _) ?_;intro v1 w1 ho1 _ hb1))
   go_roundw
   case rel=>exact⟨x.drop (k+1),_,by simp;omega,by simp,Hs,ho1,hb1⟩
   case measure=>simp [ByteArray.size];omega
theorem zzReplaceAll_none (l:BS)(c:UInt8)(w:World)(hs:l.length≤4294967296)(h:c∉l):
 Calls Tryz.prog 174 #[Str l,Str [c],Str []] w fun e w'=>e= .returned (Str l)∧Below w.heap.size w w':=by
 have F:Hid (indexOf c l= -1):=by show _=_;rw [indexOf,cutAt_no c l h];rfl
 clear h
 have hb0:=Below.refl w.heap.size w
 have ho0:=OwnAt.nil w w.heap.size 5
 go_enter Tryz.func174,Tryz.ntmps174
 go_wp2
 go_loopw [0,7,10] (fun s v _ wr=>s=Str l∧v= .slice none 0 0∧wr=w) (fun _ _ _ _=>0)
 case atStart=>exact⟨rfl,rfl,rfl⟩
 case round=>
  obtain⟨rfl,rfl,rfl⟩:=hrel
  go_wp2_with (first
   |(go_at_call 131;refine(zzIndex_any l c _ hs).mono ?_;rintro e w1 ⟨rfl,rfl⟩;rw [F.out])
   |(at_builtin;refine appB rfl (.tmp 50) (.tmp 51) 9 (.inr rfl) rfl [] l rfl ho0 rfl (Src.str _) (by simp only [List.length_nil];omega) (Nat.le_refl _) ?_;intro v1 w1 ho1 _ hb1 _;rw [List.nil_append]at ho1;have hcv:=cvB ho1.rd))
  go_ret
  exact⟨rfl,hb1⟩
def halves (c:UInt8)(l:BS):List BS:=if(cutAt c l).2.2 then [(cutAt c l).1,(cutAt c l).2.1]else [l]
theorem OwnAt.lit (w:World)(B:Nat)(e:TypeId)(xs:List Value)(hB:B≤w.heap.size)(hm:xs.length≤maxLen):OwnAt (w.alloc (.cells xs.toArray e)) B e (.slice (some ⟨w.heap.size,0,none⟩) xs.length xs.length) xs:=
 .inr ⟨w.heap.size,0,xs.length,_,(0,0),rfl,hB,heap_alloc_new w _,fun j _=>by omega,Nat.le_refl _,hm,by simp,fun j u hu=>by simpa using hu⟩
theorem zzCut2_any (l:BS)(c:UInt8)(w:World)(hs:l.length≤4294967296):
 Calls Tryz.prog 144 #[Str l, .int .u8 c.toNat] w fun e w'=> ∃v,e= .returned v∧OwnAt w' w.heap.size 9 v (strs (halves c l))∧Below w.heap.size w w':=by
 go_enter Tryz.func144,Tryz.ntmps144
 go_wp2
 go_loopw [5] (fun i wr=> ∃k:Nat,k≤l.length∧i= .int .i64 k∧Below w.heap.size w wr∧Hid (∀j,(hj:j<k)→(hj2:j<l.length)→l[j]≠c)) (fun i _=>l.length-(intOf i).toNat)
 case atStart=>exact⟨0,Nat.zero_le _,rfl,Below.refl _ _,fun j hj=>by omega⟩
 case round=>
  obtain⟨k,hk,rfl,hb,H⟩:=hrel
  by_cases hlt:k<l.length
  ·by_cases hc:l[k]=c
   ·have hd:=bT hc
    have F:Hid (halves c l= [l.take k,l.drop (k+1)]):=by show _=_;rw [halves,cutAt_at c l k hlt (fun j hj=>H.out j hj (by omega)) hc];rfl
    clear hc
    have hk1:(k:Int)+1≤(l.length:Int):=by omega
    have hk0:(0:Int)≤(k:Int):=by omega
    have hk2:(0:Int)≤(k:Int)+1:=by omega
    have hk3:((k:Int)+1).toNat=k+1:=by omega
    have hk4:IntKind.i64.wrap ((k:Int)+1)=(k:Int)+1:=by rw [IntKind.wrap_i64];omega
    have hk5:k+1≤l.length:=by omega
    go_wp2_with fail
    go_still_tail 7,(by kernel_rfl)
    change wpList _ _ _ _ _ wr.drew
    go_wp2_with fail
    go_ret
    exact⟨_,rfl,by rw [F.out];exact OwnAt.drew (OwnAt.lit wr w.heap.size 9 (strs [l.take k,l.drop (k+1)]) hb.size (by simp [strs,maxLen])),bdw (hb.alloc hb.size _)⟩
   ·have hd:=bF hc
    have Hc:=Lib.hid hc;clear hc
    go_wp2
    go_roundw
    case rel=>exact⟨k+1,by omega,by go_num,hb,fun j hj hj2=>by
     by_cases e:j=k
     ·subst e;exact Hc.out
     ·exact H.out j (by omega) hj2⟩
    case measure=>simp [intOf];omega
  ·have F:Hid (halves c l= [l]):=by show _=_;rw [halves,cutAt_none c l (fun j hj=>H.out j (by omega) hj)];rfl
   go_wp2
   go_ret
   exact⟨_,rfl,by rw [F.out];exact OwnAt.lit wr w.heap.size 9 (strs [l]) hb.size (by simp [strs,maxLen]),hb.alloc hb.size _⟩
end Go.Proofs.YtgilnagajcfkpaaGreatDoor
