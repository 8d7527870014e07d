import Derived.Test.YtgilnagajcfkpaaGreatDoorQ08
import Derived.Test.YtgilnagajcfkpaaGreatDoorQ12
set_option maxHeartbeats 4000000
set_option maxRecDepth 1000000
set_option linter.all false
namespace Go.Proofs.YtgilnagajcfkpaaGreatDoor
open Go.RowKit
theorem numOf_snoc (l:BS)(k:Nat)(h:k<l.length):numOf (l.take (k+1))=numOf (l.take k)*10+(l[k].toNat-48):=foldl_snoc _ _ _ _ h
theorem numOf_mono (l:BS)(k:Nat)(h:k≤l.length):numOf (l.take k)≤numOf l:=by
 have: ∀d,k+d=l.length→numOf (l.take k)≤numOf l:=by
  intro d
  induction d generalizing k with
  |zero=>intro e;rw [List.take_of_length_le (by omega)];exact Nat.le_refl _
  |succ d ih=>
   intro e
   have h1:=ih (k+1) (by omega) (by omega)
   rw [numOf_snoc l k (by omega)]at h1
   omega
 exact this (l.length-k) (by omega)
theorem dWhole_digits (l:BS)(w:World)(hs:l.length≤100)(h0:l≠ [])(hd: ∀c∈l,digitB c=true)(hn:numOf l<9007199254740992):
 Calls Tryz.prog 74 #[Str l] w fun e w'=>e= .returned (.tuple #[.int .i64 (numOf l), .bool true])∧Below w.heap.size w w':=by
 have hst:strip l=l:=by
  unfold strip
  rw [List.filter_eq_self]
  intro c hc
  have:=hd c hc
  simp only [digitB,Bool.and_eq_true,decide_eq_true_eq]at this
  simp only [blank,Bool.not_eq_true',Bool.or_eq_false_iff,beq_eq_false_iff_ne]
  refine⟨⟨⟨?_,?_⟩,?_⟩,?_⟩<;>(intro e;subst e;revert this;decide)
 have hat: ∀k (h:k<l.length),48≤l[k].toNat∧l[k].toNat≤57:=fun k h=>by
  have:=hd l[k] (List.getElem_mem h)
  simpa [digitB]using this
 have Hat:=Lib.hid hat;clear hat hd
 have Hst:=Lib.hid hst;clear hst
 have hl0:0<l.length:=List.length_pos_iff.2 h0
 have hne:(l != [])=true:=by simpa using h0
 have hne2:(l== [])=false:=by simpa using h0
 obtain⟨h1,h2⟩:=Hat.out 0 hl0
 have g1:((l[0].toNat:Int)==45)=false:=by rw [beq_eq_false_iff_ne];omega
 have g2:((l[0].toNat:Int)==43)=false:=by rw [beq_eq_false_iff_ne];omega
 clear h1 h2 h0
 go_enter Tryz.func74,Tryz.ntmps74
 go_wp2_with (go_at_call 29;refine(dStrip_any l _ (by omega)).mono ?_;rintro e w1 ⟨rfl,hb1⟩;rw [Hst.out])
 go_loop [6,7,8] (fun n i _=> ∃k:Nat,k≤l.length∧i= .int .i64 k∧n= .int .u64 (V (numOf (l.take k)))) (fun _ i _=>l.length-(intOf i).toNat)
 case atStart=>exact⟨0,Nat.zero_le _,rfl,rfl⟩
 case round=>
  obtain⟨k,hk,rfl,rfl⟩:=hrel
  by_cases hlt:k<l.length
  ·obtain⟨h1,h2⟩:=Hat.out k hlt
   have hsn:=numOf_snoc l k hlt
   have hmo:=numOf_mono l (k+1) (by omega)
   have hm:numOf (l.take k)<9007199254740992:=by omega
   have hq:V (numOf (l.take k))≤(9223372036854775808-((l[k].toNat:Int)-48))/10:=by unfold V;omega
   have Hf:Hid (IntKind.u64.wrap (IntKind.u64.wrap (V (numOf (l.take k))*10)+((l[k].toNat:Int)-48))=V (numOf (l.take (k+1)))):=by
    show _=_
    rw [hsn];unfold V
    rw [IntKind.wrap_u64,IntKind.wrap_u64];omega
   have h1':(48:Int)≤(l[k].toNat:Int):=by omega
   have h2':(l[k].toNat:Int)≤57:=by omega
   clear hsn hmo hm
   go_wp2
   go_round
   case rel=>exact⟨k+1,by omega,by go_num,by rw [Hf.out]⟩
   case measure=>simp [intOf];omega
  ·have e:l.take k=l:=List.take_of_length_le (by omega)
   rw [e]
   have hq2:(V (numOf l)==9223372036854775808)=false:=by rw [beq_eq_false_iff_ne];unfold V;omega
   have hq3:IntKind.i64.wrap (V (numOf l))=(numOf l:Int):=by unfold V;rw [IntKind.wrap_i64];omega
   go_wp2
   go_ret2
   exact⟨by first|rfl|rw [hq3];rfl,hb1⟩
end Go.Proofs.YtgilnagajcfkpaaGreatDoor
