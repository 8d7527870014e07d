import Derived.Test.YtgilnagajcfkpaaGreatDoorQ16
set_option maxHeartbeats 4000000
set_option maxRecDepth 1000000
set_option linter.all false
namespace Go.Proofs.YtgilnagajcfkpaaGreatDoor
open Go.RowKit
theorem u32_not_not (x:UInt32):(4294967295:UInt32)^^^x= ~~~x:=by
 have h:(4294967295:UInt32)= ~~~0:=by decide
 rw [h]
 apply UInt32.toBitVec_inj.1
 simp
@[go_sem] theorem w_not (x:UInt32):bits .xor .u32 (if IntKind.u32.signed=true then(-1:Int)else IntKind.u32.max) (W x)=W (~~~x):=by
  have h:(if IntKind.u32.signed=true then(-1:Int)else IntKind.u32.max)=W 4294967295:=by kernel_rfl
  rw [h,w_xor,u32_not_not]
theorem words_length (blk:BS)(n:Nat):(words blk n).length=n:=by
 induction n with
 |zero=>rfl
 |succ n ih=>simp [words,ih]
theorem words_get (blk:BS)(k n:Nat)(h:k<n):(words blk n).getD k 0=nextW blk (words blk k):=by
 induction n with
 |zero=>omega
 |succ n ih=>
  rw [words]
  by_cases hk:k<n
  ·rw [←ih hk]
   simp [List.getElem?_append,words_length,hk]
  ·have:k=n:=by omega
   subst this
   simp [List.getElem?_append,words_length]
theorem take_set (vs:List UInt32)(k:Nat)(x:UInt32)(h:k<vs.length):(vs.set k x).take (k+1)=vs.take k++ [x]:=by
 rw [List.take_add_one]
 simp [h,List.take_set_of_le]
end Go.Proofs.YtgilnagajcfkpaaGreatDoor
