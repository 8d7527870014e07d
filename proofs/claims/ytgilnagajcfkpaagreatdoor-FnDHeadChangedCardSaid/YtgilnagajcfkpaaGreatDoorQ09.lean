import Derived.Laws.BitsAllLaws
import Derived.Laws.ShiftsVarLaws
import Derived.Test.YtgilnagajcfkpaaGreatDoorQ00
import Derived.Test.YtgilnagajcfkpaaGreatDoorQ07
set_option maxHeartbeats 4000000
set_option maxRecDepth 1000000
set_option linter.all false
namespace Go.Proofs.YtgilnagajcfkpaaGreatDoor
open Go.RowKit
def W (x:UInt32):Int:=x.toNat
theorem W_lt (x:UInt32):0≤W x∧W x<4294967296:=by have:=x.toNat_lt;unfold W;omega
@[go_sem] theorem w_xor (a b:UInt32):bits .xor .u32 (W a) (W b)=W (a^^^b):=by
  unfold W;rw [u32_xor_nat _ _ a.toNat_lt b.toNat_lt,UInt32.toNat_xor]
@[go_sem] theorem w_and (a b:UInt32):bits .and .u32 (W a) (W b)=W (a&&&b):=by
  unfold W;rw [u32_and_nat _ _ a.toNat_lt b.toNat_lt,UInt32.toNat_and]
@[go_sem] theorem w_or (a b:UInt32):bits .or .u32 (W a) (W b)=W (a|||b):=by
  unfold W;rw [u32_or_nat _ _ a.toNat_lt b.toNat_lt,UInt32.toNat_or]
@[go_sem] theorem w_add (a b:UInt32):IntKind.u32.wrap (W a+W b)=W (a+b):=by
  unfold W;rw [IntKind.wrap_u32',UInt32.toNat_add];omega
@[go_sem] theorem w_add' (a b:UInt32):(W a+W b)%(4294967296:Int)=W (a+b):=by
  unfold W;rw [UInt32.toNat_add];omega
@[go_sem] theorem w_wrap (a:UInt32):IntKind.u32.wrap (W a)=W a:=by
  have:=a.toNat_lt;unfold W;rw [IntKind.wrap_u32'];omega
theorem w_shr (x:UInt32)(k:Nat)(n:UInt32)(hn:n.toNat=k)(hk:k<32):((x.toNat/2^k:Nat):Int)=(x>>>n).toNat:=by
 rw [UInt32.toNat_shiftRight,hn,Nat.shiftRight_eq_div_pow,Nat.mod_eq_of_lt hk]
theorem w_shl (x:UInt32)(k:Nat)(n:UInt32)(hn:n.toNat=k)(hk:k<32):((x.toNat*2^k%4294967296:Nat):Int)=(x<<<n).toNat:=by
 rw [UInt32.toNat_shiftLeft,hn,Nat.shiftLeft_eq,Nat.mod_eq_of_lt hk]
@[go_sem] theorem w_shr2 (x:UInt32):W x/(4:Int)=W (x>>>2):=by have:=w_shr x 2 2 rfl (by decide);unfold W;omega
@[go_sem] theorem w_shr3 (x:UInt32):W x/(8:Int)=W (x>>>3):=by have:=w_shr x 3 3 rfl (by decide);unfold W;omega
@[go_sem] theorem w_shr6 (x:UInt32):W x/(64:Int)=W (x>>>6):=by have:=w_shr x 6 6 rfl (by decide);unfold W;omega
@[go_sem] theorem w_shr7 (x:UInt32):W x/(128:Int)=W (x>>>7):=by have:=w_shr x 7 7 rfl (by decide);unfold W;omega
@[go_sem] theorem w_shr8 (x:UInt32):W x/(256:Int)=W (x>>>8):=by have:=w_shr x 8 8 rfl (by decide);unfold W;omega
@[go_sem] theorem w_shr10 (x:UInt32):W x/(1024:Int)=W (x>>>10):=by have:=w_shr x 10 10 rfl (by decide);unfold W;omega
@[go_sem] theorem w_shr11 (x:UInt32):W x/(2048:Int)=W (x>>>11):=by have:=w_shr x 11 11 rfl (by decide);unfold W;omega
@[go_sem] theorem w_shr13 (x:UInt32):W x/(8192:Int)=W (x>>>13):=by have:=w_shr x 13 13 rfl (by decide);unfold W;omega
@[go_sem] theorem w_shr16 (x:UInt32):W x/(65536:Int)=W (x>>>16):=by have:=w_shr x 16 16 rfl (by decide);unfold W;omega
@[go_sem] theorem w_shr17 (x:UInt32):W x/(131072:Int)=W (x>>>17):=by have:=w_shr x 17 17 rfl (by decide);unfold W;omega
@[go_sem] theorem w_shr18 (x:UInt32):W x/(262144:Int)=W (x>>>18):=by have:=w_shr x 18 18 rfl (by decide);unfold W;omega
@[go_sem] theorem w_shr19 (x:UInt32):W x/(524288:Int)=W (x>>>19):=by have:=w_shr x 19 19 rfl (by decide);unfold W;omega
@[go_sem] theorem w_shr22 (x:UInt32):W x/(4194304:Int)=W (x>>>22):=by have:=w_shr x 22 22 rfl (by decide);unfold W;omega
@[go_sem] theorem w_shr24 (x:UInt32):W x/(16777216:Int)=W (x>>>24):=by have:=w_shr x 24 24 rfl (by decide);unfold W;omega
@[go_sem] theorem w_shr25 (x:UInt32):W x/(33554432:Int)=W (x>>>25):=by have:=w_shr x 25 25 rfl (by decide);unfold W;omega
@[go_sem] theorem w_shl7 (x:UInt32):W x*(128:Int)%(4294967296:Int)=W (x<<<7):=by have:=w_shl x 7 7 rfl (by decide);unfold W;omega
@[go_sem] theorem w_shl10 (x:UInt32):W x*(1024:Int)%(4294967296:Int)=W (x<<<10):=by have:=w_shl x 10 10 rfl (by decide);unfold W;omega
@[go_sem] theorem w_shl13 (x:UInt32):W x*(8192:Int)%(4294967296:Int)=W (x<<<13):=by have:=w_shl x 13 13 rfl (by decide);unfold W;omega
@[go_sem] theorem w_shl14 (x:UInt32):W x*(16384:Int)%(4294967296:Int)=W (x<<<14):=by have:=w_shl x 14 14 rfl (by decide);unfold W;omega
@[go_sem] theorem w_shl15 (x:UInt32):W x*(32768:Int)%(4294967296:Int)=W (x<<<15):=by have:=w_shl x 15 15 rfl (by decide);unfold W;omega
@[go_sem] theorem w_shl19 (x:UInt32):W x*(524288:Int)%(4294967296:Int)=W (x<<<19):=by have:=w_shl x 19 19 rfl (by decide);unfold W;omega
@[go_sem] theorem w_shl21 (x:UInt32):W x*(2097152:Int)%(4294967296:Int)=W (x<<<21):=by have:=w_shl x 21 21 rfl (by decide);unfold W;omega
@[go_sem] theorem w_shl25 (x:UInt32):W x*(33554432:Int)%(4294967296:Int)=W (x<<<25):=by have:=w_shl x 25 25 rfl (by decide);unfold W;omega
@[go_sem] theorem w_shl26 (x:UInt32):W x*(67108864:Int)%(4294967296:Int)=W (x<<<26):=by have:=w_shl x 26 26 rfl (by decide);unfold W;omega
@[go_sem] theorem w_shl30 (x:UInt32):W x*(1073741824:Int)%(4294967296:Int)=W (x<<<30):=by have:=w_shl x 30 30 rfl (by decide);unfold W;omega
end Go.Proofs.YtgilnagajcfkpaaGreatDoor
