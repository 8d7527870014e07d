import Derived.Test.YtgilnagajcfkpaaGreatDoorQ07
import Derived.Test.YtgilnagajcfkpaaGreatDoorQ09
set_option maxHeartbeats 4000000
set_option maxRecDepth 1000000
set_option linter.all false
namespace Go.Proofs.YtgilnagajcfkpaaGreatDoor
open Go.RowKit
theorem or_swap (a b:UInt32):a|||b=b|||a:=UInt32.or_comm a b
theorem rot17 (x:UInt32)(w:World):Calls Tryz.prog 157 #[.int .u32 (W x), .int .i64 (-17)] w fun e w'=>e= .returned (.int .u32 (W (rotr x 17)))∧w=w':=by
 have h1:bits .and .u64 (IntKind.u64.wrap (-17)) 31=15:=by kernel_rfl
 have hx:=W_lt x
 go_enter Tryz.func157,Tryz.ntmps157
 go_wp2
 go_ret
 exact⟨by rw [show rotr x 17=x<<<15|||x>>>17 from or_swap _ _];rfl,rfl⟩
theorem rot19 (x:UInt32)(w:World):Calls Tryz.prog 157 #[.int .u32 (W x), .int .i64 (-19)] w fun e w'=>e= .returned (.int .u32 (W (rotr x 19)))∧w=w':=by
 have h1:bits .and .u64 (IntKind.u64.wrap (-19)) 31=13:=by kernel_rfl
 have hx:=W_lt x
 go_enter Tryz.func157,Tryz.ntmps157
 go_wp2
 go_ret
 exact⟨by rw [show rotr x 19=x<<<13|||x>>>19 from or_swap _ _];rfl,rfl⟩
theorem rot7 (x:UInt32)(w:World):Calls Tryz.prog 157 #[.int .u32 (W x), .int .i64 (-7)] w fun e w'=>e= .returned (.int .u32 (W (rotr x 7)))∧w=w':=by
 have h1:bits .and .u64 (IntKind.u64.wrap (-7)) 31=25:=by kernel_rfl
 have hx:=W_lt x
 go_enter Tryz.func157,Tryz.ntmps157
 go_wp2
 go_ret
 exact⟨by rw [show rotr x 7=x<<<25|||x>>>7 from or_swap _ _];rfl,rfl⟩
theorem rot18 (x:UInt32)(w:World):Calls Tryz.prog 157 #[.int .u32 (W x), .int .i64 (-18)] w fun e w'=>e= .returned (.int .u32 (W (rotr x 18)))∧w=w':=by
 have h1:bits .and .u64 (IntKind.u64.wrap (-18)) 31=14:=by kernel_rfl
 have hx:=W_lt x
 go_enter Tryz.func157,Tryz.ntmps157
 go_wp2
 go_ret
 exact⟨by rw [show rotr x 18=x<<<14|||x>>>18 from or_swap _ _];rfl,rfl⟩
theorem rot6 (x:UInt32)(w:World):Calls Tryz.prog 157 #[.int .u32 (W x), .int .i64 (-6)] w fun e w'=>e= .returned (.int .u32 (W (rotr x 6)))∧w=w':=by
 have h1:bits .and .u64 (IntKind.u64.wrap (-6)) 31=26:=by kernel_rfl
 have hx:=W_lt x
 go_enter Tryz.func157,Tryz.ntmps157
 go_wp2
 go_ret
 exact⟨by rw [show rotr x 6=x<<<26|||x>>>6 from or_swap _ _];rfl,rfl⟩
theorem rot11 (x:UInt32)(w:World):Calls Tryz.prog 157 #[.int .u32 (W x), .int .i64 (-11)] w fun e w'=>e= .returned (.int .u32 (W (rotr x 11)))∧w=w':=by
 have h1:bits .and .u64 (IntKind.u64.wrap (-11)) 31=21:=by kernel_rfl
 have hx:=W_lt x
 go_enter Tryz.func157,Tryz.ntmps157
 go_wp2
 go_ret
 exact⟨by rw [show rotr x 11=x<<<21|||x>>>11 from or_swap _ _];rfl,rfl⟩
theorem rot25 (x:UInt32)(w:World):Calls Tryz.prog 157 #[.int .u32 (W x), .int .i64 (-25)] w fun e w'=>e= .returned (.int .u32 (W (rotr x 25)))∧w=w':=by
 have h1:bits .and .u64 (IntKind.u64.wrap (-25)) 31=7:=by kernel_rfl
 have hx:=W_lt x
 go_enter Tryz.func157,Tryz.ntmps157
 go_wp2
 go_ret
 exact⟨by rw [show rotr x 25=x<<<7|||x>>>25 from or_swap _ _];rfl,rfl⟩
theorem rot2 (x:UInt32)(w:World):Calls Tryz.prog 157 #[.int .u32 (W x), .int .i64 (-2)] w fun e w'=>e= .returned (.int .u32 (W (rotr x 2)))∧w=w':=by
 have h1:bits .and .u64 (IntKind.u64.wrap (-2)) 31=30:=by kernel_rfl
 have hx:=W_lt x
 go_enter Tryz.func157,Tryz.ntmps157
 go_wp2
 go_ret
 exact⟨by rw [show rotr x 2=x<<<30|||x>>>2 from or_swap _ _];rfl,rfl⟩
theorem rot13 (x:UInt32)(w:World):Calls Tryz.prog 157 #[.int .u32 (W x), .int .i64 (-13)] w fun e w'=>e= .returned (.int .u32 (W (rotr x 13)))∧w=w':=by
 have h1:bits .and .u64 (IntKind.u64.wrap (-13)) 31=19:=by kernel_rfl
 have hx:=W_lt x
 go_enter Tryz.func157,Tryz.ntmps157
 go_wp2
 go_ret
 exact⟨by rw [show rotr x 13=x<<<19|||x>>>13 from or_swap _ _];rfl,rfl⟩
theorem rot22 (x:UInt32)(w:World):Calls Tryz.prog 157 #[.int .u32 (W x), .int .i64 (-22)] w fun e w'=>e= .returned (.int .u32 (W (rotr x 22)))∧w=w':=by
 have h1:bits .and .u64 (IntKind.u64.wrap (-22)) 31=10:=by kernel_rfl
 have hx:=W_lt x
 go_enter Tryz.func157,Tryz.ntmps157
 go_wp2
 go_ret
 exact⟨by rw [show rotr x 22=x<<<10|||x>>>22 from or_swap _ _];rfl,rfl⟩
def St8.vals (s:St8):List Value:= [.int .u32 (W s.a), .int .u32 (W s.b), .int .u32 (W s.c), .int .u32 (W s.d), .int .u32 (W s.e), .int .u32 (W s.f), .int .u32 (W s.g), .int .u32 (W s.h)]
def wrds (l:List UInt32):List Value:=l.map fun x=> .int .u32 (W x)
def KTab (w:World):Prop:= ∀i,(h:i<64)→w.cell? ⟨6,i,none⟩=some (.int .u32 (W (kTab.getD i 0)))
def rotBy (k:Int)(x:UInt32):UInt32:=rotr x (UInt32.ofNat (-k).toNat)
def RotOk (k:Int):Bool:= [-2, -6, -7, -11, -13, -17, -18, -19, -22, -25].contains k
theorem rotAny (x:UInt32)(k:Int)(w:World)(hk:RotOk k=true):Calls Tryz.prog 157 #[.int .u32 (W x), .int .i64 k] w fun e w'=>e= .returned (.int .u32 (W (rotBy k x)))∧w'=w:=by
 have h:k∈([-2, -6, -7, -11, -13, -17, -18, -19, -22, -25]:List Int):=by unfold RotOk at hk;exact List.contains_iff_mem.1 hk
 simp only [List.mem_cons,List.mem_nil_iff,or_false]at h
 rcases h with rfl|rfl|rfl|rfl|rfl|rfl|rfl|rfl|rfl|rfl
 ·exact(rot2 x w).mono fun _ _ h=>⟨h.1,h.2.symm⟩
 ·exact(rot6 x w).mono fun _ _ h=>⟨h.1,h.2.symm⟩
 ·exact(rot7 x w).mono fun _ _ h=>⟨h.1,h.2.symm⟩
 ·exact(rot11 x w).mono fun _ _ h=>⟨h.1,h.2.symm⟩
 ·exact(rot13 x w).mono fun _ _ h=>⟨h.1,h.2.symm⟩
 ·exact(rot17 x w).mono fun _ _ h=>⟨h.1,h.2.symm⟩
 ·exact(rot18 x w).mono fun _ _ h=>⟨h.1,h.2.symm⟩
 ·exact(rot19 x w).mono fun _ _ h=>⟨h.1,h.2.symm⟩
 ·exact(rot22 x w).mono fun _ _ h=>⟨h.1,h.2.symm⟩
 ·exact(rot25 x w).mono fun _ _ h=>⟨h.1,h.2.symm⟩
end Go.Proofs.YtgilnagajcfkpaaGreatDoor
