import Derived.Test.YtgilnagajcfkpaaGreatDoorQ17
set_option maxHeartbeats 4000000
set_option maxRecDepth 1000000
set_option linter.all false
namespace Go.Proofs.YtgilnagajcfkpaaGreatDoor
open Go.RowKit
theorem w_shrv (x:UInt32)(k:Nat)(n:UInt32)(hn:n.toNat=k)(hk:k<32):W x/(2:Int)^k=W (x>>>n):=by
 have h:=w_shr x k n hn hk
 unfold W
 rw [←h,Int.natCast_ediv,Int.natCast_pow];rfl
theorem w_shlv (x:UInt32)(k:Nat)(n:UInt32)(hn:n.toNat=k)(hk:k<32):W x*(2:Int)^k%4294967296=W (x<<<n):=by
 have h:=w_shl x k n hn hk
 unfold W
 rw [←h,Int.natCast_emod,Int.natCast_mul,Int.natCast_pow];rfl
theorem dTurned_any (x n:UInt32)(k:Nat)(w:World)(hn:n.toNat=k)(hk:0<k∧k<32):Calls Tryz.prog 105 #[.int .u32 (W x), .int .i64 k] w fun e w'=>e= .returned (.int .u32 (W (rotr x n)))∧Below w.heap.size w w':=by
 have F1:Hid (W x/(2:Int)^k=W (x>>>n)):=w_shrv x k n hn hk.2
 have F2:Hid (W x*(2:Int)^(32-k)%4294967296=W (x<<<(32-n))):=w_shlv x (32-k) (32-n) (by rw [UInt32.toNat_sub,hn];have:(32:UInt32).toNat=32:=rfl;omega) (by omega)
 have hx:=W_lt x
 have h0:(0:Int)≤(k:Int):=by omega
 have h1:(0:Int)≤32-(k:Int):=by omega
 have h2:(k:Int)<32:=by omega
 have h3:(32:Int)-(k:Int)<32:=by omega
 have h4:IntKind.i64.wrap (32-(k:Int))=32-(k:Int):=by rw [IntKind.wrap_i64];omega
 go_enter Tryz.func105,Tryz.ntmps105
 go_wp2
 go_quiet (fail)
 go_wp2
 go_ret
 refine⟨?_,bdN (Below.refl _ _) _⟩
 show Ending.returned (.int .u32 (bits .or .u32 (W x/(2:Int)^k) (W x*(2:Int)^(32-k)%4294967296)))=_
 rw [F1.out,F2.out,w_or]
 rfl
def rootTo (d:Nat)(p:UInt64):Nat→UInt64→UInt64→UInt64
 |0,low,_=>low
 |n+1,low,high=>if 1<(high-low).toNat then
   if power ((low+high)/2) d p then rootTo d p n ((low+high)/2) high else rootTo d p n low ((low+high)/2)
  else low
def rootOf (p:UInt64)(d:Nat):UInt32:=(rootTo d p 37 0 137438953472).toUInt32
def RootBd (n:Nat)(low high:UInt64):Prop:=low.toNat<high.toNat∧high.toNat≤low.toNat+2^n∧high.toNat<2^40
@[go_sem] theorem q_half (a:UInt64):Q a/(2:Int)=Q (a/2):=by
  unfold Q;rw [UInt64.toNat_div];rfl
@[go_sem] theorem q_half' (a:UInt64):IntKind.u64.wrap ((Q a).tdiv (2:Int))=Q (a/2):=by
  have:=Q_lt a
  rw [wrap64,Int.tdiv_eq_ediv_of_nonneg this.1,q_half]
  have:=Q_lt (a/2);omega
@[go_sem] theorem q_low32 (a:UInt64):IntKind.u32.wrap (Q a)=W a.toUInt32:=by
  unfold Q W;rw [IntKind.wrap_u32',UInt64.toNat_toUInt32];omega
theorem dRoot_any (p:UInt64)(d:Nat)(hd:d<6)(w:World):
 Calls Tryz.prog 138 #[.int .u64 (Q p), .int .i64 d] w fun e w'=>e= .returned (.int .u32 (W (rootOf p d)))∧Below w.heap.size w w':=by
 have Q0:Hid ((0:Int)=Q 0):=rfl
 have Q1:Hid ((137438953472:Int)=Q 137438953472):=by show _=_;kernel_rfl
 obtain⟨R,HR⟩: ∃R,Hid (R=rootTo d p 37 0 137438953472):=⟨_,rfl⟩
 go_enter Tryz.func138,Tryz.ntmps138
 go_wp2
 go_loopw [5,6,7] (fun l h _ wr=> ∃(n:Nat) (low high:UInt64),l= .int .u64 (Q low)∧h= .int .u64 (Q high)∧Hid (R=rootTo d p n low high)∧RootBd n low high∧Below w.heap.size w wr) (fun l h _ _=>(intOf h-intOf l).toNat)
 case atStart=>exact⟨37,0,137438953472,by rw [Q0.out],by rw [Q1.out],HR,by unfold RootBd;decide,Below.refl _ _⟩
 case round=>
  obtain⟨n,low,high,rfl,rfl,H,Hb,hb⟩:=hrel
  have hlh:low.toNat<high.toNat∧high.toNat≤low.toNat+2^n∧high.toNat<2^40:=Hb
  have hsub:(high-low).toNat=high.toNat-low.toNat:=UInt64.toNat_sub_of_le _ _ (UInt64.le_iff_toNat_le.2 (by omega))
  have hadd:(low+high).toNat=low.toNat+high.toNat:=by rw [UInt64.toNat_add];omega
  by_cases h1:(1:Int)<Q (high-low)
  ·have h1n:1<(high-low).toNat:=by unfold Q at h1;omega
   obtain⟨m,rfl⟩: ∃m,n=m+1:=by
    cases n with
    |zero=>exfalso;have:=hlh.2.1;simp at this;omega
    |succ m=>exact⟨m,rfl⟩
   have hx:((low+high)/2).toNat=(low.toNat+high.toNat)/2:=by rw [UInt64.toNat_div,hadd];rfl
   obtain⟨x,Hx⟩: ∃x,Hid (x=(low+high)/2):=⟨_,rfl⟩
   have HQ:Hid (Q x=((low.toNat+high.toNat)/2:Nat)):=by show _=_;unfold Q;rw [Hx.out,hx]
   have hp2:2^(m+1)=2*2^m:=by rw [Nat.pow_succ];omega
   have Hxn:Hid (x.toNat=(low.toNat+high.toNat)/2):=by show _=_;rw [Hx.out,hx]
   cases hpw:power x d p with
   |true=>
    have H2:Hid (R=rootTo d p m x high):=by show _=_;rw [H.out,rootTo,if_pos h1n,←Hx.out,hpw];rfl
    have Hb2:RootBd m x high:=by
     have:=Hxn.out
     rw [hsub]at h1n
     exact⟨by omega,by omega,hlh.2.2⟩
    have Hm:Hid ((Q high-Q x).toNat<(Q high-Q low).toNat):=by
     have:=Hxn.out
     show _<_
     unfold Q;omega
    clear hlh hsub hadd hx hp2 h1n
    have hpw':power ((low+high)/2) d p=true:=by rw [←Hx.out];exact hpw
    have Hpw:=Lib.hid hpw';clear hpw hpw'
    go_wp2_with (first|(go_at_call 152;refine(dPower_any _ _ _ hd _).mono ?_;rintro e w1 ⟨rfl,hb1⟩;rw [Hpw.out]))
    go_roundw
    case rel=>exact⟨m,x,high,by rw [Hx.out],rfl,H2,Hb2,bchain (by assumption) hb⟩
    case measure=>simp only [intOf,←Hx.out];exact Hm.out
   |false=>
    have H2:Hid (R=rootTo d p m low x):=by show _=_;rw [H.out,rootTo,if_pos h1n,←Hx.out,hpw];rfl
    have Hb2:RootBd m low x:=by
     have:=Hxn.out
     rw [hsub]at h1n
     exact⟨by omega,by omega,by omega⟩
    have Hm:Hid ((Q x-Q low).toNat<(Q high-Q low).toNat):=by
     have:=Hxn.out
     rw [hsub]at h1n
     show _<_
     unfold Q;omega
    clear hlh hsub hadd hx hp2 h1n
    have hpw':power ((low+high)/2) d p=false:=by rw [←Hx.out];exact hpw
    have Hpw:=Lib.hid hpw';clear hpw hpw'
    go_wp2_with (first|(go_at_call 152;refine(dPower_any _ _ _ hd _).mono ?_;rintro e w1 ⟨rfl,hb1⟩;rw [Hpw.out]))
    go_roundw
    case rel=>exact⟨m,low,x,rfl,by rw [Hx.out],H2,Hb2,bchain (by assumption) hb⟩
    case measure=>simp only [intOf,←Hx.out];exact Hm.out
  ·have h1n: ¬1<(high-low).toNat:=by unfold Q at h1;omega
   have H2:Hid (rootOf p d=low.toUInt32):=by
    show _=_
    rw [rootOf,←HR.out,H.out]
    cases n with
    |zero=>rfl
    |succ m=>rw [rootTo,if_neg h1n]
   clear hlh hsub hadd h1n
   go_wp2
   go_ret
   exact⟨by rw [H2.out];rfl,hb⟩
end Go.Proofs.YtgilnagajcfkpaaGreatDoor
