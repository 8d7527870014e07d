import Derived.Laws.BitsAllLaws
import Derived.Laws.ShiftsVarLaws
import Derived.Test.YtgilnagajcfkpaaGreatDoorQ00
import Derived.Test.YtgilnagajcfkpaaGreatDoorQ07
set_option maxHeartbeats 4000000
set_option maxRecDepth 1000000
set_option linter.all false
namespace Go.Proofs.YtgilnagajcfkpaaGreatDoor
open Go.RowKit
theorem Src.row (w:World)(e:TypeId)(xs:List Value)(h1: ∀u∈xs,u.oneCell'=true):Src Tryz.prog (w.alloc (.cells xs.toArray e)) (.slice (some ⟨w.heap.size,0,none⟩) xs.length xs.length) xs:=
 Src.rd ⟨_,xs.length,rfl,Nat.le_refl _, .inr ⟨_,_,rfl,by simp,fun j u hj=>by
  have:=cell_of_row _ _ (0+j) _ _ _ (heap_alloc_new w (.cells xs.toArray e))
  rw [this,Nat.zero_add]
  simpa using hj⟩⟩ h1
theorem appBs {ops:Array Oper} {rest:List Oper} {o:Oper} {a:Act} {Q:Exit→Act→World→Prop} {w w0:World} {B:Nat} {v:Value} (news:List UInt8)(hgd:o.guard=none)(s x:Operand)(ho:o.op= .call { callee:= .builtin .append,args:= #[s,x],argTypes:= #[22,22] })
 (l:List UInt8)(hs:a.eval s=v)(hown:OwnAt w B 5 v (byts l))(n m c:Nat)(hsz:n=w.heap.size)(hm:m=news.length)(hc:c=news.length)(hxv:a.eval x= .slice (some ⟨n,0,none⟩) m c)(hn:l.length+news.length≤140737488355328)(hb:Below B w0 w)(hB:B≤w0.heap.size)
 (h: ∀v' w',OwnAt w' B 5 v' (byts (l++news))→(w.alloc (.cells (byts news).toArray 5)).grownBy w' v.ownBlock→Below B w0 w'→wpList Tryz.prog ops Q rest (a.put o.dst v') w'):wpList Tryz.prog ops Q (o::rest) a (w.alloc (.cells (byts news).toArray 5)):=by
 subst hsz;subst hm;subst hc
 have hBw:=Nat.le_trans hB hb.size
 have hsrc:=Src.row w 5 (byts news) (byts_one news)
 rw [byL]at hsrc
 exact appB hgd s x 22 (.inl rfl) ho l news hs (hown.alloc _) hxv hsrc hn (Nat.le_trans hBw (leA _ _))
  fun v' w' h1 h2 h3 _=>h v' w' h1 h2 ((hb.alloc hBw _).trans h3)
theorem step_appBs {ops:Array Oper} {o:Oper} {a:Act} {K:Act→World→Prop} {Q:Exit→Act→World→Prop} {E:Prop} {w w0:World} {B:Nat} {v:Value} (news:List UInt8)(hgd:o.guard=none)(s x:Operand)(ho:o.op= .call { callee:= .builtin .append,args:= #[s,x],argTypes:= #[22,22] })
 (l:List UInt8)(hs:a.eval s=v)(hown:OwnAt w B 5 v (byts l))(n m c:Nat)(hsz:n=w.heap.size)(hm:m=news.length)(hc:c=news.length)(hxv:a.eval x= .slice (some ⟨n,0,none⟩) m c)(hn:l.length+news.length≤140737488355328)(hb:Below B w0 w)(hB:B≤w0.heap.size)
 (h: ∀v' w',OwnAt w' B 5 v' (byts (l++news))→(w.alloc (.cells (byts news).toArray 5)).grownBy w' v.ownBlock→Below B w0 w'→K (a.put o.dst v') w'):
 if Region.wanted o (yielded ops a.tmps)=true then Oper.wp Tryz.prog o a (w.alloc (.cells (byts news).toArray 5)) K Q else E:=by
 have hw:Region.wanted o (yielded ops a.tmps)=true:=by simp [Region.wanted,hgd]
 rw [if_pos hw]
 subst hsz;subst hm;subst hc
 have hBw:=Nat.le_trans hB hb.size
 have hsrc:=Src.row w 5 (byts news) (byts_one news)
 rw [byL]at hsrc
 obtain⟨i,hi,hz,hs1,hb'⟩:=info_parts Tryz.info5
 refine wp_app s x 22 22 ho B 5 i _ 1 Tryz.underlying22 (.inr ⟨_,Tryz.underlying22⟩) hi hz hs1 hb' rfl v _ hs (hown.alloc _) _ _ hxv hsrc ?_ ?_ (Nat.le_trans hBw (leA _ _)) fun v' w' h2 h3 h4=>h v' w' (by rw [byts_append];exact h2) h3 ((hb.alloc hBw _).trans (grown_below (hown.alloc _) h3 (Nat.le_trans hBw (leA _ _))))
 ·simp only [byL,maxLen];omega
 ·simp only [byL];omega
def V (n:Nat):Int:=n
theorem u64_and63 (n:Nat)(h:n<18446744073709551616):bits .and .u64 (n:Int) 63=((n%64:Nat):Int):=by
 have:=u64_and_nat n 63 h (by decide)
 rw [show((63:Nat):Int)=63 from rfl]at this
 rw [this,show(63:Nat)=2^6-1 from rfl,Nat.and_two_pow_sub_one_eq_mod]
theorem uWI (n:Nat)(h:n<18446744073709551616):IntKind.u64.wrap (n:Int)=n:=by
 rw [IntKind.wrap_u64];omega
theorem or_lt (a b k:Nat)(h:b<2^k):a*2^k|||b=a*2^k+b:=by
 rw [Nat.mul_comm,←Nat.two_pow_add_eq_or_of_lt h]
theorem v_or2 (a b:UInt8):bits .or .u64 (IntKind.u64.wrap (IntKind.u64.wrap (a.toNat:Int)*65536)) (IntKind.u64.wrap (IntKind.u64.wrap (b.toNat:Int)*256))=V (num3 a b 0):=by
 have h1:=a.toNat_lt;have h2:=b.toNat_lt
 rw [uWI _ (by omega),uWI _ (by omega)]
 rw [show(a.toNat:Int)*65536=((a.toNat*65536:Nat):Int) by omega,show(b.toNat:Int)*256=((b.toNat*256:Nat):Int) by omega,uWI _ (by omega),uWI _ (by omega)]
 rw [u64_or_nat _ _ (by omega) (by omega)]
 have e1:a.toNat*65536|||b.toNat*256=a.toNat*65536+b.toNat*256:=or_lt a.toNat (b.toNat*256) 16 (by omega)
 rw [e1];unfold V num3;rw [show(0:UInt8).toNat=0 from rfl,Nat.add_zero]
theorem v_or1 (a:UInt8):IntKind.u64.wrap (IntKind.u64.wrap (a.toNat:Int)*65536)=V (num3 a 0 0):=by
 have h1:=a.toNat_lt
 rw [uWI _ (by omega)]
 rw [show(a.toNat:Int)*65536=((a.toNat*65536:Nat):Int) by omega,uWI _ (by omega)]
 unfold V num3;rw [show(0:UInt8).toNat=0 from rfl,Nat.zero_mul,Nat.add_zero]
theorem v_or3 (a b c:UInt8):bits .or .u64 (bits .or .u64 (IntKind.u64.wrap (IntKind.u64.wrap (a.toNat:Int)*65536)) (IntKind.u64.wrap (IntKind.u64.wrap (b.toNat:Int)*256))) (IntKind.u64.wrap (c.toNat:Int))=V (num3 a b c):=by
 have h1:=a.toNat_lt;have h2:=b.toNat_lt;have h3:=c.toNat_lt
 rw [v_or2,uWI _ (by omega)]
 unfold V
 have h0:=num3_lt a b 0
 rw [u64_or_nat _ _ (by omega) (by omega)]
 have e2:num3 a b 0|||c.toNat=num3 a b c:=by
  have:=or_lt (a.toNat*256+b.toNat) c.toNat 8 (by omega)
  rw [show num3 a b 0=(a.toNat*256+b.toNat)*2^8 by unfold num3;show _+0=_;omega,this];unfold num3;omega
 rw [e2]
@[go_sem] theorem v_shr18 (n:Nat):V n/(262144:Int)=V (n/262144):=by unfold V;omega
@[go_sem] theorem v_shr12 (n:Nat):V n/(4096:Int)=V (n/4096):=by unfold V;omega
@[go_sem] theorem v_shr6 (n:Nat):V n/(64:Int)=V (n/64):=by unfold V;omega
@[go_sem] theorem v_dig (k:Nat) (h:(V k).toNat<([65,66,67,68,69,70,71,72,73,74,75,76,77,78,79,80,81,82,83,84,85,86,87,88,89,90,97,98,99,100,101,102,103,104,105,106,107,108,109,110,111,112,113,114,115,116,117,118,119,120,121,122,48,49,50,51,52,53,54,55,56,57,43,47]:List UInt8).length):
   ([65,66,67,68,69,70,71,72,73,74,75,76,77,78,79,80,81,82,83,84,85,86,87,88,89,90,97,98,99,100,101,102,103,104,105,106,107,108,109,110,111,112,113,114,115,116,117,118,119,120,121,122,48,49,50,51,52,53,54,55,56,57,43,47]:List UInt8)[(V k).toNat]'h=dig k:=by
  have h':k<digs.length:=h
  unfold dig
  rw [List.getD_eq_getElem?_getD,List.getElem?_eq_getElem h'];rfl
end Go.Proofs.YtgilnagajcfkpaaGreatDoor
