import Derived.Test.YtgilnagajcfkpaaGreatDoorQ01
set_option maxHeartbeats 4000000
set_option maxRecDepth 1000000
set_option linter.all false
namespace Go.Proofs.YtgilnagajcfkpaaGreatDoor
open Go.RowKit
def tl:Nat→Code→Code
 |0,c=>c
 |n+1, .seq _ c=>tl n c
 |_+1,c=>c
def hd:Code→Code
 | .seq a _=>a
 |c=>c
def inn:Code→Code
 | .block _ c=>c
 | .loop c=>c
 | .scope c=>c
 |c=>c
@[go_sem] theorem isEmpty_snoc {α :Type} (q:List α) (d: α):(q++ [d]).isEmpty=false:=by cases q<;>rfl
theorem u8_eq (c d:UInt8):((c.toNat:Int)==(d.toNat:Int))=(c==d):=by
 rw [Bool.eq_iff_iff];simp [←UInt8.toNat_inj];omega
theorem u8_lt (c d:UInt8):(decide ((c.toNat:Int)<(d.toNat:Int)))=decide (c<d):=by
 rw [Bool.eq_iff_iff];simp [UInt8.lt_iff_toNat_lt]
theorem u8_le (c d:UInt8):(decide ((c.toNat:Int)≤(d.toNat:Int)))=decide (c≤d):=by
 rw [Bool.eq_iff_iff];simp [UInt8.le_iff_toNat_le]
theorem u8_of {c d:UInt8} (h:((c.toNat:Int)==(d.toNat:Int))=true):c=d:=by rw [u8_eq]at h;simpa using h
theorem u8_of_not {c d:UInt8} (h:((c.toNat:Int)==(d.toNat:Int))=false):c≠d:=by rw [u8_eq]at h;simpa using h
theorem bneT {x y:Int} (h:(x==y)=true):(x !=y)=false:=by rw [bne,h];rfl
theorem bneF {x y:Int} (h:(x==y)=false):(x !=y)=true:=by rw [bne,h];rfl
theorem leA (w:World)(o:Obj):w.heap.size≤(w.alloc o).heap.size:=by simp
theorem Src.lit {P:Program} (w:World)(b:UInt8)(n:Int)(h:n=b.toNat):Src P (w.alloc (.cells #[.int .u8 n] 5)) (.slice (some ⟨w.heap.size,0,none⟩) 1 1) (byts [b]):=by subst h;exact Src.one w 5 _ rfl
section
variable {ops:Array Oper} {rest:List Oper} {o:Oper} {a:Act} {Q:Exit→Act→World→Prop} {w w0:World} {B:Nat} {v xv:Value}
theorem appB1 (hgd:o.guard=none)(s x:Operand)(ho:o.op= .call { callee:= .builtin .append,args:= #[s,x],argTypes:= #[22,22] })
 (l:List UInt8)(b:UInt8)(n:Int)(hnb:n=b.toNat)(hs:a.eval s=v)(hown:OwnAt w B 5 v (byts l))(hxv:a.eval x= .slice (some ⟨w.heap.size,0,none⟩) 1 1)(hn:l.length≤70368744177664)(hb:Below B w0 w)(hB:B≤w0.heap.size)
 (h: ∀v' w',OwnAt w' B 5 v' (byts (l++ [b]))→(w.alloc (.cells #[.int .u8 n] 5)).grownBy w' v.ownBlock→Below B w0 w'→wpList Tryz.prog ops Q rest (a.put o.dst v') w'):wpList Tryz.prog ops Q (o::rest) a (w.alloc (.cells #[.int .u8 n] 5)):=
 have hBw:=Nat.le_trans hB hb.size
 appB hgd s x 22 (.inl rfl) ho l [b] hs (hown.alloc _) hxv (Src.lit w b n hnb) (by simp only [List.length_cons,List.length_nil];omega) (Nat.le_trans hBw (leA _ _))
  fun v' w' h1 h2 h3 _=>h v' w' h1 h2 ((hb.alloc hBw _).trans h3)
theorem appS1 (hgd:o.guard=none)(s x:Operand)(ho:o.op= .call { callee:= .builtin .append,args:= #[s,x],argTypes:= #[23,23] })
 (l:List (List UInt8))(b:List UInt8)(hs:a.eval s=v)(hown:OwnAt w B 9 v (strs l))(hxv:a.eval x= .slice (some ⟨w.heap.size,0,none⟩) 1 1)(hn:l.length≤4398046511104)(hb:Below B w0 w)(hB:B≤w0.heap.size)
 (h: ∀v' w',OwnAt w' B 9 v' (strs (l++ [b]))→(w.alloc (.cells #[Str b] 9)).grownBy w' v.ownBlock→Below B w0 w'→wpList Tryz.prog ops Q rest (a.put o.dst v') w'):wpList Tryz.prog ops Q (o::rest) a (w.alloc (.cells #[Str b] 9)):=
 have hBw:=Nat.le_trans hB hb.size
 appS hgd s x ho l [b] hs (hown.alloc _) hxv (Src.one w 9 (Str b) rfl) (by simp only [List.length_cons,List.length_nil];omega) (Nat.le_trans hBw (leA _ _))
  fun v' w' h1 h2 h3 _=>h v' w' h1 h2 ((hb.alloc hBw _).trans h3)
end
end Go.Proofs.YtgilnagajcfkpaaGreatDoor
