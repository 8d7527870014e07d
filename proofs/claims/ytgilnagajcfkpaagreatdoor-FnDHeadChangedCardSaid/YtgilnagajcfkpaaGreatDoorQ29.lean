import Derived.Test.YtgilnagajcfkpaaGreatDoorQ06
import Derived.Test.YtgilnagajcfkpaaGreatDoorQ08
import Derived.Test.YtgilnagajcfkpaaGreatDoorQ24
set_option maxHeartbeats 4000000
set_option maxRecDepth 1000000
set_option linter.all false
namespace Go.Proofs.YtgilnagajcfkpaaGreatDoor
open Go.RowKit
theorem new_any (w:World):Calls Tryz.prog 120 #[] w fun e w'=>e= .returned (.pointer (some ⟨w.heap.size,0,none⟩))∧Blk w' w.heap.size 270 ((⟨0,0,0,0,0,0,0,0⟩:St8).vals++ [.slice none 0 0])∧Below w.heap.size w w':=by
 have hb:=Blk.new w 270 #[.int .u32 0, .int .u32 0, .int .u32 0, .int .u32 0, .int .u32 0, .int .u32 0, .int .u32 0, .int .u32 0, .slice none 0 0]
 go_enter Tryz.func120,Tryz.ntmps120
 go_wp2
 go_ret
 exact⟨rfl,hb,(Below.refl _ _).alloc (Nat.le_refl _) _⟩
theorem digWrite_any (g B:Nat)(s:St8)(bv pv:Value)(c l:BS)(w:World)(hd:Blk w g 270 (s.vals++ [bv]))(ho:OwnAt w B 5 bv (byts c))(hp:Rd w pv (byts l))(hn:c.length+l.length≤140737488355328)(hB:B≤w.heap.size):
 Calls Tryz.prog 126 #[.pointer (some ⟨g,0,none⟩),pv] w fun e w'=>e= .returned (.tuple #[.int .i64 l.length, .nilIface])∧(∃bv',Blk w' g 270 (s.vals++ [bv'])∧OwnAt w' B 5 bv' (byts (c++l))∧(bv'.ownBlock=bv.ownBlock∨bv'.ownBlock=some w.heap.size))∧Frm (fun k=>k=g∨some k=bv.ownBlock) w w':=by
 have c8:w.cell? ⟨g,8,none⟩=some bv:=hd.cell 8 _ rfl
 obtain⟨A,cc,rfl,hcc,hx⟩:=id hp
 rw [byL]at*
 have hne:=own_blk ho hd (by decide)
 have hgl:=hd.lt
 go_enter Tryz.func126,Tryz.ntmps126
 go_wp2_with (at_builtin;refine appB rfl (.tmp 10) (.tmp 11) 22 (.inl rfl) rfl c l rfl ho rfl (Src.rd hp (byts_one l)) hn hB ?_;intro v1 w1 ho1 hg1 hb1 hat1;have hd1:=hd.grown hg1 (fun e=>hne e.symm);have c8':w1.cell? ⟨g,8,none⟩=some bv:=hd1.cell 8 _ rfl;have f8':=hd1.frozen 8;obtain⟨A1,c1,rfl⟩:=ho1.form)
 have hd2:=hd1.set 8 (Value.slice A1 (byts (c++l)).length c1)
 go_ret2
 have hv:(Value.slice A1 (byts (c++l)).length c1).ownBlock≠some g:=by
  rcases hat1 with h|h
  ·rw [h];exact hne
  ·rw [h];intro e;injection e with e;omega
 refine⟨rfl,⟨_,hd2,?_,hat1⟩,?_⟩
 ·refine ho1.frm (S:=fun k=>k=g) ((Frm.refl _ _).setCell _ _ (fun _=>rfl)) (fun k hk e=> ?_)
  subst e;exact hv hk
 ·refine Frm.setCell ?_ _ _ (fun _=> .inl rfl)
  exact(Frm.of_grown hg1).mono (fun k _ hk=> .inr hk)
end Go.Proofs.YtgilnagajcfkpaaGreatDoor
