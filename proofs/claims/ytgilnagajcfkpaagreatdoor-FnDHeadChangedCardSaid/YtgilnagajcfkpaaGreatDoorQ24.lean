import Derived.Test.YtgilnagajcfkpaaGreatDoorQ07
import Derived.Test.YtgilnagajcfkpaaGreatDoorQ20
set_option maxHeartbeats 4000000
set_option maxRecDepth 1000000
set_option linter.all false
namespace Go.Proofs.YtgilnagajcfkpaaGreatDoor
open Go.RowKit
theorem block_end {w wr:World} {g:Nat} {s:St8} (st:St8) {bv:Value} (hd2:Blk wr g 270 (s.vals++ [bv]))(hb:Below w.heap.size w wr):
 Blk ((((((((wr.setCell ⟨g,0,none⟩ (.int .u32 (W st.a))).setCell ⟨g,1,none⟩ (.int .u32 (W st.b))).setCell ⟨g,2,none⟩ (.int .u32 (W st.c))).setCell ⟨g,3,none⟩ (.int .u32 (W st.d))).setCell ⟨g,4,none⟩ (.int .u32 (W st.e))).setCell ⟨g,5,none⟩ (.int .u32 (W st.f))).setCell ⟨g,6,none⟩ (.int .u32 (W st.g))).setCell ⟨g,7,none⟩ (.int .u32 (W st.h))).drew g 270 (st.vals++ [bv])∧
 w.grownBy ((((((((wr.setCell ⟨g,0,none⟩ (.int .u32 (W st.a))).setCell ⟨g,1,none⟩ (.int .u32 (W st.b))).setCell ⟨g,2,none⟩ (.int .u32 (W st.c))).setCell ⟨g,3,none⟩ (.int .u32 (W st.d))).setCell ⟨g,4,none⟩ (.int .u32 (W st.e))).setCell ⟨g,5,none⟩ (.int .u32 (W st.f))).setCell ⟨g,6,none⟩ (.int .u32 (W st.g))).setCell ⟨g,7,none⟩ (.int .u32 (W st.h))).drew (some g):=by
 have h0:w.grownBy wr (some g):=⟨hb.os,hb.tape,hb.output,hb.size,fun k hk _=>hb.block k hk⟩
 refine⟨((((((((hd2.set 0 _).set 1 _).set 2 _).set 3 _).set 4 _).set 5 _).set 6 _).set 7 _).drew,?_⟩
 have key: ∀(a b:World) (p:Addr) (u:Value),p.block=g→a.grownBy b (some g)→a.grownBy (b.setCell p u) (some g):=by
  intro a b p u hp h
  subst hp
  exact h.trans (grown_setCell b p u)
 exact grown_drewN (key _ _ _ _ rfl (key _ _ _ _ rfl (key _ _ _ _ rfl (key _ _ _ _ rfl (key _ _ _ _ rfl (key _ _ _ _ rfl (key _ _ _ _ rfl (key _ _ _ _ rfl h0)))))))) 1
theorem reset_one (g:Nat)(s:St8)(bv:Value)(w:World)(hd:Blk w g 270 (s.vals++ [bv])):
 Calls Tryz.prog 123 #[.pointer (some ⟨g,0,none⟩)] w fun e w'=>e= .returned (.tuple #[])∧Blk w' g 270 (s.vals++ [.slice none 0 0])∧w.grownBy w' (some g):=by
 have c8:w.cell? ⟨g,8,none⟩=some bv:=hd.cell 8 _ rfl
 have f8:=hd.frozen 8
 have hb:=hd.set 8 (.slice none 0 0)
 have hg:=grown_setCell w ⟨g,8,none⟩ (.slice none 0 0)
 go_enter Tryz.func123,Tryz.ntmps123
 go_wp2
 go_end0
 exact⟨rfl,hb,hg⟩
end Go.Proofs.YtgilnagajcfkpaaGreatDoor
