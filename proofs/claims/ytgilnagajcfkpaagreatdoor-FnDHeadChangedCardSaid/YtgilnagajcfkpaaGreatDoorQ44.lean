import Derived.Lib.AppendIntMem
import Derived.Test.YtgilnagajcfkpaaGreatDoorQ43
set_option maxHeartbeats 4000000
set_option maxRecDepth 1000000
set_option linter.all false
namespace Go.Proofs.YtgilnagajcfkpaaGreatDoor
open Go.RowKit
def Pow10 (B:Nat)(w:World):Prop:= ∀w',Below B w w'→Lib.TabIs Tryz.prog w' "internal/strconv.uint64pow10" .u64 Lib.pow10Tab
theorem Pow10.below {B:Nat} {w w':World} (h:Pow10 B w)(hb:Below B w w'):Pow10 B w':=fun w2 h2=>h w2 (hb.trans h2)
theorem formatTime_any (B n:Nat)(b:Bool)(w:World)(ht:Pow10 B w)(hB:B≤w.heap.size)(hn:n≤9007199254740992):
 Calls Tryz.prog 134 #[Tm n b] w fun e w'=>e= .returned (Str (Lib.decDigits n))∧Below w.heap.size w w':=by
 have hw1:Below w.heap.size w (w.alloc (.cells #[.int .i64 n, .bool b] 87)):=(Below.refl _ w).alloc (Nat.le_refl _) _
 have hit:Lib.itoa (n:Int)=Lib.decDigits n:=by
  unfold Lib.itoa
  rw [if_neg (by omega),Int.toNat_natCast]
 unfold Tm
 go_enter Tryz.func134,Tryz.ntmps134
 go_wp2_with fail
 refine(timeUnix_any n b _).mono ?_
 rintro e w2 ⟨rfl,hb2⟩
 have hb3:Below w.heap.size w w2:=hw1.trans (hb2.mono hw1.size)
 have hc:=Tryz.strconv_FormatInt_10 (n:Int) (by omega) (by omega) w2 (ht w2 (hb3.mono hB))
 rw [hit]at hc
 go_wp2_with fail
 refine hc.mono ?_
 rintro e w3 ⟨rfl,k,os,rfl⟩
 have hb4:=Lib.below_grow w.heap.size w2 hb3.size k os
 generalize Sort.grow (w2.drewN k) os=w3 at*
 go_wp2
 go_ret
 exact⟨rfl,hb3.trans hb4⟩
theorem parseTime_any (s:BS)(n:Nat)(w:World)(hp:plain s=true)(hs:s.length≤4294967296)(hd:strip s=Lib.decDigits n)(hn:n<9007199254740992):
 Calls Tryz.prog 115 #[Str s] w fun e w'=>e= .returned (.tuple #[Tm n true, .nilIface])∧Below w.heap.size w w':=by
 have hpi:=dec_parse n hn
 obtain⟨o,ho⟩: ∃o,Hid (o=Obj.cells #[.int .i64 0, .bool false] 87):=⟨_,Lib.hid rfl⟩
 have hg:Blk (w.alloc o) w.heap.size 87 [.int .i64 0, .bool false]:=by rw [ho.out];exact Blk.new _ _ _
 have hb:Below w.heap.size w (w.alloc o):=(Below.refl _ w).alloc (Nat.le_refl _) _
 go_enter Tryz.func115,Tryz.ntmps115
 go_wp2_with fail
 rw [←ho.out]
 generalize w.alloc o=w1 at*
 refine(stW_any s w1 hs hp).mono ?_
 rintro e w2 ⟨rfl,hb2⟩
 rw [hd]
 have hg2:=hg.below hb2 hg.lt
 have hB2:=hb.trans (hb2.mono hb.size)
 go_wp2_with fail
 refine(Tryz.strconv_ParseInt_10_at64_ok ⟨(Lib.decDigits n).toArray⟩ (by show(Lib.decDigits n).length≤_;rw [←hd];have:(strip s).length≤s.length:=List.length_filter_le _ _;omega) n hpi w2).mono ?_
 rintro e w3 ⟨rfl,hw3⟩
 have hb3:Below w2.heap.size w2 w3:=by
  rcases hw3 with rfl|⟨t,rfl⟩
  ·exact Below.refl _ _
  ·exact Lib.bytesWorld_below _ _ _
 clear hw3
 have hg3:=hg2.below hb3 hg2.lt
 have hB3:=hB2.trans (hb3.mono hB2.size)
 go_wp2_with fail
 refine(unix_any n w3).mono ?_
 rintro e w4 ⟨rfl,hb4⟩
 have hg4:=hg3.below hb4 hg3.lt
 have hB4:=hB3.trans (hb4.mono hB3.size)
 have c0:=hg4.cell 0 _ rfl
 have c1:=hg4.cell 1 _ rfl
 have f0:=hg4.frozen 0
 have f1:=hg4.frozen 1
 unfold Tm
 go_wp2
 have hg5:=(hg4.set 0 (.int .i64 n)).set 1 (.bool true)
 have hB5:Below w.heap.size w ((w4.setCell ⟨w.heap.size,0,none⟩ (.int .i64 n)).setCell ⟨w.heap.size,1,none⟩ (.bool true)):=(((Frm.of_new (S:=fun k=>w.heap.size≤k) hB4).setCell _ _ (fun _=>Nat.le_refl _)).setCell _ _ (fun _=>Nat.le_refl _)).below (fun k _ e=>e) (Nat.le_refl _)
 generalize(w4.setCell ⟨w.heap.size,0,none⟩ (.int .i64 n)).setCell ⟨w.heap.size,1,none⟩ (.bool true)=w5 at*
 have e0:w5.cell? ⟨w.heap.size,0,none⟩=some (.int .i64 n):=hg5.cell 0 _ rfl
 have e1:w5.cell? ⟨w.heap.size,1,none⟩=some (.bool true):=hg5.cell 1 _ rfl
 refine bodyPost_ret_by (v:= .tuple #[Tm n true, .nilIface]) ?_ rfl ⟨rfl,hB5⟩
 rw [results_cell_tmp rfl]
 unfold Tm
 go_simp
end Go.Proofs.YtgilnagajcfkpaaGreatDoor
