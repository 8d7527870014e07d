import Derived.Lib.SlBuf
import Derived.StillTailTactics
import Derived.Test.YtgilnagajcfkpaaGreatDoorQ08
set_option maxHeartbeats 4000000
set_option maxRecDepth 1000000
set_option linter.all false
namespace Go.Proofs.YtgilnagajcfkpaaGreatDoor
open Go.RowKit
def Cpy (w:World)(x:Value)(n:Nat)(news:List Value):Prop:=
 (∃L,(Builtin.lenOf x).run Tryz.prog w= .ok L w∧Nat.min L n=news.length)∧(∀u∈news,u.oneCell'=true)∧(Builtin.firstCells 1 news.length x).run Tryz.prog w= .ok news.toArray w
theorem Cpy.str (w:World)(l:BS)(n:Nat):Cpy w (Str l) n (byts (l.take n)):=by
 refine⟨⟨l.length,by simp [Builtin.lenOf,ByteArray.size],by simp only [byL,List.length_take];exact Nat.min_comm _ _⟩,byts_one _,?_⟩
 simp [Builtin.firstCells,byts,ByteArray.extract_mk,List.map_take]
theorem Cpy.rd {w:World} {x:Value} {l:BS} (h:Rd w x (byts l))(n:Nat):Cpy w x n (byts (l.take n)):=by
 obtain⟨A,c,rfl,hlc,hx⟩:=h
 rw [byL]at hlc
 refine⟨⟨l.length,by simp [Builtin.lenOf,byL],by simp only [byL,List.length_take];exact Nat.min_comm _ _⟩,byts_one _,?_⟩
 rcases hx with h0|⟨g,off,rfl,_,hc⟩
 ·have:l= []:=by simpa [byts]using h0
  subst this
  cases A<;>simp [Builtin.firstCells,byts,loadCells,loadCellsFrom]
 ·have:=run_firstCells_some (P:=Tryz.prog) w 1 (byts (l.take n)).length ⟨g,off,none⟩ (byts l).length c (byts (l.take n)) (by simp) (fun j u hu=>by
   rw [add_at]
   refine hc j u ?_
   have hj:j<n:=by
    have:=(List.getElem?_eq_some_iff.1 hu).1
    rw [byL,List.length_take]at this;omega
   rw [←hu];simp [byts,List.getElem?_take,hj])
  exact this
theorem run_copy_blk {w:World} {g:Nat} {t:TypeId} {cs:List Value} (hb:Blk w g t cs)(sT ty:TypeId)(o dLen dCap:Nat)(x:Value)(news:List Value)(hx:Cpy w x dLen news)(hfit:o+news.length≤cs.length):
 (Builtin.copy_ #[22,sT] ty #[.slice (some ⟨g,o,none⟩) dLen dCap,x]).run Tryz.prog w= .ok (.int .i64 news.length) (w.setRow g (cs.take o++news++cs.drop (o+news.length)).toArray):=by
 obtain⟨⟨L,hL,hmin⟩,h1,hf⟩:=hx
 have hst:=run_storeCells_at Tryz.prog g o t news 0 cs.toArray w hb (by simpa using hfit) h1
 obtain⟨i,hi,_,hs,_⟩:=info_parts Tryz.info5
 have hd:(Builtin.lenOf (.slice (some ⟨g,o,none⟩) dLen dCap)).run Tryz.prog w= .ok dLen w:=by simp [Builtin.lenOf]
 have hmin':min L dLen=news.length:=hmin
 simp only [Nat.add_zero]at hst
 unfold Builtin.copy_
 simp [run_underlying Tryz.underlying22,sizeOf,typeInfo,hi,hs,hL,hd,hmin,hmin',hf,hst,goInt]
theorem Blk.setRow {w:World} {g:Nat} {t:TypeId} {cs:List Value} (h:Blk w g t cs)(cs':List Value):Blk (w.setRow g cs'.toArray) g t cs':=by
 unfold Blk at h⊢
 exact setRow_heap w g _ _ t _ h
theorem gsR (w:World)(g:Nat)(c:Array Value):w.grownBy (w.setRow g c) (some g):=
 ⟨rfl,rfl,rfl,by simp [World.setRow],fun k _ hne=>by
   have:k≠g:=fun e=>hne (by rw [e])
   simp [World.setRow,Array.getElem?_modify,this.symm]⟩
theorem strRead_any (h bb o n c:Nat)(s:BS)(i:Nat)(p:Int)(cs:List Value)(w:World)(hh:Blk w h 132 [Str s, .int .i64 i, .int .i64 p])(hb:Blk w bb 5 cs)(hi:i<s.length)(hs:s.length≤1099511627776)(hn:0<n)(hn2:n≤4096)
 (hfit:o+n≤cs.length)(hne:h≠bb):
 Calls Tryz.prog 234 #[.pointer (some ⟨h,0,none⟩), .slice (some ⟨bb,o,none⟩) n c] w fun e w'=>e= .returned (.tuple #[.int .i64 ((s.drop i).take n).length, .nilIface])∧Blk w' h 132 [Str s, .int .i64 (i+((s.drop i).take n).length:Nat), .int .i64 (-1)]∧
  Blk w' bb 5 (cs.take o++byts ((s.drop i).take n)++cs.drop (o+((s.drop i).take n).length))∧Frm (fun k=>k=h∨k=bb) w w':=by
 have c0:=hh.cell 0 _ rfl
 have c1:=hh.cell 1 _ rfl
 have c2:=hh.cell 2 _ rfl
 have f1:=hh.frozen 1
 have f2:=hh.frozen 2
 have hil:(i:Int)<(s.length:Int):=by omega
 have hi0:(0:Int)≤(i:Int):=by omega
 have hil2:(i:Int)≤(s.length:Int):=by omega
 have hil3:i≤s.length:=by omega
 have hcnt:((s.drop i).take n).length≤4096:=by rw [List.length_take];omega
 have hcp: ∀ww,Cpy ww (Str (s.drop i)) n (byts ((s.drop i).take n)):=fun ww=>Cpy.str ww (s.drop i) n
 have Hcp:=Lib.hid hcp;clear hcp
 go_enter Tryz.func234,Tryz.ntmps234
 go_wp2
 go_quiet (fail)
 go_wp2
 have hh1:=(hh.drewN nq).set 2 (.int .i64 (-1))
 have hb1:=(hb.drewN nq).far (p:=⟨h,2,none⟩) hne.symm (.int .i64 (-1))
 have hF1:Frm (fun k=>k=h∨k=bb) w ((w.drewN nq).setCell ⟨h,2,none⟩ (.int .i64 (-1))):=((Frm.refl _ w).drewN nq).setCell ⟨h,2,none⟩ _ (fun _=> .inl rfl)
 clear c0 c1 c2 f1 f2 hh hb
 generalize(w.drewN nq).setCell ⟨h,2,none⟩ (.int .i64 (-1))=w1 at*
 have c0:=hh1.cell 0 _ rfl
 have c1:=hh1.cell 1 _ rfl
 go_still_tail 10,(by kernel_rfl)
 change wpList _ _ _ _ _ w1.drew
 have hrun:=run_copy_blk hb1.drew 9 3 o n c (Str (s.drop i)) (byts ((s.drop i).take n)) (Hcp.out _) (by rw [byL,List.length_take];omega)
 rw [byL]at hrun
 refine Lib.wpList_copy_run _ rfl (.tmp 20) (.tmp 29) 22 9 rfl _ _ rfl rfl hrun ?_
 have hb2:=hb1.drew.setRow (cs.take o++byts ((s.drop i).take n)++cs.drop (o+((s.drop i).take n).length))
 have hgr:=gsR w1.drew bb (cs.take o++byts ((s.drop i).take n)++cs.drop (o+((s.drop i).take n).length)).toArray
 have hh2:=hh1.drew.grown hgr (fun e=>hne (by injection e))
 have hF2:=hF1.drew.after (Frm.of_grown hgr) (fun k _ e=> .inr (by injection e))
 clear hrun hgr hb1 hh1 hF1 c0 c1
 generalize w1.drew.setRow bb _=w2 at*
 have c1:=hh2.cell 1 _ rfl
 have f1:=hh2.frozen 1
 generalize hm:((s.drop i).take n).length=m at*
 have Hm:=Lib.hid hm;clear hm
 have hm0:(0:Int)≤(m:Int):=by omega
 go_wp2
 go_ret2
 rw [Hm.out]
 have hx:=hh2.set 1 (.int .i64 ((i:Int)+(m:Int)))
 exact⟨rfl,by simpa using hx,hb2.far (p:=⟨h,1,none⟩) hne.symm _,hF2.setCell ⟨h,1,none⟩ _ (fun _=> .inl rfl)⟩
theorem Rd.from {w:World} {A:Option Addr} {n c:Nat} {l:BS} (h:Rd w (.slice A n c) (byts l))(lo:Nat)(hlo:lo≤n):Rd w (.slice (if c=lo then A else A.map fun x=>x.add lo) (n-lo) (c-lo)) (byts (l.drop lo)):=by
 have hn:n=l.length:=by obtain⟨A',c',he,_⟩:=h;injection he with _ h2 _;rw [h2,byL]
 have h1:=h.sliced lo n hlo (Nat.le_refl _)
 rw [List.take_of_length_le (by simp [byL];omega)]at h1
 simpa [byts,List.map_drop,Go.sliced]using h1
theorem bytRead_any (h bb o n c:Nat)(s:BS)(i:Nat)(p:Int)(cs:List Value)(A:Option Addr)(sc:Nat)(w:World)(hr:Rd w (.slice A s.length sc) (byts s))(hrh: ∀k,(Value.slice A s.length sc).ownBlock=some k→¬(k=h∨k=bb))(hh:Blk w h 277 [.slice A s.length sc, .int .i64 i, .int .i64 p])(hb:Blk w bb 5 cs)(hi:i<s.length)(hs:s.length≤1099511627776)(hn:0<n)(hn2:n≤4096)
 (hfit:o+n≤cs.length)(hne:h≠bb):
 Calls Tryz.prog 267 #[.pointer (some ⟨h,0,none⟩), .slice (some ⟨bb,o,none⟩) n c] w fun e w'=>e= .returned (.tuple #[.int .i64 ((s.drop i).take n).length, .nilIface])∧Blk w' h 277 [.slice A s.length sc, .int .i64 (i+((s.drop i).take n).length:Nat), .int .i64 (-1)]∧
  Blk w' bb 5 (cs.take o++byts ((s.drop i).take n)++cs.drop (o+((s.drop i).take n).length))∧Frm (fun k=>k=h∨k=bb) w w':=by
 have hsc: ¬sc=i:=by
  obtain⟨A',c',he,hlc,_⟩:=hr
  injection he with _ h2 h3
  rw [byL]at hlc;omega
 have c0:=hh.cell 0 _ rfl
 have c1:=hh.cell 1 _ rfl
 have c2:=hh.cell 2 _ rfl
 have f1:=hh.frozen 1
 have f2:=hh.frozen 2
 have hil:(i:Int)<(s.length:Int):=by omega
 have hi0:(0:Int)≤(i:Int):=by omega
 have hil2:(i:Int)≤(s.length:Int):=by omega
 have hil3:i≤s.length:=by omega
 have hcnt:((s.drop i).take n).length≤4096:=by rw [List.length_take];omega
 go_enter Tryz.func267,Tryz.ntmps267
 go_wp2
 go_quiet (fail)
 go_wp2
 have hh1:=(hh.drewN nq).set 2 (.int .i64 (-1))
 have hb1:=(hb.drewN nq).far (p:=⟨h,2,none⟩) hne.symm (.int .i64 (-1))
 have hF1:Frm (fun k=>k=h∨k=bb) w ((w.drewN nq).setCell ⟨h,2,none⟩ (.int .i64 (-1))):=((Frm.refl _ w).drewN nq).setCell ⟨h,2,none⟩ _ (fun _=> .inl rfl)
 clear c0 c1 c2 f1 f2 hh hb
 generalize(w.drewN nq).setCell ⟨h,2,none⟩ (.int .i64 (-1))=w1 at*
 have c0:=hh1.cell 0 _ rfl
 have c1:=hh1.cell 1 _ rfl
 go_still_tail 10,(by kernel_rfl)
 change wpList _ _ _ _ _ w1.drew
 have hr1:=(hr.frm hF1 hrh).from i (by omega)
 rw [if_neg hsc]at hr1
 have hrun:=run_copy_blk hb1.drew 22 3 o n c _ (byts ((s.drop i).take n)) (Cpy.rd (w:=w1.drew) hr1 n) (by rw [byL,List.length_take];omega)
 rw [byL]at hrun
 refine Lib.wpList_copy_run _ rfl (.tmp 20) (.tmp 29) 22 22 rfl _ _ rfl rfl hrun ?_
 have hb2:=hb1.drew.setRow (cs.take o++byts ((s.drop i).take n)++cs.drop (o+((s.drop i).take n).length))
 have hgr:=gsR w1.drew bb (cs.take o++byts ((s.drop i).take n)++cs.drop (o+((s.drop i).take n).length)).toArray
 have hh2:=hh1.drew.grown hgr (fun e=>hne (by injection e))
 have hF2:=hF1.drew.after (Frm.of_grown hgr) (fun k _ e=> .inr (by injection e))
 clear hrun hgr hr1 hr hb1 hh1 hF1 c0 c1
 generalize w1.drew.setRow bb _=w2 at*
 have c1:=hh2.cell 1 _ rfl
 have f1:=hh2.frozen 1
 generalize hm:((s.drop i).take n).length=m at*
 have Hm:=Lib.hid hm;clear hm
 have hm0:(0:Int)≤(m:Int):=by omega
 go_wp2
 go_ret2
 rw [Hm.out]
 have hx:=hh2.set 1 (.int .i64 ((i:Int)+(m:Int)))
 exact⟨rfl,by simpa using hx,hb2.far (p:=⟨h,1,none⟩) hne.symm _,hF2.setCell ⟨h,1,none⟩ _ (fun _=> .inl rfl)⟩
theorem m76_Read (a:Addr)(w:World):(method 486 76 (.pointer (some a)) "Read").run Tryz.prog w= .ok (234, .pointer (some a)) w:=by kernel_rfl
theorem m76_WriteTo (a:Addr)(w:World):(method 486 76 (.pointer (some a)) "WriteTo").run Tryz.prog w= .ok (235, .pointer (some a)) w:=by kernel_rfl
theorem n76_WriteTo (a:Addr)(w:World):(nilAhead 486 76 (.pointer (some a)) "WriteTo").run Tryz.prog w= .ok (some false) w:=by kernel_rfl
theorem m238_Read (a:Addr)(w:World):(method 486 238 (.pointer (some a)) "Read").run Tryz.prog w= .ok (267, .pointer (some a)) w:=by kernel_rfl
theorem m238_WriteTo (a:Addr)(w:World):(method 486 238 (.pointer (some a)) "WriteTo").run Tryz.prog w= .ok (268, .pointer (some a)) w:=by kernel_rfl
theorem n238_WriteTo (a:Addr)(w:World):(nilAhead 486 238 (.pointer (some a)) "WriteTo").run Tryz.prog w= .ok (some false) w:=by kernel_rfl
theorem m116_Write (a:Addr)(w:World):(method 486 116 (.pointer (some a)) "Write").run Tryz.prog w= .ok (243, .pointer (some a)) w:=by kernel_rfl
theorem n116_Write (a:Addr)(w:World):(nilAhead 486 116 (.pointer (some a)) "Write").run Tryz.prog w= .ok (some false) w:=by kernel_rfl
theorem m116_WriteString (a:Addr)(w:World):(method 486 116 (.pointer (some a)) "WriteString").run Tryz.prog w= .ok (244, .pointer (some a)) w:=by kernel_rfl
theorem n116_WriteString (a:Addr)(w:World):(nilAhead 486 116 (.pointer (some a)) "WriteString").run Tryz.prog w= .ok (some false) w:=by kernel_rfl
theorem m116_WriteTo (a:Addr)(w:World):(method 486 116 (.pointer (some a)) "WriteTo").run Tryz.prog w= .ok (245, .pointer (some a)) w:=by kernel_rfl
theorem n116_WriteTo (a:Addr)(w:World):(nilAhead 486 116 (.pointer (some a)) "WriteTo").run Tryz.prog w= .ok (some false) w:=by kernel_rfl
theorem m358_Write (a:Addr)(w:World):(method 486 358 (.pointer (some a)) "Write").run Tryz.prog w= .ok (288, .pointer (some a)) w:=by kernel_rfl
theorem n358_Write (a:Addr)(w:World):(nilAhead 486 358 (.pointer (some a)) "Write").run Tryz.prog w= .ok (some false) w:=by kernel_rfl
theorem m358_Close (a:Addr)(w:World):(method 486 358 (.pointer (some a)) "Close").run Tryz.prog w= .ok (287, .pointer (some a)) w:=by kernel_rfl
theorem n358_Close (a:Addr)(w:World):(nilAhead 486 358 (.pointer (some a)) "Close").run Tryz.prog w= .ok (some false) w:=by kernel_rfl
theorem m363_Write (a:Addr)(w:World):(method 486 363 (.pointer (some a)) "Write").run Tryz.prog w= .ok (291, .pointer (some a)) w:=by kernel_rfl
theorem n363_Write (a:Addr)(w:World):(nilAhead 486 363 (.pointer (some a)) "Write").run Tryz.prog w= .ok (some false) w:=by kernel_rfl
theorem m363_Close (a:Addr)(w:World):(method 486 363 (.pointer (some a)) "Close").run Tryz.prog w= .ok (290, .pointer (some a)) w:=by kernel_rfl
theorem n363_Close (a:Addr)(w:World):(nilAhead 486 363 (.pointer (some a)) "Close").run Tryz.prog w= .ok (some false) w:=by kernel_rfl
theorem m172_CanonicalizeBody (a:Addr)(w:World):(method 486 172 (.pointer (some a)) "CanonicalizeBody").run Tryz.prog w= .ok (255, .pointer (some a)) w:=by kernel_rfl
theorem n172_CanonicalizeBody (a:Addr)(w:World):(nilAhead 486 172 (.pointer (some a)) "CanonicalizeBody").run Tryz.prog w= .ok (some false) w:=by kernel_rfl
theorem m172_CanonicalizeHeader (a:Addr)(w:World):(method 486 172 (.pointer (some a)) "CanonicalizeHeader").run Tryz.prog w= .ok (256, .pointer (some a)) w:=by kernel_rfl
theorem n172_CanonicalizeHeader (a:Addr)(w:World):(nilAhead 486 172 (.pointer (some a)) "CanonicalizeHeader").run Tryz.prog w= .ok (some false) w:=by kernel_rfl
theorem m175_CanonicalizeBody (a:Addr)(w:World):(method 486 175 (.pointer (some a)) "CanonicalizeBody").run Tryz.prog w= .ok (257, .pointer (some a)) w:=by kernel_rfl
theorem n175_CanonicalizeBody (a:Addr)(w:World):(nilAhead 486 175 (.pointer (some a)) "CanonicalizeBody").run Tryz.prog w= .ok (some false) w:=by kernel_rfl
theorem m175_CanonicalizeHeader (a:Addr)(w:World):(method 486 175 (.pointer (some a)) "CanonicalizeHeader").run Tryz.prog w= .ok (258, .pointer (some a)) w:=by kernel_rfl
theorem n175_CanonicalizeHeader (a:Addr)(w:World):(nilAhead 486 175 (.pointer (some a)) "CanonicalizeHeader").run Tryz.prog w= .ok (some false) w:=by kernel_rfl
theorem m226_Write (a:Addr)(w:World):(method 486 226 (.pointer (some a)) "Write").run Tryz.prog w= .ok (126, .pointer (some a)) w:=by kernel_rfl
theorem n226_Write (a:Addr)(w:World):(nilAhead 486 226 (.pointer (some a)) "Write").run Tryz.prog w= .ok (some false) w:=by kernel_rfl
theorem m183_WriteString (a:Addr)(w:World):(method 486 183 (.pointer (some a)) "WriteString").run Tryz.prog w= .ok (262, .pointer (some a)) w:=by kernel_rfl
theorem n183_WriteString (a:Addr)(w:World):(nilAhead 486 183 (.pointer (some a)) "WriteString").run Tryz.prog w= .ok (some false) w:=by kernel_rfl
theorem m124_Write (a:Addr)(w:World):(method 486 124 (.pointer (some a)) "Write").run Tryz.prog w= .ok (251, .pointer (some a)) w:=by kernel_rfl
theorem n124_Write (a:Addr)(w:World):(nilAhead 486 124 (.pointer (some a)) "Write").run Tryz.prog w= .ok (some false) w:=by kernel_rfl
theorem m70_Write (a:Addr)(w:World):(method 486 70 (.pointer (some a)) "Write").run Tryz.prog w= .ok (164, .pointer (some a)) w:=by kernel_rfl
theorem n70_Write (a:Addr)(w:World):(nilAhead 486 70 (.pointer (some a)) "Write").run Tryz.prog w= .ok (some false) w:=by kernel_rfl
theorem m70_WriteString (a:Addr)(w:World):(method 486 70 (.pointer (some a)) "WriteString").run Tryz.prog w= .ok (160, .pointer (some a)) w:=by kernel_rfl
theorem n70_WriteString (a:Addr)(w:World):(nilAhead 486 70 (.pointer (some a)) "WriteString").run Tryz.prog w= .ok (some false) w:=by kernel_rfl
theorem own_far {w:World} {B:Nat} {e:TypeId} {v:Value} {xs:List Value} (h:OwnAt w B e v xs)(p:Addr)(hp:p.block<B)(u:Value):OwnAt (w.setCell p u) B e v xs:=
 h.frm (S:=(· =p.block)) (Frm.setCell (S:=(· =p.block)) (Frm.refl _ w) p u (fun _=>rfl)) (fun k hk e=>by have:=(h.lt k hk).1;omega)
theorem eFsn (cr:Bool)(l:BS)(k:Nat)(h:k<l.length):eFr cr (l.take (k+1))=endStep (eFr cr (l.take k)) l[k]:=foldl_snoc _ _ _ _ h
theorem fix_any (c off:Nat)(t:TypeId)(cells:List Value)(cr:Bool)(bv:Value)(b:BS)(w:World)(hc:Blk w c t cells)(hcr:cells[off]?=some (.bool cr))(hb:Rd w bv (byts b))(hne:bv.ownBlock≠some c)(hn:b.length≤1099511627776):
 Calls Tryz.prog 289 #[.pointer (some ⟨c,off,none⟩),bv] w fun e w'=> ∃v,e= .returned v∧OwnAt w' w.heap.size 5 v (byts (eFr cr b).1)∧Blk w' c t (cells.set off (.bool (eFr cr b).2))∧Frm (· =c) w w':=by
 have hb0:=hb
 obtain⟨A,cp,rfl,hlc,hx⟩:=hb
 rw [byL]at hlc hb0⊢
 rw [byL]at hne
 have hlt:=hc.lt
 have hoff:off<cells.length:=(List.getElem?_eq_some_iff.1 hcr).1
 have hb1:=Lib.hid hb0
 have hn0:(0:Int)≤(b.length:Int):=by omega
 have hn1:(b.length:Int)≤1099511627776:=by omega
 have hmk:=make_at w 22 5 (.int .u8 0) 1 Tryz.underlying22 Tryz.info5 rfl 0 b.length (Nat.zero_le _) (by omega) (by omega)
 obtain⟨w1,hmr,ho1,hbw1⟩:=hmk
 have hmr':(Instr.makeSlice 22 (.int .i64 0) (.int .i64 (b.length:Int))).run Tryz.prog w= .ok (.slice (some ⟨w.heap.size,0,none⟩) 0 b.length) w1:=hmr
 clear hmr
 have hc1:Blk w1 c t cells:=hc.below hbw1 hlt
 have hF1:Frm (· =c) w w1:=Frm.of_new hbw1
 go_enter Tryz.func289,Tryz.ntmps289
 go_wp2
 obtain⟨B,hB⟩: ∃B,Hid (B=w.heap.size):=⟨_,Lib.hid rfl⟩
 rw [←hB.out]at ho1 hlt⊢
 have hcs:cells.set off (.bool cr)=cells:=by
  apply List.ext_getElem?
  intro j
  rw [List.getElem?_set]
  split
  ·rename_i e;subst e;first|exact hcr.symm|(rw [if_pos hoff];exact hcr.symm)
  ·rfl
 have hc2:Blk w1 c t (cells.set off (.bool cr)):=by rw [hcs];exact hc1
 clear hc hc1 hcs hbw1 hmr' hb0 hcr
 go_loopw [5,14] (fun v x wx=> ∃(k:Nat),k≤b.length∧x= .int .i64 k∧OwnAt wx B 5 v (byts (eFr cr (b.take k)).1)∧Blk wx c t (cells.set off (.bool (eFr cr (b.take k)).2))∧Frm (· =c) w wx) (fun _ x _=>b.length-(intOf x).toNat)
 case atStart=>exact⟨0,Nat.zero_le _,rfl,ho1,hc2,hF1⟩
 case round=>
  clear ho1 hc2 hF1
  obtain⟨k,hk,rfl,ho,hc,hF⟩:=hrel
  have hBw:B≤wr.heap.size:=by rw [hB.out];exact hF.size
  by_cases hlt2:k<b.length
  ·have hstep:=eFsn cr b k hlt2
   have hel:=ended_len cr (b.take k)
   rw [List.length_take,Nat.min_eq_left hk]at hel
   have hA: ∃g o,A=some ⟨g,o,none⟩∧g≠c∧wr.cell? ⟨g,o+k,none⟩=some (.int .u8 b[k].toNat):=by
    rcases hx with h0|⟨g,o,hAe,_,hx⟩
    ·have:b= []:=by simpa [byts]using h0
     subst this;simp at hlt2
    ·have hgc:g≠c:=fun e=>hne (by rw [hAe,e];rfl)
     exact⟨g,o,hAe,hgc,frC hF (hx k _ (by simp [byts,hlt2])) hgc⟩
   obtain⟨g,o,rfl,hgc,hcell⟩:=hA
   have cc:=hc.cell off (.bool (eFr cr (b.take k)).2) (by rw [List.getElem?_set];simp [hoff])
   have ff:=hc.frozen off
   have k0:(0:Int)≤(k:Int):=by omega
   have k1:(k:Int)<(b.length:Int):=by omega
   generalize hE:eFr cr (b.take k)=E at*
   obtain⟨E1,E2⟩:=E
   simp only at ho hc cc hel
   have HE:=Lib.hid hE
   have Hs:Hid (eFr cr (b.take (k+1))=endStep (E1,E2) b[k]):=hstep
   clear hE hstep
   generalize hz:b[k]=z at*
   have hoF:=own_far ho ⟨c,off,none⟩ hlt (.bool false)
   have hcF:=hc.set off (.bool false)
   rw [List.set_set]at hcF
   have hFF:=Frm.setCell (S:=(· =c)) hF ⟨c,off,none⟩ (.bool false) (fun _=>rfl)
   have qF:wr.heap.size=(wr.setCell ⟨c,off,none⟩ (.bool false)).heap.size:=(szC _ _ _).symm
   have QF:=Lib.hid qF;have hBF:B≤(wr.setCell ⟨c,off,none⟩ (.bool false)).heap.size:=by rw [←qF];exact hBw
   have HBF:=Lib.hid hBF
   clear qF hBF
   by_cases h13:z=13
   ·have z1:((z.toNat:Int)==13)=true:=bT h13
    have hoT:=own_far hoF ⟨c,off,none⟩ hlt (.bool true)
    have hcT:=hcF.set off (.bool true)
    rw [List.set_set]at hcT
    have qT:wr.heap.size=((wr.setCell ⟨c,off,none⟩ (.bool false)).setCell ⟨c,off,none⟩ (.bool true)).heap.size:=by rw [szC];exact QF.out
    have QT:=Lib.hid qT;have hBT:B≤((wr.setCell ⟨c,off,none⟩ (.bool false)).setCell ⟨c,off,none⟩ (.bool true)).heap.size:=by rw [←qT];exact hBw
    have HBT:=Lib.hid hBT
    clear qT hBT
    have hFT:=Frm.setCell (S:=(· =c)) hFF ⟨c,off,none⟩ (.bool true) (fun _=>rfl)
    go_wp2_with (at_builtin;refine appB1' _ rfl (.tmp 38) (.tmp 40) rfl _ 13 _ rfl rfl hoT _ QT.out rfl (by omega) (Below.refl B _) HBT.out ?_;intro v2 w2 ho2 _ hb2)
    all_goals
     go_roundw
     case rel=>
      have hc3:=hcT.below hb2 hlt
      have hF3:=hFT.after (Frm.of_below hb2) (fun i hi e=>by have:=hB.out;omega)
      refine⟨k+1,hlt2,by go_num,?_,?_,hF3⟩
      ·rw [Hs.out];simpa [endStep,h13]using ho2
      ·rw [Hs.out];simpa [endStep,h13]using hc3
     case measure=>simp [intOf];omega
   ·have z1:((z.toNat:Int)==13)=false:=bF h13
    by_cases h10:z=10
    ·have z2:((z.toNat:Int)==10)=true:=bT h10
     cases E2 with
     |true=>
      go_wp2_with (at_builtin;refine appB1' _ rfl (.tmp 38) (.tmp 40) rfl _ 10 _ rfl rfl hoF _ QF.out rfl (by omega) (Below.refl B _) HBF.out ?_;intro v2 w2 ho2 _ hb2)
      all_goals
       go_roundw
       case rel=>
        have hc3:=hcF.below hb2 hlt
        have hF3:=hFF.after (Frm.of_below hb2) (fun i hi e=>by have:=hB.out;omega)
        refine⟨k+1,hlt2,by go_num,?_,?_,hF3⟩
        ·rw [Hs.out];simpa [endStep,h10]using ho2
        ·rw [Hs.out];simpa [endStep,h10]using hc3
       case measure=>simp [intOf];omega
     |false=>
      go_wp2_with (first
       |(at_builtin;refine appB1' _ rfl (.tmp 35) (.tmp 36) rfl _ 13 _ rfl rfl hoF _ QF.out rfl (by omega) (Below.refl B _) HBF.out ?_;intro v1 w1' ho1 _ hb1')
       |(at_builtin;refine appB1' _ rfl (.tmp 38) (.tmp 40) rfl _ 10 _ rfl rfl ho1 _ rfl rfl (by simp only [List.length_append,List.length_cons,List.length_nil];omega) hb1' HBF.out ?_;intro v2 w2 ho2 _ hb2))
      all_goals
       go_roundw
       case rel=>
        have hc3:=hcF.below hb2 hlt
        have hF3:=hFF.after (Frm.of_below hb2) (fun i hi e=>by have:=hB.out;omega)
        refine⟨k+1,hlt2,by go_num,?_,?_,hF3⟩
        ·rw [Hs.out];simpa [endStep,h10]using ho2
        ·rw [Hs.out];simpa [endStep,h10]using hc3
       case measure=>simp [intOf];omega
    ·have z2:((z.toNat:Int)==10)=false:=bF h10
     have e10:(z==10)=false:=by simpa using h10
     have e13:(z==13)=false:=by simpa using h13
     go_wp2_with (at_builtin;refine appB1' _ rfl (.tmp 38) (.tmp 40) rfl _ z _ rfl rfl hoF _ QF.out rfl (by omega) (Below.refl B _) HBF.out ?_;intro v2 w2 ho2 _ hb2)
     all_goals
      go_roundw
      case rel=>
       have hc3:=hcF.below hb2 hlt
       have hF3:=hFF.after (Frm.of_below hb2) (fun i hi e=>by have:=hB.out;omega)
       refine⟨k+1,hlt2,by go_num,?_,?_,hF3⟩
       ·rw [Hs.out];simpa [endStep,e10,e13]using ho2
       ·rw [Hs.out];simpa [endStep,e10,e13]using hc3
      case measure=>simp [intOf];omega
  ·obtain rfl:k=b.length:=by omega
   rw [List.take_length]at ho hc
   go_wp2
   go_ret
   rw [hB.out]at ho
   exact⟨_,rfl,ho,hc,hF⟩
structure Bld (w:World)(B b:Nat)(v:Value)(acc:BS):Prop where
 blk:Blk w b 72 [.pointer none,v]∨Blk w b 72 [.pointer (some ⟨b,0,none⟩),v]
 own:OwnAt w B 5 v (byts acc)
theorem Tryz.size72:(Tryz.prog.info? 72).map (·.size)=some 2:=by kernel_rfl
theorem bldCheck_any (b:Nat)(v:Value)(w:World)(h:Blk w b 72 [.pointer none,v]∨Blk w b 72 [.pointer (some ⟨b,0,none⟩),v]):
 Calls Tryz.prog 180 #[.pointer (some ⟨b,0,none⟩)] w fun e w'=>e= .returned (.tuple #[])∧Blk w' b 72 [.pointer (some ⟨b,0,none⟩),v]∧Frm (· =b) w w':=by
 rcases h with h|h
 ·obtain⟨j,hj,hjs⟩:=Option.map_eq_some_iff.1 Tryz.size72
  have c0:=h.cell 0 _ rfl
  have f0:=h.frozen 0
  have hsh:w.shape? b=some (72,2):=by unfold World.shape?;rw [h];rfl
  have hset:=h.set 0 (.pointer (some ⟨b,0,none⟩))
  go_enter Tryz.func180,Tryz.ntmps180
  go_wp2
  rw [Lib.run_to_unsafe w ⟨b,0,none⟩ (by kernel_rfl) (by kernel_rfl) hj (by rw [hjs];decide) hsh (Nat.zero_lt_succ 1)]
  simp only [Result.andThen]
  rw [Oper.upon_value]
  go_wp2
  rw [run_callFunc_extern Tryz.func196 (by kernel_rfl) (by kernel_rfl) (by kernel_rfl) (e:=Extern.AbiNoEscape.same) (by kernel_rfl)]
  rw [Lib.run_noEscape]
  simp only [Result.andThen]
  rw [Oper.upon_value]
  go_wp2
  rw [Lib.run_from_unsafe w ⟨b,0,none⟩ (by kernel_rfl) (by kernel_rfl) hj hsh (by kernel_rfl)]
  simp only [Result.andThen]
  rw [Oper.upon_value]
  go_wp2
  go_end0
  exact⟨rfl,hset,(Frm.refl _ w).setCell ⟨b,0,none⟩ _ (fun _=>rfl)⟩
 ·have c0:=h.cell 0 _ rfl
  have f0:=h.frozen 0
  obtain⟨j,hj,hjs⟩:=Option.map_eq_some_iff.1 Tryz.size72
  have hnq:=fun w=>Lib.run_neq_ptr_same (P:=Tryz.prog) (w:=w) (tp:=70) (te:=72) ⟨b,0,none⟩ (by kernel_rfl) hj
  go_enter Tryz.func180,Tryz.ntmps180
  go_wp2
  go_end0
  exact⟨rfl,h,Frm.refl _ w⟩
theorem bldWriteString_any (B b:Nat)(v:Value)(acc l:BS)(w:World)(h:Bld w B b v acc)(hn:acc.length+l.length≤140737488355328)(hB:B≤w.heap.size):
 Calls Tryz.prog 160 #[.pointer (some ⟨b,0,none⟩),Str l] w fun e w'=>e= .returned (.tuple #[.int .i64 l.length, .nilIface])∧∃v',Bld w' B b v' (acc++l)∧(v'.ownBlock=v.ownBlock∨∃k,v'.ownBlock=some k∧w.heap.size≤k)∧Frm (fun k=>k=b∨some k=v.ownBlock) w w':=by
 obtain⟨hk,ho⟩:=h
 go_enter Tryz.func160,Tryz.ntmps160
 go_wp2_with fail
 refine(bldCheck_any b v w hk).mono ?_
 rintro e w1 ⟨rfl,hb1,hF1⟩
 have hne:v.ownBlock≠some b:=by
  rcases hk with hk|hk<;>exact own_blk ho hk (by decide)
 have ho1:=ho.frm hF1 (fun k hk e=>hne (by rw [hk,e]))
 have c1:=hb1.cell 1 _ rfl
 have hs1:=hF1.size
 go_wp2_with (first|(at_builtin;refine appB (v:=v) rfl (.tmp 12) (.tmp 13) 9 (.inr rfl) rfl acc l rfl ho1 rfl (Src.str l) hn (by omega) ?_;intro v2 w2 ho2 hg2 hb2 hv2;have hbb2:=hb1.grown hg2 (fun e=>hne e.symm);have f1:=hbb2.frozen 1;have c1:=hbb2.cell 1 _ rfl;obtain⟨A,c,rfl⟩:=ho2.form)|fail)
 go_ret2
 have hbb3:=hbb2.set 1 (.slice A (byts (acc++l)).length c)
 have hne2:(Value.slice A (byts (acc++l)).length c).ownBlock≠some b:=own_blk ho2 hbb2 (by decide)
 refine⟨by simp,_,⟨.inr hbb3,ho2.kept (grown_setCell _ _ _) (.inr hne2)⟩,?_,?_⟩
 ·rcases hv2 with h|h
  ·exact .inl h
  ·exact .inr ⟨_,h,hs1⟩
 ·refine Frm.setCell (S:=fun k=>k=b∨some k=v.ownBlock) ?_ _ _ (fun _=> .inl rfl)
  exact(hF1.mono (fun k _ e=> .inl e)).after (Frm.of_grown hg2) (fun k _ e=> .inr e)
theorem bldWrite_any (B b:Nat)(v pv:Value)(acc l:BS)(w:World)(h:Bld w B b v acc)(hp:Rd w pv (byts l))(hpS: ∀k,pv.ownBlock=some k→k≠b)(hn:acc.length+l.length≤140737488355328)(hB:B≤w.heap.size):
 Calls Tryz.prog 164 #[.pointer (some ⟨b,0,none⟩),pv] w fun e w'=>e= .returned (.tuple #[.int .i64 l.length, .nilIface])∧∃v',Bld w' B b v' (acc++l)∧(v'.ownBlock=v.ownBlock∨∃k,v'.ownBlock=some k∧w.heap.size≤k)∧Frm (fun k=>k=b∨some k=v.ownBlock) w w':=by
 obtain⟨hk,ho⟩:=h
 go_enter Tryz.func164,Tryz.ntmps164
 go_wp2_with fail
 refine(bldCheck_any b v w hk).mono ?_
 rintro e w1 ⟨rfl,hb1,hF1⟩
 have hne:v.ownBlock≠some b:=by
  rcases hk with hk|hk<;>exact own_blk ho hk (by decide)
 have ho1:=ho.frm hF1 (fun k hk e=>hne (by rw [hk,e]))
 have c1:=hb1.cell 1 _ rfl
 have hs1:=hF1.size
 have hp1:=hp.frm hF1 (fun k hk e=>hpS k hk e)
 obtain⟨pA,pc,rfl,_⟩:=hp
 rw [byL]at*
 go_wp2_with (first|(at_builtin;refine appB (v:=v) rfl (.tmp 12) (.tmp 13) 22 (.inl rfl) rfl acc l rfl ho1 rfl (Src.rd hp1 (byts_one _)) hn (by omega) ?_;intro v2 w2 ho2 hg2 hb2 hv2;have hbb2:=hb1.grown hg2 (fun e=>hne e.symm);have f1:=hbb2.frozen 1;have c1:=hbb2.cell 1 _ rfl;obtain⟨A,c,rfl⟩:=ho2.form)|fail)
 go_ret2
 have hbb3:=hbb2.set 1 (.slice A (byts (acc++l)).length c)
 have hne2:(Value.slice A (byts (acc++l)).length c).ownBlock≠some b:=own_blk ho2 hbb2 (by decide)
 refine⟨by simp,_,⟨.inr hbb3,ho2.kept (grown_setCell _ _ _) (.inr hne2)⟩,?_,?_⟩
 ·rcases hv2 with h|h
  ·exact .inl h
  ·exact .inr ⟨_,h,hs1⟩
 ·refine Frm.setCell (S:=fun k=>k=b∨some k=v.ownBlock) ?_ _ _ (fun _=> .inl rfl)
  exact(hF1.mono (fun k _ e=> .inl e)).after (Frm.of_grown hg2) (fun k _ e=> .inr e)
theorem lies_bytes {P:Program} {e:TypeId} (hc:P.cellsOf e=1)(count off n:Nat)(hn:off+n≤count):liesAt P P.depth e count off e n=true:=by
 have hd:P.depth=(2*(P.types.size+Made.depth)+1)+1:=rfl
 rw [hd]
 simp only [liesAt,Bool.or_eq_true]
 left
 rw [hd]
 simp [rowAt,hc,hn,sameLayout,Nat.mod_one]
theorem run_unsafeString_at {P:Program} (w:World)(pt it ty e:TypeId)(hp:P.underlying pt=some (.pointer e))(hc:P.cellsOf e=1)(g off cells:Nat)(hsh:w.shape? g=some (e,cells))(l:List UInt8)(h0:l≠ [])(hn:off+l.length≤cells)(h63:l.length≤9223372036854775807)
 (hcell: ∀j x,l[j]?=some x→w.cell? ((⟨g,off,none⟩:Addr).add j)=some (.int .u8 x.toNat)):
 (Builtin.unsafeString_ #[pt,it] ty #[.pointer (some ⟨g,off,none⟩), .int .i64 l.length]).run P w= .ok (.string ⟨l.toArray⟩) (w.freeze ⟨g,off,none⟩ l.length):=by
 have hl:l.length≠0:=by simpa using h0
 have hlb:=Lib.run_loadBytes (P:=P) w l ⟨g,off,none⟩ .empty hcell
 have hlies:=lies_bytes (P:=P) hc (cells/P.cellsOf e) off l.length (by rw [hc];simpa using hn)
 have h63': ¬(9223372036854775807:Int)<(l.length:Int):=by omega
 have hdef:Builtin.unsafeString_ #[pt,it] ty #[.pointer (some ⟨g,off,none⟩), .int .i64 l.length]=
  (do
    let n←asInt (.int .i64 l.length)
    if n<0 then runtimePanic (.error "unsafe.String: len out of range")
    if n>IntKind.i64.max then unsupported (.unsafePointer "String: a length above the largest int")
    if n=0 then pure (.string .empty)
    else if←variablesAt ⟨g,off,none⟩ (←elemOf pt) n.toNat then do
     let s←loadBytes ⟨g,off,none⟩ .empty n.toNat
     freeze ⟨g,off,none⟩ n.toNat
     pure (.string s)
    else unsupported (.unsafePointer "String: not so many bytes at ptr")):=rfl
 rw [hdef]
 have hmax:IntKind.i64.max=9223372036854775807:=rfl
 have hneg: ¬(l.length:Int)<0:=by omega
 simp [asInt,asIntOf,hmax,h63',hneg,hl,variablesAt,hsh,elemOf,run_underlying hp,hlies,hlb]
theorem Tryz.cells5:Tryz.prog.cellsOf 5=1:=by kernel_rfl
theorem bldString_any (B b:Nat)(v:Value)(acc:BS)(w:World)(h:Bld w B b v acc)(h0:acc≠ []):
 Calls Tryz.prog 51 #[.pointer (some ⟨b,0,none⟩)] w fun e w'=>e= .returned (Str acc)∧Below B w w':=by
 obtain⟨hk,ho⟩:=h
 have hl0:0<acc.length:=List.length_pos_iff.2 h0
 obtain⟨g,off,c,rfl⟩: ∃g off c,v= .slice (some ⟨g,off,none⟩) acc.length c:=by
  rcases ho with⟨_,h⟩|⟨g,off,cap,cur,fr,rfl,_⟩
  ·exact absurd (by rw [←byL,h];rfl) (Nat.ne_of_gt hl0)
  ·exact⟨g,off,cap,by rw [byL]⟩
 have c1:w.cell? ⟨b,1,none⟩=some (.slice (some ⟨g,off,none⟩) acc.length c):=by rcases hk with hk|hk<;>exact hk.cell 1 _ rfl
 obtain⟨hle1,hle2,hBg,hgl,hcm⟩:=ho.len_at
 have hc0:c≠0:=by omega
 have hmx:maxLen=9223372036854775807∨maxLen≤9223372036854775807:=by unfold maxLen;omega
 have hSD:(Builtin.unsafeSliceData_ #[22] 139 #[.slice (some ⟨g,off,none⟩) acc.length c]).run Tryz.prog w.drew= .ok (.pointer (some ⟨g,off,none⟩)) w.drew:=
  Lib.run_unsafeSliceData_row _ _ _ _ _ _ hc0
 have hUS:(Builtin.unsafeString_ #[139,3] 9 #[.pointer (some ⟨g,off,none⟩), .int .i64 acc.length]).run Tryz.prog w.drew= .ok (.string ⟨acc.toArray⟩) (w.drew.freeze ⟨g,off,none⟩ acc.length):=by
  rcases ho with⟨h,_⟩|⟨g',off',cap,cur,fr,he,_,hg,_,hlc,_,hcs,_⟩
  ·exact absurd h (by simp)
  ·injection he with h1 h2 h3
   injection h1 with h1;injection h1 with h1 h1b;subst h1;subst h1b;subst h3
   rw [byL]at hlc
   refine run_unsafeString_at w.drew 139 3 9 5 (by kernel_rfl) Tryz.cells5 g off cur.size (by have hg':w.drew.heap[g]?=some (.cells cur 5 fr):=hg;simp [World.shape?,hg']) acc h0 (by omega) (by omega) ?_
   intro j x hx
   rw [add_at]
   have:=((show OwnAt w B 5 (.slice (some ⟨g,off,none⟩) acc.length c) (byts acc)from .inr ⟨g,off,c,cur,fr,by rw [byL],by assumption,hg,by assumption,by rw [byL];exact hlc,by assumption,hcs,by assumption⟩).cell_at j (.int .u8 x.toNat) (by simp [byts,hx])).1
   exact this
 have mixed:Tryz.prog.follows Departure.mixedOrders=true:=by kernel_rfl
 go_enter Tryz.func51,Tryz.ntmps51
 go_wp2
 go_region_o
 all_goals(go_wp2;go_ret;exact⟨rfl,Lib.below_freeze (Below.drew (Below.refl B w)) (p:=⟨g,off,none⟩) hBg _⟩)
theorem bufNewString_any (l:BS)(w:World)(hl:l.length≤140737488355328):
 Calls Tryz.prog 162 #[Str l] w fun e w'=> ∃c q,e= .returned (.pointer (some ⟨q,0,none⟩))∧w.heap.size<q∧Blk w' q 112 [.slice (some ⟨w.heap.size,0,none⟩) l.length c, .int .i64 0, .int .i8 0]∧OwnAt w' w.heap.size 5 (.slice (some ⟨w.heap.size,0,none⟩) l.length c) (byts l)∧Below w.heap.size w w':=by
 obtain⟨c,w1,hcv,ho,hb⟩:=conv_text w l hl
 have hs:=hb.size
 have hlt:w.heap.size<w1.heap.size:=(ho.lt _ rfl).2
 go_enter Tryz.func162,Tryz.ntmps162
 go_wp2
 go_ret
 exact⟨c,_,rfl,hlt,Blk.new _ _ _,ho.alloc _,hb.alloc hs _⟩
theorem bufEmpty_any (q:Nat)(A:Option Addr)(n c i:Nat)(lr:Int)(w:World)(hq:Blk w q 112 [.slice A n c, .int .i64 i, .int .i8 lr]):
 Calls Tryz.prog 184 #[.pointer (some ⟨q,0,none⟩)] w fun e w'=>e= .returned (.bool (decide (n≤i)))∧∃m,w'=w.drewN m:=by
 have c0:=hq.cell 0 _ rfl
 have c1:=hq.cell 1 _ rfl
 go_enter Tryz.func184,Tryz.ntmps184
 go_wp2
 go_quiet (fail)
 go_wp2
 go_ret
 exact⟨by simp,_,rfl⟩
theorem bufRead_all (q r c:Nat)(lr:Int)(l:BS)(bb:Nat)(cs:List Value)(w:World)(hq:Blk w q 112 [.slice (some ⟨r,0,none⟩) l.length c, .int .i64 0, .int .i8 lr])(hr:Rd w (.slice (some ⟨r,0,none⟩) l.length c) (byts l))(hrq:r≠q)(hrb:r≠bb)(hqb:q≠bb)
 (hb:Blk w bb 5 cs)(hcs:cs.length=75)(hl0:0<l.length)(hl:l.length≤75):
 Calls Tryz.prog 163 #[.pointer (some ⟨q,0,none⟩), .slice (some ⟨bb,0,none⟩) 75 75] w fun e w'=>e= .returned (.tuple #[.int .i64 l.length, .nilIface])∧Blk w' q 112 [.slice (some ⟨r,0,none⟩) l.length c, .int .i64 l.length, .int .i8 (-1)]∧Blk w' bb 5 (byts l++cs.drop l.length)∧Frm (fun k=>k=q∨k=bb) w w':=by
 have f2:=hq.frozen 2
 have c2:=hq.cell 2 _ rfl
 have hq1:=hq.set 2 (.int .i8 0)
 have hb1:=hb.far (p:=⟨q,2,none⟩) hqb.symm (.int .i8 0)
 have hF1:Frm (fun k=>k=q∨k=bb) w (w.setCell ⟨q,2,none⟩ (.int .i8 0)):=(Frm.refl _ w).setCell ⟨q,2,none⟩ _ (fun _=> .inl rfl)
 have hlt:decide (l.length≤0)=false:=by rw [decide_eq_false_iff_not];omega
 go_enter Tryz.func163,Tryz.ntmps163
 go_wp2_with fail
 clear f2 c2 hq hb
 generalize hw1:w.setCell ⟨q,2,none⟩ (.int .i8 0)=w1 at*
 clear hw1
 refine(bufEmpty_any q _ l.length c 0 0 w1 hq1).mono ?_
 rintro e w2 ⟨rfl,m,rfl⟩
 rw [hlt]
 have hq2:Blk (w1.drewN m) q 112 [.slice (some ⟨r,0,none⟩) l.length c, .int .i64 0, .int .i8 0]:=hq1
 have hb2:Blk (w1.drewN m) bb 5 cs:=hb1
 have hF2:=hF1.drewN m
 clear hq1 hb1 hF1
 generalize w1.drewN m=w1 at*
 have c0:=hq2.cell 0 _ rfl
 have c1:=hq2.cell 1 _ rfl
 have hc0: ¬c=0:=by obtain⟨A',c',he,hlc,_⟩:=hr;injection he with _ h2 h3;rw [byL]at hlc;omega
 have b0:(0:Int)≤(l.length:Int):=by omega
 go_wp2_with fail
 go_still_tail 10,(by kernel_rfl)
 change wpList _ _ _ _ _ w1.drew
 have hr1:Rd w1.drew (.slice (some ⟨r,0,none⟩) l.length c) (byts l):=(hr.frm hF2 (fun k hk=>by have e:r=k:=Option.some.inj hk;omega)).below (bdw (Below.refl _ _))
 have hcp:=Cpy.rd (w:=w1.drew) hr1 75
 rw [List.take_of_length_le hl]at hcp
 have hrun:=run_copy_blk hb2.drew 22 3 0 75 75 _ (byts l) hcp (by rw [byL];omega)
 rw [byL,Nat.zero_add,List.take_zero,List.nil_append]at hrun
 refine Lib.wpList_copy_run _ rfl (.tmp 17) (.tmp 26) 22 22 rfl _ _ rfl rfl hrun ?_
 have hb3:=hb2.drew.setRow (byts l++cs.drop l.length)
 have hgr:=gsR w1.drew bb (byts l++cs.drop l.length).toArray
 have hq3:=hq2.drew.grown hgr (fun e=>hqb (by injection e))
 have hF3:=hF2.drew.after (Frm.of_grown hgr) (fun k _ e=> .inr (by injection e))
 clear hrun hgr hr1 hr hb2 hq2 hF2 c0 c1 hcp
 generalize w1.drew.setRow bb _=w2 at*
 have c1:=hq3.cell 1 _ rfl
 have f1:=hq3.frozen 1
 have hq4:=hq3.set 1 (.int .i64 l.length)
 have c2:=hq4.cell 2 _ rfl
 have f2:=hq4.frozen 2
 have g1:(0:Int)<(l.length:Int):=by omega
 have g2:IntKind.i64.wrap (0+(l.length:Int))=(l.length:Int):=by rw [IntKind.wrap_i64];omega
 have g3:IntKind.i64.wrap (l.length:Int)=(l.length:Int):=by rw [IntKind.wrap_i64];omega
 go_wp2
 go_ret2
 exact⟨rfl,hq4.set 2 (.int .i8 (-1)),(hb3.far (p:=⟨q,1,none⟩) hqb.symm _).far (p:=⟨q,2,none⟩) hqb.symm _,(hF3.setCell ⟨q,1,none⟩ _ (fun _=> .inl rfl)).setCell ⟨q,2,none⟩ _ (fun _=> .inl rfl)⟩
theorem bufReset_any (q n c:Nat)(A:Option Addr)(i:Int)(lr:Int)(w:World)(hq:Blk w q 112 [.slice A n c, .int .i64 i, .int .i8 lr]):
 Calls Tryz.prog 185 #[.pointer (some ⟨q,0,none⟩)] w fun e w'=>e= .returned (.tuple #[])∧Blk w' q 112 [.slice A 0 c, .int .i64 0, .int .i8 0]∧Frm (fun k=>k=q) w w':=by
 have c0:=hq.cell 0 _ rfl
 have f0:=hq.frozen 0
 have hq1:=hq.set 0 (.slice A 0 c)
 have hq2:=hq1.set 1 (.int .i64 0)
 have hq3:=hq2.set 2 (.int .i8 0)
 have f1:=hq1.frozen 1
 have f2:=hq2.frozen 2
 have c1:=hq1.cell 1 _ rfl
 have c2:=hq2.cell 2 _ rfl
 go_enter Tryz.func185,Tryz.ntmps185
 go_wp2
 go_end0
 exact⟨rfl,hq3,(((Frm.refl (fun k=>k=q) w).setCell ⟨q,0,none⟩ _ (fun _=>rfl)).setCell ⟨q,1,none⟩ _ (fun _=>rfl)).setCell ⟨q,2,none⟩ _ (fun _=>rfl)⟩
def EofErr (w:World):Prop:= ∃a:Addr,w.cell? ⟨4,0,none⟩=some (.iface 242 (.pointer (some a)))
theorem bufRead_end (q n c bb:Nat)(A:Option Addr)(lr:Int)(eb:Value)(w:World)(hq:Blk w q 112 [.slice A n c, .int .i64 n, .int .i8 lr])(he:w.cell? ⟨4,0,none⟩=some eb)(h4:4≠q):
 Calls Tryz.prog 163 #[.pointer (some ⟨q,0,none⟩), .slice (some ⟨bb,0,none⟩) 75 75] w fun e w'=>e= .returned (.tuple #[.int .i64 0,eb])∧Frm (fun k=>k=q) w w':=by
 have f2:=hq.frozen 2
 have c2:=hq.cell 2 _ rfl
 have hq1:=hq.set 2 (.int .i8 0)
 have hF1:Frm (fun k=>k=q) w (w.setCell ⟨q,2,none⟩ (.int .i8 0)):=(Frm.refl _ w).setCell ⟨q,2,none⟩ _ (fun _=>rfl)
 go_enter Tryz.func163,Tryz.ntmps163
 go_wp2_with fail
 clear f2 c2 hq
 generalize hw1:w.setCell ⟨q,2,none⟩ (.int .i8 0)=w1 at*
 clear hw1
 refine(bufEmpty_any q A n c n 0 w1 hq1).mono ?_
 rintro e w2 ⟨rfl,m,rfl⟩
 rw [show decide (n≤n)=true from decide_eq_true (Nat.le_refl _)]
 have hq2:Blk (w1.drewN m) q 112 [.slice A n c, .int .i64 n, .int .i8 0]:=hq1
 have hF2:=hF1.drewN m
 clear hq1 hF1
 generalize w1.drewN m=w1 at*
 go_wp2_with fail
 refine(bufReset_any q n c A n 0 w1 hq2).mono ?_
 rintro e w2 ⟨rfl,hq3,hF3⟩
 have hF4:=hF2.trans hF3
 have ce:=frC hF4 he h4
 go_wp2_with fail
 go_quiet (fail)
 go_wp2
 go_ret2
 exact⟨rfl,hF4.drewN _⟩
end Go.Proofs.YtgilnagajcfkpaaGreatDoor
