import Derived.Lib.SlBytesConst
import Derived.Test.YtgilnagajcfkpaaGreatDoorQ38
set_option maxHeartbeats 4000000
set_option maxRecDepth 1000000
set_option linter.all false
namespace Go.Proofs.YtgilnagajcfkpaaGreatDoor
open Go.RowKit
theorem rd_lit_mark (w:World)(xs:List Value)(t:TypeId)(fr:Nat×Nat):Rd (w.alloc (.cells xs.toArray t fr)) (.slice (some ⟨w.heap.size,0,none⟩) xs.length xs.length) xs:=
 ⟨_,_,rfl,Nat.le_refl _, .inr ⟨_,_,rfl,by simp,fun j u hj=>by rw [Nat.zero_add,World.cell?_alloc_mark];simpa using hj⟩⟩
def ClosePost (Sk:World→Nat→Option Nat→BS→Prop)(B:Nat)(w:World)(h:Nat)(t:BS)(e:Ending)(w':World):Prop:=
 e= .returned .nilIface∧(∃o,Sk w' h o t∧∀k,o=some k→B≤k)∧Below B w w'
theorem simClose_any {wt fn:Nat} {any:Bool} {Sk:World→Nat→Option Nat→BS→Prop} (L:SnkLaw wt fn any Sk)(B c h:Nat)(acc:BS)(w:World)(hs:SimAt Sk wt B w c h acc)(hn:acc.length≤274877906944):
 Calls Tryz.prog 287 #[.pointer (some ⟨c,0,none⟩)] w (ClosePost Sk B w h (bodyOf simpleS acc)):=by
 obtain⟨o,cv,hBc,hBh,hBo,hch,hoc,hc,hcv,hcvh,hcvo,hsk⟩:=hs
 have hfin:=Lib.hid (sim_close acc)
 have hlC:(simC acc).length≤549755813888∧(simD (ended acc)).length≤549755813888:=by
  have h1:(simC acc).length≤(ended acc).length:=by unfold simC;simp
  have h2:(ended acc).length≤2*acc.length:=ended_len false acc
  have h3:=simD_le (ended acc)
  omega
 obtain⟨hl1,hl2⟩:=hlC
 have hcl:=hc.lt
 have hB:B≤w.heap.size:=by omega
 obtain⟨hsk1,hsk2⟩:=L.lt _ _ _ _ hsk
 generalize(eFr false acc).2=cr at*
 generalize simC acc=C at*
 generalize simD (ended acc)=D at*
 obtain⟨A,p,rfl⟩:=hcv.form
 rw [byL]at hcv hc hcvh hcvo
 have c0:=hc.cell 0 _ rfl
 have c1:=hc.cell 1 _ rfl
 have f1:=hc.frozen 1
 obtain⟨N,hN⟩: ∃N,Hid (N=C.length):=⟨_,Lib.hid rfl⟩
 rw [←hN.out]at hcv hc hcvh hcvo c1 hl1
 have hm:=L.m ⟨h,0,none⟩
 have hnn:=L.n ⟨h,0,none⟩
 have hee:=L.e
 by_cases hz:N=0
 ·subst hz
  have hC:C= []:=List.eq_nil_of_length_eq_zero hN.out.symm
  subst hC
  go_enter Tryz.func287,Tryz.ntmps287
  go_wp2_with fail
  go_quiet (fail)
  have hcW:Blk (w.drewN nq) c 362 _:=hc
  have hFW:Frm (fun k=>k=h∨some k=o) w (w.drewN nq):=(Frm.refl _ _).drewN nq
  have hskW:=L.frm _ _ (w.drewN nq) _ _ _ hsk ((Frm.refl (fun _=>False) _).drewN nq) id (fun _ _=>id)
  have hoW:o≠some c:=hoc
  have hlW:h<(w.drewN nq).heap.size:=hsk1
  have hoWlt: ∀k,o=some k→k<(w.drewN nq).heap.size:=fun k e=>(hsk2 k e).1
  have hBoW:=hBo
  have hBW:Below B w (w.drewN nq):=⟨rfl,rfl,rfl,Nat.le_refl _,fun _ _=>rfl⟩
  have hT:Hid (D++ [13,10]=bodyOf simpleS acc):=by rw [←hfin.out];show _=_;simp [crlf]
  generalize w.drewN nq=wA at*
  have d1:=hcW.cell 1 _ rfl
  have g1:=hcW.frozen 1
  have d0:=hcW.cell 0 _ rfl
  obtain⟨o2,ho2⟩: ∃o2,Hid (o2=Obj.cells #[.int .u8 13, .int .u8 10] 5 (2,3)):=⟨_,Lib.hid rfl⟩
  have hc5:=(hcW.set 1 (.slice none 0 0)).alloc o2
  have hF5:=(Frm.setCell (S:=(· =c)) (Frm.refl _ wA) ⟨c,1,none⟩ (.slice none 0 0) (fun _=>rfl)).alloc o2
  have hsk5:=L.frm _ _ _ _ _ _ hskW hF5 (fun e=>hch e.symm) (fun k hk e=>hoW (by rw [hk,e]))
  have hsz5:(wA.setCell ⟨c,1,none⟩ (.slice none 0 0)).heap.size=wA.heap.size:=szC _ _ _
  have hr5:Rd ((wA.setCell ⟨c,1,none⟩ (.slice none 0 0)).alloc o2) (.slice (some ⟨wA.heap.size,0,none⟩) 2 2) (byts [13,10]):=by
   rw [ho2.out,←hsz5];exact rd_lit_mark _ (byts [13,10]) 5 (2,3)
  have hw:=L.write _ h o D _ [13,10] hsk5 hr5 (.inr (.inl (by simp))) (by simp;omega) (fun k hk=>by have hk:wA.heap.size=k:=Option.some.inj hk;have:=hlW;exact⟨by omega,fun e=>by have:=hoWlt k e;omega⟩)
  have hm:=L.m ⟨h,0,none⟩
  have hnn:=L.n ⟨h,0,none⟩
  have hee:=L.e
  have hcvx:(convert 22 22 (.slice (some ⟨wA.heap.size,0,none⟩) 2 2)).run Tryz.prog ((wA.setCell ⟨c,1,none⟩ (.slice none 0 0)).alloc (.cells #[.int .u8 13, .int .u8 10] 5))= .ok (.slice (some ⟨wA.heap.size,0,none⟩) 2 2) ((wA.setCell ⟨c,1,none⟩ (.slice none 0 0)).alloc o2):=by
   rw [ho2.out,←hsz5];exact Lib.run_convert_bytes_const _ 22 5 #[.int .u8 13, .int .u8 10] 2 2 Tryz.underlying22 Tryz.underlying5
  have hB5:Below B wA ((wA.setCell ⟨c,1,none⟩ (.slice none 0 0)).alloc o2):=hF5.below (fun k _ e=>by rw [e];exact hBc) (by have:=hcW.lt;omega)
  go_wp2_with fail
  refine hw.mono ?_
  rintro e w6 ⟨rfl,⟨o6,hsk6,ho6⟩,hF6⟩
  go_wp2
  go_ret
  rw [hT.out]at hsk6
  have hs5:wA.heap.size≤((wA.setCell ⟨c,1,none⟩ (.slice none 0 0)).alloc o2).heap.size:=by rw [←hsz5];exact leA _ _
  exact⟨rfl,⟨o6,hsk6,fun k hk=>by rcases ho6 k hk with e|e;exact hBoW k e;have:=hcW.lt;omega⟩,hBW.trans (hB5.trans (hF6.below (fun k _ e=>by rcases e with e|e;rw [e];exact hBh;exact hBoW k e.symm) (by have:=hcW.lt;omega)))⟩
 ·obtain⟨m,rfl⟩: ∃m,N=m+1:=⟨N-1,by omega⟩
  have hml:m<C.length:=by rw [←hN.out];omega
  obtain⟨g2,off,q2,he⟩:=hcv.form_some (by intro e;have:=congrArg List.length e;rw [byL,←hN.out]at this;simp at this)
  injection he with he1 he3 he2
  subst he1
  clear he2 he3
  have hlast:w.cell? ⟨g2,off+m,none⟩=some (.int .u8 C[m].toNat):=(hcv.cell_at m _ (by simp [byts,hml])).1
  have m0:(0:Int)≤(m:Int):=by omega
  have m1:(m:Int)≤1099511627776:=by omega
  have hgl:C.getLast?=some C[m]:=by
   rw [List.getLast?_eq_getElem?,←hN.out];simp [hml]
  have hm2:m+1≤p:=hcv.len_at.2.1
  by_cases h13:C[m]=13
  ·have z1:((C[m].toNat:Int)==13)=true:=bT h13
   have hT:Hid (D++C++ [13,10]=bodyOf simpleS acc):=by
    show _=_;rw [←hfin.out,if_pos (by rw [hgl,h13])];rfl
   have hne:C≠ []:=by rintro rfl;simp at hml
   have hrd:=hcv.rd
   have hgb:(Value.slice (some ⟨g2,off,none⟩) (m+1) p).ownBlock=some g2:=rfl
   clear hgl hfin
   go_enter Tryz.func287,Tryz.ntmps287
   go_wp2_with fail
   go_quiet (fail)
   have hc1:Blk (w.drewN nq) c 362 _:=hc
   have hF1:Frm (fun k=>k=h∨some k=o) w (w.drewN nq):=(Frm.refl _ _).drewN nq
   have hsk1':=L.frm _ _ (w.drewN nq).drew _ _ _ hsk ((Frm.refl (fun _=>False) _).drewN nq).drew id (fun _ _=>id)
   have hrd1:Rd (w.drewN nq).drew _ _:=hrd
   have hsz1:(w.drewN nq).heap.size=w.heap.size:=rfl
   have hb1:Below B w (w.drewN nq):=⟨rfl,rfl,rfl,Nat.le_refl _,fun _ _=>rfl⟩
   generalize w.drewN nq=w1 at*
   have d0:w1.cell? ⟨c,0,none⟩=some (.iface wt (.pointer (some ⟨h,0,none⟩))):=hc1.cell 0 _ rfl
   have d1:w1.cell? ⟨c,1,none⟩=some (.slice (some ⟨g2,off,none⟩) (m+1) p):=hc1.cell 1 _ rfl
   have hw1:=L.write w1.drew h o D _ C hsk1' hrd1 (.inr (.inl hne)) (by rw [←hN.out];omega) (fun k hk=>⟨fun e=>hcvh (by rw [hk,e]),hcvo k hk⟩)
   rw [←hN.out]at hw1
   have hcB:w1.drew.heap.size=w.heap.size:=hsz1
   go_wp2_with fail
   go_region_held3 (fun ww=>ww.cell? ⟨c,0,none⟩=some (.iface wt (.pointer (some ⟨h,0,none⟩)))∧ww.cell? ⟨c,1,none⟩=some (.slice (some ⟨g2,off,none⟩) (m+1) p))
    (first|go_keep|(exact⟨frC hF4 (p:=⟨c,0,none⟩) d0 (fun e=>e.elim hch (fun e=>hoc e.symm)),frC hF4 (p:=⟨c,1,none⟩) d1 (fun e=>e.elim hch (fun e=>hoc e.symm))⟩))
    (first|(go_at_fn fn;refine hw1.mono ?_;rintro e wA ⟨rfl,⟨oA,hskW,hoA⟩,hF4⟩))
   all_goals(
    have hcW:=Blk.frm (w:=w1.drew) hc1 hF4 (fun e=>e.elim hch (fun e=>hoc e.symm))
    have hs4:w1.heap.size≤wA.heap.size:=hF4.size
    have hoW:oA≠some c:=fun e=>by rcases hoA c e with e|e;exact hoc e;omega
    have hlW:h<wA.heap.size:=by omega
    have hoWlt: ∀k,oA=some k→k<wA.heap.size:=(fun k hk=>((L.lt _ _ _ _ hskW).2 k hk).1)
    have hBoW: ∀k,oA=some k→B≤k:=fun k hk=>by rcases hoA k hk with e|e;exact hBo k e;omega
    have hb1d:Below B w w1.drew:=⟨hb1.os,hb1.tape,hb1.output,hb1.size,hb1.block⟩
    have hBW:Below B w wA:=hb1d.trans (Frm.below (w:=w1.drew) hF4 (fun k _ e=>by rcases e with e|e;rw [e];exact hBh;exact hBo k e.symm) (by omega))
    have d1:=hcW.cell 1 _ rfl
    have g1:=hcW.frozen 1
    have d0:=hcW.cell 0 _ rfl
    obtain⟨o2,ho2⟩: ∃o2,Hid (o2=Obj.cells #[.int .u8 13, .int .u8 10] 5 (2,3)):=⟨_,Lib.hid rfl⟩
    have hc5:=(hcW.set 1 (.slice none 0 0)).alloc o2
    have hF5:=(Frm.setCell (S:=(· =c)) (Frm.refl _ wA) ⟨c,1,none⟩ (.slice none 0 0) (fun _=>rfl)).alloc o2
    have hsk5:=L.frm _ _ _ _ _ _ hskW hF5 (fun e=>hch e.symm) (fun k hk e=>hoW (by rw [hk,e]))
    have hsz5:(wA.setCell ⟨c,1,none⟩ (.slice none 0 0)).heap.size=wA.heap.size:=szC _ _ _
    have hr5:Rd ((wA.setCell ⟨c,1,none⟩ (.slice none 0 0)).alloc o2) (.slice (some ⟨wA.heap.size,0,none⟩) 2 2) (byts [13,10]):=by
     rw [ho2.out,←hsz5];exact rd_lit_mark _ (byts [13,10]) 5 (2,3)
    have hw:=L.write _ h oA (D++C) _ [13,10] hsk5 hr5 (.inr (.inl (by simp))) (by simp only [List.length_append,List.length_cons,List.length_nil];rw [←hN.out];omega) (fun k hk=>by have hk:wA.heap.size=k:=Option.some.inj hk;have:=hlW;exact⟨by omega,fun e=>by have:=hoWlt k e;omega⟩)
    have hm:=L.m ⟨h,0,none⟩
    have hnn:=L.n ⟨h,0,none⟩
    have hee:=L.e
    have hcvx:(convert 22 22 (.slice (some ⟨wA.heap.size,0,none⟩) 2 2)).run Tryz.prog ((wA.setCell ⟨c,1,none⟩ (.slice none 0 0)).alloc (.cells #[.int .u8 13, .int .u8 10] 5))= .ok (.slice (some ⟨wA.heap.size,0,none⟩) 2 2) ((wA.setCell ⟨c,1,none⟩ (.slice none 0 0)).alloc o2):=by
     rw [ho2.out,←hsz5];exact Lib.run_convert_bytes_const _ 22 5 #[.int .u8 13, .int .u8 10] 2 2 Tryz.underlying22 Tryz.underlying5
    have hB5:Below B wA ((wA.setCell ⟨c,1,none⟩ (.slice none 0 0)).alloc o2):=hF5.below (fun k _ e=>by rw [e];exact hBc) (by have:=hcW.lt;omega)
    go_wp2_with fail
    refine hw.mono ?_
    rintro e w6 ⟨rfl,⟨o6,hsk6,ho6⟩,hF6⟩
    go_wp2
    go_ret
    rw [hT.out]at hsk6
    have hs5:wA.heap.size≤((wA.setCell ⟨c,1,none⟩ (.slice none 0 0)).alloc o2).heap.size:=by rw [←hsz5];exact leA _ _
    exact⟨rfl,⟨o6,hsk6,fun k hk=>by rcases ho6 k hk with e|e;exact hBoW k e;have:=hcW.lt;omega⟩,hBW.trans (hB5.trans (hF6.below (fun k _ e=>by rcases e with e|e;rw [e];exact hBh;exact hBoW k e.symm) (by have:=hcW.lt;omega)))⟩)
  ·have z1:((C[m].toNat:Int)==13)=false:=bF h13
   have hT:Hid (D++ [13,10]=bodyOf simpleS acc):=by
    show _=_;rw [←hfin.out,if_neg (by rw [hgl];intro e;injection e with e;exact h13 e),List.append_nil];rfl
   clear hgl hfin
   go_enter Tryz.func287,Tryz.ntmps287
   go_wp2_with fail
   go_quiet (fail)
   have hcW:Blk (w.drewN nq) c 362 _:=hc
   have hskW:=L.frm _ _ (w.drewN nq) _ _ _ hsk ((Frm.refl (fun _=>False) _).drewN nq) id (fun _ _=>id)
   have hoW:o≠some c:=hoc
   have hlW:h<(w.drewN nq).heap.size:=hsk1
   have hoWlt: ∀k,o=some k→k<(w.drewN nq).heap.size:=fun k e=>(hsk2 k e).1
   have hBoW:=hBo
   have hBW:Below B w (w.drewN nq):=⟨rfl,rfl,rfl,Nat.le_refl _,fun _ _=>rfl⟩
   generalize w.drewN nq=wA at*
   have d1:=hcW.cell 1 _ rfl
   have g1:=hcW.frozen 1
   have d0:=hcW.cell 0 _ rfl
   obtain⟨o2,ho2⟩: ∃o2,Hid (o2=Obj.cells #[.int .u8 13, .int .u8 10] 5 (2,3)):=⟨_,Lib.hid rfl⟩
   have hc5:=(hcW.set 1 (.slice none 0 0)).alloc o2
   have hF5:=(Frm.setCell (S:=(· =c)) (Frm.refl _ wA) ⟨c,1,none⟩ (.slice none 0 0) (fun _=>rfl)).alloc o2
   have hsk5:=L.frm _ _ _ _ _ _ hskW hF5 (fun e=>hch e.symm) (fun k hk e=>hoW (by rw [hk,e]))
   have hsz5:(wA.setCell ⟨c,1,none⟩ (.slice none 0 0)).heap.size=wA.heap.size:=szC _ _ _
   have hr5:Rd ((wA.setCell ⟨c,1,none⟩ (.slice none 0 0)).alloc o2) (.slice (some ⟨wA.heap.size,0,none⟩) 2 2) (byts [13,10]):=by
    rw [ho2.out,←hsz5];exact rd_lit_mark _ (byts [13,10]) 5 (2,3)
   have hw:=L.write _ h o D _ [13,10] hsk5 hr5 (.inr (.inl (by simp))) (by simp;omega) (fun k hk=>by have hk:wA.heap.size=k:=Option.some.inj hk;have:=hlW;exact⟨by omega,fun e=>by have:=hoWlt k e;omega⟩)
   have hm:=L.m ⟨h,0,none⟩
   have hnn:=L.n ⟨h,0,none⟩
   have hee:=L.e
   have hcvx:(convert 22 22 (.slice (some ⟨wA.heap.size,0,none⟩) 2 2)).run Tryz.prog ((wA.setCell ⟨c,1,none⟩ (.slice none 0 0)).alloc (.cells #[.int .u8 13, .int .u8 10] 5))= .ok (.slice (some ⟨wA.heap.size,0,none⟩) 2 2) ((wA.setCell ⟨c,1,none⟩ (.slice none 0 0)).alloc o2):=by
    rw [ho2.out,←hsz5];exact Lib.run_convert_bytes_const _ 22 5 #[.int .u8 13, .int .u8 10] 2 2 Tryz.underlying22 Tryz.underlying5
   have hB5:Below B wA ((wA.setCell ⟨c,1,none⟩ (.slice none 0 0)).alloc o2):=hF5.below (fun k _ e=>by rw [e];exact hBc) (by have:=hcW.lt;omega)
   go_wp2_with fail
   refine hw.mono ?_
   rintro e w6 ⟨rfl,⟨o6,hsk6,ho6⟩,hF6⟩
   go_wp2
   go_ret
   rw [hT.out]at hsk6
   have hs5:wA.heap.size≤((wA.setCell ⟨c,1,none⟩ (.slice none 0 0)).alloc o2).heap.size:=by rw [←hsz5];exact leA _ _
   exact⟨rfl,⟨o6,hsk6,fun k hk=>by rcases ho6 k hk with e|e;exact hBoW k e;have:=hcW.lt;omega⟩,hBW.trans (hB5.trans (hF6.below (fun k _ e=>by rcases e with e|e;rw [e];exact hBh;exact hBoW k e.symm) (by have:=hcW.lt;omega)))⟩
def RelAt (Sk:World→Nat→Option Nat→BS→Prop)(wt B:Nat)(w:World)(c h:Nat)(acc:BS):Prop:=
 ∃o cv,B≤c∧B≤h∧(∀k,o=some k→B≤k)∧c≠h∧o≠some c∧Blk w c 365 [.iface wt (.pointer (some ⟨h,0,none⟩)),cv, .bool (relOf acc).2.1, .bool (!(relOf acc).1.isEmpty), .bool (eFr false acc).2]∧OwnAt w B 5 cv (byts (relOf acc).2.2)∧cv.ownBlock≠some h∧(∀k,cv.ownBlock=some k→o≠some k)∧Sk w h o (relOf acc).1
theorem rel_len (l:BS)(s:BS×Bool×BS):(l.foldl relStep s).1.length+(l.foldl relStep s).2.2.length≤s.1.length+s.2.2.length+2*l.length:=by
 induction l generalizing s with
 |nil=>simp
 |cons x r ih=>
  rw [List.foldl_cons]
  have h1:=ih (relStep s x)
  have h2:(relStep s x).1.length+(relStep s x).2.2.length≤s.1.length+s.2.2.length+2:=by
   unfold relStep
   split
   ·simp
   ·split
    ·simp;omega
    ·simp only [List.length_append,List.length_cons,List.length_nil]
     split<;>simp<;>omega
  simp only [List.length_cons]
  omega
structure RelIn (B c:Nat)(ifc wrt crb cv:Value)(w2 wx:World)(v cvx:Value)(X:BS×Bool×BS):Prop where
 can:OwnAt wx B 5 v (byts X.1)
 buf:OwnAt wx B 5 cvx (byts X.2.2)
 blk:Blk wx c 365 [ifc,cvx, .bool X.2.1,wrt,crb]
 vlt: ∀j,v.ownBlock=some j→w2.heap.size≤j
 clt: ∀j,cvx.ownBlock=some j→(cv.ownBlock=some j∨w2.heap.size≤j)∧v.ownBlock≠some j
 frm:Frm (fun j=>j=c∨some j=cv.ownBlock) w2 wx
theorem RelIn.wsp {B c:Nat} {ifc wrt crb cv:Value} {w2 wx:World} {v cvx:Value} {X:BS×Bool×BS} (r:RelIn B c ifc wrt crb cv w2 wx v cvx X)(hc:c<w2.heap.size)(hcc:cv.ownBlock≠some c)(b:Bool):
 RelIn B c ifc wrt crb cv w2 (wx.setCell ⟨c,2,none⟩ (.bool b)) v cvx (X.1,b,X.2.2):=by
 have hF:=(Frm.refl (fun j=>j=c) wx).setCell ⟨c,2,none⟩ (.bool b) (fun _=>rfl)
 refine⟨r.can.frm hF (fun k hk e=> ?_),r.buf.frm hF (fun k hk e=> ?_),r.blk.set 2 _,r.vlt,r.clt,r.frm.setCell _ _ (fun _=> .inl rfl)⟩
 ·have:=r.vlt k hk;omega
 ·rcases(r.clt k hk).1 with e2|e2
  ·exact hcc (by rw [e2,e])
  ·omega
theorem RelIn.setBuf {B c:Nat} {ifc wrt crb cv:Value} {w2 wx:World} {v cvx cvy:Value} {X:BS×Bool×BS} {C:BS} (r:RelIn B c ifc wrt crb cv w2 wx v cvx X)(hc:c<w2.heap.size)(hcc:cv.ownBlock≠some c)(hy:OwnAt wx B 5 cvy (byts C))(hyl: ∀j,cvy.ownBlock=some j→(cv.ownBlock=some j∨w2.heap.size≤j)∧v.ownBlock≠some j):
 RelIn B c ifc wrt crb cv w2 (wx.setCell ⟨c,1,none⟩ cvy) v cvy (X.1,X.2.1,C):=by
 have hF:=(Frm.refl (fun j=>j=c) wx).setCell ⟨c,1,none⟩ cvy (fun _=>rfl)
 refine⟨r.can.frm hF (fun k hk e=> ?_),hy.frm hF (fun k hk e=> ?_),r.blk.set 1 _,r.vlt,hyl,r.frm.setCell _ _ (fun _=> .inl rfl)⟩
 ·have:=r.vlt k hk;omega
 ·rcases(hyl k hk).1 with e2|e2
  ·exact hcc (by rw [e2,e])
  ·omega
theorem RelIn.alloc {B c:Nat} {ifc wrt crb cv:Value} {w2 wx:World} {v cvx:Value} {X:BS×Bool×BS} (r:RelIn B c ifc wrt crb cv w2 wx v cvx X)(o:Obj):RelIn B c ifc wrt crb cv w2 (wx.alloc o) v cvx X:=
 ⟨r.can.alloc o,r.buf.alloc o,r.blk.alloc o,r.vlt,r.clt,r.frm.alloc o⟩
theorem RelIn.app {B c:Nat} {ifc wrt crb cv:Value} {w2 wx wy:World} {v v' cvx:Value} {X:BS×Bool×BS} {l:BS} (r:RelIn B c ifc wrt crb cv w2 wx v cvx X)(hc:c<w2.heap.size)(hv:OwnAt wy B 5 v' (byts l))(hg:wx.grownBy wy v.ownBlock)(hat:v'.ownBlock=v.ownBlock∨v'.ownBlock=some wx.heap.size):
 RelIn B c ifc wrt crb cv w2 wy v' cvx (l,X.2.1,X.2.2):=by
 have hF:=Frm.of_grown hg
 have h2:w2.heap.size≤wx.heap.size:=r.frm.size
 have hx: ∀j,v'.ownBlock=some j→w2.heap.size≤j:=fun j hj=>by
  rcases hat with e|e
  ·exact r.vlt j (by rw [←e];exact hj)
  ·rw [e]at hj;injection hj with hj;omega
 refine⟨hv,r.buf.frm hF (fun k hk e=>(r.clt k hk).2 e.symm),r.blk.frm hF (fun e=>by have:=r.vlt c e.symm;omega),hx,fun j hj=>⟨(r.clt j hj).1,fun e=> ?_⟩,r.frm.after hF (fun j hj e=>by have:=r.vlt j e.symm;omega)⟩
 rcases hat with e2|e2
 ·exact(r.clt j hj).2 (by rw [←e2];exact e)
 ·rw [e2]at e
  injection e with e
  have:=(r.buf.lt j hj).2
  omega
theorem RelIn.put {B c:Nat} {ifc wrt crb cv:Value} {w2 wx wy:World} {v cvx cvy:Value} {X:BS×Bool×BS} {C:BS} (r:RelIn B c ifc wrt crb cv w2 wx v cvx X)(hc:c<w2.heap.size)(hcc:cv.ownBlock≠some c)(hy:OwnAt wy B 5 cvy (byts C))(hg:wx.grownBy wy cvx.ownBlock)(hat:cvy.ownBlock=cvx.ownBlock∨cvy.ownBlock=some wx.heap.size):
 RelIn B c ifc wrt crb cv w2 (wy.setCell ⟨c,1,none⟩ cvy) v cvy (X.1,X.2.1,C)∧Blk wy c 365 [ifc,cvx, .bool X.2.1,wrt,crb]:=by
 have hF:=Frm.of_grown hg
 have h2:w2.heap.size≤wx.heap.size:=r.frm.size
 have hcx:cvx.ownBlock≠some c:=fun e=>by
  rcases(r.clt c e).1 with e2|e2
  ·exact hcc e2
  ·omega
 have hb:=r.blk.frm hF (fun e=>hcx e.symm)
 have hyl: ∀j,cvy.ownBlock=some j→(cv.ownBlock=some j∨w2.heap.size≤j)∧v.ownBlock≠some j:=fun j hj=>by
  rcases hat with e|e
  ·exact r.clt j (by rw [←e];exact hj)
  ·rw [e]at hj;injection hj with hj
   refine⟨.inr (by omega),fun e2=> ?_⟩
   have:=(r.can.lt j e2).2
   omega
 have hG:=(Frm.refl (fun j=>j=c) wy).setCell ⟨c,1,none⟩ cvy (fun _=>rfl)
 refine⟨⟨(r.can.frm hF (fun k hk e=>(r.clt k e.symm).2 hk)).frm hG (fun k hk e=>by have:=r.vlt k hk;omega),hy.frm hG (fun k hk e=> ?_),hb.set 1 _,r.vlt,hyl,(r.frm.after hF (fun j hj e=> ?_)).setCell _ _ (fun _=> .inl rfl)⟩,hb⟩
 ·rcases(hyl k hk).1 with e2|e2
  ·exact hcc (by rw [e2,e])
  ·omega
 ·rcases(r.clt j e.symm).1 with e2|e2
  ·exact .inr e2.symm
  ·omega
theorem relClose_any {wt fn:Nat} {any:Bool} {Sk:World→Nat→Option Nat→BS→Prop} (L:SnkLaw wt fn any Sk)(B c h:Nat)(form acc:BS)(w:World)(hs:RelAt Sk wt B w c h acc)(hn:acc.length≤274877906944)(hf:form≠simpleS):
 Calls Tryz.prog 290 #[.pointer (some ⟨c,0,none⟩)] w (ClosePost Sk B w h (bodyOf form acc)):=by
 obtain⟨o,cv,hBc,hBh,hBo,hch,hoc,hc,hcv,hcvh,hcvo,hsk⟩:=hs
 have hfin:=Lib.hid (rel_close form acc hf)
 have hrl:=rel_len (ended acc) ([],false,[])
 have hel0:(ended acc).length≤2*acc.length:=ended_len false acc
 have hRl:(relOf acc).1.length≤4*acc.length:=by
  show((ended acc).foldl relStep ([],false,[])).1.length≤_
  simp only [List.length_nil]at hrl;omega
 have hcl:=hc.lt
 have hB:B≤w.heap.size:=by omega
 obtain⟨hsk1,hsk2⟩:=L.lt _ _ _ _ hsk
 generalize(relOf acc).1=D at*
 have c0:=hc.cell 0 _ rfl
 have c3:=hc.cell 3 _ rfl
 have hm:=L.m ⟨h,0,none⟩
 have hnn:=L.n ⟨h,0,none⟩
 have hee:=L.e
 cases D with
 |nil=>
  have c3:w.cell? ⟨c,3,none⟩=some (.bool false):=c3
  go_enter Tryz.func290,Tryz.ntmps290
  go_wp2
  go_ret
  exact⟨rfl,⟨o,by rw [←hfin.out];exact hsk,hBo⟩,Below.refl _ _⟩
 |cons d D=>
  have c3:w.cell? ⟨c,3,none⟩=some (.bool true):=c3
  obtain⟨o2,ho2⟩: ∃o2,Hid (o2=Obj.cells #[.int .u8 13, .int .u8 10] 5 (2,3)):=⟨_,Lib.hid rfl⟩
  have hF5:=(Frm.refl (fun _=>False) w).alloc o2
  have hsk5:=L.frm _ _ _ _ _ _ hsk hF5 id (fun _ _=>id)
  have hr5:Rd (w.alloc o2) (.slice (some ⟨w.heap.size,0,none⟩) 2 2) (byts [13,10]):=by rw [ho2.out];exact rd_lit_mark _ (byts [13,10]) 5 (2,3)
  have hw:=L.write _ h o (d::D) _ [13,10] hsk5 hr5 (.inr (.inl (by simp))) (by simp only [List.length_cons,List.length_nil]at*;omega) (fun k hk=>by have hk:w.heap.size=k:=Option.some.inj hk;exact⟨by omega,fun e=>by have:=(hsk2 k e).1;omega⟩)
  have hcvx:(convert 22 22 (.slice (some ⟨w.heap.size,0,none⟩) 2 2)).run Tryz.prog (w.alloc (.cells #[.int .u8 13, .int .u8 10] 5))= .ok (.slice (some ⟨w.heap.size,0,none⟩) 2 2) (w.alloc o2):=by
   rw [ho2.out];exact Lib.run_convert_bytes_const _ 22 5 #[.int .u8 13, .int .u8 10] 2 2 Tryz.underlying22 Tryz.underlying5
  have hB5:Below B w (w.alloc o2):=hF5.below (fun k _ e=>e.elim) hB
  go_enter Tryz.func290,Tryz.ntmps290
  go_wp2_with fail
  refine hw.mono ?_
  rintro e w6 ⟨rfl,⟨o6,hsk6,ho6⟩,hF6⟩
  go_wp2
  go_ret
  have hs5:w.heap.size≤(w.alloc o2).heap.size:=leA _ _
  exact⟨rfl,⟨o6,by rw [←hfin.out];exact hsk6,fun k hk=>by rcases ho6 k hk with e|e;exact hBo k e;omega⟩,hB5.trans (hF6.below (fun k _ e=>by rcases e with e|e;rw [e];exact hBh;exact hBo k e.symm) (by omega))⟩
theorem simNew_any {wt fn:Nat} {any:Bool} {Sk:World→Nat→Option Nat→BS→Prop} (L:SnkLaw wt fn any Sk)(B h:Nat)(o:Option Nat)(a:Addr)(w:World)(hBh:B≤h)(hBo: ∀k,o=some k→B≤k)(hsk:Sk w h o []):
 Calls Tryz.prog 255 #[.pointer (some a), .iface wt (.pointer (some ⟨h,0,none⟩))] w fun e w'=>e= .returned (.iface 358 (.pointer (some ⟨w.heap.size,0,none⟩)))∧SimAt Sk wt B w' w.heap.size h []∧Below w.heap.size w w':=by
 obtain⟨hsk1,hsk2⟩:=L.lt _ _ _ _ hsk
 go_enter Tryz.func255,Tryz.ntmps255
 go_wp2
 go_ret
 have hb:=(Below.refl _ w).alloc (Nat.le_refl _) (.cells #[.iface wt (.pointer (some ⟨h,0,none⟩)), .slice none 0 0, .bool false] 362)
 exact⟨rfl,⟨o, .slice none 0 0,by omega,hBh,hBo,by omega,fun e=>by have:=(hsk2 _ e).1;omega,Blk.new _ _ _, .inl ⟨rfl,rfl⟩,by simp [Value.ownBlock],fun k hk=>by simp [Value.ownBlock]at hk,L.frm _ _ _ _ _ _ hsk (Frm.of_new (S:=fun _=>False) hb) id (fun _ _=>id)⟩,hb⟩
theorem relNew_any {wt fn:Nat} {any:Bool} {Sk:World→Nat→Option Nat→BS→Prop} (L:SnkLaw wt fn any Sk)(B h:Nat)(o:Option Nat)(a:Addr)(w:World)(hBh:B≤h)(hBo: ∀k,o=some k→B≤k)(hsk:Sk w h o []):
 Calls Tryz.prog 257 #[.pointer (some a), .iface wt (.pointer (some ⟨h,0,none⟩))] w fun e w'=>e= .returned (.iface 363 (.pointer (some ⟨w.heap.size,0,none⟩)))∧RelAt Sk wt B w' w.heap.size h []∧Below w.heap.size w w':=by
 obtain⟨hsk1,hsk2⟩:=L.lt _ _ _ _ hsk
 go_enter Tryz.func257,Tryz.ntmps257
 go_wp2
 go_ret
 have hb:=(Below.refl _ w).alloc (Nat.le_refl _) (.cells #[.iface wt (.pointer (some ⟨h,0,none⟩)), .slice none 0 0, .bool false, .bool false, .bool false] 365)
 exact⟨rfl,⟨o, .slice none 0 0,by omega,hBh,hBo,by omega,fun e=>by have:=(hsk2 _ e).1;omega,Blk.new _ _ _, .inl ⟨rfl,rfl⟩,by simp [Value.ownBlock],fun k hk=>by simp [Value.ownBlock]at hk,L.frm _ _ _ _ _ _ hsk (Frm.of_new (S:=fun _=>False) hb) id (fun _ _=>id)⟩,hb⟩
theorem own_len {A:Option Addr} {n n' c c' j:Nat} (h:(Value.slice A n c).ownBlock=some j):(Value.slice A n' c').ownBlock=some j:=by cases A<;>exact h
theorem hyOf {w:World} {B n p3:Nat} {A3:Option Addr} {X:BS} (h:OwnAt w B 5 (.slice A3 n p3) (byts X))(hp: ¬p3=0):OwnAt w B 5 (.slice A3 0 p3) (byts []):=by
 have:=h.sliced 0 0 (Nat.le_refl _) (Nat.zero_le _)
 rw [sliced0,if_neg hp,Nat.sub_zero,Nat.sub_zero]at this
 have e:(A3.map fun x=>x.add 0)=A3:=by cases A3 with|none=>rfl|some a=>exact congrArg some (add_zero_at a)
 rw [e]at this
 simpa [byts]using this
def RelPost (Sk:World→Nat→Option Nat→BS→Prop)(wt B:Nat)(w:World)(c h n:Nat)(acc':BS)(e:Ending)(w':World):Prop:=
 e= .returned (.tuple #[.int .i64 n, .nilIface])∧RelAt Sk wt B w' c h acc'∧Below B w w'
theorem relWrite_any {wt fn:Nat} {any:Bool} {Sk:World→Nat→Option Nat→BS→Prop} (L:SnkLaw wt fn any Sk)(B c h:Nat)(acc l:BS)(pv:Value)(w:World)(hs:RelAt Sk wt B w c h acc)(hp:Rd w pv (byts l))(hpc:pv.ownBlock≠some c)(hn:acc.length+l.length≤274877906944)(ha:any=true∨acc= []):
 Calls Tryz.prog 291 #[.pointer (some ⟨c,0,none⟩),pv] w (RelPost Sk wt B w c h l.length (acc++l)):=by
 obtain⟨o,cv,hBc,hBh,hBo,hch,hoc,hc,hcv,hcvh,hcvo,hsk⟩:=hs
 have hrw:=rel_write acc l
 have hcc:=own_blk hcv hc (by decide)
 have hrl:=rel_len (ended acc) ([],false,[])
 have hel0:(ended acc).length≤2*acc.length:=ended_len false acc
 have hRl:(relOf acc).1.length+(relOf acc).2.2.length≤4*acc.length:=by
  show((ended acc).foldl relStep ([],false,[])).1.length+((ended acc).foldl relStep ([],false,[])).2.2.length≤_
  simp only [List.length_nil]at hrl;omega
 have hcrn:Hid ((eFr false (acc++l)).2=(eFr (eFr false acc).2 l).2):=by show _=_;rw [endFrom_app]
 have happ:Hid (any=true∨acc= []∧(relOf acc).1= []):=ha.imp id (fun e=>⟨e,by rw [e];rfl⟩)
 have hcl:=hc.lt
 have hB:B≤w.heap.size:=by omega
 obtain⟨hsk1,hsk2⟩:=L.lt _ _ _ _ hsk
 obtain⟨A,pc,rfl,_⟩: ∃A pc,pv= .slice A l.length pc∧True:=by obtain⟨A,pc,e,_⟩:=hp;exact⟨A,pc,by rw [e,byL],trivial⟩
 generalize(eFr false acc).2=cr at*
 generalize hR:relOf acc=R at*
 obtain⟨D,s1,C0⟩:=R
 simp only at hsk hc hcv hrw hRl happ
 obtain⟨wr0,hwr0⟩: ∃b:Bool,Hid (b= !D.isEmpty):=⟨_,Lib.hid rfl⟩
 rw [←hwr0.out]at hc
 have hel:=ended_len cr l
 have hfx:=fix_any c 4 365 _ cr _ l w hc rfl hp hpc (by omega)
 generalize hE:eFr cr l=E at*
 obtain⟨Et,cr2⟩:=E
 simp only at hfx hrw hel hcrn
 have Hrw:=Lib.hid hrw;have Hel:=Lib.hid hel;have HRl:=Lib.hid hRl;have Hn:=Lib.hid hn
 clear hrw hel hRl hn hrl hel0 hE hR hp ha
 go_enter Tryz.func291,Tryz.ntmps291
 go_wp2_with fail
 refine hfx.mono ?_
 rintro e w2 ⟨v2,rfl,ho2,hc2,hF2⟩
 clear hfx
 obtain⟨A2,p2,rfl⟩:=ho2.form
 rw [byL]at ho2⊢
 obtain⟨N,hN⟩: ∃N,Hid (N=Et.length):=⟨_,Lib.hid rfl⟩
 rw [←hN.out]at ho2⊢
 have hNb:N≤549755813888:=by have:=Hel.out;have:=Hn.out;rw [hN.out];omega
 obtain⟨w3,hmk,ho3,hb3⟩:=make_at w2 22 5 (.int .u8 0) 1 Tryz.underlying22 Tryz.info5 rfl 0 N (Nat.zero_le _) (by omega) (by omega)
 have hmk':(Instr.makeSlice 22 (.int .i64 0) (.int .i64 (N:Int))).run Tryz.prog w2= .ok (.slice (some ⟨w2.heap.size,0,none⟩) 0 N) w3:=hmk
 clear hmk
 have hF2c:=hF2.size
 have hcv2:=hcv.frm hF2 (fun k hk e=>hcc (by rw [hk,e]))
 have hB2:B≤w2.heap.size:=by omega
 have r0:RelIn B c (.iface wt (.pointer (some ⟨h,0,none⟩))) (.bool wr0) (.bool cr2) cv w2 w3 (.slice (some ⟨w2.heap.size,0,none⟩) 0 N) cv ([],s1,C0):=
  ⟨ho3.mono hB2,hcv2.below hb3,Blk.below hc2 hb3 hc2.lt,fun j hj=>by have hj:w2.heap.size=j:=Option.some.inj hj;omega,fun j hj=>⟨.inl hj,fun e=>by have e:w2.heap.size=j:=Option.some.inj e;have:=(hcv2.lt j hj).2;omega⟩,Frm.of_new hb3⟩
 have hrd3:=ho2.rd
 have hv2lt:=ho2.lt
 have hcl2:c<w2.heap.size:=hc2.lt
 have hcvlt:=hcv.lt
 have hN0:(0:Int)≤(N:Int):=by omega
 have hN1:(N:Int)≤1099511627776:=by omega
 clear hc2 hc hcv hcv2 ho3 hb3
 go_wp2_with fail
 clear hmk'
 go_loopw [7,24] (fun v x wx=> ∃(k:Nat) (cvx:Value),k≤N∧x= .int .i64 k∧RelIn B c (.iface wt (.pointer (some ⟨h,0,none⟩))) (.bool wr0) (.bool cr2) cv w2 wx v cvx ((Et.take k).foldl relStep ([],s1,C0))) (fun _ x _=>N-(intOf x).toNat)
 case atStart=>exact⟨0,cv,Nat.zero_le _,rfl,r0⟩
 case round=>
  clear r0
  obtain⟨k,cvx,hk,rfl,r⟩:=hrel
  have hsw:w2.heap.size≤wr.heap.size:=r.frm.size
  have hBw:B≤wr.heap.size:=by omega
  by_cases hlt:k<N
  ·have hlt2:k<Et.length:=by rw [←hN.out];exact hlt
   have hstep:=foldl_snoc relStep ([],s1,C0) Et k hlt2
   have hln:=rel_len (Et.take k) ([],s1,C0)
   rw [List.length_take,Nat.min_eq_left (Nat.le_of_lt hlt2)]at hln
   generalize hX:(Et.take k).foldl relStep ([],s1,C0)=X at*
   obtain⟨X1,X2,X3⟩:=X
   simp only [List.length_nil,Nat.zero_add]at hln
   have HS:=Lib.hid hstep
   have hXb:X1.length+X3.length≤4398046511104:=by have:=HRl.out;have:=Hn.out;omega
   clear hstep hX hln
   obtain⟨g,off,hAe,hcell⟩: ∃g off,A2=some ⟨g,off,none⟩∧wr.cell? ⟨g,off+k,none⟩=some (.int .u8 Et[k].toNat):=by
    obtain⟨g,off,q,he⟩:=ho2.form_some (by intro e;have:=congrArg List.length e;rw [byL]at this;simp at this;rw [this]at hlt2;simp at hlt2)
    injection he with he1 _ _
    subst he1
    refine⟨g,off,rfl,frC r.frm ((ho2.cell_at k _ (by simp [byts,hlt2])).1) (fun e=> ?_)⟩
    have h1:=(hv2lt g rfl).1
    rcases e with e|e
    ·have e:g=c:=e
     omega
    ·have e:some g=cv.ownBlock:=e
     have:=(hcvlt g e.symm).2;omega
   have hgA: ∀o2,A2=some o2→True:=fun _ _=>trivial
   obtain⟨z,hz⟩: ∃z,Hid (z=Et[k]):=⟨_,Lib.hid rfl⟩
   rw [←hz.out]at hcell
   have HS:Hid ((Et.take (k+1)).foldl relStep ([],s1,C0)=relStep (X1,X2,X3) z):=by show _=_;rw [HS.out,hz.out]
   obtain⟨A3,p3,rfl⟩:=r.buf.form
   have hr0:=r.buf
   simp only at r hr0
   rw [byL]at r hr0
   have c1:=r.blk.cell 1 _ rfl
   have f1:=r.blk.frozen 1
   have c2:=r.blk.cell 2 _ rfl
   have f2:=r.blk.frozen 2
   have k0:(0:Int)≤(k:Int):=by omega
   have k1:(k:Int)<(N:Int):=by omega
   subst hAe
   simp only at c1 c2
   by_cases n32:z=32
   ·have hzz:(z==32||z==9)=true:=by simp [n32]
    have hx1:((z.toNat:Int)==32)=true:=bT n32
    have rA:=r.wsp hcl2 hcc true
    go_wp2_with fail
    go_roundw
    case rel=>exact⟨k+1,_,hlt,by go_num,by rw [HS.out,show relStep (X1,X2,X3) z=(X1,true,X3) by simp [relStep,hzz]];exact rA⟩
    case measure=>simp only [intOf];omega
   ·by_cases n9:z=9
    ·have hzz:(z==32||z==9)=true:=by simp [n9]
     have hx1:((z.toNat:Int)==32)=false:=bF n32
     have hx2:((z.toNat:Int)==9)=true:=bT n9
     have rA:=r.wsp hcl2 hcc true
     go_wp2_with fail
     go_roundw
     case rel=>exact⟨k+1,_,hlt,by go_num,by rw [HS.out,show relStep (X1,X2,X3) z=(X1,true,X3) by simp [relStep,hzz]];exact rA⟩
     case measure=>simp only [intOf];omega
    ·have hzn:(z==32||z==9)=false:=by simp [n32,n9]
     by_cases n13:z=13
     ·have hzz:(z==13||z==10)=true:=by simp [n13]
      have hx1:((z.toNat:Int)==32)=false:=bF n32
      have hx2:((z.toNat:Int)==9)=false:=bF n9
      have hx3:((z.toNat:Int)==13)=true:=bT n13
      subst n13
      have rA:=r.wsp hcl2 hcc false
      have rB:=rA.alloc (Obj.cells #[.int .u8 13] 5)
      have hsr:Src Tryz.prog ((wr.setCell ⟨c,2,none⟩ (.bool false)).alloc (Obj.cells #[.int .u8 13] 5)) (.slice (some ⟨wr.heap.size,0,none⟩) 1 1) (byts [13]):=by
       have:=Src.lit (P:=Tryz.prog) (wr.setCell ⟨c,2,none⟩ (.bool false)) 13 13 rfl;rwa [szC]at this
      have hBs:B≤((wr.setCell ⟨c,2,none⟩ (.bool false)).alloc (Obj.cells #[.int .u8 13] 5)).heap.size:=Nat.le_trans (by rw [szC];exact hBw) (leA _ _)
      have hXb1:X3.length+([13]:BS).length≤140737488355328:=by simp;omega
      have hrB:=rB.buf
      go_wp2_with (at_builtin;refine appB (v:= .slice A3 X3.length p3) rfl (.tmp 50) (.tmp 52) 22 (.inl rfl) rfl X3 [13] rfl hrB rfl hsr hXb1 hBs ?_;intro v1 w1 ho1 hg1 hb1 hat1;obtain⟨A4,p4,rfl⟩:=ho1.form;obtain⟨rP,hblk⟩:=rB.put hcl2 hcc ho1 hg1 hat1;have d1:=hblk.cell 1 _ rfl;have e1:=hblk.frozen 1)
      go_roundw
      case rel=>exact⟨k+1,_,hlt,by go_num,by rw [HS.out,show relStep (X1,X2,X3) 13=(X1,false,X3++ [13]) by rfl];exact rP⟩
      case measure=>simp only [intOf];omega
     ·by_cases n10:z=10
      ·have hzz:(z==13||z==10)=true:=by simp [n10]
       have hx1:((z.toNat:Int)==32)=false:=bF n32
       have hx2:((z.toNat:Int)==9)=false:=bF n9
       have hx3:((z.toNat:Int)==13)=false:=bF n13
       have hx4:((z.toNat:Int)==10)=true:=bT n10
       subst n10
       have rA:=r.wsp hcl2 hcc false
       have rB:=rA.alloc (Obj.cells #[.int .u8 10] 5)
       have hsr:Src Tryz.prog ((wr.setCell ⟨c,2,none⟩ (.bool false)).alloc (Obj.cells #[.int .u8 10] 5)) (.slice (some ⟨wr.heap.size,0,none⟩) 1 1) (byts [10]):=by
        have:=Src.lit (P:=Tryz.prog) (wr.setCell ⟨c,2,none⟩ (.bool false)) 10 10 rfl;rwa [szC]at this
       have hBs:B≤((wr.setCell ⟨c,2,none⟩ (.bool false)).alloc (Obj.cells #[.int .u8 10] 5)).heap.size:=Nat.le_trans (by rw [szC];exact hBw) (leA _ _)
       have hXb1:X3.length+([10]:BS).length≤140737488355328:=by simp;omega
       have hrB:=rB.buf
       go_wp2_with (at_builtin;refine appB (v:= .slice A3 X3.length p3) rfl (.tmp 50) (.tmp 52) 22 (.inl rfl) rfl X3 [10] rfl hrB rfl hsr hXb1 hBs ?_;intro v1 w1 ho1 hg1 hb1 hat1;obtain⟨A4,p4,rfl⟩:=ho1.form;obtain⟨rP,hblk⟩:=rB.put hcl2 hcc ho1 hg1 hat1;have d1:=hblk.cell 1 _ rfl;have e1:=hblk.frozen 1)
       go_roundw
       case rel=>exact⟨k+1,_,hlt,by go_num,by rw [HS.out,show relStep (X1,X2,X3) 10=(X1,false,X3++ [10]) by rfl];exact rP⟩
       case measure=>simp only [intOf];omega
      ·have hzm:(z==13||z==10)=false:=by simp [n13,n10]
       by_cases hX3:X3= []
       ·cases X2 with
        |true=>
         have hx1:((z.toNat:Int)==32)=false:=bF n32
         have hx2:((z.toNat:Int)==9)=false:=bF n9
         have hx3:((z.toNat:Int)==13)=false:=bF n13
         have hx4:((z.toNat:Int)==10)=false:=bF n10
         subst hX3
         have hXb3:X1.length+([32]:BS).length≤140737488355328:=by simp only [List.length_nil]at hXb;simp;omega
         have hXb4:(X1++ [32]).length+ [z].length≤140737488355328:=by simp only [List.length_nil]at hXb;simp;omega
         have hXb5:X1.length+ [z].length≤140737488355328:=by simp only [List.length_nil]at hXb;simp;omega
         go_wp2_with (first
          |(at_builtin;have qa:=r.alloc (Obj.cells #[.int .u8 32] 5);have hsra:Src Tryz.prog (wr.alloc (Obj.cells #[.int .u8 32] 5)) (.slice (some ⟨wr.heap.size,0,none⟩) 1 1) (byts [32]):=(by have:=Src.lit (P:=Tryz.prog) wr 32 _ rfl;exact this);have hBsa:B≤(wr.alloc (Obj.cells #[.int .u8 32] 5)).heap.size:=Nat.le_trans hBw (leA _ _);refine appB (v:=u7) rfl (.tmp 80) (.tmp 81) 22 (.inl rfl) rfl X1 [32] rfl qa.can rfl hsra hXb3 hBsa ?_;intro va wa hoa hga hba hata;have sa:=qa.app hcl2 hoa hga hata;have hBa:=Nat.le_trans hBsa hga.size;have d2a:=sa.blk.cell 2 _ rfl;have e2a:=sa.blk.frozen 2;have ta:=sa.wsp hcl2 hcc false;have hBt:B≤(wa.setCell ⟨c,2,none⟩ (.bool false)).heap.size:=(by rw [szC];exact hBa))
          |(at_builtin;have qb:=ta.alloc (Obj.cells #[.int .u8 z.toNat] 5);have hsrb:Src Tryz.prog ((wa.setCell ⟨c,2,none⟩ (.bool false)).alloc (Obj.cells #[.int .u8 z.toNat] 5)) (.slice (some ⟨wa.heap.size,0,none⟩) 1 1) (byts [z]):=(by have:=Src.lit (P:=Tryz.prog) (wa.setCell ⟨c,2,none⟩ (.bool false)) z _ rfl;rwa [szC]at this);have hBsb:B≤((wa.setCell ⟨c,2,none⟩ (.bool false)).alloc (Obj.cells #[.int .u8 z.toNat] 5)).heap.size:=Nat.le_trans hBt (leA _ _);refine appB (v:=va) rfl (.tmp 86) (.tmp 88) 22 (.inl rfl) rfl (X1++ [32]) [z] rfl qb.can rfl hsrb hXb4 hBsb ?_;intro vb wb hob hgb hbb hatb;have sb:=qb.app hcl2 hob hgb hatb;have hBb:=Nat.le_trans hBsb hgb.size))
         go_roundw
         case rel=>exact⟨k+1,_,hlt,by go_num,by rw [HS.out,show relStep (X1,true,[]) z=((X1++ [32])++ [z],false,[]) by simp [relStep,hzn,hzm]];exact sb⟩
         case measure=>simp only [intOf];omega
        |false=>
         have hx1:((z.toNat:Int)==32)=false:=bF n32
         have hx2:((z.toNat:Int)==9)=false:=bF n9
         have hx3:((z.toNat:Int)==13)=false:=bF n13
         have hx4:((z.toNat:Int)==10)=false:=bF n10
         subst hX3
         have hXb3:X1.length+([32]:BS).length≤140737488355328:=by simp only [List.length_nil]at hXb;simp;omega
         have hXb4:(X1++ [32]).length+ [z].length≤140737488355328:=by simp only [List.length_nil]at hXb;simp;omega
         have hXb5:X1.length+ [z].length≤140737488355328:=by simp only [List.length_nil]at hXb;simp;omega
         go_wp2_with (first
          |(at_builtin;have qb:=r.alloc (Obj.cells #[.int .u8 z.toNat] 5);have hsrb:Src Tryz.prog (wr.alloc (Obj.cells #[.int .u8 z.toNat] 5)) (.slice (some ⟨wr.heap.size,0,none⟩) 1 1) (byts [z]):=(by have:=Src.lit (P:=Tryz.prog) wr z _ rfl;exact this);have hBsb:B≤(wr.alloc (Obj.cells #[.int .u8 z.toNat] 5)).heap.size:=Nat.le_trans hBw (leA _ _);refine appB (v:=u7) rfl (.tmp 86) (.tmp 88) 22 (.inl rfl) rfl X1 [z] rfl qb.can rfl hsrb hXb5 hBsb ?_;intro vb wb hob hgb hbb hatb;have sb:=qb.app hcl2 hob hgb hatb;have hBb:=Nat.le_trans hBsb hgb.size))
         go_roundw
         case rel=>exact⟨k+1,_,hlt,by go_num,by rw [HS.out,show relStep (X1,false,[]) z=(X1++ [z],false,[]) by simp [relStep,hzn,hzm]];exact sb⟩
         case measure=>simp only [intOf];omega
       ·cases X2 with
        |true=>
         have hx1:((z.toNat:Int)==32)=false:=bF n32
         have hx2:((z.toNat:Int)==9)=false:=bF n9
         have hx3:((z.toNat:Int)==13)=false:=bF n13
         have hx4:((z.toNat:Int)==10)=false:=bF n10
         have hX3l:0<X3.length:=List.length_pos_iff.2 hX3
         have hX3i:(0:Int)<(X3.length:Int):=by omega
         have hX3n: ¬X3.length=0:=by omega
         have hp3:X3.length≤p3:=by
          obtain⟨g3,o3,q3,he⟩:=hr0.form_some (by intro e;have:=congrArg List.length e;rw [byL]at this;simp at this;exact hX3 this)
          injection he with h1 h2 h3
          subst h1
          exact hr0.len_at.2.1
         have hp30: ¬p3=0:=by omega
         have hp31:(0:Int)≤(p3:Int):=by omega
         have hXb2:X1.length+X3.length≤140737488355328:=by omega
         have hXb3:(X1++X3).length+([32]:BS).length≤140737488355328:=by simp;omega
         have hXb4:(X1++X3++ [32]).length+ [z].length≤140737488355328:=by simp;omega
         have hXb5:(X1++X3).length+ [z].length≤140737488355328:=by simp;omega
         go_wp2_with (first
          |(at_builtin;refine appB (v:=u7) rfl (.tmp 62) (.tmp 66) 22 (.inl rfl) rfl X1 X3 rfl r.can rfl (Src.rd r.buf.rd (byts_one _)) hXb2 hBw ?_;intro v1 w1 ho1 hg1 hb1 hat1;have r1:=r.app hcl2 ho1 hg1 hat1;have d1:=r1.blk.cell 1 _ rfl;have e1:=r1.blk.frozen 1;have d2:=r1.blk.cell 2 _ rfl;have e2:=r1.blk.frozen 2;have hB1:=Nat.le_trans hBw hg1.size;have hy:=hyOf r1.buf hp30;have r2:=r1.setBuf hcl2 hcc hy (fun j hj=>r1.clt j (own_len hj));have hB2x:B≤(w1.setCell ⟨c,1,none⟩ (.slice A3 0 p3)).heap.size:=(by rw [szC];exact hB1))
          |(at_builtin;have qa:=r2.alloc (Obj.cells #[.int .u8 32] 5);have hsra:Src Tryz.prog ((w1.setCell ⟨c,1,none⟩ (.slice A3 0 p3)).alloc (Obj.cells #[.int .u8 32] 5)) (.slice (some ⟨w1.heap.size,0,none⟩) 1 1) (byts [32]):=(by have:=Src.lit (P:=Tryz.prog) (w1.setCell ⟨c,1,none⟩ (.slice A3 0 p3)) 32 _ rfl;rwa [szC]at this);have hBsa:B≤((w1.setCell ⟨c,1,none⟩ (.slice A3 0 p3)).alloc (Obj.cells #[.int .u8 32] 5)).heap.size:=Nat.le_trans hB2x (leA _ _);refine appB (v:=v1) rfl (.tmp 80) (.tmp 81) 22 (.inl rfl) rfl (X1++X3) [32] rfl qa.can rfl hsra hXb3 hBsa ?_;intro va wa hoa hga hba hata;have sa:=qa.app hcl2 hoa hga hata;have hBa:=Nat.le_trans hBsa hga.size;have d2a:=sa.blk.cell 2 _ rfl;have e2a:=sa.blk.frozen 2;have ta:=sa.wsp hcl2 hcc false;have hBt:B≤(wa.setCell ⟨c,2,none⟩ (.bool false)).heap.size:=(by rw [szC];exact hBa))
          |(at_builtin;have qb:=ta.alloc (Obj.cells #[.int .u8 z.toNat] 5);have hsrb:Src Tryz.prog ((wa.setCell ⟨c,2,none⟩ (.bool false)).alloc (Obj.cells #[.int .u8 z.toNat] 5)) (.slice (some ⟨wa.heap.size,0,none⟩) 1 1) (byts [z]):=(by have:=Src.lit (P:=Tryz.prog) (wa.setCell ⟨c,2,none⟩ (.bool false)) z _ rfl;rwa [szC]at this);have hBsb:B≤((wa.setCell ⟨c,2,none⟩ (.bool false)).alloc (Obj.cells #[.int .u8 z.toNat] 5)).heap.size:=Nat.le_trans hBt (leA _ _);refine appB (v:=va) rfl (.tmp 86) (.tmp 88) 22 (.inl rfl) rfl ((X1++X3)++ [32]) [z] rfl qb.can rfl hsrb hXb4 hBsb ?_;intro vb wb hob hgb hbb hatb;have sb:=qb.app hcl2 hob hgb hatb;have hBb:=Nat.le_trans hBsb hgb.size))
         go_roundw
         case rel=>exact⟨k+1,_,hlt,by go_num,by rw [HS.out,show relStep (X1,true,X3) z=(((X1++X3)++ [32])++ [z],false,[]) by simp [relStep,hzn,hzm]];exact sb⟩
         case measure=>simp only [intOf];omega
        |false=>
         have hx1:((z.toNat:Int)==32)=false:=bF n32
         have hx2:((z.toNat:Int)==9)=false:=bF n9
         have hx3:((z.toNat:Int)==13)=false:=bF n13
         have hx4:((z.toNat:Int)==10)=false:=bF n10
         have hX3l:0<X3.length:=List.length_pos_iff.2 hX3
         have hX3i:(0:Int)<(X3.length:Int):=by omega
         have hX3n: ¬X3.length=0:=by omega
         have hp3:X3.length≤p3:=by
          obtain⟨g3,o3,q3,he⟩:=hr0.form_some (by intro e;have:=congrArg List.length e;rw [byL]at this;simp at this;exact hX3 this)
          injection he with h1 h2 h3
          subst h1
          exact hr0.len_at.2.1
         have hp30: ¬p3=0:=by omega
         have hp31:(0:Int)≤(p3:Int):=by omega
         have hXb2:X1.length+X3.length≤140737488355328:=by omega
         have hXb3:(X1++X3).length+([32]:BS).length≤140737488355328:=by simp;omega
         have hXb4:(X1++X3++ [32]).length+ [z].length≤140737488355328:=by simp;omega
         have hXb5:(X1++X3).length+ [z].length≤140737488355328:=by simp;omega
         go_wp2_with (first
          |(at_builtin;refine appB (v:=u7) rfl (.tmp 62) (.tmp 66) 22 (.inl rfl) rfl X1 X3 rfl r.can rfl (Src.rd r.buf.rd (byts_one _)) hXb2 hBw ?_;intro v1 w1 ho1 hg1 hb1 hat1;have r1:=r.app hcl2 ho1 hg1 hat1;have d1:=r1.blk.cell 1 _ rfl;have e1:=r1.blk.frozen 1;have d2:=r1.blk.cell 2 _ rfl;have e2:=r1.blk.frozen 2;have hB1:=Nat.le_trans hBw hg1.size;have hy:=hyOf r1.buf hp30;have r2:=r1.setBuf hcl2 hcc hy (fun j hj=>r1.clt j (own_len hj));have hB2x:B≤(w1.setCell ⟨c,1,none⟩ (.slice A3 0 p3)).heap.size:=(by rw [szC];exact hB1))
          |(at_builtin;have qb:=r2.alloc (Obj.cells #[.int .u8 z.toNat] 5);have hsrb:Src Tryz.prog ((w1.setCell ⟨c,1,none⟩ (.slice A3 0 p3)).alloc (Obj.cells #[.int .u8 z.toNat] 5)) (.slice (some ⟨w1.heap.size,0,none⟩) 1 1) (byts [z]):=(by have:=Src.lit (P:=Tryz.prog) (w1.setCell ⟨c,1,none⟩ (.slice A3 0 p3)) z _ rfl;rwa [szC]at this);have hBsb:B≤((w1.setCell ⟨c,1,none⟩ (.slice A3 0 p3)).alloc (Obj.cells #[.int .u8 z.toNat] 5)).heap.size:=Nat.le_trans hB2x (leA _ _);refine appB (v:=v1) rfl (.tmp 86) (.tmp 88) 22 (.inl rfl) rfl (X1++X3) [z] rfl qb.can rfl hsrb hXb5 hBsb ?_;intro vb wb hob hgb hbb hatb;have sb:=qb.app hcl2 hob hgb hatb;have hBb:=Nat.le_trans hBsb hgb.size))
         go_roundw
         case rel=>exact⟨k+1,_,hlt,by go_num,by rw [HS.out,show relStep (X1,false,X3) z=((X1++X3)++ [z],false,[]) by simp [relStep,hzn,hzm]];exact sb⟩
         case measure=>simp only [intOf];omega
  ·obtain rfl:k=N:=by omega
   rw [show Et.take k=Et by rw [hN.out,List.take_length]]at r
   have hlnX:=rel_len Et ([],s1,C0)
   generalize hX:Et.foldl relStep ([],s1,C0)=X at*
   obtain⟨X1,X2,X3⟩:=X
   have Hln:=Lib.hid hlnX
   clear hlnX hX
   have hFw:Frm (fun j=>j=c∨some j=cv.ownBlock) w wr:=(hF2.mono (fun k _ e=> .inl e)).trans r.frm
   have hskr:=L.frm _ _ _ _ _ _ hsk hFw (fun e=>e.elim (fun e=>hch e.symm) (fun e=>hcvh e.symm)) (fun k hk e=>e.elim (fun e=>hoc (by rw [hk,e])) (fun e=>hcvo k e.symm hk))
   obtain⟨A5,p5,rfl⟩:=r.can.form
   obtain⟨n1,hn1⟩: ∃n1,Hid (n1=X1.length):=⟨_,Lib.hid rfl⟩
   have hrc:=r.can.rd
   have hvlt:=r.vlt
   have hclt:=r.clt
   have hbl:=r.blk
   have hbuf:=r.buf
   rw [byL,←hn1.out]at hrc hvlt hclt⊢
   have hown: ∀k,(Value.slice A5 n1 p5).ownBlock=some k→k≠h∧o≠some k:=fun k hk=>by
    have h1:=hvlt k hk
    exact⟨by omega,fun e=>by have:=(hsk2 k e).1;omega⟩
   have hcond:any=true∨X1≠ []∨D= []:=happ.out.imp id (fun e=> .inr e.2)
   have hbnd:D.length+X1.length≤140737488355328:=by have h1:=Hln.out;have h2:=HRl.out;have h3:=Hn.out;have h4:=hN.out;simp only [List.length_nil]at h1;omega
   have c3:=hbl.cell 3 _ rfl
   have f3:=hbl.frozen 3
   have hm:=L.m ⟨h,0,none⟩
   have hnn:=L.n ⟨h,0,none⟩
   have hee:=L.e
   have hcx:(cvx:Value).ownBlock≠some c:=fun e=>by
    rcases(hclt c e).1 with e2|e2
    ·exact hcc e2
    ·omega
   have c0:=hbl.cell 0 _ rfl
   clear r hrd3
   cases wr0 with
   |true=>
    have hw:=L.write wr h o D _ X1 hskr hrc hcond hbnd hown
    rw [←hn1.out]at hw
    have hwn:(!(D++X1).isEmpty)=true:=by
     have:=hwr0.out
     cases D with|nil=>simp at this|cons a r=>rfl
    go_wp2_with fail
    refine hw.mono ?_
    rintro e w9 ⟨rfl,⟨o9,hsk9,ho9⟩,hF9⟩
    have hb9:=hbl
    have hu9:=hbuf
    have hB9:Below B w wr:=hFw.below (fun k _ e=>by rcases e with e|e;rw [e];exact hBc;exact(hcvlt k e.symm).1) hB
    have hs9:w2.heap.size≤wr.heap.size:=hsw
    have hblt:=hu9.lt
    have hb10:=hb9.frm hF9 (fun e=>e.elim hch (fun e=>hoc e.symm))
    have hu10:=hu9.frm hF9 (fun k hk e=>by
     rcases(hclt k hk).1 with e2|e2
     ·rcases e with e|e
      ·exact hcvh (by rw [e2,e])
      ·exact hcvo k e2 e.symm
     ·rcases e with e|e
      ·omega
      ·have:=(hsk2 k e.symm).1;omega)
    go_wp2
    go_ret2
    refine⟨rfl,⟨o9,cvx,hBc,hBh,fun k e=> ?_,hch,fun e=> ?_,?_,by rw [Hrw.out];exact hu10,fun e=> ?_,fun k hk e=> ?_,by rw [Hrw.out];exact hsk9⟩,hB9.trans (hF9.below (fun k _ e=>by rcases e with e|e;rw [e];exact hBh;exact hBo k e.symm) (by omega))⟩
    ·rcases ho9 k e with e|e
     ·exact hBo k e
     ·omega
    ·rcases ho9 c e with e|e
     ·exact hoc e
     ·omega
    ·rw [Hrw.out,hcrn.out]
     show Blk w9 c 365 [_,cvx, .bool X2, .bool (!(D++X1).isEmpty), .bool cr2]
     rw [hwn];exact hb10
    ·rcases(hclt h e).1 with e2|e2
     ·exact hcvh e2
     ·omega
    ·have hk3:=(hblt k hk).2
     rcases ho9 k e with e3|e3
     ·rcases(hclt k hk).1 with e2|e2
      ·exact hcvo k e2 e3
      ·have:=(hsk2 k e3).1;omega
     ·omega
   |false=>
    by_cases hX1:X1= []
    ·subst hX1
     have hn10:n1=0:=hn1.out
     subst hn10
     have hw:=L.write wr h o D _ [] hskr hrc hcond hbnd hown
     have hwn:(!(D++ []).isEmpty)=false:=by rw [List.append_nil];exact hwr0.out.symm
     go_wp2_with fail
     refine hw.mono ?_
     rintro e w9 ⟨rfl,⟨o9,hsk9,ho9⟩,hF9⟩
     have hb9:=hbl
     have hu9:=hbuf
     have hB9:Below B w wr:=hFw.below (fun k _ e=>by rcases e with e|e;rw [e];exact hBc;exact(hcvlt k e.symm).1) hB
     have hs9:w2.heap.size≤wr.heap.size:=hsw
     have hblt:=hu9.lt
     have hb10:=hb9.frm hF9 (fun e=>e.elim hch (fun e=>hoc e.symm))
     have hu10:=hu9.frm hF9 (fun k hk e=>by
      rcases(hclt k hk).1 with e2|e2
      ·rcases e with e|e
       ·exact hcvh (by rw [e2,e])
       ·exact hcvo k e2 e.symm
      ·rcases e with e|e
       ·omega
       ·have:=(hsk2 k e.symm).1;omega)
     go_wp2
     go_ret2
     refine⟨rfl,⟨o9,cvx,hBc,hBh,fun k e=> ?_,hch,fun e=> ?_,?_,by rw [Hrw.out];exact hu10,fun e=> ?_,fun k hk e=> ?_,by rw [Hrw.out];exact hsk9⟩,hB9.trans (hF9.below (fun k _ e=>by rcases e with e|e;rw [e];exact hBh;exact hBo k e.symm) (by omega))⟩
     ·rcases ho9 k e with e|e
      ·exact hBo k e
      ·omega
     ·rcases ho9 c e with e|e
      ·exact hoc e
      ·omega
     ·rw [Hrw.out,hcrn.out]
      show Blk w9 c 365 [_,cvx, .bool X2, .bool (!(D++ []).isEmpty), .bool cr2]
      rw [hwn];exact hb10
     ·rcases(hclt h e).1 with e2|e2
      ·exact hcvh e2
      ·omega
     ·have hk3:=(hblt k hk).2
      rcases ho9 k e with e3|e3
      ·rcases(hclt k hk).1 with e2|e2
       ·exact hcvo k e2 e3
       ·have:=(hsk2 k e3).1;omega
      ·omega
    ·have hn10:0<n1:=by rw [hn1.out];exact List.length_pos_iff.2 hX1
     have hn1i:(0:Int)<(n1:Int):=by omega
     have hwn:(!(D++X1).isEmpty)=true:=by cases X1 with|nil=>exact absurd rfl hX1|cons a r=>cases D<;>rfl
     have hb9:=hbl.set 3 (.bool true)
     have hFc:=(Frm.refl (fun j=>j=c) wr).setCell ⟨c,3,none⟩ (.bool true) (fun _=>rfl)
     have hu9:=hbuf.frm hFc (fun k hk e=>hcx (by rw [hk,e]))
     have hrc9:=hrc.frm hFc (fun k hk e=>by have:=hvlt k hk;omega)
     have hsk9':=L.frm _ _ _ _ _ _ hskr hFc (fun e=>hch e.symm) (fun k hk e=>hoc (by rw [hk,e]))
     have hB9:Below B w (wr.setCell ⟨c,3,none⟩ (.bool true)):=(hFw.setCell ⟨c,3,none⟩ (.bool true) (fun _=> .inl rfl)).below (fun k _ e=>by rcases e with e|e;rw [e];exact hBc;exact(hcvlt k e.symm).1) hB
     have hs9:w2.heap.size≤(wr.setCell ⟨c,3,none⟩ (.bool true)).heap.size:=by rw [szC];exact hsw
     have hs8:(wr.setCell ⟨c,3,none⟩ (.bool true)).heap.size=wr.heap.size:=szC _ _ _
     have hw:=L.write _ h o D _ X1 hsk9' hrc9 hcond hbnd hown
     rw [←hn1.out]at hw
     go_wp2_with fail
     refine hw.mono ?_
     generalize wr.setCell ⟨c,3,none⟩ (.bool true)=wr at*
     rintro e w9 ⟨rfl,⟨o9,hsk9,ho9⟩,hF9⟩
     have hblt:=hu9.lt
     have hb10:=hb9.frm hF9 (fun e=>e.elim hch (fun e=>hoc e.symm))
     have hu10:=hu9.frm hF9 (fun k hk e=>by
      rcases(hclt k hk).1 with e2|e2
      ·rcases e with e|e
       ·exact hcvh (by rw [e2,e])
       ·exact hcvo k e2 e.symm
      ·rcases e with e|e
       ·omega
       ·have:=(hsk2 k e.symm).1;omega)
     go_wp2
     go_ret2
     refine⟨rfl,⟨o9,cvx,hBc,hBh,fun k e=> ?_,hch,fun e=> ?_,?_,by rw [Hrw.out];exact hu10,fun e=> ?_,fun k hk e=> ?_,by rw [Hrw.out];exact hsk9⟩,hB9.trans (hF9.below (fun k _ e=>by rcases e with e|e;rw [e];exact hBh;exact hBo k e.symm) (by omega))⟩
     ·rcases ho9 k e with e|e
      ·exact hBo k e
      ·omega
     ·rcases ho9 c e with e|e
      ·exact hoc e
      ·omega
     ·rw [Hrw.out,hcrn.out]
      show Blk w9 c 365 [_,cvx, .bool X2, .bool (!(D++X1).isEmpty), .bool cr2]
      rw [hwn];exact hb10
     ·rcases(hclt h e).1 with e2|e2
      ·exact hcvh e2
      ·omega
     ·have hk3:=(hblt k hk).2
      rcases ho9 k e with e3|e3
      ·rcases(hclt k hk).1 with e2|e2
       ·exact hcvo k e2 e3
       ·have:=(hsk2 k e3).1;omega
      ·omega
def DigSk (s:St8)(B:Nat)(w:World)(h:Nat)(o:Option Nat)(acc:BS):Prop:=
 ∃bv,Blk w h 270 (s.vals++ [bv])∧OwnAt w B 5 bv (byts acc)∧o=bv.ownBlock∧B≤h
theorem dig_law (s:St8)(B:Nat):SnkLaw 226 126 true (DigSk s B) where
 m:=m226_Write
 n:=n226_Write
 e:=fun args w=>by kernel_rfl
 lt:=by
  rintro w h o acc ⟨bv,h1,h2,rfl,h3⟩
  exact⟨h1.lt,fun k hk=>⟨(h2.lt k hk).2,fun e=>own_blk h2 h1 (by decide) (by rw [hk,e])⟩⟩
 frm:=by
  rintro S w w' h o acc ⟨bv,h1,h2,rfl,h3⟩ hF hh ho
  exact⟨bv,h1.frm hF hh,h2.frm hF ho,rfl,h3⟩
 write:=by
  rintro w h o acc v l ⟨bv,h1,h2,rfl,h3⟩ hv _ hn ho
  refine(digWrite_any h B s bv v acc l w h1 h2 hv hn (by have:=h1.lt;omega)).mono ?_
  rintro e w' ⟨rfl,⟨bv',g1,g2,g3⟩,hF⟩
  exact⟨rfl,⟨_,⟨bv',g1,g2,rfl,h3⟩,fun k hk=>by rcases g3 with e|e;exact .inl (by rw [←e];exact hk);exact .inr (by rw [e]at hk;injection hk with hk;omega)⟩,hF⟩
def BufSk (w:World)(h:Nat)(o:Option Nat)(acc:BS):Prop:=
 ∃bv lr,Blk w h 112 [bv, .int .i64 0, .int .i8 lr]∧BufV w bv acc∧o=bv.ownBlock∧bv.ownBlock≠some h
theorem BufV.lt {w:World} {v:Value} {acc:BS} (h:BufV w v acc): ∀k,v.ownBlock=some k→k<w.heap.size:=by
 rcases h with⟨rfl,_⟩|⟨r,cs,_,rfl,hr,_⟩
 ·intro k hk;simp [Value.ownBlock]at hk
 ·intro k hk;have:r=k:=Option.some.inj hk;subst this;exact hr.lt
theorem BufV.frm {S:Nat→Prop} {w w':World} {v:Value} {acc:BS} (h:BufV w v acc)(hF:Frm S w w')(hS: ∀k,v.ownBlock=some k→¬S k):BufV w' v acc:=by
 rcases h with h|⟨r,cs,h1,rfl,hr,h2⟩
 ·exact .inl h
 ·exact .inr ⟨r,cs,h1,rfl,hr.frm hF (hS r rfl),h2⟩
theorem buf_law:SnkLaw 116 243 false BufSk where
 m:=m116_Write
 n:=n116_Write
 e:=fun args w=>by kernel_rfl
 lt:=by
  rintro w h o acc ⟨bv,lr,h1,h2,rfl,h3⟩
  exact⟨h1.lt,fun k hk=>⟨h2.lt k hk,fun e=>h3 (by rw [hk,e])⟩⟩
 frm:=by
  rintro S w w' h o acc ⟨bv,lr,h1,h2,rfl,h3⟩ hF hh ho
  exact⟨bv,lr,h1.frm hF hh,h2.frm hF ho,rfl,h3⟩
 write:=by
  rintro w h o acc v l ⟨bv,lr,h1,h2,rfl,h3⟩ hv ha hn ho
  refine(bufWrite_any h 0 112 _ bv v acc l lr w h1 rfl rfl rfl h2 h3 hv (fun k hk e=> ?_) hn (ha.resolve_left (by decide))).mono ?_
  ·rcases e with e|e
   ·exact(ho k hk).1 e
   ·exact(ho k hk).2 e.symm
  ·rintro e w' ⟨rfl,v',g1,g2,g3,g4,hF⟩
   exact⟨rfl,⟨_,⟨v',0,g4,g1,rfl,g2⟩,fun k hk=>g3 k hk⟩,hF⟩
end Go.Proofs.YtgilnagajcfkpaaGreatDoor
