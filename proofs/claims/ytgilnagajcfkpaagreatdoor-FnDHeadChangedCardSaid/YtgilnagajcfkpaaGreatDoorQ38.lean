import Derived.Test.YtgilnagajcfkpaaGreatDoorQ36
set_option maxHeartbeats 4000000
set_option maxRecDepth 1000000
set_option linter.all false
namespace Go.Proofs.YtgilnagajcfkpaaGreatDoor
open Go.RowKit
structure SnkLaw (wt fn:Nat)(any:Bool)(Sk:World→Nat→Option Nat→BS→Prop):Prop where
 m: ∀(a:Addr) (w:World),(method 486 wt (.pointer (some a)) "Write").run Tryz.prog w= .ok (fn, .pointer (some a)) w
 n: ∀(a:Addr) (w:World),(nilAhead 486 wt (.pointer (some a)) "Write").run Tryz.prog w= .ok (some false) w
 e: ∀(args:Array Value) (w:World),(callFunc fn args).run Tryz.prog w= .ok (.enter fn args) w
 lt: ∀w h o acc,Sk w h o acc→h<w.heap.size∧∀k,o=some k→k<w.heap.size∧k≠h
 frm: ∀(S:Nat→Prop) w w' h o acc,Sk w h o acc→Frm S w w'→¬S h→(∀k,o=some k→¬S k)→Sk w' h o acc
 write: ∀w h o acc v l,Sk w h o acc→Rd w v (byts l)→(any=true∨l≠ []∨acc= [])→acc.length+l.length≤140737488355328→(∀k,v.ownBlock=some k→k≠h∧o≠some k)→
  Calls Tryz.prog fn #[.pointer (some ⟨h,0,none⟩),v] w fun e w'=>e= .returned (.tuple #[.int .i64 l.length, .nilIface])∧(∃o',Sk w' h o' (acc++l)∧∀k,o'=some k→o=some k∨w.heap.size≤k)∧Frm (fun k=>k=h∨some k=o) w w'
def SimAt (Sk:World→Nat→Option Nat→BS→Prop)(wt B:Nat)(w:World)(c h:Nat)(acc:BS):Prop:=
 ∃o cv,B≤c∧B≤h∧(∀k,o=some k→B≤k)∧c≠h∧o≠some c∧Blk w c 362 [.iface wt (.pointer (some ⟨h,0,none⟩)),cv, .bool (eFr false acc).2]∧OwnAt w B 5 cv (byts (simC acc))∧cv.ownBlock≠some h∧(∀k,cv.ownBlock=some k→o≠some k)∧Sk w h o (simD (ended acc))
theorem sliced0 (A:Option Addr)(lo n c:Nat):Go.sliced A lo n c 1= .slice (if c=lo then A else A.map fun x=>x.add lo) (n-lo) (c-lo):=by
 unfold Go.sliced;simp
theorem add_zero_at (a:Addr):a.add 0=a:=by unfold Addr.add;split<;>simp_all
theorem byts_take (l:BS)(n:Nat):byts (l.take n)=(byts l).take n:=by simp [byts,List.map_take]
theorem byts_part (l:BS)(e n:Nat)(h:l.length=n):((byts l).drop e).take (n-e)=byts (l.drop e):=by
 rw [List.take_of_length_le (by rw [List.length_drop,byL];omega)];simp [byts,List.map_drop]
theorem take2 (l:BS)(k:Nat)(h:k+1<l.length):l.take (k+2)=l.take k++ [l[k],l[k+1]]:=by
 rw [List.take_add_one,List.take_add_one,List.getElem?_eq_getElem (by omega),List.getElem?_eq_getElem h];simp only [Option.toList_some,List.append_assoc];rfl
theorem sim_fin (Bt:BS)(e:Nat)(he:e≤Bt.length)(hD:noEnds (Bt.take e)=simD Bt)(hx: ∀k (h:k+1<Bt.length),e=k+2→¬(Bt[k]=13∧Bt[k+1]=10)):Bt.take e=simD Bt∧e=(simD Bt).length:=by
 have h1:noEnds (Bt.take e)=Bt.take e:=by
  refine noEnds_keep _ (fun p hp=> ?_)
  have hl:=congrArg List.length hp
  rw [List.length_take,Nat.min_eq_left he,List.length_append]at hl
  simp only [List.length_cons,List.length_nil]at hl
  have hk:p.length+1<Bt.length:=by omega
  refine hx p.length hk (by omega) ?_
  have e2:e=p.length+2:=by omega
  rw [e2,take2 _ _ hk]at hp
  have:=List.append_inj_right' hp rfl
  simp at this
  exact this
 rw [h1]at hD
 exact⟨hD,by rw [←hD,List.length_take,Nat.min_eq_left he]⟩
def SimPost (Sk:World→Nat→Option Nat→BS→Prop)(wt B:Nat)(w:World)(c h n:Nat)(acc':BS)(e:Ending)(w':World):Prop:=
 e= .returned (.tuple #[.int .i64 n, .nilIface])∧SimAt Sk wt B w' c h acc'∧Below B w w'
theorem simWrite_any {wt fn:Nat} {any:Bool} {Sk:World→Nat→Option Nat→BS→Prop} (L:SnkLaw wt fn any Sk)(B c h:Nat)(acc l:BS)(pv:Value)(w:World)(hs:SimAt Sk wt B w c h acc)(hp:Rd w pv (byts l))(hn:acc.length+l.length≤274877906944):
 Calls Tryz.prog 288 #[.pointer (some ⟨c,0,none⟩),pv] w (SimPost Sk wt B w c h l.length (acc++l)):=by
 obtain⟨o,cv,hBc,hBh,hBo,hch,hoc,hc,hcv,hcvh,hcvo,hsk⟩:=hs
 obtain⟨hw1,hw2,hw3,hw4⟩:=sim_write acc l
 obtain⟨A,pc,rfl,hpc⟩: ∃A pc,pv= .slice A l.length pc∧True:=by obtain⟨A,pc,e,_⟩:=hp;exact⟨A,pc,by rw [e,byL],trivial⟩
 have hlC:(simC acc).length+l.length≤549755813888:=by
  have h1:(simC acc).length≤(ended acc).length:=by unfold simC;simp
  have h2:=ended_len false acc
  have h3:(ended acc).length≤2*acc.length:=h2
  omega
 have hcc:=own_blk hcv hc (by decide)
 have c1:=hc.cell 1 _ rfl
 have hcl:=hc.lt
 have hB:B≤w.heap.size:=by omega
 have hsD:(simD (ended acc)).length≤2*acc.length:=Nat.le_trans (simD_le _) (ended_len false acc)
 obtain⟨hsk1,hsk2⟩:=L.lt _ _ _ _ hsk
 generalize hcr:(eFr false acc).2=cr at*
 generalize hC:simC acc=C at*
 obtain⟨D,hD⟩: ∃D,Hid (D=simD (ended acc)):=⟨_,Lib.hid rfl⟩
 rw [←hD.out]at hw1 hw3 hsk hsD
 go_enter Tryz.func288,Tryz.ntmps288
 go_wp2_with (at_builtin;refine appB (v:=cv) rfl (.tmp 16) (.tmp 17) 22 (.inl rfl) rfl C l rfl hcv rfl (Src.rd hp (byts_one l)) (by omega) hB ?_;intro v1 w1 ho1 hg1 hb1 hat1)
 have hF1:Frm (fun k=>some k=cv.ownBlock) w w1:=Frm.of_grown hg1
 have hc1:Blk w1 c 362 _:=hc.frm hF1 (fun e=>hcc e.symm)
 have hsk':=L.frm _ _ _ _ _ _ hsk hF1 (fun e=>hcvh e.symm) (fun k hk e=>hcvo k e.symm hk)
 have hv1:v1.ownBlock≠some c:=by
  rcases hat1 with e|e
  ·rw [e];exact hcc
  ·rw [e];intro e2;injection e2 with e2;omega
 have hel:=ended_len cr (C++l)
 rw [List.length_append]at hel
 have hbd:(C++l).length≤549755813888:=by rw [List.length_append];exact hlC
 refine(fix_any c 2 362 _ cr v1 (C++l) w1 hc1 rfl ho1.rd hv1 (by omega)).mono ?_
 rintro e w2 ⟨v2,rfl,ho2,hc2,hF2⟩
 generalize hE:eFr cr (C++l)=E at*
 obtain⟨Bt,cr2⟩:=E
 simp only at hw1 hw2 hw3 hw4 ho2 hc2 hel
 obtain⟨A2,p2,rfl⟩:=ho2.form
 rw [byL]at ho2⊢
 obtain⟨N,hN⟩: ∃N,Hid (N=Bt.length):=⟨_,Lib.hid rfl⟩
 rw [←hN.out]at ho2⊢
 have c1':=hc2.cell 1 _ rfl
 have f1':=hc2.frozen 1
 have hN0:(0:Int)≤(N:Int):=by omega
 have hN1:(N:Int)≤1099511627776:=by have:=hN.out;omega
 have Hw1:=Lib.hid hw1;have Hw2:=Lib.hid hw2;have Hw3:=Lib.hid hw3;have Hw4:=Lib.hid hw4;have Hel:=Lib.hid hel;have HlC:=Lib.hid hlC;have Hn:=Lib.hid hn;have HsD:=Lib.hid hsD
 clear c1 hcv ho1 hsk hc hc1 hp hw1 hw2 hw3 hw4 hel hE hlC hn hsD hbd hC hcr
 by_cases hz:N=0
 ·subst hz
  have hBt:Bt= []:=List.eq_nil_of_length_eq_zero hN.out.symm
  have hBl0:Bt.length=0:=hN.out.symm
  go_wp2_with fail
  go_loopw [7] (fun x wx=> ∃e:Nat,e≤0∧x= .int .i64 e∧Hid (noEnds (Bt.take e)=simD Bt)∧wx=w2) (fun x _=>(intOf x).toNat)
  case atStart=>exact⟨0,Nat.le_refl _,rfl,Lib.hid (by rw [hBt];rfl),rfl⟩
  case round=>
   obtain⟨e,hek,rfl,HD,rfl⟩:=hrel
   obtain rfl:e=0:=by omega
   by_cases h2:0<2
   ·have hi2: ¬((2:Int)≤((0:Nat):Int)):=by omega
    have HX: ∀k (h:k+1<Bt.length),0=k+2→¬(Bt[k]=13∧Bt[k+1]=10):=fun k h hk=>by omega
    have HX:=Lib.hid HX
    go_wp2_with fail
    obtain⟨HT,HL⟩:=sim_fin Bt (0) (by rw [←hN.out];exact hek) HD.out HX.out
    have hV:=ho2.sliced (0) (0) hek (Nat.le_refl _)
    rw [sliced0,show((byts Bt).drop (0)).take (0-(0))=byts (simC (acc++l)) by rw [Hw4.out,←HL];exact byts_part Bt (0) (0) hN.out.symm]at hV
    rw [show(if p2=0 then A2 else A2.map fun x=>x.add 0)=A2 by split;rfl;cases A2 with|none=>rfl|some a=>exact congrArg some (add_zero_at a),Nat.sub_zero,Nat.sub_zero]at hV
    have hVlt:=hV.lt
    obtain⟨V,hVe⟩: ∃V:Value,Hid (V= .slice A2 0 p2):=⟨_,Lib.hid rfl⟩
    rw [←hVe.out]at hV hVlt
    rw [←hVe.out]
    have hB1:=hb1.size
    have hc3:=hc2.set 1 V
    have hF3:=Frm.setCell (S:=(· =c)) hF2 ⟨c,1,none⟩ V (fun _=>rfl)
    have hV3:=hV.frm (S:=(· =c)) ((Frm.refl _ wr).setCell ⟨c,1,none⟩ V (fun _=>rfl)) (fun k hk e=>by have:=(hVlt k hk).1;omega)
    have hV3:=hV3.mono (B':=B) (by omega)
    generalize wr.setCell ⟨c,1,none⟩ V=w3 at*
    have hsk3:=L.frm _ _ _ _ _ _ hsk' hF3 (fun e=>hch e.symm) (fun k hk e=>hoc (by rw [hk,e]))
    have hs0:simD Bt= []:=List.eq_nil_of_length_eq_zero HL.symm
    go_ret2
    exact⟨rfl,⟨o,V,hBc,hBh,hBo,hch,hoc,by rw [←Hw2.out];exact hc3,hV3,fun e=>by have:=(hVlt h e).1;omega,fun k hk e=>by have:=(hVlt k hk).1;have:=(hsk2 k e).1;omega,by rw [Hw3.out,hs0,List.append_nil];exact hsk3⟩,hb1.trans (hF3.below (fun k _ e=>by rw [e];exact hBc) (by omega))⟩
   ·exact absurd hek (by omega)
 ·obtain⟨m,rfl⟩: ∃m,N=m+1:=⟨N-1,by omega⟩
  have hml:m<Bt.length:=by rw [←hN.out];omega
  obtain⟨g2,off,q2,he⟩:=ho2.form_some (by intro e;have:=congrArg List.length e;rw [byL,←hN.out]at this;simp at this)
  injection he with he1 he3 he2
  subst he1
  clear he2 he3
  have hcell: ∀k (hk:k<Bt.length),w2.cell? ⟨g2,off+k,none⟩=some (.int .u8 Bt[k].toNat):=fun k hk=>(ho2.cell_at k _ (by simp [byts,hk])).1
  have hlast:=hcell m hml
  have HC:=Lib.hid hcell
  clear hcell
  have hm2:m+1≤p2:=ho2.len_at.2.1
  have m0:(0:Int)≤(m:Int):=by omega
  have m1:(m:Int)≤1099511627776:=by omega
  clear hN0 hN1
  have hBl:Bt≠ []:=by rintro rfl;simp at hml
  have hgl:Bt.getLast?=some Bt[m]:=by
   rw [List.getLast?_eq_getElem?,←hN.out];simp [hml]
  by_cases h13:Bt[m]=13
  ·have z1:((Bt[m].toNat:Int)==13)=true:=bT h13
   have HS:Hid (noEnds (Bt.take m)=simD Bt):=by
    show _=_
    unfold simD unCR
    rw [if_pos (by rw [hgl,h13]),List.dropLast_eq_take,←hN.out];rfl
   clear hgl
   go_wp2_with fail
   go_loopw [7] (fun x wx=> ∃e:Nat,e≤m+1∧x= .int .i64 e∧Hid (noEnds (Bt.take e)=simD Bt)∧wx=w2) (fun x _=>(intOf x).toNat)
   case atStart=>exact⟨m,by omega,rfl,HS,rfl⟩
   case round=>
    obtain⟨e,hek,rfl,HD,rfl⟩:=hrel
    by_cases h2:e<2
    ·have HX: ∀k (h:k+1<Bt.length),e=k+2→¬(Bt[k]=13∧Bt[k+1]=10):=fun k h hk=>by omega
     have HX:=Lib.hid HX
     by_cases he0:e=0
     ·subst he0
      have hi2: ¬((2:Int)≤((0:Nat):Int)):=by omega
      have hpe: ¬p2=0:=by omega
      go_wp2_with fail
      obtain⟨HT,HL⟩:=sim_fin Bt (0) (by rw [←hN.out];exact hek) HD.out HX.out
      have hV:=ho2.sliced (0) (m+1) hek (Nat.le_refl _)
      rw [sliced0,show((byts Bt).drop (0)).take (m+1-(0))=byts (simC (acc++l)) by rw [Hw4.out,←HL];exact byts_part Bt (0) (m+1) hN.out.symm]at hV
      rw [if_neg hpe,Option.map_some,add_at,Nat.add_zero,Nat.sub_zero,Nat.sub_zero]at hV
      have hVlt:=hV.lt
      obtain⟨V,hVe⟩: ∃V:Value,Hid (V= .slice (some ⟨g2,off,none⟩) (m+1) p2):=⟨_,Lib.hid rfl⟩
      rw [←hVe.out]at hV hVlt
      rw [←hVe.out]
      have hB1:=hb1.size
      have hc3:=hc2.set 1 V
      have hF3:=Frm.setCell (S:=(· =c)) hF2 ⟨c,1,none⟩ V (fun _=>rfl)
      have hV3:=hV.frm (S:=(· =c)) ((Frm.refl _ wr).setCell ⟨c,1,none⟩ V (fun _=>rfl)) (fun k hk e=>by have:=(hVlt k hk).1;omega)
      have hV3:=hV3.mono (B':=B) (by omega)
      generalize wr.setCell ⟨c,1,none⟩ V=w3 at*
      have hsk3:=L.frm _ _ _ _ _ _ hsk' hF3 (fun e=>hch e.symm) (fun k hk e=>hoc (by rw [hk,e]))
      have hs0:simD Bt= []:=List.eq_nil_of_length_eq_zero HL.symm
      go_ret2
      exact⟨rfl,⟨o,V,hBc,hBh,hBo,hch,hoc,by rw [←Hw2.out];exact hc3,hV3,fun e=>by have:=(hVlt h e).1;omega,fun k hk e=>by have:=(hVlt k hk).1;have:=(hsk2 k e).1;omega,by rw [Hw3.out,hs0,List.append_nil];exact hsk3⟩,hb1.trans (hF3.below (fun k _ e=>by rw [e];exact hBc) (by omega))⟩
     ·obtain rfl:e=1:=by omega
      have hi2: ¬((2:Int)≤((1:Nat):Int)):=by omega
      have x1:(1:Int)≤(p2:Int):=by omega
      have x2:1≤p2:=by omega
      by_cases hpe:p2=1
      ·subst hpe
       obtain rfl:m=0:=by omega
       clear m0 m1 x1 x2
       go_wp2_with fail
       obtain⟨HT,HL⟩:=sim_fin Bt (1) (by rw [←hN.out];exact hek) HD.out HX.out
       have hV:=ho2.sliced (1) (0+1) hek (Nat.le_refl _)
       rw [sliced0,show((byts Bt).drop (1)).take (0+1-(1))=byts (simC (acc++l)) by rw [Hw4.out,←HL];exact byts_part Bt (1) (0+1) hN.out.symm]at hV
       rw [if_pos rfl,show 0+1-(1)=0 by omega]at hV;try rw [show(1)-(1)=0 by omega]at hV
       have hVlt:=hV.lt
       obtain⟨V,hVe⟩: ∃V:Value,Hid (V= .slice (some ⟨g2,off,none⟩) 0 0):=⟨_,Lib.hid rfl⟩
       rw [←hVe.out]at hV hVlt
       rw [←hVe.out]
       have hB1:=hb1.size
       have hc3:=hc2.set 1 V
       have hF3:=Frm.setCell (S:=(· =c)) hF2 ⟨c,1,none⟩ V (fun _=>rfl)
       have hV3:=hV.frm (S:=(· =c)) ((Frm.refl _ wr).setCell ⟨c,1,none⟩ V (fun _=>rfl)) (fun k hk e=>by have:=(hVlt k hk).1;omega)
       have hV3:=hV3.mono (B':=B) (by omega)
       have hP:=ho2.rd.sliced 0 (1) (Nat.zero_le _) hek
       rw [sliced0,if_neg (show¬(1)=0 by omega),Option.map_some,add_at,Nat.add_zero,Nat.sub_zero,show((byts Bt).drop 0).take (1)=byts (simD Bt) by rw [List.drop_zero,←HT];exact(byts_take _ _).symm]at hP
       have hgg:w1.heap.size≤g2:=ho2.len_at.2.2.1
       have hP:=hP.frm (S:=(· =c)) ((Frm.refl _ wr).setCell ⟨c,1,none⟩ V (fun _=>rfl)) (fun k hk e=>by have hk:g2=k:=Option.some.inj hk;omega)
       have hsz3:wr.heap.size≤(wr.setCell ⟨c,1,none⟩ V).heap.size:=by rw [szC];exact Nat.le_refl _
       generalize wr.setCell ⟨c,1,none⟩ V=w3 at*
       have hsk3:=L.frm _ _ w3.drew _ _ _ hsk' hF3.drew (fun e=>hch e.symm) (fun k hk e=>hoc (by rw [hk,e]))
       have hne:simD Bt≠ []:=by rintro e;rw [e]at HL;simp at HL
       have hw:=L.write w3.drew h o D _ (simD Bt) hsk3 (show Rd w3.drew _ _ from hP) (.inr (.inl hne)) (by have:=simD_le Bt;have:=Hel.out;have:=HlC.out;have:=HsD.out;have:=Hn.out;omega) (fun k hk=>by have hk:g2=k:=Option.some.inj hk;exact⟨by omega,fun e=>by have:=(hsk2 k e).1;omega⟩)
       rw [←HL]at hw
       have hm:=L.m ⟨h,0,none⟩
       have hnn:=L.n ⟨h,0,none⟩
       have hee:=L.e
       have c0:w3.cell? ⟨c,0,none⟩=some (.iface wt (.pointer (some ⟨h,0,none⟩))):=hc3.cell 0 _ rfl
       clear HT HL HD HX hc2 c1' f1'
       go_region_held3 (fun ww=>ww.cell? ⟨c,0,none⟩=some (.iface wt (.pointer (some ⟨h,0,none⟩))))
        (first|go_keep|(exact frC hF4 (p:=⟨c,0,none⟩) c0 (fun e=>e.elim hch (fun e=>hoc e.symm))))
        (first|(go_at_fn fn;refine hw.mono ?_;rintro e w4 ⟨rfl,⟨o4,hsk4,ho4⟩,hF4⟩))
       have hs3:w1.heap.size≤w3.heap.size:=hF3.size
       have hc4:=Blk.frm (w:=w3.drew) hc3 hF4 (fun e=>e.elim hch (fun e=>hoc e.symm))
       have hV4:=OwnAt.frm (w:=w3.drew) hV3 hF4 (fun k hk e=>by have h1:=(hVlt k hk).1;rcases e with e|e;omega;have:=(hsk2 k e.symm).1;omega)
       have hBf:=hb1.trans ((hF3.drew.below (fun k _ e=>by rw [e];exact hBc) (by omega)).trans (Frm.below (w:=w3.drew) hF4 (fun k _ e=>by rcases e with e|e;rw [e];exact hBh;exact hBo k e.symm) (by show B≤w3.heap.size;omega)))
       go_wp2
       go_ret2
       exact⟨rfl,⟨o4,V,hBc,hBh,fun k e=>by rcases ho4 k e with e|e;exact hBo k e;exact Nat.le_trans (show B≤w3.heap.size by omega) e,hch,fun e=>by rcases ho4 c e with e|e;exact hoc e;exact absurd (show w3.heap.size≤c from e) (by omega),by rw [←Hw2.out];exact hc4,hV4,fun e=>by have:=(hVlt h e).1;omega,fun k hk e=>by have h1:=hVlt k hk;rcases ho4 k e with e|e;have:=(hsk2 k e).1;omega;exact absurd (show w3.heap.size≤k from e) (by omega),by rw [Hw3.out];exact hsk4⟩,hBf⟩
      ·go_wp2_with fail
       obtain⟨HT,HL⟩:=sim_fin Bt (1) (by rw [←hN.out];exact hek) HD.out HX.out
       have hV:=ho2.sliced (1) (m+1) hek (Nat.le_refl _)
       rw [sliced0,show((byts Bt).drop (1)).take (m+1-(1))=byts (simC (acc++l)) by rw [Hw4.out,←HL];exact byts_part Bt (1) (m+1) hN.out.symm]at hV
       rw [if_neg hpe,Option.map_some,add_at]at hV;rw [show m+1-(1)=m by omega]at hV
       have hVlt:=hV.lt
       obtain⟨V,hVe⟩: ∃V:Value,Hid (V= .slice (some ⟨g2,off+(1),none⟩) m (p2-(1))):=⟨_,Lib.hid rfl⟩
       rw [←hVe.out]at hV hVlt
       rw [←hVe.out]
       have hB1:=hb1.size
       have hc3:=hc2.set 1 V
       have hF3:=Frm.setCell (S:=(· =c)) hF2 ⟨c,1,none⟩ V (fun _=>rfl)
       have hV3:=hV.frm (S:=(· =c)) ((Frm.refl _ wr).setCell ⟨c,1,none⟩ V (fun _=>rfl)) (fun k hk e=>by have:=(hVlt k hk).1;omega)
       have hV3:=hV3.mono (B':=B) (by omega)
       have hP:=ho2.rd.sliced 0 (1) (Nat.zero_le _) hek
       rw [sliced0,if_neg (show¬p2=0 by omega),Option.map_some,add_at,Nat.add_zero,Nat.sub_zero,Nat.sub_zero,show((byts Bt).drop 0).take (1)=byts (simD Bt) by rw [List.drop_zero,←HT];exact(byts_take _ _).symm]at hP
       have hgg:w1.heap.size≤g2:=ho2.len_at.2.2.1
       have hP:=hP.frm (S:=(· =c)) ((Frm.refl _ wr).setCell ⟨c,1,none⟩ V (fun _=>rfl)) (fun k hk e=>by have hk:g2=k:=Option.some.inj hk;omega)
       have hsz3:wr.heap.size≤(wr.setCell ⟨c,1,none⟩ V).heap.size:=by rw [szC];exact Nat.le_refl _
       generalize wr.setCell ⟨c,1,none⟩ V=w3 at*
       have hsk3:=L.frm _ _ w3.drew _ _ _ hsk' hF3.drew (fun e=>hch e.symm) (fun k hk e=>hoc (by rw [hk,e]))
       have hne:simD Bt≠ []:=by rintro e;rw [e]at HL;simp at HL
       have hw:=L.write w3.drew h o D _ (simD Bt) hsk3 (show Rd w3.drew _ _ from hP) (.inr (.inl hne)) (by have:=simD_le Bt;have:=Hel.out;have:=HlC.out;have:=HsD.out;have:=Hn.out;omega) (fun k hk=>by have hk:g2=k:=Option.some.inj hk;exact⟨by omega,fun e=>by have:=(hsk2 k e).1;omega⟩)
       rw [←HL]at hw
       have hm:=L.m ⟨h,0,none⟩
       have hnn:=L.n ⟨h,0,none⟩
       have hee:=L.e
       have c0:w3.cell? ⟨c,0,none⟩=some (.iface wt (.pointer (some ⟨h,0,none⟩))):=hc3.cell 0 _ rfl
       clear HT HL HD HX hc2 c1' f1'
       go_region_held3 (fun ww=>ww.cell? ⟨c,0,none⟩=some (.iface wt (.pointer (some ⟨h,0,none⟩))))
        (first|go_keep|(exact frC hF4 (p:=⟨c,0,none⟩) c0 (fun e=>e.elim hch (fun e=>hoc e.symm))))
        (first|(go_at_fn fn;refine hw.mono ?_;rintro e w4 ⟨rfl,⟨o4,hsk4,ho4⟩,hF4⟩))
       have hs3:w1.heap.size≤w3.heap.size:=hF3.size
       have hc4:=Blk.frm (w:=w3.drew) hc3 hF4 (fun e=>e.elim hch (fun e=>hoc e.symm))
       have hV4:=OwnAt.frm (w:=w3.drew) hV3 hF4 (fun k hk e=>by have h1:=(hVlt k hk).1;rcases e with e|e;omega;have:=(hsk2 k e.symm).1;omega)
       have hBf:=hb1.trans ((hF3.drew.below (fun k _ e=>by rw [e];exact hBc) (by omega)).trans (Frm.below (w:=w3.drew) hF4 (fun k _ e=>by rcases e with e|e;rw [e];exact hBh;exact hBo k e.symm) (by show B≤w3.heap.size;omega)))
       go_wp2
       go_ret2
       exact⟨rfl,⟨o4,V,hBc,hBh,fun k e=>by rcases ho4 k e with e|e;exact hBo k e;exact Nat.le_trans (show B≤w3.heap.size by omega) e,hch,fun e=>by rcases ho4 c e with e|e;exact hoc e;exact absurd (show w3.heap.size≤c from e) (by omega),by rw [←Hw2.out];exact hc4,hV4,fun e=>by have:=(hVlt h e).1;omega,fun k hk e=>by have h1:=hVlt k hk;rcases ho4 k e with e|e;have:=(hsk2 k e).1;omega;exact absurd (show w3.heap.size≤k from e) (by omega),by rw [Hw3.out];exact hsk4⟩,hBf⟩
    ·obtain⟨k,rfl⟩: ∃k,e=k+2:=⟨e-2,by omega⟩
     have hkl:k+1<Bt.length:=by rw [←hN.out];omega
     have hc1:=HC.out k (by omega)
     have hc2':=HC.out (k+1) hkl
     have k0:(0:Int)≤(k:Int):=by omega
     have k1:(k:Int)+1<(m:Int)+1:=by omega
     have k2:(k:Int)<(m:Int)+1:=by omega
     have k3:(k:Int)+2≤(p2:Int):=by omega
     have k4:k+2≤p2:=by omega
     have k5:k+2≤m+1:=by omega
     have k6:(0:Int)≤(k:Int)+2:=by omega
     have k7:(k:Int)≤1099511627776:=by omega
     have hstep:=take2 Bt k hkl
     by_cases z13:Bt[k]=13
     ·have y1:((Bt[k].toNat:Int) !=13)=false:=bneT (bT z13)
      by_cases z10:Bt[k+1]=10
      ·have y2:((Bt[k+1].toNat:Int) !=10)=false:=bneT (bT z10)
       have HDn:Hid (noEnds (Bt.take k)=simD Bt):=by
        show _=_;rw [←HD.out,hstep,z13,z10,noEnds_crlf]
       clear hstep HD
       go_wp2_with fail
       go_roundw
       case rel=>exact⟨k,by omega,by go_num,HDn,trivial⟩
       case measure=>simp only [intOf];omega
      ·have y2:((Bt[k+1].toNat:Int) !=10)=true:=bneF (bF z10)
       have HX: ∀k' (h:k'+1<Bt.length),k+2=k'+2→¬(Bt[k']=13∧Bt[k'+1]=10):=fun k' h hk=>by
        have:k'=k:=by omega
        subst this;exact fun e=>z10 e.2
       clear hstep
       have HX:=Lib.hid HX
       by_cases hpe:p2=k+2
       ·subst hpe
        obtain rfl:m=k+1:=by omega
        clear m0 m1 k1 k2 k3 k4 k5
        go_wp2_with fail
        obtain⟨HT,HL⟩:=sim_fin Bt (k+2) (by rw [←hN.out];exact hek) HD.out HX.out
        have hV:=ho2.sliced (k+2) (k+1+1) hek (Nat.le_refl _)
        rw [sliced0,show((byts Bt).drop (k+2)).take (k+1+1-(k+2))=byts (simC (acc++l)) by rw [Hw4.out,←HL];exact byts_part Bt (k+2) (k+1+1) hN.out.symm]at hV
        rw [if_pos rfl,show k+1+1-(k+2)=0 by omega]at hV;try rw [show(k+2)-(k+2)=0 by omega]at hV
        have hVlt:=hV.lt
        obtain⟨V,hVe⟩: ∃V:Value,Hid (V= .slice (some ⟨g2,off,none⟩) 0 0):=⟨_,Lib.hid rfl⟩
        rw [←hVe.out]at hV hVlt
        rw [←hVe.out]
        have hB1:=hb1.size
        have hc3:=hc2.set 1 V
        have hF3:=Frm.setCell (S:=(· =c)) hF2 ⟨c,1,none⟩ V (fun _=>rfl)
        have hV3:=hV.frm (S:=(· =c)) ((Frm.refl _ wr).setCell ⟨c,1,none⟩ V (fun _=>rfl)) (fun k hk e=>by have:=(hVlt k hk).1;omega)
        have hV3:=hV3.mono (B':=B) (by omega)
        have hP:=ho2.rd.sliced 0 (k+2) (Nat.zero_le _) hek
        rw [sliced0,if_neg (show¬(k+2)=0 by omega),Option.map_some,add_at,Nat.add_zero,Nat.sub_zero,show((byts Bt).drop 0).take (k+2)=byts (simD Bt) by rw [List.drop_zero,←HT];exact(byts_take _ _).symm]at hP
        have hgg:w1.heap.size≤g2:=ho2.len_at.2.2.1
        have hP:=hP.frm (S:=(· =c)) ((Frm.refl _ wr).setCell ⟨c,1,none⟩ V (fun _=>rfl)) (fun k hk e=>by have hk:g2=k:=Option.some.inj hk;omega)
        have hsz3:wr.heap.size≤(wr.setCell ⟨c,1,none⟩ V).heap.size:=by rw [szC];exact Nat.le_refl _
        generalize wr.setCell ⟨c,1,none⟩ V=w3 at*
        have hsk3:=L.frm _ _ w3.drew _ _ _ hsk' hF3.drew (fun e=>hch e.symm) (fun k hk e=>hoc (by rw [hk,e]))
        have hne:simD Bt≠ []:=by rintro e;rw [e]at HL;simp at HL
        have hw:=L.write w3.drew h o D _ (simD Bt) hsk3 (show Rd w3.drew _ _ from hP) (.inr (.inl hne)) (by have:=simD_le Bt;have:=Hel.out;have:=HlC.out;have:=HsD.out;have:=Hn.out;omega) (fun k hk=>by have hk:g2=k:=Option.some.inj hk;exact⟨by omega,fun e=>by have:=(hsk2 k e).1;omega⟩)
        rw [←HL]at hw
        have hm:=L.m ⟨h,0,none⟩
        have hnn:=L.n ⟨h,0,none⟩
        have hee:=L.e
        have c0:w3.cell? ⟨c,0,none⟩=some (.iface wt (.pointer (some ⟨h,0,none⟩))):=hc3.cell 0 _ rfl
        clear HT HL HD HX hc2 c1' f1'
        go_region_held3 (fun ww=>ww.cell? ⟨c,0,none⟩=some (.iface wt (.pointer (some ⟨h,0,none⟩))))
         (first|go_keep|(exact frC hF4 (p:=⟨c,0,none⟩) c0 (fun e=>e.elim hch (fun e=>hoc e.symm))))
         (first|(go_at_fn fn;refine hw.mono ?_;rintro e w4 ⟨rfl,⟨o4,hsk4,ho4⟩,hF4⟩))
        have hs3:w1.heap.size≤w3.heap.size:=hF3.size
        have hc4:=Blk.frm (w:=w3.drew) hc3 hF4 (fun e=>e.elim hch (fun e=>hoc e.symm))
        have hV4:=OwnAt.frm (w:=w3.drew) hV3 hF4 (fun k hk e=>by have h1:=(hVlt k hk).1;rcases e with e|e;omega;have:=(hsk2 k e.symm).1;omega)
        have hBf:=hb1.trans ((hF3.drew.below (fun k _ e=>by rw [e];exact hBc) (by omega)).trans (Frm.below (w:=w3.drew) hF4 (fun k _ e=>by rcases e with e|e;rw [e];exact hBh;exact hBo k e.symm) (by show B≤w3.heap.size;omega)))
        go_wp2
        go_ret2
        exact⟨rfl,⟨o4,V,hBc,hBh,fun k e=>by rcases ho4 k e with e|e;exact hBo k e;exact Nat.le_trans (show B≤w3.heap.size by omega) e,hch,fun e=>by rcases ho4 c e with e|e;exact hoc e;exact absurd (show w3.heap.size≤c from e) (by omega),by rw [←Hw2.out];exact hc4,hV4,fun e=>by have:=(hVlt h e).1;omega,fun k hk e=>by have h1:=hVlt k hk;rcases ho4 k e with e|e;have:=(hsk2 k e).1;omega;exact absurd (show w3.heap.size≤k from e) (by omega),by rw [Hw3.out];exact hsk4⟩,hBf⟩
       ·go_wp2_with fail
        obtain⟨HT,HL⟩:=sim_fin Bt (k+2) (by rw [←hN.out];exact hek) HD.out HX.out
        have hV:=ho2.sliced (k+2) (m+1) hek (Nat.le_refl _)
        rw [sliced0,show((byts Bt).drop (k+2)).take (m+1-(k+2))=byts (simC (acc++l)) by rw [Hw4.out,←HL];exact byts_part Bt (k+2) (m+1) hN.out.symm]at hV
        rw [if_neg hpe,Option.map_some,add_at]at hV;rw [show m+1-(k+2)=(m-(k+1)) by omega]at hV
        have hVlt:=hV.lt
        obtain⟨V,hVe⟩: ∃V:Value,Hid (V= .slice (some ⟨g2,off+(k+2),none⟩) (m-(k+1)) (p2-(k+2))):=⟨_,Lib.hid rfl⟩
        rw [←hVe.out]at hV hVlt
        rw [←hVe.out]
        have hB1:=hb1.size
        have hc3:=hc2.set 1 V
        have hF3:=Frm.setCell (S:=(· =c)) hF2 ⟨c,1,none⟩ V (fun _=>rfl)
        have hV3:=hV.frm (S:=(· =c)) ((Frm.refl _ wr).setCell ⟨c,1,none⟩ V (fun _=>rfl)) (fun k hk e=>by have:=(hVlt k hk).1;omega)
        have hV3:=hV3.mono (B':=B) (by omega)
        have hP:=ho2.rd.sliced 0 (k+2) (Nat.zero_le _) hek
        rw [sliced0,if_neg (show¬p2=0 by omega),Option.map_some,add_at,Nat.add_zero,Nat.sub_zero,Nat.sub_zero,show((byts Bt).drop 0).take (k+2)=byts (simD Bt) by rw [List.drop_zero,←HT];exact(byts_take _ _).symm]at hP
        have hgg:w1.heap.size≤g2:=ho2.len_at.2.2.1
        have hP:=hP.frm (S:=(· =c)) ((Frm.refl _ wr).setCell ⟨c,1,none⟩ V (fun _=>rfl)) (fun k hk e=>by have hk:g2=k:=Option.some.inj hk;omega)
        have hsz3:wr.heap.size≤(wr.setCell ⟨c,1,none⟩ V).heap.size:=by rw [szC];exact Nat.le_refl _
        generalize wr.setCell ⟨c,1,none⟩ V=w3 at*
        have hsk3:=L.frm _ _ w3.drew _ _ _ hsk' hF3.drew (fun e=>hch e.symm) (fun k hk e=>hoc (by rw [hk,e]))
        have hne:simD Bt≠ []:=by rintro e;rw [e]at HL;simp at HL
        have hw:=L.write w3.drew h o D _ (simD Bt) hsk3 (show Rd w3.drew _ _ from hP) (.inr (.inl hne)) (by have:=simD_le Bt;have:=Hel.out;have:=HlC.out;have:=HsD.out;have:=Hn.out;omega) (fun k hk=>by have hk:g2=k:=Option.some.inj hk;exact⟨by omega,fun e=>by have:=(hsk2 k e).1;omega⟩)
        rw [←HL]at hw
        have hm:=L.m ⟨h,0,none⟩
        have hnn:=L.n ⟨h,0,none⟩
        have hee:=L.e
        have c0:w3.cell? ⟨c,0,none⟩=some (.iface wt (.pointer (some ⟨h,0,none⟩))):=hc3.cell 0 _ rfl
        clear HT HL HD HX hc2 c1' f1'
        go_region_held3 (fun ww=>ww.cell? ⟨c,0,none⟩=some (.iface wt (.pointer (some ⟨h,0,none⟩))))
         (first|go_keep|(exact frC hF4 (p:=⟨c,0,none⟩) c0 (fun e=>e.elim hch (fun e=>hoc e.symm))))
         (first|(go_at_fn fn;refine hw.mono ?_;rintro e w4 ⟨rfl,⟨o4,hsk4,ho4⟩,hF4⟩))
        have hs3:w1.heap.size≤w3.heap.size:=hF3.size
        have hc4:=Blk.frm (w:=w3.drew) hc3 hF4 (fun e=>e.elim hch (fun e=>hoc e.symm))
        have hV4:=OwnAt.frm (w:=w3.drew) hV3 hF4 (fun k hk e=>by have h1:=(hVlt k hk).1;rcases e with e|e;omega;have:=(hsk2 k e.symm).1;omega)
        have hBf:=hb1.trans ((hF3.drew.below (fun k _ e=>by rw [e];exact hBc) (by omega)).trans (Frm.below (w:=w3.drew) hF4 (fun k _ e=>by rcases e with e|e;rw [e];exact hBh;exact hBo k e.symm) (by show B≤w3.heap.size;omega)))
        go_wp2
        go_ret2
        exact⟨rfl,⟨o4,V,hBc,hBh,fun k e=>by rcases ho4 k e with e|e;exact hBo k e;exact Nat.le_trans (show B≤w3.heap.size by omega) e,hch,fun e=>by rcases ho4 c e with e|e;exact hoc e;exact absurd (show w3.heap.size≤c from e) (by omega),by rw [←Hw2.out];exact hc4,hV4,fun e=>by have:=(hVlt h e).1;omega,fun k hk e=>by have h1:=hVlt k hk;rcases ho4 k e with e|e;have:=(hsk2 k e).1;omega;exact absurd (show w3.heap.size≤k from e) (by omega),by rw [Hw3.out];exact hsk4⟩,hBf⟩
     ·have y1:((Bt[k].toNat:Int) !=13)=true:=bneF (bF z13)
      have HX: ∀k' (h:k'+1<Bt.length),k+2=k'+2→¬(Bt[k']=13∧Bt[k'+1]=10):=fun k' h hk=>by
       have:k'=k:=by omega
       subst this;exact fun e=>z13 e.1
      clear hstep
      have HX:=Lib.hid HX
      by_cases hpe:p2=k+2
      ·subst hpe
       obtain rfl:m=k+1:=by omega
       clear m0 m1 k1 k2 k3 k4 k5
       go_wp2_with fail
       obtain⟨HT,HL⟩:=sim_fin Bt (k+2) (by rw [←hN.out];exact hek) HD.out HX.out
       have hV:=ho2.sliced (k+2) (k+1+1) hek (Nat.le_refl _)
       rw [sliced0,show((byts Bt).drop (k+2)).take (k+1+1-(k+2))=byts (simC (acc++l)) by rw [Hw4.out,←HL];exact byts_part Bt (k+2) (k+1+1) hN.out.symm]at hV
       rw [if_pos rfl,show k+1+1-(k+2)=0 by omega]at hV;try rw [show(k+2)-(k+2)=0 by omega]at hV
       have hVlt:=hV.lt
       obtain⟨V,hVe⟩: ∃V:Value,Hid (V= .slice (some ⟨g2,off,none⟩) 0 0):=⟨_,Lib.hid rfl⟩
       rw [←hVe.out]at hV hVlt
       rw [←hVe.out]
       have hB1:=hb1.size
       have hc3:=hc2.set 1 V
       have hF3:=Frm.setCell (S:=(· =c)) hF2 ⟨c,1,none⟩ V (fun _=>rfl)
       have hV3:=hV.frm (S:=(· =c)) ((Frm.refl _ wr).setCell ⟨c,1,none⟩ V (fun _=>rfl)) (fun k hk e=>by have:=(hVlt k hk).1;omega)
       have hV3:=hV3.mono (B':=B) (by omega)
       have hP:=ho2.rd.sliced 0 (k+2) (Nat.zero_le _) hek
       rw [sliced0,if_neg (show¬(k+2)=0 by omega),Option.map_some,add_at,Nat.add_zero,Nat.sub_zero,show((byts Bt).drop 0).take (k+2)=byts (simD Bt) by rw [List.drop_zero,←HT];exact(byts_take _ _).symm]at hP
       have hgg:w1.heap.size≤g2:=ho2.len_at.2.2.1
       have hP:=hP.frm (S:=(· =c)) ((Frm.refl _ wr).setCell ⟨c,1,none⟩ V (fun _=>rfl)) (fun k hk e=>by have hk:g2=k:=Option.some.inj hk;omega)
       have hsz3:wr.heap.size≤(wr.setCell ⟨c,1,none⟩ V).heap.size:=by rw [szC];exact Nat.le_refl _
       generalize wr.setCell ⟨c,1,none⟩ V=w3 at*
       have hsk3:=L.frm _ _ w3.drew _ _ _ hsk' hF3.drew (fun e=>hch e.symm) (fun k hk e=>hoc (by rw [hk,e]))
       have hne:simD Bt≠ []:=by rintro e;rw [e]at HL;simp at HL
       have hw:=L.write w3.drew h o D _ (simD Bt) hsk3 (show Rd w3.drew _ _ from hP) (.inr (.inl hne)) (by have:=simD_le Bt;have:=Hel.out;have:=HlC.out;have:=HsD.out;have:=Hn.out;omega) (fun k hk=>by have hk:g2=k:=Option.some.inj hk;exact⟨by omega,fun e=>by have:=(hsk2 k e).1;omega⟩)
       rw [←HL]at hw
       have hm:=L.m ⟨h,0,none⟩
       have hnn:=L.n ⟨h,0,none⟩
       have hee:=L.e
       have c0:w3.cell? ⟨c,0,none⟩=some (.iface wt (.pointer (some ⟨h,0,none⟩))):=hc3.cell 0 _ rfl
       clear HT HL HD HX hc2 c1' f1'
       go_region_held3 (fun ww=>ww.cell? ⟨c,0,none⟩=some (.iface wt (.pointer (some ⟨h,0,none⟩))))
        (first|go_keep|(exact frC hF4 (p:=⟨c,0,none⟩) c0 (fun e=>e.elim hch (fun e=>hoc e.symm))))
        (first|(go_at_fn fn;refine hw.mono ?_;rintro e w4 ⟨rfl,⟨o4,hsk4,ho4⟩,hF4⟩))
       have hs3:w1.heap.size≤w3.heap.size:=hF3.size
       have hc4:=Blk.frm (w:=w3.drew) hc3 hF4 (fun e=>e.elim hch (fun e=>hoc e.symm))
       have hV4:=OwnAt.frm (w:=w3.drew) hV3 hF4 (fun k hk e=>by have h1:=(hVlt k hk).1;rcases e with e|e;omega;have:=(hsk2 k e.symm).1;omega)
       have hBf:=hb1.trans ((hF3.drew.below (fun k _ e=>by rw [e];exact hBc) (by omega)).trans (Frm.below (w:=w3.drew) hF4 (fun k _ e=>by rcases e with e|e;rw [e];exact hBh;exact hBo k e.symm) (by show B≤w3.heap.size;omega)))
       go_wp2
       go_ret2
       exact⟨rfl,⟨o4,V,hBc,hBh,fun k e=>by rcases ho4 k e with e|e;exact hBo k e;exact Nat.le_trans (show B≤w3.heap.size by omega) e,hch,fun e=>by rcases ho4 c e with e|e;exact hoc e;exact absurd (show w3.heap.size≤c from e) (by omega),by rw [←Hw2.out];exact hc4,hV4,fun e=>by have:=(hVlt h e).1;omega,fun k hk e=>by have h1:=hVlt k hk;rcases ho4 k e with e|e;have:=(hsk2 k e).1;omega;exact absurd (show w3.heap.size≤k from e) (by omega),by rw [Hw3.out];exact hsk4⟩,hBf⟩
      ·go_wp2_with fail
       obtain⟨HT,HL⟩:=sim_fin Bt (k+2) (by rw [←hN.out];exact hek) HD.out HX.out
       have hV:=ho2.sliced (k+2) (m+1) hek (Nat.le_refl _)
       rw [sliced0,show((byts Bt).drop (k+2)).take (m+1-(k+2))=byts (simC (acc++l)) by rw [Hw4.out,←HL];exact byts_part Bt (k+2) (m+1) hN.out.symm]at hV
       rw [if_neg hpe,Option.map_some,add_at]at hV;rw [show m+1-(k+2)=(m-(k+1)) by omega]at hV
       have hVlt:=hV.lt
       obtain⟨V,hVe⟩: ∃V:Value,Hid (V= .slice (some ⟨g2,off+(k+2),none⟩) (m-(k+1)) (p2-(k+2))):=⟨_,Lib.hid rfl⟩
       rw [←hVe.out]at hV hVlt
       rw [←hVe.out]
       have hB1:=hb1.size
       have hc3:=hc2.set 1 V
       have hF3:=Frm.setCell (S:=(· =c)) hF2 ⟨c,1,none⟩ V (fun _=>rfl)
       have hV3:=hV.frm (S:=(· =c)) ((Frm.refl _ wr).setCell ⟨c,1,none⟩ V (fun _=>rfl)) (fun k hk e=>by have:=(hVlt k hk).1;omega)
       have hV3:=hV3.mono (B':=B) (by omega)
       have hP:=ho2.rd.sliced 0 (k+2) (Nat.zero_le _) hek
       rw [sliced0,if_neg (show¬p2=0 by omega),Option.map_some,add_at,Nat.add_zero,Nat.sub_zero,Nat.sub_zero,show((byts Bt).drop 0).take (k+2)=byts (simD Bt) by rw [List.drop_zero,←HT];exact(byts_take _ _).symm]at hP
       have hgg:w1.heap.size≤g2:=ho2.len_at.2.2.1
       have hP:=hP.frm (S:=(· =c)) ((Frm.refl _ wr).setCell ⟨c,1,none⟩ V (fun _=>rfl)) (fun k hk e=>by have hk:g2=k:=Option.some.inj hk;omega)
       have hsz3:wr.heap.size≤(wr.setCell ⟨c,1,none⟩ V).heap.size:=by rw [szC];exact Nat.le_refl _
       generalize wr.setCell ⟨c,1,none⟩ V=w3 at*
       have hsk3:=L.frm _ _ w3.drew _ _ _ hsk' hF3.drew (fun e=>hch e.symm) (fun k hk e=>hoc (by rw [hk,e]))
       have hne:simD Bt≠ []:=by rintro e;rw [e]at HL;simp at HL
       have hw:=L.write w3.drew h o D _ (simD Bt) hsk3 (show Rd w3.drew _ _ from hP) (.inr (.inl hne)) (by have:=simD_le Bt;have:=Hel.out;have:=HlC.out;have:=HsD.out;have:=Hn.out;omega) (fun k hk=>by have hk:g2=k:=Option.some.inj hk;exact⟨by omega,fun e=>by have:=(hsk2 k e).1;omega⟩)
       rw [←HL]at hw
       have hm:=L.m ⟨h,0,none⟩
       have hnn:=L.n ⟨h,0,none⟩
       have hee:=L.e
       have c0:w3.cell? ⟨c,0,none⟩=some (.iface wt (.pointer (some ⟨h,0,none⟩))):=hc3.cell 0 _ rfl
       clear HT HL HD HX hc2 c1' f1'
       go_region_held3 (fun ww=>ww.cell? ⟨c,0,none⟩=some (.iface wt (.pointer (some ⟨h,0,none⟩))))
        (first|go_keep|(exact frC hF4 (p:=⟨c,0,none⟩) c0 (fun e=>e.elim hch (fun e=>hoc e.symm))))
        (first|(go_at_fn fn;refine hw.mono ?_;rintro e w4 ⟨rfl,⟨o4,hsk4,ho4⟩,hF4⟩))
       have hs3:w1.heap.size≤w3.heap.size:=hF3.size
       have hc4:=Blk.frm (w:=w3.drew) hc3 hF4 (fun e=>e.elim hch (fun e=>hoc e.symm))
       have hV4:=OwnAt.frm (w:=w3.drew) hV3 hF4 (fun k hk e=>by have h1:=(hVlt k hk).1;rcases e with e|e;omega;have:=(hsk2 k e.symm).1;omega)
       have hBf:=hb1.trans ((hF3.drew.below (fun k _ e=>by rw [e];exact hBc) (by omega)).trans (Frm.below (w:=w3.drew) hF4 (fun k _ e=>by rcases e with e|e;rw [e];exact hBh;exact hBo k e.symm) (by show B≤w3.heap.size;omega)))
       go_wp2
       go_ret2
       exact⟨rfl,⟨o4,V,hBc,hBh,fun k e=>by rcases ho4 k e with e|e;exact hBo k e;exact Nat.le_trans (show B≤w3.heap.size by omega) e,hch,fun e=>by rcases ho4 c e with e|e;exact hoc e;exact absurd (show w3.heap.size≤c from e) (by omega),by rw [←Hw2.out];exact hc4,hV4,fun e=>by have:=(hVlt h e).1;omega,fun k hk e=>by have h1:=hVlt k hk;rcases ho4 k e with e|e;have:=(hsk2 k e).1;omega;exact absurd (show w3.heap.size≤k from e) (by omega),by rw [Hw3.out];exact hsk4⟩,hBf⟩
  ·have z1:((Bt[m].toNat:Int)==13)=false:=bF h13
   have HS:Hid (noEnds (Bt.take (m+1))=simD Bt):=by
    show _=_
    unfold simD unCR
    rw [if_neg (by rw [hgl];intro e;injection e with e;exact h13 e),hN.out,List.take_length]
   clear hgl
   go_wp2_with fail
   go_loopw [7] (fun x wx=> ∃e:Nat,e≤m+1∧x= .int .i64 e∧Hid (noEnds (Bt.take e)=simD Bt)∧wx=w2) (fun x _=>(intOf x).toNat)
   case atStart=>exact⟨m+1,Nat.le_refl _,by go_num,HS,rfl⟩
   case round=>
    obtain⟨e,hek,rfl,HD,rfl⟩:=hrel
    by_cases h2:e<2
    ·have HX: ∀k (h:k+1<Bt.length),e=k+2→¬(Bt[k]=13∧Bt[k+1]=10):=fun k h hk=>by omega
     have HX:=Lib.hid HX
     by_cases he0:e=0
     ·subst he0
      have hi2: ¬((2:Int)≤((0:Nat):Int)):=by omega
      have hpe: ¬p2=0:=by omega
      go_wp2_with fail
      obtain⟨HT,HL⟩:=sim_fin Bt (0) (by rw [←hN.out];exact hek) HD.out HX.out
      have hV:=ho2.sliced (0) (m+1) hek (Nat.le_refl _)
      rw [sliced0,show((byts Bt).drop (0)).take (m+1-(0))=byts (simC (acc++l)) by rw [Hw4.out,←HL];exact byts_part Bt (0) (m+1) hN.out.symm]at hV
      rw [if_neg hpe,Option.map_some,add_at,Nat.add_zero,Nat.sub_zero,Nat.sub_zero]at hV
      have hVlt:=hV.lt
      obtain⟨V,hVe⟩: ∃V:Value,Hid (V= .slice (some ⟨g2,off,none⟩) (m+1) p2):=⟨_,Lib.hid rfl⟩
      rw [←hVe.out]at hV hVlt
      rw [←hVe.out]
      have hB1:=hb1.size
      have hc3:=hc2.set 1 V
      have hF3:=Frm.setCell (S:=(· =c)) hF2 ⟨c,1,none⟩ V (fun _=>rfl)
      have hV3:=hV.frm (S:=(· =c)) ((Frm.refl _ wr).setCell ⟨c,1,none⟩ V (fun _=>rfl)) (fun k hk e=>by have:=(hVlt k hk).1;omega)
      have hV3:=hV3.mono (B':=B) (by omega)
      generalize wr.setCell ⟨c,1,none⟩ V=w3 at*
      have hsk3:=L.frm _ _ _ _ _ _ hsk' hF3 (fun e=>hch e.symm) (fun k hk e=>hoc (by rw [hk,e]))
      have hs0:simD Bt= []:=List.eq_nil_of_length_eq_zero HL.symm
      go_ret2
      exact⟨rfl,⟨o,V,hBc,hBh,hBo,hch,hoc,by rw [←Hw2.out];exact hc3,hV3,fun e=>by have:=(hVlt h e).1;omega,fun k hk e=>by have:=(hVlt k hk).1;have:=(hsk2 k e).1;omega,by rw [Hw3.out,hs0,List.append_nil];exact hsk3⟩,hb1.trans (hF3.below (fun k _ e=>by rw [e];exact hBc) (by omega))⟩
     ·obtain rfl:e=1:=by omega
      have hi2: ¬((2:Int)≤((1:Nat):Int)):=by omega
      have x1:(1:Int)≤(p2:Int):=by omega
      have x2:1≤p2:=by omega
      by_cases hpe:p2=1
      ·subst hpe
       obtain rfl:m=0:=by omega
       clear m0 m1 x1 x2
       go_wp2_with fail
       obtain⟨HT,HL⟩:=sim_fin Bt (1) (by rw [←hN.out];exact hek) HD.out HX.out
       have hV:=ho2.sliced (1) (0+1) hek (Nat.le_refl _)
       rw [sliced0,show((byts Bt).drop (1)).take (0+1-(1))=byts (simC (acc++l)) by rw [Hw4.out,←HL];exact byts_part Bt (1) (0+1) hN.out.symm]at hV
       rw [if_pos rfl,show 0+1-(1)=0 by omega]at hV;try rw [show(1)-(1)=0 by omega]at hV
       have hVlt:=hV.lt
       obtain⟨V,hVe⟩: ∃V:Value,Hid (V= .slice (some ⟨g2,off,none⟩) 0 0):=⟨_,Lib.hid rfl⟩
       rw [←hVe.out]at hV hVlt
       rw [←hVe.out]
       have hB1:=hb1.size
       have hc3:=hc2.set 1 V
       have hF3:=Frm.setCell (S:=(· =c)) hF2 ⟨c,1,none⟩ V (fun _=>rfl)
       have hV3:=hV.frm (S:=(· =c)) ((Frm.refl _ wr).setCell ⟨c,1,none⟩ V (fun _=>rfl)) (fun k hk e=>by have:=(hVlt k hk).1;omega)
       have hV3:=hV3.mono (B':=B) (by omega)
       have hP:=ho2.rd.sliced 0 (1) (Nat.zero_le _) hek
       rw [sliced0,if_neg (show¬(1)=0 by omega),Option.map_some,add_at,Nat.add_zero,Nat.sub_zero,show((byts Bt).drop 0).take (1)=byts (simD Bt) by rw [List.drop_zero,←HT];exact(byts_take _ _).symm]at hP
       have hgg:w1.heap.size≤g2:=ho2.len_at.2.2.1
       have hP:=hP.frm (S:=(· =c)) ((Frm.refl _ wr).setCell ⟨c,1,none⟩ V (fun _=>rfl)) (fun k hk e=>by have hk:g2=k:=Option.some.inj hk;omega)
       have hsz3:wr.heap.size≤(wr.setCell ⟨c,1,none⟩ V).heap.size:=by rw [szC];exact Nat.le_refl _
       generalize wr.setCell ⟨c,1,none⟩ V=w3 at*
       have hsk3:=L.frm _ _ w3.drew _ _ _ hsk' hF3.drew (fun e=>hch e.symm) (fun k hk e=>hoc (by rw [hk,e]))
       have hne:simD Bt≠ []:=by rintro e;rw [e]at HL;simp at HL
       have hw:=L.write w3.drew h o D _ (simD Bt) hsk3 (show Rd w3.drew _ _ from hP) (.inr (.inl hne)) (by have:=simD_le Bt;have:=Hel.out;have:=HlC.out;have:=HsD.out;have:=Hn.out;omega) (fun k hk=>by have hk:g2=k:=Option.some.inj hk;exact⟨by omega,fun e=>by have:=(hsk2 k e).1;omega⟩)
       rw [←HL]at hw
       have hm:=L.m ⟨h,0,none⟩
       have hnn:=L.n ⟨h,0,none⟩
       have hee:=L.e
       have c0:w3.cell? ⟨c,0,none⟩=some (.iface wt (.pointer (some ⟨h,0,none⟩))):=hc3.cell 0 _ rfl
       clear HT HL HD HX hc2 c1' f1'
       go_region_held3 (fun ww=>ww.cell? ⟨c,0,none⟩=some (.iface wt (.pointer (some ⟨h,0,none⟩))))
        (first|go_keep|(exact frC hF4 (p:=⟨c,0,none⟩) c0 (fun e=>e.elim hch (fun e=>hoc e.symm))))
        (first|(go_at_fn fn;refine hw.mono ?_;rintro e w4 ⟨rfl,⟨o4,hsk4,ho4⟩,hF4⟩))
       have hs3:w1.heap.size≤w3.heap.size:=hF3.size
       have hc4:=Blk.frm (w:=w3.drew) hc3 hF4 (fun e=>e.elim hch (fun e=>hoc e.symm))
       have hV4:=OwnAt.frm (w:=w3.drew) hV3 hF4 (fun k hk e=>by have h1:=(hVlt k hk).1;rcases e with e|e;omega;have:=(hsk2 k e.symm).1;omega)
       have hBf:=hb1.trans ((hF3.drew.below (fun k _ e=>by rw [e];exact hBc) (by omega)).trans (Frm.below (w:=w3.drew) hF4 (fun k _ e=>by rcases e with e|e;rw [e];exact hBh;exact hBo k e.symm) (by show B≤w3.heap.size;omega)))
       go_wp2
       go_ret2
       exact⟨rfl,⟨o4,V,hBc,hBh,fun k e=>by rcases ho4 k e with e|e;exact hBo k e;exact Nat.le_trans (show B≤w3.heap.size by omega) e,hch,fun e=>by rcases ho4 c e with e|e;exact hoc e;exact absurd (show w3.heap.size≤c from e) (by omega),by rw [←Hw2.out];exact hc4,hV4,fun e=>by have:=(hVlt h e).1;omega,fun k hk e=>by have h1:=hVlt k hk;rcases ho4 k e with e|e;have:=(hsk2 k e).1;omega;exact absurd (show w3.heap.size≤k from e) (by omega),by rw [Hw3.out];exact hsk4⟩,hBf⟩
      ·go_wp2_with fail
       obtain⟨HT,HL⟩:=sim_fin Bt (1) (by rw [←hN.out];exact hek) HD.out HX.out
       have hV:=ho2.sliced (1) (m+1) hek (Nat.le_refl _)
       rw [sliced0,show((byts Bt).drop (1)).take (m+1-(1))=byts (simC (acc++l)) by rw [Hw4.out,←HL];exact byts_part Bt (1) (m+1) hN.out.symm]at hV
       rw [if_neg hpe,Option.map_some,add_at]at hV;rw [show m+1-(1)=m by omega]at hV
       have hVlt:=hV.lt
       obtain⟨V,hVe⟩: ∃V:Value,Hid (V= .slice (some ⟨g2,off+(1),none⟩) m (p2-(1))):=⟨_,Lib.hid rfl⟩
       rw [←hVe.out]at hV hVlt
       rw [←hVe.out]
       have hB1:=hb1.size
       have hc3:=hc2.set 1 V
       have hF3:=Frm.setCell (S:=(· =c)) hF2 ⟨c,1,none⟩ V (fun _=>rfl)
       have hV3:=hV.frm (S:=(· =c)) ((Frm.refl _ wr).setCell ⟨c,1,none⟩ V (fun _=>rfl)) (fun k hk e=>by have:=(hVlt k hk).1;omega)
       have hV3:=hV3.mono (B':=B) (by omega)
       have hP:=ho2.rd.sliced 0 (1) (Nat.zero_le _) hek
       rw [sliced0,if_neg (show¬p2=0 by omega),Option.map_some,add_at,Nat.add_zero,Nat.sub_zero,Nat.sub_zero,show((byts Bt).drop 0).take (1)=byts (simD Bt) by rw [List.drop_zero,←HT];exact(byts_take _ _).symm]at hP
       have hgg:w1.heap.size≤g2:=ho2.len_at.2.2.1
       have hP:=hP.frm (S:=(· =c)) ((Frm.refl _ wr).setCell ⟨c,1,none⟩ V (fun _=>rfl)) (fun k hk e=>by have hk:g2=k:=Option.some.inj hk;omega)
       have hsz3:wr.heap.size≤(wr.setCell ⟨c,1,none⟩ V).heap.size:=by rw [szC];exact Nat.le_refl _
       generalize wr.setCell ⟨c,1,none⟩ V=w3 at*
       have hsk3:=L.frm _ _ w3.drew _ _ _ hsk' hF3.drew (fun e=>hch e.symm) (fun k hk e=>hoc (by rw [hk,e]))
       have hne:simD Bt≠ []:=by rintro e;rw [e]at HL;simp at HL
       have hw:=L.write w3.drew h o D _ (simD Bt) hsk3 (show Rd w3.drew _ _ from hP) (.inr (.inl hne)) (by have:=simD_le Bt;have:=Hel.out;have:=HlC.out;have:=HsD.out;have:=Hn.out;omega) (fun k hk=>by have hk:g2=k:=Option.some.inj hk;exact⟨by omega,fun e=>by have:=(hsk2 k e).1;omega⟩)
       rw [←HL]at hw
       have hm:=L.m ⟨h,0,none⟩
       have hnn:=L.n ⟨h,0,none⟩
       have hee:=L.e
       have c0:w3.cell? ⟨c,0,none⟩=some (.iface wt (.pointer (some ⟨h,0,none⟩))):=hc3.cell 0 _ rfl
       clear HT HL HD HX hc2 c1' f1'
       go_region_held3 (fun ww=>ww.cell? ⟨c,0,none⟩=some (.iface wt (.pointer (some ⟨h,0,none⟩))))
        (first|go_keep|(exact frC hF4 (p:=⟨c,0,none⟩) c0 (fun e=>e.elim hch (fun e=>hoc e.symm))))
        (first|(go_at_fn fn;refine hw.mono ?_;rintro e w4 ⟨rfl,⟨o4,hsk4,ho4⟩,hF4⟩))
       have hs3:w1.heap.size≤w3.heap.size:=hF3.size
       have hc4:=Blk.frm (w:=w3.drew) hc3 hF4 (fun e=>e.elim hch (fun e=>hoc e.symm))
       have hV4:=OwnAt.frm (w:=w3.drew) hV3 hF4 (fun k hk e=>by have h1:=(hVlt k hk).1;rcases e with e|e;omega;have:=(hsk2 k e.symm).1;omega)
       have hBf:=hb1.trans ((hF3.drew.below (fun k _ e=>by rw [e];exact hBc) (by omega)).trans (Frm.below (w:=w3.drew) hF4 (fun k _ e=>by rcases e with e|e;rw [e];exact hBh;exact hBo k e.symm) (by show B≤w3.heap.size;omega)))
       go_wp2
       go_ret2
       exact⟨rfl,⟨o4,V,hBc,hBh,fun k e=>by rcases ho4 k e with e|e;exact hBo k e;exact Nat.le_trans (show B≤w3.heap.size by omega) e,hch,fun e=>by rcases ho4 c e with e|e;exact hoc e;exact absurd (show w3.heap.size≤c from e) (by omega),by rw [←Hw2.out];exact hc4,hV4,fun e=>by have:=(hVlt h e).1;omega,fun k hk e=>by have h1:=hVlt k hk;rcases ho4 k e with e|e;have:=(hsk2 k e).1;omega;exact absurd (show w3.heap.size≤k from e) (by omega),by rw [Hw3.out];exact hsk4⟩,hBf⟩
    ·obtain⟨k,rfl⟩: ∃k,e=k+2:=⟨e-2,by omega⟩
     have hkl:k+1<Bt.length:=by rw [←hN.out];omega
     have hc1:=HC.out k (by omega)
     have hc2':=HC.out (k+1) hkl
     have k0:(0:Int)≤(k:Int):=by omega
     have k1:(k:Int)+1<(m:Int)+1:=by omega
     have k2:(k:Int)<(m:Int)+1:=by omega
     have k3:(k:Int)+2≤(p2:Int):=by omega
     have k4:k+2≤p2:=by omega
     have k5:k+2≤m+1:=by omega
     have k6:(0:Int)≤(k:Int)+2:=by omega
     have k7:(k:Int)≤1099511627776:=by omega
     have hstep:=take2 Bt k hkl
     by_cases z13:Bt[k]=13
     ·have y1:((Bt[k].toNat:Int) !=13)=false:=bneT (bT z13)
      by_cases z10:Bt[k+1]=10
      ·have y2:((Bt[k+1].toNat:Int) !=10)=false:=bneT (bT z10)
       have HDn:Hid (noEnds (Bt.take k)=simD Bt):=by
        show _=_;rw [←HD.out,hstep,z13,z10,noEnds_crlf]
       clear hstep HD
       go_wp2_with fail
       go_roundw
       case rel=>exact⟨k,by omega,by go_num,HDn,trivial⟩
       case measure=>simp only [intOf];omega
      ·have y2:((Bt[k+1].toNat:Int) !=10)=true:=bneF (bF z10)
       have HX: ∀k' (h:k'+1<Bt.length),k+2=k'+2→¬(Bt[k']=13∧Bt[k'+1]=10):=fun k' h hk=>by
        have:k'=k:=by omega
        subst this;exact fun e=>z10 e.2
       clear hstep
       have HX:=Lib.hid HX
       by_cases hpe:p2=k+2
       ·subst hpe
        obtain rfl:m=k+1:=by omega
        clear m0 m1 k1 k2 k3 k4 k5
        go_wp2_with fail
        obtain⟨HT,HL⟩:=sim_fin Bt (k+2) (by rw [←hN.out];exact hek) HD.out HX.out
        have hV:=ho2.sliced (k+2) (k+1+1) hek (Nat.le_refl _)
        rw [sliced0,show((byts Bt).drop (k+2)).take (k+1+1-(k+2))=byts (simC (acc++l)) by rw [Hw4.out,←HL];exact byts_part Bt (k+2) (k+1+1) hN.out.symm]at hV
        rw [if_pos rfl,show k+1+1-(k+2)=0 by omega]at hV;try rw [show(k+2)-(k+2)=0 by omega]at hV
        have hVlt:=hV.lt
        obtain⟨V,hVe⟩: ∃V:Value,Hid (V= .slice (some ⟨g2,off,none⟩) 0 0):=⟨_,Lib.hid rfl⟩
        rw [←hVe.out]at hV hVlt
        rw [←hVe.out]
        have hB1:=hb1.size
        have hc3:=hc2.set 1 V
        have hF3:=Frm.setCell (S:=(· =c)) hF2 ⟨c,1,none⟩ V (fun _=>rfl)
        have hV3:=hV.frm (S:=(· =c)) ((Frm.refl _ wr).setCell ⟨c,1,none⟩ V (fun _=>rfl)) (fun k hk e=>by have:=(hVlt k hk).1;omega)
        have hV3:=hV3.mono (B':=B) (by omega)
        have hP:=ho2.rd.sliced 0 (k+2) (Nat.zero_le _) hek
        rw [sliced0,if_neg (show¬(k+2)=0 by omega),Option.map_some,add_at,Nat.add_zero,Nat.sub_zero,show((byts Bt).drop 0).take (k+2)=byts (simD Bt) by rw [List.drop_zero,←HT];exact(byts_take _ _).symm]at hP
        have hgg:w1.heap.size≤g2:=ho2.len_at.2.2.1
        have hP:=hP.frm (S:=(· =c)) ((Frm.refl _ wr).setCell ⟨c,1,none⟩ V (fun _=>rfl)) (fun k hk e=>by have hk:g2=k:=Option.some.inj hk;omega)
        have hsz3:wr.heap.size≤(wr.setCell ⟨c,1,none⟩ V).heap.size:=by rw [szC];exact Nat.le_refl _
        generalize wr.setCell ⟨c,1,none⟩ V=w3 at*
        have hsk3:=L.frm _ _ w3.drew _ _ _ hsk' hF3.drew (fun e=>hch e.symm) (fun k hk e=>hoc (by rw [hk,e]))
        have hne:simD Bt≠ []:=by rintro e;rw [e]at HL;simp at HL
        have hw:=L.write w3.drew h o D _ (simD Bt) hsk3 (show Rd w3.drew _ _ from hP) (.inr (.inl hne)) (by have:=simD_le Bt;have:=Hel.out;have:=HlC.out;have:=HsD.out;have:=Hn.out;omega) (fun k hk=>by have hk:g2=k:=Option.some.inj hk;exact⟨by omega,fun e=>by have:=(hsk2 k e).1;omega⟩)
        rw [←HL]at hw
        have hm:=L.m ⟨h,0,none⟩
        have hnn:=L.n ⟨h,0,none⟩
        have hee:=L.e
        have c0:w3.cell? ⟨c,0,none⟩=some (.iface wt (.pointer (some ⟨h,0,none⟩))):=hc3.cell 0 _ rfl
        clear HT HL HD HX hc2 c1' f1'
        go_region_held3 (fun ww=>ww.cell? ⟨c,0,none⟩=some (.iface wt (.pointer (some ⟨h,0,none⟩))))
         (first|go_keep|(exact frC hF4 (p:=⟨c,0,none⟩) c0 (fun e=>e.elim hch (fun e=>hoc e.symm))))
         (first|(go_at_fn fn;refine hw.mono ?_;rintro e w4 ⟨rfl,⟨o4,hsk4,ho4⟩,hF4⟩))
        have hs3:w1.heap.size≤w3.heap.size:=hF3.size
        have hc4:=Blk.frm (w:=w3.drew) hc3 hF4 (fun e=>e.elim hch (fun e=>hoc e.symm))
        have hV4:=OwnAt.frm (w:=w3.drew) hV3 hF4 (fun k hk e=>by have h1:=(hVlt k hk).1;rcases e with e|e;omega;have:=(hsk2 k e.symm).1;omega)
        have hBf:=hb1.trans ((hF3.drew.below (fun k _ e=>by rw [e];exact hBc) (by omega)).trans (Frm.below (w:=w3.drew) hF4 (fun k _ e=>by rcases e with e|e;rw [e];exact hBh;exact hBo k e.symm) (by show B≤w3.heap.size;omega)))
        go_wp2
        go_ret2
        exact⟨rfl,⟨o4,V,hBc,hBh,fun k e=>by rcases ho4 k e with e|e;exact hBo k e;exact Nat.le_trans (show B≤w3.heap.size by omega) e,hch,fun e=>by rcases ho4 c e with e|e;exact hoc e;exact absurd (show w3.heap.size≤c from e) (by omega),by rw [←Hw2.out];exact hc4,hV4,fun e=>by have:=(hVlt h e).1;omega,fun k hk e=>by have h1:=hVlt k hk;rcases ho4 k e with e|e;have:=(hsk2 k e).1;omega;exact absurd (show w3.heap.size≤k from e) (by omega),by rw [Hw3.out];exact hsk4⟩,hBf⟩
       ·go_wp2_with fail
        obtain⟨HT,HL⟩:=sim_fin Bt (k+2) (by rw [←hN.out];exact hek) HD.out HX.out
        have hV:=ho2.sliced (k+2) (m+1) hek (Nat.le_refl _)
        rw [sliced0,show((byts Bt).drop (k+2)).take (m+1-(k+2))=byts (simC (acc++l)) by rw [Hw4.out,←HL];exact byts_part Bt (k+2) (m+1) hN.out.symm]at hV
        rw [if_neg hpe,Option.map_some,add_at]at hV;rw [show m+1-(k+2)=(m-(k+1)) by omega]at hV
        have hVlt:=hV.lt
        obtain⟨V,hVe⟩: ∃V:Value,Hid (V= .slice (some ⟨g2,off+(k+2),none⟩) (m-(k+1)) (p2-(k+2))):=⟨_,Lib.hid rfl⟩
        rw [←hVe.out]at hV hVlt
        rw [←hVe.out]
        have hB1:=hb1.size
        have hc3:=hc2.set 1 V
        have hF3:=Frm.setCell (S:=(· =c)) hF2 ⟨c,1,none⟩ V (fun _=>rfl)
        have hV3:=hV.frm (S:=(· =c)) ((Frm.refl _ wr).setCell ⟨c,1,none⟩ V (fun _=>rfl)) (fun k hk e=>by have:=(hVlt k hk).1;omega)
        have hV3:=hV3.mono (B':=B) (by omega)
        have hP:=ho2.rd.sliced 0 (k+2) (Nat.zero_le _) hek
        rw [sliced0,if_neg (show¬p2=0 by omega),Option.map_some,add_at,Nat.add_zero,Nat.sub_zero,Nat.sub_zero,show((byts Bt).drop 0).take (k+2)=byts (simD Bt) by rw [List.drop_zero,←HT];exact(byts_take _ _).symm]at hP
        have hgg:w1.heap.size≤g2:=ho2.len_at.2.2.1
        have hP:=hP.frm (S:=(· =c)) ((Frm.refl _ wr).setCell ⟨c,1,none⟩ V (fun _=>rfl)) (fun k hk e=>by have hk:g2=k:=Option.some.inj hk;omega)
        have hsz3:wr.heap.size≤(wr.setCell ⟨c,1,none⟩ V).heap.size:=by rw [szC];exact Nat.le_refl _
        generalize wr.setCell ⟨c,1,none⟩ V=w3 at*
        have hsk3:=L.frm _ _ w3.drew _ _ _ hsk' hF3.drew (fun e=>hch e.symm) (fun k hk e=>hoc (by rw [hk,e]))
        have hne:simD Bt≠ []:=by rintro e;rw [e]at HL;simp at HL
        have hw:=L.write w3.drew h o D _ (simD Bt) hsk3 (show Rd w3.drew _ _ from hP) (.inr (.inl hne)) (by have:=simD_le Bt;have:=Hel.out;have:=HlC.out;have:=HsD.out;have:=Hn.out;omega) (fun k hk=>by have hk:g2=k:=Option.some.inj hk;exact⟨by omega,fun e=>by have:=(hsk2 k e).1;omega⟩)
        rw [←HL]at hw
        have hm:=L.m ⟨h,0,none⟩
        have hnn:=L.n ⟨h,0,none⟩
        have hee:=L.e
        have c0:w3.cell? ⟨c,0,none⟩=some (.iface wt (.pointer (some ⟨h,0,none⟩))):=hc3.cell 0 _ rfl
        clear HT HL HD HX hc2 c1' f1'
        go_region_held3 (fun ww=>ww.cell? ⟨c,0,none⟩=some (.iface wt (.pointer (some ⟨h,0,none⟩))))
         (first|go_keep|(exact frC hF4 (p:=⟨c,0,none⟩) c0 (fun e=>e.elim hch (fun e=>hoc e.symm))))
         (first|(go_at_fn fn;refine hw.mono ?_;rintro e w4 ⟨rfl,⟨o4,hsk4,ho4⟩,hF4⟩))
        have hs3:w1.heap.size≤w3.heap.size:=hF3.size
        have hc4:=Blk.frm (w:=w3.drew) hc3 hF4 (fun e=>e.elim hch (fun e=>hoc e.symm))
        have hV4:=OwnAt.frm (w:=w3.drew) hV3 hF4 (fun k hk e=>by have h1:=(hVlt k hk).1;rcases e with e|e;omega;have:=(hsk2 k e.symm).1;omega)
        have hBf:=hb1.trans ((hF3.drew.below (fun k _ e=>by rw [e];exact hBc) (by omega)).trans (Frm.below (w:=w3.drew) hF4 (fun k _ e=>by rcases e with e|e;rw [e];exact hBh;exact hBo k e.symm) (by show B≤w3.heap.size;omega)))
        go_wp2
        go_ret2
        exact⟨rfl,⟨o4,V,hBc,hBh,fun k e=>by rcases ho4 k e with e|e;exact hBo k e;exact Nat.le_trans (show B≤w3.heap.size by omega) e,hch,fun e=>by rcases ho4 c e with e|e;exact hoc e;exact absurd (show w3.heap.size≤c from e) (by omega),by rw [←Hw2.out];exact hc4,hV4,fun e=>by have:=(hVlt h e).1;omega,fun k hk e=>by have h1:=hVlt k hk;rcases ho4 k e with e|e;have:=(hsk2 k e).1;omega;exact absurd (show w3.heap.size≤k from e) (by omega),by rw [Hw3.out];exact hsk4⟩,hBf⟩
     ·have y1:((Bt[k].toNat:Int) !=13)=true:=bneF (bF z13)
      have HX: ∀k' (h:k'+1<Bt.length),k+2=k'+2→¬(Bt[k']=13∧Bt[k'+1]=10):=fun k' h hk=>by
       have:k'=k:=by omega
       subst this;exact fun e=>z13 e.1
      clear hstep
      have HX:=Lib.hid HX
      by_cases hpe:p2=k+2
      ·subst hpe
       obtain rfl:m=k+1:=by omega
       clear m0 m1 k1 k2 k3 k4 k5
       go_wp2_with fail
       obtain⟨HT,HL⟩:=sim_fin Bt (k+2) (by rw [←hN.out];exact hek) HD.out HX.out
       have hV:=ho2.sliced (k+2) (k+1+1) hek (Nat.le_refl _)
       rw [sliced0,show((byts Bt).drop (k+2)).take (k+1+1-(k+2))=byts (simC (acc++l)) by rw [Hw4.out,←HL];exact byts_part Bt (k+2) (k+1+1) hN.out.symm]at hV
       rw [if_pos rfl,show k+1+1-(k+2)=0 by omega]at hV;try rw [show(k+2)-(k+2)=0 by omega]at hV
       have hVlt:=hV.lt
       obtain⟨V,hVe⟩: ∃V:Value,Hid (V= .slice (some ⟨g2,off,none⟩) 0 0):=⟨_,Lib.hid rfl⟩
       rw [←hVe.out]at hV hVlt
       rw [←hVe.out]
       have hB1:=hb1.size
       have hc3:=hc2.set 1 V
       have hF3:=Frm.setCell (S:=(· =c)) hF2 ⟨c,1,none⟩ V (fun _=>rfl)
       have hV3:=hV.frm (S:=(· =c)) ((Frm.refl _ wr).setCell ⟨c,1,none⟩ V (fun _=>rfl)) (fun k hk e=>by have:=(hVlt k hk).1;omega)
       have hV3:=hV3.mono (B':=B) (by omega)
       have hP:=ho2.rd.sliced 0 (k+2) (Nat.zero_le _) hek
       rw [sliced0,if_neg (show¬(k+2)=0 by omega),Option.map_some,add_at,Nat.add_zero,Nat.sub_zero,show((byts Bt).drop 0).take (k+2)=byts (simD Bt) by rw [List.drop_zero,←HT];exact(byts_take _ _).symm]at hP
       have hgg:w1.heap.size≤g2:=ho2.len_at.2.2.1
       have hP:=hP.frm (S:=(· =c)) ((Frm.refl _ wr).setCell ⟨c,1,none⟩ V (fun _=>rfl)) (fun k hk e=>by have hk:g2=k:=Option.some.inj hk;omega)
       have hsz3:wr.heap.size≤(wr.setCell ⟨c,1,none⟩ V).heap.size:=by rw [szC];exact Nat.le_refl _
       generalize wr.setCell ⟨c,1,none⟩ V=w3 at*
       have hsk3:=L.frm _ _ w3.drew _ _ _ hsk' hF3.drew (fun e=>hch e.symm) (fun k hk e=>hoc (by rw [hk,e]))
       have hne:simD Bt≠ []:=by rintro e;rw [e]at HL;simp at HL
       have hw:=L.write w3.drew h o D _ (simD Bt) hsk3 (show Rd w3.drew _ _ from hP) (.inr (.inl hne)) (by have:=simD_le Bt;have:=Hel.out;have:=HlC.out;have:=HsD.out;have:=Hn.out;omega) (fun k hk=>by have hk:g2=k:=Option.some.inj hk;exact⟨by omega,fun e=>by have:=(hsk2 k e).1;omega⟩)
       rw [←HL]at hw
       have hm:=L.m ⟨h,0,none⟩
       have hnn:=L.n ⟨h,0,none⟩
       have hee:=L.e
       have c0:w3.cell? ⟨c,0,none⟩=some (.iface wt (.pointer (some ⟨h,0,none⟩))):=hc3.cell 0 _ rfl
       clear HT HL HD HX hc2 c1' f1'
       go_region_held3 (fun ww=>ww.cell? ⟨c,0,none⟩=some (.iface wt (.pointer (some ⟨h,0,none⟩))))
        (first|go_keep|(exact frC hF4 (p:=⟨c,0,none⟩) c0 (fun e=>e.elim hch (fun e=>hoc e.symm))))
        (first|(go_at_fn fn;refine hw.mono ?_;rintro e w4 ⟨rfl,⟨o4,hsk4,ho4⟩,hF4⟩))
       have hs3:w1.heap.size≤w3.heap.size:=hF3.size
       have hc4:=Blk.frm (w:=w3.drew) hc3 hF4 (fun e=>e.elim hch (fun e=>hoc e.symm))
       have hV4:=OwnAt.frm (w:=w3.drew) hV3 hF4 (fun k hk e=>by have h1:=(hVlt k hk).1;rcases e with e|e;omega;have:=(hsk2 k e.symm).1;omega)
       have hBf:=hb1.trans ((hF3.drew.below (fun k _ e=>by rw [e];exact hBc) (by omega)).trans (Frm.below (w:=w3.drew) hF4 (fun k _ e=>by rcases e with e|e;rw [e];exact hBh;exact hBo k e.symm) (by show B≤w3.heap.size;omega)))
       go_wp2
       go_ret2
       exact⟨rfl,⟨o4,V,hBc,hBh,fun k e=>by rcases ho4 k e with e|e;exact hBo k e;exact Nat.le_trans (show B≤w3.heap.size by omega) e,hch,fun e=>by rcases ho4 c e with e|e;exact hoc e;exact absurd (show w3.heap.size≤c from e) (by omega),by rw [←Hw2.out];exact hc4,hV4,fun e=>by have:=(hVlt h e).1;omega,fun k hk e=>by have h1:=hVlt k hk;rcases ho4 k e with e|e;have:=(hsk2 k e).1;omega;exact absurd (show w3.heap.size≤k from e) (by omega),by rw [Hw3.out];exact hsk4⟩,hBf⟩
      ·go_wp2_with fail
       obtain⟨HT,HL⟩:=sim_fin Bt (k+2) (by rw [←hN.out];exact hek) HD.out HX.out
       have hV:=ho2.sliced (k+2) (m+1) hek (Nat.le_refl _)
       rw [sliced0,show((byts Bt).drop (k+2)).take (m+1-(k+2))=byts (simC (acc++l)) by rw [Hw4.out,←HL];exact byts_part Bt (k+2) (m+1) hN.out.symm]at hV
       rw [if_neg hpe,Option.map_some,add_at]at hV;rw [show m+1-(k+2)=(m-(k+1)) by omega]at hV
       have hVlt:=hV.lt
       obtain⟨V,hVe⟩: ∃V:Value,Hid (V= .slice (some ⟨g2,off+(k+2),none⟩) (m-(k+1)) (p2-(k+2))):=⟨_,Lib.hid rfl⟩
       rw [←hVe.out]at hV hVlt
       rw [←hVe.out]
       have hB1:=hb1.size
       have hc3:=hc2.set 1 V
       have hF3:=Frm.setCell (S:=(· =c)) hF2 ⟨c,1,none⟩ V (fun _=>rfl)
       have hV3:=hV.frm (S:=(· =c)) ((Frm.refl _ wr).setCell ⟨c,1,none⟩ V (fun _=>rfl)) (fun k hk e=>by have:=(hVlt k hk).1;omega)
       have hV3:=hV3.mono (B':=B) (by omega)
       have hP:=ho2.rd.sliced 0 (k+2) (Nat.zero_le _) hek
       rw [sliced0,if_neg (show¬p2=0 by omega),Option.map_some,add_at,Nat.add_zero,Nat.sub_zero,Nat.sub_zero,show((byts Bt).drop 0).take (k+2)=byts (simD Bt) by rw [List.drop_zero,←HT];exact(byts_take _ _).symm]at hP
       have hgg:w1.heap.size≤g2:=ho2.len_at.2.2.1
       have hP:=hP.frm (S:=(· =c)) ((Frm.refl _ wr).setCell ⟨c,1,none⟩ V (fun _=>rfl)) (fun k hk e=>by have hk:g2=k:=Option.some.inj hk;omega)
       have hsz3:wr.heap.size≤(wr.setCell ⟨c,1,none⟩ V).heap.size:=by rw [szC];exact Nat.le_refl _
       generalize wr.setCell ⟨c,1,none⟩ V=w3 at*
       have hsk3:=L.frm _ _ w3.drew _ _ _ hsk' hF3.drew (fun e=>hch e.symm) (fun k hk e=>hoc (by rw [hk,e]))
       have hne:simD Bt≠ []:=by rintro e;rw [e]at HL;simp at HL
       have hw:=L.write w3.drew h o D _ (simD Bt) hsk3 (show Rd w3.drew _ _ from hP) (.inr (.inl hne)) (by have:=simD_le Bt;have:=Hel.out;have:=HlC.out;have:=HsD.out;have:=Hn.out;omega) (fun k hk=>by have hk:g2=k:=Option.some.inj hk;exact⟨by omega,fun e=>by have:=(hsk2 k e).1;omega⟩)
       rw [←HL]at hw
       have hm:=L.m ⟨h,0,none⟩
       have hnn:=L.n ⟨h,0,none⟩
       have hee:=L.e
       have c0:w3.cell? ⟨c,0,none⟩=some (.iface wt (.pointer (some ⟨h,0,none⟩))):=hc3.cell 0 _ rfl
       clear HT HL HD HX hc2 c1' f1'
       go_region_held3 (fun ww=>ww.cell? ⟨c,0,none⟩=some (.iface wt (.pointer (some ⟨h,0,none⟩))))
        (first|go_keep|(exact frC hF4 (p:=⟨c,0,none⟩) c0 (fun e=>e.elim hch (fun e=>hoc e.symm))))
        (first|(go_at_fn fn;refine hw.mono ?_;rintro e w4 ⟨rfl,⟨o4,hsk4,ho4⟩,hF4⟩))
       have hs3:w1.heap.size≤w3.heap.size:=hF3.size
       have hc4:=Blk.frm (w:=w3.drew) hc3 hF4 (fun e=>e.elim hch (fun e=>hoc e.symm))
       have hV4:=OwnAt.frm (w:=w3.drew) hV3 hF4 (fun k hk e=>by have h1:=(hVlt k hk).1;rcases e with e|e;omega;have:=(hsk2 k e.symm).1;omega)
       have hBf:=hb1.trans ((hF3.drew.below (fun k _ e=>by rw [e];exact hBc) (by omega)).trans (Frm.below (w:=w3.drew) hF4 (fun k _ e=>by rcases e with e|e;rw [e];exact hBh;exact hBo k e.symm) (by show B≤w3.heap.size;omega)))
       go_wp2
       go_ret2
       exact⟨rfl,⟨o4,V,hBc,hBh,fun k e=>by rcases ho4 k e with e|e;exact hBo k e;exact Nat.le_trans (show B≤w3.heap.size by omega) e,hch,fun e=>by rcases ho4 c e with e|e;exact hoc e;exact absurd (show w3.heap.size≤c from e) (by omega),by rw [←Hw2.out];exact hc4,hV4,fun e=>by have:=(hVlt h e).1;omega,fun k hk e=>by have h1:=hVlt k hk;rcases ho4 k e with e|e;have:=(hsk2 k e).1;omega;exact absurd (show w3.heap.size≤k from e) (by omega),by rw [Hw3.out];exact hsk4⟩,hBf⟩
end Go.Proofs.YtgilnagajcfkpaaGreatDoor
