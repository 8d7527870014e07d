import Derived.Test.YtgilnagajcfkpaaGreatDoorQ37
set_option maxHeartbeats 4000000
set_option maxRecDepth 1000000
set_option linter.all false
namespace Go.Proofs.YtgilnagajcfkpaaGreatDoor
open Go.RowKit
theorem dSum_any (l:BS)(w:World)(hs:l.length≤1099511627776):
 Calls Tryz.prog 80 #[Str l] w fun e w'=>e= .returned (Str (sha l))∧Below w.heap.size w w':=by
 have HR8:Hid (rootsTo 8 2 400 2 []=h0l):=roots2
 have HR3:Hid (rootsTo 64 3 400 2 []=kTab):=roots3
 have tk1:True:=trivial
 go_enter Tryz.func80,Tryz.ntmps80
 go_wp2_with (first
  |(go_at_call 104;have _t:=tk1;refine(dRoots_any 8 2 (by omega) (by omega) _ (by rw [HR8.out];rfl)).mono ?_;rintro e w1 ⟨v1,rfl,ho1,hb1⟩;rw [HR8.out]at ho1;have tk2:True:=trivial;clear tk1)
  |(go_at_call 104;have _t:=tk2;refine(dRoots_any 64 3 (by omega) (by omega) _ (by rw [HR3.out];rfl)).mono ?_;rintro e w2 ⟨v2,rfl,ho2,hb2⟩;rw [HR3.out]at ho2;obtain⟨c3,w3,hcv,ho3,hb3⟩:=conv_text w2 l (by omega);clear tk2)
  |(at_builtin;refine appB1 rfl (.tmp 26) (.tmp 27) rfl l 128 128 rfl rfl ho3 rfl (by omega) hb3 (Nat.le_refl _) ?_;intro v4 w4 ho4 _ hb4;obtain⟨A4,c4,hv4⟩:=ho4.form;have hv4e:v4= .slice A4 (l.length+1) c4:=(by rw [hv4,byL];congr 1;simp);clear hv4;subst hv4e)
  |fail)
 have hb4':=hb4
 generalize hBs:w2.heap.size=B at*
 have hB:Hid (B=w2.heap.size):=hBs.symm
 clear hBs hcv ho3 hb3
 have HL:=Lib.hid (rfl:l.length=l.length)
 go_loopw [5] (fun v5 wr=> ∃(j:Nat) (A1:Option Addr) (c1:Nat),j≤zeros (l.length+1)∧v5= .slice A1 (l.length+1+j) c1∧OwnAt wr B 5 v5 (byts (l++ [128]++List.replicate j 0))∧Below B w2 wr) (fun v _=>2*l.length+1000-slen v)
 case atStart=>exact⟨0,A4,c4,Nat.zero_le _,rfl,by simpa using ho4,hb4⟩
 case round=>
  obtain⟨j,A2,c2,hj,rfl,ho,hb⟩:=hrel
  clear ho4 hb4 hb4'
  have hz:zeros (l.length+1)<64:=by unfold zeros;omega
  obtain⟨L,hL⟩: ∃L,Hid (L=l.length+1+j):=⟨_,rfl⟩
  have hL':l.length+1+j=L:=hL.out.symm
  have hLn:L≤1099511627776+65:=by omega
  rw [hL']at ho⊢
  have hL0:(0:Int)≤(L:Int):=by omega
  by_cases hjz:j<zeros (l.length+1)
  ·have hm:((L:Int)%64 !=56)=true:=bneF (by rw [beq_eq_false_iff_ne];have:=zeros_ne (l.length+1) j hjz;omega)
   go_wp2_with (first
    |(at_builtin;refine appB1 rfl (.tmp 33) (.tmp 34) rfl _ 0 0 rfl rfl ho rfl (by simp only [List.length_append,List.length_cons,List.length_nil,List.length_replicate];omega) hb (Nat.le_of_eq hB.out) ?_;intro v2 w2 ho2 _ hb2;obtain⟨A3,c3,hv2⟩:=ho2.form;have hv2e:v2= .slice A3 (l.length+1+(j+1)) c3:=(by rw [hv2,byL];congr 1;simp only [List.length_append,List.length_cons,List.length_nil,List.length_replicate];omega);clear hv2;subst hv2e)
    |fail)
   go_roundw
   case rel=>
    exact⟨j+1,A3,c3,hjz,rfl,by rw [List.replicate_succ',←List.append_assoc];exact ho2,hb2⟩
   case measure=>simp only [slen];have:=hL.out;omega
  ·have hm:((L:Int)%64 !=56)=false:=by
    have h1:=zeros_eq (l.length+1)
    have e:j=zeros (l.length+1):=by omega
    rw [←e]at h1
    exact bneT (by rw [beq_iff_eq];omega)
   have hj2:j=zeros (l.length+1):=by omega
   have Hdat:Hid (padded l=l++ [128]++List.replicate j 0++lenBs (8*l.length)):=by rw [hj2];exact padded_eq l
   have hN1:=zeros_eq (l.length+1)
   have HPm:Hid ((L+8)%64=0):=by show _%_=_;rw [←hj2]at hN1;omega
   clear hj2 hN1
   obtain⟨N,hN⟩: ∃N,Hid (N=8*l.length):=⟨_,rfl⟩
   have hv1:IntKind.u64.wrap (l.length:Int)=(l.length:Int):=uWI _ (by omega)
   have hv2:IntKind.u64.wrap (8*(l.length:Int))=V N:=by rw [hN.out];unfold V;rw [show(8*(l.length:Int))=((8*l.length:Nat):Int) by omega];exact uWI _ (by omega)
   have hv3:(8*(l.length:Int))=V N:=by rw [hN.out];unfold V;omega
   have hv4:IntKind.i64.wrap (8*(l.length:Int))=(8*(l.length:Int)):=by rw [IntKind.wrap_i64];omega
   have hv5:IntKind.i64.wrap (V N)=V N:=by rw [IntKind.wrap_i64];have:=hN.out;unfold V;omega
   have hv6:IntKind.u64.wrap (V N)=V N:=by have:=hN.out;unfold V;exact uWI _ (by omega)
   clear hjz hz hL hL' hL0
   obtain⟨D,hD0⟩: ∃D:BS,D=l++ [128]++List.replicate j 0:=⟨_,rfl⟩
   have hD:=Lib.hid hD0;clear hD0
   rw [←hD.out]at ho
   have hDL:D.length=L:=by have h:=ho.form;obtain⟨_,_,h⟩:=h;injection h with _ h;rw [byL]at h;exact h.symm
   have HDL:=Lib.hid hDL;clear hDL
   have Hpd:Hid (padded l=D++lenBs N):=by show _=_;rw [hD.out,hN.out];exact Hdat.out
   clear Hdat
   go_wp2_with fail
   go_loopw [5,6] (fun v5 v6 wx=> ∃(m:Nat) (A1:Option Addr) (c1:Nat),m≤8∧v6= .int .i64 (7-(m:Int))∧v5= .slice A1 (L+m) c1∧OwnAt wx B 5 v5 (byts (D++(lenBs N).take m))∧Below B w2 wx) (fun _ v6 _=>(1+intOf v6).toNat)
   case atStart=>exact⟨0,A2,c2,Nat.zero_le _,rfl,rfl,by simpa using ho,hb⟩
   case round=>
    obtain⟨m,A3,c3,hm8,rfl,rfl,ho3,hb3⟩:=hrel
    clear ho hb
    by_cases hm:m=8
    ·subst hm
     have ho4:OwnAt wr B 5 (.slice A3 (L+8) c3) (byts (padded l)):=by
      have h:=ho3
      rw [List.take_of_length_le (by simp [lenBs])]at h
      rw [Hpd.out];exact h
     have HPL:Hid ((padded l).length=L+8):=by show _=_;rw [Hpd.out];have:=HDL.out;simp [lenBs];omega
     have Hsh:Hid (sha l=(blocks (padded l).length h0 (padded l)).bytes):=rfl
     clear ho3 hm8 hj hm hv1 hv2 hv3 hv4 hv5 hv6 HDL Hpd hD hN
     generalize padded l=PD at*
     go_wp2_with fail
     obtain⟨g3,o3,c8,rfl⟩:=ho1.form_some (by simp [wrds,h0l,St8.lst])
     obtain⟨g4,o4,c64,rfl⟩:=ho2.form_some (by simp [wrds,kTab])
     obtain⟨g5,o5,c5,he5⟩:=ho4.form_some (by intro h;have h1:=HPL.out;have h3:PD.length=0:=(by rw [←byL,h];rfl);omega)
     injection he5 with he5 he5b he5c
     subst he5
     clear he5b he5c
     have hb3':Below w2.heap.size w2 wr:=by rw [←hB.out];exact hb3
     have o1:=(ho1.below hb2).below hb3'
     have o2:=ho2.below hb3'
     have hbw:Below w.heap.size w wr:=(hb1.trans (hb2.mono hb1.size)).trans (hb3'.mono (Nat.le_trans hb1.size hb2.size))
     have hg3:g3<w1.heap.size:=(ho1.lt g3 rfl).2
     have hg4:w1.heap.size≤g4:=(ho2.lt g4 rfl).1
     have hg5:B≤g5:=(ho4.lt g5 rfl).1
     have hs12:w1.heap.size≤B:=by rw [hB.out];exact hb2.size
     clear ho1 ho2 hb3 hb1 hb2 HR8 HR3
     rw [show(wrds h0l).length=8 from rfl]at o1⊢
     rw [show(wrds kTab).length=64 from rfl]at o2⊢
     generalize hPn:L+8=PL at*
     have HPn:=Lib.hid hPn;clear hPn
     have hPb:PL≤1099511627776+73:=by have:=HPn.out;omega
     obtain⟨wb,hwb⟩: ∃wb:World,wb=wr:=⟨_,rfl⟩
     rw [←hwb]at ho4 o1 o2 hbw
     have hF0:Frm (· =g3) wb wr:=by rw [hwb];exact Frm.refl _ _
     rw [hwb]at o1
     have HH:Hid (blocks PD.length h0 PD=blocks PD.length h0 (PD.drop 0)):=rfl
     have HN:Hid (PD.length-0≤PD.length):=Nat.le_refl _
     clear hwb
     go_loopw [7] (fun v7 wx=> ∃(st:St8) (n S:Nat),S≤PL∧v7= .int .i64 S∧Hid (S%64=0)∧Hid (PD.length-S≤n)∧Hid (blocks PD.length h0 PD=blocks n st (PD.drop S))∧OwnAt wx w.heap.size 198 (.slice (some ⟨g3,o3,none⟩) 8 c8) (wrds st.lst)∧Frm (· =g3) wb wx) (fun v7 _=>PL+1-(intOf v7).toNat)
     case atStart=>exact⟨h0,PD.length,0,Nat.zero_le _,rfl,rfl,HN,HH,o1,hF0⟩
     case round=>
      obtain⟨st,n,S,hSP,rfl,HS,HNn,H,ho,hF⟩:=hrel
      obtain⟨w0,hw0e⟩: ∃x:World,x=wr:=⟨_,rfl⟩
      subst hw0e
      clear o1 hF0 HH HN
      by_cases hlt:S<PL
      ·have hlt':(S:Int)<(PL:Int):=by omega
       have hS64:S+64≤PL:=by have h1:=HS.out;have h2:=HPm.out;omega
       go_wp2_with fail
       have hw0:Below w0.heap.size w0 (w0.alloc (.cells ((wrds (List.replicate 64 0)).toArray) 199)):=(Below.refl _ _).alloc (Nat.le_refl _) _
       have hw0b:Blk (w0.alloc (.cells ((wrds (List.replicate 64 0)).toArray) 199)) w0.heap.size 199 (wrds (List.replicate 64 0)):=Blk.new w0 199 _
       obtain⟨blk,hblk⟩: ∃b:BS,b=(PD.drop S).take 64:=⟨_,rfl⟩
       have Hblk:=Lib.hid hblk;clear hblk
       have hd5: ∀i,i<64→wb.cell? ⟨g5,o5+(S+i),none⟩=some (.int .u8 (blk.getD i 0).toNat):=by
        intro i hi
        have h:=(ho4.cell_at (S+i) (.int .u8 (blk.getD i 0).toNat) (by
         have hl:=HPL.out
         rw [Hblk.out]
         simp [byts,List.getD_eq_getElem?_getD,List.getElem?_take,hi,List.getElem?_drop]
         exact⟨PD[S+i]'(by omega),by simp,by rw [List.getElem?_eq_getElem (by omega)];rfl⟩)).1
        exact h
       have hgwb:=hF.size
       generalize hgw0:w0.heap.size=gw at*
       have hgw:=Lib.hid hgw0;clear hgw0
       have hg5w:g5<wb.heap.size:=(ho4.lt g5 rfl).2
       have hg53: ¬g5=g3:=by omega
       have hV0:=Lib.hid (zeros64 blk)
       go_loopw [9] (fun v9 wx=> ∃(k:Nat) (vs:List UInt32),k≤16∧v9= .int .i64 k∧Blk wx gw 199 (wrds vs)∧Hid (vs.length=64∧vs.take k=words blk k∧∀i,k≤i→i<16→vs.getD i 0=0)∧Below gw w0 wx) (fun v9 _=>16-(intOf v9).toNat)
       case atStart=>exact⟨0,_,Nat.zero_le _,rfl,hw0b,hV0,hw0⟩
       case round=>
        obtain⟨k,vs,hk16,rfl,hw1,HV,hb1⟩:=hrel
        clear hw0 hw0b hV0
        by_cases hk:k<16
        ·have hkI:(k:Int)<16:=by omega
         have hk0:(0:Int)≤(k:Int):=by omega
         have hk64:(k:Int)<64:=by omega
         have hm1:IntKind.i64.wrap (4*(k:Int))=4*(k:Int):=by rw [IntKind.wrap_i64];omega
         have hm2:IntKind.i64.wrap ((S:Int)+4*(k:Int))=(S:Int)+4*(k:Int):=by rw [IntKind.wrap_i64];omega
         have hV1:Hid (vs.length=64∧vs.take k=words blk k∧∀i,k+1≤i→i<16→vs.getD i 0=0):=⟨HV.out.1,HV.out.2.1,fun i h1 h2=>HV.out.2.2 i (by omega) h2⟩
         have hvk:vs.set k (part blk k 0)=vs:=by
          have h1:=HV.out.1
          have h2:=HV.out.2.2 k (Nat.le_refl _) hk
          apply List.ext_getElem?
          intro i
          rw [List.getElem?_set]
          split
          ·rename_i e;subst e
           rw [if_pos (by omega),List.getElem?_eq_getElem (by omega)]
           rw [List.getD_eq_getElem?_getD,List.getElem?_eq_getElem (by omega)]at h2
           simpa [part]using h2.symm
          ·rfl
         go_wp2_with fail
         have hw1':Blk wr gw 199 (wrds (vs.set k (part blk k 0))):=by rw [hvk];exact hw1
         go_loopw [10] (fun v10 wx=> ∃(j:Nat),j≤4∧v10= .int .i64 j∧Blk wx gw 199 (wrds (vs.set k (part blk k j)))∧Below gw w0 wx) (fun v10 _=>4-(intOf v10).toNat)
         case atStart=>exact⟨0,Nat.zero_le _,rfl,hw1',hb1⟩
         case round=>
          obtain⟨j,hj4,rfl,hw2,hb2⟩:=hrel
          clear hw1' hvk hw1 hb1
          by_cases hj:j<4
          ·have hjI:(j:Int)<4:=by omega
           have hj0:(0:Int)≤(j:Int):=by omega
           have hm3:IntKind.i64.wrap ((S:Int)+4*(k:Int)+(j:Int))=(S:Int)+4*(k:Int)+(j:Int):=by rw [IntKind.wrap_i64];omega
           have hi0:(0:Int)≤(S:Int)+4*(k:Int)+(j:Int):=by omega
           have hi1:(S:Int)+4*(k:Int)+(j:Int)<(PL:Int):=by omega
           have ck:=hw2.cell k (.int .u32 (W (part blk k j))) (by have:=HV.out.1;simp [wrds,show k<vs.length by omega])
           have fk:=hw2.frozen k
           obtain⟨b,hb⟩: ∃b,b=blk.getD (4*k+j) 0:=⟨_,rfl⟩
           have Hb:=Lib.hid hb;clear hb
           have cd:wr.cell? ⟨g5,o5+((S:Int)+4*(k:Int)+(j:Int)).toNat,none⟩=some (.int .u8 b.toNat):=by
            have h1:=hd5 (4*k+j) (by omega)
            rw [show((S:Int)+4*(k:Int)+(j:Int)).toNat=S+(4*k+j) by omega,Hb.out]
            exact(hb2.cell (p:=⟨g5,_,none⟩) (show g5<gw by omega)).trans (frC hF h1 hg53)
           have hgne:g5≠gw:=by omega
           go_wp2_with fail
           go_still_tail 17,(by kernel_rfl)
           change wpList _ _ _ _ _ wr.drew
           have hw2d:=(hw2.drew).set k (.int .u32 (W (part blk k (j+1))))
           have hb2d:=(bdw hb2).setCell (p:=⟨gw,k,none⟩) (Nat.le_refl _) (.int .u32 (W (part blk k (j+1))))
           have hq:(wrds (vs.set k (part blk k j))).set k (.int .u32 (W (part blk k (j+1))))=wrds (vs.set k (part blk k (j+1))):=by simp only [wrds,←List.map_set,List.set_set]
           have hpe:part blk k j<<<8|||b.toUInt32=part blk k (j+1):=by rw [Hb.out];rfl
           rw [hq]at hw2d
           have ckd:wr.drew.cell? ⟨gw,k,none⟩=some (.int .u32 (W (part blk k j))):=ck
           have fkd:wr.drew.frozen? ⟨gw,k,none⟩=false:=fk
           clear hq ck fk cd hw2 hb2
           generalize wr.drew=wd at*
           go_wp2_with fail
           go_roundw
           case rel=>
            repeat apply Exists.intro
            exact⟨⟨j+1,hj,by go_num,hw2d,hb2d⟩,rfl⟩
           case measure=>simp [intOf];omega
          ·obtain rfl:j=4:=by omega
           have HV3:Hid ((vs.set k (part blk k 4)).length=64∧(vs.set k (part blk k 4)).take (k+1)=words blk (k+1)∧∀i,k+1≤i→i<16→(vs.set k (part blk k 4)).getD i 0=0):=by
            have h:=HV.out
            refine⟨by rw [List.length_set];exact h.1,?_,fun i h1 h2=> ?_⟩
            ·rw [take_set _ _ _ (by omega),h.2.1,words,nextW,words_length,if_pos hk,part_four]
            ·have:=h.2.2 i (by omega) h2
             rw [List.getD_eq_getElem?_getD]at this⊢
             rw [List.getElem?_set_ne (by omega)];exact this
           go_wp2_with fail
           go_roundw
           case rel=>exact⟨k+1,_,hk,by go_num,hw2,HV3,hb2⟩
           case measure=>simp [intOf];omega
        ·obtain rfl:k=16:=by omega
         clear hk16 hk
         have HV16:Hid (vs.length=64∧vs.take 16=words blk 16):=⟨HV.out.1,HV.out.2.1⟩
         clear HV hd5
         go_wp2_with fail
         refine sched_loop blk vs gw w0 wr hw1 HV16 hb1 _ _ _ _ _ _ _ _ _ _ _ _ _ _ _ _ _ _ _ _ _ _ _ _ _ _ _ _ _ _ _ _ _ _ _ _ _ _ _ _ _ _ _ _ _ _ _ _ _ _ _ _ _ _ _ _ _ _ _ _ _ _ _ _ _ _ _ _ _ _ _ _ _ _ _ _ _ _ _ _ _ _ _ _ _ _ _ _ _ _ _ _ _ _ _ _ _ _ _ _ _ _ _ _ _ _ _ _ _ _ _ _ _ _ _ _ _ _ _ _ _ _ _ _ _ _ _ _ _ _ _ _ _ _ _ _ _ _ _ _ _ _ _ _ _ _ _ _ _ _ _ _ _ _ _ _ _ _ _ _ _ _ _ _ _ _ _ _ _ _ _ _ _ _ _ _ _ _ _ _ _ _ _ _ _ _ _ _ _ _ _ _ _ _ _ _ _ _ _ _ _ _ _ _ _ _ _ _ _ _ _ _ _ _ _ _ _ _ _ _ _ _ _ _ _ _ _ _ _ _ _ _ _ _ _ _ _ _ _ _ _ _ _ _ _ _ _ _ _ _ _ _ _ _ _ _ _ _ _ _ _ _ _ _ _ _ _ _ _ _ ?_
         clear hw1 HV16 hb1
         intro y12 y13 y82 y83 y84 y85 y86 y87 y88 y89 y90 y91 y92 y93 y94 y95 y96 y97 y98 y99 y100 y101 y102 y103 y104 y105 y106 y107 y108 y109 y110 y111 y112 y113 y114 y115 y116 y117 y118 y119 y120 y121 y122 vs wr HV hw2 hb2
         obtain⟨ws,hws⟩: ∃x,Hid (x=words blk 64):=⟨_,rfl⟩
         have hwd:vs=ws:=by rw [hws.out,←HV.out.2,List.take_of_length_le (Nat.le_of_eq HV.out.1)]
         subst hwd
         clear HV
         have hgw2:=hw2.lt
         have hl0:OwnAt (wr.alloc (.cells #[] 198)) wr.heap.size 198 (.slice (some ⟨wr.heap.size,0,none⟩) 0 0) (wrds []):=OwnAt.lit wr wr.heap.size 198 [] (Nat.le_refl _) (by simp [maxLen])
         have ho3:OwnAt wr w.heap.size 198 (.slice (some ⟨g3,o3,none⟩) 8 c8) (wrds st.lst):=ho.below (by rw [hgw.out];exact hb2)
         have hr3:=(ho3.alloc (.cells #[] 198)).rd
         go_wp2_with (first
          |(at_builtin;refine appWd rfl (.tmp 123) (.tmp 124) rfl [] st.lst rfl hl0 rfl (Src.rd hr3 (wrds_one _)) (by simp [St8.lst]) (leA _ _) ?_;intro v5 w5 ho5 _ hb5 _;rw [List.nil_append]at ho5;have hb5':Below wr.heap.size wr w5:=((Below.refl _ _).alloc (Nat.le_refl _) _).trans hb5;clear hl0 hr3 hb5)
          |fail)
         have hr5:Hid (OwnAt w5 gw 198 v5 (wrds st.lst)):=ho5.mono (by have:=hb2.size;rw [hgw.out]at this;exact this)
         have hw5:Blk w5 gw 199 (wrds vs):=hw2.below hb5' hgw2
         have hb05:Below gw w0 w5:=hb2.trans (hb5'.mono (by have:=hb2.size;rw [hgw.out]at this;exact this))
         have ho35:OwnAt w5 w.heap.size 198 (.slice (some ⟨g3,o3,none⟩) 8 c8) (wrds st.lst):=ho3.below hb5'
         have HR0:Hid (rounds blk st 0=st):=rfl
         have hg4w:g4<wb.heap.size:=(o2.lt g4 rfl).2
         have hkt: ∀k,k<64→w5.cell? ⟨g4,o4+k,none⟩=some (.int .u32 (W (kTab.getD k 0))):=by
          intro k hk
          have h:=(o2.cell_at k (.int .u32 (W (kTab.getD k 0))) (by
           have hl:kTab.length=64:=rfl
           simp only [wrds,List.getElem?_map]
           rw [List.getElem?_eq_getElem (by omega),List.getD_eq_getElem?_getD,List.getElem?_eq_getElem (by omega)];rfl)).1
          exact(hb05.cell (p:=⟨g4,_,none⟩) (show g4<gw by omega)).trans (frC hF h (show¬g4=g3 by omega))
         have Hkt:=Lib.hid hkt;clear hkt
         have hb5r:Below w5.heap.size w5 w5:=Below.refl _ _
         clear hw2 hb2 hb5' ho5 ho3 hgw2
         refine rounds_loop st blk vs gw g4 o4 c64 v5 w5 hr5 hw5 hws Hkt _ ?_
         clear hb5r HR0 hr5
         intro x16 x17 x18 x19 x126 x127 x128 x129 x130 x131 x132 x133 x134 x135 x136 x137 x138 x139 x140 x141 x142 x143 x144 x145 x146 x147 x148 x149 x150 x151 x152 x153 x154 x155 x156 x157 x158 x159 x160 x161 x162 x163 x164 x165 x166 x167 x168 x169 x170 x171 x172 x173 x174 x175 x176 x177 x178 x179 x180 x181 x182 x183 x184 x185 x186 x187 x188 x189 x190 x191 x192 x193 x194 x195 x196 x197 x198 x199 x200 x201 x202 x203 x204 x205 x206 x207 x208 x209 x210 x211 x212 x213 x214 x215 x216 x217 x218 x219 x220 x221 x222 x223 x224 gv ov cv t wr HR hrv hb
         have hcv: ∀j u,(wrds t.lst)[j]?=some u→wr.cell? ⟨gv,ov+j,none⟩=some u:=fun j u hu=>(hrv.out.cell_at j u hu).1
         have hgvl:=(hrv.out.lt gv rfl).1
         have ho3r:OwnAt wr w.heap.size 198 (.slice (some ⟨g3,o3,none⟩) 8 c8) (wrds (half st t 0)):=ho35.below hb
         have hrvr:=hrv.out
         have hg3v: ¬gv=g3:=by omega
         have hF0:Frm (· =g3) wr wr:=Frm.refl _ _
         have hvc: ∀i,i<8→wr.cell? ⟨gv,ov+i,none⟩=some (.int .u32 (W (t.lst.getD i 0))):=fun i hi=>hcv i _ (by
          have hl:t.lst.length=8:=rfl
          simp only [wrds,List.getElem?_map]
          rw [List.getElem?_eq_getElem (by omega),List.getD_eq_getElem?_getD,List.getElem?_eq_getElem (by omega)];rfl)
         have Hvc:=Lib.hid hvc
         obtain⟨wv,hwv⟩: ∃x:World,x=wr:=⟨_,rfl⟩
         rw [←hwv]at Hvc
         have hF0:Frm (· =g3) wv wr:=by rw [hwv];exact Frm.refl _ _
         have hbv:Below w5.heap.size w5 wv:=by rw [hwv];exact hb
         clear hvc hcv hrvr hb hrv hwv
         go_wp2_with fail
         go_loopw [20] (fun v20 wx=> ∃i:Nat,i≤8∧v20= .int .i64 i∧OwnAt wx w.heap.size 198 (.slice (some ⟨g3,o3,none⟩) 8 c8) (wrds (half st t i))∧Frm (· =g3) wv wx) (fun v20 _=>8-(intOf v20).toNat)
         case atStart=>exact⟨0,by omega,rfl,ho3r,hF0⟩
         case round=>
          obtain⟨i,hi8,rfl,hoi,hFi⟩:=hrel
          clear ho3r hF0
          by_cases hi:i<8
          ·have hi0:(0:Int)≤(i:Int):=by omega
           have hi1:(i:Int)<8:=by omega
           obtain⟨xs,hxs⟩: ∃y,Hid (y=st.lst.getD i 0):=⟨_,rfl⟩
           obtain⟨ys,hys⟩: ∃y,Hid (y=t.lst.getD i 0):=⟨_,rfl⟩
           have hci:=hoi.cell_at i (.int .u32 (W xs)) (by rw [hxs.out];exact half_at st t i hi)
           have c3:=hci.1
           have f3:=hci.2
           have cvi:wr.cell? ⟨gv,ov+i,none⟩=some (.int .u32 (W ys)):=by rw [hys.out];exact frC hFi (Hvc.out i hi) hg3v
           clear hci
           go_wp2_with fail
           go_still_tail 10,(by kernel_rfl)
           change wpList _ _ _ _ _ wr.drew
           have hos:OwnAt (wr.drew.setCell ⟨g3,o3+i,none⟩ (.int .u32 (W (xs+ys)))) w.heap.size 198 (.slice (some ⟨g3,o3,none⟩) 8 c8) (wrds (half st t (i+1))):=by
            have h:=hoi.drew.set_at i (.int .u32 (W (xs+ys))) (by rw [wrds_length,half_len];omega)
            rw [hxs.out,hys.out]at h⊢
            rw [half_set st t i hi]at h
            exact h
           have hFs:Frm (· =g3) wv (wr.drew.setCell ⟨g3,o3+i,none⟩ (.int .u32 (W (xs+ys)))):=hFi.drew.setCell ⟨g3,o3+i,none⟩ _ (fun _=>rfl)
           have c3d:wr.drew.cell? ⟨g3,o3+i,none⟩=some (.int .u32 (W xs)):=c3
           have f3d:wr.drew.frozen? ⟨g3,o3+i,none⟩=false:=f3
           clear c3 f3 cvi hoi hFi
           generalize wr.drew=wd at*
           go_wp2_with fail
           go_roundw
           case rel=>first|exact⟨i+1,hi,by go_num,hos,hFs⟩|((repeat apply Exists.intro);exact⟨⟨i+1,hi,by go_num,hos,hFs⟩,rfl⟩)
           case measure=>simp [intOf];omega
          ·obtain rfl:i=8:=by omega
           have ho8:OwnAt wr w.heap.size 198 (.slice (some ⟨g3,o3,none⟩) 8 c8) (wrds (block st blk).lst):=by
            have e:block st blk=plus st t:=by rw [block,HR.out]
            rw [e];exact hoi
           obtain⟨n',rfl⟩: ∃n',n=n'+1:=⟨n-1,by have:=HNn.out;have:=HPL.out;omega⟩
           have HB:Hid (blocks PD.length h0 PD=blocks n' (block st blk) (PD.drop (S+64))):=by
            show _=_
            rw [H.out,blocks,if_pos (by rw [List.length_drop];have:=HPL.out;omega),←Hblk.out,List.drop_drop]
           have HS2:Hid ((S+64)%64=0):=by have:=HS.out;show _%_=_;omega
           have HN2:Hid (PD.length-(S+64)≤n'):=by have:=HNn.out;show _≤_;omega
           have hFw:Frm (· =g3) wb wr:=((hF.trans (Frm.of_new (by rw [←hgw.out]at hb05;exact hb05))).trans (Frm.of_new hbv)).trans hFi
           have hm9:IntKind.i64.wrap ((S:Int)+64)=(S:Int)+64:=by rw [IntKind.wrap_i64];omega
           go_wp2_with fail
           go_roundw
           case rel=>first|exact⟨block st blk,n',S+64,hS64,by go_num,HS2,HN2,HB,ho8,hFw⟩|((repeat apply Exists.intro);exact⟨⟨block st blk,n',S+64,hS64,by go_num,HS2,HN2,HB,ho8,hFw⟩,rfl⟩)
           case measure=>simp [intOf];omega
      ·obtain rfl:S=PL:=by omega
       have HB:Hid (sha l=st.bytes):=by
        show _=_
        rw [Hsh.out,H.out,List.drop_eq_nil_of_le (Nat.le_of_eq HPL.out)]
        cases n<;>simp [blocks]
       have hnil:OwnAt w0 w0.heap.size 5 (.slice none 0 0) (byts (outB st 0)):=OwnAt.nil _ _ _
       have hbr:Below w.heap.size w w0:=hbw.trans (hF.below (fun k hk e=>by rw [e];exact(ho.lt g3 rfl).1) hbw.size)
       have hgl3:=(ho.lt g3 rfl)
       have hbl:Below w0.heap.size w0 w0:=Below.refl _ _
       obtain⟨wv,hwv⟩: ∃x:World,x=w0:=⟨_,rfl⟩
       rw [←hwv]at hnil hbl
       have hnil:OwnAt w0 wv.heap.size 5 (.slice none 0 0) (byts (outB st 0)):=by rw [hwv];exact OwnAt.nil _ _ _
       have hbl:Below wv.heap.size wv w0:=by rw [hwv];exact Below.refl _ _
       have hov:OwnAt wv w.heap.size 198 (.slice (some ⟨g3,o3,none⟩) 8 c8) (wrds st.lst):=by rw [hwv];exact ho
       have hbv:Below w.heap.size w wv:=by rw [hwv];exact hbr
       clear ho hF hbr hwv o2 ho4
       go_wp2_with fail
       go_loopw [21,22] (fun v21 v22 wx=> ∃(i:Nat) (A:Option Addr) (c:Nat),i≤8∧v22= .int .i64 i∧v21= .slice A (4*i) c∧OwnAt wx wv.heap.size 5 v21 (byts (outB st i))∧Below wv.heap.size wv wx) (fun _ v22 _=>8-(intOf v22).toNat)
       case atStart=>exact⟨0,none,0,by omega,rfl,rfl,hnil,hbl⟩
       case round=>
        obtain⟨i,A,c,hi8,rfl,rfl,hoi,hbi⟩:=hrel
        clear hnil hbl
        by_cases hi:i<8
        ·have hi0:(0:Int)≤(i:Int):=by omega
         have hi1:(i:Int)<8:=by omega
         obtain⟨x,hx⟩: ∃y,Hid (y=st.lst.getD i 0):=⟨_,rfl⟩
         have c3:=((hov.below hbi).cell_at i (.int .u32 (W x)) (by
          rw [hx.out]
          have hl:st.lst.length=8:=rfl
          simp only [wrds,List.getElem?_map]
          rw [List.getElem?_eq_getElem (by omega),List.getD_eq_getElem?_getD,List.getElem?_eq_getElem (by omega)];rfl)).1
         have hoid:=hoi.drew
         have hbid:=bdw hbi
         have hlo:(outB st i).length≤32:=by rw [outB_len _ _ hi8];omega
         have Hc:Hid (∀q,Below wv.heap.size wv q→q.cell? ⟨g3,o3+i,none⟩=some (.int .u32 (W x))):=fun q hq=>((hov.below hq).cell_at i (.int .u32 (W x)) (by
          rw [hx.out]
          have hl:st.lst.length=8:=rfl
          simp only [wrds,List.getElem?_map]
          rw [List.getElem?_eq_getElem (by omega),List.getD_eq_getElem?_getD,List.getElem?_eq_getElem (by omega)];rfl)).1
         clear hoi hbi c3
         go_wp2_with fail
         go_region_held3 (fun q=>q.cell? ⟨g3,o3+i,none⟩=some (.int .u32 (W x))) ((refine Hc.out _ ?_;first|assumption|exact hbid.alloc hbid.size _))
          ((refine step_appBs [(x>>>24).toUInt8,(x>>>16).toUInt8,(x>>>8).toUInt8,x.toUInt8] (by rfl) (.tmp 243) (.tmp 267) (by rfl) (outB st i) (by rfl) hoid _ _ _ (by rfl) (by rfl) (by rfl) (by rfl) (by simp only [List.length_cons,List.length_nil];omega) hbid (Nat.le_refl _) ?_;intro v2 w2 ho2 _ hb2))
         all_goals
          obtain⟨A4,c4,hv2⟩:=ho2.form
          have hv2e:v2= .slice A4 (4*(i+1)) c4:=by rw [hv2,byL,List.length_append,outB_len _ _ hi8];congr 1
          clear hv2;subst hv2e
          have ho3:OwnAt w2 wv.heap.size 5 (.slice A4 (4*(i+1)) c4) (byts (outB st (i+1))):=by rw [outB_snoc _ _ hi,←hx.out];exact ho2
          clear ho2
          go_wp2_with fail
          go_roundw
          case rel=>
           repeat apply Exists.intro
           exact⟨⟨i+1,A4,c4,hi,by go_num,rfl,ho3,hb2⟩,rfl⟩
          case measure=>simp [intOf];omega
        ·obtain rfl:i=8:=by omega
         have hcv:=cvB hoi.rd
         rw [show outB st 8=st.bytes from rfl,←HB.out]at hcv
         go_wp2
         go_ret
         exact⟨rfl,hbv.trans (hbi.mono hbv.size)⟩
    ·have hm7:m=0∨m=1∨m=2∨m=3∨m=4∨m=5∨m=6∨m=7:=by omega
     clear hm hm8
     rcases hm7 with rfl|rfl|rfl|rfl|rfl|rfl|rfl|rfl
     ·go_wp2_with (first
       |(at_builtin;refine appB1 rfl (.tmp 40) (.tmp 49) rfl _ _ _ rfl rfl ho3 rfl (by have:=HDL.out;simp only [List.length_append,List.length_take];omega) hb3 (Nat.le_of_eq hB.out) ?_;intro v2 w2 ho2 _ hb2;obtain⟨A4,c4,hv2⟩:=ho2.form;have hv2e:v2= .slice A4 (L+1) c4:=(by rw [hv2,byL];congr 1;have:=HDL.out;simp [lenBs];omega);clear hv2;subst hv2e;have ho4:OwnAt w2 B 5 (.slice A4 (L+1) c4) (byts (D++(lenBs N).take 1)):=(by simpa [lenBs]using ho2);clear ho2)
       |fail)
      go_roundw
      case rel=>exact⟨1,A4,c4,by omega,rfl,rfl,ho4,hb2⟩
      case measure=>simp [intOf]
     ·go_wp2_with (first
       |(at_builtin;refine appB1 rfl (.tmp 40) (.tmp 49) rfl _ _ _ rfl rfl ho3 rfl (by have:=HDL.out;simp only [List.length_append,List.length_take];omega) hb3 (Nat.le_of_eq hB.out) ?_;intro v2 w2 ho2 _ hb2;obtain⟨A4,c4,hv2⟩:=ho2.form;have hv2e:v2= .slice A4 (L+2) c4:=(by rw [hv2,byL];congr 1;have:=HDL.out;simp [lenBs];omega);clear hv2;subst hv2e;have ho4:OwnAt w2 B 5 (.slice A4 (L+2) c4) (byts (D++(lenBs N).take 2)):=(by simpa [lenBs]using ho2);clear ho2)
       |fail)
      go_roundw
      case rel=>exact⟨2,A4,c4,by omega,rfl,rfl,ho4,hb2⟩
      case measure=>simp [intOf]
     ·go_wp2_with (first
       |(at_builtin;refine appB1 rfl (.tmp 40) (.tmp 49) rfl _ _ _ rfl rfl ho3 rfl (by have:=HDL.out;simp only [List.length_append,List.length_take];omega) hb3 (Nat.le_of_eq hB.out) ?_;intro v2 w2 ho2 _ hb2;obtain⟨A4,c4,hv2⟩:=ho2.form;have hv2e:v2= .slice A4 (L+3) c4:=(by rw [hv2,byL];congr 1;have:=HDL.out;simp [lenBs];omega);clear hv2;subst hv2e;have ho4:OwnAt w2 B 5 (.slice A4 (L+3) c4) (byts (D++(lenBs N).take 3)):=(by simpa [lenBs]using ho2);clear ho2)
       |fail)
      go_roundw
      case rel=>exact⟨3,A4,c4,by omega,rfl,rfl,ho4,hb2⟩
      case measure=>simp [intOf]
     ·go_wp2_with (first
       |(at_builtin;refine appB1 rfl (.tmp 40) (.tmp 49) rfl _ _ _ rfl rfl ho3 rfl (by have:=HDL.out;simp only [List.length_append,List.length_take];omega) hb3 (Nat.le_of_eq hB.out) ?_;intro v2 w2 ho2 _ hb2;obtain⟨A4,c4,hv2⟩:=ho2.form;have hv2e:v2= .slice A4 (L+4) c4:=(by rw [hv2,byL];congr 1;have:=HDL.out;simp [lenBs];omega);clear hv2;subst hv2e;have ho4:OwnAt w2 B 5 (.slice A4 (L+4) c4) (byts (D++(lenBs N).take 4)):=(by simpa [lenBs]using ho2);clear ho2)
       |fail)
      go_roundw
      case rel=>exact⟨4,A4,c4,by omega,rfl,rfl,ho4,hb2⟩
      case measure=>simp [intOf]
     ·go_wp2_with (first
       |(at_builtin;refine appB1 rfl (.tmp 40) (.tmp 49) rfl _ _ _ rfl rfl ho3 rfl (by have:=HDL.out;simp only [List.length_append,List.length_take];omega) hb3 (Nat.le_of_eq hB.out) ?_;intro v2 w2 ho2 _ hb2;obtain⟨A4,c4,hv2⟩:=ho2.form;have hv2e:v2= .slice A4 (L+5) c4:=(by rw [hv2,byL];congr 1;have:=HDL.out;simp [lenBs];omega);clear hv2;subst hv2e;have ho4:OwnAt w2 B 5 (.slice A4 (L+5) c4) (byts (D++(lenBs N).take 5)):=(by simpa [lenBs]using ho2);clear ho2)
       |fail)
      go_roundw
      case rel=>exact⟨5,A4,c4,by omega,rfl,rfl,ho4,hb2⟩
      case measure=>simp [intOf]
     ·go_wp2_with (first
       |(at_builtin;refine appB1 rfl (.tmp 40) (.tmp 49) rfl _ _ _ rfl rfl ho3 rfl (by have:=HDL.out;simp only [List.length_append,List.length_take];omega) hb3 (Nat.le_of_eq hB.out) ?_;intro v2 w2 ho2 _ hb2;obtain⟨A4,c4,hv2⟩:=ho2.form;have hv2e:v2= .slice A4 (L+6) c4:=(by rw [hv2,byL];congr 1;have:=HDL.out;simp [lenBs];omega);clear hv2;subst hv2e;have ho4:OwnAt w2 B 5 (.slice A4 (L+6) c4) (byts (D++(lenBs N).take 6)):=(by simpa [lenBs]using ho2);clear ho2)
       |fail)
      go_roundw
      case rel=>exact⟨6,A4,c4,by omega,rfl,rfl,ho4,hb2⟩
      case measure=>simp [intOf]
     ·go_wp2_with (first
       |(at_builtin;refine appB1 rfl (.tmp 40) (.tmp 49) rfl _ _ _ rfl rfl ho3 rfl (by have:=HDL.out;simp only [List.length_append,List.length_take];omega) hb3 (Nat.le_of_eq hB.out) ?_;intro v2 w2 ho2 _ hb2;obtain⟨A4,c4,hv2⟩:=ho2.form;have hv2e:v2= .slice A4 (L+7) c4:=(by rw [hv2,byL];congr 1;have:=HDL.out;simp [lenBs];omega);clear hv2;subst hv2e;have ho4:OwnAt w2 B 5 (.slice A4 (L+7) c4) (byts (D++(lenBs N).take 7)):=(by simpa [lenBs]using ho2);clear ho2)
       |fail)
      go_roundw
      case rel=>exact⟨7,A4,c4,by omega,rfl,rfl,ho4,hb2⟩
      case measure=>simp [intOf]
     ·go_wp2_with (first
       |(at_builtin;refine appB1 rfl (.tmp 40) (.tmp 49) rfl _ _ _ rfl rfl ho3 rfl (by have:=HDL.out;simp only [List.length_append,List.length_take];omega) hb3 (Nat.le_of_eq hB.out) ?_;intro v2 w2 ho2 _ hb2;obtain⟨A4,c4,hv2⟩:=ho2.form;have hv2e:v2= .slice A4 (L+8) c4:=(by rw [hv2,byL];congr 1;have:=HDL.out;simp [lenBs];omega);clear hv2;subst hv2e;have ho4:OwnAt w2 B 5 (.slice A4 (L+8) c4) (byts (D++(lenBs N).take 8)):=(by simpa [lenBs]using ho2);clear ho2)
       |fail)
      go_roundw
      case rel=>exact⟨8,A4,c4,by omega,rfl,rfl,ho4,hb2⟩
      case measure=>simp [intOf]
end Go.Proofs.YtgilnagajcfkpaaGreatDoor
