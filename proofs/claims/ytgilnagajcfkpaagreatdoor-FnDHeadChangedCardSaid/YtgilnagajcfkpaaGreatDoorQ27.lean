import Derived.StillTailTactics
import Derived.Test.YtgilnagajcfkpaaGreatDoorQ24
set_option maxHeartbeats 4000000
set_option maxRecDepth 1000000
set_option linter.all false
namespace Go.Proofs.YtgilnagajcfkpaaGreatDoor
open Go.RowKit
@[go_sem] theorem w_shl24 (x:UInt32):IntKind.u32.wrap (W x*(16777216:Int))=W (x<<<24):=by have:=w_shl x 24 24 rfl (by decide);unfold W;rw [IntKind.wrap_u32'];omega
@[go_sem] theorem w_shl16 (x:UInt32):IntKind.u32.wrap (W x*(65536:Int))=W (x<<<16):=by have:=w_shl x 16 16 rfl (by decide);unfold W;rw [IntKind.wrap_u32'];omega
@[go_sem] theorem w_shl8 (x:UInt32):IntKind.u32.wrap (W x*(256:Int))=W (x<<<8):=by have:=w_shl x 8 8 rfl (by decide);unfold W;rw [IntKind.wrap_u32'];omega
@[go_sem] theorem w_byte0 (b:UInt8):IntKind.u32.wrap (b.toNat:Int)=W b.toUInt32:=by
  have h2:=b.toNat_lt;unfold W;rw [UInt8.toNat_toUInt32,IntKind.wrap_u32'];omega
theorem word_next (rest:BS)(k:Nat)(vs:List UInt32)(hk:k<16)(hl:64≤rest.length)(hv:vs.take k=words (rest.take 64) k) {b0 b1 b2 b3:UInt8}
 (h0:b0=rest.getD (k*4) 0)(h1:b1=rest.getD (k*4+1) 0)(h2:b2=rest.getD (k*4+2) 0)(h3:b3=rest.getD (k*4+3) 0):word b0 b1 b2 b3=nextW (rest.take 64) (words (rest.take 64) k):=by
 unfold nextW
 rw [words_length,if_pos hk]
 have e: ∀j,j<64→(rest.take 64).getD j 0=rest.getD j 0:=by
  intro j hj
  simp [List.getD_eq_getElem?_getD,List.getElem?_take,hj]
 rw [e _ (by omega),e _ (by omega),e _ (by omega),e _ (by omega),h0,h1,h2,h3,Nat.mul_comm 4 k]
theorem block_one (g:Nat)(s:St8)(bv pv:Value)(l:BS)(w:World)(hd:Blk w g 270 (s.vals++ [bv]))(hp:Rd w pv (byts l))(hk:KTab w)(hl:l.length≤140737488355328):
 Calls Tryz.prog 146 #[.pointer (some ⟨g,0,none⟩),pv] w fun e w'=>e= .returned (.tuple #[])∧Blk w' g 270 ((blocks l.length s l).vals++ [bv])∧w.grownBy w' (some g):=by
 have c0:w.cell? ⟨g,0,none⟩=some (.int .u32 (W s.a)):=hd.cell 0 _ rfl
 have c1:w.cell? ⟨g,1,none⟩=some (.int .u32 (W s.b)):=hd.cell 1 _ rfl
 have c2:w.cell? ⟨g,2,none⟩=some (.int .u32 (W s.c)):=hd.cell 2 _ rfl
 have c3:w.cell? ⟨g,3,none⟩=some (.int .u32 (W s.d)):=hd.cell 3 _ rfl
 have c4:w.cell? ⟨g,4,none⟩=some (.int .u32 (W s.e)):=hd.cell 4 _ rfl
 have c5:w.cell? ⟨g,5,none⟩=some (.int .u32 (W s.f)):=hd.cell 5 _ rfl
 have c6:w.cell? ⟨g,6,none⟩=some (.int .u32 (W s.g)):=hd.cell 6 _ rfl
 have c7:w.cell? ⟨g,7,none⟩=some (.int .u32 (W s.h)):=hd.cell 7 _ rfl
 have hg:=hd.lt
 have hk0':=Lib.hid hk;clear hk
 go_enter Tryz.func146,Tryz.ntmps146
 go_wp2
 go_quiet (fail)
 go_wp2
 have hw0:Below w.heap.size w (w.alloc (.cells ((wrds (List.replicate 64 0)).toArray) 199)):=(Below.refl _ _).alloc (Nat.le_refl _) _
 go_loopw [1,5,6,7,8,9,10,11,12] (fun p v5 v6 v7 v8 v9 v10 v11 v12 wr=> ∃(rest:BS) (st:St8) (n:Nat) (ws:List UInt32),Hid (Rd w p (byts rest))∧rest.length≤l.length∧rest.length≤n∧Hid (blocks l.length s l=blocks n st rest)∧
  v5= .int .u32 (W st.a)∧v6= .int .u32 (W st.b)∧v7= .int .u32 (W st.c)∧v8= .int .u32 (W st.d)∧v9= .int .u32 (W st.e)∧v10= .int .u32 (W st.f)∧v11= .int .u32 (W st.g)∧v12= .int .u32 (W st.h)∧
  Blk wr w.heap.size 199 (wrds ws)∧Hid (ws.length=64)∧Below w.heap.size w wr) (fun p _ _ _ _ _ _ _ _ _=>match p with| .slice _ n _=>n|_=>0)
 case atStart=>exact⟨l,s,l.length,List.replicate 64 0,hp,Nat.le_refl _,Nat.le_refl _,rfl,rfl,rfl,rfl,rfl,rfl,rfl,rfl,rfl,Blk.drewN (Blk.new w 199 _) _,rfl,bdN hw0 _⟩
 case round=>
  obtain⟨rest,st,n,ws,hp2,hrl,hrn,H,rfl,rfl,rfl,rfl,rfl,rfl,rfl,rfl,hw,hwl,hb⟩:=hrel
  clear c0 c1 c2 c3 c4 c5 c6 c7 hw0 hp
  obtain⟨A,cc,hpe,hcc,hpc⟩:=hp2.out
  subst hpe
  have Hpc:=Lib.hid hpc;clear hpc
  rw [byL]at*
  by_cases hlt:64≤rest.length
  ·obtain⟨m,rfl⟩: ∃m,n=m+1:=⟨n-1,by omega⟩
   have hlt':(64:Int)≤(rest.length:Int):=by omega
   have Hws:Hid (ws.length=64∧ws.take 0=words (rest.take 64) 0):=⟨hwl.out,rfl⟩
   have Hst:Hid (rounds (rest.take 64) st 0=st):=rfl
   obtain⟨wo,rfl⟩: ∃wo:World,wo=wr:=⟨_,rfl⟩
   go_wp2
   go_loopw [13,14,15,16,17,18,19,20,80] (fun v5 v6 v7 v8 v9 v10 v11 v12 i wx=> ∃(k:Nat) (t:St8) (vs:List UInt32),k≤64∧i= .int .i64 k∧Hid (rounds (rest.take 64) st k=t)∧
    v5= .int .u32 (W t.a)∧v6= .int .u32 (W t.b)∧v7= .int .u32 (W t.c)∧v8= .int .u32 (W t.d)∧v9= .int .u32 (W t.e)∧v10= .int .u32 (W t.f)∧v11= .int .u32 (W t.g)∧v12= .int .u32 (W t.h)∧
    Blk wx w.heap.size 199 (wrds vs)∧Hid (vs.length=64∧vs.take k=words (rest.take 64) k)∧Below w.heap.size w wx) (fun _ _ _ _ _ _ _ _ i _=>64-(intOf i).toNat)
   case atStart=>exact⟨0,st,ws,by omega,rfl,rfl,rfl,rfl,rfl,rfl,rfl,rfl,rfl,rfl,hw,Hws,hb⟩
   case round=>
    obtain⟨k,t,vs,hk64,rfl,Ht,rfl,rfl,rfl,rfl,rfl,rfl,rfl,rfl,hw2,Hvs,hb2⟩:=hrel
    clear hw Hws Hst hb
    by_cases hk:k<64
    ·have hk0:(0:Int)≤(k:Int):=by omega
     have hk1:(k:Int)<64:=by omega
     by_cases hk16:k<16
     ·as_aux_lemma=>
       have hk16':(k:Int)<16:=by omega
       obtain⟨gp,off,hA,hgp,hc⟩:=Hpc.out.resolve_left (by intro h;have:=congrArg List.length h;simp [byts]at this;simp [this]at hlt)
       subst hA
       have hcell: ∀j,j<rest.length→wr.cell? ⟨gp,off+j,none⟩=some (.int .u8 (rest.getD j 0).toNat):=fun j hj=>by
        rw [hb2.cell (p:=⟨gp,off+j,none⟩) hgp];exact hc j _ (by simp [byts,hj])
       have p0:=hcell (k*4) (by omega)
       have p1:=hcell (k*4+1) (by omega)
       have p2:=hcell (k*4+2) (by omega)
       have p3:=hcell (k*4+3) (by omega)
       obtain⟨b0,hb0⟩: ∃b,b=rest.getD (k*4) 0:=⟨_,rfl⟩
       obtain⟨b1,hb1⟩: ∃b,b=rest.getD (k*4+1) 0:=⟨_,rfl⟩
       obtain⟨b2,hb2'⟩: ∃b,b=rest.getD (k*4+2) 0:=⟨_,rfl⟩
       obtain⟨b3,hb3⟩: ∃b,b=rest.getD (k*4+3) 0:=⟨_,rfl⟩
       have t0:((k:Int)*4).toNat=k*4:=by omega
       have t1:((k:Int)*4+1).toNat=k*4+1:=by omega
       have t2:((k:Int)*4+2).toNat=k*4+2:=by omega
       have t3:((k:Int)*4+3).toNat=k*4+3:=by omega
       rw [←hb0,←t0]at p0;rw [←hb1,←t1]at p1;rw [←hb2',←t2]at p2;rw [←hb3,←t3]at p3
       clear t0 t1 t2 t3
       have F:Hid (word b0 b1 b2 b3=nextW (rest.take 64) (words (rest.take 64) k)):=word_next rest k vs hk16 hlt Hvs.out.2 hb0 hb1 hb2' hb3
       clear hb0 hb1 hb2' hb3
       have hr0:(0:Int)≤(k:Int)*4:=by omega
       have hr0':(k:Int)*4<(rest.length:Int):=by omega
       have hr1:(0:Int)≤(k:Int)*4+1:=by omega
       have hr1':(k:Int)*4+1<(rest.length:Int):=by omega
       have hr2:(0:Int)≤(k:Int)*4+2:=by omega
       have hr2':(k:Int)*4+2<(rest.length:Int):=by omega
       have hr3:(0:Int)≤(k:Int)*4+3:=by omega
       have hr3':(k:Int)*4+3<(rest.length:Int):=by omega
       have hw1:IntKind.i64.wrap ((k:Int)*4+1)=(k:Int)*4+1:=by rw [IntKind.wrap_i64];omega
       have hw2':IntKind.i64.wrap ((k:Int)*4+2)=(k:Int)*4+2:=by rw [IntKind.wrap_i64];omega
       have hw3:IntKind.i64.wrap ((k:Int)*4+3)=(k:Int)*4+3:=by rw [IntKind.wrap_i64];omega
       clear hcell hc
       have cw:=hw2.cell k (.int .u32 (W (vs.getD k 0))) (by have:=Hvs.out.1;simp [wrds,show k<vs.length by omega])
       have fw:=hw2.frozen k
       have hgw:gp≠w.heap.size:=by omega
       go_wp2_with fail
       go_still_tail 31,(by kernel_rfl)
       change wpList _ _ _ _ _ wr.drew
       have hw2d:=hw2.drew
       have hb2d:=bdw hb2
       have cwd:wr.drew.cell? ⟨w.heap.size,k,none⟩=some (.int .u32 (W (vs.getD k 0))):=cw
       have fwd:wr.drew.frozen? ⟨w.heap.size,k,none⟩=false:=fw
       clear p0 p1 p2 p3 cw fw hw2 hb2
       generalize wr.drew=wd at*
       have hw3':=hw2d.set k (.int .u32 (W (b0.toUInt32<<<24|||b1.toUInt32<<<16|||b2.toUInt32<<<8|||b3.toUInt32)))
       have hb3':=hb2d.setCell (p:=⟨w.heap.size,k,none⟩) (Nat.le_refl _) (.int .u32 (W (b0.toUInt32<<<24|||b1.toUInt32<<<16|||b2.toUInt32<<<8|||b3.toUInt32)))
       obtain⟨x,hx⟩: ∃x,Hid (x=(b0.toUInt32<<<24|||b1.toUInt32<<<16|||b2.toUInt32<<<8|||b3.toUInt32)):=⟨_,rfl⟩
       have hq:(wrds vs).set k (.int .u32 (W (b0.toUInt32<<<24|||b1.toUInt32<<<16|||b2.toUInt32<<<8|||b3.toUInt32)))=wrds (vs.set k x):=by rw [hx.out];simp only [wrds,List.map_set]
       rw [hq]at hw3'
       clear hq
       obtain⟨kk,hkk⟩: ∃y,Hid (y=kTab.getD k 0):=⟨_,rfl⟩
       have cw3:=hw3'.cell k (.int .u32 (W (b0.toUInt32<<<24|||b1.toUInt32<<<16|||b2.toUInt32<<<8|||b3.toUInt32))) (by rw [←hx.out];have:=Hvs.out.1;simp [wrds,show k<vs.length by omega])
       have ck3:(wd.setCell ⟨w.heap.size,k,none⟩ (.int .u32 (W (b0.toUInt32<<<24|||b1.toUInt32<<<16|||b2.toUInt32<<<8|||b3.toUInt32)))).cell? ⟨6,k,none⟩=some (.int .u32 (W kk)):=by
        rw [hkk.out]
        have hc6:=hk0'.out k hk
        exact(hb3'.cell (p:=⟨6,k,none⟩) (World.block_lt_of_cell? w _ hc6)).trans hc6
       have FX:Hid (x=nextW (rest.take 64) (words (rest.take 64) k)):=by show _=_;rw [hx.out];exact F.out
       have HT:Hid (rounds (rest.take 64) st (k+1)=rnd t kk x):=by
        show _=_
        rw [rounds,Ht.out,←hkk.out,words_get _ _ _ hk,←FX.out]
       have HV:Hid ((vs.set k x).length=64∧(vs.set k x).take (k+1)=words (rest.take 64) (k+1)):=by
        have:=Hvs.out
        exact⟨by rw [List.length_set];exact this.1,by rw [take_set _ _ _ (by omega),this.2,words,←FX.out]⟩
       clear Ht Hvs
       go_wp2_with fail
       go_quiet ((go_at_call 157;refine Calls.quiet_of_same (rotAny _ _ _ ?_);decide))
       go_wp2_with (first|(go_at_call 157;refine(rotAny _ _ _ ?hr).mono ?_;(case hr=>decide);rintro e w1 ⟨rfl,rfl⟩))
       go_roundw
       case rel=>exact⟨k+1,rnd t kk x,vs.set k x,by omega,by go_num,HT,by rw [hx.out];rfl,rfl,rfl,rfl,by rw [hx.out];rfl,rfl,rfl,rfl,hw3'.drewN _,HV,bdN hb3' _⟩
       case measure=>simp [intOf];omega
     ·as_aux_lemma=>
       have hk16':(16:Int)≤(k:Int):=by omega
       have hvl:=Hvs.out.1
       obtain⟨x2,hx2⟩: ∃y,Hid (y=vs.getD (k-2) 0):=⟨_,rfl⟩
       obtain⟨x15,hx15⟩: ∃y,Hid (y=vs.getD (k-15) 0):=⟨_,rfl⟩
       obtain⟨x7,hx7⟩: ∃y,Hid (y=vs.getD (k-7) 0):=⟨_,rfl⟩
       obtain⟨x16,hx16⟩: ∃y,Hid (y=vs.getD (k-16) 0):=⟨_,rfl⟩
       have c2:=hw2.cell (k-2) (.int .u32 (W x2)) (by rw [hx2.out];simp [wrds,show k-2<vs.length by omega])
       have c15:=hw2.cell (k-15) (.int .u32 (W x15)) (by rw [hx15.out];simp [wrds,show k-15<vs.length by omega])
       have c7:=hw2.cell (k-7) (.int .u32 (W x7)) (by rw [hx7.out];simp [wrds,show k-7<vs.length by omega])
       have c16:=hw2.cell (k-16) (.int .u32 (W x16)) (by rw [hx16.out];simp [wrds,show k-16<vs.length by omega])
       have t2:((k:Int)-2).toNat=k-2:=by omega
       have t15:((k:Int)-15).toNat=k-15:=by omega
       have t7:((k:Int)-7).toNat=k-7:=by omega
       have t16:((k:Int)-16).toNat=k-16:=by omega
       clear hvl
       have h20:(0:Int)≤(k:Int)-2:=by omega
       have h21:(k:Int)-2<64:=by omega
       have h150:(0:Int)≤(k:Int)-15:=by omega
       have h151:(k:Int)-15<64:=by omega
       have h70:(0:Int)≤(k:Int)-7:=by omega
       have h71:(k:Int)-7<64:=by omega
       have h160:(0:Int)≤(k:Int)-16:=by omega
       have h161:(k:Int)-16<64:=by omega
       have w2:IntKind.i64.wrap ((k:Int)-2)=(k:Int)-2:=by rw [IntKind.wrap_i64];omega
       have w15:IntKind.i64.wrap ((k:Int)-15)=(k:Int)-15:=by rw [IntKind.wrap_i64];omega
       have w7:IntKind.i64.wrap ((k:Int)-7)=(k:Int)-7:=by rw [IntKind.wrap_i64];omega
       have w16:IntKind.i64.wrap ((k:Int)-16)=(k:Int)-16:=by rw [IntKind.wrap_i64];omega
       have fw:=hw2.frozen k
       have q7:(7:Int)≤(k:Int):=by omega
       have q71:(k:Int)<64+7:=by omega
       have q72:(k:Int)<71:=by omega
       have q16:(k:Int)<64+16:=by omega
       have q17:(k:Int)<80:=by omega
       go_wp2_with (first|(go_at_call 157;refine(rotAny _ _ _ ?hr).mono ?_;(case hr=>decide);rintro e w1 ⟨rfl,rfl⟩))
       have HN:Hid (sg1 x2+x7+sg0 x15+x16=nextW (rest.take 64) (words (rest.take 64) k)):=by
        show _=_
        have hv:=Hvs.out.2
        have hl:=Hvs.out.1
        have hg: ∀j,j<k→vs.getD j 0=(words (rest.take 64) k).getD j 0:=fun j hj=>by
         rw [←hv]
         simp [List.getD_eq_getElem?_getD,List.getElem?_take,hj]
        unfold nextW
        rw [words_length,if_neg hk16,hx2.out,hx7.out,hx15.out,hx16.out,hg _ (by omega),hg _ (by omega),hg _ (by omega),hg _ (by omega)]
       have u7:((k:Int)-7).toNat=k-7:=by omega
       have u16:((k:Int)-16).toNat=k-16:=by omega
       have c7':=c7;have c16':=c16
       rw [←u7]at c7';rw [←u16]at c16'
       clear u7 u16
       refine wp_region_still_tail 15 (by kernel_rfl) (by kernel_rfl) ?_
       simp only [List.take_succ_cons,List.take_zero,List.drop_succ_cons,List.drop_zero]
       repeat still_step
       refine wpStill_nil ?_
       change wpList _ _ _ _ _ w1.drew
       have hw2d:=hw2.drew
       have hb2d:=bdw hb2
       have cw:=hw2.cell k (.int .u32 (W (vs.getD k 0))) (by have:=Hvs.out.1;simp [wrds,show k<vs.length by omega])
       have cwd:w1.drew.cell? ⟨w.heap.size,k,none⟩=some (.int .u32 (W (vs.getD k 0))):=cw
       have fwd:w1.drew.frozen? ⟨w.heap.size,k,none⟩=false:=fw
       clear c2 c15 c7 c16 c7' c16' cw fw hw2 hb2
       clear h20 h21 h150 h151 h70 h71 h160 h161 w2 w15 w7 w16
       generalize w1.drew=wd at*
       have hw3':=hw2d.set k (.int .u32 (W ((rotBy (-17) x2^^^rotBy (-19) x2^^^x2>>>10)+x7+(rotBy (-7) x15^^^rotBy (-18) x15^^^x15>>>3)+x16)))
       have hb3':=hb2d.setCell (p:=⟨w.heap.size,k,none⟩) (Nat.le_refl _) (.int .u32 (W ((rotBy (-17) x2^^^rotBy (-19) x2^^^x2>>>10)+x7+(rotBy (-7) x15^^^rotBy (-18) x15^^^x15>>>3)+x16)))
       obtain⟨x,hx⟩: ∃x,Hid (x=((rotBy (-17) x2^^^rotBy (-19) x2^^^x2>>>10)+x7+(rotBy (-7) x15^^^rotBy (-18) x15^^^x15>>>3)+x16)):=⟨_,rfl⟩
       have hq:(wrds vs).set k (.int .u32 (W ((rotBy (-17) x2^^^rotBy (-19) x2^^^x2>>>10)+x7+(rotBy (-7) x15^^^rotBy (-18) x15^^^x15>>>3)+x16)))=wrds (vs.set k x):=by rw [hx.out];simp only [wrds,List.map_set]
       rw [hq]at hw3'
       clear hq
       obtain⟨kk,hkk⟩: ∃y,Hid (y=kTab.getD k 0):=⟨_,rfl⟩
       have cw3:=hw3'.cell k (.int .u32 (W ((rotBy (-17) x2^^^rotBy (-19) x2^^^x2>>>10)+x7+(rotBy (-7) x15^^^rotBy (-18) x15^^^x15>>>3)+x16))) (by rw [←hx.out];have:=Hvs.out.1;simp [wrds,show k<vs.length by omega])
       have ck3:(wd.setCell ⟨w.heap.size,k,none⟩ (.int .u32 (W ((rotBy (-17) x2^^^rotBy (-19) x2^^^x2>>>10)+x7+(rotBy (-7) x15^^^rotBy (-18) x15^^^x15>>>3)+x16)))).cell? ⟨6,k,none⟩=some (.int .u32 (W kk)):=by
        rw [hkk.out]
        have hc6:=hk0'.out k hk
        exact(hb3'.cell (p:=⟨6,k,none⟩) (World.block_lt_of_cell? w _ hc6)).trans hc6
       have FX:Hid (x=nextW (rest.take 64) (words (rest.take 64) k)):=by show _=_;rw [hx.out];exact HN.out
       have HT:Hid (rounds (rest.take 64) st (k+1)=rnd t kk x):=by
        show _=_
        rw [rounds,Ht.out,←hkk.out,words_get _ _ _ hk,←FX.out]
       have HV:Hid ((vs.set k x).length=64∧(vs.set k x).take (k+1)=words (rest.take 64) (k+1)):=by
        have:=Hvs.out
        exact⟨by rw [List.length_set];exact this.1,by rw [take_set _ _ _ (by omega),this.2,words,←FX.out]⟩
       clear Ht Hvs
       go_wp2_with fail
       go_quiet ((go_at_call 157;refine Calls.quiet_of_same (rotAny _ _ _ ?_);decide))
       go_wp2_with (first|(go_at_call 157;refine(rotAny _ _ _ ?hr).mono ?_;(case hr=>decide);rintro e w1 ⟨rfl,rfl⟩))
       go_roundw
       case rel=>exact⟨k+1,rnd t kk x,vs.set k x,by omega,by go_num,HT,by rw [hx.out];rfl,rfl,rfl,rfl,by rw [hx.out];rfl,rfl,rfl,rfl,hw3'.drewN _,HV,bdN hb3' _⟩
       case measure=>simp [intOf];omega
    ·as_aux_lemma=>
      obtain rfl:k=64:=by omega
      obtain⟨gp,off,hA,hgp,hc⟩:=Hpc.out.resolve_left (by intro h;have:=congrArg List.length h;simp [byts]at this;simp [this]at hlt)
      subst hA
      have hp3:Hid (Rd w (.slice (if cc=64 then some ⟨gp,off,none⟩else some ⟨gp,off+64,none⟩) (rest.length-64) (cc-64)) (byts (rest.drop 64))):=by
       have:=hp2.out.sliced 64 rest.length hlt (Nat.le_refl _)
       rw [List.take_of_length_le (by simp [byL])]at this
       simpa [Hid,Go.sliced,add_at,byts,List.map_drop]using this
      have H2:Hid (blocks l.length s l=blocks m (plus st t) (rest.drop 64)):=by
       show _=_
       rw [H.out,blocks,if_pos hlt,block,Ht.out]
      have hvl:=Lib.hid Hvs.out.1
      have hcc':(64:Int)≤(cc:Int):=by omega
      clear hc Hpc
      go_wp2_with fail
      go_roundw
      case rel=>exact⟨rest.drop 64,plus st t,m,vs,hp3,by simp;omega,by simp;omega,H2,rfl,rfl,rfl,rfl,rfl,rfl,rfl,rfl,hw2,hvl,hb2⟩
      case measure=>simp only [];omega
  ·have HE:Hid (blocks l.length s l=st):=by
    show _=_
    rw [H.out]
    cases n with
    |zero=>rfl
    |succ n=>rw [blocks,if_neg hlt]
   have hlt': ¬(64:Int)≤(rest.length:Int):=by omega
   have hd2:=hd.below hb hg
   have e0:=hd2.cell 0 _ rfl;have e1:=hd2.cell 1 _ rfl;have e2:=hd2.cell 2 _ rfl;have e3:=hd2.cell 3 _ rfl
   have e4:=hd2.cell 4 _ rfl;have e5:=hd2.cell 5 _ rfl;have e6:=hd2.cell 6 _ rfl;have e7:=hd2.cell 7 _ rfl
   have f0:=hd2.frozen 0;have f1:=hd2.frozen 1;have f2:=hd2.frozen 2;have f3:=hd2.frozen 3
   have f4:=hd2.frozen 4;have f5:=hd2.frozen 5;have f6:=hd2.frozen 6;have f7:=hd2.frozen 7
   clear Hpc hw
   go_wp2_with fail
   go_region_held3 (fun _=>True) (trivial) (fail)
   all_goals
    first|go_end0|(go_wp2_with fail;go_end0)
    exact⟨rfl,by rw [HE.out];exact(block_end st hd2 hb).1,(block_end st hd2 hb).2⟩
end Go.Proofs.YtgilnagajcfkpaaGreatDoor
