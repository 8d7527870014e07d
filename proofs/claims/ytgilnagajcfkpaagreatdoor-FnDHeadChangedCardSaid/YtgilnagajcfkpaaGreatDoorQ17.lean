import Derived.StillTailTactics
import Derived.Test.YtgilnagajcfkpaaGreatDoorQ09
set_option maxHeartbeats 4000000
set_option maxRecDepth 1000000
set_option linter.all false
namespace Go.Proofs.YtgilnagajcfkpaaGreatDoor
open Go.RowKit
theorem wrap64 (n:Int):IntKind.u64.wrap n=n%18446744073709551616:=by simp [IntKind.wrap,IntKind.bits,IntKind.signed]
def Q (x:UInt64):Int:=x.toNat
theorem Q_lt (x:UInt64):0≤Q x∧Q x<18446744073709551616:=by have:=x.toNat_lt;unfold Q;omega
theorem q_mul_nat (a b:UInt64):((a.toNat*b.toNat:Nat):Int)%18446744073709551616=(a*b).toNat:=by rw [UInt64.toNat_mul];omega
@[go_sem] theorem q_mul' (a b:UInt64):(Q a*Q b)%(18446744073709551616:Int)=Q (a*b):=by
  unfold Q;rw [←q_mul_nat,Int.natCast_mul]
@[go_sem] theorem q_mul (a b:UInt64):IntKind.u64.wrap (Q a*Q b)=Q (a*b):=by
  rw [←q_mul',wrap64]
@[go_sem] theorem q_add' (a b:UInt64):(Q a+Q b)%(18446744073709551616:Int)=Q (a+b):=by
  unfold Q;rw [UInt64.toNat_add];omega
@[go_sem] theorem q_add (a b:UInt64):IntKind.u64.wrap (Q a+Q b)=Q (a+b):=by rw [←q_add',wrap64]
@[go_sem] theorem q_sub' (a b:UInt64):(Q a-Q b)%(18446744073709551616:Int)=Q (a-b):=by
  unfold Q;have:=a.toNat_lt;have:=b.toNat_lt;rw [UInt64.toNat_sub];omega
@[go_sem] theorem q_sub (a b:UInt64):IntKind.u64.wrap (Q a-Q b)=Q (a-b):=by rw [←q_sub',wrap64]
@[go_sem] theorem q_low (a:UInt64):bits .and .u64 (Q a) (4294967295:Int)=Q (a&&&4294967295):=by
  have h:=Q_lt a
  rw [and_low32 _ h.1 h.2];unfold Q
  rw [UInt64.toNat_and]
  have e:a.toNat&&&(4294967295:UInt64).toNat=a.toNat%2^32:=Nat.and_two_pow_sub_one_eq_mod a.toNat 32
  rw [e];omega
@[go_sem] theorem q_shr (x:UInt64):Q x/(4294967296:Int)=Q (x>>>32):=by
  unfold Q;rw [UInt64.toNat_shiftRight,Nat.shiftRight_eq_div_pow]
  have:(32:UInt64).toNat%64=32:=rfl
  rw [this];omega
def qs (l:List UInt64):List Value:=l.map fun x=> .int .u64 (Q x)
def mulB (n:List UInt64)(x:UInt64)(a b:Nat)(m:List UInt64):List UInt64:=
 let part:=n.getD a 0*((if b=0 then x else x>>>32)&&&4294967295)
 let m1:=m.set (a+b) (m.getD (a+b) 0+(part&&&4294967295))
 if a+b+1<6 then m1.set (a+b+1) (m1.getD (a+b+1) 0+(part>>>32))else m1
def mulA (n:List UInt64)(x:UInt64)(a:Nat)(m:List UInt64):List UInt64:=if a<5 then mulB n x a 1 (mulB n x a 0 m)else mulB n x a 0 m
def mulTo (n:List UInt64)(x:UInt64):Nat→List UInt64
 |0=>List.replicate 6 0
 |a+1=>mulA n x a (mulTo n x a)
def carry (m:List UInt64):Nat→List UInt64
 |0=>m
 |a+1=>
  let c:=carry m a
  let c1:=c.set (a+1) (c.getD (a+1) 0+(c.getD a 0>>>32))
  c1.set a (c1.getD a 0&&&4294967295)
def powN (x:UInt64):Nat→List UInt64
 |0=> [1,0,0,0,0,0]
 |i+1=>carry (mulTo (powN x i) x 6) 5
def most (d:Nat)(p:UInt64):List UInt64:=(List.replicate 6 0).set d p
def cmpTo (n m:List UInt64):Nat→Bool
 |0=>true
 |a+1=>if n.getD a 0=m.getD a 0 then cmpTo n m a else decide (n.getD a 0<m.getD a 0)
def power (x:UInt64)(d:Nat)(p:UInt64):Bool:=cmpTo (powN x d) (most d p) 6
theorem mulB_len (n:List UInt64)(x:UInt64)(a b:Nat)(m:List UInt64):(mulB n x a b m).length=m.length:=by
 simp only [mulB];split<;>simp
theorem mulA_len (n:List UInt64)(x:UInt64)(a:Nat)(m:List UInt64):(mulA n x a m).length=m.length:=by
 unfold mulA;split<;>simp [mulB_len]
theorem mulTo_len (n:List UInt64)(x:UInt64)(a:Nat):(mulTo n x a).length=6:=by
 induction a with
 |zero=>simp [mulTo]
 |succ a ih=>simp [mulTo,mulA_len,ih]
theorem carry_len (m:List UInt64)(a:Nat):(carry m a).length=m.length:=by
 induction a with
 |zero=>rfl
 |succ a ih=>simp [carry,ih]
theorem powN_len (x:UInt64)(i:Nat):(powN x i).length=6:=by
 cases i with
 |zero=>rfl
 |succ i=>simp [powN,carry_len,mulTo_len]
theorem Tryz.info195:(Tryz.prog.info? 195).map (fun i=>(i.zero,i.size,i.bytes))=some (some (.int .u64 0),1,8):=by kernel_rfl
theorem Tryz.underlying293:Tryz.prog.underlying 293=some (.slice 195):=by kernel_rfl
theorem make_six (w:World): ∃w1,(Instr.makeSlice 293 (.int .i64 6) (.int .i64 6)).run Tryz.prog w= .ok (.slice (some ⟨w.heap.size,0,none⟩) 6 6) w1∧Blk w1 w.heap.size 195 (qs (List.replicate 6 0))∧Below w.heap.size w w1∧w1.heap.size=w.heap.size+1:=by
 obtain⟨i,hi,hz',hs,hb'⟩:=info_parts Tryz.info195
 have hbc:(i.bytes:Int)*(6:Int)≤281474976710656:=by rw [hb'];omega
 have h:=run_make (P:=Tryz.prog) w 293 195 i (.int .u64 0) Tryz.underlying293 hi hz' .i64 .i64 6 6 (by omega) (by omega) hbc (by omega)
 rw [hs]at h
 refine⟨_,h,?_,(Below.refl _ _).alloc (Nat.le_refl _) _,by simp⟩
 have:=heap_alloc_new w (.cells (madeCells (Value.int IntKind.u64 0).cells (6*1)) 195)
 exact this.trans (by kernel_rfl)
theorem dPower_any (x p:UInt64)(d:Nat)(hd:d<6)(w:World):
 Calls Tryz.prog 152 #[.int .u64 (Q x), .int .i64 d, .int .u64 (Q p)] w fun e w'=>e= .returned (.bool (power x d p))∧Below w.heap.size w w':=by
 have hb0:Below w.heap.size w w:=Below.refl _ _
 have hn0:=Blk.new w 195 (qs [1,0,0,0,0,0]).toArray
 go_enter Tryz.func152,Tryz.ntmps152
 go_wp2
 go_loopw [7,8] (fun v i wr=> ∃(k g:Nat),k≤d∧i= .int .i64 k∧v= .slice (some ⟨g,0,none⟩) 6 6∧w.heap.size≤g∧Blk wr g 195 (qs (powN x k))∧Below w.heap.size w wr) (fun _ i _=>d-(intOf i).toNat)
 case atStart=>exact⟨0,w.heap.size,Nat.zero_le _,rfl,rfl,Nat.le_refl _,hn0,(Below.refl _ _).alloc (Nat.le_refl _) _⟩
 case round=>
  obtain⟨k,g,hk,rfl,rfl,hgl,hn,hb⟩:=hrel
  clear hn0 hb0
  have hnl:=powN_len x k
  obtain⟨n,hnp⟩: ∃n,n=powN x k:=⟨_,rfl⟩
  rw [←hnp]at hn hnl
  have Hnp:=Lib.hid hnp;clear hnp
  by_cases hlt:k<d
  ·obtain⟨w1,hmk,hm1,hb1,hs1⟩:=make_six wr
   have hn1:=hn.below hb1 hn.lt
   obtain⟨gm,hgm⟩: ∃gm,gm=wr.heap.size:=⟨_,rfl⟩
   have hgg:g≠gm:=by have:=hn.lt;omega
   have hbw1:=hb.trans (hb1.mono hb.size)
   have hgm0:w.heap.size≤gm:=by rw [hgm];exact hb.size
   have Hn1:=Lib.hid hn1
   have Hb1:=Lib.hid hbw1
   rw [←hgm]at hm1 hmk
   have Hgm:=Lib.hid hgm;clear hgm
   clear hn hb hb1 hn1 hbw1
   go_wp2_with fail
   go_loopw [10,11,12] (fun i _ _ wx=> ∃(a:Nat) (m:List UInt64),a≤6∧i= .int .i64 a∧Hid (m=mulTo n x a)∧m.length=6∧Blk wx gm 195 (qs m)∧Blk wx g 195 (qs n)∧Below w.heap.size w wx) (fun i _ _ _=>6-(intOf i).toNat)
   case atStart=>exact⟨0,_,Nat.zero_le _,rfl,rfl,rfl,hm1,Hn1.out,Hb1.out⟩
   case round=>
    obtain⟨a,m,ha6,rfl,Hm,hml,hmb,hnb,hb⟩:=hrel
    clear hm1 hmk
    by_cases ha:a<6
    ·have ha0:(0:Int)≤(a:Int):=by omega
     have ha1:(a:Int)<6:=by omega
     have hgl:=hmb.lt
     have Hm2:Hid (mulTo n x (a+1)=mulA n x a m):=by show _=_;rw [Hm.out];rfl
     clear Hm
     go_wp2
     go_loopw [11,12] (fun j _ wy=> ∃(b:Nat) (m2:List UInt64),((b=0∧m2=m)∨(b=1∧m2=mulB n x a 0 m)∨(b=2∧a<5∧m2=mulB n x a 1 (mulB n x a 0 m)))∧j= .int .i64 b∧m2.length=6∧Blk wy gm 195 (qs m2)∧Blk wy g 195 (qs n)∧Below w.heap.size w wy) (fun j _ _=>2-(intOf j).toNat)
     case atStart=>exact⟨0,m, .inl ⟨rfl,rfl⟩,rfl,hml,hmb,hnb,hb⟩
     case round=>
      obtain⟨b,m2,hcase,rfl,hm2l,hm2,hn2,hb2⟩:=hrel
      obtain⟨na,hna⟩: ∃y,Hid (y=n.getD a 0):=⟨_,rfl⟩
      have cn:=hn2.cell a (.int .u64 (Q na)) (by rw [hna.out];simp [qs,show a<n.length by omega])
      rcases hcase with⟨rfl,rfl⟩|⟨rfl,rfl⟩|⟨rfl,h5,rfl⟩
      ·by_cases h5:a<5
       ·have h5':(a:Int)+1<6:=by omega
        have cm:=hm2.cell (a) (.int .u64 (Q (m2.getD (a) 0))) (by simp [qs,show a<m2.length by omega])
        have fm:=hm2.frozen (a)
        obtain⟨mm,hmm⟩: ∃y,Hid (y=m2.getD (a) 0):=⟨_,rfl⟩
        rw [←hmm.out]at cm
        go_wp2_with fail
        go_quiet (fail)
        have hm4:=(hm2.drewN nq).set (a) (.int .u64 (Q (mm+((na*(x&&&4294967295))&&&4294967295))))
        have hn4:=(hn2.drewN nq).far (p:=⟨gm,a,none⟩) hgg (.int .u64 (Q (mm+((na*(x&&&4294967295))&&&4294967295))))
        have hb4:=(bdN hb2 nq).setCell (p:=⟨gm,a,none⟩) hgm0 (.int .u64 (Q (mm+((na*(x&&&4294967295))&&&4294967295))))
        have hq4:(qs m2).set (a) (.int .u64 (Q (mm+((na*(x&&&4294967295))&&&4294967295))))=qs (m2.set (a) (mm+((na*(x&&&4294967295))&&&4294967295))):=by simp [qs,List.map_set]
        rw [hq4]at hm4
        clear hq4
        obtain⟨m4,hm4e⟩: ∃y,Hid (y=m2.set (a) (mm+((na*(x&&&4294967295))&&&4294967295))):=⟨_,rfl⟩
        rw [←hm4e.out]at hm4
        have hm4l:m4.length=6:=by rw [hm4e.out,List.length_set];exact hm2l
        obtain⟨mx,hmx⟩: ∃y,Hid (y=m4.getD (a+1) 0):=⟨_,rfl⟩
        have c4:=hm4.cell (a+1) (.int .u64 (Q mx)) (by rw [hmx.out];simp [qs,show a+1<m4.length by omega])
        have f4:=hm4.frozen (a+1)
        have F:Hid (m4.set (a+1) (mx+((na*(x&&&4294967295))>>>32))=mulB n x a 0 m2):=by
         show _=_
         rw [hmx.out,hm4e.out,hmm.out,hna.out];simp only [mulB,if_pos (show a+1<6 by omega)];try rfl
        have hm5:=hm4.set (a+1) (.int .u64 (Q (mx+((na*(x&&&4294967295))>>>32))))
        have hn5:=hn4.far (p:=⟨gm,a+1,none⟩) hgg (.int .u64 (Q (mx+((na*(x&&&4294967295))>>>32))))
        have hb5:=hb4.setCell (p:=⟨gm,a+1,none⟩) hgm0 (.int .u64 (Q (mx+((na*(x&&&4294967295))>>>32))))
        have hq5:(qs m4).set (a+1) (.int .u64 (Q (mx+((na*(x&&&4294967295))>>>32))))=qs (m4.set (a+1) (mx+((na*(x&&&4294967295))>>>32))):=by simp [qs,List.map_set]
        rw [hq5,F.out]at hm5
        clear hq5
        go_wp2_with fail
        go_roundw
        case rel=>exact⟨1,mulB n x a 0 m2, .inr (.inl ⟨rfl,rfl⟩),rfl,by rw [mulB_len];exact hm2l,hm5,hn5,hb5⟩
        case measure=>simp [intOf]
       ·have h5': ¬(a:Int)+1<6:=by omega
        have cm:=hm2.cell (a) (.int .u64 (Q (m2.getD (a) 0))) (by simp [qs,show a<m2.length by omega])
        have fm:=hm2.frozen (a)
        obtain⟨mm,hmm⟩: ∃y,Hid (y=m2.getD (a) 0):=⟨_,rfl⟩
        rw [←hmm.out]at cm
        go_wp2_with fail
        go_quiet (fail)
        have hm4:=(hm2.drewN nq).set (a) (.int .u64 (Q (mm+((na*(x&&&4294967295))&&&4294967295))))
        have hn4:=(hn2.drewN nq).far (p:=⟨gm,a,none⟩) hgg (.int .u64 (Q (mm+((na*(x&&&4294967295))&&&4294967295))))
        have hb4:=(bdN hb2 nq).setCell (p:=⟨gm,a,none⟩) hgm0 (.int .u64 (Q (mm+((na*(x&&&4294967295))&&&4294967295))))
        have hq4:(qs m2).set (a) (.int .u64 (Q (mm+((na*(x&&&4294967295))&&&4294967295))))=qs (m2.set (a) (mm+((na*(x&&&4294967295))&&&4294967295))):=by simp [qs,List.map_set]
        rw [hq4]at hm4
        clear hq4
        have F:Hid (m2.set (a) (mm+((na*(x&&&4294967295))&&&4294967295))=mulB n x a 0 m2):=by
         show _=_
         rw [hmm.out,hna.out];simp only [mulB,if_neg (show¬a+1<6 by omega)];try rfl
        rw [F.out]at hm4
        go_wp2_with fail
        go_roundw
        case rel=>exact⟨1,mulB n x a 0 m2, .inr (.inl ⟨rfl,rfl⟩),rfl,by rw [mulB_len];exact hm2l,hm4,hn4,hb4⟩
        case measure=>simp [intOf]
      ·by_cases h5:a<5
       ·have hm2b:(mulB n x a 0 m).length=6:=hm2l
        have h5':(a:Int)+1<6:=by omega
        obtain⟨m2,Hm2e⟩: ∃y,Hid (y=mulB n x a 0 m):=⟨_,rfl⟩
        rw [←Hm2e.out]at hm2l hm2
        by_cases h4:a<4
        ·have h4':(a:Int)+1+1<6:=by omega
         have cm:=hm2.cell (a+1) (.int .u64 (Q (m2.getD (a+1) 0))) (by simp [qs,show a+1<m2.length by omega])
         have fm:=hm2.frozen (a+1)
         obtain⟨mm,hmm⟩: ∃y,Hid (y=m2.getD (a+1) 0):=⟨_,rfl⟩
         rw [←hmm.out]at cm
         go_wp2_with fail
         go_quiet (fail)
         have hm4:=(hm2.drewN nq).set (a+1) (.int .u64 (Q (mm+((na*(x>>>32&&&4294967295))&&&4294967295))))
         have hn4:=(hn2.drewN nq).far (p:=⟨gm,a+1,none⟩) hgg (.int .u64 (Q (mm+((na*(x>>>32&&&4294967295))&&&4294967295))))
         have hb4:=(bdN hb2 nq).setCell (p:=⟨gm,a+1,none⟩) hgm0 (.int .u64 (Q (mm+((na*(x>>>32&&&4294967295))&&&4294967295))))
         have hq4:(qs m2).set (a+1) (.int .u64 (Q (mm+((na*(x>>>32&&&4294967295))&&&4294967295))))=qs (m2.set (a+1) (mm+((na*(x>>>32&&&4294967295))&&&4294967295))):=by simp [qs,List.map_set]
         rw [hq4]at hm4
         clear hq4
         obtain⟨m4,hm4e⟩: ∃y,Hid (y=m2.set (a+1) (mm+((na*(x>>>32&&&4294967295))&&&4294967295))):=⟨_,rfl⟩
         rw [←hm4e.out]at hm4
         have hm4l:m4.length=6:=by rw [hm4e.out,List.length_set];exact hm2l
         obtain⟨mx,hmx⟩: ∃y,Hid (y=m4.getD (a+1+1) 0):=⟨_,rfl⟩
         have c4:=hm4.cell (a+1+1) (.int .u64 (Q mx)) (by rw [hmx.out];simp [qs,show a+1+1<m4.length by omega])
         have f4:=hm4.frozen (a+1+1)
         have F:Hid (m4.set (a+1+1) (mx+((na*(x>>>32&&&4294967295))>>>32))=mulB n x a 1 m2):=by
          show _=_
          rw [hmx.out,hm4e.out,hmm.out,hna.out];simp only [mulB,if_pos (show a+1+1<6 by omega)];try rfl
         have hm5:=hm4.set (a+1+1) (.int .u64 (Q (mx+((na*(x>>>32&&&4294967295))>>>32))))
         have hn5:=hn4.far (p:=⟨gm,a+1+1,none⟩) hgg (.int .u64 (Q (mx+((na*(x>>>32&&&4294967295))>>>32))))
         have hb5:=hb4.setCell (p:=⟨gm,a+1+1,none⟩) hgm0 (.int .u64 (Q (mx+((na*(x>>>32&&&4294967295))>>>32))))
         have hq5:(qs m4).set (a+1+1) (.int .u64 (Q (mx+((na*(x>>>32&&&4294967295))>>>32))))=qs (m4.set (a+1+1) (mx+((na*(x>>>32&&&4294967295))>>>32))):=by simp [qs,List.map_set]
         rw [hq5,F.out]at hm5
         clear hq5
         go_wp2_with fail
         go_roundw
         case rel=>exact⟨2,mulB n x a 1 (mulB n x a 0 m), .inr (.inr ⟨rfl,h5,rfl⟩),rfl,by rw [mulB_len,←Hm2e.out];exact hm2l,by rw [←Hm2e.out];exact hm5,hn5,hb5⟩
         case measure=>simp [intOf]
        ·have h4': ¬(a:Int)+1+1<6:=by omega
         have cm:=hm2.cell (a+1) (.int .u64 (Q (m2.getD (a+1) 0))) (by simp [qs,show a+1<m2.length by omega])
         have fm:=hm2.frozen (a+1)
         obtain⟨mm,hmm⟩: ∃y,Hid (y=m2.getD (a+1) 0):=⟨_,rfl⟩
         rw [←hmm.out]at cm
         go_wp2_with fail
         go_quiet (fail)
         have hm4:=(hm2.drewN nq).set (a+1) (.int .u64 (Q (mm+((na*(x>>>32&&&4294967295))&&&4294967295))))
         have hn4:=(hn2.drewN nq).far (p:=⟨gm,a+1,none⟩) hgg (.int .u64 (Q (mm+((na*(x>>>32&&&4294967295))&&&4294967295))))
         have hb4:=(bdN hb2 nq).setCell (p:=⟨gm,a+1,none⟩) hgm0 (.int .u64 (Q (mm+((na*(x>>>32&&&4294967295))&&&4294967295))))
         have hq4:(qs m2).set (a+1) (.int .u64 (Q (mm+((na*(x>>>32&&&4294967295))&&&4294967295))))=qs (m2.set (a+1) (mm+((na*(x>>>32&&&4294967295))&&&4294967295))):=by simp [qs,List.map_set]
         rw [hq4]at hm4
         clear hq4
         have F:Hid (m2.set (a+1) (mm+((na*(x>>>32&&&4294967295))&&&4294967295))=mulB n x a 1 m2):=by
          show _=_
          rw [hmm.out,hna.out];simp only [mulB,if_neg (show¬a+1+1<6 by omega)];try rfl
         rw [F.out]at hm4
         go_wp2_with fail
         go_roundw
         case rel=>exact⟨2,mulB n x a 1 (mulB n x a 0 m), .inr (.inr ⟨rfl,h5,rfl⟩),rfl,by rw [mulB_len,←Hm2e.out];exact hm2l,by rw [←Hm2e.out];exact hm4,hn4,hb4⟩
         case measure=>simp [intOf]
       ·have h5': ¬(a:Int)+1<6:=by omega
        have F:Hid (mulB n x a 0 m=mulA n x a m):=by show _=_;rw [mulA,if_neg h5]
        rw [F.out]at hm2
        go_wp2_with fail
        go_roundw
        case rel=>exact⟨a+1,mulTo n x (a+1),by omega,by go_num,rfl,mulTo_len _ _ _,by rw [Hm2.out];exact hm2,hn2,hb2⟩
        case measure=>simp [intOf];omega
      ·have F:Hid (mulB n x a 1 (mulB n x a 0 m)=mulA n x a m):=by show _=_;rw [mulA,if_pos h5]
       rw [F.out]at hm2
       go_wp2_with fail
       go_roundw
       case rel=>exact⟨a+1,mulTo n x (a+1),by omega,by go_num,rfl,mulTo_len _ _ _,by rw [Hm2.out];exact hm2,hn2,hb2⟩
       case measure=>simp [intOf];omega
    ·have e6:a=6:=by omega
     have F:Hid (m=mulTo n x 6):=by show _=_;rw [Hm.out,e6]
     clear Hm
     have ha0: ¬(a:Int)<6:=by omega
     clear e6
     have hnl2:=hnb
     go_wp2
     go_loopw [13] (fun i wx=> ∃(j:Nat) (c:List UInt64),j≤5∧i= .int .i64 j∧Hid (c=carry m j)∧c.length=6∧Blk wx gm 195 (qs c)∧Below w.heap.size w wx) (fun i _=>5-(intOf i).toNat)
     case atStart=>exact⟨0,m,Nat.zero_le _,rfl,rfl,hml,hmb,hb⟩
     case round=>
      obtain⟨j,c,hj5,rfl,Hc,hcl,hcb,hb2⟩:=hrel
      clear hmb hb
      by_cases hj:j<5
      ·have hj0:(0:Int)≤(j:Int):=by omega
       have hj1:(j:Int)<5:=by omega
       have hj4:(j:Int)<6:=by omega
       have hj2:(0:Int)≤(j:Int)+1:=by omega
       have hj3:(j:Int)+1<6:=by omega
       have hjw:IntKind.i64.wrap ((j:Int)+1)=(j:Int)+1:=by rw [IntKind.wrap_i64];omega
       obtain⟨x0,hx0⟩: ∃y,Hid (y=c.getD j 0):=⟨_,rfl⟩
       obtain⟨x1,hx1⟩: ∃y,Hid (y=c.getD (j+1) 0):=⟨_,rfl⟩
       have c0:=hcb.cell j (.int .u64 (Q x0)) (by rw [hx0.out];simp [qs,show j<c.length by omega])
       have c1:=hcb.cell (j+1) (.int .u64 (Q x1)) (by rw [hx1.out];simp [qs,show j+1<c.length by omega])
       have f1:=hcb.frozen (j+1)
       have f0:=hcb.frozen j
       have hc2:=(hcb.set (j+1) (.int .u64 (Q (x1+x0>>>32)))).set j (.int .u64 (Q (x0&&&4294967295)))
       have hb3:=(hb2.setCell (p:=⟨gm,j+1,none⟩) hgm0 (.int .u64 (Q (x1+x0>>>32)))).setCell (p:=⟨gm,j,none⟩) hgm0 (.int .u64 (Q (x0&&&4294967295)))
       have hq:((qs c).set (j+1) (.int .u64 (Q (x1+x0>>>32)))).set j (.int .u64 (Q (x0&&&4294967295)))=qs (carry m (j+1)):=by
        rw [carry,←Hc.out]
        simp only [qs,List.map_set]
        rw [show(c.set (j+1) (c.getD (j+1) 0+c.getD j 0>>>32)).getD j 0=c.getD j 0 by simp [List.getElem?_set]]
        rw [←hx1.out,←hx0.out]
       rw [hq]at hc2
       clear hq
       go_wp2_with fail
       go_still_tail 12,(by kernel_rfl)
       change wpList _ _ _ _ _ wr.drew
       go_wp2_with fail
       go_roundw
       case rel=>exact⟨j+1,carry m (j+1),by omega,by go_num,rfl,by rw [carry_len];exact hml,hc2,bdw hb3⟩
       case measure=>simp [intOf];omega
      ·have e5:j=5:=by omega
       have F2:Hid (c=powN x (k+1)):=by show _=_;rw [Hc.out,e5,F.out,Hnp.out];rfl
       have hj0: ¬(j:Int)<5:=by omega
       clear Hc e5
       rw [F2.out]at hcb
       go_wp2_with fail
       go_roundw
       case rel=>exact⟨k+1,gm,by omega,by go_num,rfl,hgm0,hcb,hb2⟩
       case measure=>simp [intOf];omega
  ·have hkd:k=d:=by omega
   have hd0:(0:Int)≤(d:Int):=by omega
   have hd1:(d:Int)<6:=by omega
   have hlt': ¬(k:Int)<(d:Int):=by omega
   have Hnp2:Hid (n=powN x d):=by show _=_;rw [Hnp.out,hkd]
   clear Hnp hkd
   obtain⟨w1,hmk,hm1,hb1,hs1⟩:=make_six wr
   have hn1:=hn.below hb1 hn.lt
   have hgg:g≠wr.heap.size:=by have:=hn.lt;omega
   have hbw1:=hb.trans (hb1.mono hb.size)
   have cd:=hm1.cell d (.int .u64 (Q 0)) (by simp only [qs,List.map_replicate];rw [List.getElem?_replicate,if_pos hd])
   have fd:=hm1.frozen d
   have hn2:=hn1.far (p:=⟨wr.heap.size,d,none⟩) hgg (.int .u64 (Q p))
   have hm2:=hm1.set d (.int .u64 (Q p))
   have hq:(qs (List.replicate 6 0)).set d (.int .u64 (Q p))=qs (most d p):=by simp only [qs,most,List.map_set]
   rw [hq]at hm2
   have hb2:=hbw1.setCell (p:=⟨wr.heap.size,d,none⟩) hb.size (.int .u64 (Q p))
   have hml:(most d p).length=6:=by simp [most]
   obtain⟨wo,rfl⟩: ∃wo:World,wo=wr:=⟨_,rfl⟩
   obtain⟨m,hm⟩: ∃m,Hid (m=most d p):=⟨_,rfl⟩
   rw [←hm.out]at hm2 hml
   have H0:Hid (power x d p=cmpTo n m 6):=by show _=_;rw [Hnp2.out,hm.out];rfl
   clear hq hn1 hm1 hbw1 hn hb Hnp2 hm
   go_wp2_with fail
   go_loopw [15] (fun i wx=>Below w.heap.size w wx∧Blk wx wo.heap.size 195 (qs m)∧Blk wx g 195 (qs n)∧((∃j:Nat,j<6∧i= .int .i64 j∧Hid (power x d p=cmpTo n m (j+1)))∨(i= .int .i64 (-1)∧Hid (power x d p=true)))) (fun i _=>(intOf i+1).toNat)
   case atStart=>exact⟨hb2,hm2,hn2, .inl ⟨5,by omega,rfl,H0⟩⟩
   case round=>
    obtain⟨hb,hmb,hnb,hcase⟩:=hrel
    rcases hcase with⟨j,hj,rfl,H⟩|⟨rfl,H⟩
    ·have hj0:(0:Int)≤(j:Int):=by omega
     have hj1:(j:Int)<6:=by omega
     obtain⟨x0,hx0⟩: ∃y,Hid (y=n.getD j 0):=⟨_,rfl⟩
     obtain⟨x1,hx1⟩: ∃y,Hid (y=m.getD j 0):=⟨_,rfl⟩
     have c0:=hnb.cell j (.int .u64 (Q x0)) (by rw [hx0.out];simp [qs,show j<n.length by omega])
     have c1:=hmb.cell j (.int .u64 (Q x1)) (by rw [hx1.out];simp [qs,show j<m.length by omega])
     by_cases he:x0=x1
     ·have F:Hid (power x d p=cmpTo n m j):=by
       show _=_
       rw [H.out,cmpTo,if_pos (by rw [←hx0.out,←hx1.out,he])]
      have ht:(Q x0==Q x1)=true:=by rw [he];simp
      clear he
      go_wp2_with fail
      go_quiet (fail)
      go_wp2_with fail
      go_roundw
      case rel=>
       refine⟨bdN hb _,hmb,hnb,?_⟩
       rcases Nat.eq_zero_or_pos j with h0|h0
       ·exact .inr ⟨by rw [h0];rfl,by show _=_;rw [F.out,h0];rfl⟩
       ·exact .inl ⟨j-1,by omega,by congr 1;omega,by rw [Nat.sub_add_cancel h0];exact F⟩
      case measure=>simp [intOf]
     ·have F:Hid (power x d p=decide (Q x0<Q x1)):=by
       show _=_
       rw [H.out,cmpTo,if_neg (by rw [←hx0.out,←hx1.out];exact he),←hx0.out,←hx1.out]
       rw [decide_eq_decide,UInt64.lt_iff_toNat_lt];unfold Q;omega
      have ht:(Q x0==Q x1)=false:=by rw [beq_eq_false_iff_ne];intro e;apply he;unfold Q at e;exact UInt64.toNat_inj.1 (by omega)
      clear he
      go_wp2_with fail
      go_quiet (fail)
      go_wp2_with fail
      go_quiet (fail)
      go_wp2_with fail
      go_ret
      exact⟨by rw [F.out];rfl,bdN (bdN hb _) _⟩
    ·go_wp2
     go_ret
     exact⟨by rw [H.out];rfl,hb⟩
end Go.Proofs.YtgilnagajcfkpaaGreatDoor
