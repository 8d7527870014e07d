import Derived.Deep.CutRange
import Derived.Test.YtgilnagajcfkpaaGreatDoorQ18
import Derived.Test.YtgilnagajcfkpaaGreatDoorQ29
set_option maxHeartbeats 4000000
set_option maxRecDepth 1000000
set_option linter.all false
namespace Go.Proofs.YtgilnagajcfkpaaGreatDoor
open Go.RowKit
@[go_sem] theorem w_byte8 (x:UInt32):IntKind.u8.wrap (W x)=((x.toUInt8).toNat:Int):=by
  unfold W;rw [UInt32.toNat_toUInt8,IntKind.wrap_u8];omega
theorem v_d (n k m:Nat)(h:m=2^k):V n/(m:Int)=V (n/2^k):=by subst h;unfold V;omega
@[go_sem] theorem v_d56 (n:Nat):V n/(72057594037927936:Int)=V (n/2^56):=v_d n 56 72057594037927936 rfl
@[go_sem] theorem v_d48 (n:Nat):V n/(281474976710656:Int)=V (n/2^48):=v_d n 48 281474976710656 rfl
@[go_sem] theorem v_d40 (n:Nat):V n/(1099511627776:Int)=V (n/2^40):=v_d n 40 1099511627776 rfl
@[go_sem] theorem v_d32 (n:Nat):V n/(4294967296:Int)=V (n/2^32):=v_d n 32 4294967296 rfl
@[go_sem] theorem v_d24 (n:Nat):V n/(16777216:Int)=V (n/2^24):=v_d n 24 16777216 rfl
def lenBs (n:Nat):BS:= [b8 (n/2^56),b8 (n/2^48),b8 (n/2^40),b8 (n/2^32),b8 (n/2^24),b8 (n/2^16),b8 (n/2^8),b8 (n/2^0)]
def slen (v:Value):Nat:=match v with| .slice _ n _=>n|_=>0
theorem padded_eq (l:BS):padded l=l++ [128]++List.replicate (zeros (l.length+1)) 0++lenBs (8*l.length):=rfl
theorem zeros_ne (n j:Nat)(hj:j<zeros n):(n+j)%64≠56:=by unfold zeros at hj;omega
theorem zeros_eq (n:Nat):(n+zeros n)%64=56:=by unfold zeros;omega
theorem blk8 {wr:World} {g:Nat} {s:St8} (st:St8) {bv:Value} (hd2:Blk wr g 270 (s.vals++ [bv])):
 Blk (((((((((wr.setCell ⟨g,0,none⟩ (.int .u32 (W st.a))).setCell ⟨g,1,none⟩ (.int .u32 (W st.b))).setCell ⟨g,2,none⟩ (.int .u32 (W st.c))).setCell ⟨g,3,none⟩ (.int .u32 (W st.d))).setCell ⟨g,4,none⟩ (.int .u32 (W st.e))).setCell ⟨g,5,none⟩ (.int .u32 (W st.f))).setCell ⟨g,6,none⟩ (.int .u32 (W st.g))).setCell ⟨g,7,none⟩ (.int .u32 (W st.h)))) g 270 (st.vals++ [bv]):=
 (((((((hd2.set 0 _).set 1 _).set 2 _).set 3 _).set 4 _).set 5 _).set 6 _).set 7 _
theorem sum_any (hblock: ∀(g:Nat)(s:St8)(bv pv:Value)(l:BS)(w:World),Blk w g 270 (s.vals++ [bv])→Rd w pv (byts l)→KTab w→l.length≤140737488355328→
 Calls Tryz.prog 146 #[.pointer (some ⟨g,0,none⟩),pv] w fun e w'=>e= .returned (.tuple #[])∧Blk w' g 270 ((blocks l.length s l).vals++ [bv])∧w.grownBy w' (some g))
 (g:Nat)(s:St8)(bv:Value)(c:BS)(w:World)(hd:Blk w g 270 (s.vals++ [bv]))(hp:Rd w bv (byts c))(hne:bv.ownBlock≠some g)(hg6:g≠6)(hk:KTab w)(hn:c.length≤1099511627776):
 Calls Tryz.prog 122 #[.pointer (some ⟨g,0,none⟩)] w fun e w'=> ∃v,e= .returned v∧OwnAt w' w.heap.size 5 v (byts (sha c))∧(∃s':St8,Blk w' g 270 (s'.vals++ [bv]))∧w.grownBy w' (some g):=by
 have c0:=hd.cell 0 _ rfl;have c1:=hd.cell 1 _ rfl;have c2:=hd.cell 2 _ rfl;have c3:=hd.cell 3 _ rfl
 have c4:=hd.cell 4 _ rfl;have c5:=hd.cell 5 _ rfl;have c6:=hd.cell 6 _ rfl;have c7:=hd.cell 7 _ rfl
 have f0:=hd.frozen 0;have f1:=hd.frozen 1;have f2:=hd.frozen 2;have f3:=hd.frozen 3
 have f4:=hd.frozen 4;have f5:=hd.frozen 5;have f6:=hd.frozen 6;have f7:=hd.frozen 7
 have c8:w.cell? ⟨g,8,none⟩=some bv:=hd.cell 8 _ rfl
 have Hblock:=Lib.hid hblock;clear hblock
 have Hk:=Lib.hid hk;clear hk
 obtain⟨A,cc,rfl,hcc,hx⟩:=id hp
 have Hx:=Lib.hid hx;clear hx
 rw [byL]at*
 have hB0:Blk ((((((((w.setCell ⟨g,0,none⟩ (.int .u32 1779033703)).setCell ⟨g,1,none⟩ (.int .u32 3144134277)).setCell ⟨g,2,none⟩ (.int .u32 1013904242)).setCell ⟨g,3,none⟩ (.int .u32 2773480762)).setCell ⟨g,4,none⟩ (.int .u32 1359893119)).setCell ⟨g,5,none⟩ (.int .u32 2600822924)).setCell ⟨g,6,none⟩ (.int .u32 528734635)).setCell ⟨g,7,none⟩ (.int .u32 1541459225)) g 270 (h0.vals++ [.slice A c.length cc]):=blk8 h0 hd
 have hF0:Frm (· =g) w ((((((((w.setCell ⟨g,0,none⟩ (.int .u32 1779033703)).setCell ⟨g,1,none⟩ (.int .u32 3144134277)).setCell ⟨g,2,none⟩ (.int .u32 1013904242)).setCell ⟨g,3,none⟩ (.int .u32 2773480762)).setCell ⟨g,4,none⟩ (.int .u32 1359893119)).setCell ⟨g,5,none⟩ (.int .u32 2600822924)).setCell ⟨g,6,none⟩ (.int .u32 528734635)).setCell ⟨g,7,none⟩ (.int .u32 1541459225)):=(((((((((Frm.refl (· =g) w).setCell ⟨g,0,none⟩ (.int .u32 1779033703) (fun _=>rfl)).setCell ⟨g,1,none⟩ (.int .u32 3144134277) (fun _=>rfl)).setCell ⟨g,2,none⟩ (.int .u32 1013904242) (fun _=>rfl)).setCell ⟨g,3,none⟩ (.int .u32 2773480762) (fun _=>rfl)).setCell ⟨g,4,none⟩ (.int .u32 1359893119) (fun _=>rfl)).setCell ⟨g,5,none⟩ (.int .u32 2600822924) (fun _=>rfl)).setCell ⟨g,6,none⟩ (.int .u32 528734635) (fun _=>rfl)).setCell ⟨g,7,none⟩ (.int .u32 1541459225) (fun _=>rfl))
 go_enter Tryz.func122,Tryz.ntmps122
 go_upto_region 2 with fail
 generalize((((((((w.setCell ⟨g,0,none⟩ (.int .u32 1779033703)).setCell ⟨g,1,none⟩ (.int .u32 3144134277)).setCell ⟨g,2,none⟩ (.int .u32 1013904242)).setCell ⟨g,3,none⟩ (.int .u32 2773480762)).setCell ⟨g,4,none⟩ (.int .u32 1359893119)).setCell ⟨g,5,none⟩ (.int .u32 2600822924)).setCell ⟨g,6,none⟩ (.int .u32 528734635)).setCell ⟨g,7,none⟩ (.int .u32 1541459225))=ws at*
 have hrs:Rd ws (.slice A c.length cc) (byts c):=hp.frm hF0 (fun k hk e=>hne (by rw [hk,e]))
 have hks:Hid (KTab ws):=fun i hi=>frC hF0 (Hk.out i hi) (fun e=>hg6 e.symm)
 clear c0 c1 c2 c3 c4 c5 c6 c7 f0 f1 f2 f3 f4 f5 f6 f7 c8 hd hp Hx hne
 have s8:ws.cell? ⟨g,8,none⟩=some (.slice A c.length cc):=hB0.cell 8 _ rfl
 have hl0:OwnAt (ws.alloc (.cells #[] 5)) ws.heap.size 5 (.slice (some ⟨ws.heap.size,0,none⟩) 0 0) (byts []):=OwnAt.lit ws ws.heap.size 5 [] (Nat.le_refl _) (by simp [maxLen])
 have s8a:(ws.alloc (.cells #[] 5)).cell? ⟨g,8,none⟩=some (.slice A c.length cc):=(hB0.alloc _).cell 8 _ rfl
 have hr1:=hrs.below (Below.alloc (Below.refl _ _) (Nat.le_refl _) (.cells #[] 5))
 go_wp2_with (first
  |(at_builtin;refine appB rfl (.tmp 13) (.tmp 17) 22 (.inl rfl) rfl [] c rfl hl0 rfl (Src.rd hr1 (byts_one c)) (by simp only [List.length_nil];omega) (leA _ _) ?_;intro v1 w1 ho1 _ hb1 _;rw [List.nil_append]at ho1;have hb1':Below ws.heap.size ws w1:=((Below.refl _ _).alloc (Nat.le_refl _) _).trans hb1;clear hl0 hr1 hb1)
  |(at_builtin;refine appB1 rfl (.tmp 19) (.tmp 20) rfl c 128 128 rfl rfl ho1 rfl (by omega) hb1' (Nat.le_refl _) ?_;intro v2 w2 ho2 _ hb2;clear ho1 hb1';obtain⟨A1,c1,rfl⟩:=ho2.form;rw [byL,List.length_append]at ho2⊢)
  |fail)
 clear s8a
 generalize hBs:ws.heap.size=B at*
 have hB:Hid (B=ws.heap.size):=hBs.symm
 have hgB:g<B:=by have:=hB0.lt;omega
 clear hBs
 go_loopw [3] (fun v3 wr=> ∃(j:Nat) (A1:Option Addr) (c1:Nat),j≤zeros (c.length+1)∧v3= .slice A1 (c.length+1+j) c1∧OwnAt wr B 5 v3 (byts (c++ [128]++List.replicate j 0))∧Below B ws wr) (fun v _=>2*c.length+1000-slen v)
 case atStart=>exact⟨0,A1,c1,Nat.zero_le _,rfl,by simpa using ho2,hb2⟩
 case round=>
  obtain⟨j,A2,c2,hj,rfl,ho,hb⟩:=hrel
  clear ho2 hb2
  have hz:zeros (c.length+1)<64:=by unfold zeros;omega
  obtain⟨L,hL⟩: ∃L,Hid (L=c.length+1+j):=⟨_,rfl⟩
  have hL':c.length+1+j=L:=hL.out.symm
  have hLn:L≤1099511627776+65:=by omega
  rw [hL']at ho⊢
  have hL0:(0:Int)≤(L:Int):=by omega
  by_cases hjz:j<zeros (c.length+1)
  ·have hm:((L:Int)%64 !=56)=true:=bneF (by rw [beq_eq_false_iff_ne];have:=zeros_ne (c.length+1) j hjz;omega)
   go_wp2_with (first
    |(at_builtin;refine appB1 rfl (.tmp 26) (.tmp 27) rfl _ 0 0 rfl rfl ho rfl (by simp only [List.length_append,List.length_cons,List.length_nil,List.length_replicate];omega) hb (Nat.le_of_eq hB.out) ?_;intro v2 w2 ho2 _ hb2;obtain⟨A3,c3,hv2⟩:=ho2.form;have hv2e:v2= .slice A3 (c.length+1+(j+1)) c3:=(by rw [hv2,byL];congr 1;simp only [List.length_append,List.length_cons,List.length_nil,List.length_replicate];omega);clear hv2;subst hv2e)
    |fail)
   go_roundw
   case rel=>
    exact⟨j+1,A3,c3,hjz,rfl,by rw [List.replicate_succ',←List.append_assoc];exact ho2,hb2⟩
   case measure=>simp only [slen];have:=hL.out;omega
  ·have hm:((L:Int)%64 !=56)=false:=by
    have h1:=zeros_eq (c.length+1)
    have e:j=zeros (c.length+1):=by omega
    rw [←e]at h1
    exact bneT (by rw [beq_iff_eq];omega)
   have hBr:=hB0.below hb hgB
   have s8r:wr.cell? ⟨g,8,none⟩=some (.slice A c.length cc):=hBr.cell 8 _ rfl
   have hj2:j=zeros (c.length+1):=by omega
   have Hdat:Hid (padded c=c++ [128]++List.replicate j 0++lenBs (8*c.length)):=by rw [hj2];exact padded_eq c
   clear hj2
   obtain⟨N,hN⟩: ∃N,Hid (N=8*c.length):=⟨_,rfl⟩
   have hv1:IntKind.u64.wrap (c.length:Int)=(c.length:Int):=uWI _ (by omega)
   have hv2:IntKind.u64.wrap ((c.length:Int)*8)=V N:=by rw [hN.out];unfold V;rw [show((c.length:Int)*8)=((8*c.length:Nat):Int) by omega];exact uWI _ (by omega)
   have hv3:((c.length:Int)*8)=V N:=by rw [hN.out];unfold V;omega
   clear hjz hz hL hL' hL0
   go_wp2_with fail
   obtain⟨D,hD0⟩: ∃D:BS,D=c++ [128]++List.replicate j 0:=⟨_,rfl⟩
   have hD:=Lib.hid hD0;clear hD0
   rw [←hD.out]at ho
   have hDL:D.length=L:=by have h:=ho.form;obtain⟨_,_,h⟩:=h;injection h with _ h;rw [byL]at h;exact h.symm
   have HDL:=Lib.hid hDL;clear hDL
   have Hpd:Hid (padded c=D++lenBs N):=by show _=_;rw [hD.out,hN.out];exact Hdat.out
   clear Hdat hm hBr s8r hv1 hv2 hv3
   go_loopw [3,5] (fun v3 v5 wx=> ∃(m:Nat) (A1:Option Addr) (c1:Nat),m≤8∧v5= .int .i64 (56-8*(m:Int))∧v3= .slice A1 (L+m) c1∧OwnAt wx B 5 v3 (byts (D++(lenBs N).take m))∧Below B ws wx) (fun _ v5 _=>(8+intOf v5).toNat)
   case atStart=>exact⟨0,A2,c2,Nat.zero_le _,rfl,rfl,by simpa using ho,hb⟩
   case round=>
    obtain⟨m,A3,c3,hm8,rfl,rfl,ho3,hb3⟩:=hrel
    clear ho hb
    by_cases hm:m=8
    ·subst hm
     have hB3:=hB0.below hb3 hgB
     have ho4:OwnAt wr B 5 (.slice A3 (L+8) c3) (byts (padded c)):=by
      have h:=ho3
      rw [List.take_of_length_le (by simp [lenBs])]at h
      rw [Hpd.out];exact h
     have hk3:KTab wr:=fun i hi=>(hb3.cell (p:=⟨6,i,none⟩) (by rw [hB.out];exact World.block_lt_of_cell? ws _ (hks.out i hi))).trans (hks.out i hi)
     have hpl:(padded c).length≤140737488355328:=by rw [Hpd.out];have:=HDL.out;simp [lenBs];omega
     have Hk3:=Lib.hid hk3;clear hk3
     have Hsh:Hid (sha c=(blocks (padded c).length h0 (padded c)).bytes):=rfl
     clear ho3 hm8 s8 hj
     generalize padded c=PD at*
     go_wp2_with (first
      |(go_at_call 146;refine(Hblock.out g h0 _ _ PD _ hB3 ho4.rd Hk3.out hpl).mono ?_;rintro e w4 ⟨rfl,hd4,hg4⟩;generalize blocks PD.length h0 PD=st at*;have e0:w4.cell? ⟨g,0,none⟩=some (.int .u32 (W st.a)):=hd4.cell 0 _ rfl;have e1:w4.cell? ⟨g,1,none⟩=some (.int .u32 (W st.b)):=hd4.cell 1 _ rfl;have e2:w4.cell? ⟨g,2,none⟩=some (.int .u32 (W st.c)):=hd4.cell 2 _ rfl;have e3:w4.cell? ⟨g,3,none⟩=some (.int .u32 (W st.d)):=hd4.cell 3 _ rfl;have e4:w4.cell? ⟨g,4,none⟩=some (.int .u32 (W st.e)):=hd4.cell 4 _ rfl;have e5:w4.cell? ⟨g,5,none⟩=some (.int .u32 (W st.f)):=hd4.cell 5 _ rfl;have e6:w4.cell? ⟨g,6,none⟩=some (.int .u32 (W st.g)):=hd4.cell 6 _ rfl;have e7:w4.cell? ⟨g,7,none⟩=some (.int .u32 (W st.h)):=hd4.cell 7 _ rfl)
      |fail)
     have hgw:w.grownBy w4 (some g):=by
      have h1:Frm (· =g) w w4:=(hF0.after (Frm.of_below hb3) (fun i hi h=>by have:=hF0.size;have:=hB.out;omega)).after (Frm.of_grown hg4) (fun i hi h=>by injection h)
      exact⟨h1.os,h1.tape,h1.output,h1.size,fun k hk hne=>h1.block k hk (fun e=>hne (by rw [e]))⟩
     clear e0 e1 e2 e3 e4 e5 e6 e7 hg4 hB3 ho4 hb3 hF0 hB0 hrs
     go_loopw [6,54] (fun v6 v54 wx=> ∃(m:Nat) (A1:Option Addr) (c1:Nat),m≤8∧v54= .int .i64 m∧v6= .slice A1 (4*m) c1∧OwnAt wx w4.heap.size 5 v6 (byts (st.bytes.take (4*m)))∧Below w4.heap.size w4 wx) (fun _ v54 _=>8-(intOf v54).toNat)
     case atStart=>exact⟨0,none,0,Nat.zero_le _,rfl,rfl,OwnAt.nil _ _ _,Below.refl _ _⟩
     case round=>
      obtain⟨m,A5,c5,hm8,rfl,rfl,ho5,hb5⟩:=hrel
      by_cases hm:m=8
      ·subst hm
       go_wp2_with fail
       go_ret
       refine⟨_,rfl,?_,⟨st,hd4.below hb5 hd4.lt⟩,?_⟩
       ·rw [Hsh.out]
        have h:=ho5.mono (B':=w.heap.size) hgw.size
        rw [List.take_of_length_le (by simp [St8.bytes,bytesOf])]at h
        exact h
       ·have h1:Frm (fun k=>some k=some g) w _:=(Frm.of_grown hgw).after (Frm.of_below hb5) (fun i hi h=>by have:=hgw.size;omega)
        exact⟨h1.os,h1.tape,h1.output,h1.size,fun k hk hne=>h1.block k hk hne⟩
      ·have hm7:m=0∨m=1∨m=2∨m=3∨m=4∨m=5∨m=6∨m=7:=by omega
       clear hm hm8
       rcases hm7 with rfl|rfl|rfl|rfl|rfl|rfl|rfl|rfl
       ·have hI:(Instr.index 268 (.agg #[.int .u32 (W st.a), .int .u32 (W st.b), .int .u32 (W st.c), .int .u32 (W st.d), .int .u32 (W st.e), .int .u32 (W st.f), .int .u32 (W st.g), .int .u32 (W st.h)]) (.int .i64 0)).run Tryz.prog wr= .ok (.int .u32 (W st.a)) wr:=by rfl
        go_wp2_with (first
         |(at_builtin;refine appBs [(st.a>>>24).toUInt8,(st.a>>>16).toUInt8,(st.a>>>8).toUInt8,st.a.toUInt8] rfl (.tmp 57) (.tmp 69) rfl _ rfl ho5 _ _ _ rfl rfl rfl rfl (by simp only [List.length_take,List.length_cons,List.length_nil];omega) hb5 (Nat.le_refl _) ?_;intro v2 w2 ho2 _ hb2;obtain⟨A4,c4,hv2⟩:=ho2.form;have hv2e:v2= .slice A4 (4*1) c4:=(by rw [hv2,byL];simp [St8.bytes,bytesOf]);clear hv2;subst hv2e;have ho6:OwnAt w2 w4.heap.size 5 (.slice A4 (4*1) c4) (byts (st.bytes.take (4*1))):=(by simpa [St8.bytes,bytesOf]using ho2);clear ho2)
         |fail)
        go_roundw
        case rel=>exact⟨1,A4,c4,by omega,rfl,rfl,ho6,hb2⟩
        case measure=>simp [intOf]
       ·have hI:(Instr.index 268 (.agg #[.int .u32 (W st.a), .int .u32 (W st.b), .int .u32 (W st.c), .int .u32 (W st.d), .int .u32 (W st.e), .int .u32 (W st.f), .int .u32 (W st.g), .int .u32 (W st.h)]) (.int .i64 1)).run Tryz.prog wr= .ok (.int .u32 (W st.b)) wr:=by rfl
        go_wp2_with (first
         |(at_builtin;refine appBs [(st.b>>>24).toUInt8,(st.b>>>16).toUInt8,(st.b>>>8).toUInt8,st.b.toUInt8] rfl (.tmp 57) (.tmp 69) rfl _ rfl ho5 _ _ _ rfl rfl rfl rfl (by simp only [List.length_take,List.length_cons,List.length_nil];omega) hb5 (Nat.le_refl _) ?_;intro v2 w2 ho2 _ hb2;obtain⟨A4,c4,hv2⟩:=ho2.form;have hv2e:v2= .slice A4 (4*2) c4:=(by rw [hv2,byL];simp [St8.bytes,bytesOf]);clear hv2;subst hv2e;have ho6:OwnAt w2 w4.heap.size 5 (.slice A4 (4*2) c4) (byts (st.bytes.take (4*2))):=(by simpa [St8.bytes,bytesOf]using ho2);clear ho2)
         |fail)
        go_roundw
        case rel=>exact⟨2,A4,c4,by omega,rfl,rfl,ho6,hb2⟩
        case measure=>simp [intOf]
       ·have hI:(Instr.index 268 (.agg #[.int .u32 (W st.a), .int .u32 (W st.b), .int .u32 (W st.c), .int .u32 (W st.d), .int .u32 (W st.e), .int .u32 (W st.f), .int .u32 (W st.g), .int .u32 (W st.h)]) (.int .i64 2)).run Tryz.prog wr= .ok (.int .u32 (W st.c)) wr:=by rfl
        go_wp2_with (first
         |(at_builtin;refine appBs [(st.c>>>24).toUInt8,(st.c>>>16).toUInt8,(st.c>>>8).toUInt8,st.c.toUInt8] rfl (.tmp 57) (.tmp 69) rfl _ rfl ho5 _ _ _ rfl rfl rfl rfl (by simp only [List.length_take,List.length_cons,List.length_nil];omega) hb5 (Nat.le_refl _) ?_;intro v2 w2 ho2 _ hb2;obtain⟨A4,c4,hv2⟩:=ho2.form;have hv2e:v2= .slice A4 (4*3) c4:=(by rw [hv2,byL];simp [St8.bytes,bytesOf]);clear hv2;subst hv2e;have ho6:OwnAt w2 w4.heap.size 5 (.slice A4 (4*3) c4) (byts (st.bytes.take (4*3))):=(by simpa [St8.bytes,bytesOf]using ho2);clear ho2)
         |fail)
        go_roundw
        case rel=>exact⟨3,A4,c4,by omega,rfl,rfl,ho6,hb2⟩
        case measure=>simp [intOf]
       ·have hI:(Instr.index 268 (.agg #[.int .u32 (W st.a), .int .u32 (W st.b), .int .u32 (W st.c), .int .u32 (W st.d), .int .u32 (W st.e), .int .u32 (W st.f), .int .u32 (W st.g), .int .u32 (W st.h)]) (.int .i64 3)).run Tryz.prog wr= .ok (.int .u32 (W st.d)) wr:=by rfl
        go_wp2_with (first
         |(at_builtin;refine appBs [(st.d>>>24).toUInt8,(st.d>>>16).toUInt8,(st.d>>>8).toUInt8,st.d.toUInt8] rfl (.tmp 57) (.tmp 69) rfl _ rfl ho5 _ _ _ rfl rfl rfl rfl (by simp only [List.length_take,List.length_cons,List.length_nil];omega) hb5 (Nat.le_refl _) ?_;intro v2 w2 ho2 _ hb2;obtain⟨A4,c4,hv2⟩:=ho2.form;have hv2e:v2= .slice A4 (4*4) c4:=(by rw [hv2,byL];simp [St8.bytes,bytesOf]);clear hv2;subst hv2e;have ho6:OwnAt w2 w4.heap.size 5 (.slice A4 (4*4) c4) (byts (st.bytes.take (4*4))):=(by simpa [St8.bytes,bytesOf]using ho2);clear ho2)
         |fail)
        go_roundw
        case rel=>exact⟨4,A4,c4,by omega,rfl,rfl,ho6,hb2⟩
        case measure=>simp [intOf]
       ·have hI:(Instr.index 268 (.agg #[.int .u32 (W st.a), .int .u32 (W st.b), .int .u32 (W st.c), .int .u32 (W st.d), .int .u32 (W st.e), .int .u32 (W st.f), .int .u32 (W st.g), .int .u32 (W st.h)]) (.int .i64 4)).run Tryz.prog wr= .ok (.int .u32 (W st.e)) wr:=by rfl
        go_wp2_with (first
         |(at_builtin;refine appBs [(st.e>>>24).toUInt8,(st.e>>>16).toUInt8,(st.e>>>8).toUInt8,st.e.toUInt8] rfl (.tmp 57) (.tmp 69) rfl _ rfl ho5 _ _ _ rfl rfl rfl rfl (by simp only [List.length_take,List.length_cons,List.length_nil];omega) hb5 (Nat.le_refl _) ?_;intro v2 w2 ho2 _ hb2;obtain⟨A4,c4,hv2⟩:=ho2.form;have hv2e:v2= .slice A4 (4*5) c4:=(by rw [hv2,byL];simp [St8.bytes,bytesOf]);clear hv2;subst hv2e;have ho6:OwnAt w2 w4.heap.size 5 (.slice A4 (4*5) c4) (byts (st.bytes.take (4*5))):=(by simpa [St8.bytes,bytesOf]using ho2);clear ho2)
         |fail)
        go_roundw
        case rel=>exact⟨5,A4,c4,by omega,rfl,rfl,ho6,hb2⟩
        case measure=>simp [intOf]
       ·have hI:(Instr.index 268 (.agg #[.int .u32 (W st.a), .int .u32 (W st.b), .int .u32 (W st.c), .int .u32 (W st.d), .int .u32 (W st.e), .int .u32 (W st.f), .int .u32 (W st.g), .int .u32 (W st.h)]) (.int .i64 5)).run Tryz.prog wr= .ok (.int .u32 (W st.f)) wr:=by rfl
        go_wp2_with (first
         |(at_builtin;refine appBs [(st.f>>>24).toUInt8,(st.f>>>16).toUInt8,(st.f>>>8).toUInt8,st.f.toUInt8] rfl (.tmp 57) (.tmp 69) rfl _ rfl ho5 _ _ _ rfl rfl rfl rfl (by simp only [List.length_take,List.length_cons,List.length_nil];omega) hb5 (Nat.le_refl _) ?_;intro v2 w2 ho2 _ hb2;obtain⟨A4,c4,hv2⟩:=ho2.form;have hv2e:v2= .slice A4 (4*6) c4:=(by rw [hv2,byL];simp [St8.bytes,bytesOf]);clear hv2;subst hv2e;have ho6:OwnAt w2 w4.heap.size 5 (.slice A4 (4*6) c4) (byts (st.bytes.take (4*6))):=(by simpa [St8.bytes,bytesOf]using ho2);clear ho2)
         |fail)
        go_roundw
        case rel=>exact⟨6,A4,c4,by omega,rfl,rfl,ho6,hb2⟩
        case measure=>simp [intOf]
       ·have hI:(Instr.index 268 (.agg #[.int .u32 (W st.a), .int .u32 (W st.b), .int .u32 (W st.c), .int .u32 (W st.d), .int .u32 (W st.e), .int .u32 (W st.f), .int .u32 (W st.g), .int .u32 (W st.h)]) (.int .i64 6)).run Tryz.prog wr= .ok (.int .u32 (W st.g)) wr:=by rfl
        go_wp2_with (first
         |(at_builtin;refine appBs [(st.g>>>24).toUInt8,(st.g>>>16).toUInt8,(st.g>>>8).toUInt8,st.g.toUInt8] rfl (.tmp 57) (.tmp 69) rfl _ rfl ho5 _ _ _ rfl rfl rfl rfl (by simp only [List.length_take,List.length_cons,List.length_nil];omega) hb5 (Nat.le_refl _) ?_;intro v2 w2 ho2 _ hb2;obtain⟨A4,c4,hv2⟩:=ho2.form;have hv2e:v2= .slice A4 (4*7) c4:=(by rw [hv2,byL];simp [St8.bytes,bytesOf]);clear hv2;subst hv2e;have ho6:OwnAt w2 w4.heap.size 5 (.slice A4 (4*7) c4) (byts (st.bytes.take (4*7))):=(by simpa [St8.bytes,bytesOf]using ho2);clear ho2)
         |fail)
        go_roundw
        case rel=>exact⟨7,A4,c4,by omega,rfl,rfl,ho6,hb2⟩
        case measure=>simp [intOf]
       ·have hI:(Instr.index 268 (.agg #[.int .u32 (W st.a), .int .u32 (W st.b), .int .u32 (W st.c), .int .u32 (W st.d), .int .u32 (W st.e), .int .u32 (W st.f), .int .u32 (W st.g), .int .u32 (W st.h)]) (.int .i64 7)).run Tryz.prog wr= .ok (.int .u32 (W st.h)) wr:=by rfl
        go_wp2_with (first
         |(at_builtin;refine appBs [(st.h>>>24).toUInt8,(st.h>>>16).toUInt8,(st.h>>>8).toUInt8,st.h.toUInt8] rfl (.tmp 57) (.tmp 69) rfl _ rfl ho5 _ _ _ rfl rfl rfl rfl (by simp only [List.length_take,List.length_cons,List.length_nil];omega) hb5 (Nat.le_refl _) ?_;intro v2 w2 ho2 _ hb2;obtain⟨A4,c4,hv2⟩:=ho2.form;have hv2e:v2= .slice A4 (4*8) c4:=(by rw [hv2,byL];simp [St8.bytes,bytesOf]);clear hv2;subst hv2e;have ho6:OwnAt w2 w4.heap.size 5 (.slice A4 (4*8) c4) (byts (st.bytes.take (4*8))):=(by simpa [St8.bytes,bytesOf]using ho2);clear ho2)
         |fail)
        go_roundw
        case rel=>exact⟨8,A4,c4,by omega,rfl,rfl,ho6,hb2⟩
        case measure=>simp [intOf]
    ·have hm7:m=0∨m=1∨m=2∨m=3∨m=4∨m=5∨m=6∨m=7:=by omega
     clear hm hm8
     rcases hm7 with rfl|rfl|rfl|rfl|rfl|rfl|rfl|rfl
     ·go_wp2_with (first
       |(at_builtin;refine appB1 rfl (.tmp 40) (.tmp 45) rfl _ _ _ rfl rfl ho3 rfl (by have:=HDL.out;simp only [List.length_append,List.length_take];omega) hb3 (Nat.le_of_eq hB.out) ?_;intro v2 w2 ho2 _ hb2;obtain⟨A4,c4,hv2⟩:=ho2.form;have hv2e:v2= .slice A4 (L+1) c4:=(by rw [hv2,byL];congr 1;have:=HDL.out;simp [lenBs];omega);clear hv2;subst hv2e;have ho4:OwnAt w2 B 5 (.slice A4 (L+1) c4) (byts (D++(lenBs N).take 1)):=(by simpa [lenBs]using ho2);clear ho2)
       |fail)
      go_roundw
      case rel=>exact⟨1,A4,c4,by omega,rfl,rfl,ho4,hb2⟩
      case measure=>simp [intOf]
     ·go_wp2_with (first
       |(at_builtin;refine appB1 rfl (.tmp 40) (.tmp 45) rfl _ _ _ rfl rfl ho3 rfl (by have:=HDL.out;simp only [List.length_append,List.length_take];omega) hb3 (Nat.le_of_eq hB.out) ?_;intro v2 w2 ho2 _ hb2;obtain⟨A4,c4,hv2⟩:=ho2.form;have hv2e:v2= .slice A4 (L+2) c4:=(by rw [hv2,byL];congr 1;have:=HDL.out;simp [lenBs];omega);clear hv2;subst hv2e;have ho4:OwnAt w2 B 5 (.slice A4 (L+2) c4) (byts (D++(lenBs N).take 2)):=(by simpa [lenBs]using ho2);clear ho2)
       |fail)
      go_roundw
      case rel=>exact⟨2,A4,c4,by omega,rfl,rfl,ho4,hb2⟩
      case measure=>simp [intOf]
     ·go_wp2_with (first
       |(at_builtin;refine appB1 rfl (.tmp 40) (.tmp 45) rfl _ _ _ rfl rfl ho3 rfl (by have:=HDL.out;simp only [List.length_append,List.length_take];omega) hb3 (Nat.le_of_eq hB.out) ?_;intro v2 w2 ho2 _ hb2;obtain⟨A4,c4,hv2⟩:=ho2.form;have hv2e:v2= .slice A4 (L+3) c4:=(by rw [hv2,byL];congr 1;have:=HDL.out;simp [lenBs];omega);clear hv2;subst hv2e;have ho4:OwnAt w2 B 5 (.slice A4 (L+3) c4) (byts (D++(lenBs N).take 3)):=(by simpa [lenBs]using ho2);clear ho2)
       |fail)
      go_roundw
      case rel=>exact⟨3,A4,c4,by omega,rfl,rfl,ho4,hb2⟩
      case measure=>simp [intOf]
     ·go_wp2_with (first
       |(at_builtin;refine appB1 rfl (.tmp 40) (.tmp 45) rfl _ _ _ rfl rfl ho3 rfl (by have:=HDL.out;simp only [List.length_append,List.length_take];omega) hb3 (Nat.le_of_eq hB.out) ?_;intro v2 w2 ho2 _ hb2;obtain⟨A4,c4,hv2⟩:=ho2.form;have hv2e:v2= .slice A4 (L+4) c4:=(by rw [hv2,byL];congr 1;have:=HDL.out;simp [lenBs];omega);clear hv2;subst hv2e;have ho4:OwnAt w2 B 5 (.slice A4 (L+4) c4) (byts (D++(lenBs N).take 4)):=(by simpa [lenBs]using ho2);clear ho2)
       |fail)
      go_roundw
      case rel=>exact⟨4,A4,c4,by omega,rfl,rfl,ho4,hb2⟩
      case measure=>simp [intOf]
     ·go_wp2_with (first
       |(at_builtin;refine appB1 rfl (.tmp 40) (.tmp 45) rfl _ _ _ rfl rfl ho3 rfl (by have:=HDL.out;simp only [List.length_append,List.length_take];omega) hb3 (Nat.le_of_eq hB.out) ?_;intro v2 w2 ho2 _ hb2;obtain⟨A4,c4,hv2⟩:=ho2.form;have hv2e:v2= .slice A4 (L+5) c4:=(by rw [hv2,byL];congr 1;have:=HDL.out;simp [lenBs];omega);clear hv2;subst hv2e;have ho4:OwnAt w2 B 5 (.slice A4 (L+5) c4) (byts (D++(lenBs N).take 5)):=(by simpa [lenBs]using ho2);clear ho2)
       |fail)
      go_roundw
      case rel=>exact⟨5,A4,c4,by omega,rfl,rfl,ho4,hb2⟩
      case measure=>simp [intOf]
     ·go_wp2_with (first
       |(at_builtin;refine appB1 rfl (.tmp 40) (.tmp 45) rfl _ _ _ rfl rfl ho3 rfl (by have:=HDL.out;simp only [List.length_append,List.length_take];omega) hb3 (Nat.le_of_eq hB.out) ?_;intro v2 w2 ho2 _ hb2;obtain⟨A4,c4,hv2⟩:=ho2.form;have hv2e:v2= .slice A4 (L+6) c4:=(by rw [hv2,byL];congr 1;have:=HDL.out;simp [lenBs];omega);clear hv2;subst hv2e;have ho4:OwnAt w2 B 5 (.slice A4 (L+6) c4) (byts (D++(lenBs N).take 6)):=(by simpa [lenBs]using ho2);clear ho2)
       |fail)
      go_roundw
      case rel=>exact⟨6,A4,c4,by omega,rfl,rfl,ho4,hb2⟩
      case measure=>simp [intOf]
     ·go_wp2_with (first
       |(at_builtin;refine appB1 rfl (.tmp 40) (.tmp 45) rfl _ _ _ rfl rfl ho3 rfl (by have:=HDL.out;simp only [List.length_append,List.length_take];omega) hb3 (Nat.le_of_eq hB.out) ?_;intro v2 w2 ho2 _ hb2;obtain⟨A4,c4,hv2⟩:=ho2.form;have hv2e:v2= .slice A4 (L+7) c4:=(by rw [hv2,byL];congr 1;have:=HDL.out;simp [lenBs];omega);clear hv2;subst hv2e;have ho4:OwnAt w2 B 5 (.slice A4 (L+7) c4) (byts (D++(lenBs N).take 7)):=(by simpa [lenBs]using ho2);clear ho2)
       |fail)
      go_roundw
      case rel=>exact⟨7,A4,c4,by omega,rfl,rfl,ho4,hb2⟩
      case measure=>simp [intOf]
     ·go_wp2_with (first
       |(at_builtin;refine appB1 rfl (.tmp 40) (.tmp 45) rfl _ _ _ rfl rfl ho3 rfl (by have:=HDL.out;simp only [List.length_append,List.length_take];omega) hb3 (Nat.le_of_eq hB.out) ?_;intro v2 w2 ho2 _ hb2;obtain⟨A4,c4,hv2⟩:=ho2.form;have hv2e:v2= .slice A4 (L+8) c4:=(by rw [hv2,byL];congr 1;have:=HDL.out;simp [lenBs];omega);clear hv2;subst hv2e;have ho4:OwnAt w2 B 5 (.slice A4 (L+8) c4) (byts (D++(lenBs N).take 8)):=(by simpa [lenBs]using ho2);clear ho2)
       |fail)
      go_roundw
      case rel=>exact⟨8,A4,c4,by omega,rfl,rfl,ho4,hb2⟩
      case measure=>simp [intOf]
end Go.Proofs.YtgilnagajcfkpaaGreatDoor
