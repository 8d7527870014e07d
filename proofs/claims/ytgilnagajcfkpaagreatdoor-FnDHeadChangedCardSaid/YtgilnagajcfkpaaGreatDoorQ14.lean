import Derived.Test.YtgilnagajcfkpaaGreatDoorQ08
set_option maxHeartbeats 4000000
set_option maxRecDepth 1000000
set_option linter.all false
namespace Go.Proofs.YtgilnagajcfkpaaGreatDoor
open Go.RowKit
theorem decR_cases {x r:BS} (h:decR x=some r):(x= []∧r= [])∨∃c0 c1 c2 c3 t n e q,x=c0::c1::c2::c3::t∧grpR t.isEmpty 0 [c0,c1,c2,c3] (0,0)=some (n,e)∧decR t=some q∧r=(bytes3 n).take (3-e)++q:=by
 match x,h with
 | [],h=>left;simp [decR]at h;exact⟨rfl,h⟩
 | [_],h=>simp [decR]at h
 | [_,_],h=>simp [decR]at h
 | [_,_,_],h=>simp [decR]at h
 |c0::c1::c2::c3::t,h=>
  right
  rw [decR]at h
  cases hg:grpR t.isEmpty 0 [c0,c1,c2,c3] (0,0)with
  |none=>rw [hg]at h;simp at h
  |some s=>
   obtain⟨n,e⟩:=s
   rw [hg,Option.bind_some]at h
   cases hq:decR t with
   |none=>rw [hq]at h;simp at h
   |some q=>
    rw [hq,Option.bind_some]at h
    injection h with h
    exact⟨c0,c1,c2,c3,t,n,e,q,rfl,hg,hq,h.symm⟩
theorem stepR_cases {last:Bool} {c:UInt8} {k n e:Nat} {s:Nat×Nat} (h:stepR last k c (n,e)=some s):
 (c=61∧1<k∧last=true∧s=(n*64,e+1))∨(¬(c=61∧1<k∧last=true)∧∃q,val64 c=some q∧e=0∧s=(n*64+q,0)):=by
 unfold stepR at h
 split at h
 ·next hc=>injection h with h;exact .inl ⟨hc.1,hc.2.1,hc.2.2,h.symm⟩
 ·next hc=>
  cases hv:val64 c with
  |none=>rw [hv]at h;simp at h
  |some q=>
   rw [hv]at h
   simp only at h
   split at h
   ·cases h
   ·injection h with h
    obtain rfl:e=0:=by omega
    exact .inr ⟨hc,q,rfl,rfl,h.symm⟩
@[go_sem] theorem dig_lit' (k:Nat) (h:k<([65,66,67,68,69,70,71,72,73,74,75,76,77,78,79,80,81,82,83,84,85,86,87,88,89,90,97,98,99,100,101,102,103,104,105,106,107,108,109,110,111,112,113,114,115,116,117,118,119,120,121,122,48,49,50,51,52,53,54,55,56,57,43,47]:List UInt8).length):
   ([65,66,67,68,69,70,71,72,73,74,75,76,77,78,79,80,81,82,83,84,85,86,87,88,89,90,97,98,99,100,101,102,103,104,105,106,107,108,109,110,111,112,113,114,115,116,117,118,119,120,121,122,48,49,50,51,52,53,54,55,56,57,43,47]:List UInt8)[k]'h=dig k:=by
  have h':k<digs.length:=h
  unfold dig
  rw [List.getD_eq_getElem?_getD,List.getElem?_eq_getElem h'];rfl
def vr (c:UInt8)(k:Nat):Int:=match findDown (fun q=>digs.getD q 0==c) k with|none=> -1|some q=>(q:Int)
theorem vr_T (c:UInt8)(k:Nat)(h:dig k=c):vr c (k+1)=k:=by
 unfold vr;rw [findDown,if_pos (by simpa [dig]using h)]
theorem vr_F (c:UInt8)(k:Nat)(h: ¬dig k=c):vr c (k+1)=vr c k:=by
 unfold vr;rw [findDown,if_neg (by simpa [dig]using h)]
theorem vr_val (c:UInt8)(q:Nat)(h:val64 c=some q):vr c 64=(q:Int):=by
 unfold val64 at h;unfold vr;rw [h]
theorem val_ltR (c:UInt8)(q:Nat)(h:val64 c=some q):q<64:=by
 unfold val64 at h
 have: ∀(p:Nat→Bool) (k n:Nat),findDown p k=some n→n<k:=by
  intro p k
  induction k with
  |zero=>intro n h;simp [findDown]at h
  |succ k ih=>
   intro n h
   simp only [findDown]at h
   split at h
   ·injection h with h;omega
   ·have:=ih n h;omega
 exact this _ _ _ h
def N (n:Nat):Int:=n
theorem n_step (n q:Nat)(hn:n<1099511627776)(hq:q<64):IntKind.i64.wrap (IntKind.i64.wrap (N n*64)+(q:Int))=N (n*64+q):=by
 unfold N;rw [IntKind.wrap_i64,IntKind.wrap_i64];omega
@[go_sem] theorem n_shr16 (n:Nat):N n/(65536:Int)=N (n/65536):=by unfold N;omega
@[go_sem] theorem n_shr8 (n:Nat):N n/(256:Int)=N (n/256):=by unfold N;omega
theorem w64N (n:Nat)(h:n<4611686018427387904):wrap64 (N n)=N n:=by unfold N wrap64;omega
theorem w64N' (m q:Nat)(hn:m<1099511627776)(hq:q<64):wrap64 (wrap64 (N m*64)+(q:Int))=N (m*64+q):=by unfold N wrap64;omega
def c8 (n:Nat):UInt8:=UInt8.ofNat n
@[go_sem] theorem n_byte (n:Nat):IntKind.u8.wrap (N n)=((c8 n).toNat:Int):=by
  unfold N c8;rw [UInt8.toNat_ofNat',IntKind.wrap_u8];omega
theorem Src.partR (w:World)(news:List UInt8)(k c:Nat)(hk:k≤news.length)(hc:news.length≤c):Src Tryz.prog (w.alloc (.cells (byts news).toArray 5)) (.slice (some ⟨w.heap.size,0,none⟩) k c) (byts (news.take k)):=
 Src.rd ⟨some ⟨w.heap.size,0,none⟩,c,by rw [byL,List.length_take,Nat.min_eq_left hk],by rw [byL,List.length_take];omega, .inr ⟨_,_,rfl,by simp,fun j u hj=>by
  have:=cell_of_row _ _ (0+j) _ _ _ (heap_alloc_new w (.cells (byts news).toArray 5))
  rw [this,Nat.zero_add]
  have hj':j<k:=by have:=(List.getElem?_eq_some_iff.1 hj).1;rw [byL,List.length_take]at this;omega
  unfold byts at hj⊢
  rw [List.getElem?_map,List.getElem?_take,if_pos hj',←List.getElem?_map]at hj
  simpa using hj⟩⟩ (byts_one _)
theorem dBytes64_any (l r:BS)(w:World)(hs:l.length≤4294967296)(hd:decR l=some r)(h4:l.length%4=0):
 Calls Tryz.prog 79 #[Str l] w fun e w'=>e= .returned (.tuple #[Str r, .bool true])∧Below w.heap.size w w':=by
 have Hd:=Lib.hid hd;clear hd
 have h4b:((l.length:Int)%4 !=0)=false:=bneT (by rw [beq_iff_eq];omega)
 go_enter Tryz.func79,Tryz.ntmps79
 go_wp2
 go_loopw [4,5,6,7,8,9,10,11] (fun v i _ _ _ _ _ _ wr=> ∃(k:Nat) (done q:BS),k≤l.length∧k%4=0∧i= .int .i64 k∧done.length≤k∧Hid (decR (l.drop k)=some q)∧Hid (r=done++q)∧OwnAt wr w.heap.size 5 v (byts done)∧Below w.heap.size w wr) (fun _ i _ _ _ _ _ _ _=>l.length-(intOf i).toNat)
 case atStart=>exact⟨0,[],r,Nat.zero_le _,rfl,rfl,by simp,Hd,rfl,OwnAt.nil _ _ _,Below.refl _ _⟩
 case round=>
  obtain⟨k,done,q,hk,hkm,rfl,hdl,Hx,Hr,ho,hb⟩:=hrel
  clear h4b
  rcases decR_cases Hx.out with⟨hx,rfl⟩|⟨c0,c1,c2,c3,t,n,e,q2,hx,hg,hq,rfl⟩
  ·have hkl:k=l.length:=by have:=congrArg List.length hx;simp at this;omega
   have F:Hid (r=done):=by show _=_;rw [Hr.out,List.append_nil]
   have hcv:=cvB ho.rd
   clear hx
   subst hkl
   go_wp2
   go_ret2
   exact⟨by rw [F.out];rfl,hb⟩
  ·have hlen:l.length=k+4+t.length:=by have:=congrArg List.length hx;simp at this;omega
   have hget: ∀j,j<4→∀(h:k+j<l.length),l[k+j]=([c0,c1,c2,c3]:BS).getD j 0:=by
    intro j hj h
    have e1:l[k+j]=(l.drop k)[j]'(by simp;omega):=by simp
    rw [e1]
    simp only [hx]
    rcases(by omega:j=0∨j=1∨j=2∨j=3)with rfl|rfl|rfl|rfl<;>rfl
   have Hget:=Lib.hid hget;clear hget
   have Ht:Hid (l.drop (k+4)=t):=by
    show _=_
    have:=congrArg (List.drop 4) hx
    rw [List.drop_drop]at this
    simpa using this
   have hlt:k<l.length:=by omega
   have Hg:=Lib.hid hg;have Hq:=Lib.hid hq;clear hg hq Hx hx
   have hli4:k+4≤l.length:=by omega
   have htl:t.isEmpty=true↔k+4=l.length:=by
    rw [List.isEmpty_iff,←List.length_eq_zero_iff];omega
   have Htl:=Lib.hid htl;clear htl
   generalize t.isEmpty=last at*
   clear hlen
   obtain⟨wo,rfl⟩: ∃wo:World,wo=wr:=⟨_,rfl⟩
   go_wp2
   go_loop [6,7,8,9,10,11] (fun sn se si _ _ _=> ∃(i m d:Nat),i≤4∧si= .int .i64 i∧sn= .int .i64 (N m)∧se= .int .i64 d∧m<64^i∧d≤i∧(d=0∨d+2≤i)∧Hid (grpR last i ([c0,c1,c2,c3].drop i) (m,d)=some (n,e))) (fun _ _ si _ _ _=>4-(intOf si).toNat)
   case atStart=>exact⟨0,0,0,by omega,rfl,rfl,rfl,by decide,by omega, .inl rfl,Hg⟩
   case round=>
    obtain⟨i,m,d,hi4,rfl,rfl,rfl,hm,hdi,hdd,G⟩:=hrel
    by_cases hi:i<4
    ·obtain⟨ck,hck⟩: ∃ck,Hid (ck=([c0,c1,c2,c3]:BS).getD i 0):=⟨_,rfl⟩
     have hli:k+i<l.length:=by omega
     have hat:=Hget.out i hi hli
     rw [←hck.out]at hat
     obtain⟨s,hst,hG2⟩: ∃s,stepR last i ck (m,d)=some s∧grpR last (i+1) (([c0,c1,c2,c3]:BS).drop (i+1)) s=some (n,e):=by
      have:=G.out
      have hdr:([c0,c1,c2,c3]:BS).drop i=ck::([c0,c1,c2,c3]:BS).drop (i+1):=by
       rw [hck.out]
       rcases(by omega:i=0∨i=1∨i=2∨i=3)with rfl|rfl|rfl|rfl<;>rfl
      rw [hdr,grpR]at this
      cases hst:stepR last i ck (m,d)with
      |none=>rw [hst]at this;simp at this
      |some s=>rw [hst,Option.bind_some]at this;exact⟨s,rfl,this⟩
     have HG2:=Lib.hid hG2;clear hG2 G
     have Hst:=Lib.hid hst;clear hst
     have htn:((k:Int)+(i:Int)).toNat=k+i:=by omega
     go_wp2
     go_loop [10,11] (fun sv sj=> ∃(j:Nat),j≤64∧sj= .int .i64 j∧sv= .int .i64 (vr ck j)) (fun _ sj=>64-(intOf sj).toNat)
     case atStart=>exact⟨0,by omega,rfl,rfl⟩
     case round=>
      obtain⟨j,hj,rfl,rfl⟩:=hrel
      by_cases hj64:j<64
      ·have hj0:(0:Int)≤(j:Int):=by omega
       have hj1:(j:Int)<64:=by omega
       by_cases hq:dig j=ck
       ·have hqb:=bT hq
        have Hv:=Lib.hid (vr_T ck j hq)
        clear hq
        go_wp2
        go_round
        case rel=>exact⟨j+1,by omega,by go_num,by rw [Hv.out]⟩
        case measure=>simp [intOf];omega
       ·have hqb:=bF hq
        have Hv:=Lib.hid (vr_F ck j hq)
        clear hq
        go_wp2
        go_round
        case rel=>exact⟨j+1,by omega,by go_num,by rw [Hv.out]⟩
        case measure=>simp [intOf];omega
      ·obtain rfl:j=64:=by omega
       have hm40:m<1099511627776:=by
        have:64^i≤64^4:=Nat.pow_le_pow_right (by omega) (by omega)
        omega
       have hpow:64^(i+1)=64^i*64:=Nat.pow_succ ..
       rcases stepR_cases Hst.out with⟨rfl,hi1,hla,rfl⟩|⟨_,q,hv,rfl,rfl⟩
       ·have hll:=Htl.out.1 hla
        have g4:((k:Int)+4==(l.length:Int))=true:=by rw [beq_iff_eq];omega
        have hi1':(1:Int)<(i:Int):=by omega
        have hns:=n_step m 0 hm40 (by omega)
        rw [Nat.add_zero,show((0:Nat):Int)=0 from rfl,Int.add_zero]at hns
        have hns2:IntKind.i64.wrap (N m*64)=N (m*64):=by unfold N;rw [IntKind.wrap_i64];omega
        have Hb:Hid (m*64<64^(i+1)):=by show _<_;rw [hpow];omega
        clear hm hpow hll hla
        go_wp2
        go_round
        case rel=>exact⟨i+1,m*64,d+1,by omega,by go_num,by show Value.int _ _=_;rw [w64N _ (by omega)],by go_num,Hb.out,by omega,by omega,HG2⟩
        case measure=>simp [intOf];omega
       ·have hne:ck≠61:=by rintro rfl;rw [val_pad]at hv;cases hv
        have g61:=bF hne
        rw [show((61:UInt8).toNat:Int)=61 from rfl]at g61
        have hvv:=vr_val ck q hv
        have hq64:=val_ltR ck q hv
        have hq0: ¬((q:Int)<0):=by omega
        have hns:=n_step m q hm40 hq64
        have Hb:Hid (m*64+q<64^(i+1)):=by show _<_;rw [hpow];omega
        clear hm hpow hv hne
        go_wp2
        go_round
        case rel=>exact⟨i+1,m*64+q,0,by omega,by go_num,by show Value.int _ _=_;rw [w64N' _ _ hm40 hq64],rfl,Hb.out,by omega, .inl rfl,HG2⟩
        case measure=>simp [intOf];omega
    ·obtain rfl:i=4:=by omega
     have hme:m=n∧d=e:=by
      have:=G.out
      simp only [List.drop_succ_cons,List.drop_zero,List.drop_nil,grpR,Option.some.injEq,Prod.mk.injEq]at this
      exact this
     obtain⟨rfl,rfl⟩:=hme
     clear G
     have hbz:=hb.size
     rcases(by omega:d=0∨d=1∨d=2)with rfl|rfl|rfl
     all_goals
      go_wp2_with (at_builtin;refine appB rfl (.tmp 65) (.tmp 77) 22 (.inl rfl) rfl done _ rfl (ho.alloc _) rfl (Src.partR wo [c8 (m/65536),c8 (m/256),c8 m] _ 3 (by simp) (by simp)) (by simp;omega) (by have:=hbz;simp;omega) ?_;intro v1 w1 ho1 _ hb1 _)
      go_roundw
      case rel=>exact⟨k+4,_,q2,by omega,by omega,by go_num,by simp [bytes3];omega,by rw [Ht.out];exact Hq,by rw [Hr.out,List.append_assoc];rfl,ho1,(hb.alloc hbz _).trans hb1⟩
      case measure=>simp [intOf];omega
end Go.Proofs.YtgilnagajcfkpaaGreatDoor
