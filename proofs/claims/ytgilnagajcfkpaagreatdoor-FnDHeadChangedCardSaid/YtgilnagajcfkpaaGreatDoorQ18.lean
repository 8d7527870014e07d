import Derived.Deep.RegionHeld3
import Derived.Test.YtgilnagajcfkpaaGreatDoorQ00
import Derived.Test.YtgilnagajcfkpaaGreatDoorQ08
import Derived.Test.YtgilnagajcfkpaaGreatDoorQ10
set_option maxHeartbeats 4000000
set_option maxRecDepth 1000000
set_option linter.all false
namespace Go.Proofs.YtgilnagajcfkpaaGreatDoor
open Go.RowKit
@[go_sem] theorem dig_lit (k:Nat) (h:k<([65,66,67,68,69,70,71,72,73,74,75,76,77,78,79,80,81,82,83,84,85,86,87,88,89,90,97,98,99,100,101,102,103,104,105,106,107,108,109,110,111,112,113,114,115,116,117,118,119,120,121,122,48,49,50,51,52,53,54,55,56,57,43,47]:List UInt8).length):
   ([65,66,67,68,69,70,71,72,73,74,75,76,77,78,79,80,81,82,83,84,85,86,87,88,89,90,97,98,99,100,101,102,103,104,105,106,107,108,109,110,111,112,113,114,115,116,117,118,119,120,121,122,48,49,50,51,52,53,54,55,56,57,43,47]:List UInt8)[k]'h=dig k:=by
  have h':k<digs.length:=h
  unfold dig
  rw [List.getD_eq_getElem?_getD,List.getElem?_eq_getElem h'];rfl
def vi (c:UInt8)(k:Nat):Int:=match findDown (fun q=>digs.getD q 0==c) k with|none=> -1|some q=>(q:Int)
theorem vi_T (c:UInt8)(k:Nat)(h:dig k=c):vi c (k+1)=k:=by
 unfold vi;rw [findDown,if_pos (by simpa [dig]using h)]
theorem vi_F (c:UInt8)(k:Nat)(h: ¬dig k=c):vi c (k+1)=vi c k:=by
 unfold vi;rw [findDown,if_neg (by simpa [dig]using h)]
theorem vi_val (c:UInt8):vi c 64=match val64 c with|none=> -1|some q=>(q:Int):=rfl
theorem val_lt (c:UInt8)(q:Nat)(h:val64 c=some q):q<64:=by
 unfold val64 at h
 have: ∀(p:Nat→Bool) (k n:Nat),findDown p k=some n→n<k:=by
  intro p k
  induction k with
  |zero=>intro n h;simp [findDown]at h
  |succ k ih=>
   intro n h
   simp only [findDown]at h
   split at h
   ·injection h with h;omega
   ·have:=ih n h;omega
 exact this _ _ _ h
theorem v_or6 (n q:Nat)(hn:n<1099511627776)(hq:q<64):bits .or .u64 (IntKind.u64.wrap (V n*64)) (IntKind.u64.wrap (q:Int))=V (n*64+q):=by
 unfold V
 rw [show(n:Int)*64=((n*64:Nat):Int) by omega,uWI _ (by omega),uWI _ (by omega),u64_or_nat _ _ (by omega) (by omega)]
 rw [show n*64=n*2^6 by omega,or_lt n q 6 hq]
@[go_sem] theorem v_shr16 (n:Nat):V n/(65536:Int)=V (n/65536):=by unfold V;omega
@[go_sem] theorem v_shr8 (n:Nat):V n/(256:Int)=V (n/256):=by unfold V;omega
def b8 (n:Nat):UInt8:=UInt8.ofNat n
@[go_sem] theorem v_byte (n:Nat):IntKind.u8.wrap (V n)=((b8 n).toNat:Int):=by
  unfold V b8;rw [UInt8.toNat_ofNat',IntKind.wrap_u8];omega
theorem Src.part (w:World)(news:List UInt8)(k c:Nat)(hk:k≤news.length)(hc:news.length≤c):Src Tryz.prog (w.alloc (.cells (byts news).toArray 5)) (.slice (some ⟨w.heap.size,0,none⟩) k c) (byts (news.take k)):=
 Src.rd ⟨some ⟨w.heap.size,0,none⟩,c,by rw [byL,List.length_take,Nat.min_eq_left hk],by rw [byL,List.length_take];omega, .inr ⟨_,_,rfl,by simp,fun j u hj=>by
  have:=cell_of_row _ _ (0+j) _ _ _ (heap_alloc_new w (.cells (byts news).toArray 5))
  rw [this,Nat.zero_add]
  have hj':j<k:=by have:=(List.getElem?_eq_some_iff.1 hj).1;rw [byL,List.length_take]at this;omega
  unfold byts at hj⊢
  rw [List.getElem?_map,List.getElem?_take,if_pos hj',←List.getElem?_map]at hj
  simpa using hj⟩⟩ (byts_one _)
theorem decP_cases {x r:BS} (h:decP x=some r):(x= []∧r= [])∨∃c0 c1 c2 c3 t n d q,x=c0::c1::c2::c3::t∧grpP t.isEmpty c3 0 [c0,c1,c2,c3] (0,4)=some (n,d)∧decP t=some q∧r=(bytes3 n).take (d-1)++q:=by
 match x,h with
 | [],h=>left;simp [decP]at h;exact⟨rfl,h⟩
 | [_],h=>simp [decP]at h
 | [_,_],h=>simp [decP]at h
 | [_,_,_],h=>simp [decP]at h
 |c0::c1::c2::c3::t,h=>
  right
  rw [decP]at h
  cases hg:grpP t.isEmpty c3 0 [c0,c1,c2,c3] (0,4)with
  |none=>rw [hg]at h;simp at h
  |some s=>
   obtain⟨n,d⟩:=s
   rw [hg,Option.bind_some]at h
   cases hq:decP t with
   |none=>rw [hq]at h;simp at h
   |some q=>
    rw [hq,Option.bind_some]at h
    injection h with h
    exact⟨c0,c1,c2,c3,t,n,d,q,rfl,hg,hq,h.symm⟩
theorem stepP_cases {last:Bool} {c3 c:UInt8} {k n d:Nat} {s:Nat×Nat} (h:stepP last c3 k c (n,d)=some s):
 (∃q,val64 c=some q∧¬d<4∧s=(n*64+q,d))∨(val64 c=none∧c=61∧2≤k∧last=true∧(k=2→c3=61)∧s=(n*64,min d k)):=by
 unfold stepP at h
 cases hv:val64 c with
 |some q=>
  rw [hv]at h
  simp only at h
  split at h
  ·cases h
  ·injection h with h;exact .inl ⟨q,rfl,by assumption,h.symm⟩
 |none=>
  rw [hv]at h
  simp only at h
  split at h
  ·cases h
  ·next hc=>
   simp only [not_or,Decidable.not_not,not_and]at hc
   injection h with h
   refine .inr ⟨rfl,hc.1,by omega,?_,hc.2.2.2,h.symm⟩
   cases last
   ·exact absurd rfl hc.2.2.1
   ·rfl
theorem errNew (s:ByteArray)(w:World):Calls Tryz.prog 98 #[.string s] w fun e w'=>e= .returned (.iface 242 (.pointer (some ⟨w.heap.size,0,none⟩)))∧w'=w.alloc (.cells #[.string s] 244):=by
 go_enter Tryz.func98,Tryz.ntmps98
 go_wp2
 go_ret
 exact⟨rfl,rfl⟩
theorem zzDecode_any (l r:BS)(w:World)(hs:l.length≤4294967296)(hd:decP l=some r)(hcl: ∀c∈l,c≠13∧c≠10)(h4:l.length%4=0):
 Calls Tryz.prog 145 #[Str l] w fun e w'=> ∃v,e= .returned (.tuple #[v, .nilIface])∧OwnAt w' w.heap.size 5 v (byts r)∧Below w.heap.size w w':=by
 have Hd:=Lib.hid hd;clear hd
 have Hcl:=Lib.hid hcl;clear hcl
 go_enter Tryz.func145,Tryz.ntmps145
 go_wp2_with (go_at_call 98;refine(errNew _ _).mono ?_;rintro e w1 ⟨rfl,rfl⟩)
 have hw0:Below w.heap.size w (w.alloc (.cells #[Str [105,108,108,101,103,97,108,32,98,97,115,101,54,52,32,100,97,116,97]] 244)):=(Below.refl _ _).alloc (Nat.le_refl _) _
 go_loopw [5,6] (fun v i wr=> ∃k:Nat,k≤l.length∧i= .int .i64 k∧OwnAt wr w.heap.size 5 v (byts (l.take k))∧Below w.heap.size w wr) (fun _ i _=>l.length-(intOf i).toNat)
 case atStart=>exact⟨0,Nat.zero_le _,rfl,OwnAt.nil _ _ _,hw0⟩
 case round=>
  obtain⟨k,hk,rfl,ho,hb⟩:=hrel
  clear hw0
  by_cases hlt:k<l.length
  ·have hc:=Hcl.out l[k] (List.getElem_mem hlt)
   have g1:=bneF (bF hc.1:((l[k].toNat:Int)==((13:UInt8).toNat:Int))=false)
   have g2:=bneF (bF hc.2:((l[k].toNat:Int)==((10:UInt8).toNat:Int))=false)
   rw [show((13:UInt8).toNat:Int)=13 from rfl]at g1
   rw [show((10:UInt8).toNat:Int)=10 from rfl]at g2
   have H:Hid (l.take (k+1)=l.take k++ [l[k]]):=List.take_succ_eq_append_getElem hlt
   have hsl:(l.take k).length≤4294967296:=by simp;omega
   clear hc
   go_wp2_with (at_builtin;refine appB1 rfl (.tmp 30) (.tmp 34) rfl (l.take k) l[k] _ rfl rfl ho rfl (by omega) hb (Nat.le_refl _) ?_;intro v1 w1 ho1 _ hb1)
   go_roundw
   case rel=>exact⟨k+1,by omega,by go_num,by rw [H.out];exact ho1,hb1⟩
   case measure=>simp [intOf];omega
  ·rw [List.take_of_length_le (by omega)]at ho
   obtain⟨A,c,rfl⟩:=ho.form
   have hrd:=ho.rd
   rw [byL]at*
   have Hrd:=Lib.hid hrd;clear hrd ho
   have h4b:((l.length:Int)%4 !=0)=false:=bneT (by rw [beq_iff_eq];omega)
   obtain⟨W1,rfl⟩: ∃W1:World,W1=wr:=⟨_,rfl⟩
   have hW:=hb
   go_wp2
   have hw2:Below W1.heap.size W1 (W1.alloc (.cells #[] 5)):=(Below.refl _ _).alloc (Nat.le_refl _) _
   have ho2:OwnAt (W1.alloc (.cells #[] 5)) W1.heap.size 5 (.slice (some ⟨W1.heap.size,0,none⟩) 0 0) (byts []):=OwnAt.lit W1 W1.heap.size 5 [] (Nat.le_refl _) (by simp [maxLen])
   go_loopw [5,7,8,9,10,11,12] (fun p v _ _ _ _ _ wr=> ∃(x done q:BS) (A:Option Addr) (cc:Nat),p= .slice A x.length cc∧x.length≤l.length∧done.length+x.length≤l.length∧Hid (Rd W1 p (byts x))∧Hid (decP x=some q)∧Hid (r=done++q)∧OwnAt wr W1.heap.size 5 v (byts done)∧Below W1.heap.size W1 wr) (fun p _ _ _ _ _ _ _=>match p with| .slice _ n _=>n|_=>0)
   case atStart=>exact⟨l,[],r,A,c,rfl,Nat.le_refl _,by simp,Hrd,Hd,rfl,ho2,hw2⟩
   case round=>
    obtain⟨x,done,q,A,cc,rfl,hx,hdl,hp,Hx,Hr,ho,hb2⟩:=hrel
    clear ho2 hw2 Hrd h4b
    rcases decP_cases Hx.out with⟨rfl,rfl⟩|⟨c0,c1,c2,c3,t,n,d,q2,rfl,hg,hq,rfl⟩
    ·have F:Hid (r=done):=by show _=_;rw [Hr.out,List.append_nil]
     go_wp2
     go_ret2
     exact⟨_,rfl,by rw [F.out];exact ho.mono hW.size,hW.trans (hb2.mono hW.size)⟩
    ·have Hg:=Lib.hid hg;have Hq:=Lib.hid hq;clear hg hq Hx
     obtain⟨_,_,he,hcc,hpc⟩:=hp.out
     injection he with h1 h2 h3
     subst h1;subst h3
     clear h2
     obtain⟨g,off,rfl,hgp,hc⟩:=hpc.resolve_left (by intro h;simp [byts]at h)
     have p0:=(hb2.cell (p:=⟨g,off+0,none⟩) hgp).trans (hc 0 (.int .u8 c0.toNat) rfl)
     have p1:=(hb2.cell (p:=⟨g,off+1,none⟩) hgp).trans (hc 1 (.int .u8 c1.toNat) rfl)
     have p2:=(hb2.cell (p:=⟨g,off+2,none⟩) hgp).trans (hc 2 (.int .u8 c2.toNat) rfl)
     have p3:=(hb2.cell (p:=⟨g,off+3,none⟩) hgp).trans (hc 3 (.int .u8 c3.toNat) rfl)
     rw [Nat.add_zero]at p0
     have hp4:Hid (Rd W1 (.slice (if cc=4 then some ⟨g,off,none⟩else some ⟨g,off+4,none⟩) ((c0::c1::c2::c3::t).length-4) (cc-4)) (byts t)):=by
      have:=hp.out.sliced 4 (c0::c1::c2::c3::t).length (by simp) (Nat.le_refl _)
      rw [List.take_of_length_le (by simp [byL])]at this
      simpa [Hid,Go.sliced,add_at,byts]using this
     have hlen:(c0::c1::c2::c3::t).length=t.length+4:=rfl
     rw [byL]at hcc
     rw [hlen]at hx hdl hcc hp4⊢
     clear hc hpc hp hlen
     have hl0:(0:Int)<(t.length:Int)+4:=by omega
     obtain⟨wo,rfl⟩: ∃wo:World,wo=wr:=⟨_,rfl⟩
     go_wp2
     go_loopw [8,9,10,11,12] (fun sn sd si _ _ wx=> ∃(k m e:Nat),k≤4∧si= .int .i64 k∧sn= .int .u64 (V m)∧sd= .int .i64 e∧m<64^k∧2≤e∧e≤4∧Hid (grpP t.isEmpty c3 k ([c0,c1,c2,c3].drop k) (m,e)=some (n,d))∧wo.heap.size=wx.heap.size∧Below wo.heap.size wo wx) (fun _ _ si _ _ _=>4-(intOf si).toNat)
     case atStart=>exact⟨0,0,4,by omega,rfl,rfl,rfl,by decide,by omega,by omega,Hg,rfl,Below.refl _ _⟩
     case round=>
      obtain⟨k,m,e,hk4,rfl,rfl,rfl,hm,he2,he4,G,hsz,hbx⟩:=hrel
      by_cases hk:k<4
      ·obtain⟨ck,hdr,pk⟩: ∃ck,([c0,c1,c2,c3]:BS).drop k=ck::([c0,c1,c2,c3]:BS).drop (k+1)∧wr.cell? ⟨g,off+k,none⟩=some (.int .u8 ck.toNat):=by
        rcases(by omega:k=0∨k=1∨k=2∨k=3)with rfl|rfl|rfl|rfl
        ·exact⟨c0,rfl,bcell hbx p0⟩
        ·exact⟨c1,rfl,bcell hbx p1⟩
        ·exact⟨c2,rfl,bcell hbx p2⟩
        ·exact⟨c3,rfl,bcell hbx p3⟩
       have pc3:=bcell hbx p3
       obtain⟨s,hst,hG2⟩: ∃s,stepP t.isEmpty c3 k ck (m,e)=some s∧grpP t.isEmpty c3 (k+1) (([c0,c1,c2,c3]:BS).drop (k+1)) s=some (n,d):=by
        have:=G.out
        rw [hdr,grpP]at this
        cases hst:stepP t.isEmpty c3 k ck (m,e)with
        |none=>rw [hst]at this;simp at this
        |some s=>rw [hst,Option.bind_some]at this;exact⟨s,rfl,this⟩
       have HG2:=Lib.hid hG2;clear hG2 hdr G
       have Hst:=Lib.hid hst;clear hst
       have hk0:(0:Int)≤(k:Int):=by omega
       have hk1:(k:Int)<(t.length:Int)+4:=by omega
       obtain⟨wp,rfl⟩: ∃wp:World,wp=wr:=⟨_,rfl⟩
       go_wp2
       go_loopw [11,12] (fun sv sj wy=> ∃(j:Nat),j≤64∧sj= .int .i64 j∧sv= .int .i64 (vi ck j)∧wp.heap.size=wy.heap.size∧Below wp.heap.size wp wy) (fun _ sj _=>64-(intOf sj).toNat)
       case atStart=>exact⟨0,by omega,rfl,rfl,rfl,Below.refl _ _⟩
       case round=>
        obtain⟨j,hj,rfl,rfl,hsy,hby⟩:=hrel
        have pk2:=bcell hby pk
        by_cases hj64:j<64
        ·have hj0:(0:Int)≤(j:Int):=by omega
         have hj1:(j:Int)<64:=by omega
         by_cases hq:dig j=ck
         ·have hqb:=bT hq
          have Hv:=Lib.hid (vi_T ck j hq)
          have Hsy:=Lib.hid hsy;clear hsy hq
          go_wp2_with fail
          go_quiet (fail)
          go_wp2_with fail
          go_roundw
          case rel=>exact⟨j+1,by omega,by go_num,by rw [Hv.out],Hsy.out,bdN hby _⟩
          case measure=>simp [intOf];omega
         ·have hqb:=bF hq
          have Hv:=Lib.hid (vi_F ck j hq)
          have Hsy:=Lib.hid hsy;clear hsy hq
          go_wp2_with fail
          go_quiet (fail)
          go_wp2_with fail
          go_roundw
          case rel=>exact⟨j+1,by omega,by go_num,by rw [Hv.out],Hsy.out,bdN hby _⟩
          case measure=>simp [intOf];omega
        ·obtain rfl:j=64:=by omega
         have hvv:=vi_val ck
         have pc3':=bcell hby pc3
         have hbz:=hbx.trans (hby.mono (by omega))
         have hsz':wo.heap.size=wr.heap.size:=by omega
         have Hsz:=Lib.hid hsz';clear hsz hsy hsz' hby hbx pk pc3 hj64
         have hm40:m<1099511627776:=by
          have:64^k≤64^4:=Nat.pow_le_pow_right (by omega) (by omega)
          omega
         have hpow:64^(k+1)=64^k*64:=Nat.pow_succ ..
         rcases stepP_cases Hst.out with⟨q,hv,he,rfl⟩|⟨hv,rfl,hk2,hlast,hc3,rfl⟩
         ·rw [hv]at hvv
          simp only at hvv
          have hq64:=val_lt ck q hv
          have ho6:=v_or6 m q hm40 hq64
          rw [uWI q (by omega)]at ho6
          obtain rfl:e=4:=by omega
          have hq0: ¬((q:Int)<0):=by omega
          have Hb:Hid (m*64+q<64^(k+1)):=by show _<_;rw [hpow];omega
          clear hv hm hpow he
          go_wp2_with fail
          go_roundw
          case rel=>exact⟨k+1,m*64+q,4,by omega,by go_num,rfl,rfl,Hb.out,by omega,by omega,HG2,Hsz.out,hbz⟩
          case measure=>simp [intOf];omega
         ·rw [hv]at hvv
          simp only at hvv
          have ho6:=v_or6 m 0 hm40 (by omega)
          rw [uWI 0 (by omega),Nat.add_zero,show((0:Nat):Int)=0 from rfl]at ho6
          have Hb:Hid (m*64<64^(k+1)):=by show _<_;rw [hpow];omega
          have ht:t= []:=by simpa using hlast
          subst ht
          clear hv hm hpow hlast Hst
          rcases(by omega:k=2∨k=3)with rfl|rfl
          ·obtain rfl:c3=61:=hc3 rfl
           rcases(by omega:e=2∨e=3∨e=4)with rfl|rfl|rfl
           all_goals
            go_wp2_with fail
            go_roundw
            case rel=>exact⟨3,m*64,_,by omega,by go_num,rfl,rfl,Hb.out,by omega,by omega,HG2,Hsz.out,hbz⟩
            case measure=>simp [intOf]
          ·have h61:(61:UInt8)=c3:=by
            have:=pk2.symm.trans pc3'
            injection this with this
            injection this with _ this
            exact UInt8.toNat_inj.1 (by omega)
           subst h61
           rcases(by omega:e=2∨e=3∨e=4)with rfl|rfl|rfl
           all_goals
            go_wp2_with fail
            go_roundw
            case rel=>exact⟨4,m*64,_,by omega,by go_num,rfl,rfl,Hb.out,by omega,by omega,HG2,Hsz.out,hbz⟩
            case measure=>simp [intOf]
      ·obtain rfl:k=4:=by omega
       have hme:m=n∧e=d:=by
        have:=G.out
        simp only [List.drop_succ_cons,List.drop_zero,List.drop_nil,grpP,Option.some.injEq,Prod.mk.injEq]at this
        exact this
       obtain⟨rfl,rfl⟩:=hme
       have hox:=ho.below hbx
       have hbz:=hb2.trans (hbx.mono hb2.size)
       have Hsz:=Lib.hid hsz;clear hsz hbx p0 p1 p2 p3 G
       have hl3: ∀z,(List.take z (bytes3 m)).length≤3:=fun z=>by simp [bytes3];omega
       have hcc':(4:Int)≤(t.length:Int)+4:=by omega
       rcases(by omega:e=2∨e=3∨e=4)with rfl|rfl|rfl
       all_goals
        go_wp2_with (at_builtin;refine appB rfl (.tmp 99) (.tmp 111) 22 (.inl rfl) rfl done _ rfl (hox.alloc _) rfl (Src.part wr [b8 (m/65536),b8 (m/256),b8 m] _ 3 (by simp) (by simp)) (by simp;omega) (by have:=hbz.size;simp;omega) ?_;intro v1 w1 ho1 _ hb1 _)
        go_roundw
        case rel=>exact⟨t,_,q2,_,_,rfl,by omega,by simp;omega,hp4,Hq,by rw [Hr.out,List.append_assoc];rfl,ho1,(hbz.alloc hbz.size _).trans hb1⟩
        case measure=>simp only [];omega
end Go.Proofs.YtgilnagajcfkpaaGreatDoor
