import Derived.Laws.AppendOwnNone
import Derived.Test.YtgilnagajcfkpaaGreatDoorQ12
set_option maxHeartbeats 4000000
set_option maxRecDepth 1000000
set_option linter.all false
namespace Go.Proofs.YtgilnagajcfkpaaGreatDoor
open Go.RowKit
theorem Tryz.info194:(Tryz.prog.info? 194).map (fun i=>(i.zero,i.size,i.bytes))=some (some (.agg #[.string ⟨#[]⟩, .string ⟨#[]⟩]),2,32):=by kernel_rfl
theorem Tryz.underlying140:Tryz.prog.underlying 140=some (.slice 194):=by kernel_rfl
def pairs (l:List Tag):List Value:=l.flatMap fun t=> [Str t.1,Str t.2]
theorem pairs_length (l:List Tag):(pairs l).length=l.length*2:=by
 induction l with
 |nil=>rfl
 |cons t r ih=>rw [pairs,List.flatMap_cons,List.length_append,←pairs,ih];simp;omega
theorem pairs_append (a b:List Tag):pairs (a++b)=pairs a++pairs b:=by simp [pairs]
theorem pairs_one (l:List Tag): ∀u∈pairs l,u.oneCell'=true:=by
 intro u hu
 obtain⟨t,_,hu⟩:=List.mem_flatMap.1 hu
 simp at hu
 rcases hu with rfl|rfl<;>rfl
theorem pairs_at (l:List Tag)(k:Nat)(h:k<l.length):(pairs l)[k*2]?=some (Str l[k].1)∧(pairs l)[k*2+1]?=some (Str l[k].2):=by
 induction l generalizing k with
 |nil=>simp at h
 |cons t r ih=>
  cases k with
  |zero=>exact⟨rfl,rfl⟩
  |succ k=>
   have:=ih k (by simpa using h)
   have e:(k+1)*2=k*2+2:=by omega
   rw [e]
   exact this
theorem pairs_get (l:List Tag)(j:Nat)(u:Value)(h:(pairs l)[j]?=some u): ∃k,∃(hk:k<l.length),(j=k*2∧u=Str l[k].1)∨(j=k*2+1∧u=Str l[k].2):=by
 have hj:j<l.length*2:=by have:=(List.getElem?_eq_some_iff.1 h).1;rwa [pairs_length]at this
 have hk:j/2<l.length:=by omega
 refine⟨j/2,hk,?_⟩
 have hp:=pairs_at l (j/2) hk
 by_cases e:j=j/2*2
 ·rw [←e,h]at hp
  exact .inl ⟨e,by injection hp.1⟩
 ·have e2:j=j/2*2+1:=by omega
  rw [←e2,h]at hp
  exact .inr ⟨e2,by injection hp.2⟩
def OwnT (w:World)(B:Nat)(v:Value)(l:List Tag):Prop:=w.ownsRow B 194 2 v l.length (pairs l)
theorem OwnT.rd {w:World} {B:Nat} {v:Value} {l:List Tag} (h:OwnT w B v l):RdT w v l:=by
 obtain⟨_,h⟩:=h
 rcases h with⟨rfl,h0⟩|⟨g,cap,cur,rfl,hb,hg,hc,hm,hs,ht⟩
 ·have:l= []:=List.eq_nil_of_length_eq_zero h0
  subst this
  exact⟨none,0,rfl,Nat.le_refl _, .inl rfl⟩
 ·refine⟨_,cap,rfl,hc, .inr ⟨g,0,rfl,(Array.getElem?_eq_some_iff.1 hg).1,fun k hk=> ?_⟩⟩
  have hp:=pairs_at l k hk
  have key: ∀j u,(pairs l)[j]?=some u→w.cell? ⟨g,0+j,none⟩=some u:=fun j u hj=>by
   rw [cell_of_row w g (0+j) cur 194 (0,0) hg,Nat.zero_add]
   rw [←ht]at hj
   have hjl:j<l.length*2:=by have:=(List.getElem?_eq_some_iff.1 hj).1;simp at this;omega
   rw [List.getElem?_take,if_pos hjl]at hj
   simpa using hj
  exact⟨key _ _ hp.1,by have:=key _ _ hp.2;rwa [←Nat.add_assoc]at this⟩
theorem OwnT.below {w w':World} {B:Nat} {v:Value} {l:List Tag} (h:OwnT w B v l)(hb:Below w.heap.size w w'):OwnT w' B v l:=by
 obtain⟨h1,h⟩:=h
 refine⟨h1,?_⟩
 rcases h with h|⟨g,cap,cur,rfl,hB,hg,rest⟩
 ·exact .inl h
 ·exact .inr ⟨g,cap,cur,rfl,hB,(hb.block g (Array.getElem?_eq_some_iff.1 hg).1).trans hg,rest⟩
theorem OwnT.alloc {w:World} {B:Nat} {v:Value} {l:List Tag} (h:OwnT w B v l)(o:Obj):OwnT (w.alloc o) B v l:=h.below ((Below.refl _ _).alloc (Nat.le_refl _) o)
theorem OwnT.empty (w:World)(B:Nat)(hB:B≤w.heap.size):OwnT (w.alloc (.cells #[] 194)) B (.slice (some ⟨w.heap.size,0,none⟩) 0 0) []:=
 World.ownsRow_made w #[] 0 hB (by simp [maxLen]) rfl
theorem RdT.lit (w:World)(a b:BS):RdT (w.alloc (.cells #[Str a,Str b] 194)) (.slice (some ⟨w.heap.size,0,none⟩) 1 1) [(a,b)]:=by
 refine⟨_,1,rfl,Nat.le_refl _, .inr ⟨_,0,rfl,by simp,fun k hk=> ?_⟩⟩
 obtain rfl:k=0:=by simpa using hk
 have h:=heap_alloc_new w (.cells #[Str a,Str b] 194)
 exact⟨by rw [cell_of_row _ _ _ _ _ _ h];rfl,by rw [cell_of_row _ _ _ _ _ _ h];rfl⟩
theorem RdT.alloc {w:World} {v:Value} {l:List Tag} (h:RdT w v l)(o:Obj):RdT (w.alloc o) v l:=h.below ((Below.refl _ _).alloc (Nat.le_refl _) o)
theorem RdT.grown {w w':World} {v:Value} {l:List Tag} {row:Option Nat} (h:RdT w v l)(hg:w.grownBy w' row)(hne:v.ownBlock≠row):RdT w' v l:=by
 obtain⟨A,c,rfl,hc,hx⟩:=h
 refine⟨A,c,rfl,hc,?_⟩
 rcases hx with hx|⟨g,off,rfl,hgs,hk⟩
 ·exact .inl hx
 ·have key: ∀(i:Nat) (u:Value),w.cell? ⟨g,i,none⟩=some u→w'.cell? ⟨g,i,none⟩=some u:=fun i u hu=>by
   rw [World.cell?_of_block (w:=w)]
   ·exact hu
   ·exact hg.block g hgs hne
  exact .inr ⟨g,off,rfl,Nat.lt_of_lt_of_le hgs hg.size,fun k h=>⟨key _ _ (hk k h).1,key _ _ (hk k h).2⟩⟩
theorem step_appT {ops:Array Oper} {o:Oper} {a:Act} {K:Act→World→Prop} {Q:Exit→Act→World→Prop} {E:Prop} {w w0:World} {B:Nat} (hgd:o.guard=none)(s x:Operand)(ho:o.op= .call { callee:= .builtin .append,args:= #[s,x],argTypes:= #[140,140] })
 (v:Value)(xs:List Tag)(hs:a.eval s=v)(hown:OwnT w B v xs)(xv:Value)(l:List Tag)(hxv:a.eval x=xv)(hx:RdT w xv l)(hn:xs.length+l.length≤1099511627776)(hb:Below B w0 w)(hB:B≤w0.heap.size)
 (hform: ∀c,xv= .slice none 0 c→c=0)
 (h: ∀v' w',OwnT w' B v' (xs++l)→Below B w0 w'→w.grownBy w' v.ownBlock→K (a.put o.dst v') w'):
 if Region.wanted o (yielded ops a.tmps)=true then Oper.wp Tryz.prog o a w K Q else E:=by
 have hw:Region.wanted o (yielded ops a.tmps)=true:=by simp [Region.wanted,hgd]
 rw [if_pos hw]
 obtain⟨i,hi,hz,hs1,hb'⟩:=info_parts Tryz.info194
 obtain⟨A,c,rfl,hc,hcells⟩:=hx
 have hBw:=Nat.le_trans hB hb.size
 cases A with
 |none=>
  have hl:l= []:=by
   rcases hcells with h|⟨g,off,he,_⟩
   ·exact h
   ·cases he
  subst hl
  obtain rfl:=hform c rfl
  have hrun:(Builtin.append_ #[140,140] o.type #[v, .slice none ([]:List Tag).length 0]).run Tryz.prog w= .ok v w:=run_append_owned_none (P:=Tryz.prog) (w:=w) B 140 o.type 194 i 2 Tryz.underlying140 hi v _ _ hown
  unfold Oper.wp execOp
  simp only [ho,resolve,invoke,builtin,Sem.run_bind,Sem.run_pure,Result.andThen_ok,List.map_toArray,List.map_cons,List.map_nil,hs,hxv,hrun]
  have e:OwnT w B v (xs++ []):=(List.append_nil xs).symm ▸ hown
  exact h v w e hb (World.grownBy.refl w _)
 |some ad=>
  obtain⟨v',w',hrun,hown',hgr,_⟩:=run_append_own (P:=Tryz.prog) w B 140 o.type 194 i _ 2 32 Tryz.underlying140 hi hz hs1 hb' rfl (by omega) v xs.length (pairs xs) hown ad l.length c (pairs l) (pairs_length l)
   (fun j u hj=>by
     obtain⟨k,hk,hju⟩:=pairs_get l j u hj
     rcases hcells with hc|⟨g,off,he,hg,hkk⟩
     ·subst hc;simp at hk
     ·have he':=Option.some.inj he
      rw [he',add_at]
      rcases hju with⟨rfl,rfl⟩|⟨rfl,rfl⟩
      ·exact(hkk k hk).1
      ·exact(hkk k hk).2)
   (pairs_one l) (by unfold maxLen;omega) (by omega) hBw
  unfold Oper.wp execOp
  simp only [ho,resolve,invoke,builtin,Sem.run_bind,Sem.run_pure,Result.andThen_ok,List.map_toArray,List.map_cons,List.map_nil,hs,hxv,hrun]
  refine h v' w' ?_ (hb.grown hgr hBw fun k hk=> ?_) hgr
  ·unfold OwnT;rw [List.length_append,pairs_append];exact hown'
  ·exact(World.ownsRow.lt hown k hk).1
def posT (out:List Tag)(k:BS):Nat:=(out.takeWhile fun t=>Op.bytesLess t.1 k).length
def insT (out:List Tag)(t:Tag):Option (List Tag):=if(out[posT out t.1]?).map (·.1)=some t.1 then none else some (out.take (posT out t.1)++ [t]++out.drop (posT out t.1))
def tagsStep (s:Option (List Tag))(p:BS):Option (List Tag):=s.bind fun out=>if(cutAt 61 p).2.2 then insT out (trim (cutAt 61 p).1,trim (cutAt 61 p).2.1)else none
def tagsOf (l:BS):Option (List Tag):=(splitAt 59 l).foldl tagsStep (some [])
theorem tagsFold_none (ps:List BS):ps.foldl tagsStep none=none:=by
 induction ps with
 |nil=>rfl
 |cons p r ih=>rw [List.foldl_cons];exact ih
theorem splitAt_mem_len (c:UInt8)(l:BS): ∀p∈splitAt c l,p.length≤l.length:=by
 induction l with
 |nil=>intro p hp;simp [splitAt]at hp;simp [hp]
 |cons x r ih=>
  intro p hp
  rw [splitAt]at hp
  split at hp
  ·rcases List.mem_cons.1 hp with rfl|hp
   ·simp
   ·have:=ih p hp;simp;omega
  ·have hne:=splitAt_ne c r
   cases hs:splitAt c r with
   |nil=>exact absurd hs hne
   |cons q qs=>
    rw [hs]at hp ih
    simp only [List.headD_cons,List.tail_cons]at hp
    rcases List.mem_cons.1 hp with rfl|hp
    ·have:=ih q (by simp);simp;exact this
    ·have:=ih p (by simp [hp]);simp;omega
theorem posT_at (out:List Tag)(k:BS)(n:Nat)(hn:n≤out.length)(hl: ∀j,(hj:j<n)→(hj2:j<out.length)→Op.bytesLess out[j].1 k=true)(he: ∀(h:n<out.length),Op.bytesLess out[n].1 k=false):posT out k=n:=by
 unfold posT
 induction out generalizing n with
 |nil=>simp at hn;simp [hn]
 |cons t r ih=>
  cases n with
  |zero=>
   have:=he (by simp)
   simp at this
   simp [this]
  |succ n=>
   have h0:=hl 0 (by omega) (by simp)
   simp at h0
   rw [List.takeWhile_cons,if_pos h0,List.length_cons,ih n (by simpa using hn) (fun j hj hj2=>hl (j+1) (by omega) (by simpa using hj2)) (fun h=>he (by simpa using h))]
theorem RdT.take {w:World} {A:Option Addr} {m c:Nat} {l:List Tag} (h:RdT w (.slice A m c) l)(n:Nat)(hn:n≤l.length):RdT w (.slice A n c) (l.take n):=by
 obtain⟨A',c',he,hc,hx⟩:=h
 injection he with h1 h2 h3
 subst h1;subst h3
 have hl:(l.take n).length=n:=by simp;omega
 refine⟨A,c,by rw [hl],by rw [hl];omega,?_⟩
 rcases hx with rfl|⟨g,off,rfl,hg,hk⟩
 ·exact .inl (by simp)
 ·refine .inr ⟨g,off,rfl,hg,fun k hkn=> ?_⟩
  have h2:=hk k (by omega)
  simpa using h2
theorem RdT.drop {w:World} {g off m c:Nat} {l:List Tag} (h:RdT w (.slice (some ⟨g,off,none⟩) m c) l)(n:Nat)(hn:n≤l.length):RdT w (.slice (if c=n then some ⟨g,off,none⟩else some ⟨g,off+n*2,none⟩) (m-n) (c-n)) (l.drop n):=by
 obtain⟨A',c',he,hc,hx⟩:=h
 injection he with h1 h2 h3
 subst h2;subst h3
 have hl:(l.drop n).length=l.length-n:=by simp
 refine⟨_,_,by rw [hl],by rw [hl];omega,?_⟩
 by_cases h0:l.length=n
 ·exact .inl (by rw [List.drop_eq_nil_of_le (by omega)])
 ·rw [if_neg (by omega)]
  rcases hx with rfl|⟨g',off',he',hg,hk⟩
  ·simp at hn;subst hn;simp at h0
  ·rw [←h1]at he'
   have he2:=Option.some.inj he'
   injection he2 with h3 h4
   subst h3;subst h4
   refine .inr ⟨g,off+n*2,rfl,hg,fun k hkn=> ?_⟩
   have h2:=hk (n+k) (by rw [hl]at hkn;omega)
   have e:off+(n+k)*2=off+n*2+k*2:=by omega
   rw [e]at h2
   simpa using h2
theorem RdT.lit' (w:World)(n:Nat)(hn:n=w.heap.size)(a b:BS):RdT (w.alloc (.cells #[Str a,Str b] 194)) (.slice (some ⟨n,0,none⟩) 1 1) [(a,b)]:=by subst hn;exact RdT.lit w a b
theorem OwnT.empty' (w:World)(B n:Nat)(hn:n=w.heap.size)(hB:B≤w.heap.size):OwnT (w.alloc (.cells #[] 194)) B (.slice (some ⟨n,0,none⟩) 0 0) []:=by subst hn;exact OwnT.empty w B hB
theorem dTags_any (l:BS)(L:List Tag)(w:World)(hs:l.length≤2147483648)(hL:tagsOf l=some L):
 Calls Tryz.prog 70 #[Str l] w fun e w'=> ∃v,e= .returned (.tuple #[v, .bool true])∧RdT w' v L∧Below w.heap.size w w':=by
 obtain⟨ps,hps⟩: ∃ps,Hid (ps=splitAt 59 l):=⟨_,Lib.hid rfl⟩
 have hsl:ps.length≤l.length+1:=by rw [hps.out];exact spL 59 l
 have hds: ∀ww,Calls Tryz.prog 30 #[Str l, .int .u8 59] ww fun e w'=> ∃A c,e= .returned (.slice A ps.length c)∧OwnAt w' ww.heap.size 9 (.slice A ps.length c) (strs ps)∧Below ww.heap.size ww w':=fun ww=>(dSplit_any l 59 ww (by omega)).mono (by
  rintro e w1 ⟨v1,rfl,ho1,hb1⟩
  rw [←hps.out]at ho1
  obtain⟨A1,c1,rfl⟩:=ho1.form
  rw [stL]at ho1⊢
  exact⟨A1,c1,rfl,ho1,hb1⟩)
 have Hds:=Lib.hid hds;clear hds
 have HL:Hid (ps.foldl tagsStep (some [])=some L):=by show _=_;rw [hps.out];exact hL
 have Hpl:Hid (∀p∈ps,p.length≤2147483648):=by
  intro p hp
  rw [hps.out]at hp
  exact Nat.le_trans (splitAt_mem_len 59 l p hp) hs
 clear hL
 go_enter Tryz.func70,Tryz.ntmps70
 go_wp2_with (go_at_call 30;refine(Hds.out _).mono ?_;rintro e w1 ⟨A1,c1,rfl,ho1,hb1⟩)
 go_loopw [4,6,7,8,9,10,11,15] (fun v _ _ _ _ _ _ i wr=> ∃(k:Nat) (out:List Tag),k≤ps.length∧i= .int .i64 k∧RdT wr v out∧(out= []→v= .slice none 0 0)∧out.length≤k∧Hid ((ps.drop k).foldl tagsStep (some out)=some L)∧Below w1.heap.size w1 wr) (fun _ _ _ _ _ _ _ i _=>ps.length-(intOf i).toNat)
 case atStart=>exact⟨0,[],Nat.zero_le _,rfl,⟨none,0,rfl,Nat.le_refl _, .inl rfl⟩,fun _=>rfl,by simp,HL,Below.refl _ _⟩
 case round=>
  obtain⟨k,out,hk,rfl,hout,hnil,hol,H,hb⟩:=hrel
  have hbz:=hb1.trans (hb.mono hb1.size)
  by_cases hlt:k<ps.length
  ·obtain⟨p,hp⟩: ∃p,Hid (p=ps[k]):=⟨_,Lib.hid rfl⟩
   obtain⟨g,off,cc,e1⟩:=ho1.form_some (by intro e;have:=congrArg List.length e;rw [stL]at this;simp at this;subst this;simp at hlt)
   rw [stL]at e1
   injection e1 with e1 _ e2
   subst e1;subst e2
   have hc:wr.cell? ⟨g,off+k,none⟩=some (Str p):=by
    refine bcell hb (ho1.cell_at k (Str p) ?_).1
    rw [hp.out];simp [strs,hlt]
   have hk0:(0:Int)≤(k:Int):=by omega
   have hk1:(k:Int)<(ps.length:Int):=by omega
   have hpl:p.length≤2147483648:=Hpl.out p (by rw [hp.out];exact List.getElem_mem hlt)
   have hH:=H.out
   rw [List.drop_eq_getElem_cons hlt,←hp.out,List.foldl_cons]at hH
   rcases hct:cutAt 61 p with⟨a,b,f⟩
   have hcl:=cutAt_len 61 p
   rw [hct]at hcl
   simp only at hcl
   obtain⟨out2,hins,hH2⟩: ∃out2,(f=true∧insT out (trim a,trim b)=some out2)∧(ps.drop (k+1)).foldl tagsStep (some out2)=some L:=by
    cases f with
    |false=>
     rw [tagsStep,Option.bind_some,hct]at hH
     simp only [Bool.false_eq_true,if_false,tagsFold_none]at hH
     cases hH
    |true=>
     rw [tagsStep,Option.bind_some,hct]at hH
     simp only [if_true]at hH
     cases hi:insT out (trim a,trim b)with
     |none=>rw [hi,tagsFold_none]at hH;cases hH
     |some o2=>rw [hi]at hH;exact⟨o2,⟨rfl,rfl⟩,hH⟩
   obtain⟨rfl,hins⟩:=hins
   have Hins:=Lib.hid hins;have HH2:=Lib.hid hH2;clear hins hH2 hH H
   have Hct:=Lib.hid hct;clear hct
   have hal:a.length≤4294967296:=by omega
   have hbl:b.length≤4294967296:=by omega
   clear hcl
   have tok:True:=trivial
   obtain⟨wo,rfl⟩: ∃wo:World,wo=wr:=⟨_,rfl⟩
   have Hout:=Lib.hid hout
   by_cases h0:out= []
   ·obtain rfl:=hnil h0
    subst h0
    clear hnil hout
    go_wp2_with (first
     |(go_at_call 41;refine(dCut_any p 61 _ (by omega)).mono ?_;rintro e w2 ⟨rfl,hb2⟩;rw [Hct.out];simp only [])
     |(go_at_call 45;have _t:=tok;refine(dTrim_any a _ hal).mono ?_;rintro e w3 ⟨rfl,rfl⟩;clear tok)
     |(go_at_call 45;refine(dTrim_any b _ hbl).mono ?_;rintro e w4 ⟨rfl,rfl⟩))
    obtain⟨w3,hw3⟩: ∃w3,Hid (w3=w2.alloc (.cells #[Str (trim a),Str (trim b)] 194)):=⟨_,Lib.hid rfl⟩
    have hx0:w3.cell? ⟨w2.heap.size,0,none⟩=some (Str (trim a)):=by
     rw [hw3.out,cell_of_row _ _ _ _ _ _ (heap_alloc_new w2 _)];rfl
    have hx1:w3.cell? ⟨w2.heap.size,1,none⟩=some (Str (trim b)):=by
     rw [hw3.out,cell_of_row _ _ _ _ _ _ (heap_alloc_new w2 _)];rfl
    have hb3:Below w2.heap.size w2 w3:=by rw [hw3.out];exact(Below.refl _ _).alloc (Nat.le_refl _) _
    have ho3:=Hout.out.below (hb2.trans (hb3.mono hb2.size))
    have hbw3:=(hb.trans (hb2.mono hb.size)).trans (hb3.mono (Nat.le_trans hb.size hb2.size))
    have hw3':=hw3.out
    rw [←hw3']
    clear hw3' hw3 hc hb2 hb3 Hout
    have Hi:Hid ([(trim a,trim b)]=out2):=by
     have:=Hins.out
     unfold insT at this
     simpa [Hid,posT]using this
    have HR:Hid (∀W:World,Below w3.heap.size w3 W→RdT W (.slice none 0 0) []):=fun W _=>⟨none,0,rfl,Nat.le_refl _, .inl rfl⟩
    go_loopw [11] (fun i wx=>i= .int .i64 0∧wx.heap.size=w3.heap.size∧Below w3.heap.size w3 wx) (fun i _=>0)
    case atStart=>exact⟨rfl,rfl,Below.refl _ _⟩
    case round=>
     obtain⟨rfl,hsz,hbx⟩:=hrel
     have y2:=bcell hbx hx0
     have y3:=bcell hbx hx1
     have Hsz:=Lib.hid hsz;clear hsz
     go_wp2_with fail
     go_quiet (fail)
     go_wp2_with fail
     go_quiet (fail)
     go_wp2_with fail
     go_region_held3 (fun w'=>w'.cell? ⟨w2.heap.size,0,none⟩=some (Str (trim a))∧w'.cell? ⟨w2.heap.size,1,none⟩=some (Str (trim b))∧Below w3.heap.size w3 w')
      (((refine(fun hB=>⟨bcell hB hx0,bcell hB hx1,hB⟩:Below w3.heap.size w3 _→_) ?_);(first|assumption|exact bdN hbx _|exact bdw (bdN (bdN hbx _) _)|exact(bdw (bdN (bdN hbx _) _)).alloc hbx.size _|exact((bdw (bdN (bdN hbx _) _)).alloc hbx.size _).alloc (Nat.le_trans hbx.size (by simp)) _|exact(bdN hbx _).alloc hbx.size _|exact((bdN hbx _).alloc hbx.size _).alloc (Nat.le_trans hbx.size (by simp)) _|exact hb69.alloc hb69.size _|exact hb72.alloc hb72.size _|fail)))
      (first
        |(refine step_appT (w0:=w3) (B:=w3.heap.size) (by rfl) (.tmp 65) (.tmp 68) (by rfl) _ [] (by rfl) (by have hq:=hbx.size;first|(refine OwnT.empty' _ _ _ ?_ ?_;(first|rfl|(focus (simp;done))|fail);(first|exact hq|exact Nat.le_trans hq (by simp)|fail))|(refine OwnT.alloc ?_ _;refine OwnT.empty' _ _ _ ?_ ?_;(first|rfl|(focus (simp;done))|fail);(first|exact hq|exact Nat.le_trans hq (by simp)|fail))|fail) _ [] (by rfl) (HR.out _ (by first|assumption|exact bdN hbx _|exact bdw (bdN (bdN hbx _) _)|exact(bdw (bdN (bdN hbx _) _)).alloc hbx.size _|exact((bdw (bdN (bdN hbx _) _)).alloc hbx.size _).alloc (Nat.le_trans hbx.size (by simp)) _|exact(bdN hbx _).alloc hbx.size _|exact((bdN hbx _).alloc hbx.size _).alloc (Nat.le_trans hbx.size (by simp)) _|exact hb69.alloc hb69.size _|exact hb72.alloc hb72.size _|fail)) (by simp<;>omega) (by first|assumption|exact bdN hbx _|exact bdw (bdN (bdN hbx _) _)|exact(bdw (bdN (bdN hbx _) _)).alloc hbx.size _|exact((bdw (bdN (bdN hbx _) _)).alloc hbx.size _).alloc (Nat.le_trans hbx.size (by simp)) _|exact(bdN hbx _).alloc hbx.size _|exact((bdN hbx _).alloc hbx.size _).alloc (Nat.le_trans hbx.size (by simp)) _|exact hb69.alloc hb69.size _|exact hb72.alloc hb72.size _|fail) (Nat.le_refl _) (fun c h=>by injection h with _ _ h;exact h.symm) ?_;intro v69 w69 ho69 hb69 hg69)
        |(refine step_appT (w0:=w3) (B:=w3.heap.size) (by rfl) (.tmp 69) (.tmp 71) (by rfl) _ _ (by rfl) (by first|exact ho69|exact ho69.alloc _) _ [(trim a,trim b)] (by rfl) (by first|exact RdT.lit' _ _ (by simp) _ _|(refine RdT.grown ?_ hg69 ?_;(first|(refine RdT.lit' _ _ ?_ _ _;first|rfl|(focus (simp;done))|fail)|(refine RdT.alloc ?_ _;refine RdT.lit' _ _ ?_ _ _;first|rfl|(focus (simp;done))|fail)|fail);(show some _≠some _;intro e;have e2:=Option.some.inj e;first|exact absurd e2 (Nat.succ_ne_self _)|exact absurd e2.symm (Nat.succ_ne_self _)|fail))|fail) (by simp<;>omega) (by first|assumption|exact bdN hbx _|exact bdw (bdN (bdN hbx _) _)|exact(bdw (bdN (bdN hbx _) _)).alloc hbx.size _|exact((bdw (bdN (bdN hbx _) _)).alloc hbx.size _).alloc (Nat.le_trans hbx.size (by simp)) _|exact(bdN hbx _).alloc hbx.size _|exact((bdN hbx _).alloc hbx.size _).alloc (Nat.le_trans hbx.size (by simp)) _|exact hb69.alloc hb69.size _|exact hb72.alloc hb72.size _|fail) (Nat.le_refl _) (fun c h=>by cases h) ?_;intro v72 w72 ho72 hb72 hg72)
        |(refine step_appT (w0:=w3) (B:=w3.heap.size) (by rfl) (.tmp 72) (.tmp 75) (by rfl) _ _ (by rfl) ho72 _ [] (by rfl) (HR.out _ (by first|assumption|exact bdN hbx _|exact bdw (bdN (bdN hbx _) _)|exact(bdw (bdN (bdN hbx _) _)).alloc hbx.size _|exact((bdw (bdN (bdN hbx _) _)).alloc hbx.size _).alloc (Nat.le_trans hbx.size (by simp)) _|exact(bdN hbx _).alloc hbx.size _|exact((bdN hbx _).alloc hbx.size _).alloc (Nat.le_trans hbx.size (by simp)) _|exact hb69.alloc hb69.size _|exact hb72.alloc hb72.size _|fail)) (by simp<;>omega) (by first|assumption|exact bdN hbx _|exact bdw (bdN (bdN hbx _) _)|exact(bdw (bdN (bdN hbx _) _)).alloc hbx.size _|exact((bdw (bdN (bdN hbx _) _)).alloc hbx.size _).alloc (Nat.le_trans hbx.size (by simp)) _|exact(bdN hbx _).alloc hbx.size _|exact((bdN hbx _).alloc hbx.size _).alloc (Nat.le_trans hbx.size (by simp)) _|exact hb69.alloc hb69.size _|exact hb72.alloc hb72.size _|fail) (Nat.le_refl _) (fun c h=>by injection h with _ _ h;exact h.symm) ?_;intro v76 w76 ho76 hb76 hg76)|fail)
     all_goals
      go_wp2_with fail
      go_roundw
      case rel=>exact⟨k+1,out2,by omega,by go_num,by rw [←Hi.out];exact ho76.rd,by rw [←Hi.out];intro e;simp at e,by rw [←Hi.out];simp,HH2,hbw3.trans (hb76.mono hbw3.size)⟩
      case measure=>simp [intOf];omega
   ·clear hnil
    obtain⟨Ao,co,rfl,hco,hcells⟩:=hout
    obtain⟨go,oo,rfl,hgo,hcell⟩:=hcells.resolve_left h0
    have H0:=Lib.hid h0
    have hout1:0<out.length:=List.length_pos_iff.2 h0
    clear hcells hcell h0
    go_wp2_with (first
     |(go_at_call 41;refine(dCut_any p 61 _ (by omega)).mono ?_;rintro e w2 ⟨rfl,hb2⟩;rw [Hct.out];simp only [])
     |(go_at_call 45;have _t:=tok;refine(dTrim_any a _ hal).mono ?_;rintro e w3 ⟨rfl,rfl⟩;clear tok)
     |(go_at_call 45;refine(dTrim_any b _ hbl).mono ?_;rintro e w4 ⟨rfl,rfl⟩))
    obtain⟨w3,hw3⟩: ∃w3,Hid (w3=w2.alloc (.cells #[Str (trim a),Str (trim b)] 194)):=⟨_,Lib.hid rfl⟩
    have hx0:w3.cell? ⟨w2.heap.size,0,none⟩=some (Str (trim a)):=by
     rw [hw3.out,cell_of_row _ _ _ _ _ _ (heap_alloc_new w2 _)];rfl
    have hx1:w3.cell? ⟨w2.heap.size,1,none⟩=some (Str (trim b)):=by
     rw [hw3.out,cell_of_row _ _ _ _ _ _ (heap_alloc_new w2 _)];rfl
    have hb3:Below w2.heap.size w2 w3:=by rw [hw3.out];exact(Below.refl _ _).alloc (Nat.le_refl _) _
    have ho3:=Hout.out.below (hb2.trans (hb3.mono hb2.size))
    have hbw3:=(hb.trans (hb2.mono hb.size)).trans (hb3.mono (Nat.le_trans hb.size hb2.size))
    have hw3':=hw3.out
    rw [←hw3']
    clear hw3' hw3 hc hb2 hb3 Hout
    go_loopw [11] (fun i wx=> ∃n:Nat,n≤out.length∧i= .int .i64 n∧Hid (∀j,(hj:j<n)→(hj2:j<out.length)→Op.bytesLess out[j].1 (trim a)=true)∧wx.heap.size=w3.heap.size∧Below w3.heap.size w3 wx) (fun i _=>out.length-(intOf i).toNat)
    case atStart=>exact⟨0,Nat.zero_le _,rfl,fun j hj=>by omega,rfl,Below.refl _ _⟩
    case round=>
     obtain⟨n,hn,rfl,HN,hsz,hbx⟩:=hrel
     have y2:=bcell hbx hx0
     have y3:=bcell hbx hx1
     have ho4:=ho3.below hbx
     have Hsz:=Lib.hid hsz;clear hsz
     have hco':out.length≤co:=hco
     have hnn:n≤co:=by omega
     have HR1:Hid (∀W:World,Below w3.heap.size w3 W→RdT W (.slice (some ⟨go,oo,none⟩) n co) (out.take n)):=fun W hW=>(ho3.below hW).take n hn
     have HR2:Hid (∀W:World,Below w3.heap.size w3 W→RdT W (.slice (if co=n then some ⟨go,oo,none⟩else some ⟨go,oo+n*2,none⟩) (out.length-n) (co-n)) (out.drop n)):=fun W hW=>(ho3.below hW).drop n hn
     have hlt1:(out.take n).length≤2147483649:=by simp;omega
     have hlt2:(out.drop n).length≤2147483649:=by simp;omega
     have hn0:(0:Int)≤(n:Int):=by omega
     by_cases hno:n<out.length
     ·have y1:wr.cell? ⟨go,oo+n*2,none⟩=some (Str out[n].1):=by
       obtain⟨A',c',he,_,hx⟩:=ho4
       rcases hx with hx|⟨g',o',he',_,hk'⟩
       ·subst hx;simp at hno
       ·injection he with h1 _ _
        rw [←h1]at he'
        have:=Option.some.inj he'
        injection this with h3 h4
        subst h3;subst h4
        exact(hk' n hno).1
      have hn1:(n:Int)<(out.length:Int):=by omega
      cases hle:Op.bytesLess out[n].1 (trim a)with
      |true=>
       have Hle:=Lib.hid hle
       go_wp2_with fail
       go_quiet (fail)
       go_wp2_with fail
       go_roundw
       case rel=>exact⟨n+1,by omega,by go_num,fun j hj hj2=>by
        by_cases e:j=n
        ·subst e;exact Hle.out
        ·exact HN.out j (by omega) hj2,Hsz.out,bdN hbx _⟩
       case measure=>simp [intOf];omega
      |false=>
       have hpos:=posT_at out (trim a) n hn HN.out (fun _=>hle)
       have hi:=Hins.out
       unfold insT at hi
       rw [hpos]at hi
       simp only [List.getElem?_eq_getElem hno,Option.map_some,Option.some.injEq]at hi
       split at hi
       ·cases hi
       ·next hne=>
        injection hi with hi
        have Hi:=Lib.hid hi;clear hi hpos
        have hneb:(out[n].1==trim a)=false:=by simpa using hne
        clear hne
        go_wp2_with fail
        go_quiet (fail)
        go_wp2_with fail
        go_quiet (fail)
        go_wp2_with fail
        go_region_held3 (fun w'=>w'.cell? ⟨w2.heap.size,0,none⟩=some (Str (trim a))∧w'.cell? ⟨w2.heap.size,1,none⟩=some (Str (trim b))∧Below w3.heap.size w3 w')
         (((refine(fun hB=>⟨bcell hB hx0,bcell hB hx1,hB⟩:Below w3.heap.size w3 _→_) ?_);(first|assumption|exact bdN hbx _|exact bdw (bdN (bdN hbx _) _)|exact(bdw (bdN (bdN hbx _) _)).alloc hbx.size _|exact((bdw (bdN (bdN hbx _) _)).alloc hbx.size _).alloc (Nat.le_trans hbx.size (by simp)) _|exact(bdN hbx _).alloc hbx.size _|exact((bdN hbx _).alloc hbx.size _).alloc (Nat.le_trans hbx.size (by simp)) _|exact hb69.alloc hb69.size _|exact hb72.alloc hb72.size _|fail)))
         (first
           |(refine step_appT (w0:=w3) (B:=w3.heap.size) (by rfl) (.tmp 65) (.tmp 68) (by rfl) _ [] (by rfl) (by have hq:=hbx.size;first|(refine OwnT.empty' _ _ _ ?_ ?_;(first|rfl|(focus (simp;done))|fail);(first|exact hq|exact Nat.le_trans hq (by simp)|fail))|(refine OwnT.alloc ?_ _;refine OwnT.empty' _ _ _ ?_ ?_;(first|rfl|(focus (simp;done))|fail);(first|exact hq|exact Nat.le_trans hq (by simp)|fail))|fail) _ (out.take n) (by rfl) (HR1.out _ (by first|assumption|exact bdN hbx _|exact bdw (bdN (bdN hbx _) _)|exact(bdw (bdN (bdN hbx _) _)).alloc hbx.size _|exact((bdw (bdN (bdN hbx _) _)).alloc hbx.size _).alloc (Nat.le_trans hbx.size (by simp)) _|exact(bdN hbx _).alloc hbx.size _|exact((bdN hbx _).alloc hbx.size _).alloc (Nat.le_trans hbx.size (by simp)) _|exact hb69.alloc hb69.size _|exact hb72.alloc hb72.size _|fail)) (by simp<;>omega) (by first|assumption|exact bdN hbx _|exact bdw (bdN (bdN hbx _) _)|exact(bdw (bdN (bdN hbx _) _)).alloc hbx.size _|exact((bdw (bdN (bdN hbx _) _)).alloc hbx.size _).alloc (Nat.le_trans hbx.size (by simp)) _|exact(bdN hbx _).alloc hbx.size _|exact((bdN hbx _).alloc hbx.size _).alloc (Nat.le_trans hbx.size (by simp)) _|exact hb69.alloc hb69.size _|exact hb72.alloc hb72.size _|fail) (Nat.le_refl _) (fun c h=>by cases h) ?_;intro v69 w69 ho69 hb69 hg69)
           |(refine step_appT (w0:=w3) (B:=w3.heap.size) (by rfl) (.tmp 69) (.tmp 71) (by rfl) _ _ (by rfl) (by first|exact ho69|exact ho69.alloc _) _ [(trim a,trim b)] (by rfl) (by first|exact RdT.lit' _ _ (by simp) _ _|(refine RdT.grown ?_ hg69 ?_;(first|(refine RdT.lit' _ _ ?_ _ _;first|rfl|(focus (simp;done))|fail)|(refine RdT.alloc ?_ _;refine RdT.lit' _ _ ?_ _ _;first|rfl|(focus (simp;done))|fail)|fail);(show some _≠some _;intro e;have e2:=Option.some.inj e;first|exact absurd e2 (Nat.succ_ne_self _)|exact absurd e2.symm (Nat.succ_ne_self _)|fail))|fail) (by simp<;>omega) (by first|assumption|exact bdN hbx _|exact bdw (bdN (bdN hbx _) _)|exact(bdw (bdN (bdN hbx _) _)).alloc hbx.size _|exact((bdw (bdN (bdN hbx _) _)).alloc hbx.size _).alloc (Nat.le_trans hbx.size (by simp)) _|exact(bdN hbx _).alloc hbx.size _|exact((bdN hbx _).alloc hbx.size _).alloc (Nat.le_trans hbx.size (by simp)) _|exact hb69.alloc hb69.size _|exact hb72.alloc hb72.size _|fail) (Nat.le_refl _) (fun c h=>by cases h) ?_;intro v72 w72 ho72 hb72 hg72)
           |(refine step_appT (w0:=w3) (B:=w3.heap.size) (by rfl) (.tmp 72) (.tmp 75) (by rfl) _ _ (by rfl) ho72 _ (out.drop n) (by rfl) (HR2.out _ (by first|assumption|exact bdN hbx _|exact bdw (bdN (bdN hbx _) _)|exact(bdw (bdN (bdN hbx _) _)).alloc hbx.size _|exact((bdw (bdN (bdN hbx _) _)).alloc hbx.size _).alloc (Nat.le_trans hbx.size (by simp)) _|exact(bdN hbx _).alloc hbx.size _|exact((bdN hbx _).alloc hbx.size _).alloc (Nat.le_trans hbx.size (by simp)) _|exact hb69.alloc hb69.size _|exact hb72.alloc hb72.size _|fail)) (by simp<;>omega) (by first|assumption|exact bdN hbx _|exact bdw (bdN (bdN hbx _) _)|exact(bdw (bdN (bdN hbx _) _)).alloc hbx.size _|exact((bdw (bdN (bdN hbx _) _)).alloc hbx.size _).alloc (Nat.le_trans hbx.size (by simp)) _|exact(bdN hbx _).alloc hbx.size _|exact((bdN hbx _).alloc hbx.size _).alloc (Nat.le_trans hbx.size (by simp)) _|exact hb69.alloc hb69.size _|exact hb72.alloc hb72.size _|fail) (Nat.le_refl _) (fun c h=>by injection h with h1;split at h1<;>cases h1) ?_;intro v76 w76 ho76 hb76 hg76)|fail)
        all_goals
         go_wp2_with fail
         go_roundw
         case rel=>exact⟨k+1,out2,by omega,by go_num,by rw [←Hi.out];exact ho76.rd,by rw [←Hi.out];intro e;simp at e,by rw [←Hi.out];simp;omega,HH2,hbw3.trans (hb76.mono hbw3.size)⟩
         case measure=>simp [intOf];omega
     ·obtain rfl:n=out.length:=by omega
      have hpos:=posT_at out (trim a) out.length hn HN.out (fun h=>by omega)
      have Hi:Hid (out.take out.length++ [(trim a,trim b)]++out.drop out.length=out2):=by
       have hi:=Hins.out
       unfold insT at hi
       rw [hpos]at hi
       simpa [Hid]using hi
      have HR3:Hid (∀W:World,Below w3.heap.size w3 W→RdT W (.slice (if co=out.length then some ⟨go,oo,none⟩else some ⟨go,oo+out.length*2,none⟩) 0 (co-out.length)) (out.drop out.length)):=by
       have:=HR2.out
       rw [Nat.sub_self]at this
       exact this
      clear hpos
      go_wp2_with fail
      go_quiet (fail)
      go_wp2_with fail
      go_quiet (fail)
      go_wp2_with fail
      go_region_held3 (fun w'=>w'.cell? ⟨w2.heap.size,0,none⟩=some (Str (trim a))∧w'.cell? ⟨w2.heap.size,1,none⟩=some (Str (trim b))∧Below w3.heap.size w3 w')
       (((refine(fun hB=>⟨bcell hB hx0,bcell hB hx1,hB⟩:Below w3.heap.size w3 _→_) ?_);(first|assumption|exact bdN hbx _|exact bdw (bdN (bdN hbx _) _)|exact(bdw (bdN (bdN hbx _) _)).alloc hbx.size _|exact((bdw (bdN (bdN hbx _) _)).alloc hbx.size _).alloc (Nat.le_trans hbx.size (by simp)) _|exact(bdN hbx _).alloc hbx.size _|exact((bdN hbx _).alloc hbx.size _).alloc (Nat.le_trans hbx.size (by simp)) _|exact hb69.alloc hb69.size _|exact hb72.alloc hb72.size _|fail)))
       (first
         |(refine step_appT (w0:=w3) (B:=w3.heap.size) (by rfl) (.tmp 65) (.tmp 68) (by rfl) _ [] (by rfl) (by have hq:=hbx.size;first|(refine OwnT.empty' _ _ _ ?_ ?_;(first|rfl|(focus (simp;done))|fail);(first|exact hq|exact Nat.le_trans hq (by simp)|fail))|(refine OwnT.alloc ?_ _;refine OwnT.empty' _ _ _ ?_ ?_;(first|rfl|(focus (simp;done))|fail);(first|exact hq|exact Nat.le_trans hq (by simp)|fail))|fail) _ (out.take out.length) (by rfl) (HR1.out _ (by first|assumption|exact bdN hbx _|exact bdw (bdN (bdN hbx _) _)|exact(bdw (bdN (bdN hbx _) _)).alloc hbx.size _|exact((bdw (bdN (bdN hbx _) _)).alloc hbx.size _).alloc (Nat.le_trans hbx.size (by simp)) _|exact(bdN hbx _).alloc hbx.size _|exact((bdN hbx _).alloc hbx.size _).alloc (Nat.le_trans hbx.size (by simp)) _|exact hb69.alloc hb69.size _|exact hb72.alloc hb72.size _|fail)) (by simp<;>omega) (by first|assumption|exact bdN hbx _|exact bdw (bdN (bdN hbx _) _)|exact(bdw (bdN (bdN hbx _) _)).alloc hbx.size _|exact((bdw (bdN (bdN hbx _) _)).alloc hbx.size _).alloc (Nat.le_trans hbx.size (by simp)) _|exact(bdN hbx _).alloc hbx.size _|exact((bdN hbx _).alloc hbx.size _).alloc (Nat.le_trans hbx.size (by simp)) _|exact hb69.alloc hb69.size _|exact hb72.alloc hb72.size _|fail) (Nat.le_refl _) (fun c h=>by cases h) ?_;intro v69 w69 ho69 hb69 hg69)
         |(refine step_appT (w0:=w3) (B:=w3.heap.size) (by rfl) (.tmp 69) (.tmp 71) (by rfl) _ _ (by rfl) (by first|exact ho69|exact ho69.alloc _) _ [(trim a,trim b)] (by rfl) (by first|exact RdT.lit' _ _ (by simp) _ _|(refine RdT.grown ?_ hg69 ?_;(first|(refine RdT.lit' _ _ ?_ _ _;first|rfl|(focus (simp;done))|fail)|(refine RdT.alloc ?_ _;refine RdT.lit' _ _ ?_ _ _;first|rfl|(focus (simp;done))|fail)|fail);(show some _≠some _;intro e;have e2:=Option.some.inj e;first|exact absurd e2 (Nat.succ_ne_self _)|exact absurd e2.symm (Nat.succ_ne_self _)|fail))|fail) (by simp<;>omega) (by first|assumption|exact bdN hbx _|exact bdw (bdN (bdN hbx _) _)|exact(bdw (bdN (bdN hbx _) _)).alloc hbx.size _|exact((bdw (bdN (bdN hbx _) _)).alloc hbx.size _).alloc (Nat.le_trans hbx.size (by simp)) _|exact(bdN hbx _).alloc hbx.size _|exact((bdN hbx _).alloc hbx.size _).alloc (Nat.le_trans hbx.size (by simp)) _|exact hb69.alloc hb69.size _|exact hb72.alloc hb72.size _|fail) (Nat.le_refl _) (fun c h=>by cases h) ?_;intro v72 w72 ho72 hb72 hg72)
         |(refine step_appT (w0:=w3) (B:=w3.heap.size) (by rfl) (.tmp 72) (.tmp 75) (by rfl) _ _ (by rfl) ho72 _ (out.drop out.length) (by rfl) (HR3.out _ (by first|assumption|exact bdN hbx _|exact bdw (bdN (bdN hbx _) _)|exact(bdw (bdN (bdN hbx _) _)).alloc hbx.size _|exact((bdw (bdN (bdN hbx _) _)).alloc hbx.size _).alloc (Nat.le_trans hbx.size (by simp)) _|exact(bdN hbx _).alloc hbx.size _|exact((bdN hbx _).alloc hbx.size _).alloc (Nat.le_trans hbx.size (by simp)) _|exact hb69.alloc hb69.size _|exact hb72.alloc hb72.size _|fail)) (by simp<;>omega) (by first|assumption|exact bdN hbx _|exact bdw (bdN (bdN hbx _) _)|exact(bdw (bdN (bdN hbx _) _)).alloc hbx.size _|exact((bdw (bdN (bdN hbx _) _)).alloc hbx.size _).alloc (Nat.le_trans hbx.size (by simp)) _|exact(bdN hbx _).alloc hbx.size _|exact((bdN hbx _).alloc hbx.size _).alloc (Nat.le_trans hbx.size (by simp)) _|exact hb69.alloc hb69.size _|exact hb72.alloc hb72.size _|fail) (Nat.le_refl _) (fun c h=>by injection h with h1;split at h1<;>cases h1) ?_;intro v76 w76 ho76 hb76 hg76)|fail)
      all_goals
       go_wp2_with fail
       go_roundw
       case rel=>exact⟨k+1,out2,by omega,by go_num,by rw [←Hi.out];exact ho76.rd,by rw [←Hi.out];intro e;simp at e,by rw [←Hi.out];simp;omega,HH2,hbw3.trans (hb76.mono hbw3.size)⟩
       case measure=>simp [intOf];omega
  ·have e:ps.drop k= []:=List.drop_eq_nil_of_le (by omega)
   have HE:Hid (out=L):=by
    have:=H.out
    rw [e,List.foldl_nil]at this
    exact Option.some.inj this
   go_wp2_with fail
   go_ret2
   exact⟨_,rfl,by rw [←HE.out];exact hout,hbz⟩
theorem takeWhile_all' {α :Type} (p: α →Bool)(l:List α)(h: ∀x∈l,p x=true):l.takeWhile p=l:=by
 induction l with
 |nil=>rfl
 |cons a r ih=>rw [List.takeWhile_cons,if_pos (h a (by simp)),ih fun x hx=>h x (by simp [hx])]
theorem ins_end (out:List Tag)(t:Tag)(h: ∀u∈out,Op.bytesLess u.1 t.1=true):insT out t=some (out++ [t]):=by
 have hp:posT out t.1=out.length:=by unfold posT;rw [takeWhile_all' _ _ h]
 unfold insT
 rw [hp,List.getElem?_eq_none (Nat.le_refl _)]
 simp
theorem tagsStep_neat (out:List Tag)(p q:BS)(t:Tag)(hp:blanks p)(hq:blanks q)(ht:Neat t):tagsStep (some out) (p++t.1++ [61]++t.2++q)=insT out t:=by
 have e:p++t.1++ [61]++t.2++q=(p++t.1)++61::(t.2++q):=by simp
 have hc:=cutAt_app 61 (p++t.1) (t.2++q) (by have:=blanks_no hp 61 rfl;have:=ht.k61;simp [*])
 rw [e,tagsStep,Option.bind_some,hc]
 simp only [if_true,trim_left _ _ hp,trim_right _ _ hq,ht.kt,ht.vt]
theorem tags_fold (ps:List (BS×Tag)): ∀(out:List Tag),(∀x∈ps,blanks x.1∧Neat x.2)→((out.map (·.1))++ps.map (·.2.1)).Pairwise (fun a b=>Op.bytesLess a b=true)→
 (ps.map fun x=>x.1++x.2.1++ [61]++x.2.2).foldl tagsStep (some out)=some (out++ps.map (·.2)):=by
 induction ps with
 |nil=>intro out _ _;simp
 |cons x r ih=>
  intro out h hd
  obtain⟨hb,hn⟩:=h x (by simp)
  simp only [List.map_cons,List.foldl_cons]
  have:=tagsStep_neat out x.1 [] x.2 hb (by simp [blanks]) hn
  rw [List.append_nil]at this
  rw [this,ins_end out x.2 (fun u hu=>by
   rw [List.pairwise_append]at hd
   exact hd.2.2 _ (List.mem_map_of_mem hu) _ (by simp)),ih _ (fun y hy=>h y (by simp [hy])) (by simpa using hd)]
  simp
theorem ins_second (t b:Tag)(r:List Tag)(h1:Op.bytesLess t.1 b.1=true)(h2: ∀u,r.head?=some u→Op.bytesLess u.1 b.1=false∧u.1≠b.1):insT (t::r) b=some (t::b::r):=by
 have hp:posT (t::r) b.1=1:=by
  unfold posT
  rw [List.takeWhile_cons,if_pos h1]
  cases r with
  |nil=>rfl
  |cons u s=>rw [List.takeWhile_cons,if_neg (by rw [(h2 u rfl).1];decide)];rfl
 unfold insT
 rw [hp]
 cases r with
 |nil=>simp
 |cons u s=>simp [(h2 u rfl).2]
theorem opt_less (o:Opt)(nm:List BS)(bh:BS):((optTags o nm bh).map fun t:Tag=>t.1).Pairwise (fun a b=>Op.bytesLess a b=true):=by
 unfold optTags
 by_cases h1:o.ident= []<;>by_cases h2:o.exp=0<;>simp [h1,h2]<;>decide
theorem tagsOf_signed {o:Opt} {nm:List BS} {bh b:BS} (ho:OptOk o)(hn:NamesOk nm)(hb:Word bh)(hw:Word b):
 tagsOf (cutAt 58 (sigField (optTags o nm bh) b)).2.1=some ((optTags o nm bh).take 1++ [([98],b)]++(optTags o nm bh).drop 1):=by
 obtain⟨seps,h1,h2,h3⟩:=sigField_eq (optTags o nm bh) b
 have hN:=neat_tags (bh:=bh) ho hn hb
 have hL:=opt_less o nm bh
 rw [h3 b,cutAt_app 58 sigName _ (by decide)]
 simp only []
 unfold sigValue tagsOf
 have hz:=zip_mem seps (optTags o nm bh) h2 hN
 have hsnd:=zip_snd seps (optTags o nm bh) h1
 rw [splitAt_wtags _ _ hz,splitAt_one,List.foldl_append,tags_fold _ [] hz,List.foldl_cons,List.foldl_nil,List.nil_append,hsnd]
 ·have:=tagsStep_neat (optTags o nm bh) (crlf++ [32]) crlf ([98],b) blanks_sp blanks_crlf (neat_of rfl hw)
  rw [show crlf++ [32]++ [98]++ [61]++b++crlf=crlf++ [32]++([98],b).1++ [61]++([98],b).2++crlf from rfl,this]
  have he:optTags o nm bh=([97],o.kind++sha256S)::(optTags o nm bh).drop 1:=rfl
  have:=ins_second ([97],o.kind++sha256S) ([98],b) ((optTags o nm bh).drop 1) (show Op.bytesLess [97] [98]=true by decide) (fun u hu=>by
   have:u=([98,104],bh):=by
    unfold optTags at hu
    simpa using hu.symm
   subst this;exact⟨show Op.bytesLess [98,104] [98]=false by decide,by simp⟩)
  rw [←he]at this
  rw [this];rfl
 ·rw [List.map_nil,List.nil_append]
  have:(List.zipWith (fun s t=>((s++ [32],t):BS×Tag)) seps (optTags o nm bh)).map (fun x=>x.2.1)=(optTags o nm bh).map (·.1):=by
   rw [show(fun x:BS×Tag=>x.2.1)=(fun t:Tag=>t.1)∘(fun x:BS×Tag=>x.2)from rfl,←List.map_map,hsnd]
  rw [this];exact hL
 ·have h:=hw.semi
  simp [crlf,h]
end Go.Proofs.YtgilnagajcfkpaaGreatDoor
