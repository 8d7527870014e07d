import Derived.Test.YtgilnagajcfkpaaGreatDoorShelf
import Derived.Test.YtgilnagajcfkpaaGreatDoorQ19
set_option maxHeartbeats 4000000
set_option maxRecDepth 1000000
set_option linter.all false
namespace Go.Proofs.YtgilnagajcfkpaaGreatDoor
open Go.RowKit
structure Bio (w:World)(g bb h:Nat)(rd:Value)(s:BS)(i r n0:Nat)(cs:BS):Prop where
 cells: ∃lb lr,Blk w g 263 (bioCells bb rd r n0 lb lr)
 row:Blk w bb 5 (byts cs)
 len:cs.length=4096
 rn:r≤n0
 n0:n0≤4096
 src:SrcAt w rd h s i g bb
 ilen:i≤s.length
 slen:s.length≤1099511627776
 gb:g≠bb
 hg:h≠g
 hb:h≠bb
def bioRest (s:BS)(i r n0:Nat)(cs:BS):BS:=(cs.take n0).drop r++s.drop i
theorem indexByte_eq (c:UInt8)(l:BS):Lib.indexByte l c=indexOf c l:=by
 induction l with
 |nil=>rfl
 |cons b r ih=>
  rw [Lib.indexByte,ih]
  unfold indexOf
  rw [cutAt]
  by_cases h:b=c
  ·simp [h]
  ·have h':(b==c)=false:=by simpa using h
   rw [h',if_neg h]
   simp only [Bool.false_eq_true,if_false]
   cases hf:(cutAt c r).2.2<;>simp
theorem idx_any (a:Addr)(n cp:Nat)(l:BS)(c:UInt8)(w:World)(hv:Rd w (.slice (some a) n cp) (byts l)):Calls Tryz.prog 165 #[.slice (some a) n cp, .int .u8 c.toNat] w fun e w'=>e= .returned (.int .i64 (indexOf c l))∧w'=w:=by
 obtain⟨A,cp',he,hl,hx⟩:=hv
 injection he with h1 h2 h3
 subst h1;subst h2;subst h3
 have hbo:Lib.bytesOf (l.map fun b=>(b.toNat:Int))=l:=by
  unfold Lib.bytesOf;rw [List.map_map];exact List.map_id'' (by intro x;simp) l
 have hc2:((c.toNat:Int).toNat.toUInt8)=c:=by simp
 rcases hx with h0|⟨g,off,he,_,hc⟩
 ·have:l= []:=by simpa [byts]using h0
  subst this
  have:=Tryz.bytes_IndexByte_at a 0 cp [] (c.toNat:Int) w rfl (fun i hi=>by omega)
  exact this
 ·have he':=Option.some.inj he
  subst he'
  have:=Tryz.bytes_IndexByte g off (byts l).length cp (l.map fun b=>(b.toNat:Int)) (c.toNat:Int) w (by simp [byts]) (fun i hi=>by
   have hi':i<l.length:=by simpa [byts]using hi
   exact hc i _ (by simp [byts,hi',List.getD]))
  rw [hbo,hc2,indexByte_eq]at this
  exact this
theorem buffered_any (g bb:Nat)(rd:Value)(r n0:Nat)(lb lr:Int)(w:World)(hg:Blk w g 263 (bioCells bb rd r n0 lb lr))(hrn:r≤n0)(hn0:n0≤4096):
 Calls Tryz.prog 167 #[.pointer (some ⟨g,0,none⟩)] w fun e w'=>e= .returned (.int .i64 ((n0-r:Nat):Int))∧∃m,w'=w.drewN m:=by
 have c2:=hg.cell 2 _ rfl
 have c3:=hg.cell 3 _ rfl
 have h1:(r:Int)≤(n0:Int):=by omega
 have h2:(n0:Int)≤4096:=by omega
 have h3:(0:Int)≤(r:Int):=by omega
 have h4:((n0-r:Nat):Int)=(n0:Int)-(r:Int):=by omega
 have H4:=Lib.hid h4;clear h4
 go_enter Tryz.func167,Tryz.ntmps167
 go_wp2
 go_quiet (fail)
 go_wp2
 go_ret
 rw [H4.out]
 exact⟨rfl,_,rfl⟩
theorem cutAt_found (c:UInt8)(l:BS)(h:(cutAt c l).2.2=true):l=(cutAt c l).1++c::(cutAt c l).2.1:=by
 induction l with
 |nil=>simp [cutAt]at h
 |cons x r ih=>
  rw [cutAt]at*
  split
  ·next hx=>simp [hx]
  ·next hx=>rw [if_neg hx]at h;rw [List.cons_append,←ih h]
theorem cutAt_not (c:UInt8)(l:BS)(h:(cutAt c l).2.2=false):c∉l:=by
 intro hm
 have:=cutAt_miss c l h
 have h1:=cutAt_notin c l
 rw [this]at h1
 exact h1 hm
theorem rs_found {cs l':BS} {n0 r k j:Nat} {tl:BS} (hn:r+k≤n0)(hl:n0≤cs.length)(hl':l'=(cs.take n0).drop (r+k))(hf:(cutAt 10 l').2.2=true)(hj:j=(cutAt 10 l').1.length)(hno:10∉((cs.take n0).drop r).take k):
 cs[r+(j+k)]?=some 10∧r+(j+k)+1≤n0∧((cs.drop r).take (j+k+1))=(cutAt 10 ((cs.take n0).drop r++tl)).1++ [10]∧(cs.take n0).drop (r+(j+k)+1)++tl=(cutAt 10 ((cs.take n0).drop r++tl)).2.1:=by
 have h0:=cutAt_found 10 l' hf
 have hna:=cutAt_notin 10 l'
 generalize(cutAt 10 l').1=a at*
 generalize(cutAt 10 l').2.1=b at*
 have hd:(cs.take n0).drop r=((cs.take n0).drop r).take k++(a++10::b):=by
  rw [←h0,hl',←List.drop_drop,List.take_append_drop]
 have hlen:((cs.take n0).drop r).length=n0-r:=by simp;omega
 have hkl:(((cs.take n0).drop r).take k).length=k:=by rw [List.length_take,hlen];omega
 generalize((cs.take n0).drop r).take k=p at*
 have hjk:(p++a).length=j+k:=by rw [List.length_append,hkl,←hj];omega
 have hL:n0-r=j+k+1+b.length:=by
  have:=congrArg List.length hd
  rw [hlen]at this
  simp only [List.length_append,List.length_cons]at this hjk;omega
 have hc:=cutAt_app 10 (p++a) (b++tl) (by simp [hno,hna])
 have e1:(cs.take n0).drop r++tl=(p++a)++10::(b++tl):=by rw [hd];simp
 rw [e1,hc]
 have hcs: ∀m,m≤j+k→cs[r+m]?=((cs.take n0).drop r)[m]?:=fun m hm=>by
  rw [List.getElem?_drop,List.getElem?_take,if_pos (by omega)]
 refine⟨?_,by omega,?_,?_⟩
 ·rw [hcs _ (Nat.le_refl _),hd,←List.append_assoc,List.getElem?_append_right (by omega),hjk,Nat.sub_self];rfl
 ·have e2:(cs.drop r).take (j+k+1)=((cs.take n0).drop r).take (j+k+1):=by
   rw [List.drop_take,List.take_take,Nat.min_eq_left (by omega)]
  rw [e2,hd,←List.append_assoc,List.take_append,List.take_of_length_le (by omega),hjk]
  simp
 ·have e3:(cs.take n0).drop (r+(j+k)+1)=((cs.take n0).drop r).drop (j+k+1):=by rw [List.drop_drop,Nat.add_assoc]
  rw [e3,hd,←List.append_assoc,List.drop_append,List.drop_of_length_le (by omega),hjk]
  simp
theorem SrcAt.pos {w:World} {rd:Value} {h:Nat} {s:BS} {i g bb:Nat} (hs:SrcAt w rd h s i g bb):w.cell? ⟨h,1,none⟩=some (.int .i64 i):=by
 rcases hs with⟨rfl,p,hp⟩|⟨rfl,p,A,sc,hr,hA,hp⟩
 ·exact hp.cell 1 _ rfl
 ·exact hp.cell 1 _ rfl
def RSPost (w:World)(g bb h:Nat)(rd:Value)(s rest:BS)(eb:Value)(e:Ending)(w':World):Prop:=
 ∃(i r n0:Nat) (cs:BS) (o n c:Nat),Frm (fun k=>k=g∨k=bb∨k=h) w w'∧Bio w' g bb h rd s i r n0 cs∧
  ((e= .returned (.tuple #[.slice (some ⟨bb,o,none⟩) n c, .nilIface])∧Rd w' (.slice (some ⟨bb,o,none⟩) n c) (byts ((cutAt 10 rest).1++ [10]))∧c≤4096∧bioRest s i r n0 cs=(cutAt 10 rest).2.1)∨
   (e= .returned (.tuple #[.slice (some ⟨bb,0,none⟩) 4096 4096,eb])∧r=4096∧n0=4096∧10∉cs∧rest=cs++s.drop i))
theorem readSlice_any (g bb h:Nat)(rd:Value)(s:BS)(i r n0:Nat)(cs:BS)(eb:Value)(w:World)(hb:Bio w g bb h rd s i r n0 cs)(h10:(cutAt 10 (bioRest s i r n0 cs)).2.2=true)(heb:w.cell? ⟨5,0,none⟩=some eb)(h5:5≠g∧5≠bb∧5≠h):
 Calls Tryz.prog 153 #[.pointer (some ⟨g,0,none⟩), .int .u8 10] w (RSPost w g bb h rd s (bioRest s i r n0 cs) eb):=by
 obtain⟨rest,hrest⟩: ∃rest,Hid (rest=bioRest s i r n0 cs):=⟨_,Lib.hid rfl⟩
 have hF0:Frm (fun k=>k=g∨k=bb∨k=h) w w:=Frm.refl _ _
 have hr0:=hrest.out
 rw [←hrest.out]at h10⊢
 have H10:=Lib.hid h10;clear h10
 go_enter Tryz.func153,Tryz.ntmps153
 go_wp2
 go_loopw [5,6] (fun e v wx=> ∃(k i r n0:Nat) (cs:BS),e= .nilIface∧v= .int .i64 k∧k≤n0-r∧Bio wx g bb h rd s i r n0 cs∧Hid (10∉((cs.take n0).drop r).take k)∧Hid (rest=bioRest s i r n0 cs)∧Frm (fun k=>k=g∨k=bb∨k=h) w wx) (fun _ _ wx=>s.length-(intOf ((wx.cell? ⟨h,1,none⟩).getD undef)).toNat)
 case atStart=>exact⟨0,i,r,n0,cs,rfl,rfl,Nat.zero_le _,hb,by simp [Hid],hrest,hF0⟩
 case round=>
  clear hb hF0 hr0 hrest
  obtain⟨k,i,r,n0,cs,rfl,rfl,hk,hb,H,HR,hF⟩:=hrel
  have HP:=Lib.hid hb.src.pos
  obtain⟨lb,lr,hg⟩:=hb.cells
  have hrow:=hb.row
  have hlen:=hb.len
  have hrn:=hb.rn
  have hn0:=hb.n0
  have c0:=hg.cell 0 _ rfl
  have c2:=hg.cell 2 _ rfl
  have c3:=hg.cell 3 _ rfl
  have c4:=hg.cell 4 _ rfl
  obtain⟨l',hl'⟩: ∃l':BS,Hid (l'=(cs.take n0).drop (r+k)):=⟨_,Lib.hid rfl⟩
  have hll:l'.length=n0-(r+k):=by rw [hl'.out];simp;omega
  obtain⟨o,ho⟩: ∃o,(if 4096=r+k then(some ⟨bb,0,none⟩:Option Addr)else some ⟨bb,r+k,none⟩)=some ⟨bb,o,none⟩:=by
   by_cases h:4096=r+k
   ·exact⟨0,if_pos h⟩
   ·exact⟨r+k,if_neg h⟩
  have hrd: ∀m,Rd (wr.drewN m) (.slice (some ⟨bb,o,none⟩) (n0-(r+k)) (4096-(r+k))) (byts l'):=fun m=>by
   have h0:=blk_rd (hrow.drewN m) 4096 (by omega)
   rw [hlen]at h0
   have h1:=h0.sliced (r+k) n0 (by omega) hn0
   have e1:((byts cs).drop (r+k)).take (n0-(r+k))=byts ((cs.take n0).drop (r+k)):=by unfold byts;rw [←List.map_drop,←List.map_take,List.drop_take]
   have e2:Go.sliced (some ⟨bb,0,none⟩) (r+k) n0 4096 1= .slice (if 4096=r+k then some ⟨bb,0,none⟩else some ⟨bb,r+k,none⟩) (n0-(r+k)) (4096-(r+k)):=by
    unfold Go.sliced;simp only [Nat.mul_one,Option.map_some,add_at,Nat.zero_add]
   rw [e1,e2,ho,←hl'.out]at h1
   exact h1
  have Hrd:=Lib.hid hrd;clear hrd
  have b1:(r:Int)+(k:Int)≤(n0:Int):=by omega
  have b2:(n0:Int)≤4096:=by omega
  have b3:(0:Int)≤(r:Int)+(k:Int):=by omega
  have b4:(0:Int)≤(r:Int):=by omega
  have b5:(0:Int)≤(k:Int):=by omega
  have b6:(r:Int)+(k:Int)≤4096:=by omega
  have w1:IntKind.i64.wrap ((r:Int)+(k:Int))=(r:Int)+(k:Int):=by rw [IntKind.wrap_i64];omega
  have w2:((r:Int)+(k:Int)).toNat=r+k:=by omega
  clear hll
  cases hf:(cutAt 10 l').2.2 with
  |true=>
   obtain⟨j,hje⟩: ∃j:Nat,Hid (j=(cutAt 10 l').1.length):=⟨_,Lib.hid rfl⟩
   have hj:indexOf 10 l'=(j:Int):=by rw [indexOf,hf,hje.out];rfl
   have hq: ∀m,Calls Tryz.prog 165 #[.slice (some ⟨bb,o,none⟩) (n0-(r+k)) (4096-(r+k)), .int .u8 10] (wr.drewN m) fun e w'=>e= .returned (.int .i64 (j:Int))∧w'=wr.drewN m:=fun m=>by
    have hq:=idx_any ⟨bb,o,none⟩ _ _ l' 10 _ (Hrd.out m);rw [hj]at hq;exact hq
   have Hq:=Lib.hid hq;clear hq hj
   obtain⟨p1,p2,p3⟩:=cutAt_parts 10 l' hf
   rw [←hje.out]at p1 p2 p3
   have hll:l'.length=n0-(r+k):=by rw [hl'.out];simp;omega
   have b7:(r:Int)+(k:Int)+(j:Int)+1≤(n0:Int):=by omega
   have b8:(0:Int)≤(j:Int):=by omega
   have P1:=Lib.hid p1;have P2:=Lib.hid p2;have Hf:=Lib.hid hf
   clear p1 p2 p3 hll hf
   go_wp2
   go_quiet ((go_at_call 165;exact Calls.quiet_of_same (Hq.out _)))
   have b9:(0:Int)≤(j:Int)+(k:Int):=by omega
   have b10:(0:Int)≤(r:Int)+((j:Int)+(k:Int)):=by omega
   have b11:(0:Int)≤(r:Int)+((j:Int)+(k:Int))+1:=by omega
   have b12:(r:Int)+((j:Int)+(k:Int))+1≤4096:=by omega
   have b13:(r:Int)≤(r:Int)+((j:Int)+(k:Int))+1:=by omega
   have hr4: ¬4096=r:=by omega
   go_wp2
   have w3:IntKind.i64.wrap ((r:Int)+((j:Int)+(k:Int)))=(r:Int)+((j:Int)+(k:Int)):=by rw [IntKind.wrap_i64];omega
   have w4:IntKind.i64.wrap ((r:Int)+((j:Int)+(k:Int))+1)=(r:Int)+((j:Int)+(k:Int))+1:=by rw [IntKind.wrap_i64];omega
   have w5:((r:Int)+((j:Int)+(k:Int))+1).toNat=r+(j+k)+1:=by omega
   have w6:r+(j+k)+1-r=j+k+1:=by omega
   go_quiet (fail)
   clear w1 w2 w3 w4 w5
   generalize hwA:World.drewN (World.drewN wr _) _=wA
   have hgA:Blk wA g 263 (bioCells bb rd r n0 lb lr):=by rw [←hwA];exact hg
   have hrA:Blk wA bb 5 (byts cs):=by rw [←hwA];exact hrow
   have hsA:SrcAt wA rd h s i g bb:=by rw [←hwA];exact hb.src
   have hFA:Frm (fun k=>k=g∨k=bb∨k=h) w wA:=by rw [←hwA];exact(hF.drewN _).drewN _
   have hi:=hb.ilen;have hsl:=hb.slen;have hgb:=hb.gb;have hhg:=hb.hg;have hhb:=hb.hb
   clear hwA hg hrow hF Hq Hrd ho hb c0 c2 c3 c4
   obtain⟨q1,q2,q3,q4⟩:=rs_found (tl:=s.drop i) (by omega) (by omega) hl'.out Hf.out hje.out H.out
   have c2:=hgA.cell 2 _ rfl
   have f2:=hgA.frozen 2
   have f5:=hgA.frozen 5
   have f6:=hgA.frozen 6
   have c5:=hgA.cell 5 _ rfl
   have c6:=hgA.cell 6 _ rfl
   have cB:=hrA.cell (r+(j+k)) (.int .u8 10) (by rw [byts,List.getElem?_map,q1];rfl)
   have hbg:bb≠g:=hgb.symm
   have Q3:=Lib.hid q3;have Q4:=Lib.hid q4
   clear q1 q3 q4
   go_wp2_with fail
   go_ret2
   have hgF:=((hgA.set 2 (.int .i64 ((r:Int)+((j:Int)+(k:Int)+1)))).set 5 (.int .i64 10)).set 6 (.int .i64 (-1))
   have hrF:=((hrA.far (p:=⟨g,2,none⟩) hbg (.int .i64 ((r:Int)+((j:Int)+(k:Int)+1)))).far (p:=⟨g,5,none⟩) hbg (.int .i64 10)).far (p:=⟨g,6,none⟩) hbg (.int .i64 (-1))
   have hFs:Frm (· =g) wA (((wA.setCell ⟨g,2,none⟩ (.int .i64 ((r:Int)+((j:Int)+(k:Int)+1)))).setCell ⟨g,5,none⟩ (.int .i64 10)).setCell ⟨g,6,none⟩ (.int .i64 (-1))):=
    Frm.setCell (S:=(· =g)) (Frm.setCell (S:=(· =g)) (Frm.setCell (S:=(· =g)) (Frm.refl _ wA) ⟨g,2,none⟩ _ (fun _=>rfl)) ⟨g,5,none⟩ _ (fun _=>rfl)) ⟨g,6,none⟩ _ (fun _=>rfl)
   have hsF:=hsA.frm hFs (fun k e=> .inl e) hhg hhb
   have hFF:=hFA.after hFs (fun k _ e=> .inl e)
   have hrn2:r+(j+k)+1≤n0:=q2
   have hrd:=blk_rd hrF 4096 (by omega)
   rw [hlen]at hrd
   have hrd2:=hrd.sliced r (r+(j+k)+1) (by omega) (by omega)
   have e1:((byts cs).drop r).take (r+(j+k)+1-r)=byts ((cs.drop r).take (j+k+1)):=by rw [w6];unfold byts;rw [←List.map_drop,←List.map_take]
   have e2:Go.sliced (some ⟨bb,0,none⟩) r (r+(j+k)+1) 4096 1= .slice (some ⟨bb,r,none⟩) (j+k+1) (4096-r):=by
    unfold Go.sliced;rw [if_neg hr4,w6];simp only [Nat.mul_one,Option.map_some,add_at,Nat.zero_add]
   rw [e1,e2,Q3.out]at hrd2
   have hRst:rest=(cs.take n0).drop r++s.drop i:=HR.out
   refine⟨i,r+(j+k)+1,n0,cs,r,j+k+1,4096-r,hFF,⟨⟨10, -1,?_⟩,hrF,hlen,hrn2,hn0,hsF,hi,hsl,hgb,hhg,hhb⟩, .inl ⟨rfl,by rw [hRst];exact hrd2,Nat.sub_le _ _,by rw [hRst];exact Q4.out⟩⟩
   have e3:(r:Int)+((j:Int)+(k:Int)+1)=((r+(j+k)+1:Nat):Int):=by omega
   rw [e3]at hgF⊢
   exact hgF
  |false=>
   have hno:10∉(cs.take n0).drop r:=by
    have h1:=cutAt_not 10 l' hf
    rw [hl'.out,←List.drop_drop]at h1
    have h2:=H.out
    intro hm
    rw [←List.take_append_drop k ((cs.take n0).drop r)]at hm
    exact(List.mem_append.1 hm).elim h2 h1
   have Hno:=Lib.hid hno;clear hno
   have hj:indexOf 10 l'= -1:=by rw [indexOf,hf];rfl
   have hq: ∀m,Calls Tryz.prog 165 #[.slice (some ⟨bb,o,none⟩) (n0-(r+k)) (4096-(r+k)), .int .u8 10] (wr.drewN m) fun e w'=>e= .returned (.int .i64 (-1))∧w'=wr.drewN m:=fun m=>by
    have hq:=idx_any ⟨bb,o,none⟩ _ _ l' 10 _ (Hrd.out m);rw [hj]at hq;exact hq
   have Hq:=Lib.hid hq;clear hq hj hf
   obtain⟨q,hqe⟩: ∃q:Int,Hid (q=((n0-r:Nat):Int)):=⟨_,Lib.hid rfl⟩
   have hbf: ∀(ww:World),Blk ww g 263 (bioCells bb rd r n0 lb lr)→Calls Tryz.prog 167 #[.pointer (some ⟨g,0,none⟩)] ww fun e w'=>e= .returned (.int .i64 q)∧∃m,w'=ww.drewN m:=fun ww hgw=>by
    rw [hqe.out];exact buffered_any g bb rd r n0 lb lr ww hgw hrn hn0
   have Hbf:=Lib.hid hbf;clear hbf
   have hi:=hb.ilen;have hsl:=hb.slen;have hgb:=hb.gb;have hhg:=hb.hg;have hhb:=hb.hb
   by_cases hfu:4096≤q
   ·have hr0:r=0∧n0=4096:=by have:=hqe.out;omega
    have Hr0:=Lib.hid hr0;clear hr0
    go_wp2
    go_quiet ((go_at_call 165;exact Calls.quiet_of_same (Hq.out _)))
    go_wp2
    generalize hwA:World.drewN wr _=wA
    have hgA:Blk wA g 263 (bioCells bb rd r n0 lb lr):=by rw [←hwA];exact hg
    have hrA:Blk wA bb 5 (byts cs):=by rw [←hwA];exact hrow
    have hsA:SrcAt wA rd h s i g bb:=by rw [←hwA];exact hb.src
    have hFA:Frm (fun k=>k=g∨k=bb∨k=h) w wA:=by rw [←hwA];exact hF.drewN _
    clear hwA hg hrow hF Hq Hrd ho hb c0 c2 c3 c4 w1 w2
    have c0:=hgA.cell 0 _ rfl
    have hgd: ∀m,Blk (wA.drewN m) g 263 (bioCells bb rd r n0 lb lr):=fun m=>hgA.drewN m
    have Hgd:=Lib.hid hgd;clear hgd
    go_quiet ((go_at_call 167;exact Calls.quiet_of (Hbf.out _ (Hgd.out _))))
    generalize hwB:World.drewN wA _=wB
    have hgB:Blk wB g 263 (bioCells bb rd r n0 lb lr):=by rw [←hwB];exact hgA
    have hrB:Blk wB bb 5 (byts cs):=by rw [←hwB];exact hrA
    have hsB:SrcAt wB rd h s i g bb:=by rw [←hwB];exact hsA
    have hFB:Frm (fun k=>k=g∨k=bb∨k=h) w wB:=by rw [←hwB];exact hFA.drewN _
    clear hwB hgA hrA hsA hFA Hgd Hbf c0
    have c0:=hgB.cell 0 _ rfl
    have c2:=hgB.cell 2 _ rfl
    have c3:=hgB.cell 3 _ rfl
    have c5:=hgB.cell 5 _ rfl
    have c6:=hgB.cell 6 _ rfl
    have f2:=hgB.frozen 2
    have f5:=hgB.frozen 5
    have f6:=hgB.frozen 6
    obtain⟨z,hz⟩: ∃z:UInt8,cs[4095]?=some z:=⟨cs[4095]'(by omega),by rw [List.getElem?_eq_getElem]⟩
    have cB:=hrB.cell 4095 (.int .u8 z.toNat) (by rw [byts,List.getElem?_map,hz];rfl)
    have hbg:bb≠g:=hgb.symm
    have heB:wB.cell? ⟨5,0,none⟩=some eb:=frC hFB heb (fun e=>e.elim h5.1 (fun e=>e.elim h5.2.1 h5.2.2))
    have h5g: ¬5=g:=h5.1
    clear hz
    go_wp2_with fail
    go_ret2
    have hgF:=((hgB.set 2 (.int .i64 (n0:Int))).set 5 (.int .i64 (wrap64 (z.toNat:Int)))).set 6 (.int .i64 (-1))
    have hrF:=((hrB.far (p:=⟨g,2,none⟩) hbg (.int .i64 (n0:Int))).far (p:=⟨g,5,none⟩) hbg (.int .i64 (wrap64 (z.toNat:Int)))).far (p:=⟨g,6,none⟩) hbg (.int .i64 (-1))
    have hFs:Frm (· =g) wB (((wB.setCell ⟨g,2,none⟩ (.int .i64 (n0:Int))).setCell ⟨g,5,none⟩ (.int .i64 (wrap64 (z.toNat:Int)))).setCell ⟨g,6,none⟩ (.int .i64 (-1))):=
     Frm.setCell (S:=(· =g)) (Frm.setCell (S:=(· =g)) (Frm.setCell (S:=(· =g)) (Frm.refl _ wB) ⟨g,2,none⟩ _ (fun _=>rfl)) ⟨g,5,none⟩ _ (fun _=>rfl)) ⟨g,6,none⟩ _ (fun _=>rfl)
    have hsF:=hsB.frm hFs (fun k e=> .inl e) hhg hhb
    have hFF:=hFB.after hFs (fun k _ e=> .inl e)
    obtain⟨e1,e2⟩:=Hr0.out
    have hd:(cs.take n0).drop r=cs:=by rw [e1,e2,List.drop_zero,List.take_of_length_le (by omega)]
    have hno2:=Hno.out
    rw [hd]at hno2
    have hRst:rest=cs++s.drop i:=by rw [HR.out,bioRest,hd]
    exact⟨i,n0,n0,cs,0,4096,4096,hFF,⟨⟨_,_,hgF⟩,hrF,hlen,Nat.le_refl _,hn0,hsF,hi,hsl,hgb,hhg,hhb⟩, .inr ⟨rfl,e2,e2,hno2,hRst⟩⟩
   ·have hroom:n0-r<4096:=by have:=hqe.out;omega
    have hdl:((cs.take n0).drop r).length=n0-r:=by simp;omega
    have hil:i<s.length:=by
     have h1:=H10.out
     have h2:=cutAt_found 10 rest h1
     have h3:10∈rest:=by rw [h2];simp
     rw [HR.out,bioRest]at h3
     rcases List.mem_append.1 h3 with h3|h3
     ·exact absurd h3 Hno.out
     ·have:=List.length_pos_of_mem h3
      rw [List.length_drop]at this;omega
    go_wp2
    go_quiet ((go_at_call 165;exact Calls.quiet_of_same (Hq.out _)))
    go_wp2
    generalize hwA:World.drewN wr _=wA
    have hgA:Blk wA g 263 (bioCells bb rd r n0 lb lr):=by rw [←hwA];exact hg
    have hrA:Blk wA bb 5 (byts cs):=by rw [←hwA];exact hrow
    have hsA:SrcAt wA rd h s i g bb:=by rw [←hwA];exact hb.src
    have hFA:Frm (fun k=>k=g∨k=bb∨k=h) w wA:=by rw [←hwA];exact hF.drewN _
    clear hwA hg hrow hF Hq Hrd ho hb c0 c2 c3 c4 w1 w2
    have c0:=hgA.cell 0 _ rfl
    have hgd: ∀m,Blk (wA.drewN m) g 263 (bioCells bb rd r n0 lb lr):=fun m=>hgA.drewN m
    have Hgd:=Lib.hid hgd;clear hgd
    go_quiet ((go_at_call 167;exact Calls.quiet_of (Hbf.out _ (Hgd.out _))))
    generalize hwB:World.drewN wA _=wB
    have hgB:Blk wB g 263 (bioCells bb rd r n0 lb lr):=by rw [←hwB];exact hgA
    have hrB:Blk wB bb 5 (byts cs):=by rw [←hwB];exact hrA
    have hsB:SrcAt wB rd h s i g bb:=by rw [←hwB];exact hsA
    have hFB:Frm (fun k=>k=g∨k=bb∨k=h) w wB:=by rw [←hwB];exact hFA.drewN _
    clear hwB hgA hrA hsA hFA Hgd Hbf c0
    have c2:=hgB.cell 2 _ rfl
    have c3:=hgB.cell 3 _ rfl
    go_wp2_with fail
    go_quiet (fail)
    generalize hwC:World.drewN wB _=wC
    have hgC:Blk wC g 263 (bioCells bb rd r n0 lb lr):=by rw [←hwC];exact hgB
    have hrC:Blk wC bb 5 (byts cs):=by rw [←hwC];exact hrB
    have hsC:SrcAt wC rd h s i g bb:=by rw [←hwC];exact hsB
    have hFC:Frm (fun k=>k=g∨k=bb∨k=h) w wC:=by rw [←hwC];exact hFB.drewN _
    clear hwC hgB hrB hsB hFB c2 c3
    have Hdl:=Lib.hid hdl;clear hdl
    go_wp2_with (go_at_call 168;refine(fill_any g bb h rd s i r n0 lb lr cs wC hgC hrC hlen hrn hn0 hroom hsC hil hsl hgb hhg hhb).mono ?_;rintro e wD ⟨rfl,m,cs2,lb2,lr2,m0,m1,m2,hgD,hrD,hlD,htD,hsD,hFD⟩)
    go_roundw
    case rel=>
     have hdl2:=Hdl.out
     have e1:(n0:Int)-(r:Int)=((n0-r:Nat):Int):=by omega
     rw [e1]
     refine⟨n0-r,i+m,0,_,cs2,rfl,rfl,by omega,⟨⟨_,_,hgD⟩,hrD,hlD,Nat.zero_le _,m2,hsD,m1,hsl,hgb,hhg,hhb⟩,?_,?_,hFC.trans hFD⟩
     ·show 10∉_
      rw [List.drop_zero,htD,List.take_append_of_le_length (by omega),List.take_of_length_le (by omega)]
      exact Hno.out
     ·show rest=_
      rw [HR.out,bioRest,bioRest,List.drop_zero,htD,List.append_assoc,←List.drop_drop,List.take_append_drop]
    case measure=>
     rw [hsD.pos,HP.out]
     simp [intOf];omega
theorem Rd.upto {w:World} {A:Option Addr} {n c:Nat} {l:BS} (h:Rd w (.slice A n c) (byts l))(hi:Nat)(hh:hi≤n):Rd w (.slice A hi c) (byts (l.take hi)):=by
 obtain⟨A',c',he,hlc,hx⟩:=h
 injection he with h1 h2 h3
 subst h1;subst h3
 rw [byL]at h2 hlc
 subst h2
 have hl:(byts (l.take hi)).length=hi:=by rw [byL,List.length_take];omega
 refine⟨A,c,by rw [hl],by rw [hl];omega,?_⟩
 rcases hx with h0|⟨g,off,rfl,hg,hc⟩
 ·have:l= []:=by simpa [byts]using h0
  subst this;exact .inl (by simp [byts])
 ·refine .inr ⟨g,off,rfl,hg,fun j u hu=>hc j u ?_⟩
  have hj:j<hi:=by have:=(List.getElem?_eq_some_iff.1 hu).1;rwa [hl]at this
  rw [←hu];simp [byts,List.getElem?_take,hj]
def FullErr (w:World):Prop:= ∃a:Addr,w.cell? ⟨5,0,none⟩=some (.iface 242 (.pointer (some a)))
def RLPost (w:World)(g bb h:Nat)(rd:Value)(s rest:BS)(e:Ending)(w':World):Prop:=
 ∃(i r n0:Nat) (cs:BS) (v:Value),Frm (fun k=>k=g∨k=bb∨k=h) w w'∧Bio w' g bb h rd s i r n0 cs∧
  ((e= .returned (.tuple #[v, .bool false, .nilIface])∧Rd w' v (byts (unCR (cutAt 10 rest).1))∧bioRest s i r n0 cs=(cutAt 10 rest).2.1)∨
   (e= .returned (.tuple #[v, .bool true, .nilIface])∧∃p:BS,p≠ []∧rest=p++bioRest s i r n0 cs∧10∉p∧Rd w' v (byts p)∧(p.getLast?≠some 13∨(bioRest s i r n0 cs).head?=some 13)))
theorem Tryz.cmp242:(Tryz.prog.info? 242).map (fun i=>i.comparable)=some true:=by kernel_rfl
theorem Tryz.has244:(Tryz.prog.info? 244).isSome=true:=by kernel_rfl
theorem eq_full (a:Addr)(w:World):(binOp .eql 74 (.iface 242 (.pointer (some a))) (.iface 242 (.pointer (some a)))).run Tryz.prog w= .ok (.bool true) w:=by
 obtain⟨i,hi,hc⟩:=Option.map_eq_some_iff.1 Tryz.cmp242
 obtain⟨j,hj⟩:=Option.isSome_iff_exists.1 Tryz.has244
 exact run_eql_iface_ptr_same w a Tryz.underlying74 Tryz.underlying242 hi hc hj
theorem eq_nil (a:Addr)(w:World):(binOp .eql 74 .nilIface (.iface 242 (.pointer (some a)))).run Tryz.prog w= .ok (.bool false) w:=run_eql_iface_nil_left w 242 _ Tryz.underlying74
theorem readLine_any (g bb h:Nat)(rd:Value)(s:BS)(i r n0:Nat)(cs:BS)(w:World)(hb:Bio w g bb h rd s i r n0 cs)(h10:(cutAt 10 (bioRest s i r n0 cs)).2.2=true)(heb:FullErr w)(h5:5≠g∧5≠bb∧5≠h):
 Calls Tryz.prog 140 #[.pointer (some ⟨g,0,none⟩)] w (RLPost w g bb h rd s (bioRest s i r n0 cs)):=by
 obtain⟨a,ha⟩:=heb
 have hrs:=readSlice_any g bb h rd s i r n0 cs _ w hb h10 ha h5
 have Hrs:=Lib.hid hrs;clear hrs hb h10
 generalize bioRest s i r n0 cs=rest at*
 have e1:=eq_full a
 have e2:=eq_nil a
 have h5': ¬(5=g∨5=bb∨5=h):=fun e=>e.elim h5.1 (fun e=>e.elim h5.2.1 h5.2.2)
 clear i r n0 cs
 go_enter Tryz.func140,Tryz.ntmps140
 go_wp2_with fail
 refine Hrs.out.mono ?_
 rintro e w1 ⟨i,r,n0,cs,o,n,c,hF,hb,⟨rfl,hrd,hc4,hrest⟩|⟨rfl,hr,hn0,hno,hrest⟩⟩
 ·have c5:w1.cell? ⟨5,0,none⟩=some (.iface 242 (.pointer (some a))):=frC hF ha h5'
  obtain⟨L,hL⟩: ∃L:BS,Hid (L=(cutAt 10 rest).1):=⟨_,Lib.hid rfl⟩
  rw [←hL.out]at hrd
  have hn:n=L.length+1:=by obtain⟨A',c',he,_⟩:=hrd;injection he with _ h2 _;rw [h2,byL];simp
  have hnc:n≤c:=by obtain⟨A',c',he,h1,_⟩:=hrd;injection he with _ h2 h3;rw [←h2,←h3]at h1;exact h1
  have hcell: ∀j u,(byts (L++ [10]))[j]?=some u→w1.cell? ⟨bb,o+j,none⟩=some u:=by
   obtain⟨A',c',he,_,hx⟩:=hrd
   rcases hx with hx|⟨g',off',he2,_,hx⟩
   ·simp [byts]at hx
   ·injection he with h1 _ _
    rw [he2]at h1
    injection h1 with h1
    injection h1 with h1 h2 _
    subst h1;subst h2;exact hx
  have hcL:=hcell L.length (.int .u8 10) (by simp [byts])
  have hrest2:=Lib.hid hrest;clear hrest
  have Hrd:=Lib.hid hrd;clear hrd
  rcases List.eq_nil_or_concat L with hL0|⟨L',z,hLz⟩
  ·subst hL0
   obtain rfl:n=1:=hn
   have hc0:w1.cell? ⟨bb,o,none⟩=some (.int .u8 10):=hcL
   have hk1:(0:Int)≤0:=by omega
   clear hcell hcL
   go_wp2_with fail
   go_ret3
   refine⟨i,r,n0,cs,_,hF,hb, .inl ⟨rfl,?_,hrest2.out⟩⟩
   have h1:=Hrd.out.upto 0 (by omega)
   rw [←hL.out]
   exact h1
  ·rw [List.concat_eq_append]at hLz
   subst hLz
   obtain⟨m,hm⟩: ∃m,Hid (m=L'.length):=⟨_,Lib.hid rfl⟩
   obtain rfl:n=m+2:=by rw [hn,hm.out];simp
   have hc1:w1.cell? ⟨bb,o+(m+1),none⟩=some (.int .u8 10):=by rw [hm.out];simpa using hcL
   have hc2:=hcell m (.int .u8 z.toNat) (by rw [hm.out];simp [byts])
   have hsl:=hb.slen
   have k1:(0:Int)≤(m:Int):=by omega
   have k2:(0:Int)≤(m:Int)+1:=by omega
   have k3:(m:Int)+2≤4096:=by omega
   clear hcell hcL hn
   by_cases hz:z=13
   ·have z1:((z.toNat:Int)==13)=true:=by have:=bT hz;exact this
    go_wp2_with fail
    go_ret3
    refine⟨i,r,n0,cs,_,hF,hb, .inl ⟨rfl,?_,hrest2.out⟩⟩
    have h1:=Hrd.out.upto m (by omega)
    rw [←hL.out]
    have e3:unCR (L'++ [z])=L':=by rw [hz];exact unCR_cr L'
    rw [e3]
    have e4:(L'++ [z]++ [10]).take m=L':=by rw [hm.out,List.append_assoc];simp
    rw [e4]at h1
    exact h1
   ·have z1:((z.toNat:Int)==13)=false:=by have:=bF hz;exact this
    go_wp2_with fail
    go_ret3
    refine⟨i,r,n0,cs,_,hF,hb, .inl ⟨rfl,?_,hrest2.out⟩⟩
    have h1:=Hrd.out.upto (m+2-1) (by omega)
    rw [←hL.out]
    have e3:unCR (L'++ [z])=L'++ [z]:=by unfold unCR;rw [if_neg (by simpa using hz)]
    rw [e3]
    have e4:(L'++ [z]++ [10]).take (m+2-1)=L'++ [z]:=by rw [List.take_append_of_le_length (by simp [←hm.out]),List.take_of_length_le (by simp [←hm.out])]
    rw [e4]at h1
    exact h1
 ·have c5:w1.cell? ⟨5,0,none⟩=some (.iface 242 (.pointer (some a))):=frC hF ha h5'
  obtain⟨lb,lr,hg⟩:=hb.cells
  have hrow:=hb.row
  have hlen:=hb.len
  obtain⟨z,hz⟩: ∃z:UInt8,cs[4095]?=some z:=⟨cs[4095]'(by omega),by rw [List.getElem?_eq_getElem]⟩
  have cB:=hrow.cell 4095 (.int .u8 z.toNat) (by rw [byts,List.getElem?_map,hz];rfl)
  have c2:=hg.cell 2 _ rfl
  have f2:=hg.frozen 2
  have hrd:=blk_rd hrow 4096 (by omega)
  rw [hlen]at hrd
  have Hz:=Lib.hid hz;have Hrd:=Lib.hid hrd;have Hr:=Lib.hid hr;have Hn0:=Lib.hid hn0;have Hno:=Lib.hid hno;have Hrest:=Lib.hid hrest
  have r1:((r:Int)==0)=false:=by rw [hr];rfl
  have r2:(1:Int)≤(r:Int):=by omega
  have r3:(r:Int)≤4096:=by omega
  clear hz hrd hr hn0 hno hrest
  have hcs:cs=cs.take 4095++ [z]:=by
   have h1:=Hz.out
   have h2:4095<cs.length:=by omega
   rw [List.getElem?_eq_getElem h2]at h1
   have h3:cs.take 4096=cs:=List.take_of_length_le (by omega)
   have h4:=List.take_succ_eq_append_getElem h2
   rw [Option.some.inj h1]at h4
   exact h3.symm.trans h4
  have Hcs:=Lib.hid hcs;clear hcs
  by_cases hz:z=13
  ·have z1:((z.toNat:Int)==13)=true:=by have:=bT hz;exact this
   go_wp2_with fail
   go_ret3
   have hgF:=hg.set 2 (.int .i64 ((r:Int)-1))
   have hFs:Frm (· =g) w1 (w1.setCell ⟨g,2,none⟩ (.int .i64 ((r:Int)-1))):=Frm.setCell (S:=(· =g)) (Frm.refl _ w1) ⟨g,2,none⟩ _ (fun _=>rfl)
   have hrF:=hrow.far (p:=⟨g,2,none⟩) hb.gb.symm (.int .i64 ((r:Int)-1))
   have hsF:=hb.src.frm hFs (fun k e=> .inl e) hb.hg hb.hb
   have hFF:=hF.after hFs (fun k _ e=> .inl e)
   have e0:=Hr.out
   have e00:=Hn0.out
   have e1:(r:Int)-1=((r-1:Nat):Int):=by omega
   have hrd2:=(blk_rd hrF 4096 (by omega))
   rw [hlen]at hrd2
   have hrd3:=hrd2.upto 4095 (by omega)
   have hre:bioRest s i (r-1) n0 cs= [z]++s.drop i:=by
    unfold bioRest
    rw [e0,e00,List.take_of_length_le (by omega)]
    congr 1
    have h1:=Hcs.out
    have h2:(cs.take 4095).length=4095:=by rw [List.length_take];omega
    conv=>lhs;rw [h1]
    rw [List.drop_append_of_le_length (by rw [h2];omega),List.drop_eq_nil_of_le (by rw [h2];omega)];rfl
   rw [e1]at hgF hrF hsF hFF hrd3⊢
   refine⟨i,r-1,n0,cs,_,hFF,⟨⟨_,_,hgF⟩,hrF,hlen,by omega,by omega,hsF,hb.ilen,hb.slen,hb.gb,hb.hg,hb.hb⟩, .inr ⟨rfl,cs.take 4095,?_,?_,?_,hrd3, .inr ?_⟩⟩
   ·intro e;have:=congrArg List.length e;rw [List.length_take,List.length_nil,hlen]at this;omega
   ·rw [hre,←List.append_assoc,←Hcs.out];exact Hrest.out
   ·intro hm;exact Hno.out (List.mem_of_mem_take hm)
   ·rw [hre,hz];rfl
  ·have z1:((z.toNat:Int)==13)=false:=by have:=bF hz;exact this
   go_wp2_with fail
   go_ret3
   have e0:=Hr.out
   have e00:=Hn0.out
   have hre:bioRest s i r n0 cs=s.drop i:=by
    unfold bioRest
    rw [e0,e00,List.take_of_length_le (by omega),List.drop_eq_nil_of_le (by omega)];rfl
   refine⟨i,r,n0,cs,_,hF,hb, .inr ⟨rfl,cs,?_,?_,Hno.out,Hrd.out, .inl ?_⟩⟩
   ·intro e;rw [e]at hlen;simp at hlen
   ·rw [hre];exact Hrest.out
   ·rw [Hcs.out];simpa using hz
end Go.Proofs.YtgilnagajcfkpaaGreatDoor
