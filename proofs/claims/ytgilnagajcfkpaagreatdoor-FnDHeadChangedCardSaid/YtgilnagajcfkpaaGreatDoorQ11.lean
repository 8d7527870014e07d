import Derived.Sort.KeysCollected
import Derived.Sort.OwnSorted
import Derived.Test.YtgilnagajcfkpaaGreatDoorQ07
set_option maxHeartbeats 4000000
set_option maxRecDepth 1000000
set_option linter.all false
namespace Go.Proofs.YtgilnagajcfkpaaGreatDoor
open Go.RowKit
theorem OwnAt.sorted {w:World} {B g off n c k:Nat} {ss ts:List BS} {os:Array Obj} (h:OwnAt w B 9 (.slice (some ⟨g,off,none⟩) n c) (strs ss))(hl:ts.length=ss.length):
 OwnAt (Sort.grow (Sort.putRow encStr (Sort.ahead w k) g off ts.toArray) os) B 9 (.slice (some ⟨g,off,none⟩) n c) (strs ts):=by
 rcases h with⟨h,_⟩|⟨g',off',cap,cur,fr,he,hb,hg,hf,hlc,hm,hc,hx⟩
 ·exact absurd h (by simp)
 ·injection he with h1 h2 h3
  injection h1 with h1;injection h1 with h1 h1b;subst h1;subst h1b;subst h3;subst h2
  have hgl:g<w.heap.size:=(Array.getElem?_eq_some_iff.1 hg).1
  rw [stL]at hlc
  refine .inr ⟨g,off,c,Sort.putCells encStr off ts.toArray cur,fr,by rw [stL,stL,hl],hb,?_,by simpa [Sort.putCells]using hf,by rw [stL,hl];exact hlc,hm,by simpa [Sort.putCells]using hc,fun j u hj=> ?_⟩
  ·rw [Sort.heap_grow_old _ _ (by simpa using hgl)]
   simp [Sort.putRow,Sort.mapBlock,Sort.ahead,Array.getElem?_modify,hg,Sort.onCells]
  ·have hjl:j<ts.length:=by have:=(List.getElem?_eq_some_iff.1 hj).1;rwa [stL]at this
   rw [strs,List.getElem?_map,List.getElem?_eq_getElem hjl]at hj
   have hu:u=encStr ts[j]:=by simpa using hj.symm
   subst hu
   simp [Sort.putCells,hjl,show off+j<cur.size by omega]
theorem grown_sorted {w:World} {g off k:Nat} {os:Array Obj} (d:Array BS):w.grownBy (Sort.grow (Sort.putRow encStr (Sort.ahead w k) g off d) os) (some g):=by
 refine⟨rfl,rfl,rfl,by simp,fun k hk hne=> ?_⟩
 rw [Sort.heap_grow_old _ _ (by simpa using hk)]
 have:g≠k:=fun e=>hne (by rw [e])
 simp [Sort.putRow,Sort.mapBlock,Sort.ahead,Array.getElem?_modify,this]
theorem OwnAt.holds {w:World} {B g off n c:Nat} {ss:List BS} (h:OwnAt w B 9 (.slice (some ⟨g,off,none⟩) n c) (strs ss)):Sort.Holds encStr w g off ss.toArray:=by
 intro j hj
 have hj':j<ss.length:=by simpa using hj
 have:=h.cell_at j (Str ss[j]) (by simp [strs,hj'])
 simpa [hj']using this
def tagB:BS:= [98]
theorem own_iter {w:World} {B:Nat} {e:TypeId} {v:Value} {xs:List Value} {b r n:Nat} {D:DataW Unit} {left:Lit→Bool} {cnt:Nat} (h:OwnAt w B e v xs)(hr:w.ranges Tryz.prog 9 (plainElem Tryz.prog 9) b r n D left cnt):v.ownBlock≠some r:=by
 obtain⟨_,_,_,_,_,_,_,_,_,hit,_⟩:=hr
 rcases h with⟨rfl,_⟩|⟨g,off,cap,cur,fr,rfl,_,hb,_⟩
 ·simp [Value.ownBlock]
 ·intro e1
  have:g=r:=by simpa [Value.ownBlock]using e1
  subst this
  rw [hit]at hb
  cases hb
def fil (ss:List BS):List BS:=ss.filter fun x=>x !=tagB
theorem fil_le (ss:List BS):(fil ss).length≤ss.length:=List.length_filter_le _ _
theorem fil_b (ss:List BS):fil (ss++ [tagB])=fil ss:=by unfold fil;rw [List.filter_append];simp
theorem fil_o (ss:List BS)(x:BS)(h:x≠tagB):fil (ss++ [x])=fil ss++ [x]:=by unfold fil;rw [List.filter_append];simp [h]
def bOf (ss:List BS)(bv:BS):BS:=if tagB∈ss then bv else []
theorem sortParams_any (hsort: ∀(blk off cap:Nat)(ss:List BS)(w:World),Sort.Holds encStr w blk off ss.toArray→blk<w.heap.size→ss.length<4611686018427387904→
 Calls Tryz.prog 161 #[.slice (some ⟨blk,off,none⟩) ss.length cap] w fun e w'=>e= .returned (.tuple #[])∧∃n os,w'=Sort.grow (Sort.putRow encStr (Sort.ahead w n) blk off (ss.mergeSort fun x y=>decide (x≤y)).toArray) os)
 (b n:Nat)(f:BS→Option BS)(K:List BS)(bv:BS)(w:World)(hm:MapS w b n f)(hb:f tagB=some bv)(hKn:K.Nodup)(hKm: ∀x,x∈K↔((f x).isSome=true∧x≠tagB))(hKs:K.Pairwise fun x y=>x≤y)(hK0:K≠ [])(hn:n≤1000000000):
 Calls Tryz.prog 150 #[.map (some b)] w fun e w'=> ∃v,e= .returned (.tuple #[v,Str bv, .bool true])∧OwnAt w' w.heap.size 9 v (strs K)∧Below w.heap.size w w':=by
 obtain⟨D,hD,hf⟩:=hm
 have hbl:b<w.heap.size:=MapS.lt ⟨D,hD,hf⟩
 have hsz:=hD.size_le
 generalize hN:Maps.size D=N at*
 obtain⟨w1,hmk,ho,hb1⟩:=make_at w 23 9 (Str []) 16 Tryz.underlying23 Tryz.info9 rfl 0 N (by omega) (by omega) (by omega)
 have hmk':(Instr.makeSlice 23 (.int .i64 0) (.int .i64 N)).run Tryz.prog w= .ok (.slice (some ⟨w.heap.size,0,none⟩) 0 N) w1:=hmk
 clear hmk
 obtain⟨D1,hD1,_⟩: ∃D1,w1.ownsMap Tryz.prog 9 (plainElem Tryz.prog 9) b n D1∧D1=D:=⟨D,hD.kept (row:=none) ⟨hb1.os,hb1.tape,hb1.output,hb1.size,fun k hk _=>hb1.block k hk⟩ (by simp),rfl⟩
 subst D1
 go_enter Tryz.func150,Tryz.ntmps150
 go_wp2_with (first
  |(at_len;refine wpList_len_own _ rfl (.tmp 9) 179 rfl 9 9 Tryz.underlying179 (plainElem Tryz.prog 9) b n D rfl hD ?_;rw [hN])
  |(at_range;refine wpList_range_own _ rfl (.tmp 12) 179 rfl 9 9 Tryz.law9 Tryz.underlying179 _ b n D rfl hD1 ?_;intro w2 hrg hg2 hs2)
  |fail)
 have hb12:Below w.heap.size w w2:=hb1.trans ((Below.refl _ _).grown hg2 hb1.size (by simp))
 have ho2:=ho.kept hg2 (.inr (by simp [Value.ownBlock]))
 have hrl:=hrg.lt
 generalize hrq:w1.heap.size=r at*
 have hrw:w.heap.size≤r:=by have:=hb1.size;omega
 clear hmk' hD1
 simp only [Act.put,List.setIfInBounds_toArray,List.set_cons_zero,List.set_cons_succ]
 have hL0:Collected D (Maps.has D) []:=Collected.start D
 go_loopw [5,6,7] (fun v5 v6 v7 wx=> ∃left cnt ss,Collected D left ss∧wx.ranges Tryz.prog 9 (plainElem Tryz.prog 9) b r n D left cnt∧ss.length+cnt≤N∧OwnAt wx w.heap.size 9 v5 (strs (fil ss))∧v6= .bool (decide (tagB∈ss))∧v7=Str (bOf ss bv)∧Below w.heap.size w wx) (fun _ _ _ wx=>wx.rangeLeft b r)
 case atStart=>exact⟨_,_,[],hL0,hrg,by simp [hN],ho2,rfl,rfl,hb12⟩
 case round=>
  obtain⟨left,cnt,ss,hC,hrg,hcnt,hov,rfl,rfl,hbx⟩:=hrel
  obtain⟨A5,c5,rfl⟩:=hov.form
  have hmeas:=hrg.left_eq
  clear hL0 ho2 hb12
  go_wp2_with (first
   |(at_next;refine wpList_next_ranges _ rfl (.tmp 13) rfl 9 Tryz.law9 (plainElem Tryz.prog 9) encStr Value.string (fun key kl h=>by obtain⟨x,hx,_⟩:=Maps.keyOf_str Tryz.underlying9 h;exact⟨x,hx⟩) (fun v y h=>by obtain⟨c,hc,_⟩:=plainElem_string_inv Tryz.underlying9 h;exact⟨c,hc⟩) b r n D left cnt rfl hrg ?_ ?_)
   |fail)
  case refine_1=>
   intro _ hl0
   have hmem: ∀x,x∈ss↔(f x).isSome=true:=fun x=>by rw [hC.2 x,(hf x).1,hl0];simp
   have hbs:tagB∈ss:=(hmem tagB).2 (by rw [hb];rfl)
   have hP:(fil ss).Perm K:=(List.perm_ext_iff_of_nodup (show(fil ss).Nodup from hC.1.filter _) hKn).2 fun x=>by rw [hKm x,←hmem x];simp [fil]
   have hms:(fil ss).mergeSort (fun x y=>decide (x≤y))=K:=by
    rw [mergeSort_of_perm hP]
    exact List.mergeSort_of_pairwise (hKs.imp (by simp))
   have hbo:bOf ss bv=bv:=by unfold bOf;rw [if_pos hbs]
   have hfl:(fil ss).length=K.length:=hP.length_eq
   have hf0:fil ss≠ []:=fun e=>hK0 (List.eq_nil_of_length_eq_zero (by rw [←hfl,e];rfl))
   obtain⟨g,off,c,he⟩:=hov.form_some (by simp [strs,hf0])
   injection he with he1 he2 he3
   subst he1;clear he2 he3
   have hgl:=(hov.lt g rfl).2
   have hfn:=fil_le ss
   have hs:=hsort g off c5 (fil ss) wr hov.holds hgl (by omega)
   rw [hms]at hs
   rw [stL,hfl]at hov⊢
   rw [hfl]at hs
   have Hfl:=Lib.hid hfl;clear hfl
   rw [hbo,decide_eq_true hbs]
   go_wp2_with fail
   refine hs.mono ?_
   rintro e w5 ⟨rfl,k,os,rfl⟩
   have ho5:=OwnAt.sorted (k:=k) (os:=os) hov Hfl.out.symm
   have hg5:=grown_sorted (w:=wr) (g:=g) (off:=off) (k:=k) (os:=os) K.toArray
   have hb5:Below w.heap.size w (Sort.grow (Sort.putRow encStr (Sort.ahead wr k) g off K.toArray) os):=hbx.trans ((Below.refl _ _).grown hg5 hbx.size (by simp;exact(hov.lt g rfl).1))
   generalize Sort.grow (Sort.putRow encStr (Sort.ahead wr k) g off K.toArray) os=w5 at*
   go_wp2
   go_ret3
   exact⟨_,rfl,ho5,hb5⟩
  case refine_2=>
   intro x c kl yd yp w3 cnt2 hkey hlk hv hat hrg2 hlt hg3 hs3 hen
   obtain⟨x',ex,rfl,hxl⟩:=Maps.keyOf_str Tryz.underlying9 hkey
   obtain rfl:=encStr_inj ex
   have hC2:=hC.step hlk hat
   have hov3:=hov.kept hg3 (.inr (own_iter hov hrg))
   have hb3:Below w.heap.size w w3:=hbx.trans ((Below.refl _ _).grown hg3 (by rw [←hs3];exact Nat.le_trans hbx.size (Nat.le_of_eq hs3.symm)) (by simp [hrw]))
   have hml:=hrg2.left_eq
   clear hs3 hkey hv hat hlk ex
   by_cases hx:x=tagB
   ·subst hx
    have hq:(tagB== [98])=true:=by decide
    have hlk:=run_mapS (f:=f) ⟨D,hrg2.owns,hf⟩ tagB (by decide)
    have hlk2:(Instr.lookup 179 (.map (some b)) (.string ⟨#[98]⟩) false).run Tryz.prog w3= .ok (Str bv) w3:=by rw [hb]at hlk;exact hlk
    clear hlk
    go_wp2_with fail
    go_roundw
    case rel=>exact⟨_,cnt2,ss++ [tagB],hC2,hrg2,by simp;omega,by rw [fil_b];exact hov3,by simp,by simp [bOf],hb3⟩
    case measure=>simp only [hmeas,hml];omega
   ·have hq:(x== [98])=false:=by rw [beq_eq_false_iff_ne];exact hx
    have hn3:=Nat.le_trans (fil_le ss) (show ss.length≤N by omega)
    have hba:=hb3.alloc hb3.size (.cells #[Str x] 9)
    go_wp2_with (first
     |(at_builtin;refine appS1' (.slice A5 (strs (fil ss)).length c5) rfl (.tmp 22) (.tmp 24) rfl (fil ss) x rfl hov3 _ rfl rfl (by omega) hb3 (Nat.le_refl _) ?_;intro v4 w4 ho4 hg4 hb4)
     |fail)
    have hg34:w3.grownBy w4 (Value.slice A5 (strs (fil ss)).length c5).ownBlock:=(World.grownBy_alloc w3 _ _).trans hg4
    have hrg4:=hrg2.kept hg34 (fun e=>by have:=(hov3.lt b e.symm).1;omega) (fun e=>own_iter hov3 hrg2 e.symm)
    have hml4:=hrg4.left_eq
    go_roundw
    case rel=>exact⟨_,cnt2,ss++ [x],hC2,hrg4,by simp;omega,by rw [fil_o _ _ hx];exact ho4,by simp [Ne.symm hx],by simp [bOf,Ne.symm hx],hb4⟩
    case measure=>simp only [hmeas,hml4];omega
end Go.Proofs.YtgilnagajcfkpaaGreatDoor
