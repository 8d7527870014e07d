import Derived.Test.YtgilnagajcfkpaaGreatDoorQ04
import Derived.Test.YtgilnagajcfkpaaGreatDoorQ26
set_option maxHeartbeats 4000000
set_option maxRecDepth 1000000
set_option linter.all false
namespace Go.Proofs.YtgilnagajcfkpaaGreatDoor
open Go.RowKit
theorem pmap_none (ps:List BS):ps.foldl pmapStep none=none:=by
 induction ps with
 |nil=>rfl
 |cons p r ih=>rw [List.foldl_cons];exact ih
theorem look_app (k:BS)(a b:List Tag):look k (a++b)=(look k a).or (look k b):=by
 induction a with
 |nil=>rfl
 |cons t r ih=>rw [List.cons_append,look,look];split<;>simp [ih]
theorem look_any (k:BS)(a:List Tag):(look k a).isSome=a.any fun t=>t.1==k:=by
 induction a with
 |nil=>rfl
 |cons t r ih=>
  rw [look,List.any_cons]
  by_cases h:t.1=k
  ·simp [h]
  ·have:(t.1==k)=false:=by simpa using h
   simp [h,this,ih]
theorem look_put (out:List Tag)(k v:BS)(h:look k out=none)(x:BS):putF (fun x=>look x out) k v x=look x (out++ [(k,v)]):=by
 unfold putF
 rw [look_app]
 by_cases e:x=k
 ·subst e;rw [if_pos rfl,h];simp [look]
 ·rw [if_neg e]
  have:look x [(k,v)]=none:=by simp [look,Ne.symm e]
  rw [this];simp
theorem plain_cut (c:UInt8)(l:BS)(h:plain l=true):plain (cutAt c l).1=true∧plain (cutAt c l).2.1=true:=⟨plain_of_sub h fun x hx=>cutAt_mem.1 hx,plain_of_sub h fun x hx=>cutAt_mem.2 hx⟩
theorem parseHeaderParams_any (l:BS)(T:List Tag)(w:World)(hs:l.length≤2147483648)(hp:plain l=true)(hT:pmap l=some T):
 Calls Tryz.prog 113 #[Str l] w fun e w'=> ∃b n,e= .returned (.tuple #[.map (some b), .nilIface])∧w.heap.size≤b∧MapS w' b n (fun k=>look k T)∧n≤2147483649∧Below w.heap.size w w':=by
 obtain⟨ps,hps⟩: ∃ps,Hid (ps=splitAt 59 l):=⟨_,Lib.hid rfl⟩
 have hsl:ps.length≤l.length+1:=by rw [hps.out];exact spL 59 l
 have hne:ps≠ []:=by rw [hps.out];exact splitAt_ne 59 l
 have hpos:0<ps.length:=List.length_pos_iff.2 hne
 have Hps:Hid (∀p∈ps,plain p=true∧p.length≤l.length):=by intro p h;rw [hps.out]at h;exact plain_split 59 l hp p h
 have hds: ∀ww,Calls Tryz.prog 96 #[Str l,Str [59]] ww fun e w'=> ∃g o c,e= .returned (.slice (some ⟨g,o,none⟩) ps.length c)∧OwnAt w' ww.heap.size 9 (.slice (some ⟨g,o,none⟩) ps.length c) (strs ps)∧Below ww.heap.size ww w':=fun ww=>(zzSplit_any l 59 ww (by omega)).mono (by
  rintro e w1 ⟨v1,rfl,ho1,hb1⟩
  rw [←hps.out]at ho1
  obtain⟨g,o,c1,rfl⟩:=ho1.form_some (by intro e;have:=congrArg List.length e;rw [stL]at this;simp at this;exact hne this)
  rw [stL]at ho1⊢
  exact⟨g,o,c1,rfl,ho1,hb1⟩)
 have Hds:=Lib.hid hds
 have HT:Hid (ps.foldl pmapStep (some [])=some T):=by show _=_;rw [hps.out];exact hT
 have hpl:ps.length≤2147483649:=by omega
 clear hds hne hp hT hps
 go_enter Tryz.func113,Tryz.ntmps113
 go_wp2_with fail
 refine(Hds.out _).mono ?_
 rintro e w1 ⟨g,o,c1,rfl,ho1,hb1⟩
 have hm1:MapS (w1.alloc (.map #[] 0)) w1.heap.size 0 (fun k=>look k []):=(MapS.new w1).congr fun k=>rfl
 obtain⟨B,hB⟩: ∃B,Hid (B=w1.heap.size):=⟨_,Lib.hid rfl⟩
 have hbm:Below B w1 (w1.alloc (.map #[] 0)):=(Below.refl _ _).alloc (Nat.le_of_eq hB.out) _
 have hgB:=(ho1.lt g rfl).2
 have hmm:= @run_makeMap Tryz.prog
 go_wp2_with fail
 rw [←hB.out]at hm1 hgB⊢
 go_loopw [19] (fun i wr=> ∃(k:Nat) (out:List Tag),k≤ps.length∧i= .int .i64 k∧MapS wr B k (fun x=>look x out)∧Hid ((ps.drop k).foldl pmapStep (some out)=some T)∧Below B w1 wr) (fun i _=>ps.length-(intOf i).toNat)
 case atStart=>exact⟨0,[],Nat.zero_le _,rfl,hm1,HT,hbm⟩
 case round=>
  clear hm1 HT hbm hmm
  obtain⟨k,out,hk,rfl,hm,H,hb⟩:=hrel
  have hBw:=hb.size
  have hBr:B≤wr.heap.size:=Nat.le_of_lt hm.lt
  by_cases hlt:k<ps.length
  ·obtain⟨p,hpe⟩: ∃p,Hid (p=ps[k]):=⟨_,Lib.hid rfl⟩
   have hc:wr.cell? ⟨g,o+k,none⟩=some (Str p):=(hb.cell (p:=⟨g,o+k,none⟩) hgB).trans ((ho1.cell_at k (Str p) (by rw [hpe.out];simp [strs,hlt])).1)
   have hpp:plain p=true∧p.length≤l.length:=by rw [hpe.out];exact Hps.out _ (List.getElem_mem hlt)
   have k0:(0:Int)≤(k:Int):=by omega
   have k1:(k:Int)<(ps.length:Int):=by omega
   have hH:=H.out
   rw [List.drop_eq_getElem_cons hlt,←hpe.out,List.foldl_cons]at hH
   have hpl2:=hpp.2
   have hcl:=cutAt_len 61 p
   have hcp:=plain_cut 61 p hpp.1
   have Hpp:=Lib.hid hpp.1
   rcases hct:cutAt 61 p with⟨a,b,f⟩
   rw [hct]at hcl hcp
   simp only at hcl hcp
   have Hcp:=Lib.hid hcp
   have hal:a.length≤4294967296:=by omega
   have hbl:b.length≤4294967296:=by omega
   have htl:=trim_len a
   have htl2:=trim_len b
   have hzc: ∀ww,Calls Tryz.prog 110 #[Str p,Str [61]] ww fun e w'=>e= .returned (.tuple #[Str a,Str b, .bool f])∧Below ww.heap.size ww w':=fun ww=>by
    have:=zzCut_any p 61 ww (by omega)
    rw [hct]at this;exact this
   have Hzc:=Lib.hid hzc
   clear hzc hpp hcp hcl
   cases f with
   |true=>
    have hst:pmapStep (some out) p=if out.any (fun t=>t.1==trim a)then none else some (out++ [(trim a,trim b)]):=by
     unfold pmapStep;rw [Option.bind_some,hct];rfl
    rw [hst,←look_any]at hH
    obtain⟨hlk,hH2⟩:look (trim a) out=none∧(ps.drop (k+1)).foldl pmapStep (some (out++ [(trim a,trim b)]))=some T:=by
     cases hlo:look (trim a) out with
     |none=>rw [hlo]at hH;exact⟨rfl,hH⟩
     |some u=>rw [hlo]at hH;simp only [Option.isSome_some,if_true]at hH;rw [pmap_none]at hH;cases hH
    have Hlk:=Lib.hid hlk;have HH2:=Lib.hid hH2
    clear hH hst hct hlk hH2 H
    go_wp2_with fail
    refine(Hzc.out _).mono ?_
    rintro e w2 ⟨rfl,hb2⟩
    go_wp2_with fail
    refine(zzTrimSpace_any a _ hal Hcp.out.1).mono ?_
    rintro e w3 ⟨rfl,hb3⟩
    have hm3:=((hm.below hb2 hm.lt).below hb3 (hm.below hb2 hm.lt).lt)
    have hlo:=run_mapS_ok hm3 (trim a) (by omega)
    rw [Hlk.out]at hlo
    go_wp2_with fail
    refine(zzTrimSpace_any b _ hbl Hcp.out.2).mono ?_
    rintro e w4 ⟨rfl,hb4⟩
    have hm4:=hm3.below hb4 hm3.lt
    have hb234:Below B wr w4:=((hb2.mono hBr).trans (hb3.mono (Nat.le_trans hBr hb2.size))).trans (hb4.mono (Nat.le_trans hBr (Nat.le_trans hb2.size hb3.size)))
    clear hlo
    go_wp2_with (at_mapUpdate;refine mapS_put rfl (.tmp 47) (.tmp 48) (.tmp 50) rfl rfl hm4 (by omega) (trim a) (trim b) (by omega) (by omega) rfl rfl ?_;intro w5 hm5 hg5)
    go_roundw
    case rel=>
     refine⟨k+1,out++ [(trim a,trim b)],hlt,by go_num,hm5.congr fun x=>look_put out _ _ Hlk.out x,HH2,?_⟩
     exact(hb.trans hb234).grown hg5 (by rw [hB.out];exact Nat.le_trans (Nat.le_refl _) (hb.trans hb234).size) (fun k hk=>by injection hk with hk;omega)
    case measure=>simp [intOf];omega
   |false=>
    have hst:pmapStep (some out) p=if trim p= []then some out else none:=by
     unfold pmapStep;rw [Option.bind_some,hct];rfl
    rw [hst]at hH
    obtain⟨htr,hH2⟩:trim p= []∧(ps.drop (k+1)).foldl pmapStep (some out)=some T:=by
     by_cases ht:trim p= []
     ·rw [if_pos ht]at hH;exact⟨ht,hH⟩
     ·rw [if_neg ht,pmap_none]at hH;cases hH
    have Htr:=Lib.hid htr;have HH2:=Lib.hid hH2
    clear hH hst hct htr hH2 H
    go_wp2_with fail
    refine(Hzc.out _).mono ?_
    rintro e w2 ⟨rfl,hb2⟩
    go_wp2_with fail
    refine(zzTrimSpace_any p _ (by omega) Hpp.out).mono ?_
    rintro e w3 ⟨rfl,hb3⟩
    rw [Htr.out]
    have hm3:=((hm.below hb2 hm.lt).below hb3 (hm.below hb2 hm.lt).lt)
    have hb23:Below B wr w3:=(hb2.mono hBr).trans (hb3.mono (Nat.le_trans hBr hb2.size))
    go_wp2_with fail
    go_roundw
    case rel=>exact⟨k+1,out,hlt,by go_num,hm3.mono (Nat.le_succ k),HH2,hb.trans hb23⟩
    case measure=>simp [intOf];omega
  ·obtain rfl:k=ps.length:=by omega
   have hH:=H.out
   rw [List.drop_length,List.foldl_nil]at hH
   injection hH with hH
   subst hH
   go_wp2_with fail
   go_ret2
   exact⟨B,ps.length,rfl,by rw [hB.out];exact hb1.size,hm,hpl,hb1.trans (hb.mono (by rw [hB.out];exact hb1.size))⟩
end Go.Proofs.YtgilnagajcfkpaaGreatDoor
