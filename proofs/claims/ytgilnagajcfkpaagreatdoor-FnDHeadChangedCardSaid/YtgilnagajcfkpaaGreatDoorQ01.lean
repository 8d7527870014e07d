import Derived.Test.YtgilnagajcfkpaaGreatDoorProg
import Derived.WalkKit
import Derived.WalkSpells
import Derived.WalkLawsBesides
import Derived.Deep.QuietTactic
import Derived.BigQuiet
import Derived.Lib.Hide
import Derived.Maps.AppendAt
import Derived.Lib.AppendStr
set_option maxHeartbeats 4000000
set_option maxRecDepth 1000000
set_option linter.all false
namespace Go.Proofs.YtgilnagajcfkpaaGreatDoor
open Go.RowKit
abbrev Str (l:List UInt8):Value:= .string ⟨l.toArray⟩
def byts (l:List UInt8):List Value:=l.map fun b=> .int .u8 b.toNat
def strs (l:List (List UInt8)):List Value:=l.map Str
@[go_sem] theorem getElem_mk (l:List UInt8) (k:Nat) (h:k<(⟨l.toArray⟩:ByteArray).size):(⟨l.toArray⟩:ByteArray)[k]=l[k]'h:=rfl
attribute [go_sem] ByteArray.extract_mk ByteArray.mk_append_mk
@[go_sem] theorem take_drop_end (l:List UInt8) (n:Nat):(l.drop n).take (l.length-n)=l.drop n:=List.take_of_length_le (by simp)
theorem bT {a b:UInt8} (h:a=b):((a.toNat:Int)==(b.toNat:Int))=true:=by subst h;simp
theorem bF {a b:UInt8} (h: ¬a=b):((a.toNat:Int)==(b.toNat:Int))=false:=by
 rw [beq_eq_false_iff_ne];intro e;exact h (UInt8.toNat_inj.1 (by omega))
theorem bdN {B:Nat} {a w:World} (h:Below B a w)(n:Nat):Below B a (w.drewN n):=⟨h.os,h.tape,h.output,h.size,h.block⟩
theorem bdw {B:Nat} {a w:World} (h:Below B a w):Below B a w.drew:=⟨h.os,h.tape,h.output,h.size,h.block⟩
theorem grown_drewN {a w:World} {r:Option Nat} (h:a.grownBy w r)(n:Nat):a.grownBy (w.drewN n) r:=⟨h.os,h.tape,h.output,h.size,h.block⟩
section
variable {P:Program}
theorem add_at (g off j:Nat):(⟨g,off,none⟩:Addr).add j=⟨g,off+j,none⟩:=by unfold Addr.add;split<;>simp_all
theorem run_storeCells_fr (g o:Nat)(t:TypeId)(fr:Nat×Nat): ∀(vs:List Value)(i:Nat)(cur:Array Value)(w:World),w.heap[g]?=some (.cells cur t fr)→(∀j,j<cur.size→¬(fr.1≤j∧j<fr.2))→
 o+i+vs.length≤cur.size→(∀v∈vs,v.oneCell'=true)→
 ∃cur' w',(storeCells ⟨g,o,none⟩ vs i).run P w= .ok () w'∧w'.heap[g]?=some (.cells cur' t fr)∧cur'.size=cur.size∧w.grownBy w' (some g)∧w'.heap.size=w.heap.size∧
  (∀j,j<o+i→cur'[j]?=cur[j]?)∧∀j u,vs[j]?=some u→cur'[o+i+j]?=some u
 | [],i,cur,w,hg,_,_,_=>⟨cur,w,rfl,hg,rfl,World.grownBy.refl w _,rfl,fun _ _=>rfl,fun j u h=>by simp at h⟩
 |v::rest,i,cur,w,hg,hf,hl,h1=>by
  have hi:o+i<cur.size:=by simp at hl;omega
  have hcell:w.cell? ⟨g,o+i,none⟩=some cur[o+i]:=by simp [World.cell?,hg,hi]
  have hfro:w.frozen? ⟨g,o+i,none⟩=false:=by
   have:=hf (o+i) hi
   simp [World.frozen?,hg];omega
  have hst:(store ((⟨g,o,none⟩:Addr).add i) v).run P w= .ok () (w.setCell ⟨g,o+i,none⟩ v):=by
   rw [add_at,run_store P w _ v _ (h1 v (by simp)),hcell]
   simp [hfro]
  have hg':(w.setCell ⟨g,o+i,none⟩ v).heap[g]?=some (.cells (cur.setIfInBounds (o+i) v) t fr):=by
   simp [World.setCell,Array.getElem?_modify,hg]
  obtain⟨cur',w',hr,hh,hs,hgr,hsz,hb,ha⟩:=run_storeCells_fr g o t fr rest (i+1) _ _ hg' (by simpa using hf) (by simp at hl⊢;omega) (fun x hx=>h1 x (by simp [hx]))
  refine⟨cur',w',?_,hh,by simpa using hs,?_,by simpa [World.setCell]using hsz,?_,?_⟩
  ·simp only [storeCells,Sem.run_bind,hst,Result.andThen_ok,hr]
  ·refine⟨hgr.os,hgr.tape,hgr.output,by have:=hgr.size;simpa [World.setCell]using this,fun k hk hne=> ?_⟩
   rw [hgr.block k (by simpa [World.setCell]using hk) hne]
   exact Below.heap_setCell _ _ _ _ (fun e=>hne (by rw [e]))
  ·intro j hj
   rw [hb j (by omega),Array.getElem?_setIfInBounds,if_neg (by omega)]
  ·intro j u hu
   cases j with
   |zero=>
    simp at hu
    subst hu
    rw [Nat.add_zero,hb (o+i) (by omega),Array.getElem?_setIfInBounds]
    simp [hi]
   |succ j=>
    have:=ha j u (by simpa using hu)
    rw [←this];congr 1;omega
def OwnAt (w:World)(B:Nat)(e:TypeId)(v:Value)(xs:List Value):Prop:=
 (v= .slice none 0 0∧xs= [])∨
 ∃g off cap cur fr,v= .slice (some ⟨g,off,none⟩) xs.length cap∧B≤g∧w.heap[g]?=some (.cells cur e fr)∧(∀j,j<cur.size→¬(fr.1≤j∧j<fr.2))∧
  xs.length≤cap∧cap≤maxLen∧off+cap≤cur.size∧∀j u,xs[j]?=some u→cur[off+j]?=some u
def Rd (w:World)(v:Value)(xs:List Value):Prop:=
 ∃A c,v= .slice A xs.length c∧xs.length≤c∧(xs= []∨∃g off,A=some ⟨g,off,none⟩∧g<w.heap.size∧∀j u,xs[j]?=some u→w.cell? ⟨g,off+j,none⟩=some u)
section
variable {w w':World} {B:Nat} {e:TypeId} {v:Value} {xs:List Value}
theorem OwnAt.nil (w:World)(B:Nat)(e:TypeId):OwnAt w B e (.slice none 0 0) []:= .inl ⟨rfl,rfl⟩
theorem OwnAt.lt (h:OwnAt w B e v xs): ∀k,v.ownBlock=some k→B≤k∧k<w.heap.size:=by
 intro k hk
 rcases h with⟨rfl,_⟩|⟨g,off,cap,cur,fr,rfl,hb,hg,_⟩
 ·simp [Value.ownBlock]at hk
 ·simp [Value.ownBlock]at hk
  subst hk
  exact⟨hb,(Array.getElem?_eq_some_iff.1 hg).1⟩
theorem OwnAt.kept {row:Option Nat} (h:OwnAt w B e v xs)(hg:w.grownBy w' row)(hne:v.ownBlock=none∨v.ownBlock≠row):OwnAt w' B e v xs:=by
 rcases h with hn|⟨g,off,cap,cur,fr,rfl,hb,hgg,rest⟩
 ·exact .inl hn
 ·refine .inr ⟨g,off,cap,cur,fr,rfl,hb,?_,rest⟩
  rw [hg.block g (Array.getElem?_eq_some_iff.1 hgg).1 (by simpa [Value.ownBlock]using hne)]
  exact hgg
theorem OwnAt.below (h:OwnAt w B e v xs)(hb:Below w.heap.size w w'):OwnAt w' B e v xs:=
 h.kept (row:=none) ⟨hb.os,hb.tape,hb.output,hb.size,fun k hk _=>hb.block k hk⟩ (by cases v.ownBlock<;>simp)
theorem OwnAt.mono {B':Nat} (h:OwnAt w B e v xs)(hB:B'≤B):OwnAt w B' e v xs:=by
 rcases h with hn|⟨g,off,cap,cur,fr,rfl,hb,rest⟩
 ·exact .inl hn
 ·exact .inr ⟨g,off,cap,cur,fr,rfl,Nat.le_trans hB hb,rest⟩
theorem OwnAt.drewN (h:OwnAt w B e v xs)(n:Nat):OwnAt (w.drewN n) B e v xs:=h
theorem OwnAt.drew (h:OwnAt w B e v xs):OwnAt w.drew B e v xs:=h
theorem OwnAt.alloc (h:OwnAt w B e v xs)(o:Obj):OwnAt (w.alloc o) B e v xs:=h.below (Below.alloc (Below.refl _ _) (Nat.le_refl _) o)
theorem OwnAt.rd (h:OwnAt w B e v xs):Rd w v xs:=by
 rcases h with⟨rfl,rfl⟩|⟨g,off,cap,cur,fr,rfl,hb,hgg,hf,hl,hm,hc,hx⟩
 ·exact⟨none,0,rfl,Nat.le_refl _, .inl rfl⟩
 ·refine⟨_,cap,rfl,hl, .inr ⟨_,_,rfl,(Array.getElem?_eq_some_iff.1 hgg).1,fun j u hu=> ?_⟩⟩
  simp [World.cell?,hgg,hx j u hu]
theorem add_block (a:Addr)(n:Nat):(a.add n).block=a.block:=by unfold Addr.add;split<;>rfl
theorem Rd.kept {row:Option Nat} (h:Rd w v xs)(hg:w.grownBy w' row)(hne:v.ownBlock=none∨v.ownBlock≠row):Rd w' v xs:=by
 obtain⟨A,c,rfl,hlc,hx⟩:=h
 refine⟨A,c,rfl,hlc,?_⟩
 rcases hx with hn|⟨g,off,rfl,hb,hc⟩
 ·exact .inl hn
 ·refine .inr ⟨g,off,rfl,Nat.lt_of_lt_of_le hb hg.size,fun j u hu=> ?_⟩
  rw [World.cell?_of_block (w:=w)]
  ·exact hc j u hu
  ·exact hg.block _ hb (by simpa [Value.ownBlock]using hne)
theorem Rd.below (h:Rd w v xs)(hb:Below w.heap.size w w'):Rd w' v xs:=
 h.kept (row:=none) ⟨hb.os,hb.tape,hb.output,hb.size,fun k hk _=>hb.block k hk⟩ (by cases v.ownBlock<;>simp)
theorem Rd.nil (w:World):Rd w (.slice none 0 0) []:=⟨none,0,rfl,Nat.le_refl _, .inl rfl⟩
end
def Src (P:Program)(w:World)(x:Value)(news:List Value):Prop:=
 (Builtin.lenOf x).run P w= .ok news.length w∧(∀u∈news,u.oneCell'=true)∧∀d,(Builtin.firstCells 1 news.length x).run P (w.drewN d)= .ok news.toArray (w.drewN d)
theorem Src.rd {w:World} {x:Value} {news:List Value} (h:Rd w x news)(h1: ∀u∈news,u.oneCell'=true):Src P w x news:=by
 obtain⟨A,c,rfl,hlc,hx⟩:=h
 refine⟨by simp [Builtin.lenOf],h1,fun d=> ?_⟩
 rcases hx with rfl|⟨g,off,rfl,_,hc⟩
 ·cases A<;>simp [Builtin.firstCells,loadCells,loadCellsFrom]
 ·exact run_firstCells_some (P:=P) _ 1 _ ⟨g,off,none⟩ _ c news (by simp) (fun j u hu=>by rw [add_at];exact hc j u hu)
theorem Src.str {w:World} (s:List UInt8):Src P w (Str s) (byts s):=by
 refine⟨by simp [Builtin.lenOf,byts,ByteArray.size],by simp [byts,Value.oneCell'],fun d=> ?_⟩
 simp [Builtin.firstCells,byts,ByteArray.extract_mk]
theorem run_append_at (w:World)(B:Nat)(t u ty e:TypeId)(i:TypeInfo)(z:Value)(bytes:Nat)(ht:P.underlying t=some (.slice e))(hu:P.underlying u=some .string∨∃e',P.underlying u=some (.slice e'))(hi:P.info? e=some i)(hz:i.zero=some z)
 (hsize:i.size=1)(hby:i.bytes=bytes)(hzs:z.cells.size=1)(v:Value)(xs:List Value)(hown:OwnAt w B e v xs)(x:Value)(news:List Value)(hx:Src P w x news)
 (h63:xs.length+news.length≤maxLen)(hbytes:(xs.length+news.length)*bytes≤140737488355328)(hB:B≤w.heap.size):
 ∃v' w',(Builtin.append_ #[t,u] ty #[v,x]).run P w= .ok v' w'∧OwnAt w' B e v' (xs++news)∧w.grownBy w' v.ownBlock∧(v'.ownBlock=v.ownBlock∨v'.ownBlock=some w.heap.size):=by
 obtain⟨hlen,h1,hsrc⟩:=hx
 have h0:=hsrc 0
 have hs1:=hsrc 1
 have hd0:w.drewN 0=w:=rfl
 have hd1:w.drewN 1=w.drew:=rfl
 rw [hd0]at h0;rw [hd1]at hs1
 clear hd0 hd1 hsrc
 subst hby
 have hge:=grownCap_ge w (xs.length+news.length)
 have hle:=fun o=>grownCap_le_maxLen w (xs.length+news.length) o e h63
 have grown: ∀(old:Nat),∃cur,(w.drew.alloc (.cells (xs.toArray++news.toArray++Builtin.zeroCells z.cells (grownCap w (xs.length+news.length) old e-(xs.length+news.length))) e))=cur∧
  OwnAt cur B e (.slice (some ⟨w.heap.size,0,none⟩) (xs.length+news.length) (grownCap w (xs.length+news.length) old e)) (xs++news)∧∀r,w.grownBy cur r:=by
  intro old
  refine⟨_,rfl, .inr ⟨w.heap.size,0,_,_,(0,0),by rw [List.length_append],hB,heap_alloc_new w.drew _,fun j _=>by omega,by rw [List.length_append];exact hge old e,hle old,?_,?_⟩,?_⟩
  ·have:=hge old e
   simp [Builtin.zeroCells,hzs];omega
  ·intro j u hj
   simp only [Nat.zero_add]
   have hlt:j<(xs++news).length:=(List.getElem?_eq_some_iff.1 hj).1
   have e1:xs.toArray++news.toArray=(xs++news).toArray:=by simp
   rw [e1,Array.getElem?_append_left (by simpa using hlt)]
   simpa using hj
  ·exact fun r=>World.grownBy.trans (b:=w.drew) ⟨rfl,rfl,rfl,Nat.le_refl _,fun _ _ _=>rfl⟩ (World.grownBy_alloc _ _ r)
 rcases hown with⟨rfl,rfl⟩|⟨g,off,cap,cur,fr,rfl,hb,hgg,hf,hl,hm,hc,hxs⟩
 ·by_cases hn:news.length=0
  ·have hn':news= []:=List.eq_nil_of_length_eq_zero hn
   subst hn'
   refine⟨_,w,?_,OwnAt.nil w B e,World.grownBy.refl w _, .inl rfl⟩
   rcases hu with hu|⟨e',hu⟩<;>
    simp [Builtin.append_,run_underlying ht,run_underlying hu,sizeOf,typeInfo,hi,hsize,hlen,h0]<;>simp at h0<;>simp [h0]
  ·obtain⟨cur,rfl,ho,hgr⟩:=grown 0
   refine⟨_,_,?_,ho,hgr _, .inr rfl⟩
   have h63': ¬(9223372036854775807<(news.length:Int)):=by simp only [maxLen,List.length_nil]at h63;omega
   have h48': ¬(281474976710656<Builtin.nextslicecap news.length 0*i.bytes):=by
    have hb2:=hbytes
    simp only [List.length_nil,Nat.zero_add]at hb2
    rw [nextslicecap_zero (by omega)];omega
   rcases hu with hu|⟨e',hu⟩<;>
    simp [Builtin.append_,run_underlying ht,run_underlying hu,sizeOf,typeInfo,zeroValue,hi,hsize,hz,hlen,hn,h63',h48',Question.forced,hs1,newRow,grownCap,run_firstCells_none]
 ·by_cases hroom:xs.length+news.length≤cap
  ·obtain⟨cur',w',hst,hh,hsz,hgr,hsz2,hlo,hhi⟩:=run_storeCells_fr (P:=P) g (off+xs.length) e fr news 0 cur w hgg hf (by omega) h1
   refine⟨_,w',?_, .inr ⟨g,off,cap,cur',fr,rfl,hb,hh,by rw [hsz];exact hf,by simp;omega,hm,by omega,?_⟩,hgr, .inl rfl⟩
   ·rcases hu with hu|⟨e',hu⟩<;>
     simp [Builtin.append_,run_underlying ht,run_underlying hu,sizeOf,typeInfo,hi,hsize,hlen,hroom,h0,add_at,hst]
   ·intro j u hj
    rw [List.getElem?_append]at hj
    split at hj
    ·rw [hlo _ (by omega)];exact hxs j u hj
    ·rename_i hge2
     have:=hhi (j-xs.length) u hj
     rw [←this];congr 1;omega
  ·obtain⟨cur2,rfl,ho,hgr⟩:=grown cap
   refine⟨_,_,?_,ho,hgr _, .inr rfl⟩
   have h63': ¬(9223372036854775807<((xs.length:Int)+(news.length:Int))):=by simp only [maxLen]at h63;omega
   have h48': ¬(281474976710656<Builtin.nextslicecap (xs.length+news.length) cap*i.bytes):=Nat.not_lt.2 (growslice_fits (by omega) hbytes)
   have hfo:=run_firstCells_some (P:=P) w.drew 1 xs.length ⟨g,off,none⟩ xs.length cap xs (by simp) (fun j u hu=>by
    rw [add_at];have:=hxs j u hu;show w.cell? _=_;simp [World.cell?,hgg,this])
   rcases hu with hu|⟨e',hu⟩<;>
    simp [Builtin.append_,run_underlying ht,run_underlying hu,sizeOf,typeInfo,zeroValue,hi,hsize,hz,hlen,hroom,h63',h48',Question.forced,hs1,newRow,grownCap,hfo,←Array.append_assoc]
theorem Src.one (w:World)(e:TypeId)(u:Value)(h1:u.oneCell'=true):Src P (w.alloc (.cells #[u] e)) (.slice (some ⟨w.heap.size,0,none⟩) 1 1) [u]:=
 Src.rd ⟨_,1,rfl,Nat.le_refl _, .inr ⟨_,_,rfl,by simp,fun j v hj=>by
  cases j with
  |zero=>simp at hj;subst hj;rw [cell_of_row _ _ _ _ _ _ (heap_alloc_new w _)];rfl
  |succ j=>simp at hj⟩⟩ (by simpa using h1)
theorem wp_app {o:Oper} {a:Act} {w:World} {K:Act→World→Prop} {Q:Exit→Act→World→Prop} (s x:Operand)(t u:TypeId)
 (ho:o.op= .call { callee:= .builtin .append,args:= #[s,x],argTypes:= #[t,u] })
 (B:Nat)(e:TypeId)(i:TypeInfo)(z:Value)(bytes:Nat)(ht:P.underlying t=some (.slice e))(hu:P.underlying u=some .string∨∃e',P.underlying u=some (.slice e'))(hi:P.info? e=some i)(hz:i.zero=some z)
 (hsize:i.size=1)(hby:i.bytes=bytes)(hzs:z.cells.size=1)(v:Value)(xs:List Value)(hs:a.eval s=v)(hown:OwnAt w B e v xs)(xv:Value)(news:List Value)(hxv:a.eval x=xv)(hx:Src P w xv news)
 (h63:xs.length+news.length≤maxLen)(hbytes:(xs.length+news.length)*bytes≤140737488355328)(hB:B≤w.heap.size)
 (h: ∀v' w',OwnAt w' B e v' (xs++news)→w.grownBy w' v.ownBlock→(v'.ownBlock=v.ownBlock∨v'.ownBlock=some w.heap.size)→K (a.put o.dst v') w'):o.wp P a w K Q:=by
 obtain⟨v',w',hrun,h2,h3,h4⟩:=run_append_at w B t u o.type e i z bytes ht hu hi hz hsize hby hzs v xs hown xv news hx h63 hbytes hB
 unfold Oper.wp execOp
 simp only [ho,resolve,invoke,builtin,Sem.run_bind,Sem.run_pure,Result.andThen_ok,List.map_toArray,List.map_cons,List.map_nil,hs,hxv,hrun]
 exact h v' w' h2 h3 h4
theorem grown_below {w w':World} {B:Nat} {e:TypeId} {v:Value} {xs:List Value} (hown:OwnAt w B e v xs)(hg:w.grownBy w' v.ownBlock)(hB:B≤w.heap.size):Below B w w':=
 (Below.refl B w).grown hg hB (fun k hk=>(hown.lt k hk).1)
end
theorem Tryz.info5:(Tryz.prog.info? 5).map (fun i=>(i.zero,i.size,i.bytes))=some (some (.int .u8 0),1,1):=by kernel_rfl
theorem Tryz.info9:(Tryz.prog.info? 9).map (fun i=>(i.zero,i.size,i.bytes))=some (some (.string ⟨#[]⟩),1,16):=by kernel_rfl
theorem byL (l:List UInt8):(byts l).length=l.length:=by simp [byts]
theorem byts_append (a b:List UInt8):byts (a++b)=byts a++byts b:=by simp [byts]
theorem stL (l:List (List UInt8)):(strs l).length=l.length:=by simp [strs]
theorem strs_append (a b:List (List UInt8)):strs (a++b)=strs a++strs b:=by simp [strs]
theorem byts_one (l:List UInt8): ∀u∈byts l,u.oneCell'=true:=by simp [byts,Value.oneCell']
theorem strs_one (l:List (List UInt8)): ∀u∈strs l,u.oneCell'=true:=by simp [strs,Value.oneCell']
section
variable {ops:Array Oper} {rest:List Oper} {o:Oper} {a:Act} {Q:Exit→Act→World→Prop} {w:World} {B:Nat} {v xv:Value}
theorem appB (hgd:o.guard=none)(s x:Operand)(u:TypeId)(hu:u=22∨u=9)(ho:o.op= .call { callee:= .builtin .append,args:= #[s,x],argTypes:= #[22,u] })
 (l news:List UInt8)(hs:a.eval s=v)(hown:OwnAt w B 5 v (byts l))(hxv:a.eval x=xv)(hx:Src Tryz.prog w xv (byts news))(hn:l.length+news.length≤140737488355328)(hB:B≤w.heap.size)
 (h: ∀v' w',OwnAt w' B 5 v' (byts (l++news))→w.grownBy w' v.ownBlock→Below B w w'→(v'.ownBlock=v.ownBlock∨v'.ownBlock=some w.heap.size)→wpList Tryz.prog ops Q rest (a.put o.dst v') w'):wpList Tryz.prog ops Q (o::rest) a w:=by
 obtain⟨i,hi,hz,hs1,hb⟩:=info_parts Tryz.info5
 refine wpList_plain hgd fun K hK=>wp_app s x 22 u ho B 5 i _ 1 Tryz.underlying22 ?_ hi hz hs1 hb rfl v _ hs hown xv _ hxv hx ?_ ?_ hB fun v' w' h2 h3 h4=>hK _ _ (h v' w' (by rw [byts_append];exact h2) h3 (grown_below hown h3 hB) h4)
 ·rcases hu with rfl|rfl
  ·exact .inr ⟨_,Tryz.underlying22⟩
  ·exact .inl Tryz.underlying9
 ·simp only [byL,maxLen];omega
 ·simp only [byL];omega
theorem appS (hgd:o.guard=none)(s x:Operand)(ho:o.op= .call { callee:= .builtin .append,args:= #[s,x],argTypes:= #[23,23] })
 (l news:List (List UInt8))(hs:a.eval s=v)(hown:OwnAt w B 9 v (strs l))(hxv:a.eval x=xv)(hx:Src Tryz.prog w xv (strs news))(hn:l.length+news.length≤8796093022208)(hB:B≤w.heap.size)
 (h: ∀v' w',OwnAt w' B 9 v' (strs (l++news))→w.grownBy w' v.ownBlock→Below B w w'→(v'.ownBlock=v.ownBlock∨v'.ownBlock=some w.heap.size)→wpList Tryz.prog ops Q rest (a.put o.dst v') w'):wpList Tryz.prog ops Q (o::rest) a w:=by
 obtain⟨i,hi,hz,hs1,hb⟩:=info_parts Tryz.info9
 refine wpList_plain hgd fun K hK=>wp_app s x 23 23 ho B 9 i _ 16 Tryz.underlying23 (.inr ⟨_,Tryz.underlying23⟩) hi hz hs1 hb rfl v _ hs hown xv _ hxv hx ?_ ?_ hB fun v' w' h2 h3 h4=>hK _ _ (h v' w' (by rw [strs_append];exact h2) h3 (grown_below hown h3 hB) h4)
 ·simp only [stL,maxLen];omega
 ·simp only [stL];omega
end
theorem cvB {w:World} {v:Value} {l:List UInt8} (h:Rd w v (byts l)):(convert 22 9 v).run Tryz.prog w= .ok (Str l) w:=by
 obtain⟨A,c,rfl,hlc,hx⟩:=h
 rcases hx with hn|⟨g,off,rfl,_,hc⟩
 ·have hn':l= []:=by simpa [byts]using hn
  subst hn'
  rw [run_convert_bytes_string w 22 9 5 _ _ _ Tryz.underlying22 Tryz.underlying5 Tryz.underlying9]
  cases A<;>simp [Conv.bytesToString,byts,loadCells,loadCellsFrom]<;>rfl
 ·rw [run_convert_bytes_arg w 22 5 Tryz.underlying22 Tryz.underlying5 g off _ c (l.map fun b=>(b.toNat:Int)) (by simp [byts]) ?_ 9 Tryz.underlying9]
  ·congr 2
   apply ByteArray.ext
   apply Array.ext'
   rw [strOfNums_data]
   simp [List.map_map,Function.comp_def]
  ·intro j hj
   have hj':j<l.length:=by simpa [byts]using hj
   exact hc j _ (by simp [byts,hj',List.getD])
section
variable {w:World} {B:Nat} {e:TypeId} {xs:List Value} {g off n c:Nat}
theorem OwnAt.cell_at (h:OwnAt w B e (.slice (some ⟨g,off,none⟩) n c) xs)(k:Nat)(u:Value)(hk:xs[k]?=some u):w.cell? ⟨g,off+k,none⟩=some u∧w.frozen? ⟨g,off+k,none⟩=false:=by
 rcases h with⟨h,_⟩|⟨g',off',cap,cur,fr,he,hb,hgg,hf,hl,hm,hc,hx⟩
 ·cases h
 ·injection he with h1 h2 h3
  injection h1 with h1
  injection h1 with h1 h4 _
  subst h1;subst h4
  have hkl:k<xs.length:=(List.getElem?_eq_some_iff.1 hk).1
  refine⟨by simp [World.cell?,hgg,hx k u hk],?_⟩
  have:=hf (off+k) (by omega)
  simp [World.frozen?,hgg];omega
theorem OwnAt.len_at (h:OwnAt w B e (.slice (some ⟨g,off,none⟩) n c) xs):xs.length=n∧n≤c∧B≤g∧g<w.heap.size∧c≤maxLen:=by
 rcases h with⟨h,_⟩|⟨g',off',cap,cur,fr,he,hb,hgg,hf,hl,hm,hc,hx⟩
 ·cases h
 ·injection he with h1 h2 h3
  injection h1 with h1
  injection h1 with h1 h4 _
  subst h1;subst h4;subst h2;subst h3
  exact⟨rfl,hl,hb,(Array.getElem?_eq_some_iff.1 hgg).1,hm⟩
theorem OwnAt.set_at (h:OwnAt w B e (.slice (some ⟨g,off,none⟩) n c) xs)(k:Nat)(u:Value)(hk:k<xs.length):OwnAt (w.setCell ⟨g,off+k,none⟩ u) B e (.slice (some ⟨g,off,none⟩) n c) (xs.set k u):=by
 rcases h with⟨h,_⟩|⟨g',off',cap,cur,fr,he,hb,hgg,hf,hl,hm,hc,hx⟩
 ·cases h
 ·injection he with h1 h2 h3
  injection h1 with h1
  injection h1 with h1 h4 _
  subst h1;subst h4;subst h2;subst h3
  refine .inr ⟨g,off,c,cur.setIfInBounds (off+k) u,fr,by rw [List.length_set],hb,by simp [World.setCell,Array.getElem?_modify,hgg],by simpa using hf,by simpa using hl,hm,by simpa using hc,fun j v hj=> ?_⟩
  rw [Array.getElem?_setIfInBounds]
  rw [List.getElem?_set]at hj
  by_cases e:k=j
  ·subst e
   rw [if_pos rfl,if_pos hk]at hj
   rw [if_pos rfl,if_pos (by omega)];exact hj
  ·rw [if_neg e]at hj
   rw [if_neg (by omega)];exact hx j v hj
theorem below_set (h:OwnAt w B e (.slice (some ⟨g,off,none⟩) n c) xs)(k:Nat)(u:Value):Below B w (w.setCell ⟨g,off+k,none⟩ u):=
 (Below.refl B w).setCell h.len_at.2.2.1 u
end
theorem conv_text (w:World)(l:List UInt8)(hl:l.length≤140737488355328): ∃c w1,(convert 9 22 (Str l)).run Tryz.prog w= .ok (.slice (some ⟨w.heap.size,0,none⟩) l.length c) w1∧
 OwnAt w1 w.heap.size 5 (.slice (some ⟨w.heap.size,0,none⟩) l.length c) (byts l)∧Below w.heap.size w w1:=by
 refine⟨_,_,run_bytes_of_string w 9 22 5 ⟨l.toArray⟩ Tryz.underlying9 Tryz.underlying22 Tryz.underlying5,?_,((Below.refl _ _).drew.alloc (Nat.le_refl _) _)⟩
 have hsz:(⟨l.toArray⟩:ByteArray).size=l.length:=rfl
 have hge:=grownCap_ge w (⟨l.toArray⟩:ByteArray).size 0 5
 have hle:=grownCap_le_maxLen w (⟨l.toArray⟩:ByteArray).size 0 5 (by simp only [maxLen];omega)
 have hrow:(bytesRow ⟨l.toArray⟩ (grownCap w (⟨l.toArray⟩:ByteArray).size 0 5)).size=grownCap w (⟨l.toArray⟩:ByteArray).size 0 5:=by
  simp [bytesRow];omega
 refine .inr ⟨w.heap.size,0,_,_,_,by rw [byL],Nat.le_refl _,heap_alloc_new w.drew _,fun j hj=>by simp only;omega,by rw [byL];exact hge,hle,by rw [hrow];omega,fun j u hj=> ?_⟩
 have hjl:j<l.length:=by have:=(List.getElem?_eq_some_iff.1 hj).1;simpa [byts]using this
 rw [Nat.zero_add,bytesRow_at _ _ _ (by simpa using hjl)]
 simp [byts,hjl]at hj
 rw [←hj];rfl
end Go.Proofs.YtgilnagajcfkpaaGreatDoor
