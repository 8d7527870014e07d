import Derived.Stop.Asserts
import Derived.Test.YtgilnagajcfkpaaGreatDoorQ12
import Derived.Test.YtgilnagajcfkpaaGreatDoorQ26
import Derived.Test.YtgilnagajcfkpaaGreatDoorQ41
set_option maxHeartbeats 4000000
set_option maxRecDepth 1000000
set_option linter.all false
namespace Go.Proofs.YtgilnagajcfkpaaGreatDoor
open Go.RowKit
structure CanLaw (ct wfn cfn:Nat)(any:Bool)(Sk:World→Nat→Option Nat→BS→Prop)(B h:Nat)(form:BS)(At:World→Nat→BS→Prop):Prop where
 mw: ∀(a:Addr) (w:World),(method 486 ct (.pointer (some a)) "Write").run Tryz.prog w= .ok (wfn, .pointer (some a)) w
 nw: ∀(a:Addr) (w:World),(nilAhead 486 ct (.pointer (some a)) "Write").run Tryz.prog w= .ok (some false) w
 ew: ∀(args:Array Value) (w:World),(callFunc wfn args).run Tryz.prog w= .ok (.enter wfn args) w
 mc: ∀(a:Addr) (w:World),(method 486 ct (.pointer (some a)) "Close").run Tryz.prog w= .ok (cfn, .pointer (some a)) w
 nc: ∀(a:Addr) (w:World),(nilAhead 486 ct (.pointer (some a)) "Close").run Tryz.prog w= .ok (some false) w
 ec: ∀(args:Array Value) (w:World),(callFunc cfn args).run Tryz.prog w= .ok (.enter cfn args) w
 ns: ∀(v:Value) (xT:TypeId) (w:World),(Instr.typeAssert (.iface ct v) xT 189 true).run Tryz.prog w= .ok (.tuple #[.nilIface, .bool false]) w
 lt: ∀w c acc,At w c acc→B≤c∧c<w.heap.size
 frm: ∀(S:Nat→Prop) w w' c acc,At w c acc→Frm S w w'→(∀k,k<w.heap.size→S k→k<B)→At w' c acc
 write: ∀w c acc v l,At w c acc→Rd w v (byts l)→v.ownBlock≠some c→acc.length+l.length≤274877906944→(any=true∨acc= [])→
  Calls Tryz.prog wfn #[.pointer (some ⟨c,0,none⟩),v] w fun e w'=>e= .returned (.tuple #[.int .i64 l.length, .nilIface])∧At w' c (acc++l)∧Below B w w'
 close: ∀w c acc,At w c acc→acc.length≤274877906944→Calls Tryz.prog cfn #[.pointer (some ⟨c,0,none⟩)] w (ClosePost Sk B w h (bodyOf form acc))
theorem ns358 (v:Value)(xT:TypeId)(w:World):(Instr.typeAssert (.iface 358 v) xT 189 true).run Tryz.prog w= .ok (.tuple #[.nilIface, .bool false]) w:=run_typeAssert_lacksB Tryz.underlying189 (by kernel_rfl) (by kernel_rfl) v xT w
theorem ns363 (v:Value)(xT:TypeId)(w:World):(Instr.typeAssert (.iface 363 v) xT 189 true).run Tryz.prog w= .ok (.tuple #[.nilIface, .bool false]) w:=run_typeAssert_lacksB Tryz.underlying189 (by kernel_rfl) (by kernel_rfl) v xT w
theorem sim_law {wt fn:Nat} {any:Bool} {Sk:World→Nat→Option Nat→BS→Prop} (L:SnkLaw wt fn any Sk)(B h:Nat):CanLaw 358 288 287 any Sk B h simpleS (fun w c acc=>SimAt Sk wt B w c h acc) where
 mw:=m358_Write
 nw:=n358_Write
 ew:=fun args w=>by kernel_rfl
 mc:=m358_Close
 nc:=n358_Close
 ec:=fun args w=>by kernel_rfl
 ns:=ns358
 lt:=by
  rintro w c acc ⟨o,cv,h1,h2,h3,h4,h5,h6,_⟩
  exact⟨h1,h6.lt⟩
 frm:=by
  rintro S w w' c acc ⟨o,cv,h1,h2,h3,h4,h5,h6,h7,h8,h9,h10⟩ hF hS
  obtain⟨hl,ho⟩:=L.lt _ _ _ _ h10
  exact⟨o,cv,h1,h2,h3,h4,h5,h6.frm hF (fun e=>by have:=hS _ h6.lt e;omega),h7.frm hF (fun k hk e=>by have h:=h7.lt k hk;have:=hS _ h.2 e;omega),h8,h9,L.frm _ _ _ _ _ _ h10 hF (fun e=>by have:=hS _ hl e;omega) (fun k hk e=>by have:=hS _ (ho k hk).1 e;have:=h3 k hk;omega)⟩
 write:=fun w c acc v l hA hv _ hb _=>simWrite_any L B c h acc l v w hA hv hb
 close:=fun w c acc hA hb=>simClose_any L B c h acc w hA hb
theorem rel_law {wt fn:Nat} {any:Bool} {Sk:World→Nat→Option Nat→BS→Prop} (L:SnkLaw wt fn any Sk)(B h:Nat)(form:BS)(hf:form≠simpleS):CanLaw 363 291 290 any Sk B h form (fun w c acc=>RelAt Sk wt B w c h acc) where
 mw:=m363_Write
 nw:=n363_Write
 ew:=fun args w=>by kernel_rfl
 mc:=m363_Close
 nc:=n363_Close
 ec:=fun args w=>by kernel_rfl
 ns:=ns363
 lt:=by
  rintro w c acc ⟨o,cv,h1,h2,h3,h4,h5,h6,_⟩
  exact⟨h1,h6.lt⟩
 frm:=by
  rintro S w w' c acc ⟨o,cv,h1,h2,h3,h4,h5,h6,h7,h8,h9,h10⟩ hF hS
  obtain⟨hl,ho⟩:=L.lt _ _ _ _ h10
  exact⟨o,cv,h1,h2,h3,h4,h5,h6.frm hF (fun e=>by have:=hS _ h6.lt e;omega),h7.frm hF (fun k hk e=>by have h:=h7.lt k hk;have:=hS _ h.2 e;omega),h8,h9,L.frm _ _ _ _ _ _ h10 hF (fun e=>by have:=hS _ hl e;omega) (fun k hk e=>by have:=hS _ (ho k hk).1 e;have:=h3 k hk;omega)⟩
 write:=fun w c acc v l hA hv hc hb ha=>relWrite_any L B c h acc l v w hA hv hc hb ha
 close:=fun w c acc hA hb=>relClose_any L B c h form acc w hA hb hf
def WBufPost (B:Nat)(At:World→Nat→BS→Prop)(w:World)(g bb h:Nat)(rd:Value)(s:BS)(i r n0:Nat)(cs:BS)(c:Nat)(acc:BS)(e:Ending)(w':World):Prop:=
 e= .returned (.tuple #[.int .i64 ((n0-r:Nat):Int), .nilIface])∧At w' c (acc++(cs.take n0).drop r)∧Bio w' g bb h rd s i n0 n0 cs∧Frm (fun k=>k=g∨B≤k) w w'
theorem writeBuf_any {ct wfn cfn:Nat} {any:Bool} {Sk:World→Nat→Option Nat→BS→Prop} {B hh:Nat} {form:BS} {At:World→Nat→BS→Prop} (L:CanLaw ct wfn cfn any Sk B hh form At)(g bb h:Nat)(rd:Value)(s:BS)(i r n0:Nat)(cs:BS)(c:Nat)(acc:BS)(w:World)(hb:Bio w g bb h rd s i r n0 cs)(hA:At w c acc)
 (hgB:g<B)(hbB:bb<B)(hhB:h<B)(hr:r<n0)(hn:acc.length≤137438953472)(ha:any=true∨acc= []):
 Calls Tryz.prog 254 #[.pointer (some ⟨g,0,none⟩), .iface ct (.pointer (some ⟨c,0,none⟩))] w (WBufPost B At w g bb h rd s i r n0 cs c acc):=by
 obtain⟨lb,lr,hg⟩:=hb.cells
 have hrow:=hb.row
 have hlen:=hb.len
 have hn0:=hb.n0
 have c0:w.cell? ⟨g,0,none⟩=some (.slice (some ⟨bb,0,none⟩) 4096 4096):=hg.cell 0 _ rfl
 have c2:w.cell? ⟨g,2,none⟩=some (.int .i64 r):=hg.cell 2 _ rfl
 have c3:w.cell? ⟨g,3,none⟩=some (.int .i64 n0):=hg.cell 3 _ rfl
 obtain⟨hcB,hcl⟩:=L.lt _ _ _ hA
 have hA1:=L.frm (fun _=>False) _ w.drew _ _ hA (Frm.refl _ _).drew (fun _ _ e=>e.elim)
 have hl:((cs.take n0).drop r).length=n0-r:=by rw [List.length_drop,List.length_take];omega
 have hrd:Rd w (.slice (some ⟨bb,0,none⟩) 4096 4096) (byts cs):=⟨_,4096,by rw [byL,hlen],by rw [byL,hlen];exact Nat.le_refl _, .inr ⟨bb,0,rfl,hrow.lt,fun j u hj=>by rw [Nat.zero_add];exact hrow.cell j u hj⟩⟩
 have hpr:=hrd.sliced r n0 (Nat.le_of_lt hr) hn0
 rw [sliced0,if_neg (show¬4096=r by omega),Option.map_some,add_at,Nat.zero_add,show((byts cs).drop r).take (n0-r)=byts ((cs.take n0).drop r) by rw [←List.drop_take];simp [byts,List.map_take,List.map_drop]]at hpr
 have hw:=L.write w.drew c acc _ ((cs.take n0).drop r) hA1 (show Rd w.drew _ _ from hpr) (fun e=>by have e:bb=c:=Option.some.inj e;omega) (by rw [hl];omega) ha
 rw [hl]at hw
 have b1:(0:Int)≤(r:Int):=by omega
 have b2:(r:Int)≤(n0:Int):=by omega
 have b3:(n0:Int)≤4096:=by omega
 have b4:r≤n0:=by omega
 have b5: ¬4096=r:=by omega
 have hm:=L.mw ⟨c,0,none⟩
 have hnn:=L.nw ⟨c,0,none⟩
 have hee:=L.ew
 have b6: ¬(((n0-r:Nat):Int)<0):=by omega
 have b7:(r:Int)+((n0-r:Nat):Int)=(n0:Int):=by omega
 have H7:=Lib.hid b7
 clear b7
 go_enter Tryz.func254,Tryz.ntmps254
 go_wp2_with fail
 go_region_held3 (fun ww=>ww.cell? ⟨g,0,none⟩=some (.slice (some ⟨bb,0,none⟩) 4096 4096)∧ww.cell? ⟨g,2,none⟩=some (.int .i64 r)∧ww.cell? ⟨g,3,none⟩=some (.int .i64 n0))
  (first|go_keep|(exact⟨(hb2.cell (p:=⟨g,0,none⟩) hgB).trans c0,(hb2.cell (p:=⟨g,2,none⟩) hgB).trans c2,(hb2.cell (p:=⟨g,3,none⟩) hgB).trans c3⟩))
  (first|(go_at_fn wfn;refine hw.mono ?_;rintro e w2 ⟨rfl,hA2,hb2⟩))
 all_goals(
  have hg2:Blk w2 g 263 (bioCells bb rd r n0 lb lr):=Blk.below (w:=w.drew) hg hb2 hgB
  have d2:w2.cell? ⟨g,2,none⟩=some (.int .i64 r):=hg2.cell 2 _ rfl
  have g2:=hg2.frozen 2
  obtain⟨M,hM⟩: ∃M:Nat,Hid (M=n0-r):=⟨_,Lib.hid rfl⟩
  rw [←hM.out]
  have m0:(0:Int)≤(M:Int):=by omega
  have m1:(M:Int)≤4096:=by have:=hM.out;omega
  clear b6
  go_wp2
  go_ret2
  have hg3:=hg2.set 2 (.int .i64 ((r:Int)+(M:Int)))
  rw [show(r:Int)+(M:Int)=(n0:Int) by rw [hM.out];exact H7.out]at hg3⊢
  have hB3:Below B w w2:=⟨hb2.os,hb2.tape,hb2.output,hb2.size,hb2.block⟩
  have hF3:=(Frm.of_below hB3).mono (T:=fun k=>k=g∨B≤k) (fun k _ e=> .inr e)
  have hFg:=(Frm.refl (fun k=>k=g) w2).setCell ⟨g,2,none⟩ (.int .i64 (n0:Int)) (fun _=>rfl)
  refine⟨by rw [hM.out];rfl,L.frm _ _ _ _ _ hA2 hFg (fun k _ e=>by rw [e];exact hgB),⟨⟨lb,lr,hg3⟩,(hrow.below hB3 hbB).far hb.gb.symm _,hlen,Nat.le_refl _,hn0,(hb.src.below hB3 hhB).frm (S:=fun k=>k=g) hFg (fun k e=> .inl e) hb.hg hb.hb,hb.ilen,hb.slen,hb.gb,hb.hg,hb.hb⟩,hF3.setCell _ _ (fun _=> .inl rfl)⟩)
def formOk (f:BS):Prop:=f=simpleS∨f=relaxedS
def canT (f:BS):Nat:=if f=simpleS then 172 else 175
theorem cns_any (f:BS)(w:World)(hf:formOk f):
 Calls Tryz.prog 61 #[Str f] w fun e w'=>e= .returned (.tuple #[.iface (canT f) (.pointer (some ⟨w.heap.size,0,none⟩)), .bool true])∧Below w.heap.size w w':=by
 rcases hf with rfl|rfl
 ·go_enter Tryz.func61,Tryz.ntmps61
  go_wp2
  go_ret2
  exact⟨rfl,(Below.refl _ w).alloc (Nat.le_refl _) _⟩
 ·have h1:(relaxedS== [115,105,109,112,108,101])=false:=by decide
  go_enter Tryz.func61,Tryz.ntmps61
  go_wp2
  go_ret2
  exact⟨rfl,(Below.refl _ w).alloc (Nat.le_refl _) _⟩
theorem bufString_any (g o:Nat)(T:TypeId)(cells:List Value)(bv:Value)(acc:BS)(w:World)(hg:Blk w g T cells)(h0:cells[o]?=some bv)(h1:cells[o+1]?=some (.int .i64 0))(hb:BufV w bv acc):
 Calls Tryz.prog 62 #[.pointer (some ⟨g,o,none⟩)] w fun e w'=>e= .returned (Str acc)∧∃k,w'=w.drewN k:=by
 have c0:=hg.cell o _ h0
 have c1:=hg.cell (o+1) _ h1
 rcases hb with⟨rfl,rfl⟩|⟨r,cs,hp,rfl,hr,hl,ht,hm⟩
 ·have hc:=fun w=>cvB (w:=w) (v:= .slice none 0 0) (l:= []) ⟨none,0,rfl,Nat.le_refl _, .inl rfl⟩
  go_enter Tryz.func62,Tryz.ntmps62
  go_wp2_with fail
  go_quiet (fail)
  go_wp2
  go_ret
  exact⟨rfl,_,rfl⟩
 ·have hrd:Rd w (.slice (some ⟨r,0,none⟩) acc.length cs.length) (byts acc):=⟨_,_,by rw [byL],by rw [byL];exact hl, .inr ⟨r,0,rfl,hr.lt,fun j u hj=>by rw [Nat.zero_add];refine hr.cell j u ?_;rw [←ht,List.getElem?_take]at hj;split at hj;exact hj;simp at hj⟩⟩
  have hc:=fun k=>cvB (w:=w.drewN k) (show Rd (w.drewN k) _ _ from hrd)
  have hcd:=cvB (w:=w.drew) (show Rd w.drew _ _ from hrd)
  have hnz: ¬cs.length=0:=by omega
  have n0:(0:Int)≤(acc.length:Int):=by omega
  have q1:(acc.length:Int)≤(cs.length:Int):=by omega
  go_enter Tryz.func62,Tryz.ntmps62
  go_wp2_with fail
  go_quiet (fail)
  go_wp2
  go_ret
  exact⟨rfl,_,rfl⟩
theorem e255 (args:Array Value)(w:World):(callFunc 255 args).run Tryz.prog w= .ok (.enter 255 args) w:=by kernel_rfl
theorem e257 (args:Array Value)(w:World):(callFunc 257 args).run Tryz.prog w= .ok (.enter 257 args) w:=by kernel_rfl
theorem can_new {wt fn:Nat} {any:Bool} {Sk:World→Nat→Option Nat→BS→Prop} (L:SnkLaw wt fn any Sk)(B h:Nat)(f:BS)(hf:formOk f)(hBh:B≤h):
 ∃nfn ct wfn cfn At,(∀a w,(method 486 (canT f) (.pointer (some a)) "CanonicalizeBody").run Tryz.prog w= .ok (nfn, .pointer (some a)) w)∧(∀a w,(nilAhead 486 (canT f) (.pointer (some a)) "CanonicalizeBody").run Tryz.prog w= .ok (some false) w)∧(∀(args:Array Value) w,(callFunc nfn args).run Tryz.prog w= .ok (.enter nfn args) w)∧
  CanLaw ct wfn cfn any Sk B h f At∧∀a w o,(∀k,o=some k→B≤k)→Sk w h o []→Calls Tryz.prog nfn #[.pointer (some a), .iface wt (.pointer (some ⟨h,0,none⟩))] w fun e w'=>e= .returned (.iface ct (.pointer (some ⟨w.heap.size,0,none⟩)))∧At w' w.heap.size []∧Below w.heap.size w w':=by
 rcases hf with rfl|rfl
 ·exact⟨255,358,288,287,_,m172_CanonicalizeBody,n172_CanonicalizeBody,e255,sim_law L B h,fun a w o hBo hs=>simNew_any L B h o a w hBh hBo hs⟩
 ·exact⟨257,363,291,290,_,m175_CanonicalizeBody,n175_CanonicalizeBody,e257,rel_law L B h relaxedS (by decide),fun a w o hBo hs=>relNew_any L B h o a w hBh hBo hs⟩
theorem canonicalBody_any (f x:BS)(pv:Value)(w:World)(hf:formOk f)(hp:Rd w pv (strs [x]))(hx:x.length≤4294967296):
 Calls Tryz.prog 43 #[Str f,pv] w fun e w'=>e= .returned (.tuple #[Str (bodyOf f x), .bool true])∧Below w.heap.size w w':=by
 obtain⟨A,pc,rfl,hlc,hcx⟩:=hp
 obtain⟨g,off,rfl,hg,hcell⟩: ∃g off,A=some ⟨g,off,none⟩∧g<w.heap.size∧w.cell? ⟨g,off,none⟩=some (Str x):=by
  rcases hcx with h|⟨g,off,h1,h2,h3⟩
  ·simp [strs]at h
  ·exact⟨g,off,h1,h2,h3 0 _ rfl⟩
 rw [show(strs [x]).length=1 from rfl]at*
 go_enter Tryz.func43,Tryz.ntmps43
 go_wp2_with fail
 refine(cns_any f w hf).mono ?_
 rintro e w1 ⟨rfl,hb1⟩
 obtain⟨o1,ho1⟩: ∃o1,Hid (o1=Obj.cells #[.slice none 0 0, .int .i64 0, .int .i8 0] 112):=⟨_,Lib.hid rfl⟩
 have hs1:w.heap.size≤w1.heap.size:=hb1.size
 have hbB:Blk (w1.alloc o1) w1.heap.size 112 [.slice none 0 0, .int .i64 0, .int .i8 0]:=by rw [ho1.out];exact Blk.new _ _ _
 have hsk:BufSk (w1.alloc o1) w1.heap.size none []:=⟨.slice none 0 0,0,hbB, .inl ⟨rfl,rfl⟩,rfl,by simp [Value.ownBlock]⟩
 obtain⟨nfn,ct,wfn,cfn,At,hm,hn,he,L,hnew⟩:=can_new buf_law w1.heap.size w1.heap.size f hf (Nat.le_refl _)
 have hb2:Below w.heap.size w (w1.alloc o1):=hb1.alloc hs1 o1
 have hs2:(w1.alloc o1).heap.size=w1.heap.size+1:=by simp
 have hnw:=hnew ⟨w.heap.size,0,none⟩ (w1.alloc o1) none (fun k e=>by simp at e) hsk
 clear hnew
 generalize canT f=cT at*
 have hm:=hm ⟨w.heap.size,0,none⟩
 have hn:=hn ⟨w.heap.size,0,none⟩
 go_wp2_with fail
 rw [←ho1.out]
 generalize w1.alloc o1=w2 at*
 refine hnw.mono ?_
 rintro e w3 ⟨rfl,hA3,hb3⟩
 obtain⟨c,hc⟩: ∃c,Hid (c=w2.heap.size):=⟨_,Lib.hid rfl⟩
 rw [←hc.out]at hA3⊢
 have hb3':Below w.heap.size w w3:=hb2.trans (hb3.mono (by omega))
 have hcell3:w3.cell? ⟨g,off,none⟩=some (Str x):=(hb3'.cell (p:=⟨g,off,none⟩) hg).trans hcell
 have hs3:w2.heap.size≤w3.heap.size:=hb3.size
 obtain⟨q,w4,hcv,ho4,hb4⟩:=conv_text w3 x (by omega)
 obtain⟨hcB,hcl⟩:=L.lt _ _ _ hA3
 have hA4:=L.frm (fun _=>False) _ _ _ _ hA3 (Frm.of_new hb4) (fun _ _ e=>e.elim)
 have hw:=L.write w4 c [] _ x hA4 ho4.rd (fun e=>by have e:w3.heap.size=c:=Option.some.inj e;omega) (by simp;omega) (.inr rfl)
 have hmw:=L.mw ⟨c,0,none⟩
 have hnw2:=L.nw ⟨c,0,none⟩
 have hew:=L.ew
 have hmc:=L.mc ⟨c,0,none⟩
 have hnc:=L.nc ⟨c,0,none⟩
 have hec:=L.ec
 have hs4:w3.heap.size≤w4.heap.size:=hb4.size
 obtain⟨B,hB⟩: ∃B,Hid (B=w1.heap.size):=⟨_,Lib.hid rfl⟩
 have hs1':w.heap.size≤B:=by rw [hB.out];exact hs1
 have L:=hB.out ▸ L
 rw [←hB.out]
 clear hm hn he hnw hsk hbB
 go_wp2_with fail
 go_loopw [26] (fun v wx=>(v= .int .i64 0∧wx=w3)∨(v= .int .i64 1∧At wx c x∧Below w.heap.size w wx)) (fun v _=>1-(intOf v).toNat)
 case atStart=>exact .inl ⟨rfl,rfl⟩
 case round=>
  rcases hrel with⟨rfl,rfl⟩|⟨rfl,hA5,hb5⟩
  ·go_wp2_with fail
   refine hw.mono ?_
   rintro e w5 ⟨rfl,hA5,hb5⟩
   go_wp2_with fail
   go_roundw
   case rel=>exact .inr ⟨rfl,hA5,(hb3'.trans (hb4.mono (by omega))).trans (hb5.mono hs1)⟩
   case measure=>simp [intOf]
  ·have hcl5:=L.close _ c x hA5 (by omega)
   go_wp2_with fail
   refine hcl5.mono ?_
   rintro e w6 ⟨rfl,⟨o6,⟨bv,lr,hg6,hv6,_,_⟩,_⟩,hb6⟩
   go_wp2_with fail
   refine(bufString_any B 0 112 _ bv (bodyOf f x) w6 hg6 rfl rfl hv6).mono ?_
   rintro e w7 ⟨rfl,k,rfl⟩
   go_wp2
   go_ret2
   have:=hb5.trans (hb6.mono hs1')
   exact⟨rfl,⟨this.os,this.tape,this.output,this.size,this.block⟩⟩
theorem dCanonBody_any (f x:BS)(pv:Value)(w:World)(hf:formOk f)(hp:Rd w pv (strs [x]))(hx:x.length≤4294967296):
 Calls Tryz.prog 21 #[Str f,pv] w fun e w'=>e= .returned (Str (bodyOf f x))∧Below w.heap.size w w':=by
 go_enter Tryz.func21,Tryz.ntmps21
 go_wp2_with fail
 refine(canonicalBody_any f x pv w hf hp hx).mono ?_
 rintro e w1 ⟨rfl,hb1⟩
 go_wp2
 go_ret
 exact⟨rfl,hb1⟩
theorem ws_any (x:Nat)(W:World):Calls Tryz.prog 260 #[.int .i32 (x:Int)] W fun e w'=>e= .returned (.bool (wsR x))∧∃q,w'=W.drewN q:=by
 have hB: ∀k:Nat,((x:Int)==(k:Int))=(x==k):=fun k=>by
  by_cases e:x=k
  ·simp [e]
  ·have: ¬(x:Int)=(k:Int):=by omega
   rw [beq_eq_false_iff_ne.2 e,beq_eq_false_iff_ne.2 this]
 have h32:((x:Int)==32)=(x==32):=hB 32
 have h9:((x:Int)==9)=(x==9):=hB 9
 have h10:((x:Int)==10)=(x==10):=hB 10
 have h13:((x:Int)==13)=(x==13):=hB 13
 have hw:wsR x=(x==32||x==9||x==10||x==13):=rfl
 rw [hw]
 clear hB hw
 cases b1:(x==32)with
 |true=>
  rw [b1]at h32
  go_enter Tryz.func260,Tryz.ntmps260
  go_wp2
  go_ret
  exact⟨rfl,0,rfl⟩
 |false=>
  rw [b1]at h32
  cases b2:(x==9)with
  |true=>
   rw [b2]at h9
   go_enter Tryz.func260,Tryz.ntmps260
   go_wp2
   go_ret
   exact⟨rfl,0,rfl⟩
  |false=>
   rw [b2]at h9
   cases b3:(x==10)with
   |true=>
    rw [b3]at h10
    go_enter Tryz.func260,Tryz.ntmps260
    go_wp2
    go_ret
    exact⟨rfl,0,rfl⟩
   |false=>
    rw [b3]at h10
    cases b4:(x==13)with
    |true=>
     rw [b4]at h13
     go_enter Tryz.func260,Tryz.ntmps260
     go_wp2
     go_ret
     exact⟨rfl,0,rfl⟩
    |false=>
     rw [b4]at h13
     go_enter Tryz.func260,Tryz.ntmps260
     go_wp2
     go_ret
     exact⟨rfl,0,rfl⟩
theorem wsPred (w:World):PredAtRunes Tryz.prog 260 #[] wsR w:=fun W x _ _=>ws_any x W
theorem e260 (args:Array Value)(w:World):(callFunc 260 args).run Tryz.prog w= .ok (.enter 260 args) w:=by kernel_rfl
theorem own_of_row {w:World} {B n:Nat} {e:TypeId} {v:Value} {xs:List Value} (h:w.ownsRow B e 1 v n xs):OwnAt w B e v xs:=by
 obtain⟨hl,h⟩:=h
 rw [Nat.mul_one]at hl
 rcases h with⟨rfl,h0⟩|⟨g,cap,cur,rfl,hb,hg,h1,h2,h3,h4⟩
 ·exact .inl ⟨rfl,List.eq_nil_of_length_eq_zero (by omega)⟩
 ·rw [Nat.mul_one]at h3 h4
  refine .inr ⟨g,0,cap,cur,(0,0),by rw [hl],hb,hg,fun j _=>by omega,by omega,h2,by omega,fun j u hj=> ?_⟩
  rw [←h4,List.getElem?_take]at hj
  split at hj
  ·simpa using hj
  ·simp at hj
theorem words_any (v:BS)(w:World)(hv:plain v=true)(hl:v.length≤2147483648):
 Calls Tryz.prog 259 #[Str v, .func (.func 260) #[] #[]] w fun e w1=> ∃A n,e= .returned (.slice (some ⟨A,0,none⟩) n n)∧Below w.heap.size w w1∧Calls Tryz.prog 149 #[.slice (some ⟨A,0,none⟩) n n,Str [32]] w1 fun e w2=>e= .returned (Str (joined v))∧Below w.heap.size w w2:=by
 have hlt: ∀c∈v,c.toNat<128:=fun c hc=>plain_lt (List.all_eq_true.1 hv c hc)
 have hj:=fields_joined v hlt
 have hjl:=joined_len v
 refine(Tryz.strings_FieldsFunc_runes 260 #[] e260 wsR ⟨v.toArray⟩ w (by show v.length≤_;omega) (wsPred w)).mono ?_
 rintro e w1 ⟨A,rfl,hA,ho,hb⟩
 refine⟨A,_,rfl,hb,?_⟩
 have hs:=hb.size
 generalize Lib.goFieldsP wsR ⟨v.toArray⟩=xs at*
 have ho2:OwnAt w1 w.heap.size 9 (.slice (some ⟨A,0,none⟩) xs.length xs.length) (xs.map Value.string):=own_of_row ho
 cases xs with
 |nil=>
  have hj0:joined v= []:=hj.symm
  refine(Tryz.strings_Join_none (some ⟨A,0,none⟩) 0 ⟨#[32]⟩ w1).mono ?_
  rintro e w2 ⟨rfl,rfl⟩
  exact⟨by rw [hj0],hb⟩
 |cons x r=>
  have hA2:A<w1.heap.size:=ho2.len_at.2.2.2.1
  have hxl:(x::r).length≤140737488355328:=by
   have h1:=congrArg List.length hj
   rw [List.map_cons,Lib.join_cons,List.length_append,Lib.joinTail_length,List.length_map]at h1
   simp only [List.length_cons,List.length_nil]at h1⊢
   omega
  refine(Tryz.strings_Join A 0 (x::r).length (x::r) ⟨#[32]⟩ w1 (fun j y hy=>by rw [Nat.zero_add];have:=(ho2.cell_at j (.string y) (by rw [List.getElem?_map,hy];rfl)).1;rw [Nat.zero_add]at this;exact this) hA2 hxl (Nat.le_refl _) (by rw [show(⟨#[32]⟩:ByteArray).data.toList= [32]from rfl,hj];omega)).mono ?_
  rintro e w2 ⟨rfl,hb2⟩
  exact⟨by rw [show(⟨#[32]⟩:ByteArray).data.toList= [32]from rfl,hj],hb.trans (hb2.mono hs)⟩
theorem relHeader_any (a:Addr)(s:BS)(w:World)(hp:plain s=true)(hs:s.length≤1073741824):
 Calls Tryz.prog 258 #[.pointer (some a),Str s] w fun e w'=>e= .returned (Str (fieldOf relaxedS s))∧Below w.heap.size w w':=by
 have hfo:Hid (fieldOf relaxedS s=if(cutAt 58 s).2.2 then trim (lower (cutAt 58 s).1)++ [58]++joined (cutAt 58 s).2.1++crlf else trim (lower s)++ [58,13,10]):=by
  show _=_;unfold fieldOf;rw [if_neg (by decide)]
 have hcl:=cutAt_len 58 s
 have hpk:plain (cutAt 58 s).1=true:=plain_of_sub hp (fun c hc=>cutAt_mem.1 hc)
 have hpv:plain (cutAt 58 s).2.1=true:=plain_of_sub hp (fun c hc=>cutAt_mem.2 hc)
 go_enter Tryz.func258,Tryz.ntmps258
 go_wp2_with fail
 refine(zzCut_any s 58 w (by omega)).mono ?_
 rintro e w1 ⟨rfl,hb1⟩
 have hs1:=hb1.size
 generalize(cutAt 58 s).1=k at*
 generalize(cutAt 58 s).2.1=v at*
 cases hf:(cutAt 58 s).2.2 with
 |true=>
  rw [hf]at hfo
  go_wp2_with fail
  refine(zzToLower_any k w1 (by omega) hpk).mono ?_
  rintro e w2 ⟨rfl,hb2⟩
  have hs2:=hb2.size
  go_wp2_with fail
  refine(zzTrimSpace_any (lower k) w2 (by rw [lwL];omega) (plain_lower hpk)).mono ?_
  rintro e w3 ⟨rfl,hb3⟩
  have hs3:=hb3.size
  go_wp2_with fail
  refine(words_any v w3 hpv (by omega)).mono ?_
  rintro e w4 ⟨A,n,rfl,hb4,hj⟩
  go_wp2_with fail
  refine hj.mono ?_
  rintro e w5 ⟨rfl,hb5⟩
  have hjl:=joined_len v
  have htl:=trim_len (lower k)
  rw [lwL]at htl
  have g1: ¬9223372036854775807<(trim (lower k)).length+1:=by omega
  have g2: ¬9223372036854775807<(trim (lower k)).length+1+(joined v).length:=by omega
  have g3: ¬9223372036854775807<(trim (lower k)).length+((joined v).length+1)+2:=by omega
  go_wp2
  go_ret
  refine⟨?_,((hb1.trans (hb2.mono hs1)).trans (hb3.mono (by omega))).trans (hb5.mono (by omega))⟩
  rw [hfo.out];simp [crlf]
 |false=>
  rw [hf]at hfo
  go_wp2_with fail
  refine(zzToLower_any s w1 (by omega) hp).mono ?_
  rintro e w2 ⟨rfl,hb2⟩
  have hs2:=hb2.size
  go_wp2_with fail
  refine(zzTrimSpace_any (lower s) w2 (by rw [lwL];omega) (plain_lower hp)).mono ?_
  rintro e w3 ⟨rfl,hb3⟩
  have htl:=trim_len (lower s)
  rw [lwL]at htl
  have g1: ¬9223372036854775807<(trim (lower s)).length+1:=by omega
  have g2: ¬9223372036854775807<(trim (lower s)).length+1+2:=by omega
  go_wp2
  go_ret
  refine⟨?_,(hb1.trans (hb2.mono hs1)).trans (hb3.mono (by omega))⟩
  rw [hfo.out];simp
theorem simHeader_any (a:Addr)(s:BS)(w:World):Calls Tryz.prog 256 #[.pointer (some a),Str s] w fun e w'=>e= .returned (Str (fieldOf simpleS s))∧w'=w:=by
 go_enter Tryz.func256,Tryz.ntmps256
 go_wp2
 go_ret
 exact⟨rfl,rfl⟩
theorem e256 (args:Array Value)(w:World):(callFunc 256 args).run Tryz.prog w= .ok (.enter 256 args) w:=by kernel_rfl
theorem e258 (args:Array Value)(w:World):(callFunc 258 args).run Tryz.prog w= .ok (.enter 258 args) w:=by kernel_rfl
theorem hdr_law (f:BS)(hf:formOk f): ∃hfn,(∀a w,(method 486 (canT f) (.pointer (some a)) "CanonicalizeHeader").run Tryz.prog w= .ok (hfn, .pointer (some a)) w)∧(∀a w,(nilAhead 486 (canT f) (.pointer (some a)) "CanonicalizeHeader").run Tryz.prog w= .ok (some false) w)∧(∀(args:Array Value) w,(callFunc hfn args).run Tryz.prog w= .ok (.enter hfn args) w)∧
 ∀(a:Addr) (s:BS) (w:World),plain s=true→s.length≤1073741824→Calls Tryz.prog hfn #[.pointer (some a),Str s] w fun e w'=>e= .returned (Str (fieldOf f s))∧Below w.heap.size w w':=by
 rcases hf with rfl|rfl
 ·exact⟨256,m172_CanonicalizeHeader,n172_CanonicalizeHeader,e256,fun a s w _ _=>(simHeader_any a s w).mono (by rintro e w' ⟨rfl,rfl⟩;exact⟨rfl,Below.refl _ _⟩)⟩
 ·exact⟨258,m175_CanonicalizeHeader,n175_CanonicalizeHeader,e258,fun a s w hp hs=>relHeader_any a s w hp hs⟩
theorem canonicalHeader_any (f s:BS)(w:World)(hf:formOk f)(hp:plain s=true)(hs:s.length≤1073741824):
 Calls Tryz.prog 44 #[Str f,Str s] w fun e w'=>e= .returned (.tuple #[Str (fieldOf f s), .bool true])∧Below w.heap.size w w':=by
 go_enter Tryz.func44,Tryz.ntmps44
 go_wp2_with fail
 refine(cns_any f w hf).mono ?_
 rintro e w1 ⟨rfl,hb1⟩
 obtain⟨hfn,hm,hn,he,hc⟩:=hdr_law f hf
 have hm:=hm ⟨w.heap.size,0,none⟩
 have hn:=hn ⟨w.heap.size,0,none⟩
 have hc:=hc ⟨w.heap.size,0,none⟩ s w1 hp hs
 generalize canT f=cT at*
 go_wp2_with fail
 refine hc.mono ?_
 rintro e w2 ⟨rfl,hb2⟩
 go_wp2
 go_ret2
 exact⟨rfl,hb1.trans (hb2.mono hb1.size)⟩
theorem dCanonField_any (f s:BS)(w:World)(hf:formOk f)(hp:plain s=true)(hs:s.length≤1073741824):
 Calls Tryz.prog 26 #[Str f,Str s] w fun e w'=>e= .returned (Str (fieldOf f s))∧Below w.heap.size w w':=by
 go_enter Tryz.func26,Tryz.ntmps26
 go_wp2_with fail
 refine(canonicalHeader_any f s w hf hp hs).mono ?_
 rintro e w1 ⟨rfl,hb1⟩
 go_wp2
 go_ret
 exact⟨rfl,hb1⟩
theorem flat_snoc (xs:List BS)(k:Nat)(h:k<xs.length):(xs.take (k+1)).flatten=(xs.take k).flatten++xs[k]:=by
 rw [List.take_succ_eq_append_getElem h,List.flatten_append];simp
theorem flat_take (xs:List BS)(k:Nat):(xs.take k).flatten.length≤xs.flatten.length:=by
 conv=>rhs;rw [←List.take_append_drop k xs,List.flatten_append,List.length_append]
 omega
theorem flat_mem (xs:List BS)(k:Nat)(h:k<xs.length):(xs.take k).flatten.length+xs[k].length≤xs.flatten.length:=by
 have:=flat_take xs (k+1)
 rw [flat_snoc xs k h,List.length_append]at this
 exact this
theorem dJoin_any (v:Value)(xs:List BS)(w:World)(hv:Rd w v (strs xs))(hl:xs.flatten.length≤1099511627776)(hn:xs.length≤1099511627776):
 Calls Tryz.prog 42 #[v] w fun e w'=>e= .returned (Str xs.flatten)∧w'=w:=by
 obtain⟨A,c,rfl,_,hx⟩:=hv
 rw [stL]
 go_enter Tryz.func42,Tryz.ntmps42
 go_wp2
 go_loopw [3,4] (fun v3 v4 wx=> ∃k:Nat,k≤xs.length∧v4= .int .i64 k∧v3=Str (xs.take k).flatten∧wx=w) (fun _ v4 _=>xs.length-(intOf v4).toNat)
 case atStart=>exact⟨0,Nat.zero_le _,rfl,by simp,rfl⟩
 case round=>
  obtain⟨k,hk,rfl,rfl,rfl⟩:=hrel
  by_cases hlt:k<xs.length
  ·rcases hx with hn0|⟨g,off,rfl,hg,hc⟩
   ·exfalso
    have:xs.length=0:=by rw [←stL,hn0];rfl
    omega
   ·have hck:=hc k (Str xs[k]) (by simp [strs,hlt])
    have h0:(0:Int)≤(k:Int):=by omega
    have h1:(k:Int)<(xs.length:Int):=by omega
    have hf:=flat_snoc xs k hlt
    have hm:=flat_mem xs k hlt
    obtain⟨x,Hx⟩: ∃z,Hid (z=xs[k]):=⟨_,Lib.hid rfl⟩
    obtain⟨acc,Ha⟩: ∃z,Hid (z=(xs.take k).flatten):=⟨_,Lib.hid rfl⟩
    rw [←Hx.out]at hck hf hm
    rw [←Ha.out]at hf hm⊢
    have Hf:=Lib.hid hf
    clear hf hc
    go_wp2
    go_roundw
    case rel=>exact⟨k+1,hlt,by go_num,by rw [Hf.out],trivial⟩
    case measure=>simp [intOf];omega
  ·obtain rfl:k=xs.length:=by omega
   rw [List.take_length]
   go_wp2
   go_ret
   exact⟨rfl,rfl⟩
theorem dHeadOf_any (v:Value)(xs:List BS)(w:World)(hv:Rd w v (strs xs))(hl:xs.flatten.length≤1099511627776)(hn:xs.length≤1099511627776):
 Calls Tryz.prog 20 #[v] w fun e w'=>e= .returned (Str (xs.flatten++crlf))∧w'=w:=by
 have h:=dJoin_any v xs w hv hl hn
 obtain⟨X,HX⟩: ∃z,Hid (z=xs.flatten):=⟨_,Lib.hid rfl⟩
 rw [←HX.out]at h hl⊢
 go_enter Tryz.func20,Tryz.ntmps20
 go_wp2_with fail
 refine h.mono ?_
 rintro e w1 ⟨rfl,rfl⟩
 go_wp2
 go_ret
 exact⟨rfl,rfl⟩
theorem dSame_any (va vb:Value)(xs ys:List BS)(w:World)(ha:Rd w va (strs xs))(hb:Rd w vb (strs ys))(hn:xs.length≤1099511627776):
 Calls Tryz.prog 23 #[va,vb] w fun e w'=>e= .returned (.bool (decide (xs=ys)))∧Below w.heap.size w w':=by
 obtain⟨A,c,rfl,_,hx⟩:=ha
 obtain⟨A',c',rfl,_,hy⟩:=hb
 rw [stL,stL]
 by_cases hl:xs.length=ys.length
 ·have h1:((xs.length:Int) !=(ys.length:Int))=false:=by simp;omega
  go_enter Tryz.func23,Tryz.ntmps23
  go_wp2_with fail
  go_loopw [5] (fun v5 wx=> ∃k:Nat,k≤xs.length∧v5= .int .i64 k∧Hid (xs.take k=ys.take k)∧Below w.heap.size w wx) (fun v5 _=>xs.length-(intOf v5).toNat)
  case atStart=>exact⟨0,Nat.zero_le _,rfl,rfl,Below.refl _ _⟩
  case round=>
   obtain⟨k,hk,rfl,H,hbx⟩:=hrel
   by_cases hlt:k<xs.length
   ·have hlt2:k<ys.length:=by omega
    have q0:(0:Int)≤(k:Int):=by omega
    have q1:(k:Int)<(xs.length:Int):=by omega
    have q2:(k:Int)<(ys.length:Int):=by omega
    rcases hx with hn0|⟨g,off,rfl,hg,hc⟩
    ·exfalso
     have:xs.length=0:=by rw [←stL,hn0];rfl
     omega
    rcases hy with hn0|⟨g',off',rfl,hg',hc'⟩
    ·exfalso
     have:ys.length=0:=by rw [←stL,hn0];rfl
     omega
    have hck:=bcell hbx (hc k (Str xs[k]) (by simp [strs,hlt]))
    have hck':=bcell hbx (hc' k (Str ys[k]) (by simp [strs,hlt2]))
    by_cases e:xs[k]=ys[k]
    ·have e1:(xs[k]==ys[k])=true:=by simp [e]
     have H2:Hid (xs.take (k+1)=ys.take (k+1)):=by
      show _=_
      rw [List.take_succ_eq_append_getElem hlt,List.take_succ_eq_append_getElem hlt2,H.out,e]
     clear e hc hc' hl
     go_wp2_with fail
     go_quiet (fail)
     have hbn:=bdN hbx nq
     go_wp2_with fail
     go_roundw
     case rel=>exact⟨k+1,hlt,by go_num,H2,hbn⟩
     case measure=>simp [intOf];omega
    ·have e1:(xs[k]==ys[k])=false:=by simp [e]
     have F:Hid (decide (xs=ys)=false):=by
      show _=_
      rw [decide_eq_false_iff_not]
      rintro rfl
      exact e rfl
     clear e hc hc' hl
     go_wp2_with fail
     go_quiet (fail)
     have hbn:=bdN hbx nq
     go_wp2_with fail
     go_ret
     exact⟨by rw [F.out];rfl,hbn⟩
   ·have F:Hid (decide (xs=ys)=true):=by
     show _=_
     have h:=H.out
     rw [List.take_of_length_le (by omega),List.take_of_length_le (by omega)]at h
     simp [h]
    clear hl
    go_wp2_with fail
    go_ret
    exact⟨by rw [F.out];rfl,hbx⟩
 ·have h1:((xs.length:Int) !=(ys.length:Int))=true:=by simp;omega
  have F:Hid (decide (xs=ys)=false):=by
   show _=_
   rw [decide_eq_false_iff_not]
   rintro rfl
   exact hl rfl
  clear hl
  go_enter Tryz.func23,Tryz.ntmps23
  go_wp2_with fail
  go_ret
  exact⟨by rw [F.out];rfl,Below.refl _ _⟩
theorem ioWriteString_can {ct wfn cfn:Nat} {any:Bool} {Sk:World→Nat→Option Nat→BS→Prop} {B hh:Nat} {form:BS} {At:World→Nat→BS→Prop} (L:CanLaw ct wfn cfn any Sk B hh form At)(c:Nat)(acc l:BS)(w:World)(hA:At w c acc)(hn:acc.length+l.length≤274877906944)(ha:any=true∨acc= []):
 Calls Tryz.prog 68 #[.iface ct (.pointer (some ⟨c,0,none⟩)),Str l] w fun e w'=>e= .returned (.tuple #[.int .i64 l.length, .nilIface])∧At w' c (acc++l)∧Below B w w':=by
 obtain⟨hcB,hcl⟩:=L.lt _ _ _ hA
 obtain⟨q,w1,hcv,ho,hb⟩:=conv_text w l (by omega)
 have hA1:=L.frm (fun _=>False) _ _ _ _ hA (Frm.of_new hb) (fun _ _ e=>e.elim)
 have hw:=L.write w1 c acc _ l hA1 ho.rd (fun e=>by have e:w.heap.size=c:=Option.some.inj e;omega) hn ha
 have hns:=fun v w=>L.ns v 121 w
 have hm:=L.mw ⟨c,0,none⟩
 have hnn:=L.nw ⟨c,0,none⟩
 have hee:=L.ew
 go_enter Tryz.func68,Tryz.ntmps68
 go_wp2_with fail
 refine hw.mono ?_
 rintro e w2 ⟨rfl,hA2,hb2⟩
 go_wp2
 go_ret2
 exact⟨rfl,hA2,(hb.mono (by omega)).trans hb2⟩
def WTPost (B:Nat)(At:World→Nat→BS→Prop)(w:World)(h c:Nat)(t acc:BS)(e:Ending)(w':World):Prop:=
 e= .returned (.tuple #[.int .i64 t.length, .nilIface])∧At w' c (acc++t)∧Frm (fun k=>k=h∨B≤k) w w'
theorem strWriteTo_can {ct wfn cfn:Nat} {any:Bool} {Sk:World→Nat→Option Nat→BS→Prop} {B hh:Nat} {form:BS} {At:World→Nat→BS→Prop} (L:CanLaw ct wfn cfn any Sk B hh form At)(h c:Nat)(s:BS)(i:Nat)(p:Int)(acc:BS)(w:World)(hh0:Blk w h 132 [Str s, .int .i64 i, .int .i64 p])(hA:At w c acc)(hhB:h<B)(hi:i≤s.length)(hn:acc.length+s.length≤274877906944)(ha:any=true∨acc= []):
 Calls Tryz.prog 235 #[.pointer (some ⟨h,0,none⟩), .iface ct (.pointer (some ⟨c,0,none⟩))] w (WTPost B At w h c (s.drop i) acc):=by
 obtain⟨hcB,hcl⟩:=L.lt _ _ _ hA
 have f2:=hh0.frozen 2
 have c2:=hh0.cell 2 _ rfl
 have hh1:=hh0.set 2 (.int .i64 (-1))
 have hF1:Frm (fun k=>k=h) w (w.setCell ⟨h,2,none⟩ (.int .i64 (-1))):=(Frm.refl _ w).setCell _ _ (fun _=>rfl)
 have hA1:=L.frm _ _ _ _ _ hA hF1 (fun k _ e=>by rw [e];exact hhB)
 have hi0:(0:Int)≤(i:Int):=by omega
 have hi1:(i:Int)≤(s.length:Int):=by omega
 go_enter Tryz.func235,Tryz.ntmps235
 go_wp2_with fail
 skip
 generalize w.setCell ⟨h,2,none⟩ (.int .i64 (-1))=w1 at*
 have c0:=hh1.cell 0 _ rfl
 have c1:=hh1.cell 1 _ rfl
 by_cases hz:i=s.length
 ·have b1:(s.length:Int)≤(i:Int):=by omega
  go_quiet (fail)
  go_wp2
  go_ret2
  have hd:s.drop i= []:=by rw [hz];exact List.drop_length
  refine⟨by rw [hd];rfl,?_,(hF1.drewN nq).mono (fun k _ e=> .inl e)⟩
  rw [hd,List.append_nil]
  exact L.frm (fun _=>False) _ _ _ _ hA1 ((Frm.refl _ _).drewN nq) (fun _ _ e=>e.elim)
 ·have b1: ¬((s.length:Int)≤(i:Int)):=by omega
  have b2:i≤s.length:=hi
  go_quiet (fail)
  have hh2:Blk (w1.drewN nq) h 132 _:=hh1
  have hA2:=L.frm (fun _=>False) _ _ _ _ hA1 ((Frm.refl _ _).drewN nq) (fun _ _ e=>e.elim)
  have hF2:=hF1.drewN nq
  generalize w1.drewN nq=w2 at*
  have d0:=hh2.cell 0 _ rfl
  have d1:=hh2.cell 1 _ rfl
  go_wp2_with fail
  go_quiet (fail)
  have hh3:Blk (w2.drewN nq) h 132 _:=hh2
  have hA3:=L.frm (fun _=>False) _ _ _ _ hA2 ((Frm.refl _ _).drewN nq) (fun _ _ e=>e.elim)
  have hF3:=hF2.drewN nq
  generalize w2.drewN nq=w3 at*
  obtain⟨t,ht⟩: ∃t,Hid (t=s.drop i):=⟨_,Lib.hid rfl⟩
  have htl:t.length=s.length-i:=by rw [ht.out,List.length_drop]
  rw [show(Value.string ⟨(s.drop i).toArray⟩:Value)=Str t by rw [ht.out]]
  have hw:=ioWriteString_can L c acc t w3 hA3 (by rw [htl];omega) ha
  go_wp2_with fail
  refine hw.mono ?_
  rintro e w4 ⟨rfl,hA4,hb4⟩
  have hB4:h<B:=hhB
  have hh4:=hh3.below hb4 hhB
  have e1:=hh4.cell 1 _ rfl
  have g1:=hh4.frozen 1
  have hF4:Frm (fun k=>k=h∨B≤k) w w4:=(hF3.mono (fun k _ e=> .inl e)).trans ((Frm.of_below hb4).mono (fun k _ e=> .inr e))
  obtain⟨M,hM⟩: ∃M:Nat,M=t.length:=⟨_,rfl⟩
  have m0:(0:Int)≤(M:Int):=by omega
  have m1:(M:Int)≤274877906944:=by subst hM;omega
  subst hM
  try clear htl
  go_wp2
  go_ret2
  refine⟨by rw [ht.out];rfl,?_,hF4.setCell _ _ (fun _=> .inl rfl)⟩
  rw [←ht.out]
  exact L.frm (fun k=>k=h) _ _ _ _ hA4 ((Frm.refl _ w4).setCell _ _ (fun _=>rfl)) (fun k _ e=>by rw [e];exact hhB)
theorem bytWriteTo_can {ct wfn cfn:Nat} {any:Bool} {Sk:World→Nat→Option Nat→BS→Prop} {B hh:Nat} {form:BS} {At:World→Nat→BS→Prop} (L:CanLaw ct wfn cfn any Sk B hh form At)(h c:Nat)(s:BS)(i:Nat)(p:Int)(A:Option Addr)(sc:Nat)(acc:BS)(w:World)(hh0:Blk w h 277 [.slice A s.length sc, .int .i64 i, .int .i64 p])(hr:Rd w (.slice A s.length sc) (byts s))(hrh: ∀k,(Value.slice A s.length sc).ownBlock=some k→k≠h∧k<B)(hA:At w c acc)(hhB:h<B)(hi:i≤s.length)(hn:acc.length+s.length≤274877906944)(ha:any=true∨acc= []):
 Calls Tryz.prog 268 #[.pointer (some ⟨h,0,none⟩), .iface ct (.pointer (some ⟨c,0,none⟩))] w (WTPost B At w h c (s.drop i) acc):=by
 obtain⟨hcB,hcl⟩:=L.lt _ _ _ hA
 have f2:=hh0.frozen 2
 have c2:=hh0.cell 2 _ rfl
 have hh1:=hh0.set 2 (.int .i64 (-1))
 have hF1:Frm (fun k=>k=h) w (w.setCell ⟨h,2,none⟩ (.int .i64 (-1))):=(Frm.refl _ w).setCell _ _ (fun _=>rfl)
 have hA1:=L.frm _ _ _ _ _ hA hF1 (fun k _ e=>by rw [e];exact hhB)
 have hi0:(0:Int)≤(i:Int):=by omega
 have hi1:(i:Int)≤(s.length:Int):=by omega
 go_enter Tryz.func268,Tryz.ntmps268
 go_wp2_with fail
 have hsc: ¬sc=i∨i=s.length:=by
  obtain⟨A',c',he,hlc,_⟩:=hr
  injection he with _ h2 h3
  rw [byL]at hlc;omega
 have hr1:=hr.frm hF1 (fun k hk e=>(hrh k hk).1 e)
 generalize w.setCell ⟨h,2,none⟩ (.int .i64 (-1))=w1 at*
 have c0:=hh1.cell 0 _ rfl
 have c1:=hh1.cell 1 _ rfl
 by_cases hz:i=s.length
 ·have b1:(s.length:Int)≤(i:Int):=by omega
  go_quiet (fail)
  go_wp2
  go_ret2
  have hd:s.drop i= []:=by rw [hz];exact List.drop_length
  refine⟨by rw [hd];rfl,?_,(hF1.drewN nq).mono (fun k _ e=> .inl e)⟩
  rw [hd,List.append_nil]
  exact L.frm (fun _=>False) _ _ _ _ hA1 ((Frm.refl _ _).drewN nq) (fun _ _ e=>e.elim)
 ·have b1: ¬((s.length:Int)≤(i:Int)):=by omega
  have b2:i≤s.length:=hi
  go_quiet (fail)
  have hh2:Blk (w1.drewN nq) h 277 _:=hh1
  have hA2:=L.frm (fun _=>False) _ _ _ _ hA1 ((Frm.refl _ _).drewN nq) (fun _ _ e=>e.elim)
  have hF2:=hF1.drewN nq
  have hsc:=hsc.resolve_right hz
  have hr2:Rd (w1.drewN nq) _ _:=hr1
  generalize w1.drewN nq=w2 at*
  have d0:=hh2.cell 0 _ rfl
  have d1:=hh2.cell 1 _ rfl
  go_wp2_with fail
  go_quiet (fail)
  have hh3:Blk (w2.drewN nq) h 277 _:=hh2
  have hA3:=L.frm (fun _=>False) _ _ _ _ hA2 ((Frm.refl _ _).drewN nq) (fun _ _ e=>e.elim)
  have hF3:=hF2.drewN nq
  have hr3:Rd (w2.drewN nq) _ _:=hr2
  have hpr:=hr3.sliced i s.length hi (Nat.le_refl _)
  rw [sliced0,if_neg hsc,show((byts s).drop i).take (s.length-i)=byts (s.drop i) by rw [List.take_of_length_le (by rw [List.length_drop,byL];exact Nat.le_refl _)];simp [byts,List.map_drop]]at hpr
  generalize w2.drewN nq=w3 at*
  obtain⟨t,ht⟩: ∃t,Hid (t=s.drop i):=⟨_,Lib.hid rfl⟩
  have htl:t.length=s.length-i:=by rw [ht.out,List.length_drop]
  rw [←htl]at hpr⊢
  rw [←ht.out]at hpr
  have hw:=L.write w3 c acc _ t hA3 hpr (fun e=>by cases A with|none=>simp [Value.ownBlock]at e|some a=>(have e:(a.add i).block=c:=Option.some.inj e;have h1:=(hrh a.block rfl).2;rw [add_block]at e;omega)) (by rw [htl];omega) ha
  have hm:=L.mw ⟨c,0,none⟩
  have hnn:=L.nw ⟨c,0,none⟩
  have hee:=L.ew
  have htl2:t.length≤274877906944:=by omega
  have HTL:=Lib.hid htl
  clear htl
  go_wp2_with fail
  refine hw.mono ?_
  rintro e w4 ⟨rfl,hA4,hb4⟩
  have hB4:h<B:=hhB
  have hh4:=hh3.below hb4 hhB
  have e1:=hh4.cell 1 _ rfl
  have g1:=hh4.frozen 1
  have hF4:Frm (fun k=>k=h∨B≤k) w w4:=(hF3.mono (fun k _ e=> .inl e)).trans ((Frm.of_below hb4).mono (fun k _ e=> .inr e))
  obtain⟨M,hM⟩: ∃M:Nat,M=t.length:=⟨_,rfl⟩
  have m0:(0:Int)≤(M:Int):=by omega
  have m1:(M:Int)≤274877906944:=by subst hM;omega
  subst hM
  try clear htl
  go_wp2
  go_ret2
  refine⟨by rw [ht.out];rfl,?_,hF4.setCell _ _ (fun _=> .inl rfl)⟩
  rw [←ht.out]
  exact L.frm (fun k=>k=h) _ _ _ _ hA4 ((Frm.refl _ w4).setCell _ _ (fun _=>rfl)) (fun k _ e=>by rw [e];exact hhB)
def SWPost (w:World)(h:Nat)(s:BS)(F:Nat→Prop)(Q:World→Prop)(e:Ending)(w':World):Prop:=
 e= .returned (.tuple #[.int .i64 s.length, .nilIface])∧Q w'∧Frm (fun k=>k=h∨F k) w w'
theorem strWriteTo_gen (wv:Value)(h:Nat)(s:BS)(p:Int)(F:Nat→Prop)(St Q:World→Prop)(w:World)(hh0:Blk w h 132 [Str s, .int .i64 0, .int .i64 p])(h0:St w)(hS: ∀w w',St w→Frm (fun k=>k=h) w w'→St w')(hQ: ∀w w',Q w→Frm (fun k=>k=h) w w'→Q w')
 (hF: ¬F h)(hs:s≠ [])(hn:s.length≤4294967296)
 (hc: ∀w1,St w1→Calls Tryz.prog 68 #[wv,Str s] w1 fun e w2=>e= .returned (.tuple #[.int .i64 s.length, .nilIface])∧Q w2∧Frm F w1 w2):
 Calls Tryz.prog 235 #[.pointer (some ⟨h,0,none⟩),wv] w (SWPost w h s F Q):=by
 have f2:=hh0.frozen 2
 have c2:=hh0.cell 2 _ rfl
 have hh1:=hh0.set 2 (.int .i64 (-1))
 have hF1:Frm (fun k=>k=h) w (w.setCell ⟨h,2,none⟩ (.int .i64 (-1))):=(Frm.refl _ w).setCell _ _ (fun _=>rfl)
 have hA1:=hS _ _ h0 hF1
 have hsl:0<s.length:=List.length_pos_iff.2 hs
 have b1: ¬((s.length:Int)≤0):=by omega
 have m0:(0:Int)≤(s.length:Int):=by omega
 have m1:(s.length:Int)≤4294967296:=by omega
 go_enter Tryz.func235,Tryz.ntmps235
 go_wp2_with fail
 generalize w.setCell ⟨h,2,none⟩ (.int .i64 (-1))=w1 at*
 have c0:w1.cell? ⟨h,0,none⟩=some (Str s):=hh1.cell 0 _ rfl
 have c1:w1.cell? ⟨h,1,none⟩=some (.int .i64 0):=hh1.cell 1 _ rfl
 go_quiet (fail)
 have hh2:Blk (w1.drewN nq) h 132 _:=hh1
 have hA2:=hS _ _ hA1 ((Frm.refl _ _).drewN nq)
 have hF2:=hF1.drewN nq
 generalize w1.drewN nq=w2 at*
 have d0:w2.cell? ⟨h,0,none⟩=some (Str s):=hh2.cell 0 _ rfl
 have d1:w2.cell? ⟨h,1,none⟩=some (.int .i64 0):=hh2.cell 1 _ rfl
 go_wp2_with fail
 go_quiet (fail)
 have hh3:Blk (w2.drewN nq) h 132 _:=hh2
 have hA3:=hS _ _ hA2 ((Frm.refl _ _).drewN nq)
 have hF3:=hF2.drewN nq
 generalize w2.drewN nq=w3 at*
 have hw:=hc w3 hA3
 go_wp2_with fail
 refine hw.mono ?_
 rintro e w4 ⟨rfl,hQ4,hF4⟩
 have hh4:=hh3.frm hF4 hF
 have e1:w4.cell? ⟨h,1,none⟩=some (.int .i64 0):=hh4.cell 1 _ rfl
 have g1:=hh4.frozen 1
 go_wp2
 go_ret2
 exact⟨rfl,hQ _ _ hQ4 ((Frm.refl _ w4).setCell _ _ (fun _=>rfl)),((hF3.mono (fun k _ e=> .inl e)).trans (hF4.mono (fun k _ e=> .inr e))).setCell _ _ (fun _=> .inl rfl)⟩
theorem wt76 (v:Value)(xT:TypeId)(w:World):(Instr.typeAssert (.iface 76 v) xT 248 true).run Tryz.prog w= .ok (.tuple #[.iface 76 v, .bool true]) w:=run_typeAssert_hasB Tryz.underlying248 (by kernel_rfl) v xT w
theorem wt238 (v:Value)(xT:TypeId)(w:World):(Instr.typeAssert (.iface 238 v) xT 248 true).run Tryz.prog w= .ok (.tuple #[.iface 238 v, .bool true]) w:=run_typeAssert_hasB Tryz.underlying248 (by kernel_rfl) v xT w
theorem wt156 (v:Value)(xT:TypeId)(w:World):(Instr.typeAssert (.iface 156 v) xT 248 true).run Tryz.prog w= .ok (.tuple #[.iface 156 v, .bool true]) w:=run_typeAssert_hasB Tryz.underlying248 (by kernel_rfl) v xT w
theorem m156_WriteTo (a:Addr)(w:World):(method 486 156 (.pointer (some a)) "WriteTo").run Tryz.prog w= .ok (253, .pointer (some a)) w:=by kernel_rfl
theorem n156_WriteTo (a:Addr)(w:World):(nilAhead 486 156 (.pointer (some a)) "WriteTo").run Tryz.prog w= .ok (some false) w:=by kernel_rfl
theorem e235 (args:Array Value)(w:World):(callFunc 235 args).run Tryz.prog w= .ok (.enter 235 args) w:=by kernel_rfl
theorem e268 (args:Array Value)(w:World):(callFunc 268 args).run Tryz.prog w= .ok (.enter 268 args) w:=by kernel_rfl
theorem src_wt {ct wfn cfn:Nat} {any:Bool} {Sk:World→Nat→Option Nat→BS→Prop} {B hh:Nat} {form:BS} {At:World→Nat→BS→Prop} (L:CanLaw ct wfn cfn any Sk B hh form At) {w:World} {rd:Value} {h:Nat} {s:BS} {i g bb:Nat} (hs:SrcAt w rd h s i g bb)(hi:i≤s.length)(hhB:h<B):
 ∃T fn,rd= .iface T (.pointer (some ⟨h,0,none⟩))∧(∀w,(method 486 T (.pointer (some ⟨h,0,none⟩)) "WriteTo").run Tryz.prog w= .ok (fn, .pointer (some ⟨h,0,none⟩)) w)∧(∀w,(nilAhead 486 T (.pointer (some ⟨h,0,none⟩)) "WriteTo").run Tryz.prog w= .ok (some false) w)∧(∀(args:Array Value) w,(callFunc fn args).run Tryz.prog w= .ok (.enter fn args) w)∧
  (∀v xT w,(Instr.typeAssert (.iface T v) xT 248 true).run Tryz.prog w= .ok (.tuple #[.iface T v, .bool true]) w)∧
  ∀w1 c acc,SrcAt w1 rd h s i g bb→At w1 c acc→acc.length+s.length≤274877906944→(any=true∨acc= [])→Calls Tryz.prog fn #[.pointer (some ⟨h,0,none⟩), .iface ct (.pointer (some ⟨c,0,none⟩))] w1 (WTPost B At w1 h c (s.drop i) acc):=by
 rcases hs with⟨rfl,_⟩|⟨rfl,_⟩
 ·refine⟨76,235,rfl,m76_WriteTo _,n76_WriteTo _,e235,wt76,fun w1 c acc hs hA hn ha=> ?_⟩
  rcases hs with⟨_,p,hb⟩|⟨he,_⟩
  ·exact strWriteTo_can L h c s i p acc w1 hb hA hhB hi hn ha
  ·injection he with he;simp at he
 ·refine⟨238,268,rfl,m238_WriteTo _,n238_WriteTo _,e268,wt238,fun w1 c acc hs hA hn ha=> ?_⟩
  rcases hs with⟨he,_⟩|⟨_,p,A,sc,hr,hA2,hb⟩
  ·injection he with he;simp at he
  ·exact bytWriteTo_can L h c s i p A sc acc w1 hb hr (fun k hk=>⟨(hA2 k hk).1,by have:=(hA2 k hk).2.2.2;omega⟩) hA hhB hi hn ha
def CopyPost (B:Nat)(At:World→Nat→BS→Prop)(w:World)(g h c:Nat)(t acc:BS)(e:Ending)(w':World):Prop:=
 (∃n:Int,e= .returned (.tuple #[.int .i64 n, .nilIface]))∧At w' c (acc++t)∧Frm (fun k=>k=g∨k=h∨B≤k) w w'
theorem bioWriteTo_can {ct wfn cfn:Nat} {Sk:World→Nat→Option Nat→BS→Prop} {B hh:Nat} {form:BS} {At:World→Nat→BS→Prop} (L:CanLaw ct wfn cfn true Sk B hh form At)(g bb h:Nat)(rd:Value)(s:BS)(i r n0:Nat)(cs:BS)(c:Nat)(acc:BS)(w:World)(hb:Bio w g bb h rd s i r n0 cs)(hA:At w c acc)
 (hgB:g<B)(hbB:bb<B)(hhB:h<B)(hn:acc.length+s.length+4096≤137438953472):
 Calls Tryz.prog 253 #[.pointer (some ⟨g,0,none⟩), .iface ct (.pointer (some ⟨c,0,none⟩))] w (CopyPost B At w g h c (bioRest s i r n0 cs) acc):=by
 obtain⟨lb,lr,hg⟩:=hb.cells
 have c5:w.cell? ⟨g,5,none⟩=some (.int .i64 lb):=hg.cell 5 _ rfl
 have c6:w.cell? ⟨g,6,none⟩=some (.int .i64 lr):=hg.cell 6 _ rfl
 have f5:=hg.frozen 5
 have f6:=hg.frozen 6
 have hFg:Frm (fun k=>k=g) w ((w.setCell ⟨g,5,none⟩ (.int .i64 (-1))).setCell ⟨g,6,none⟩ (.int .i64 (-1))):=Frm.setCell (S:=(· =g)) (Frm.setCell (S:=(· =g)) (Frm.refl _ w) ⟨g,5,none⟩ (.int .i64 (-1)) (fun _=>rfl)) ⟨g,6,none⟩ (.int .i64 (-1)) (fun _=>rfl)
 have hb1:Bio ((w.setCell ⟨g,5,none⟩ (.int .i64 (-1))).setCell ⟨g,6,none⟩ (.int .i64 (-1))) g bb h rd s i r n0 cs:=
  ⟨⟨-1, -1,(hg.set 5 (.int .i64 (-1))).set 6 (.int .i64 (-1))⟩,hb.row.frm hFg (fun e=>hb.gb e.symm),hb.len,hb.rn,hb.n0,hb.src.frm hFg (fun k e=> .inl e) hb.hg hb.hb,hb.ilen,hb.slen,hb.gb,hb.hg,hb.hb⟩
 have hA1:=L.frm _ _ _ _ _ hA hFg (fun k _ e=>by rw [e];exact hgB)
 obtain⟨T,fnr,rfl,hmr,hnr,her,htr,hcall⟩:=src_wt L hb.src hb.ilen hhB
 have hta:=fun v w=>htr v 123 w
 go_enter Tryz.func253,Tryz.ntmps253
 go_wp2_with fail
 generalize(w.setCell ⟨g,5,none⟩ (.int .i64 (-1))).setCell ⟨g,6,none⟩ (.int .i64 (-1))=w1 at*
 obtain⟨lb1,lr1,hg1⟩:=hb1.cells
 have d2:w1.cell? ⟨g,2,none⟩=some (.int .i64 r):=hg1.cell 2 _ rfl
 have d3:w1.cell? ⟨g,3,none⟩=some (.int .i64 n0):=hg1.cell 3 _ rfl
 clear c5 c6 f5 f6
 by_cases hz:r<n0
 ·have z1:(r:Int)<(n0:Int):=by omega
  go_quiet (fail)
  have hFq:=hFg.drewN nq
  have hbq:Bio (w1.drewN nq) g bb h _ s i r n0 cs:=⟨hb1.cells,hb1.row,hb1.len,hb1.rn,hb1.n0,hb1.src,hb1.ilen,hb1.slen,hb1.gb,hb1.hg,hb1.hb⟩
  have hAq:=L.frm (fun _=>False) _ _ _ _ hA1 ((Frm.refl _ _).drewN nq) (fun _ _ e=>e.elim)
  generalize w1.drewN nq=w2 at*
  go_wp2_with fail
  refine(writeBuf_any L g bb h _ s i r n0 cs c acc w2 hbq hAq hgB hbB hhB hz (by omega) (.inl rfl)).mono ?_
  rintro e w3 ⟨rfl,hA3,hb3,hF3⟩
  obtain⟨lb3,lr3,hg3⟩:=hb3.cells
  have d1:w3.cell? ⟨g,1,none⟩=some (.iface T (.pointer (some ⟨h,0,none⟩))):=hg3.cell 1 _ rfl
  have hlt:((cs.take n0).drop r).length≤4096:=by rw [List.length_drop,List.length_take];have:=hb.n0;omega
  have hw:=hcall w3 c _ hb3.src hA3 (by rw [List.length_append];omega) (.inl trivial)
  obtain⟨M,hM⟩: ∃M:Nat,Hid (M=n0-r):=⟨_,Lib.hid rfl⟩
  rw [←hM.out]
  have m1:(M:Int)≤4096:=by have:=hM.out;have:=hb.n0;omega
  have m0:(0:Int)≤(M:Int):=by omega
  obtain⟨K,hK⟩: ∃K:Nat,Hid (K=(s.drop i).length):=⟨_,Lib.hid rfl⟩
  have k1:(K:Int)≤1099511627776:=by have h1:=hK.out;rw [List.length_drop]at h1;have:=hb.slen;omega
  have k0:(0:Int)≤(K:Int):=by omega
  go_wp2_with fail
  refine hw.mono ?_
  rintro e w4 ⟨rfl,hA4,hF4⟩
  rw [←hK.out]
  go_wp2
  go_ret2
  refine⟨⟨_,rfl⟩,?_,?_⟩
  ·unfold bioRest;rw [←List.append_assoc];exact hA4
  ·exact((hFq.mono (fun k _ e=> .inl e)).trans (hF3.mono (fun k _ e=>e.imp id .inr))).trans (hF4.mono (fun k _ e=> .inr e))
 ·have z1: ¬((r:Int)<(n0:Int)):=by omega
  go_quiet (fail)
  have hFq:=hFg.drewN nq
  have hbq:Bio (w1.drewN nq) g bb h _ s i r n0 cs:=⟨hb1.cells,hb1.row,hb1.len,hb1.rn,hb1.n0,hb1.src,hb1.ilen,hb1.slen,hb1.gb,hb1.hg,hb1.hb⟩
  have hAq:=L.frm (fun _=>False) _ _ _ _ hA1 ((Frm.refl _ _).drewN nq) (fun _ _ e=>e.elim)
  generalize w1.drewN nq=w2 at*
  obtain⟨lb3,lr3,hg3⟩:=hbq.cells
  have d1:w2.cell? ⟨g,1,none⟩=some (.iface T (.pointer (some ⟨h,0,none⟩))):=hg3.cell 1 _ rfl
  have hw:=hcall w2 c _ hbq.src hAq (by omega) (.inl trivial)
  obtain⟨K,hK⟩: ∃K:Nat,Hid (K=(s.drop i).length):=⟨_,Lib.hid rfl⟩
  have k1:(K:Int)≤1099511627776:=by have h1:=hK.out;rw [List.length_drop]at h1;have:=hb.slen;omega
  have k0:(0:Int)≤(K:Int):=by omega
  go_wp2_with fail
  refine hw.mono ?_
  rintro e w4 ⟨rfl,hA4,hF4⟩
  rw [←hK.out]
  go_wp2
  go_ret2
  refine⟨⟨_,rfl⟩,?_,?_⟩
  ·have:(cs.take n0).drop r= []:=List.drop_eq_nil_of_le (by rw [List.length_take];omega)
   unfold bioRest;rw [this,List.nil_append];exact hA4
  ·exact(hFq.mono (fun k _ e=> .inl e)).trans (hF4.mono (fun k _ e=> .inr e))
theorem e253 (args:Array Value)(w:World):(callFunc 253 args).run Tryz.prog w= .ok (.enter 253 args) w:=by kernel_rfl
theorem ioCopyB_can {ct wfn cfn:Nat} {Sk:World→Nat→Option Nat→BS→Prop} {B hh:Nat} {form:BS} {At:World→Nat→BS→Prop} (L:CanLaw ct wfn cfn true Sk B hh form At)(g bb h:Nat)(rd:Value)(s:BS)(i r n0:Nat)(cs:BS)(c:Nat)(acc:BS)(w:World)(hb:Bio w g bb h rd s i r n0 cs)(hA:At w c acc)
 (hgB:g<B)(hbB:bb<B)(hhB:h<B)(hn:acc.length+s.length+4096≤137438953472):
 Calls Tryz.prog 100 #[.iface ct (.pointer (some ⟨c,0,none⟩)), .iface 156 (.pointer (some ⟨g,0,none⟩)), .slice none 0 0] w (CopyPost B At w g h c (bioRest s i r n0 cs) acc):=by
 have hta:=fun v w=>wt156 v 123 w
 have hm:=m156_WriteTo ⟨g,0,none⟩
 have hnn:=n156_WriteTo ⟨g,0,none⟩
 have hee:=e253
 go_enter Tryz.func100,Tryz.ntmps100
 go_wp2_with fail
 refine(bioWriteTo_can L g bb h rd s i r n0 cs c acc w hb hA hgB hbB hhB hn).mono ?_
 rintro e w2 ⟨⟨n,rfl⟩,hA2,hF2⟩
 go_wp2
 go_ret2
 exact⟨⟨n,rfl⟩,hA2,hF2⟩
theorem ioCopy_can {ct wfn cfn:Nat} {Sk:World→Nat→Option Nat→BS→Prop} {B hh:Nat} {form:BS} {At:World→Nat→BS→Prop} (L:CanLaw ct wfn cfn true Sk B hh form At)(g bb h:Nat)(rd:Value)(s:BS)(i r n0:Nat)(cs:BS)(c:Nat)(acc:BS)(w:World)(hb:Bio w g bb h rd s i r n0 cs)(hA:At w c acc)
 (hgB:g<B)(hbB:bb<B)(hhB:h<B)(hn:acc.length+s.length+4096≤137438953472):
 Calls Tryz.prog 67 #[.iface ct (.pointer (some ⟨c,0,none⟩)), .iface 156 (.pointer (some ⟨g,0,none⟩))] w (CopyPost B At w g h c (bioRest s i r n0 cs) acc):=by
 go_enter Tryz.func67,Tryz.ntmps67
 go_wp2_with fail
 refine(ioCopyB_can L g bb h rd s i r n0 cs c acc w hb hA hgB hbB hhB hn).mono ?_
 rintro e w2 ⟨⟨n,rfl⟩,hA2,hF2⟩
 go_wp2
 go_ret2
 exact⟨⟨n,rfl⟩,hA2,hF2⟩
theorem ioCopyStr_gen (T:Nat)(a:Addr)(h:Nat)(s:BS)(p:Int)(F:Nat→Prop)(St Q:World→Prop)(w:World)(hh0:Blk w h 132 [Str s, .int .i64 0, .int .i64 p])(h0:St w)(hS: ∀w w',St w→Frm (fun k=>k=h) w w'→St w')(hQ: ∀w w',Q w→Frm (fun k=>k=h) w w'→Q w')
 (hF: ¬F h)(hs:s≠ [])(hn:s.length≤4294967296)
 (hc: ∀w1,St w1→Calls Tryz.prog 68 #[.iface T (.pointer (some a)),Str s] w1 fun e w2=>e= .returned (.tuple #[.int .i64 s.length, .nilIface])∧Q w2∧Frm F w1 w2):
 Calls Tryz.prog 67 #[.iface T (.pointer (some a)), .iface 76 (.pointer (some ⟨h,0,none⟩))] w (SWPost w h s F Q):=by
 have hB:Calls Tryz.prog 100 #[.iface T (.pointer (some a)), .iface 76 (.pointer (some ⟨h,0,none⟩)), .slice none 0 0] w (SWPost w h s F Q):=by
  have hta:=fun v w=>wt76 v 123 w
  have hm:=m76_WriteTo ⟨h,0,none⟩
  have hnn:=n76_WriteTo ⟨h,0,none⟩
  have hee:=e235
  go_enter Tryz.func100,Tryz.ntmps100
  go_wp2_with fail
  refine(strWriteTo_gen (.iface T (.pointer (some a))) h s p F St Q w hh0 h0 hS hQ hF hs hn hc).mono ?_
  rintro e w2 ⟨rfl,hQ2,hF2⟩
  go_wp2
  go_ret2
  exact⟨rfl,hQ2,hF2⟩
 go_enter Tryz.func67,Tryz.ntmps67
 go_wp2_with fail
 refine hB.mono ?_
 rintro e w2 ⟨rfl,hQ2,hF2⟩
 go_wp2
 go_ret2
 exact⟨rfl,hQ2,hF2⟩
theorem ns226 (v:Value)(xT:TypeId)(w:World):(Instr.typeAssert (.iface 226 v) xT 189 true).run Tryz.prog w= .ok (.tuple #[.nilIface, .bool false]) w:=run_typeAssert_lacksB Tryz.underlying189 (by kernel_rfl) (by kernel_rfl) v xT w
def SnkPost (Sk:World→Nat→Option Nat→BS→Prop)(w:World)(h:Nat)(o:Option Nat)(acc l:BS)(e:Ending)(w':World):Prop:=
 e= .returned (.tuple #[.int .i64 l.length, .nilIface])∧(∃o',Sk w' h o' (acc++l)∧∀k,o'=some k→o=some k∨w.heap.size≤k)∧Frm (fun k=>k=h∨some k=o) w w'
theorem ioWriteString_snk {wt fn:Nat} {any:Bool} {Sk:World→Nat→Option Nat→BS→Prop} (L:SnkLaw wt fn any Sk)(ns: ∀(v:Value)(xT:TypeId)(w:World),(Instr.typeAssert (.iface wt v) xT 189 true).run Tryz.prog w= .ok (.tuple #[.nilIface, .bool false]) w)
 (h:Nat)(o:Option Nat)(acc l:BS)(w:World)(hA:Sk w h o acc)(hn:acc.length+l.length≤140737488355328)(ha:any=true∨l≠ []∨acc= []):
 Calls Tryz.prog 68 #[.iface wt (.pointer (some ⟨h,0,none⟩)),Str l] w (SnkPost Sk w h o acc l):=by
 obtain⟨hl1,hl2⟩:=L.lt _ _ _ _ hA
 obtain⟨q,w1,hcv,ho,hb⟩:=conv_text w l (by omega)
 have hA1:=L.frm (fun _=>False) _ _ _ _ _ hA (Frm.of_new hb) id (fun _ _=>id)
 have hw:=L.write w1 h o acc _ l hA1 ho.rd ha hn (fun k hk=>by have hk:w.heap.size=k:=Option.some.inj hk;exact⟨by omega,fun e=>by have:=(hl2 k e).1;omega⟩)
 have hns:=fun v w=>ns v 121 w
 have hm:=L.m ⟨h,0,none⟩
 have hnn:=L.n ⟨h,0,none⟩
 have hee:=L.e
 have hs:=hb.size
 go_enter Tryz.func68,Tryz.ntmps68
 go_wp2_with fail
 refine hw.mono ?_
 rintro e w2 ⟨rfl,⟨o2,hA2,ho2⟩,hF2⟩
 go_wp2
 go_ret2
 exact⟨rfl,⟨o2,hA2,fun k hk=>(ho2 k hk).imp id (fun e=>by omega)⟩,(Frm.of_new (S:=fun k=>k=h∨some k=o) hb).trans hF2⟩
def Tm (s:Int)(b:Bool):Value:= .agg #[.int .i64 s, .bool b]
theorem timeUnix_any (s:Int)(b:Bool)(w:World):Calls Tryz.prog 58 #[Tm s b] w fun e w'=>e= .returned (.int .i64 s)∧Below w.heap.size w w':=by
 unfold Tm
 go_enter Tryz.func58,Tryz.ntmps58
 go_wp2
 go_ret
 exact⟨rfl,(Below.refl _ w).alloc (Nat.le_refl _) _⟩
theorem timeIsZero_any (s:Int)(b:Bool)(w:World):Calls Tryz.prog 136 #[Tm s b] w fun e w'=>e= .returned (.bool (!b))∧Below w.heap.size w w':=by
 unfold Tm
 go_enter Tryz.func136,Tryz.ntmps136
 go_wp2
 go_ret
 exact⟨rfl,(Below.refl _ w).alloc (Nat.le_refl _) _⟩
theorem joinC_eq: ∀xs:List BS,Lib.join xs [58]=joinC xs
 | []=>rfl
 | [a]=>Lib.join_one a [58]
 |a::b::r=>by
  rw [Lib.join_cons]
  have h:=joinC_eq (b::r)
  rw [Lib.join_cons]at h
  show a++Lib.joinTail [58] (b::r)=a++ [58]++joinC (b::r)
  rw [←h]
  simp [Lib.joinTail]
theorem formatTagList_any (v:Value)(xs:List BS)(w:World)(hv:Rd w v (strs xs))(hl:(joinC xs).length≤140737488355328)(hn:xs.length≤140737488355328):
 Calls Tryz.prog 135 #[v] w fun e w'=>e= .returned (Str (joinC xs))∧Below w.heap.size w w':=by
 obtain⟨A,c,rfl,hc,hx⟩:=hv
 rw [stL]at*
 have hj:Calls Tryz.prog 149 #[.slice A xs.length c,Str [58]] w fun e w'=>e= .returned (Str (joinC xs))∧Below w.heap.size w w':=by
  rcases hx with h0|⟨g,off,rfl,hg,hcell⟩
  ·have:xs= []:=by simpa [strs]using h0
   subst this
   refine(Tryz.strings_Join_none A c ⟨#[58]⟩ w).mono ?_
   rintro e w' ⟨rfl,rfl⟩
   exact⟨rfl,Below.refl _ _⟩
  ·have hm:((xs.map fun x:BS=>(⟨x.toArray⟩:ByteArray)).map (·.data.toList))=xs:=by
    rw [List.map_map];exact List.map_id'' (by intro x;rfl) xs
   have h:=Tryz.strings_Join g off c (xs.map fun x:BS=>(⟨x.toArray⟩:ByteArray)) ⟨#[58]⟩ w (fun j x hx=>by
    refine hcell j _ ?_
    rw [List.getElem?_map]at hx
    cases hj:xs[j]? with
    |none=>rw [hj]at hx;simp at hx
    |some y=>rw [hj]at hx;simp at hx;subst hx;simp [strs,hj]) hg (by rw [List.length_map];exact hn) (by rw [List.length_map];exact hc) (by rw [hm,show(⟨#[58]⟩:ByteArray).data.toList= [58]from rfl,joinC_eq];exact hl)
   rw [hm,show(⟨#[58]⟩:ByteArray).data.toList= [58]from rfl,joinC_eq,List.length_map]at h
   exact h
 go_enter Tryz.func135,Tryz.ntmps135
 go_wp2_with fail
 refine hj.mono ?_
 rintro e w1 ⟨rfl,hb⟩
 go_wp2
 go_ret
 exact⟨rfl,hb⟩
theorem timeAfter_any (s u:Int)(b d:Bool)(w:World):Calls Tryz.prog 116 #[Tm s b,Tm u d] w fun e w'=>e= .returned (.bool (decide (u<s)))∧Below w.heap.size w w':=by
 unfold Tm
 go_enter Tryz.func116,Tryz.ntmps116
 go_wp2
 go_ret
 exact⟨rfl,((Below.refl _ w).alloc (Nat.le_refl _) _).alloc (leA _ _) _⟩
theorem unix_any (s:Int)(w:World):Calls Tryz.prog 54 #[.int .i64 s] w fun e w'=>e= .returned (Tm s true)∧Below w.heap.size w w':=by
 unfold Tm
 go_enter Tryz.func54,Tryz.ntmps54
 go_wp2
 refine bodyPost_ret_by (results_cell_row (t:=87) (fr:=(0,0)) (g:=w.heap.size) rfl _ _ _ _ rfl (heap_alloc_new _ _) Tryz.underlying87 rfl (by kernel_rfl)) rfl ?_
 exact⟨rfl,(Below.refl _ w).alloc (Nat.le_refl _) _⟩
theorem bufBytes_any (g o:Nat)(T:TypeId)(cells:List Value)(bv:Value)(acc:BS)(w:World)(hg:Blk w g T cells)(h0:cells[o]?=some bv)(h1:cells[o+1]?=some (.int .i64 0))(hb:BufV w bv acc):
 Calls Tryz.prog 133 #[.pointer (some ⟨g,o,none⟩)] w fun e w'=>e= .returned bv∧∃k,w'=w.drewN k:=by
 have c0:=hg.cell o _ h0
 have c1:=hg.cell (o+1) _ h1
 rcases hb with⟨rfl,rfl⟩|⟨r,cs,hp,rfl,hr,hl,ht,hm⟩
 ·go_enter Tryz.func133,Tryz.ntmps133
  go_wp2_with fail
  go_quiet (fail)
  go_wp2
  go_ret
  exact⟨rfl,_,rfl⟩
 ·have hnz: ¬cs.length=0:=by omega
  have n0:(0:Int)≤(acc.length:Int):=by omega
  have q1:(acc.length:Int)≤(cs.length:Int):=by omega
  go_enter Tryz.func133,Tryz.ntmps133
  go_wp2_with fail
  go_quiet (fail)
  go_wp2
  go_ret
  exact⟨rfl,_,rfl⟩
theorem BufV.rd {w:World} {v:Value} {acc:BS} (h:BufV w v acc):Rd w v (byts acc):=by
 rcases h with⟨rfl,rfl⟩|⟨r,cs,hp,rfl,hr,hl,ht,hm⟩
 ·exact⟨none,0,rfl,Nat.le_refl _, .inl rfl⟩
 ·exact⟨_,_,by rw [byL],by rw [byL];exact hl, .inr ⟨r,0,rfl,hr.lt,fun j u hj=>by rw [Nat.zero_add];refine hr.cell j u ?_;rw [←ht,List.getElem?_take]at hj;split at hj;exact hj;simp at hj⟩⟩
theorem signerWrite_any (g:Nat)(cells:List Value)(bv pv:Value)(acc l:BS)(lr:Int)(w:World)(hg:Blk w g 181 cells)(h0:cells[4]?=some bv)(h1:cells[5]?=some (.int .i64 0))(h2:cells[6]?=some (.int .i8 lr))
 (hb:BufV w bv acc)(hbg:bv.ownBlock≠some g)(hp:Rd w pv (byts l))(hpS: ∀k,pv.ownBlock=some k→¬(k=g∨some k=bv.ownBlock))(hn:acc.length+l.length≤140737488355328)(hle:l≠ []∨acc= []):
 Calls Tryz.prog 251 #[.pointer (some ⟨g,0,none⟩),pv] w (WrPost w g 4 181 cells bv acc l):=by
 go_enter Tryz.func251,Tryz.ntmps251
 go_wp2_with fail
 refine(bufWrite_any g 4 181 cells bv pv acc l lr w hg h0 h1 h2 hb hbg hp hpS hn hle).mono ?_
 rintro e w1 ⟨rfl,hrest⟩
 go_wp2
 go_ret2
 exact⟨rfl,hrest⟩
theorem sw70 (v:Value)(xT:TypeId)(w:World):(Instr.typeAssert (.iface 70 v) xT 189 true).run Tryz.prog w= .ok (.tuple #[.iface 70 v, .bool true]) w:=run_typeAssert_hasB Tryz.underlying189 (by kernel_rfl) v xT w
def BldPost (w:World)(B b:Nat)(v:Value)(acc l:BS)(e:Ending)(w':World):Prop:=
 e= .returned (.tuple #[.int .i64 l.length, .nilIface])∧∃v',Bld w' B b v' (acc++l)∧(v'.ownBlock=v.ownBlock∨∃k,v'.ownBlock=some k∧w.heap.size≤k)∧Frm (fun k=>k=b∨some k=v.ownBlock) w w'
theorem ioWriteString_bld (B b:Nat)(v:Value)(acc l:BS)(w:World)(h:Bld w B b v acc)(hn:acc.length+l.length≤140737488355328)(hB:B≤w.heap.size):
 Calls Tryz.prog 68 #[.iface 70 (.pointer (some ⟨b,0,none⟩)),Str l] w (BldPost w B b v acc l):=by
 have hta:=fun v w=>sw70 v 121 w
 have hm1:=m70_WriteString ⟨b,0,none⟩
 have hn1:=n70_WriteString ⟨b,0,none⟩
 have e160: ∀(args:Array Value) (w:World),(callFunc 160 args).run Tryz.prog w= .ok (.enter 160 args) w:=fun args w=>by kernel_rfl
 go_enter Tryz.func68,Tryz.ntmps68
 go_wp2_with fail
 refine(bldWriteString_any B b v acc l w h hn hB).mono ?_
 rintro e w1 ⟨rfl,hP⟩
 go_wp2
 go_ret2
 exact⟨rfl,hP⟩
theorem bufWriteTo_bld (B g b:Nat)(lr:Int)(bv v:Value)(acc l:BS)(w:World)(hg:Blk w g 112 [bv, .int .i64 0, .int .i8 lr])(hbv:BufV w bv l)(hl0:l≠ [])(h:Bld w B b v acc)(hn:acc.length+l.length≤140737488355328)(hB:B≤w.heap.size)
 (hgb:g≠b)(hg1:bv.ownBlock≠some g)(hb1:bv.ownBlock≠some b)(hv1:v.ownBlock≠some g):
 Calls Tryz.prog 245 #[.pointer (some ⟨g,0,none⟩), .iface 70 (.pointer (some ⟨b,0,none⟩))] w fun e w'=>e= .returned (.tuple #[.int .i64 l.length, .nilIface])∧∃v',Bld w' B b v' (acc++l)∧(v'.ownBlock=v.ownBlock∨∃k,v'.ownBlock=some k∧w.heap.size≤k)∧Frm (fun k=>k=g∨k=b∨some k=v.ownBlock) w w':=by
 have hl:(0:Int)<(l.length:Int):=by have:=List.length_pos_iff.2 hl0;omega
 obtain⟨r,cs,hp,rfl,hr,hrl,hrc,hrm⟩:=hbv.resolve_left (fun e=>hl0 e.2)
 have hF1:Frm (· =g) w (w.setCell ⟨g,2,none⟩ (.int .i8 0)):=(Frm.refl _ w).setCell ⟨g,2,none⟩ _ (fun _=>rfl)
 have c2:=hg.cell 2 _ rfl
 have z2:=hg.frozen 2
 have hg2:Blk (w.setCell ⟨g,2,none⟩ (.int .i8 0)) g 112 [.slice (some ⟨r,0,none⟩) l.length cs.length, .int .i64 0, .int .i8 0]:=hg.set 2 (.int .i8 0)
 obtain⟨w1,hw1⟩: ∃w1,w1=w.setCell ⟨g,2,none⟩ (.int .i8 0):=⟨_,rfl⟩
 rw [←hw1]at hg2 hF1
 have hw1':=Lib.hid hw1
 clear hw1
 have hlm:l.length≤140737488355328:=by omega
 have h1:Bld w1 B b v acc:=⟨h.blk.imp (fun x=>x.frm hF1 (fun e=>hgb e.symm)) (fun x=>x.frm hF1 (fun e=>hgb e.symm)),h.own.frm hF1 (fun k hk e=>hv1 (by rw [hk,e]))⟩
 have hr1:BufV w1 (.slice (some ⟨r,0,none⟩) l.length cs.length) l:=hbv.frm hF1 (fun k hk e=>hg1 (by rw [hk,e]))
 have hB1:B≤w1.heap.size:=Nat.le_trans hB hF1.size
 go_enter Tryz.func245,Tryz.ntmps245
 go_wp2_with fail
 rw [←hw1'.out]
 refine(bufLen_any g 0 112 _ _ _ _ w1 hg2 rfl rfl hlm).mono ?_
 rintro e w2 ⟨rfl,k,hw2⟩
 have hg3:Blk w2 g 112 [.slice (some ⟨r,0,none⟩) l.length cs.length, .int .i64 0, .int .i8 0]:=by rw [hw2];exact hg2.drewN k
 have h2:Bld w2 B b v acc:=by rw [hw2];exact⟨h1.blk.imp (fun x=>x.drewN k) (fun x=>x.drewN k),h1.own⟩
 have hr2:BufV w2 (.slice (some ⟨r,0,none⟩) l.length cs.length) l:=by rw [hw2];exact hr1
 have hB2:B≤w2.heap.size:=by rw [hw2];exact hB1
 have hF2:Frm (· =g) w w2:=by rw [hw2];exact hF1.drewN k
 clear hw2 hr1 h1 hg2 hF1 hw1' hB1 c2 z2 hg hbv h hr hrc hB
 have c0:w2.cell? ⟨g,0,none⟩=some (.slice (some ⟨r,0,none⟩) l.length cs.length):=hg3.cell 0 _ rfl
 have c1:w2.cell? ⟨g,1,none⟩=some (.int .i64 0):=hg3.cell 1 _ rfl
 have hw:Calls Tryz.prog 164 #[.pointer (some ⟨b,0,none⟩), .slice (some ⟨r,0,none⟩) l.length cs.length] w2.drew (BldPost w2.drew B b v acc l):=bldWrite_any B b v _ acc l w2.drew ⟨h2.blk,h2.own⟩ hr2.rd (fun k hk e=>hb1 (by rw [hk,e])) hn hB2
 have hm1:=m70_Write ⟨b,0,none⟩
 have hn1:=n70_Write ⟨b,0,none⟩
 have e164: ∀(args:Array Value) (w:World),(callFunc 164 args).run Tryz.prog w= .ok (.enter 164 args) w:=fun args w=>by kernel_rfl
 have hcap:(l.length:Int)≤(cs.length:Int):=by omega
 have hl0':(0:Int)≤(l.length:Int):=by omega
 go_wp2_with fail
 go_region_held3 (fun ww=>ww.cell? ⟨g,0,none⟩=some (.slice (some ⟨r,0,none⟩) l.length cs.length)∧ww.cell? ⟨g,1,none⟩=some (.int .i64 0))
  (first|go_keep|exact⟨frC hF4 (p:=⟨g,0,none⟩) c0 (fun e=>e.elim hgb (fun e=>hv1 e.symm)),frC hF4 (p:=⟨g,1,none⟩) c1 (fun e=>e.elim hgb (fun e=>hv1 e.symm))⟩)
  (first|(go_at_fn 164;refine hw.mono ?_;rintro e w4 ⟨rfl,v4,h4,hv4,hF4⟩)|fail)
 have hg4:=Blk.frm (w:=w2.drew) hg3 hF4 (fun e=>e.elim hgb (fun e=>hv1 e.symm))
 have d1:=hg4.cell 1 _ rfl
 have z1:=hg4.frozen 1
 have hg5:Blk (w4.setCell ⟨g,1,none⟩ (.int .i64 l.length)) g 112 [.slice (some ⟨r,0,none⟩) l.length cs.length, .int .i64 l.length, .int .i8 0]:=hg4.set 1 _
 have hF5:Frm (· =g) w4 (w4.setCell ⟨g,1,none⟩ (.int .i64 l.length)):=(Frm.refl _ w4).setCell ⟨g,1,none⟩ _ (fun _=>rfl)
 obtain⟨w5,hw5⟩: ∃w5,Hid (w5=w4.setCell ⟨g,1,none⟩ (.int .i64 l.length)):=⟨_,Lib.hid rfl⟩
 rw [←hw5.out]at hg5 hF5
 clear c0 c1 hm1 hn1 e164 hw h2
 go_wp2_with fail
 rw [←hw5.out]
 refine(bufReset_any g l.length cs.length (some ⟨r,0,none⟩) l.length 0 w5 hg5).mono ?_
 rintro e w6 ⟨rfl,hg6,hF6⟩
 go_wp2
 go_ret2
 have hn4:v4.ownBlock≠some g:=fun e=>by
  rcases hv4 with h|⟨k,h,hk⟩
  ·exact hv1 (h ▸ e)
  ·rw [h]at e;have e:=Option.some.inj e;have:=hg3.lt;have hk:w2.heap.size≤k:=hk;omega
 have hF56:Frm (· =g) w4 w6:=hF5.trans hF6
 have hF4':Frm (fun k=>k=b∨some k=v.ownBlock) w2 w4:=⟨hF4.os,hF4.tape,hF4.output,hF4.size,hF4.block⟩
 refine⟨rfl,v4,⟨h4.blk.imp (fun x=>x.frm hF56 (fun e=>hgb e.symm)) (fun x=>x.frm hF56 (fun e=>hgb e.symm)),h4.own.frm hF56 (fun k hk e=>hn4 (by rw [hk,e]))⟩,?_,?_⟩
 ·rcases hv4 with h|⟨k,h,hk⟩
  ·exact .inl h
  ·exact .inr ⟨k,h,Nat.le_trans hF2.size hk⟩
 ·exact(hF2.mono (fun k _ e=> .inl e)).trans ((hF4'.mono (fun k _ e=> .inr e)).trans (hF56.mono (fun k _ e=> .inl e)))
theorem wt116 (v:Value)(xT:TypeId)(w:World):(Instr.typeAssert (.iface 116 v) xT 248 true).run Tryz.prog w= .ok (.tuple #[.iface 116 v, .bool true]) w:=run_typeAssert_hasB Tryz.underlying248 (by kernel_rfl) v xT w
theorem ioCopy_bufBld (B g b:Nat)(lr:Int)(bv v:Value)(acc l:BS)(w:World)(hg:Blk w g 112 [bv, .int .i64 0, .int .i8 lr])(hbv:BufV w bv l)(hl0:l≠ [])(h:Bld w B b v acc)(hn:acc.length+l.length≤140737488355328)(hB:B≤w.heap.size)
 (hgb:g≠b)(hg1:bv.ownBlock≠some g)(hb1:bv.ownBlock≠some b)(hv1:v.ownBlock≠some g):
 Calls Tryz.prog 67 #[.iface 70 (.pointer (some ⟨b,0,none⟩)), .iface 116 (.pointer (some ⟨g,0,none⟩))] w fun e w'=>e= .returned (.tuple #[.int .i64 l.length, .nilIface])∧∃v',Bld w' B b v' (acc++l)∧(v'.ownBlock=v.ownBlock∨∃k,v'.ownBlock=some k∧w.heap.size≤k)∧Frm (fun k=>k=g∨k=b∨some k=v.ownBlock) w w':=by
 have hc:=bufWriteTo_bld B g b lr bv v acc l w hg hbv hl0 h hn hB hgb hg1 hb1 hv1
 have hB:Calls Tryz.prog 100 #[.iface 70 (.pointer (some ⟨b,0,none⟩)), .iface 116 (.pointer (some ⟨g,0,none⟩)), .slice none 0 0] w fun e w'=>e= .returned (.tuple #[.int .i64 l.length, .nilIface])∧∃v',Bld w' B b v' (acc++l)∧(v'.ownBlock=v.ownBlock∨∃k,v'.ownBlock=some k∧w.heap.size≤k)∧Frm (fun k=>k=g∨k=b∨some k=v.ownBlock) w w':=by
  have hta:=fun v w=>wt116 v 123 w
  have hm:=m116_WriteTo ⟨g,0,none⟩
  have hnn:=n116_WriteTo ⟨g,0,none⟩
  have e245: ∀(args:Array Value) (w:World),(callFunc 245 args).run Tryz.prog w= .ok (.enter 245 args) w:=fun args w=>by kernel_rfl
  go_enter Tryz.func100,Tryz.ntmps100
  go_wp2_with fail
  refine hc.mono ?_
  rintro e w2 ⟨rfl,hQ⟩
  go_wp2
  go_ret2
  exact⟨rfl,hQ⟩
 go_enter Tryz.func67,Tryz.ntmps67
 go_wp2_with fail
 refine hB.mono ?_
 rintro e w2 ⟨rfl,hQ⟩
 go_wp2
 go_ret2
 exact⟨rfl,hQ⟩
theorem sw116 (v:Value)(xT:TypeId)(w:World):(Instr.typeAssert (.iface 116 v) xT 189 true).run Tryz.prog w= .ok (.tuple #[.iface 116 v, .bool true]) w:=run_typeAssert_hasB Tryz.underlying189 (by kernel_rfl) v xT w
theorem ns124 (v:Value)(xT:TypeId)(w:World):(Instr.typeAssert (.iface 124 v) xT 189 true).run Tryz.prog w= .ok (.tuple #[.nilIface, .bool false]) w:=run_typeAssert_lacksB Tryz.underlying189 (by kernel_rfl) (by kernel_rfl) v xT w
def MWPost (w:World)(b sg:Nat)(cells:List Value)(l:BS)(e:Ending)(w':World):Prop:=
 e= .returned (.tuple #[.int .i64 l.length, .nilIface])∧∃vb vs,Blk w' b 112 [vb, .int .i64 0, .int .i8 0]∧BufV w' vb l∧vb.ownBlock≠some b∧Blk w' sg 181 ((cells.set 6 (.int .i8 0)).set 4 vs)∧BufV w' vs l∧vs.ownBlock≠some sg∧(∀k,vb.ownBlock=some k→w.heap.size≤k)∧(∀k,vs.ownBlock=some k→w.heap.size≤k∧vb.ownBlock≠some k)∧Frm (fun k=>k=b∨k=sg) w w'
theorem mwWriteString_any (mw r off pc b sg:Nat)(cells:List Value)(l:BS)(lr lr2:Int)(w:World)(hm:Blk w mw 186 [.slice (some ⟨r,off,none⟩) 2 pc])(r0:w.cell? ⟨r,off,none⟩=some (.iface 116 (.pointer (some ⟨b,0,none⟩))))(r1:w.cell? ⟨r,off+1,none⟩=some (.iface 124 (.pointer (some ⟨sg,0,none⟩))))(hrb:r≠b)
 (hb:Blk w b 112 [.slice none 0 0, .int .i64 0, .int .i8 lr])(hs:Blk w sg 181 cells)(h4:cells[4]?=some (.slice none 0 0))(h5:cells[5]?=some (.int .i64 0))(h6:cells[6]?=some (.int .i8 lr2))(hl:l.length≤4294967296):
 Calls Tryz.prog 262 #[.pointer (some ⟨mw,0,none⟩),Str l] w (MWPost w b sg cells l):=by
 have c0:=hm.cell 0 _ rfl
 have hbs:b≠sg:=hb.ne hs (by decide)
 have hta:=fun v w=>sw116 v 121 w
 have htb:=fun v w=>ns124 v 121 w
 have hm1:=m116_WriteString ⟨b,0,none⟩
 have hn1:=n116_WriteString ⟨b,0,none⟩
 have hm2:=m124_Write ⟨sg,0,none⟩
 have hn2:=n124_Write ⟨sg,0,none⟩
 have hw0:=bufWriteString_any b 0 112 _ (.slice none 0 0) [] l lr w hb rfl rfl rfl (.inl ⟨rfl,rfl⟩) (by simp [Value.ownBlock]) (by simp;omega) (.inr rfl)
 have hq: ∀w,(binOp .eql 22 (.slice none 0 0) (.slice none 0 0)).run Tryz.prog w= .ok (.bool true) w:=fun w=>Lib.run_eql_slice_nil w 22 5 none 0 0 0 0 Tryz.underlying22
 go_enter Tryz.func262,Tryz.ntmps262
 go_wp2_with fail
 go_loopw [6,16] (fun v x wx=>(v= .slice none 0 0∧x= .int .i64 0∧wx=w)∨(v= .slice none 0 0∧x= .int .i64 1∧∃vb,Blk wx b 112 [vb, .int .i64 0, .int .i8 0]∧BufV wx vb l∧vb.ownBlock≠some b∧(∀k,vb.ownBlock=some k→w.heap.size≤k)∧Frm (fun k=>k=b) w wx)∨(x= .int .i64 2∧MWPost w b sg cells l (.returned (.tuple #[.int .i64 l.length, .nilIface])) wx)) (fun _ x _=>2-(intOf x).toNat)
 case atStart=>exact .inl ⟨rfl,rfl,rfl⟩
 case round=>
  rcases hrel with⟨rfl,rfl,rfl⟩|⟨rfl,rfl,vb,hb1,hv1,hvb,hvk,hF1⟩|⟨rfl,hP⟩
  ·go_wp2_with fail
   refine hw0.mono ?_
   rintro e w1 ⟨rfl,vb,hv,hvb,hvk,hb1,hF⟩
   go_wp2_with fail
   go_roundw
   case rel=>
    refine .inr (.inl ⟨rfl,rfl,vb,hb1,hv,hvb,fun k hk=>(hvk k hk).resolve_left (by simp [Value.ownBlock]),hF.mono (fun k _ e=>e.resolve_right (by simp [Value.ownBlock]))⟩)
   case measure=>simp [intOf]
  ·have hs1:=hs.frm hF1 (fun e=>hbs e.symm)
   have r1':=frC hF1 r1 (fun e=>hrb e)
   obtain⟨q,w2,hcv,ho2,hb2⟩:=conv_text wr l (by omega)
   have hsz1:=hF1.size
   have hs2:=hs1.below hb2 hs1.lt
   have hw1:=signerWrite_any sg cells (.slice none 0 0) _ [] l lr2 w2 hs2 h4 h5 h6 (.inl ⟨rfl,rfl⟩) (by simp [Value.ownBlock]) ho2.rd (fun k hk e=>by have hk:wr.heap.size=k:=Option.some.inj hk;have:=hs1.lt;rcases e with e|e;omega;simp [Value.ownBlock]at e) (by simp;omega) (.inr rfl)
   go_wp2_with fail
   refine hw1.mono ?_
   rintro e w3 ⟨rfl,vs,hv3,hvs,hvsk,hs3,hF3⟩
   have hF3':Frm (fun k=>k=sg) w2 w3:=hF3.mono (fun k _ e=>e.resolve_right (by simp [Value.ownBlock]))
   go_wp2_with fail
   go_roundw
   case rel=>
    have hvlt:=hv1.lt
    have hb2':=(hb1.below hb2 hb1.lt).frm hF3' hbs
    have hFn:=Frm.of_new (S:=fun k=>k=sg) hb2
    have hv2:=(hv1.frm hFn (fun k hk e=>by have:=hvk k hk;have:=hs.lt;omega)).frm hF3' (fun k hk e=>by have:=hvk k hk;have:=hs.lt;omega)
    refine .inr (.inr ⟨rfl,rfl,vb,vs,hb2',hv2,hvb,hs3,hv3,hvs,hvk,fun k hk=> ?_,((hF1.mono (fun k _ e=> .inl e)).trans (Frm.of_new hb2)).trans (hF3'.mono (fun k _ e=> .inr e))⟩)
    have h1:=(hvsk k hk).resolve_left (by simp [Value.ownBlock])
    have h2:=hb2.size
    exact⟨by omega,fun e=>by have:=hvlt k e;omega⟩
   case measure=>simp [intOf]
  ·obtain⟨_,hP⟩:=hP
   go_wp2
   go_ret2
   exact⟨rfl,hP⟩
theorem Tryz.info121:(Tryz.prog.info? 121).map (fun i=>(i.zero,i.size,i.bytes))=some (some .nilIface,1,16):=by kernel_rfl
section
variable {ops:Array Oper} {rest:List Oper} {o:Oper} {a:Act} {Q:Exit→Act→World→Prop} {w:World} {B:Nat} {v xv:Value}
theorem appW (hgd:o.guard=none)(s x:Operand)(ho:o.op= .call { callee:= .builtin .append,args:= #[s,x],argTypes:= #[182,182] })
 (l news:List Value)(hs:a.eval s=v)(hown:OwnAt w B 121 v l)(hxv:a.eval x=xv)(hx:Src Tryz.prog w xv news)(hn:l.length+news.length≤8796093022208)(hB:B≤w.heap.size)
 (h: ∀v' w',OwnAt w' B 121 v' (l++news)→w.grownBy w' v.ownBlock→Below B w w'→(v'.ownBlock=v.ownBlock∨v'.ownBlock=some w.heap.size)→wpList Tryz.prog ops Q rest (a.put o.dst v') w'):wpList Tryz.prog ops Q (o::rest) a w:=by
 obtain⟨i,hi,hz,hs1,hb⟩:=info_parts Tryz.info121
 refine wpList_plain hgd fun K hK=>wp_app s x 182 182 ho B 121 i _ 16 Tryz.underlying182 (.inr ⟨_,Tryz.underlying182⟩) hi hz hs1 hb rfl v _ hs hown xv _ hxv hx ?_ ?_ hB fun v' w' h2 h3 h4=>hK _ _ (h v' w' h2 h3 (grown_below hown h3 hB) h4)
 ·simp only [maxLen];omega
 ·omega
end
theorem mw116 (v:Value)(w:World):(Instr.typeAssert (.iface 116 v) 121 183 true).run Tryz.prog w= .ok (.tuple #[.pointer none, .bool false]) w:=by kernel_rfl
theorem mw124 (v:Value)(w:World):(Instr.typeAssert (.iface 124 v) 121 183 true).run Tryz.prog w= .ok (.tuple #[.pointer none, .bool false]) w:=by kernel_rfl
def MkPost (w:World)(x y:Value)(e:Ending)(w':World):Prop:=
 ∃mw A c,e= .returned (.iface 183 (.pointer (some ⟨mw,0,none⟩)))∧w.heap.size≤mw∧Blk w' mw 186 [.slice A 2 c]∧OwnAt w' w.heap.size 121 (.slice A 2 c) [x,y]∧Below w.heap.size w w'
theorem multiWriter_any (r:Nat)(p q:Addr)(w:World)(hr:Blk w r 121 [.iface 116 (.pointer (some p)), .iface 124 (.pointer (some q))]):
 Calls Tryz.prog 66 #[.slice (some ⟨r,0,none⟩) 2 2] w (MkPost w (.iface 116 (.pointer (some p))) (.iface 124 (.pointer (some q)))):=by
 obtain⟨w1,hmk,ho,hb⟩:=make_at w 182 121 .nilIface 16 Tryz.underlying182 Tryz.info121 rfl 0 2 (by omega) (by decide) (by decide)
 have hmk':(Instr.makeSlice 182 (.int .i64 0) (.int .i64 2)).run Tryz.prog w= .ok (.slice (some ⟨w.heap.size,0,none⟩) 0 2) w1:=hmk
 clear hmk
 have hr1:=hr.below hb hr.lt
 have hta:=fun v w=>mw116 v w
 have htb:=fun v w=>mw124 v w
 go_enter Tryz.func66,Tryz.ntmps66
 go_wp2_with fail
 clear hmk'
 go_loopw [3,13] (fun v x wx=> ∃k:Nat,k≤2∧x= .int .i64 k∧OwnAt wx w.heap.size 121 v (([.iface 116 (.pointer (some p)), .iface 124 (.pointer (some q))]:List Value).take k)∧Below w.heap.size w wx) (fun _ x _=>2-(intOf x).toNat)
 case atStart=>exact⟨0,by omega,rfl,ho,hb⟩
 case round=>
  obtain⟨k,hk,rfl,ho,hb⟩:=hrel
  match k,hk with
  |0,_=>
   have c0:wr.cell? ⟨r,0,none⟩=some (.iface 116 (.pointer (some p))):=(hr.below hb hr.lt).cell 0 _ rfl
   have hsr:Src Tryz.prog (wr.alloc (.cells #[.iface 116 (.pointer (some p))] 121)) (.slice (some ⟨wr.heap.size,0,none⟩) 1 1) [.iface 116 (.pointer (some p))]:=Src.one wr 121 _ rfl
   have hoa:=ho.alloc (.cells #[.iface 116 (.pointer (some p))] 121)
   have hB1:w.heap.size≤(wr.alloc (.cells #[.iface 116 (.pointer (some p))] 121)).heap.size:=Nat.le_trans hb.size (leA _ _)
   have hba:Below w.heap.size w (wr.alloc (.cells #[.iface 116 (.pointer (some p))] 121)):=hb.alloc hb.size _
   go_wp2_with (at_builtin;refine appW rfl (.tmp 29) (.tmp 31) rfl _ [.iface 116 (.pointer (some p))] rfl hoa rfl hsr (by simp) hB1 ?_;intro v2 w2 ho2 hg2 hb2 _)
   go_roundw
   case rel=>exact⟨0+1,by omega,rfl,ho2,hba.trans hb2⟩
   case measure=>simp [intOf]
  |1,_=>
   have c0:wr.cell? ⟨r,1,none⟩=some (.iface 124 (.pointer (some q))):=(hr.below hb hr.lt).cell 1 _ rfl
   have hsr:Src Tryz.prog (wr.alloc (.cells #[.iface 124 (.pointer (some q))] 121)) (.slice (some ⟨wr.heap.size,0,none⟩) 1 1) [.iface 124 (.pointer (some q))]:=Src.one wr 121 _ rfl
   have hoa:=ho.alloc (.cells #[.iface 124 (.pointer (some q))] 121)
   have hB1:w.heap.size≤(wr.alloc (.cells #[.iface 124 (.pointer (some q))] 121)).heap.size:=Nat.le_trans hb.size (leA _ _)
   have hba:Below w.heap.size w (wr.alloc (.cells #[.iface 124 (.pointer (some q))] 121)):=hb.alloc hb.size _
   go_wp2_with (at_builtin;refine appW rfl (.tmp 29) (.tmp 31) rfl _ [.iface 124 (.pointer (some q))] rfl hoa rfl hsr (by simp) hB1 ?_;intro v2 w2 ho2 hg2 hb2 _)
   go_roundw
   case rel=>exact⟨1+1,by omega,rfl,ho2,hba.trans hb2⟩
   case measure=>simp [intOf]
  |2,_=>
   obtain⟨A,c,rfl⟩:=ho.form
   go_wp2
   go_ret
   exact⟨wr.heap.size,A,c,rfl,hb.size,Blk.new _ _ _,ho.alloc _,hb.alloc hb.size _⟩
theorem sw183 (v:Value)(xT:TypeId)(w:World):(Instr.typeAssert (.iface 183 v) xT 189 true).run Tryz.prog w= .ok (.tuple #[.iface 183 v, .bool true]) w:=run_typeAssert_hasB Tryz.underlying189 (by kernel_rfl) v xT w
theorem ioWriteString_mw (mw r off pc b sg:Nat)(cells:List Value)(l:BS)(lr lr2:Int)(w:World)(hm:Blk w mw 186 [.slice (some ⟨r,off,none⟩) 2 pc])(r0:w.cell? ⟨r,off,none⟩=some (.iface 116 (.pointer (some ⟨b,0,none⟩))))(r1:w.cell? ⟨r,off+1,none⟩=some (.iface 124 (.pointer (some ⟨sg,0,none⟩))))(hrb:r≠b)
 (hb:Blk w b 112 [.slice none 0 0, .int .i64 0, .int .i8 lr])(hs:Blk w sg 181 cells)(h4:cells[4]?=some (.slice none 0 0))(h5:cells[5]?=some (.int .i64 0))(h6:cells[6]?=some (.int .i8 lr2))(hl:l.length≤4294967296):
 Calls Tryz.prog 68 #[.iface 183 (.pointer (some ⟨mw,0,none⟩)),Str l] w (MWPost w b sg cells l):=by
 have hta:=fun v w=>sw183 v 121 w
 have hm1:=m183_WriteString ⟨mw,0,none⟩
 have hn1:=n183_WriteString ⟨mw,0,none⟩
 go_enter Tryz.func68,Tryz.ntmps68
 go_wp2_with fail
 refine(mwWriteString_any mw r off pc b sg cells l lr lr2 w hm r0 r1 hrb hb hs h4 h5 h6 hl).mono ?_
 rintro e w1 ⟨rfl,hP⟩
 go_wp2
 go_ret2
 exact⟨rfl,hP⟩
def lk (F:List BS)(k:Nat):Nat:=(List.range k).foldl (fun a i=>if lname (F.getD i [])=fromS then i else a) 0
theorem lk_succ (F:List BS)(k:Nat)(h:k<F.length):lk F (k+1)=if lower (name F[k])=fromS then k else lk F k:=by
 unfold lk
 rw [List.range_succ,List.foldl_append]
 simp only [List.foldl_cons,List.foldl_nil]
 rw [show F.getD k []=F[k] by rw [List.getD_eq_getElem?_getD,List.getElem?_eq_getElem h];rfl]
 rfl
theorem other_get (F:List BS)(word:BS)(k:Nat)(h:k<F.length):(otherFrom F word)[k]?=some (if k=lk F F.length then moreOf F[k] word else F[k]):=by
 unfold otherFrom
 rw [show lastFrom F=lk F F.length from rfl,List.getElem?_set]
 by_cases he:lk F F.length=k
 ·subst he
  rw [if_pos rfl,if_pos h,if_pos rfl,List.getD_eq_getElem?_getD,List.getElem?_eq_getElem h];rfl
 ·rw [if_neg he,if_neg (fun e=>he e.symm),List.getElem?_eq_getElem h]
theorem other_len (F:List BS)(word:BS):(otherFrom F word).length=F.length:=by unfold otherFrom;simp
theorem dOtherFrom_any (M word:BS)(F:List BS)(b:BS)(w:World)(hM:M.length≤1073741824)(hh:heads M=some (F,b))(hf: ∀f∈F,2≤f.length∧f.length≤4294967296)(hn:F.length≤1000000000)(hw:word.length≤1000000)(hb:b.length≤1000000000)(hl:(otherFrom F word).flatten.length≤1099511627776):
 Calls Tryz.prog 16 #[Str M,Str word] w fun e w'=>e= .returned (Str ((otherFrom F word).flatten++crlf++b))∧Below w.heap.size w w':=by
 have Hl:=Lib.hid hl
 have Hf:=Lib.hid hf
 clear hl hf
 go_enter Tryz.func16,Tryz.ntmps16
 go_wp2_with fail
 refine(dHead_any M w (by omega)).mono ?_
 rintro e w1 ⟨hp,hb1⟩
 rw [hh]at hp
 obtain⟨v,rfl,hv⟩:=hp
 have hvr:=hv.rd
 obtain⟨vA,vc,rfl,_,_⟩:=id hvr
 rw [stL]at hvr⊢
 clear hv hh
 go_wp2_with fail
 go_loopw [8,9] (fun v8 v9 wx=> ∃k:Nat,k≤F.length∧v9= .int .i64 k∧v8= .int .i64 (lk F k)∧Below w1.heap.size w1 wx) (fun _ v9 _=>F.length-(intOf v9).toNat)
 case atStart=>exact⟨0,Nat.zero_le _,rfl,rfl,Below.refl _ _⟩
 case round=>
  obtain⟨k,hk,rfl,rfl,hbx⟩:=hrel
  by_cases hlt:k<F.length
  ·have hvx:=hvr.below hbx
   obtain⟨A',c',he,_,hn0|⟨g,off,e,_,hc⟩⟩:=id hvx
   ·exfalso
    have:F.length=0:=by rw [←stL,hn0];rfl
    omega
   injection he with h1 h2 h3
   clear h2 h3
   subst h1
   subst e
   have hck:=hc k (Str F[k]) (by simp [strs,hlt])
   clear hc
   have h0:(0:Int)≤(k:Int):=by omega
   have h1:(k:Int)<(F.length:Int):=by omega
   have lf:=(Hf.out _ (List.getElem_mem hlt)).2
   have hs:=Lib.hid (lk_succ F k hlt)
   obtain⟨f,Hff⟩: ∃z,Hid (z=F[k]):=⟨_,Lib.hid rfl⟩
   rw [←Hff.out]at hck lf hs
   go_wp2_with fail
   refine(dName_any f wr (by omega)).mono ?_
   rintro e w2 ⟨rfl,hb2⟩
   have lnm:(name f).length≤4294967296:=by have:=name_len f;omega
   go_wp2_with fail
   refine(dLower_any (name f) w2 lnm).mono ?_
   rintro e w3 ⟨rfl,hb3⟩
   have hbx3:=hbx.trans ((hb2.trans (hb3.mono hb2.size)).mono hbx.size)
   by_cases hb':lower (name f)=fromS
   ·have e1:(lower (name f)== [102,114,111,109])=true:=by rw [hb'];rfl
    have hs2:Hid (lk F (k+1)=k):=by show _=_;rw [hs.out,if_pos hb']
    clear hb' hs
    go_wp2_with fail
    go_roundw
    case rel=>exact⟨k+1,hlt,by go_num,by rw [hs2.out],hbx3⟩
    case measure=>simp [intOf];omega
   ·have e1:(lower (name f)== [102,114,111,109])=false:=by simpa [fromS]using hb'
    have hs2:Hid (lk F (k+1)=lk F k):=by show _=_;rw [hs.out,if_neg hb']
    clear hb' hs
    go_wp2_with fail
    go_roundw
    case rel=>exact⟨k+1,hlt,by go_num,by rw [hs2.out],hbx3⟩
    case measure=>simp [intOf];omega
  ·have hkF:k=F.length:=by omega
   rw [hkF]
   clear hlt hk hkF
   have hvx:=hvr.below hbx
   have hbw:=hb1.trans (hbx.mono hb1.size)
   obtain⟨la,Hla⟩: ∃z,Hid (z=lk F F.length):=⟨_,Lib.hid rfl⟩
   rw [←Hla.out]
   go_wp2_with fail
   go_loopw [10,11] (fun v10 v11 wx=> ∃k:Nat,k≤F.length∧v11= .int .i64 k∧v10=Str ((otherFrom F word).take k).flatten∧wx=wr) (fun _ v11 _=>F.length-(intOf v11).toNat)
   case atStart=>exact⟨0,Nat.zero_le _,rfl,by simp,rfl⟩
   case round=>
    obtain⟨k,hk,rfl,rfl,rfl⟩:=hrel
    by_cases hlt:k<F.length
    ·have hlo:k<(otherFrom F word).length:=by rw [other_len];exact hlt
     obtain⟨A',c',he,_,hn0|⟨g,off,e,_,hc⟩⟩:=id hvx
     ·exfalso
      have:F.length=0:=by rw [←stL,hn0];rfl
      omega
     injection he with h1 h2 h3
     clear h2 h3
     subst h1
     subst e
     have hck:=hc k (Str F[k]) (by simp [strs,hlt])
     clear hc
     have h0:(0:Int)≤(k:Int):=by omega
     have h1:(k:Int)<(F.length:Int):=by omega
     have lf:=Hf.out _ (List.getElem_mem hlt)
     have hg:=other_get F word k hlt
     rw [List.getElem?_eq_getElem hlo]at hg
     injection hg with hg
     have hs:=flat_snoc (otherFrom F word) k hlo
     have hm:=flat_mem (otherFrom F word) k hlo
     have hll:=Hl.out
     rw [hg]at hs hm
     obtain⟨f,Hff⟩: ∃z,Hid (z=F[k]):=⟨_,Lib.hid rfl⟩
     obtain⟨acc,Hacc⟩: ∃z,Hid (z=((otherFrom F word).take k).flatten):=⟨_,Lib.hid rfl⟩
     rw [←Hff.out,←Hla.out]at hs hm
     rw [←Hff.out]at hck lf
     rw [←Hacc.out]at hs hm⊢
     have Hs:=Lib.hid hs
     clear hs hg
     obtain⟨lf1,lf2⟩:=lf
     by_cases hkl:k=la
     ·rw [if_pos hkl]at hm
      have Hs2:Hid (((otherFrom F word).take (k+1)).flatten=acc++moreOf f word):=by show _=_;rw [Hs.out,if_pos hkl]
      have e1:((k:Int)==(la:Int))=true:=by rw [hkl];simp
      have lm:acc.length+(moreOf f word).length≤1099511627776:=by omega
      unfold moreOf at lm
      simp only [List.length_append]at lm
      clear Hs hkl hm
      have c1:(0:Int)≤(f.length:Int)-2:=by omega
      have c2:(f.length:Int)-2≤(f.length:Int):=by omega
      have c3:((f.length:Int)-2).toNat=f.length-2:=by omega
      have c4:IntKind.i64.wrap ((f.length:Int)-2)=(f.length:Int)-2:=by rw [IntKind.wrap_i64];omega
      go_wp2_with fail
      go_roundw
      case rel=>
       refine⟨k+1,hlt,by go_num,?_,trivial⟩
       rw [Hs2.out]
       unfold moreOf
       show Str _=Str _
       congr 1
       simp [crlf]
      case measure=>simp [intOf];omega
     ·have Hs2:Hid (((otherFrom F word).take (k+1)).flatten=acc++f):=by show _=_;rw [Hs.out,if_neg hkl]
      rw [if_neg hkl]at hm
      have e1:((k:Int)==(la:Int))=false:=by rw [beq_eq_false_iff_ne];omega
      clear Hs hkl
      go_wp2_with fail
      go_roundw
      case rel=>exact⟨k+1,hlt,by go_num,by rw [Hs2.out],trivial⟩
      case measure=>simp [intOf];omega
    ·obtain rfl:k=F.length:=by omega
     have e2:(otherFrom F word).take F.length=otherFrom F word:=List.take_of_length_le (by rw [other_len];exact Nat.le_refl _)
     rw [e2]
     have hll:=Hl.out
     obtain⟨X,HX⟩: ∃z,Hid (z=(otherFrom F word).flatten):=⟨_,Lib.hid rfl⟩
     rw [←HX.out]at hll⊢
     clear e2
     go_wp2_with fail
     go_ret
     exact⟨by rw [←HX.out];simp [crlf],hbw⟩
end Go.Proofs.YtgilnagajcfkpaaGreatDoor
