import Derived.Test.YtgilnagajcfkpaaGreatDoorQ39
import Derived.Test.YtgilnagajcfkpaaGreatDoorQ42
import Derived.Test.YtgilnagajcfkpaaGreatDoorQ44
set_option maxHeartbeats 4000000
set_option maxRecDepth 1000000
set_option linter.all false
namespace Go.Proofs.YtgilnagajcfkpaaGreatDoor
open Go.RowKit
structure Glo (B:Nat)(w:World):Prop where
 six:6<B
 le:B≤w.heap.size
 k:KTab w
 full:FullErr w
 eof:EofErr w
 pow:Pow10 B w
theorem Glo.below {B:Nat} {w w':World} (h:Glo B w)(hb:Below B w w'):Glo B w' where
 six:=h.six
 le:=Nat.le_trans h.le hb.size
 k:=h.k.below hb h.six
 full:=by obtain⟨a,ha⟩:=h.full;exact⟨a,(hb.cell (p:=⟨5,0,none⟩) (show 5<B by have:=h.six;omega)).trans ha⟩
 eof:=by obtain⟨a,ha⟩:=h.eof;exact⟨a,(hb.cell (p:=⟨4,0,none⟩) (show 4<B by have:=h.six;omega)).trans ha⟩
 pow:=h.pow.below hb
theorem Glo.above {B:Nat} {w w':World} (h:Glo B w)(hb:Below w.heap.size w w'):Glo B w':=h.below (hb.mono h.le)
def optCells (o:Opt)(kv ksv:Value):List Value:= [Str o.dom,Str o.sel,Str o.ident, .iface 94 (Giv o.kind kv),Str o.hdr,Str o.bdy,ksv, .int .i64 o.exp, .bool (o.exp !=0), .slice none 0 0, .int .i64 o.now, .bool true]
def sgnCells (o:Opt)(op:Nat)(bv:Value)(lr:Int)(cl:Bool)(pv:Value):List Value:= [.pointer (some ⟨op,0,none⟩),Str o.kind,Str (formOf o.hdr),Str (formOf o.bdy),bv, .int .i64 0, .int .i8 lr, .bool cl,pv]
def KeysIn (w:World)(o:Opt)(ksv:Value):Prop:=(o.all=true∧ksv= .slice none 0 0)∨(o.all=false∧∃a n c,ksv= .slice (some a) n c∧Rd w ksv (strs o.keys))
theorem KeysIn.below {w w':World} {o:Opt} {ksv:Value} (h:KeysIn w o ksv)(hb:Below w.heap.size w w'):KeysIn w' o ksv:=by
 rcases h with h|⟨h,a,n,c,h1,h2⟩
 ·exact .inl h
 ·exact .inr ⟨h,a,n,c,h1,h2.below hb⟩
theorem KeysIn.frm {S:Nat→Prop} {w w':World} {o:Opt} {ksv:Value} (h:KeysIn w o ksv)(hF:Frm S w w')(hS: ∀k,ksv.ownBlock=some k→¬S k):KeysIn w' o ksv:=by
 rcases h with h|⟨h,a,n,c,h1,h2⟩
 ·exact .inl h
 ·exact .inr ⟨h,a,n,c,h1,h2.frm hF hS⟩
def PF (T:List Tag)(bv:BS):BS→Option BS:=fun x=>if x=tagB then some bv else look x T
theorem sha_len (l:BS):(sha l).length=32:=rfl
def FF (kd bh cv dm sl tm:BS)(v a h c d s u:Bool):BS→Option BS:=fun z=>
 if z= [118]∧v=true then some [49]else if z= [97]∧a=true then some (kd++sha256S)else if z= [98,104]∧h=true then some bh else if z= [99]∧c=true then some cv
 else if z= [100]∧d=true then some dm else if z= [115]∧s=true then some sl else if z= [116]∧u=true then some tm else none
section
variable (kd bh cv dm sl tm:BS) (v a h c d s u:Bool)
theorem ff_0 (z:BS):none=FF kd bh cv dm sl tm false false false false false false false z:=by simp [FF]
theorem ff_v (z:BS):putF (FF kd bh cv dm sl tm false a h c d s u) [118] [49] z=FF kd bh cv dm sl tm true a h c d s u z:=by
 unfold putF FF;by_cases e:z= [118]<;>simp [e]
theorem ff_a (z:BS):putF (FF kd bh cv dm sl tm v false h c d s u) [97] (kd++sha256S) z=FF kd bh cv dm sl tm v true h c d s u z:=by
 unfold putF FF;by_cases e:z= [97]<;>simp [e]
theorem ff_h (z:BS):putF (FF kd bh cv dm sl tm v a false c d s u) [98,104] bh z=FF kd bh cv dm sl tm v a true c d s u z:=by
 unfold putF FF;by_cases e:z= [98,104]<;>simp [e]
theorem ff_c (z:BS):putF (FF kd bh cv dm sl tm v a h false d s u) [99] cv z=FF kd bh cv dm sl tm v a h true d s u z:=by
 unfold putF FF;by_cases e:z= [99]<;>simp [e]
theorem ff_d (z:BS):putF (FF kd bh cv dm sl tm v a h c false s u) [100] dm z=FF kd bh cv dm sl tm v a h c true s u z:=by
 unfold putF FF;by_cases e:z= [100]<;>simp [e]
theorem ff_s (z:BS):putF (FF kd bh cv dm sl tm v a h c d false u) [115] sl z=FF kd bh cv dm sl tm v a h c d true u z:=by
 unfold putF FF;by_cases e:z= [115]<;>simp [e]
theorem ff_u (z:BS):putF (FF kd bh cv dm sl tm v a h c d s false) [116] tm z=FF kd bh cv dm sl tm v a h c d s true z:=by
 unfold putF FF;by_cases e:z= [116]<;>simp [e]
end
theorem mapS_obj {w:World} {b n:Nat} {f:BS→Option BS} (h:MapS w b n f): ∃es clock,w.heap[b]?=some (.map es clock):=by
 obtain⟨D,⟨es,clock,h,_⟩,_⟩:=h
 exact⟨es,clock,h⟩
theorem blk_ne_map {w:World} {g b n:Nat} {t:TypeId} {cs:List Value} {f:BS→Option BS} (h:Blk w g t cs)(hm:MapS w b n f):g≠b:=by
 rintro rfl
 obtain⟨es,c,hb⟩:=mapS_obj hm
 rw [h]at hb
 cases hb
theorem rd_ne_map {w:World} {v:Value} {xs:List Value} {b n:Nat} {f:BS→Option BS} (h:Rd w v xs)(hx:xs≠ [])(hm:MapS w b n f):v.ownBlock≠some b:=by
 obtain⟨A,c,rfl,_,h|⟨g,off,rfl,_,hc⟩⟩:=h
 ·exact absurd h hx
 ·intro e
  have e:g=b:=Option.some.inj e
  subst e
  obtain⟨es,cl,hb⟩:=mapS_obj hm
  obtain⟨x,r,hxr⟩:=List.exists_cons_of_ne_nil hx
  have h0:=hc 0 x (by rw [hxr];rfl)
  rw [Nat.add_zero]at h0
  unfold World.cell? at h0
  rw [hb]at h0
  simp at h0
structure SgSt (w wc:World)(dg:Nat)(st:St8)(bv hv:Value)(F:List BS)(u:Value)(NM:List BS)(g K:Nat)(f:BS→Option BS):Prop where
 b:Below w.heap.size w wc
 dig:Blk wc dg 270 (st.vals++ [bv])
 hdr:Rd wc hv (strs F)
 nms:Rd wc u (strs NM)
 map:MapS wc g K f
theorem SgSt.below {w wc wd:World} {dg:Nat} {st:St8} {bv hv:Value} {F:List BS} {u:Value} {NM:List BS} {g K:Nat} {f:BS→Option BS} (h:SgSt w wc dg st bv hv F u NM g K f)(hb:Below wc.heap.size wc wd):SgSt w wd dg st bv hv F u NM g K f:=
 ⟨h.b.trans (hb.mono h.b.size),h.dig.below hb h.dig.lt,h.hdr.below hb,h.nms.below hb,h.map.below hb h.map.lt⟩
theorem SgSt.put {w wc wd:World} {dg:Nat} {st:St8} {bv hv:Value} {F:List BS} {u:Value} {NM:List BS} {g K:Nat} {f f':BS→Option BS} (h:SgSt w wc dg st bv hv F u NM g K f)(hm:MapS wd g (K+1) f')(hg:wc.grownBy wd (some g))(hw:w.heap.size≤g)(hF:F≠ [])(hN:NM≠ []):SgSt w wd dg st bv hv F u NM g (K+1) f':=
 ⟨h.b.trans ((Below.refl _ _).grown hg h.b.size (by simp [hw])),h.dig.grown hg (fun e=>blk_ne_map h.dig h.map (Option.some.inj e)),h.hdr.kept hg (.inr (rd_ne_map h.hdr (by simp [strs,hF]) h.map)),h.nms.kept hg (.inr (rd_ne_map h.nms (by simp [strs,hN]) h.map)),hm⟩
theorem did_nil (fs:List BS)(k:BS):0=didF fs [] k:=by simp [didF,countIn]
theorem newPicker_any (hv:Value)(fs:List BS)(w:World)(hr:Rd w hv (strs fs))(hlt: ∀k,hv.ownBlock=some k→k<w.heap.size):
 Calls Tryz.prog 124 #[hv] w fun e w'=>e= .returned (.pointer (some ⟨w.heap.size+1,0,none⟩))∧w'.heap.size=w.heap.size+2∧Pk w' (w.heap.size+1) w.heap.size 0 hv fs (didF fs [])∧Below w.heap.size w w':=by
 obtain⟨A,c,he,_⟩:=id hr
 subst he
 have hb1:=(Below.refl w.heap.size w).alloc (Nat.le_refl _) (.map #[] 0)
 have hs1:(w.alloc (.map #[] 0)).heap.size=w.heap.size+1:=by simp
 have hb2:=hb1.alloc hb1.size (.cells #[.slice A (strs fs).length c, .map (some w.heap.size)] 274)
 have hm:MapI ((w.alloc (.map #[] 0)).alloc (.cells #[.slice A (strs fs).length c, .map (some w.heap.size)] 274)) w.heap.size 0 (didF fs []):=
  ((MapI.new w).below ((Below.refl _ _).alloc (Nat.le_refl _) _) (by rw [hs1];omega)).congr (did_nil fs)
 have hk:Blk ((w.alloc (.map #[] 0)).alloc (.cells #[.slice A (strs fs).length c, .map (some w.heap.size)] 274)) (w.heap.size+1) 274 [.slice A (strs fs).length c, .map (some w.heap.size)]:=by
  have h:=Blk.new (w.alloc (.map #[] 0)) 274 #[.slice A (strs fs).length c, .map (some w.heap.size)]
  rw [hs1]at h
  exact h
 have hs2:((w.alloc (.map #[] 0)).alloc (.cells #[.slice A (strs fs).length c, .map (some w.heap.size)] 274)).heap.size=w.heap.size+2:=by simp
 have hmm:= @run_makeMap Tryz.prog
 go_enter Tryz.func124,Tryz.ntmps124
 go_wp2
 go_ret
 exact⟨rfl,hs2,⟨hk,hr.below hb2,hm,by omega,fun e=>by have:=hlt _ e;omega⟩,hb2⟩
theorem Pk.frm {S:Nat→Prop} {w w':World} {q b n:Nat} {hv:Value} {fs:List BS} {f:BS→Nat} (p:Pk w q b n hv fs f)(hF:Frm S w w')(hq: ¬S q)(hb: ¬S b)(hh: ∀k,hv.ownBlock=some k→¬S k):Pk w' q b n hv fs f:=
 ⟨p.blk.frm hF hq,p.rd.frm hF hh,p.map.frm hF hb,p.ne,p.nb⟩
def accOf (form:BS)(F nm:List BS)(k:Nat):BS:=(((picked F nm).take k).map fun f=>if f= []then []else fieldOf form f).flatten
theorem accOf_all (form:BS)(F nm:List BS):accOf form F nm nm.length=allOf form F nm:=by
 unfold accOf allOf
 rw [List.take_of_length_le (by rw [picked_length];exact Nat.le_refl _)]
theorem pickedC_get (fs:List BS): ∀(nm done:List BS)(k:Nat)(h:k<nm.length),(pickedC fs done nm)[k]?=some (pickAt fs (lower nm[k]) (countIn (lower nm[k]) (done++nm.take k)))
 | [],_,k,h=>by simp at h
 |x::r,done,0,_=>by simp [pickedC]
 |x::r,done,k+1,h=>by
  rw [pickedC,List.getElem?_cons_succ,pickedC_get fs r (done++ [x]) k (by simpa using h)]
  simp
theorem accOf_step (form:BS)(F nm:List BS)(k:Nat)(h:k<nm.length):accOf form F nm (k+1)=accOf form F nm k++(if pickAt F (lower nm[k]) (countIn (lower nm[k]) (nm.take k))= []then []else fieldOf form (pickAt F (lower nm[k]) (countIn (lower nm[k]) (nm.take k)))):=by
 unfold accOf
 have hg:=pickedC_get F nm [] k h
 rw [←picked_eq,List.nil_append]at hg
 have hl:k<(picked F nm).length:=by rw [picked_length];exact h
 rw [List.take_succ_eq_append_getElem hl,List.map_append,List.flatten_append]
 rw [List.getElem?_eq_getElem hl]at hg
 injection hg with hg
 rw [hg]
 simp
theorem pickAt_mem (fs:List BS)(nm:BS)(c:Nat):pickAt fs nm c= []∨pickAt fs nm c∈fs:=by
 unfold pickAt
 rw [List.getD_eq_getElem?_getD]
 cases h:(fs.filter (named nm)).reverse[c]? with
 |none=>exact .inl rfl
 |some x=>
  have:=List.mem_of_getElem? h
  rw [List.mem_reverse,List.mem_filter]at this
  exact .inr this.1
theorem accOf_len (form:BS)(F nm:List BS)(M:Nat)(h: ∀f∈F,(fieldOf form f).length≤M): ∀k,k≤nm.length→(accOf form F nm k).length≤k*M
 |0,_=>by simp [accOf]
 |k+1,hk=>by
  rw [accOf_step form F nm k (by omega),List.length_append,Nat.add_mul]
  have ih:=accOf_len form F nm M h k (by omega)
  split
  ·simp;omega
  ·next hne=>
   have hm:=(pickAt_mem F _ _).resolve_left hne
   have:=h _ hm
   omega
theorem fieldOf_len (form f:BS):(fieldOf form f).length≤4*f.length+10:=by
 have h1:=cutAt_len 58 f
 have h2:=trim_len (lower (cutAt 58 f).1)
 have h3:=joined_len (cutAt 58 f).2.1
 have h4:=trim_len (lower f)
 rw [lwL]at h2 h4
 unfold fieldOf
 split
 ·omega
 ·split
  ·simp [crlf];omega
  ·simp;omega
structure LpSt (w wc:World)(P dg q pb:Nat)(st:St8)(hv:Value)(F:List BS)(u:Value)(NM:List BS)(g K:Nat)(f:BS→Option BS)(form:BS)(k:Nat):Prop where
 b:Below w.heap.size w wc
 nms:Rd wc u (strs NM)
 map:MapS wc g K f
 pk: ∃n,n≤k∧Pk wc q pb n hv F (didF F (NM.take k))
 dig: ∃o,DigSk st dg wc dg o (accOf form F NM k)∧∀j,o=some j→P≤j
 hP:P≤wc.heap.size
structure LpGeo (B P dg q pb g:Nat)(hv u:Value):Prop where
 fq:q<P∧B≤q
 fpb:pb<P∧B≤pb
 fdg:dg<P∧B≤dg
 fg:g<P∧B≤g
 fne:dg≠q∧dg≠pb∧dg≠g∧g≠pb∧g≠q∧q≠pb
 fhv: ∀k,hv.ownBlock=some k→k<P∧k≠pb∧k≠dg
 fu: ∀k,u.ownBlock=some k→k<P∧k≠pb∧k≠dg
variable {w wc w1 w2 w3:World} {P dg q pb g K k n:Nat} {st:St8} {hv u:Value} {F NM:List BS} {f:BS→Option BS} {form:BS}
theorem LpSt.none (h:LpSt w wc P dg q pb st hv F u NM g K f form k)(hg:LpGeo w.heap.size P dg q pb g hv u)(hk:k<NM.length)(hp:Pk w1 q pb n hv F (didF F (NM.take k++ [NM[k]])))(hn:n≤k+1)(hF:Frm (· =pb) wc w1)
 (he:pickAt F (lower NM[k]) (countIn (lower NM[k]) (NM.take k))= []):LpSt w w1 P dg q pb st hv F u NM g K f form (k+1) where
 b:=h.b.trans (hF.below (fun j _ e=>by rw [e];exact hg.fpb.2) h.b.size)
 nms:=h.nms.frm hF (fun j hj=>(hg.fu j hj).2.1)
 map:=h.map.frm hF hg.fne.2.2.2.1
 pk:=⟨n,hn,by rw [List.take_succ_eq_append_getElem hk];exact hp⟩
 dig:=by
  obtain⟨o,hd,ho⟩:=h.dig
  refine⟨o,?_,ho⟩
  rw [accOf_step form F NM k hk,if_pos he,List.append_nil]
  exact(dig_law st dg).frm _ _ _ _ _ _ hd hF hg.fne.2.1 (fun j hj e=>by have:=ho j hj;have:=hg.fpb.1;omega)
 hP:=Nat.le_trans h.hP hF.size
theorem LpSt.some (h:LpSt w wc P dg q pb st hv F u NM g K f form k)(hg:LpGeo w.heap.size P dg q pb g hv u)(hk:k<NM.length)(hp:Pk w1 q pb n hv F (didF F (NM.take k++ [NM[k]])))(hn:n≤k+1)(hF:Frm (· =pb) wc w1)(hb:Below w1.heap.size w1 w2):
 ∃o,DigSk st dg w2 dg o (accOf form F NM k)∧(∀j,o=Option.some j→P≤j)∧∀(w3:World) (o':Option Nat) (l:BS),DigSk st dg w3 dg o' (accOf form F NM k++l)→(∀j,o'=Option.some j→o=Option.some j∨w2.heap.size≤j)→Frm (fun j=>j=dg∨Option.some j=o) w2 w3→
  accOf form F NM (k+1)=accOf form F NM k++l→LpSt w w3 P dg q pb st hv F u NM g K f form (k+1):=by
 obtain⟨o,hd,ho⟩:=h.dig
 have hd1:=(dig_law st dg).frm _ _ _ _ _ _ hd hF hg.fne.2.1 (fun j hj e=>by have:=ho j hj;have:=hg.fpb.1;omega)
 have hd2:=(dig_law st dg).frm (fun _=>False) _ _ _ _ _ hd1 (Frm.of_new hb) (fun e=>e) (fun _ _ e=>e)
 refine⟨o,hd2,ho,fun w3 o' l hd3 ho3 hF3 hacc=> ?_⟩
 have hP2:P≤w2.heap.size:=Nat.le_trans h.hP (Nat.le_trans hF.size hb.size)
 have hb1:=h.b.trans (hF.below (fun j _ e=>by rw [e];exact hg.fpb.2) h.b.size)
 have hb2:=hb1.trans (hb.mono hb1.size)
 have hPb:w.heap.size≤P:=by have:=hg.fq;omega
 refine⟨hb2.trans (hF3.below (fun j _ e=> ?_) hb2.size),?_,?_,⟨n,hn,?_⟩,⟨o',by rw [hacc];exact hd3,fun j hj=> ?_⟩,Nat.le_trans hP2 hF3.size⟩
 ·rcases e with e|e
  ·rw [e];exact hg.fdg.2
  ·have:=ho j e.symm;omega
 ·refine((h.nms.frm hF (fun j hj=>(hg.fu j hj).2.1)).below hb).frm hF3 (fun j hj e=> ?_)
  have:=hg.fu j hj
  rcases e with e|e
  ·exact this.2.2 e
  ·have:=ho j e.symm;omega
 ·refine((h.map.frm hF hg.fne.2.2.2.1).below hb (h.map.frm hF hg.fne.2.2.2.1).lt).frm hF3 (fun e=> ?_)
  rcases e with e|e
  ·exact hg.fne.2.2.1 e.symm
  ·have:=ho _ e.symm;have:=hg.fg.1;omega
 ·rw [List.take_succ_eq_append_getElem hk]
  have hp2:Pk w2 q pb n hv F (didF F (NM.take k++ [NM[k]])):=hp.frm (Frm.of_new (S:=fun _=>False) hb) (fun e=>e) (fun e=>e) (fun _ _ e=>e)
  refine hp2.frm hF3 (fun e=> ?_) (fun e=> ?_) (fun j hj e=> ?_)
  ·rcases e with e|e
   ·exact hg.fne.1 e.symm
   ·have:=ho _ e.symm;have:=hg.fq.1;omega
  ·rcases e with e|e
   ·exact hg.fne.2.1 e.symm
   ·have:=ho _ e.symm;have:=hg.fpb.1;omega
  ·have:=hg.fhv j hj
   rcases e with e|e
   ·exact this.2.2 e
   ·have:=ho _ e.symm;omega
 ·rcases ho3 j hj with e|e
  ·exact ho j e
  ·omega
end Go.Proofs.YtgilnagajcfkpaaGreatDoor
namespace Go.Proofs.YtgilnagajcfkpaaGreatDoor
open Go.RowKit
def gathered (o:Opt)(nm:List BS)(bh:BS):BS→Option BS:=
 if o.exp=0 then(if o.ident= []then putF (FF o.kind bh (formOf o.hdr++47::formOf o.bdy) o.dom o.sel (Lib.decDigits o.now) true true true true true true true) [104] (joinC nm)
     else putF (putF (FF o.kind bh (formOf o.hdr++47::formOf o.bdy) o.dom o.sel (Lib.decDigits o.now) true true true true true true true) [104] (joinC nm)) [105] o.ident)
  else putF (if o.ident= []then putF (FF o.kind bh (formOf o.hdr++47::formOf o.bdy) o.dom o.sel (Lib.decDigits o.now) true true true true true true true) [104] (joinC nm)
   else putF (putF (FF o.kind bh (formOf o.hdr++47::formOf o.bdy) o.dom o.sel (Lib.decDigits o.now) true true true true true true true) [104] (joinC nm)) [105] o.ident) [120] (Lib.decDigits o.exp)
theorem gathered_eq (o:Opt)(nm:List BS)(bh bv:BS)(z:BS):putF (gathered o nm bh) [98] bv z=PF (optTags o nm bh) bv z:=by
 unfold PF putF
 show(if z=tagB then _ else _)=_
 by_cases hb:z=tagB
 ·rw [if_pos hb,if_pos hb]
 ·rw [if_neg hb,if_neg hb]
  unfold gathered optTags
  by_cases he:o.exp=0<;>by_cases hi:o.ident= []<;>
  ·simp only [he,hi,if_true,if_false,putF,FF,List.cons_append,List.nil_append,List.append_nil,look]
   by_cases h1:z= [118]
   ·subst h1;simp
   by_cases h2:z= [97]
   ·subst h2;simp
   by_cases h3:z= [98,104]
   ·subst h3;simp
   by_cases h4:z= [99]
   ·subst h4;simp
   by_cases h5:z= [100]
   ·subst h5;simp
   by_cases h6:z= [115]
   ·subst h6;simp
   by_cases h7:z= [116]
   ·subst h7;simp
   by_cases h8:z= [104]
   ·subst h8;simp
   by_cases h9:z= [105]
   ·subst h9;simp
   by_cases h10:z= [120]
   ·subst h10;simp
   simp [h1,h2,h3,h4,h5,h6,h7,h8,h9,h10,Ne.symm h1,Ne.symm h2,Ne.symm h3,Ne.symm h4,Ne.symm h5,Ne.symm h6,Ne.symm h7,Ne.symm h8,Ne.symm h9,Ne.symm h10]
theorem look_mem: ∀(T:List Tag)(x v:BS),look x T=some v→x∈T.map fun t=>t.1
 | [],x,v,h=>by simp [look]at h
 |t::r,x,v,h=>by
  unfold look at h
  split at h
  ·next e=>simp [e]
  ·have:=look_mem r x v h
   simp only [List.map_cons,List.mem_cons]
   exact .inr this
theorem look_of_mem: ∀(T:List Tag),(T.map fun t=>t.1).Nodup→∀t∈T,look t.1 T=some t.2
 | [],_,t,h=>by simp at h
 |u::r,hn,t,h=>by
  rw [List.map_cons,List.nodup_cons]at hn
  unfold look
  rcases List.mem_cons.1 h with rfl|h
  ·rw [if_pos rfl]
  ·rw [if_neg (fun e=>hn.1 (by rw [e];exact List.mem_map.2 ⟨t,h,rfl⟩)),look_of_mem r hn.2 t h]
theorem opt_nodup (o:Opt)(nm:List BS)(bh:BS):((optTags o nm bh).map fun t=>t.1).Nodup∧∀t∈optTags o nm bh,t.1≠tagB:=by
 have h:=tags_keys o nm bh
 rw [List.nodup_append]at h
 exact⟨h.1,fun t ht e=>h.2.2 _ (List.mem_map.2 ⟨t,ht,rfl⟩) [98] (by simp) e⟩
theorem opt_sorted (o:Opt)(nm:List BS)(bh:BS):((optTags o nm bh).map fun t=>t.1).Pairwise fun x y=>x≤y:=by
 unfold optTags
 by_cases he:o.exp=0<;>by_cases hi:o.ident= []<;>simp only [he,hi,if_true,if_false,List.append_nil,List.cons_append,List.nil_append,List.map_cons,List.map_nil,List.pairwise_cons,List.mem_cons,List.not_mem_nil,forall_eq_or_imp,false_implies,implies_true,and_true,List.Pairwise.nil,forall_eq,or_false]<;>(repeat' apply And.intro)<;>decide
theorem pf_conds (o:Opt)(nm:List BS)(bh bv:BS):PF (optTags o nm bh) bv tagB=some bv∧(∀t∈optTags o nm bh,PF (optTags o nm bh) bv t.1=some t.2∧t.1≠tagB)∧(∀x,(PF (optTags o nm bh) bv x).isSome=true→x≠tagB→x∈(optTags o nm bh).map fun t=>t.1):=by
 obtain⟨h1,h2⟩:=opt_nodup o nm bh
 refine⟨by unfold PF;rw [if_pos rfl],fun t ht=>⟨?_,h2 t ht⟩,fun x hx hne=> ?_⟩
 ·unfold PF;rw [if_neg (h2 t ht)];exact look_of_mem _ h1 t ht
 ·unfold PF at hx
  rw [if_neg hne]at hx
  obtain⟨v,hv⟩:=Option.isSome_iff_exists.1 hx
  exact look_mem _ x v hv
theorem opt_short {o:Opt} {nm:List BS} {bh:BS} (hO:OptOk o)(hn:(joinC nm).length≤1000000000)(hb:bh.length≤1000): ∀t∈optTags o nm bh,t.1.length+t.2.length≤1073741824:=by
 have hl:=hO.lens
 have h1:=hl.1;have h2:=hl.2.1;have h3:=hl.2.2.1
 have hk:o.kind.length≤10:=by rcases hO.kinds with h|h<;>rw [h]<;>decide
 have hf:(formOf o.hdr).length≤10:=by rcases hO.hform with h|h<;>rw [h]<;>decide
 have hg:(formOf o.bdy).length≤10:=by rcases hO.bform with h|h<;>rw [h]<;>decide
 have ht:(Lib.decDigits o.now).length≤10:=dec_len 9 o.now (by have:=hO.now;omega)
 have hx:(Lib.decDigits o.exp).length≤10:=dec_len 9 o.exp (by have:=hO.exp;omega)
 unfold optTags
 by_cases he:o.exp=0<;>by_cases hi:o.ident= []<;>simp [he,hi,sha256S]<;>omega
theorem opt_count (o:Opt)(nm:List BS)(bh:BS):optTags o nm bh≠ []∧(optTags o nm bh).length≤1000:=by
 unfold optTags
 by_cases he:o.exp=0<;>by_cases hi:o.ident= []<;>simp [he,hi]
theorem rd_lt {w:World} {v:Value} {xs:List Value} (h:Rd w v xs)(hx:xs≠ []): ∀k,v.ownBlock=some k→k<w.heap.size:=by
 obtain⟨A,c,rfl,_,h|⟨g,off,rfl,hg,_⟩⟩:=h
 ·exact absurd h hx
 ·intro k hk
  have e:g=k:=Option.some.inj hk
  rw [←e];exact hg
theorem rd_ne_blkS {w:World} {v bv:Value} {xs:List BS} {g:Nat} {st:St8} (h:Rd w v (strs xs))(hx:xs≠ [])(hb:Blk w g 270 (st.vals++ [bv]))(hbv: ∀x:BS,bv≠Str x):v.ownBlock≠some g:=by
 obtain⟨A',c',rfl,_,h|⟨g',off,rfl,hg,hc⟩⟩:=h
 ·simp [strs,hx]at h
 ·intro e
  have e:g'=g:=Option.some.inj e
  subst e
  obtain⟨x,r,hxr⟩:=List.exists_cons_of_ne_nil hx
  have h0:=hc 0 (Str x) (by rw [hxr];rfl)
  rw [Nat.add_zero]at h0
  unfold World.cell? at h0
  rw [hb]at h0
  simp at h0
  have h9:off<9:=by
   have:=(List.getElem?_eq_some_iff.1 h0).1
   simpa [St8.vals]using this
  rcases(show off=0∨off=1∨off=2∨off=3∨off=4∨off=5∨off=6∨off=7∨off=8 by omega)with rfl|rfl|rfl|rfl|rfl|rfl|rfl|rfl|rfl<;>try (simp [St8.vals]at h0;done)
  exact hbv x (by simpa [St8.vals]using h0)
theorem Rd.ptr {w:World} {v:Value} {xs:List Value} (h:Rd w v xs)(hx:xs≠ []): ∃g off c,v= .slice (some ⟨g,off,none⟩) xs.length c:=by
 obtain⟨A,c,rfl,_,h|⟨g,off,rfl,_⟩⟩:=h
 ·exact absurd h hx
 ·exact⟨g,off,c,rfl⟩
theorem Rd.get {w:World} {g off n c:Nat} {xs:List Value} (h:Rd w (.slice (some ⟨g,off,none⟩) n c) xs)(k:Nat)(u:Value)(hk:xs[k]?=some u):w.cell? ⟨g,off+k,none⟩=some u:=by
 obtain⟨A,c',he,_,h|⟨g',off',rfl,_,hc⟩⟩:=h
 ·subst h;simp at hk
 ·injection he with h1 _ _
  injection h1 with h1
  injection h1 with h1 h2 _
  subst h1;subst h2
  exact hc k u hk
theorem plain_enc (x:BS):plain (enc64 x)=true:=plain_all.2 fun c hc=>(enc_all x c hc).2.2
theorem plain_dec (n:Nat):plain (Lib.decDigits n)=true:=plain_all.2 fun c hc=>by
 have h:=dec_digits n c hc
 unfold digitB at h
 simp only [Bool.and_eq_true,decide_eq_true_eq]at h
 unfold plainB
 have h1:48≤c.toNat:=h.1
 have h2:c.toNat≤57:=h.2
 simp only [Bool.and_eq_true,decide_eq_true_eq,bne_iff_ne,ne_eq]
 refine⟨⟨UInt8.lt_iff_toNat_lt.2 (by simp;omega),fun e=> ?_⟩,fun e=> ?_⟩<;> · rw [e]at h1;simp at h1
theorem plain_joinC: ∀(l:List BS),(∀x∈l,plain x=true)→plain (joinC l)=true
 | [],_=>rfl
 | [a],h=>h a (by simp)
 |a::b::r,h=>by
  show plain (a++ [58]++joinC (b::r))=true
  rw [plain_app,plain_app]
  exact⟨⟨h a (by simp),rfl⟩,plain_joinC (b::r) fun x hx=>h x (by simp [hx])⟩
theorem plain_item (t:Tag)(h:plain t.1=true∧plain t.2=true):plain (item t)=true:=by
 unfold item
 rw [plain_app,plain_app,plain_app,plain_app]
 exact⟨⟨⟨⟨rfl,h.1⟩,rfl⟩,h.2⟩,rfl⟩
theorem plain_fmt: ∀(T:List Tag)(s:BS×BS),(∀t∈T,plain t.1=true∧plain t.2=true)→plain s.1=true→plain s.2=true→plain (T.foldl fmtStep s).1=true∧plain (T.foldl fmtStep s).2=true
 | [],s,_,h1,h2=>⟨h1,h2⟩
 |t::r,s,h,h1,h2=>by
  rw [List.foldl_cons]
  have hi:=plain_item t (h t (by simp))
  refine plain_fmt r _ (fun u hu=>h u (by simp [hu])) ?_ ?_<;>(unfold fmtStep;split)
  ·show plain (s.1++s.2++crlf)=true
   rw [plain_app,plain_app];exact⟨⟨h1,h2⟩,rfl⟩
  ·exact h1
  ·exact hi
  ·show plain (s.2++item t)=true
   rw [plain_app];exact⟨h2,hi⟩
theorem plain_field (T:List Tag)(b:BS)(h: ∀t∈T,plain t.1=true∧plain t.2=true)(hb:plain b=true):plain (sigField T b)=true:=by
 have hf:=plain_fmt T (sigName++ [58],[]) h (by decide) rfl
 unfold sigField fmtFields
 simp only [plain_app]
 exact⟨⟨⟨⟨⟨hf.1,hf.2⟩,by decide⟩,by decide⟩,hb⟩,by decide⟩
theorem plain_opt {o:Opt} {nm:List BS} {bh:BS} (hO:OptOk o)(hn: ∀x∈nm,plain x=true)(hb:plain bh=true): ∀t∈optTags o nm bh,plain t.1=true∧plain t.2=true:=by
 have hp:=hO.plain
 have h1:plain (o.kind++sha256S)=true:=by rcases hO.kinds with h|h<;>rw [h]<;>decide
 have h2:plain (formOf o.hdr++ [47]++formOf o.bdy)=true:=by rcases hO.hform with h|h<;>rcases hO.bform with k|k<;>rw [h,k]<;>decide
 have h3:=plain_joinC nm hn
 have h4:=plain_dec o.now
 have h5:=plain_dec o.exp
 unfold optTags
 intro t ht
 simp only [List.mem_append,List.mem_cons,List.not_mem_nil,or_false]at ht
 rcases ht with(((rfl|rfl|rfl|rfl|rfl)|ht)|(rfl|rfl|rfl))|ht
 ·exact⟨by dsimp only;decide,h1⟩
 ·exact⟨by dsimp only;decide,hb⟩
 ·exact⟨by dsimp only;decide,h2⟩
 ·exact⟨by dsimp only;decide,hp.1⟩
 ·exact⟨by dsimp only;decide,h3⟩
 ·split at ht
  ·simp at ht
  ·obtain rfl:=List.mem_singleton.1 ht
   exact⟨by dsimp only;decide,hp.2.2.1⟩
 ·exact⟨by dsimp only;decide,hp.2.1⟩
 ·exact⟨by dsimp only;decide,h4⟩
 ·exact⟨by dsimp only;decide,by dsimp only;decide⟩
 ·split at ht
  ·simp at ht
  ·obtain rfl:=List.mem_singleton.1 ht
   exact⟨by dsimp only;decide,h5⟩
theorem opt_short5 {o:Opt} {nm:List BS} {bh:BS} (hO:OptOk o)(hn:(joinC nm).length≤400000)(hb:bh.length≤1000): ∀t∈optTags o nm bh,t.1.length+t.2.length≤500000:=by
 have hl:=hO.lens
 have h1:=hl.1;have h2:=hl.2.1;have h3:=hl.2.2.1
 have hk:o.kind.length≤10:=by rcases hO.kinds with h|h<;>rw [h]<;>decide
 have hf:(formOf o.hdr).length≤10:=by rcases hO.hform with h|h<;>rw [h]<;>decide
 have hg:(formOf o.bdy).length≤10:=by rcases hO.bform with h|h<;>rw [h]<;>decide
 have ht:(Lib.decDigits o.now).length≤10:=dec_len 9 o.now (by have:=hO.now;omega)
 have hx:(Lib.decDigits o.exp).length≤10:=dec_len 9 o.exp (by have:=hO.exp;omega)
 unfold optTags
 by_cases he:o.exp=0<;>by_cases hi:o.ident= []<;>simp [he,hi,sha256S]<;>omega
theorem opt_twelve (o:Opt)(nm:List BS)(bh:BS):(optTags o nm bh).length≤12:=by
 unfold optTags
 by_cases he:o.exp=0<;>by_cases hi:o.ident= []<;>simp [he,hi]
theorem field_len {o:Opt} {nm:List BS} {bh:BS} (hO:OptOk o)(hn:(joinC nm).length≤400000)(hb:bh.length≤1000)(b:BS):(sigField (optTags o nm bh) b).length≤7000000+b.length:=by
 have h:=fmt_len 500000 (optTags o nm bh) (sigName++ [58]) [] (opt_short5 hO hn hb)
 have ht:=opt_twelve o nm bh
 unfold sigField fmtFields
 simp only [List.length_append,List.length_cons,List.length_nil,crlf]at h⊢
 have hs:sigName.length=14:=by decide
 have:(optTags o nm bh).length*(500000+5)≤12*(500000+5):=Nat.mul_le_mul_right _ ht
 omega
theorem without_len (l:BS):(without l).length≤l.length:=by
 unfold without
 rw [List.length_reverse]
 have h:=(List.dropWhile_sublist (p:=eolB) (l:=l.reverse)).length_le
 rwa [List.length_reverse]at h
theorem gathered_is (o:Opt)(nm:List BS)(bh:BS) {f0 f1 f2 f3:BS→Option BS} {hfm bfm TM:BS} (h0:f0=FF o.kind bh (hfm++47::bfm) o.dom o.sel TM true true true true true true true)
 (h1:f1=putF f0 [104] (joinC nm))(h2:f2=if o.ident= []then f1 else putF f1 [105] o.ident)(h3:f3=if o.exp=0 then f2 else putF f2 [120] (Lib.decDigits o.exp))(hh:hfm=formOf o.hdr)(hb:bfm=formOf o.bdy)(ht:TM=Lib.decDigits o.now):f3=gathered o nm bh:=by
 subst hh;subst hb;subst ht;subst h0;subst h1;subst h2;subst h3
 unfold gathered
 rfl
theorem m94_Algo (kind:BS)(kv:Value)(w:World):(method 486 94 (Giv kind kv) "Algo").run Tryz.prog w= .ok (238,Giv kind kv) w:=by kernel_rfl
theorem n94_Algo (kind:BS)(kv:Value)(w:World):(nilAhead 486 94 (Giv kind kv) "Algo").run Tryz.prog w= .ok (some false) w:=by kernel_rfl
theorem m94_Sign (kind:BS)(kv:Value)(w:World):(method 486 94 (Giv kind kv) "Sign").run Tryz.prog w= .ok (239,Giv kind kv) w:=by kernel_rfl
theorem n94_Sign (kind:BS)(kv:Value)(w:World):(nilAhead 486 94 (Giv kind kv) "Sign").run Tryz.prog w= .ok (some false) w:=by kernel_rfl
theorem pf_put (T:List Tag)(bv bv':BS)(z:BS):putF (PF T bv) [98] bv' z=PF T bv' z:=by
 unfold PF putF
 show(if z=tagB then _ else _)=_
 by_cases hb:z=tagB
 ·rw [if_pos hb,if_pos hb]
 ·rw [if_neg hb,if_neg hb];exact if_neg hb
def signsFrom (o:Opt):Prop:=o.all=true∨∃k∈o.keys,lower k=fromS
def noFrom (K:List BS)(k:Nat):Prop:= ∀x∈K.take k,lower x≠fromS
def NsPost (w:World)(op:Nat)(o:Opt)(e:Ending)(w':World):Prop:=
 ((signsFrom o∧∃sg,e= .returned (.tuple #[.pointer (some ⟨sg,0,none⟩), .nilIface])∧Blk w' sg 181 (sgnCells o op (.slice none 0 0) 0 false (.map none))∧w.heap.size≤sg)∨(¬signsFrom o∧∃a,e= .returned (.tuple #[.pointer none, .iface 242 (.pointer (some a))])))∧Below w.heap.size w w'
theorem newSigner_any (op:Nat)(o:Opt)(kv ksv:Value)(w:World)(hop:Blk w op 137 (optCells o kv ksv))(hks:KeysIn w o ksv)(hO:OptOk o):
 Calls Tryz.prog 64 #[.pointer (some ⟨op,0,none⟩)] w (NsPost w op o):=by
 have o0:w.cell? ⟨op,0,none⟩=some (Str o.dom):=hop.cell 0 _ rfl
 have o1:w.cell? ⟨op,1,none⟩=some (Str o.sel):=hop.cell 1 _ rfl
 have o3:w.cell? ⟨op,3,none⟩=some (.iface 94 (Giv o.kind kv)):=hop.cell 3 _ rfl
 have o4:w.cell? ⟨op,4,none⟩=some (Str o.hdr):=hop.cell 4 _ rfl
 have d0:o.dom.isEmpty=false:=by rw [List.isEmpty_eq_false_iff];exact hO.dom.ne
 have d1:o.sel.isEmpty=false:=by rw [List.isEmpty_eq_false_iff];exact hO.sel.ne
 have hw0:=Below.refl w.heap.size w
 go_enter Tryz.func64,Tryz.ntmps64
 go_upto_if 40 with fail
 clear o0 o1 d0 d1
 go_cut [4]from 42 (fun v4 wc=>v4=Str (formOf o.hdr)∧w=wc)
 case first=>
  go_wp2_with fail
  ·rename_i hi
   have hi:=List.isEmpty_iff.1 hi
   have hv:formOf o.hdr=simpleS:=by unfold formOf;rw [if_pos hi]
   go_meet
   case rel=>exact⟨by rw [hv];rfl,rfl⟩
  ·rename_i hi
   have hi:=List.isEmpty_eq_false_iff.1 hi
   have hv:formOf o.hdr=o.hdr:=by unfold formOf;rw [if_neg hi]
   go_meet
   case rel=>exact⟨by rw [hv],rfl⟩
 case rest=>
 obtain⟨rfl,rfl⟩:=hcut
 clear o4
 have hf1:formOk (formOf o.hdr):=hO.hform
 have hf2:formOk (formOf o.bdy):=hO.bform
 obtain⟨hfm,Hhf⟩: ∃x,Hid (x=formOf o.hdr):=⟨_,rfl⟩
 rw [←Hhf.out]at hf1⊢
 go_wp2_with fail
 refine(cns_any hfm _ hf1).mono ?_
 rintro e1 w1 ⟨rfl,hb1⟩
 have o5:w1.cell? ⟨op,5,none⟩=some (Str o.bdy):=bcell hb1 (hop.cell 5 _ rfl)
 generalize canT hfm=cT1
 go_upto_if 54 with fail
 go_cut [7]from 56 (fun v7 wc=>v7=Str (formOf o.bdy)∧w1=wc)
 case first=>
  go_wp2_with fail
  ·rename_i hi
   have hi:=List.isEmpty_iff.1 hi
   have hv:formOf o.bdy=simpleS:=by unfold formOf;rw [if_pos hi]
   go_meet
   case rel=>exact⟨by rw [hv];rfl,rfl⟩
  ·rename_i hi
   have hi:=List.isEmpty_eq_false_iff.1 hi
   have hv:formOf o.bdy=o.bdy:=by unfold formOf;rw [if_neg hi]
   go_meet
   case rel=>exact⟨by rw [hv],rfl⟩
 case rest=>
 obtain⟨rfl,rfl⟩:=hcut
 clear o5
 obtain⟨bfm,Hbf⟩: ∃x,Hid (x=formOf o.bdy):=⟨_,rfl⟩
 rw [←Hbf.out]at hf2⊢
 go_wp2_with fail
 refine(cns_any bfm _ hf2).mono ?_
 rintro e2 w2 ⟨rfl,hb2⟩
 have hb2':=hb1.trans (hb2.mono hb1.size)
 generalize canT bfm=cT2
 have o3':w2.cell? ⟨op,3,none⟩=some (.iface 94 (Giv o.kind kv)):=bcell hb2' (hop.cell 3 _ rfl)
 have mm:=m94_Algo o.kind kv
 have nn94:=n94_Algo o.kind kv
 have e238: ∀(args:Array Value) (w:World),(callFunc 238 args).run Tryz.prog w= .ok (.enter 238 args) w:=fun args w=>by kernel_rfl
 clear hw0 hb1 hb2
 go_wp2_with fail
 refine(givenAlgo_any o.kind kv w2).mono ?_
 rintro e3 w3 ⟨rfl,hb3⟩
 have hb3':=hb2'.trans (hb3.mono hb2'.size)
 clear o3' mm nn94 hb2' hb3
 have hks3:=hks.below hb3'
 have o6:w3.cell? ⟨op,6,none⟩=some ksv:=bcell hb3' (hop.cell 6 _ rfl)
 clear hks
 have hkq:((o.kind== [114,115,97])=true)∨((o.kind== [114,115,97])=false∧(o.kind== [101,100,50,53,53,49,57])=true):=by
  rcases hO.kinds with e|e<;>rw [e]
  ·right;decide
  ·left;decide
 have hpk:=hO.plain.2.2.2
 have hlk:=hO.lens.2.2.2
 obtain⟨K,HK⟩: ∃x,Hid (x=o.keys):=⟨_,Lib.hid rfl⟩
 have hKn:=hO.nkeys
 rw [←HK.out]at hpk hlk hKn
 rcases hks3 with⟨ha,rfl⟩|⟨ha,a,n,c,rfl,hrd⟩
 ·have hsf:signsFrom o:= .inl ha
  rcases hkq with kq|⟨kq,kq2⟩
  ·go_wp2_with fail
   go_ret2
   refine⟨.inl ⟨hsf,w3.heap.size,rfl,?_,hb3'.size⟩,hb3'.alloc hb3'.size _⟩
   unfold sgnCells
   rw [←Hhf.out,←Hbf.out]
   exact Blk.new w3 181 #[.pointer (some ⟨op,0,none⟩),Str o.kind,Str hfm,Str bfm, .slice none 0 0, .int .i64 0, .int .i8 0, .bool false, .map none]
  ·go_wp2_with fail
   go_ret2
   refine⟨.inl ⟨hsf,w3.heap.size,rfl,?_,hb3'.size⟩,hb3'.alloc hb3'.size _⟩
   unfold sgnCells
   rw [←Hhf.out,←Hbf.out]
   exact Blk.new w3 181 #[.pointer (some ⟨op,0,none⟩),Str o.kind,Str hfm,Str bfm, .slice none 0 0, .int .i64 0, .int .i8 0, .bool false, .map none]
 ·rw [←HK.out]at hrd
  have hn2:n=K.length:=by
   obtain⟨A',c',he,_⟩:=id hrd
   injection he with _ hn2 _
   rw [stL]at hn2
   exact hn2
  subst hn2
  rcases hkq with kq|⟨kq,kq2⟩
  ·go_wp2_with fail
   go_loopw [11,83] (fun v11 v83 wy=> ∃k:Nat,k≤K.length∧v11= .bool false∧v83= .int .i64 k∧noFrom K k∧Below w.heap.size w wy∧Below w3.heap.size w3 wy) (fun _ v83 _=>K.length-(intOf v83).toNat)
   case atStart=>exact⟨0,Nat.zero_le _,rfl,rfl,(fun x hx=>by simp at hx),hb3',Below.refl _ _⟩
   case round=>
    obtain⟨k,hkK,rfl,rfl,hno,hbk,hbk3⟩:=hrel
    by_cases hlt:k<K.length
    ·have hk0:(0:Int)≤(k:Int):=by omega
     have hk1:(k:Int)<(K.length:Int):=by omega
     obtain⟨g,off,cc,he2⟩:=hrd.ptr (by intro e;have:=congrArg List.length e;rw [stL,List.length_nil]at this;omega)
     injection he2 with h1 h2 h3
     injection h1 with h1
     clear h2 h3
     subst h1
     have hck:wr.cell? ⟨g,off+k,none⟩=some (Str K[k]):=(hrd.below hbk3).get k _ (by simp [strs,hlt])
     have hmem:=List.getElem_mem hlt
     go_wp2_with fail
     refine(zzEqualFold_any K[k] [70,114,111,109] wr (by have:=hlk _ hmem;omega) (by decide) (hpk _ hmem) (by decide)).mono ?_
     rintro e5 w5 ⟨rfl,hb5⟩
     have hb5':=hbk.trans (hb5.mono hbk.size)
     have hb53:=hbk3.trans (hb5.mono hbk3.size)
     by_cases hq:lower K[k]=fromS
     ·have q1:(lower K[k]==lower [70,114,111,109])=true:=by rw [hq];decide
      have hsf:signsFrom o:= .inr ⟨K[k],by rw [←HK.out];exact hmem,hq⟩
      clear hq
      go_wp2_with fail
      go_ret2
      refine⟨.inl ⟨hsf,w5.heap.size,rfl,?_,hb5'.size⟩,hb5'.alloc hb5'.size _⟩
      unfold sgnCells
      rw [←Hhf.out,←Hbf.out]
      exact Blk.new w5 181 #[.pointer (some ⟨op,0,none⟩),Str o.kind,Str hfm,Str bfm, .slice none 0 0, .int .i64 0, .int .i8 0, .bool false, .map none]
     ·have q1:(lower K[k]==lower [70,114,111,109])=false:=by rw [beq_eq_false_iff_ne];exact hq
      have hno2:noFrom K (k+1):=by
       intro x hx
       rw [List.take_succ_eq_append_getElem hlt,List.mem_append]at hx
       rcases hx with hx|hx
       ·exact hno x hx
       ·rw [List.mem_singleton.1 hx];exact hq
      clear hq hno
      go_wp2_with fail
      go_roundw
      case rel=>exact⟨k+1,hlt,rfl,by go_num,hno2,hb5',hb53⟩
      case measure=>simp [intOf];omega
    ·obtain rfl:k=K.length:=by omega
     have hnsf: ¬signsFrom o:=by
      rintro(h|⟨x,hx,hx2⟩)
      ·rw [ha]at h;cases h
      ·rw [←HK.out]at hx
       exact hno x (by rw [List.take_length];exact hx) hx2
     go_wp2_with fail
     refine(errNew _ wr).mono ?_
     rintro e5 w5 ⟨rfl,rfl⟩
     go_wp2
     go_ret2
     exact⟨.inr ⟨hnsf,_,rfl⟩,hbk.alloc hbk.size _⟩
  ·go_wp2_with fail
   go_loopw [11,83] (fun v11 v83 wy=> ∃k:Nat,k≤K.length∧v11= .bool false∧v83= .int .i64 k∧noFrom K k∧Below w.heap.size w wy∧Below w3.heap.size w3 wy) (fun _ v83 _=>K.length-(intOf v83).toNat)
   case atStart=>exact⟨0,Nat.zero_le _,rfl,rfl,(fun x hx=>by simp at hx),hb3',Below.refl _ _⟩
   case round=>
    obtain⟨k,hkK,rfl,rfl,hno,hbk,hbk3⟩:=hrel
    by_cases hlt:k<K.length
    ·have hk0:(0:Int)≤(k:Int):=by omega
     have hk1:(k:Int)<(K.length:Int):=by omega
     obtain⟨g,off,cc,he2⟩:=hrd.ptr (by intro e;have:=congrArg List.length e;rw [stL,List.length_nil]at this;omega)
     injection he2 with h1 h2 h3
     injection h1 with h1
     clear h2 h3
     subst h1
     have hck:wr.cell? ⟨g,off+k,none⟩=some (Str K[k]):=(hrd.below hbk3).get k _ (by simp [strs,hlt])
     have hmem:=List.getElem_mem hlt
     go_wp2_with fail
     refine(zzEqualFold_any K[k] [70,114,111,109] wr (by have:=hlk _ hmem;omega) (by decide) (hpk _ hmem) (by decide)).mono ?_
     rintro e5 w5 ⟨rfl,hb5⟩
     have hb5':=hbk.trans (hb5.mono hbk.size)
     have hb53:=hbk3.trans (hb5.mono hbk3.size)
     by_cases hq:lower K[k]=fromS
     ·have q1:(lower K[k]==lower [70,114,111,109])=true:=by rw [hq];decide
      have hsf:signsFrom o:= .inr ⟨K[k],by rw [←HK.out];exact hmem,hq⟩
      clear hq
      go_wp2_with fail
      go_ret2
      refine⟨.inl ⟨hsf,w5.heap.size,rfl,?_,hb5'.size⟩,hb5'.alloc hb5'.size _⟩
      unfold sgnCells
      rw [←Hhf.out,←Hbf.out]
      exact Blk.new w5 181 #[.pointer (some ⟨op,0,none⟩),Str o.kind,Str hfm,Str bfm, .slice none 0 0, .int .i64 0, .int .i8 0, .bool false, .map none]
     ·have q1:(lower K[k]==lower [70,114,111,109])=false:=by rw [beq_eq_false_iff_ne];exact hq
      have hno2:noFrom K (k+1):=by
       intro x hx
       rw [List.take_succ_eq_append_getElem hlt,List.mem_append]at hx
       rcases hx with hx|hx
       ·exact hno x hx
       ·rw [List.mem_singleton.1 hx];exact hq
      clear hq hno
      go_wp2_with fail
      go_roundw
      case rel=>exact⟨k+1,hlt,rfl,by go_num,hno2,hb5',hb53⟩
      case measure=>simp [intOf];omega
    ·obtain rfl:k=K.length:=by omega
     have hnsf: ¬signsFrom o:=by
      rintro(h|⟨x,hx,hx2⟩)
      ·rw [ha]at h;cases h
      ·rw [←HK.out]at hx
       exact hno x (by rw [List.take_length];exact hx) hx2
     go_wp2_with fail
     refine(errNew _ wr).mono ?_
     rintro e5 w5 ⟨rfl,rfl⟩
     go_wp2
     go_ret2
     exact⟨.inr ⟨hnsf,_,rfl⟩,hbk.alloc hbk.size _⟩
end Go.Proofs.YtgilnagajcfkpaaGreatDoor
