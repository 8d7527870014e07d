import Derived.OrdersHeld
import Derived.Deep.RegionHeld
set_option maxHeartbeats 4000000
set_option maxRecDepth 1000000
set_option linter.all false
namespace Go.Proofs.YtgilnagajcfkpaaGreatDoor
open Go
section
variable {P:Program} {ops:Array Oper} {Q:Exit→Act→World→Prop} {md:Region.Mode} {S:World→Prop}
def unlisted (l:Array Bool):Nat:=(l.toList.filter fun b=> !b).length
theorem filter_set_lt: ∀(l:List Bool)(i:Nat),l[i]?=some false→((l.set i true).filter fun b=> !b).length+1=(l.filter fun b=> !b).length
 | [],i,h=>by simp at h
 |b::r,0,h=>by
  simp at h;subst h;simp
 |b::r,i+1,h=>by
  have:=filter_set_lt r i (by simpa using h)
  cases b<;>simp at this⊢ <;>omega
theorem ready_false {listed:Array Bool} {i:Nat} (h:i∈Region.ready md ops listed):listed[i]?=some false:=by
 have h:=(mem_ready.1 h).1
 rw [Array.getD_eq_getD_getElem?]at h
 cases hh:listed[i]? with
 |none=>rw [hh]at h;simp at h
 |some b=>rw [hh]at h;simp at h;rw [h]
theorem unlisted_set {listed:Array Bool} {i:Nat} (h:i∈Region.ready md ops listed):unlisted (listed.setIfInBounds i true)+1=unlisted listed:=by
 have h:=ready_false h
 unfold unlisted
 rw [Array.toList_setIfInBounds]
 exact filter_set_lt _ _ (by simpa using h)
theorem wpAnyH_inv (Inv:Array Bool→Act→World→Prop)(hS: ∀l a w,Inv l a w→S w)(hstep: ∀l a w i,Inv l a w→i∈Region.ready md ops l→wpOp P ops Q i (fun a' w'=>Inv (l.setIfInBounds i true) a' w') a w)
 (hend: ∀l a w,Inv l a w→Region.ready md ops l= []→Q .normal a w): ∀(fuel:Nat)(l:Array Bool)(a:Act)(w:World),unlisted l≤fuel→Inv l a w→wpAnyH P md ops Q S fuel l a w
 |0,l,a,w,hf,h=>by
  have hr:Region.ready md ops l= []:=by
   cases hr:Region.ready md ops l with
   |nil=>rfl
   |cons i r=>have:=unlisted_set (listed:=l) (i:=i) (md:=md) (ops:=ops) (by rw [hr];simp);omega
  exact⟨hr,hend l a w h hr⟩
 |fuel+1,l,a,w,hf,h=>⟨hend l a w h,fun i hi=>wpOp_mono (fun a' w' h'=>⟨hS _ _ _ h',wpAnyH_inv Inv hS hstep hend fuel _ a' w' (by have:=unlisted_set hi;omega) h'⟩) (hstep l a w i h hi)⟩
theorem take_at (i:Nat)(d:Option Tmp)(v:Value) {oi:Oper} {fuel:Nat} {listed:Array Bool} {a:Act} {w:World} (hi:ops[i]?=some oi)(hd:oi.dst=d)
 (hs:Region.noSelect ops=true)(hf:Region.free md ops listed i=true)(hr:(Region.ready md ops listed).contains i=true)
 (hQ: ∀c a w,Q (.panic c) (a.put d v) w→Q (.panic c) a w)(hy:YieldsIf P ops S oi v a)(hS:S w)
 (h:wpAnyH P md ops Q S fuel (listed.setIfInBounds i true) (a.put d v) w):wpAnyH P md ops Q S (fuel+1) listed a w:=by
 subst hd
 exact wpAnyH_take hi hs hf hr hQ hy hS h
def waitsB (ops:Array Oper):Bool:=(List.range ops.size).all fun i=>((ops[i]?).map fun o=>o.after.all fun e=>decide (e.on<i)).getD true
theorem all_listed {listed:Array Bool} (hd:waitsB ops=true)(hsz:listed.size=ops.size)(hr:Region.ready md ops listed= []): ∀n i,i<n→i<ops.size→listed[i]?=some true:=by
 intro n
 induction n with
 |zero=>intro i h;omega
 |succ n ih=>
  intro i hin hi
  by_cases hlt:i<n
  ·exact ih i hlt hi
  ·cases hl:listed[i]? with
   |none=>rw [Array.getElem?_eq_none_iff]at hl;omega
   |some b=>
    cases b with
    |true=>rfl
    |false=>
     exfalso
     have hm:i∈Region.ready md ops listed:=by
      refine mem_ready.2 ⟨by rw [Array.getD_eq_getD_getElem?,hl];rfl,ops[i],by rw [Array.getElem?_eq_getElem hi],fun e he _=> ?_⟩
      have h1:=List.all_eq_true.1 hd i (List.mem_range.2 hi)
      rw [Array.getElem?_eq_getElem hi]at h1
      have h2:=Array.all_eq_true.1 (show(ops[i].after.all fun e=>decide (e.on<i))=true from h1)
      obtain⟨j,hj,rfl⟩:=Array.getElem_of_mem he
      have h3:ops[i].after[j].on<i:=of_decide_eq_true (h2 j hj)
      have h4:=ih _ (show ops[i].after[j].on<n by omega) (by omega)
      rw [Array.getD_eq_getD_getElem?,h4];rfl
     rw [hr]at hm
     cases hm
theorem ready_dep {i:Nat} {listed:Array Bool} (hi:i∈Region.ready md ops listed)(j on:Nat)(h:((ops[i]?).bind fun o=>(o.after[j]?).map fun e=>(Region.binds md e,e.on))=some (true,on)):listed[on]?=some true:=by
 obtain⟨_,o,ho,hall⟩:=mem_ready.1 hi
 rw [ho,Option.bind_some]at h
 obtain⟨e,he,hh⟩:=Option.map_eq_some_iff.1 h
 injection hh with h1 h2
 have h3:=hall e (Array.mem_of_getElem? he) h1
 rw [h2,Array.getD_eq_getD_getElem?]at h3
 cases hl:listed[on]? with
 |none=>rw [hl]at h3;simp at h3
 |some b=>rw [hl]at h3;simp at h3;rw [h3]
def putB (b:Bool)(d:Nat)(v:Value)(a:Act):Act:=if b then a.put (some d) v else a
theorem putB_comm (b:Bool)(d d':Nat)(v u:Value)(a:Act)(h:d≠d'):(putB b d v a).put (some d') u=putB b d v (a.put (some d') u):=by
 cases b
 ·rfl
 ·show(a.put (some d) v).put (some d') u=(a.put (some d') u).put (some d) v
  exact Act.put_comm a v u (fun k e=>by injection e with e;subst e;exact fun e'=>h (by injection e' with e';exact e'.symm))
theorem put_size (a:Act)(d:Option Tmp)(v:Value):(a.put d v).tmps.size=a.tmps.size:=by cases d<;>simp [Act.put]
theorem putB_size (b:Bool)(d:Nat)(v:Value)(a:Act):(putB b d v a).tmps.size=a.tmps.size:=by
 cases b
 ·rfl
 ·exact put_size a (some d) v
theorem eval_ne (a:Act)(d k:Nat)(v:Value)(h:d≠k):(a.put (some d) v).eval (.tmp k)=a.eval (.tmp k):=by
 simp [Act.put,Act.eval,Array.getElem?_setIfInBounds,h]
theorem evalB_ne (b:Bool)(a:Act)(d k:Nat)(v:Value)(h:d≠k):(putB b d v a).eval (.tmp k)=a.eval (.tmp k):=by
 cases b
 ·rfl
 ·exact eval_ne a d k v h
theorem eval_same (a:Act)(d:Nat)(v:Value)(h:d<a.tmps.size):(a.put (some d) v).eval (.tmp d)=v:=by
 simp [Act.put,Act.eval,Array.getElem?_setIfInBounds,h]
end
end Go.Proofs.YtgilnagajcfkpaaGreatDoor
