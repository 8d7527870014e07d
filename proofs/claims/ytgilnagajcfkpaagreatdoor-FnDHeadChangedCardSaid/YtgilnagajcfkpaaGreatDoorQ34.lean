import Derived.Stop.Asserts
import Derived.Test.YtgilnagajcfkpaaGreatDoorQ33
set_option maxHeartbeats 4000000
set_option maxRecDepth 1000000
set_option linter.all false
namespace Go.Proofs.YtgilnagajcfkpaaGreatDoor
open Go.RowKit
def RecIn (w:World)(v:Value)(rec:Option (BS×BS)):Prop:=match rec with
 |none=>v= .slice none 0 0
 |some (nm,tx)=>OneRec w v nm tx
def AskPost (w:World)(rec:Option (BS×BS))(nm:BS)(e:Ending)(w':World):Prop:=
 (((∃tx,rec=some (nm,tx)∧∃q,e= .returned (.tuple #[.slice (some ⟨q,0,none⟩) 1 1, .nilIface])∧Blk w' q 9 [Str tx])∨
  ((∀tx,rec≠some (nm,tx))∧e= .returned (.tuple #[.slice none 0 0, .iface 89 (.bool false)]))))∧Below w.heap.size w w'
theorem ask_any (rc:Nat)(T:TypeId)(v:Value)(rec:Option (BS×BS))(nm:BS)(w:World)(hc:Blk w rc T [v])(hr:RecIn w v rec):
 Calls Tryz.prog 55 #[Str nm, .pointer (some ⟨rc,0,none⟩)] w (AskPost w rec nm):=by
 have c0:=hc.cell 0 _ rfl
 cases rec with
 |none=>
  have hv:v= .slice none 0 0:=hr
  subst hv
  go_enter Tryz.func55,Tryz.ntmps55
  go_wp2_with fail
  go_loopw [9] (fun v9 wx=>v9= .int .i64 0∧wx=w) (fun _ _=>0)
  case atStart=>exact⟨rfl,rfl⟩
  case round=>
   obtain⟨rfl,rfl⟩:=hrel
   go_wp2_with fail
   go_ret2
   exact⟨.inr ⟨fun tx h=>(by cases h),rfl⟩,Below.refl _ _⟩
 |some p=>
  obtain⟨n1,tx⟩:=p
  obtain⟨r,q,rfl,hbr,hbq,hne⟩:=hr
  have d0:=hbr.cell 0 _ rfl
  have d1:=hbr.cell 1 _ rfl
  have d2:=hbr.cell 2 _ rfl
  have d3:=hbr.cell 3 _ rfl
  have hb:=(Below.refl w.heap.size w).alloc (Nat.le_refl _) (.cells #[Str n1, .slice (some ⟨q,0,none⟩) 1 1, .bool false, .bool false] 39)
  go_enter Tryz.func55,Tryz.ntmps55
  go_wp2_with fail
  go_loopw [9] (fun v9 wx=>(v9= .int .i64 0∧wx=w)∨(v9= .int .i64 1∧n1≠nm∧Below w.heap.size w wx)) (fun v _=>1-(intOf v).toNat)
  case atStart=>exact .inl ⟨rfl,rfl⟩
  case round=>
   rcases hrel with⟨rfl,rfl⟩|⟨rfl,hn,hbx⟩
   ·by_cases e:n1=nm
    ·subst e
     have h1:(n1==n1)=true:=by simp
     go_wp2_with fail
     go_ret2
     exact⟨.inl ⟨tx,rfl,q,rfl,hbq.below hb hbq.lt⟩,hb⟩
    ·have h1:(n1==nm)=false:=by simpa using e
     go_wp2_with fail
     go_roundw
     case rel=>exact .inr ⟨rfl,e,hb⟩
     case measure=>simp [intOf]
   ·go_wp2_with fail
    go_ret2
    refine⟨.inr ⟨fun tx h=> ?_,rfl⟩,hbx⟩
    injection h with h;injection h with h _;exact hn h
def KeyOk (kind key:BS):Prop:=((kind=rsaS∧128≤key.length)∨(kind=edS∧key.length=32))∧key.length≤1073741824
theorem KeyOk.kinds {kind key:BS} (h:KeyOk kind key):kind=edS∨kind=rsaS:=by
 rcases h.1 with h|h
 ·exact .inr h.1
 ·exact .inl h.1
theorem recK_len (kind key:BS)(h:KeyOk kind key):(recK kind key).length≤2147483648:=by
 have h1:=enc_len key
 have h2:=h.2
 have h3:kind.length≤10:=by rcases h.kinds with e|e<;>rw [e]<;>decide
 unfold recK
 simp only [List.length_append,List.length_cons,List.length_nil,h1]
 omega
theorem tmp89 (v:Value)(xT:TypeId)(w:World):(Instr.typeAssert (.iface 89 v) xT 287 true).run Tryz.prog w= .ok (.tuple #[.iface 89 v, .bool true]) w:=run_typeAssert_hasB Tryz.underlying287 (by kernel_rfl) v xT w
theorem tmpNil (w:World):(Instr.typeAssert .nilIface 74 287 true).run Tryz.prog w= .ok (.tuple #[.nilIface, .bool false]) w:=by kernel_rfl
theorem m89_Temporary (b:Bool)(w:World):(method 486 89 (.bool b) "Temporary").run Tryz.prog w= .ok (237, .bool b) w:=by kernel_rfl
theorem n89_Temporary (b:Bool)(w:World):(nilAhead 486 89 (.bool b) "Temporary").run Tryz.prog w= .ok (some false) w:=by kernel_rfl
theorem m89_Error (b:Bool)(w:World):(method 486 89 (.bool b) "Error").run Tryz.prog w= .ok (236, .bool b) w:=by kernel_rfl
theorem n89_Error (b:Bool)(w:World):(nilAhead 486 89 (.bool b) "Error").run Tryz.prog w= .ok (some false) w:=by kernel_rfl
theorem lookTemp_any (b:Bool)(w:World):Calls Tryz.prog 237 #[.bool b] w fun e w'=>e= .returned (.bool b)∧w'=w:=by
 go_enter Tryz.func237,Tryz.ntmps237
 go_wp2
 go_ret
 exact⟨rfl,rfl⟩
theorem lookErr_any (b:Bool)(w:World):Calls Tryz.prog 236 #[.bool b] w fun e w'=>e= .returned (.string ⟨#[108,111,111,107,117,112]⟩)∧w'=w:=by
 go_enter Tryz.func236,Tryz.ntmps236
 go_wp2
 go_ret
 exact⟨rfl,rfl⟩
def QueryPost (w:World)(rec:Option BS)(kind:BS)(e:Ending)(w':World):Prop:=match rec with
 |none=>(∃s:BS,e= .returned (.tuple #[.pointer none, .iface 209 (Str s)]))∧Below w.heap.size w w'
 |some key=>KeyPost w kind key e w'
def fn55 (rc:Nat):Value:= .func (.func 55) #[] #[.pointer (some ⟨rc,0,none⟩)]
theorem query_any (rc:Nat)(T:TypeId)(v:Value)(dom sel kind:BS)(rec:Option BS)(w:World)(hc:Blk w rc T [v])(hr:RecIn w v (rec.map fun k=>(sel++dkS++dom,recK kind k)))(hk: ∀k,rec=some k→KeyOk kind k)(hl:dom.length≤1000000∧sel.length≤1000000):
 Calls Tryz.prog 143 #[Str dom,Str sel,fn55 rc, .func (.func 56) #[] #[]] w (QueryPost w rec kind):=by
 have ha:=ask_any rc T v _ (sel++dkS++dom) w hc hr
 have hn:sel++dkS++dom=sel++46::95::100::111::109::97::105::110::107::101::121::46::dom:=by simp [dkS]
 have l1:sel.length≤1000000:=hl.2
 have l2:dom.length≤1000000:=hl.1
 have e55: ∀(args:Array Value) (w:World),(callFunc 55 args).run Tryz.prog w= .ok (.enter 55 args) w:=fun args w=>by kernel_rfl
 have e236: ∀(args:Array Value) (w:World),(callFunc 236 args).run Tryz.prog w= .ok (.enter 236 args) w:=fun args w=>by kernel_rfl
 have e237: ∀(args:Array Value) (w:World),(callFunc 237 args).run Tryz.prog w= .ok (.enter 237 args) w:=fun args w=>by kernel_rfl
 have ta1:=tmp89
 have ta2:=tmpNil
 have mT:=m89_Temporary
 have nT:=n89_Temporary
 have mE:=m89_Error
 have nE:=n89_Error
 unfold fn55
 cases rec with
 |none=>
  have ha:Calls Tryz.prog 55 #[Str (sel++46::95::100::111::109::97::105::110::107::101::121::46::dom), .pointer (some ⟨rc,0,none⟩)] w fun e w'=>e= .returned (.tuple #[.slice none 0 0, .iface 89 (.bool false)])∧Below w.heap.size w w':=by
   rw [←hn]
   refine ha.mono ?_
   rintro e w1 ⟨⟨tx,h,_⟩|⟨_,h⟩,hb⟩
   ·cases h
   ·exact⟨h,hb⟩
  clear hn
  go_enter Tryz.func143,Tryz.ntmps143
  go_wp2_with fail
  refine ha.mono ?_
  rintro e w1 ⟨rfl,hb⟩
  go_wp2_with fail
  refine(lookTemp_any false w1).mono ?_
  rintro e w2 ⟨rfl,rfl⟩
  go_wp2_with fail
  refine(lookErr_any false w2).mono ?_
  rintro e w3 ⟨rfl,rfl⟩
  go_wp2_with fail
  go_ret2
  exact⟨⟨_,rfl⟩,hb⟩
 |some key=>
  have hk:=hk key rfl
  have ha:Calls Tryz.prog 55 #[Str (sel++46::95::100::111::109::97::105::110::107::101::121::46::dom), .pointer (some ⟨rc,0,none⟩)] w fun e w'=>(∃q,e= .returned (.tuple #[.slice (some ⟨q,0,none⟩) 1 1, .nilIface])∧Blk w' q 9 [Str (recK kind key)])∧Below w.heap.size w w':=by
   rw [←hn]
   refine ha.mono ?_
   rintro e w1 ⟨⟨tx,h,q,h1,h2⟩|⟨h,_⟩,hb⟩
   ·injection h with h
    have h:=(Prod.mk.inj h).2
    subst h
    exact⟨⟨q,h1,h2⟩,hb⟩
   ·exact absurd rfl (h (recK kind key))
  clear hn
  have hL:=pmap_rec kind key hk.kinds
  have hp:=plain_recK kind key hk.kinds
  have hpk:=fun w=>parseKey_any (recK kind key) kind key _ w (recK_len kind key hk) hp hk.2 hL (keyTags_p kind key hk.1)
  clear hL hp
  generalize recK kind key=RK at*
  go_enter Tryz.func143,Tryz.ntmps143
  go_wp2_with fail
  refine ha.mono ?_
  rintro e w1 ⟨⟨q,rfl,hq⟩,hb⟩
  have c0:=hq.cell 0 _ rfl
  go_wp2_with fail
  refine(hpk w1).mono ?_
  rintro e w2 ⟨k,kv,rfl,h1,h2,h3,h4,h5⟩
  have h3':=Nat.le_trans hb.size h3
  have h4': ∀j,kv.ownBlock=some j→w.heap.size≤j∧j≠k:=fun j hj=>⟨Nat.le_trans hb.size (h4 j hj).1,(h4 j hj).2⟩
  have h5':=hb.trans (h5.mono hb.size)
  go_wp2_with fail
  go_ret2
  exact⟨k,kv,rfl,h1,h2,h3',h4',h5'⟩
end Go.Proofs.YtgilnagajcfkpaaGreatDoor
