/- FnDHeadChanged: its tied card holds: for every input, the listed package variables being as the program's text lays them, the law returns true and leaves its arguments as they were. No further condition. -/
import Derived.Test.YtgilnagajcfkpaaGreatDoorTie
import Derived.Test.YtgilnagajcfkpaaGreatDoorCards
import Derived.Test.YtgilnagajcfkpaaGreatDoorQ61
import Derived.Test.YtgilnagajcfkpaaGreatDoorQ49
import Derived.Test.YtgilnagajcfkpaaGreatDoorQ66
set_option maxHeartbeats 4000000
set_option maxRecDepth 1000000
set_option linter.all false
namespace Go.Proofs.YtgilnagajcfkpaaGreatDoor
open Go.ChangeShapes Go.WideShapes Go.ChangeAt Go.WideMaps Go.WideElems Go.RowKit
open Go.ChangeMaps (open_string shut_string)
theorem fnDHeadChanged_met (os:Os)(args:Array Value):laidMetH Tryz.prog laid14 ((World.doorLaid Tryz.prog 272 os).forCall (fun _ _=>0) ⟨#[],args,[]⟩).memory:=
 laidMetH_of_parts3 (fuel:=8) (laidMet_of_run' 8 (by kernel_rfl) (by kernel_rfl)) (by kernel_rfl) (by kernel_rfl)
theorem fnDHeadChanged_lifted (os:Os)(started:os.Started)(H:Type)(enc:TypeId×Value→H):
 ReturnsInHanded {} Tryz.checked os 5 .any (fun w args=>(Rows.fnDHeadChangedSpec.pre enc Tryz.prog Tryz.f5 [] false w args∧laidMetH Tryz.prog laid14 w)∧sizedMet enc Tryz.prog Tryz.f5 (OpenSpec.ofChange Rows.fnDHeadChangedSpec) false w args)
  (Rows.fnDHeadChangedSpec.post enc Tryz.prog Tryz.f5 false true false false):=by
 refine returnsInHanded_of_change_and (C:=Tryz.checked) (X:=fun w _=>laidMetH Tryz.prog laid14 w) (fun _ _ _ hh h=>h.of_heap hh) Tryz.own started (by kernel_rfl) Tryz.func5
  (ChangeSpec.witness_shaped (enc:=enc) (C:=Tryz.checked) (os:=os) (X:=fun w _=>laidMetH Tryz.prog laid14 w) false (World.doorLaid Tryz.prog 272 os) #[.agg #[.string ⟨#[]⟩, .string ⟨#[]⟩, .string ⟨#[]⟩, .string ⟨#[]⟩, .slice none 0 0, .string ⟨#[]⟩, .string ⟨#[]⟩, .slice none 0 0, .bool false, .int .i64 0, .int .i64 0, .slice none 0 0], .string ⟨#[]⟩, .slice none 0 0] 8 rfl (World.shaped_of_RefB (by kernel_rfl) (by kernel_rfl)) (by kernel_rfl) (by kernel_rfl) (by kernel_rfl) (fnDHeadChanged_met os _)) ?_
 intro W base args ds gs before hval0 hW _ _ hL _
 have hval: ∀(j:Nat) t v,Tryz.f5.params[j]?=some t→args[j]?=some v→Value.okWide Tryz.prog W .any base t v:=hval0
 have hW':=hW
 obtain⟨p,q,hA0,hV,rfl,_,_⟩:=hW
 have hA:DataW.TrodAll enc Tryz.prog W 0 (fun _=>true) true Tryz.f5.params.toList args.toList ds p:=hA0
 rw [Tryz.params5]at hA hval
 obtain⟨v0,v1,v2,d0,d1,d2,p0,p1,p2,rfl,rfl,rfl,h0,h1,h2⟩:=trodAll_three hA
 have hlt0: ∀x∈p0,x.block<W.heap.size:=fun x hx=>by simpa using hW'.lt x (by simp [hx])
 have hlt2: ∀x∈p2,x.block<W.heap.size:=fun x hx=>by simpa using hW'.lt x (by simp [hx])
 obtain⟨o,kv,hv,qv,rfl,hin,hqv⟩:=open_o (hval 0 25 v0 rfl rfl) h0
 obtain⟨s1,rfl,rfl,rfl,z1⟩:=open_string Tryz.underlying9 (hval 1 9 v1 rfl rfl) h1
 obtain⟨l2,r2⟩: ∃l,Rd W v2 (YtgilnagajcfkpaaGreatDoor.strs l):=by
  obtain⟨a2,n2,c2,rfl⟩:=okWide_slice Tryz.underlying23 (hval 2 23 v2 rfl rfl)
  obtain⟨fuel,hf⟩:=id h2
  obtain⟨l,hl,_⟩:=open_strs (by simpa [Value.cells]using hf)
  exact⟨l,hl⟩
 have hcall:Calls Tryz.prog 5 #[o.val kv hv qv, .string s1,v2] W (TrueP W):=by
  rw [←str_to s1]
  exact headChanged_any W.heap.size o kv hv qv v2 (toBS s1) l2 W (of_laid hL) hin hqv r2
 obtain⟨g1,g2,g3,rfl⟩: ∃a b c,gs= [a,b,c]:=by
  have hV':DataW.TrodVars enc Tryz.prog W (fun _=>true) ["given.example/pub-waxseal/pub/msgauth/inner/sha._K","given.example/pub-waxseal/pub/msgauth/dkim.ErrTooManySignatures","given.example/pub-waxseal/pub/msgauth/dkim.requiredTags"] gs q:=hV
  match gs,hV' with
  | [a,b,c],_=>exact⟨a,b,c,rfl⟩
 refine(hcall).mono fun e W' ⟨he,hb⟩=> ?_
 subst he
 exact⟨_,rfl,_,_,_,[],_,q,hW',trodAll_mk1 (shut_bool Tryz.underlying4 _),trodAll_mk3 (Below.trod Tryz.laidOut (by kernel_rfl) (of_decide_eq_true (by kernel_rfl)) h0 hb hlt0) (shut_string Tryz.underlying9 z1) (Below.trod Tryz.laidOut (by kernel_rfl) (of_decide_eq_true (by kernel_rfl)) h2 hb hlt2),hb.trodVars Tryz.laidOut (by kernel_rfl) hV,hb.frame _,fun h=>by cases h⟩
theorem fnDHeadChanged_said:Rows.FnDHeadChangedSaid:=
 OpenClaim.holds_of_wide 5 Tryz.f5 rfl rfl rfl rfl rfl rfl rfl ⟨rfl,rfl,rfl,rfl,rfl⟩ rfl rfl rfl rfl rfl (by as_aux_lemma=>kernel_rfl) Tryz.func5 fnDHeadChanged_facts
  (of_decide_eq_true (by as_aux_lemma=>kernel_rfl)) (by unfold Func.isWrapper;first|(rw [if_pos (by decide+kernel)];as_aux_lemma=>kernel_rfl)|(rw [if_neg (by decide+kernel)];exact⟨rfl,rfl⟩))
  (fun os started H enc _=>fnDHeadChanged_lifted os started H enc)
end Go.Proofs.YtgilnagajcfkpaaGreatDoor
namespace Go.Proofs.YtgilnagajcfkpaaGreatDoor
theorem fnDHeadChanged_holds:Rows.FnDHeadChangedCardSaid:=
 Claim7.holds_tied_plain_at .later [] [.data, .data, .data, .data, .sentinel, .sentinel, .sentinel, .sentinel, .sentinel, .sentinel, .sentinel, .sentinel, .sentinel, .data] true (true,"959f93f4da09341aabdb8dbd38713d54dedc5cf3bc115a68e3a2710f29ac275b") true
  fnDHeadChanged_said (fun _ h=>by cases h) (by as_aux_lemma=>kernel_rfl) (fun _ h=>by cases h) fnDHeadChanged_row_tie rfl ⟨rfl,rfl⟩ (by as_aux_lemma=>kernel_rfl) rfl
  (fun f fn hf hfn=>by
    obtain rfl:f=5:=Option.some.inj ((show Tryz.prog.funcNamed "given.example/pub-waxseal/laws.FnDHeadChanged" =some 5 by as_aux_lemma=>kernel_rfl).symm.trans hf)|>.symm
    obtain rfl:fn=Tryz.f5:=(Option.some.inj (Tryz.func5.symm.trans hfn)).symm
    exact⟨by as_aux_lemma=>kernel_rfl,fun j t ht=>by
     rw [Tryz.params5]at ht
     have hm:t∈ [25,9,23]:=by simpa using Array.mem_of_getElem? ht
     have hall:([25,9,23].all fun u=> !Tryz.prog.wantsStandIn u)=true:=by as_aux_lemma=>kernel_rfl
     exact(show Tryz.prog.wantsStandIn t=false by simpa using List.all_eq_true.1 hall t hm)⟩)
  (by as_aux_lemma=>kernel_rfl)
end Go.Proofs.YtgilnagajcfkpaaGreatDoor
