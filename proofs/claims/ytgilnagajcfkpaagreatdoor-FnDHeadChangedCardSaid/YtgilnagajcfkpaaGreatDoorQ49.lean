import Derived.Test.YtgilnagajcfkpaaGreatDoorRows
import Derived.ProofKit
import Derived.LaidMore
import Derived.OpenShut
import Derived.Stop.Joined
import Derived.OpenVars
import Derived.Stop.LaidErr
import Derived.Test.YtgilnagajcfkpaaGreatDoorQ48
set_option maxHeartbeats 4000000
set_option maxRecDepth 1000000
set_option linter.all false
namespace Go.Proofs.YtgilnagajcfkpaaGreatDoor
open Go.ChangeShapes Go.WideShapes Go.ChangeAt Go.RowKit Go.WideMaps Go.WideElems
open Go.ChangeMaps (open_string shut_string)
theorem Tryz.own:ownKnob Tryz.prog.godebug=none:=by kernel_rfl
theorem Tryz.laidOut:laidOutB Tryz.prog=true:=by kernel_rfl
theorem Tryz.star:("*" ++ "errors.errorString" :String)= "*errors.errorString" :=by decide
theorem Tryz.row242 (u:TypeId)(h:Tryz.prog.typeName? 3 u=some "*errors.errorString"):u=242:=
 typeName_ptr_named (nm:= "errors.errorString") (by rw [Tryz.star];kernel_rfl) (by kernel_rfl) (by decide) u (by rw [Tryz.star];exact h)
theorem Tryz.c9:Tryz.prog.cellsOf 9=1:=by kernel_rfl
theorem Tryz.c5:Tryz.prog.cellsOf 5=1:=by kernel_rfl
theorem Tryz.c244:Tryz.prog.cellsOf 244=1:=by kernel_rfl
theorem Tryz.g0:Tryz.prog.globalNamed "given.example/pub-waxseal/pub/msgauth/dkim.ErrTooManySignatures" =some 0:=by kernel_rfl
theorem Tryz.g1:Tryz.prog.globalNamed "given.example/pub-waxseal/pub/msgauth/dkim.requiredTags" =some 1:=by kernel_rfl
theorem Tryz.g4:Tryz.prog.globalNamed "io.EOF" =some 4:=by kernel_rfl
theorem Tryz.g5:Tryz.prog.globalNamed "bufio.ErrBufferFull" =some 5:=by kernel_rfl
theorem Tryz.g6:Tryz.prog.globalNamed "given.example/pub-waxseal/pub/msgauth/inner/sha._K" =some 6:=by kernel_rfl
theorem Tryz.g11:Tryz.prog.globalNamed "internal/strconv.uint64pow10" =some 11:=by kernel_rfl
theorem kTab_eq:(Rows.laid_given_example_pub_waxseal_pub_msgauth_inner_sha_K:DataW Unit)=Lib.tabData .u32 (kTab.map W):=by kernel_rfl
theorem pow_eq:(Rows.laid_internal_strconv_uint64pow10:DataW Unit)=Lib.tabData .u64 Lib.pow10Tab:=by kernel_rfl
theorem var_lt {n:String} {g:Nat} {w:World} {cs:Array Value} (hg:Tryz.prog.globalNamed n=some g)(h:w.var? Tryz.prog n=some cs):g<w.heap.size:=by
 unfold World.var? at h
 rw [hg]at h
 simp only [Option.bind_some]at h
 cases hh:w.heap[g]? with
 |none=>rw [hh]at h;cases h
 |some o=>exact(Array.getElem?_eq_some_iff.1 hh).1
theorem var_below {n:String} {g B:Nat} {w w':World} {cs:Array Value} (hg:Tryz.prog.globalNamed n=some g)(hB:g<B)(hb:Below B w w')(h:w.var? Tryz.prog n=some cs):w'.var? Tryz.prog n=some cs:=by
 unfold World.var? at h⊢
 rw [hg]at h⊢
 simp only [Option.bind_some]at h⊢
 rw [hb.block g hB]
 exact h
def laid14:List (String×DataW Unit):= [("math/bits.deBruijn32tab",Rows.laid_math_bits_deBruijn32tab),("math/bits.deBruijn64tab",Rows.laid_math_bits_deBruijn64tab),("given.example/pub-waxseal/pub/msgauth/inner/sha._K",Rows.laid_given_example_pub_waxseal_pub_msgauth_inner_sha_K),("internal/strconv.uint64pow10",Rows.laid_internal_strconv_uint64pow10),("strconv.ErrRange",Rows.laid_strconv_ErrRange),("strconv.ErrSyntax",Rows.laid_strconv_ErrSyntax),("io.ErrShortWrite",Rows.laid_io_ErrShortWrite),("io.errInvalidWrite",Rows.laid_io_errInvalidWrite),("io.EOF",Rows.laid_io_EOF),("io.ErrNoProgress",Rows.laid_io_ErrNoProgress),("bufio.ErrBufferFull",Rows.laid_bufio_ErrBufferFull),("bufio.errNegativeRead",Rows.laid_bufio_errNegativeRead),("given.example/pub-waxseal/pub/msgauth/dkim.ErrTooManySignatures",Rows.laid_given_example_pub_waxseal_pub_msgauth_dkim_ErrTooManySignatures),("given.example/pub-waxseal/pub/msgauth/dkim.requiredTags",Rows.laid_given_example_pub_waxseal_pub_msgauth_dkim_requiredTags)]
theorem cell_lt {w:World} {g off:Nat} {u:Value} (h:w.cell? ⟨g,off,none⟩=some u):g<w.heap.size:=by
 unfold World.cell? at h
 cases hh:w.heap[g]? with
 |none=>simp [hh]at h
 |some o=>exact(Array.getElem?_eq_some_iff.1 hh).1
theorem strs_at {w:World} {a:Addr} {ss:List ByteArray} (h: ∀i,i<ss.length→w.cell? (a.add i)=some (.string (ss.getD i ByteArray.empty)))(hp:0<ss.length):
 ∃b off,a=⟨b,off,none⟩∧∀j,j<ss.length→w.cell? ⟨b,off+j,none⟩=some (.string (ss.getD j ByteArray.empty)):=by
 obtain⟨b,off,spot⟩:=a
 have hspot:spot=none:=by simpa [Addr.add]using World.cell?_spot (h 0 hp)
 subst hspot
 exact⟨b,off,rfl,fun j hj=>by rw [←Go.WideShapes.add_plain];exact h j hj⟩
def toBS (s:ByteArray):BS:=s.data.toList
theorem str_to (s:ByteArray):Str (toBS s)= .string s:=by
 unfold toBS
 cases s;simp
theorem rd_strs {w:World} {a:Addr} {len cap:Nat} {ss:List ByteArray} (hl:len≤cap)(hs:len≤ss.length)(h: ∀i,i<ss.length→w.cell? (a.add i)=some (.string (ss.getD i ByteArray.empty))):
 Rd w (.slice (some a) len cap) (YtgilnagajcfkpaaGreatDoor.strs ((ss.take len).map toBS)):=by
 have hlen:(YtgilnagajcfkpaaGreatDoor.strs ((ss.take len).map toBS)).length=len:=by rw [stL,List.length_map,List.length_take];omega
 refine⟨some a,cap,by rw [hlen],by rw [hlen];exact hl,?_⟩
 rcases Nat.eq_zero_or_pos len with h0|h0
 ·left;exact List.length_eq_zero_iff.1 (hlen.trans h0)
 ·obtain⟨b,off,rfl,hc⟩:=strs_at h (by omega)
  refine .inr ⟨b,off,rfl,cell_lt (hc 0 (by omega)),fun j u hu=> ?_⟩
  have hj:j<len:=by
   have:=(List.getElem?_eq_some_iff.1 hu).1
   omega
  rw [hc j (by omega),←hu]
  unfold YtgilnagajcfkpaaGreatDoor.strs
  rw [List.getElem?_map,List.getElem?_map,List.getElem?_take_of_lt hj,List.getElem?_eq_getElem (by omega),List.getD_eq_getElem?_getD,List.getElem?_eq_getElem (by omega)]
  simp only [Option.map_some,Option.getD_some]
  rw [str_to]
def toB (z:Int):UInt8:=UInt8.ofNat z.toNat
theorem toB_nat {z:Int} (h:(Lit.int IntKind.u8 z).wf=true):((toB z).toNat:Int)=z:=by
 have hx:0≤z∧z≤255:=by simpa [Lit.wf,IntKind.min,IntKind.max,IntKind.signed,IntKind.bits]using h
 unfold toB
 rw [UInt8.toNat_ofNat']
 omega
theorem rd_byts {w:World} {a:Addr} {len cap:Nat} {zs:List Int} (hl:len≤cap)(hs:len≤zs.length)(h: ∀i,i<zs.length→w.cell? (a.add i)=some (.int .u8 (zs.getD i 0)))(hw: ∀n∈zs,(Lit.int IntKind.u8 n).wf=true):
 Rd w (.slice (some a) len cap) (byts ((zs.take len).map toB)):=by
 have hlen:(byts ((zs.take len).map toB)).length=len:=by rw [byL,List.length_map,List.length_take];omega
 refine⟨some a,cap,by rw [hlen],by rw [hlen];exact hl,?_⟩
 rcases Nat.eq_zero_or_pos len with h0|h0
 ·left;exact List.length_eq_zero_iff.1 (hlen.trans h0)
 ·obtain⟨b,off,rfl,hc⟩:=ints_at h (by omega)
  refine .inr ⟨b,off,rfl,cell_lt (hc 0 (by omega)),fun j u hu=> ?_⟩
  have hj:j<len:=by
   have:=(List.getElem?_eq_some_iff.1 hu).1
   omega
  rw [hc j (by omega),←hu]
  unfold byts
  rw [List.getElem?_map,List.getElem?_map,List.getElem?_take_of_lt hj,List.getElem?_eq_getElem (by omega),List.getD_eq_getElem?_getD,List.getElem?_eq_getElem (by omega)]
  simp only [Option.map_some,Option.getD_some]
  rw [toB_nat (hw _ (List.getElem_mem _))]
theorem open_strs {H:Type} {enc:TypeId×Value→H} {w:World} {base fuel:Nat} {sp:Nat→Bool} {held:Bool} {v:Value} {x:DataW H×List MemPlace} (h:DataW.trod enc Tryz.prog w base sp held fuel 23 [v]=some x):
 ∃l,Rd w v (YtgilnagajcfkpaaGreatDoor.strs l)∧((v= .slice none 0 0)∨∃a n c,v= .slice (some a) n c):=by
 rcases open_strings Tryz.underlying23 Tryz.underlying9 Tryz.c9 h with⟨hc,_⟩|⟨a,len,cap,ss,hcs,_,hl,_,hsl,_,hcell,_⟩
 ·obtain rfl:=(List.cons.inj hc).1
  exact⟨[],Rd.nil w, .inl rfl⟩
 ·obtain rfl:=(List.cons.inj hcs).1
  exact⟨_,rd_strs hl (by split at hsl<;>omega) hcell, .inr ⟨_,_,_,rfl⟩⟩
theorem open_byts {H:Type} {enc:TypeId×Value→H} {w:World} {base fuel:Nat} {sp:Nat→Bool} {held:Bool} {v:Value} {x:DataW H×List MemPlace} (h:DataW.trod enc Tryz.prog w base sp held fuel 22 [v]=some x):
 ∃l,Rd w v (byts l):=by
 rcases open_ints Tryz.underlying22 Tryz.underlying5 Tryz.c5 h with⟨hc,_⟩|⟨a,len,cap,zs,hcs,_,hl,_,hsl,_,hcell,hw⟩
 ·obtain rfl:=(List.cons.inj hc).1
  exact⟨[],Rd.nil w⟩
 ·obtain rfl:=(List.cons.inj hcs).1
  exact⟨_,rd_byts hl (by split at hsl<;>omega) hcell hw⟩
theorem open_str {H:Type} {enc:TypeId×Value→H} {w:World} {base fuel:Nat} {sp:Nat→Bool} {held:Bool} {v:Value} {x:DataW H×List MemPlace} (h:DataW.trod enc Tryz.prog w base sp held fuel 9 [v]=some x): ∃l,v=Str l:=by
 obtain⟨s,hc,_⟩:=DataW.trod_string Tryz.underlying9 h
 exact⟨toBS s,by rw [str_to];exact(List.cons.inj hc).1⟩
theorem list12 {l:List Value} (h:l.length=12): ∃a b c d e f g i j k m n,l= [a,b,c,d,e,f,g,i,j,k,m,n]:=by
 match l,h with
 | [a,b,c,d,e,f,g,i,j,k,m,n],_=>exact⟨a,b,c,d,e,f,g,i,j,k,m,n,rfl⟩
theorem open_o {H:Type} {enc:TypeId×Value→H} {w:World} {base b0:Nat} {sp:Nat→Bool} {held:Bool} {r:Reach} {v:Value} {d:DataW H} {p:List MemPlace} (hv:Value.okWide Tryz.prog w r b0 25 v)(h:DataW.Trod enc Tryz.prog w base sp held 25 v d p):
 ∃(o:RawO) (kv hv qv:Value),v=o.val kv hv qv∧o.In w kv hv qv∧∀n c,qv= .slice none n c→qv= .slice none 0 0:=by
 obtain⟨cs,rfl,hsz⟩:=okWide_struct Tryz.underlying25 hv
 have hc25:Tryz.prog.cellsOf 25=12:=by kernel_rfl
 rw [hc25]at hsz
 obtain⟨l⟩:=cs
 obtain⟨a,b,c,d,e,f,g,i,j,k,m,n,rfl⟩:=list12 (l:=l) (by simpa using hsz)
 obtain⟨fuel,hf⟩:=h
 obtain⟨xs,nn,_,_,_,hl,hel⟩:=DataW.trod_struct Tryz.underlying25 hf
 have hxs:xs.length=12:=by simpa using hl
 have c22:Tryz.prog.cellsOf 22=1:=by kernel_rfl
 have c23:Tryz.prog.cellsOf 23=1:=by kernel_rfl
 have c4:Tryz.prog.cellsOf 4=1:=by kernel_rfl
 have c2:Tryz.prog.cellsOf 2=1:=by kernel_rfl
 have e0:=hel 0 _ rfl
 have e1:=hel 1 _ rfl
 have e2:=hel 2 _ rfl
 have e3:=hel 3 _ rfl
 have e4:=hel 4 _ rfl
 have e5:=hel 5 _ rfl
 have e6:=hel 6 _ rfl
 have e7:=hel 7 _ rfl
 have e8:=hel 8 _ rfl
 have e9:=hel 9 _ rfl
 have e10:=hel 10 _ rfl
 have e11:=hel 11 _ rfl
 clear hel hf
 simp only [Value.cells,Tryz.c9,c22,c23,c4,c2,List.drop_succ_cons,List.drop_zero,List.take_succ_cons,List.take_zero]at e0 e1 e2 e3 e4 e5 e6 e7 e8 e9 e10 e11
 rw [List.getElem?_eq_getElem (by omega)]at e0 e1 e2 e3 e4 e5 e6 e7 e8 e9 e10 e11
 obtain⟨l0,rfl⟩:=open_str e0
 obtain⟨l1,rfl⟩:=open_str e1
 obtain⟨l2,rfl⟩:=open_str e2
 obtain⟨l3,rfl⟩:=open_str e3
 obtain⟨l4,r4⟩:=open_byts e4
 obtain⟨l5,rfl⟩:=open_str e5
 obtain⟨l6,rfl⟩:=open_str e6
 obtain⟨l7,r7,_⟩:=open_strs e7
 obtain⟨l11,r11,hq⟩:=open_strs e11
 obtain⟨b8,h8,_⟩:=DataW.trod_bool Tryz.underlying4 e8
 obtain rfl:=(List.cons.inj h8).1
 obtain⟨n9,h9,_⟩:=DataW.trod_int Tryz.underlying2 e9
 obtain rfl:=(List.cons.inj h9).1
 obtain⟨n10,h10,_⟩:=DataW.trod_int Tryz.underlying2 e10
 obtain rfl:=(List.cons.inj h10).1
 refine⟨⟨l0,l1,l2,l3,l4,l5,l6,l7,b8,n9,n10,l11⟩,e,i,n,rfl,⟨r4,r7,r11⟩,fun n' c' h=> ?_⟩
 rcases hq with h0|⟨a',n'',c'',h0⟩
 ·exact h0
 ·rw [h0]at h;cases h
theorem of_laid {w:World} (h:laidMetH Tryz.prog laid14 w):Vars w.heap.size w:=by
 rw [MakeChecks.laidMetH_plain _ _ _ (by kernel_rfl)]at h
 unfold laid14 at h
 have h2:=h.tail.tail
 have h3:=h2.tail
 have h8:=h3.tail.tail.tail.tail.tail
 have h10:=h8.tail.tail
 have h12:=h10.tail.tail
 have h13:=h12.tail
 rw [kTab_eq]at h2
 rw [pow_eq]at h3
 have hK:=Lib.tabIs_of_head Tryz.g6 (t:=199) (by kernel_rfl) Tryz.underlying199 (by kernel_rfl) (by kernel_rfl) (by kernel_rfl) h2
 have hP:=Lib.tabIs_of_head Tryz.g11 (t:=317) (by kernel_rfl) Tryz.underlying317 (by kernel_rfl) (by kernel_rfl) (by kernel_rfl) h3
 obtain⟨a4,s4,v4,_⟩:=laid_sentinel h8 Tryz.g4 (by kernel_rfl) Tryz.underlying74 Tryz.row242 Tryz.underlying242 Tryz.underlying244 rfl rfl Tryz.underlying9 Tryz.c244 Tryz.c9
 obtain⟨a5,s5,v5,_⟩:=laid_sentinel h10 Tryz.g5 (by kernel_rfl) Tryz.underlying74 Tryz.row242 Tryz.underlying242 Tryz.underlying244 rfl rfl Tryz.underlying9 Tryz.c244 Tryz.c9
 obtain⟨a0,s0,v0,_⟩:=laid_sentinel h12 Tryz.g0 (by kernel_rfl) Tryz.underlying74 Tryz.row242 Tryz.underlying242 Tryz.underlying244 rfl rfl Tryz.underlying9 Tryz.c244 Tryz.c9
 have l6:=var_lt Tryz.g6 hK
 have l11:=var_lt Tryz.g11 hP
 refine⟨⟨l6,Nat.le_refl _,fun i hi=> ?_,⟨a5,World.var?_cell Tryz.g5 v5 0⟩,⟨a4,World.var?_cell Tryz.g4 v4 0⟩,fun w' hb=>var_below Tryz.g11 l11 hb hP⟩,?_,⟨a0,World.var?_cell Tryz.g0 v0 0⟩⟩
 ·have:=hK.cell Tryz.g6 i (by rw [List.length_map];exact hi)
  rw [this]
  congr 2
  rw [List.getD_eq_getElem?_getD,List.getD_eq_getElem?_getD,List.getElem?_map]
  cases kTab[i]?<;>rfl
 ·obtain⟨ps,⟨g,t,cs,fuel,p,q,hg,ht,hv,hd,_,_⟩,_,_⟩:=h13
  obtain rfl:=Option.some.inj (Tryz.g1.symm.trans hg)
  obtain rfl:=Option.some.inj ((show(Tryz.prog.globals[1]?).map (·.type)=some 23 by kernel_rfl).symm.trans ht)
  rcases open_strings Tryz.underlying23 Tryz.underlying9 Tryz.c9 hd with⟨_,hx⟩|⟨a,len,cap,ss,hcs,_,hl,_,hsl,hx,hcell,_⟩
  ·simp [Rows.laid_given_example_pub_waxseal_pub_msgauth_dkim_requiredTags]at hx
  ·simp only [Prod.mk.injEq]at hx
   have hx:=hx.1
   unfold Rows.laid_given_example_pub_waxseal_pub_msgauth_dkim_requiredTags at hx
   injection hx with hx _
   have hll:len≤ss.length:=by split at hsl<;>omega
   have hmap:(ss.take len).map toBS=reqL:=by
    have h7:(Go.ChangeShapes.strs (H:=Unit) (ss.take len))=reqL.map fun s=>DataW.lit (.string s):=hx.symm
    unfold Go.ChangeShapes.strs at h7
    have:=congrArg (List.map fun(d:DataW Unit)=>match d with| .lit (.string s)=>s|_=> []) h7
    rw [List.map_map,List.map_map]at this
    exact this
   have hlen:len=7:=by
    have:=congrArg List.length hmap
    rw [List.length_map,List.length_take]at this
    have e:reqL.length=7:=rfl
    omega
   have hr:=rd_strs (w:=w) hl hll hcell
   rw [hmap,hlen]at hr
   obtain⟨A,c,he,_,hn|⟨gr,og,e,hgr,hc⟩⟩:=hr
   ·cases hn
   ·injection he with h1 _ h3
    rw [e]at h1
    obtain rfl:=Option.some.inj h1
    refine⟨gr,og,cap,?_,hgr,var_lt Tryz.g1 hv,fun k u hu=>hc k (Str u) (by unfold YtgilnagajcfkpaaGreatDoor.strs;rw [List.getElem?_map,hu];rfl)⟩
    have:=World.var?_cell Tryz.g1 hv 0
    rw [this]
    obtain⟨l⟩:=cs
    simp only at hcs
    rw [hcs,hlen]
    rfl
end Go.Proofs.YtgilnagajcfkpaaGreatDoor
