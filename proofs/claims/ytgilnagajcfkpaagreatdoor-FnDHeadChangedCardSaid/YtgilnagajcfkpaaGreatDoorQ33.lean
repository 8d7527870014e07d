import Derived.Deep.CutRange
import Derived.Test.YtgilnagajcfkpaaGreatDoorQ30
import Derived.Test.YtgilnagajcfkpaaGreatDoorQ31
set_option maxHeartbeats 4000000
set_option maxRecDepth 1000000
set_option linter.all false
namespace Go.Proofs.YtgilnagajcfkpaaGreatDoor
open Go.RowKit
theorem keyOf_any (kind key:BS)(kv:Value)(w:World)(hv:Rd w kv (byts key))(hk:key.length≤4294967296):
 Calls Tryz.prog 56 #[Str kind,kv] w fun e w'=>e= .returned (.tuple #[.iface 94 (.agg #[Str kind,kv]), .int .i64 (sizeV kind key), .nilIface])∧w'=w:=by
 obtain⟨A,c,rfl,_⟩:=id hv
 have hc:=sizeOf_any kind key _ w hv hk
 rw [byL]at hc⊢
 go_enter Tryz.func56,Tryz.ntmps56
 go_wp2_with fail
 refine hc.mono ?_
 rintro e w1 ⟨rfl,rfl⟩
 go_wp2_with fail
 go_ret3
 exact⟨rfl,rfl⟩
def keyCells (kind:BS)(kv:Value):List Value:= [.iface 94 (.agg #[Str kind,kv]),Str kind, .slice none 0 0,Str [], .slice none 0 0, .slice none 0 0]
def KeyPost (w:World)(kind key:BS)(e:Ending)(w':World):Prop:=
 ∃q kv,e= .returned (.tuple #[.pointer (some ⟨q,0,none⟩), .nilIface])∧Blk w' q 220 (keyCells kind kv)∧Rd w' kv (byts key)∧w.heap.size≤q∧(∀k,kv.ownBlock=some k→w.heap.size≤k∧k≠q)∧Below w.heap.size w w'
theorem look_run {w:World} {b n:Nat} {L:List Tag} (hm:MapS w b n (fun k=>look k L))(k:BS)(hk:k.length≤1000)(r:Option BS)(hr:look k L=r):
 (Instr.lookup 179 (.map (some b)) (Str k) true).run Tryz.prog w= .ok (.tuple #[Str (r.getD []), .bool r.isSome]) w∧(Instr.lookup 179 (.map (some b)) (Str k) false).run Tryz.prog w= .ok (Str (r.getD [])) w:=by
 have h1:=run_mapS_ok hm k (by omega)
 have h2:=run_mapS hm k (by omega)
 rw [hr]at h1 h2
 exact⟨h1,h2⟩
structure KLk (w:World)(b:Nat)(kind EK:BS):Prop where
 v:(Instr.lookup 179 (.map (some b)) (.string ⟨#[118]⟩) true).run Tryz.prog w= .ok (.tuple #[.string ⟨#[68,75,73,77,49]⟩, .bool true]) w
 p:(Instr.lookup 179 (.map (some b)) (.string ⟨#[112]⟩) true).run Tryz.prog w= .ok (.tuple #[Str EK, .bool true]) w
 k:(Instr.lookup 179 (.map (some b)) (.string ⟨#[107]⟩) false).run Tryz.prog w= .ok (Str kind) w
 h:(Instr.lookup 179 (.map (some b)) (.string ⟨#[104]⟩) true).run Tryz.prog w= .ok (.tuple #[.string ⟨#[]⟩, .bool false]) w
 n:(Instr.lookup 179 (.map (some b)) (.string ⟨#[110]⟩) true).run Tryz.prog w= .ok (.tuple #[.string ⟨#[]⟩, .bool false]) w
 s:(Instr.lookup 179 (.map (some b)) (.string ⟨#[115]⟩) true).run Tryz.prog w= .ok (.tuple #[.string ⟨#[]⟩, .bool false]) w
 t:(Instr.lookup 179 (.map (some b)) (.string ⟨#[116]⟩) true).run Tryz.prog w= .ok (.tuple #[.string ⟨#[]⟩, .bool false]) w
theorem KLk.of {w:World} {b n:Nat} {L:List Tag} {kind key EK:BS} (K:KeyTags L kind key)(he:EK=enc64 key)(hm:MapS w b n (fun k=>look k L)):KLk w b kind EK where
 v:=(look_run hm [118] (by decide) _ K.v).1
 p:=by rw [he];exact(look_run hm [112] (by decide) _ K.p).1
 k:=(look_run hm [107] (by decide) _ K.k).2
 h:=(look_run hm [104] (by decide) _ K.h).1
 n:=(look_run hm [110] (by decide) _ K.n).1
 s:=(look_run hm [115] (by decide) _ K.s).1
 t:=(look_run hm [116] (by decide) _ K.t).1
theorem mapS_obj0 {w:World} {b n:Nat} {f:BS→Option BS} (h:MapS w b n f): ∃es clock,w.heap[b]?=some (.map es clock):=by
 obtain⟨D,⟨es,clock,h,_⟩,_⟩:=h
 exact⟨es,clock,h⟩
theorem parseKey_any (l kind key:BS)(L:List Tag)(w:World)(hs:l.length≤2147483648)(hp:plain l=true)(hk:key.length≤1073741824)(hL:pmap l=some L)(K:KeyTags L kind key):
 Calls Tryz.prog 156 #[Str l, .func (.func 56) #[] #[]] w (KeyPost w kind key):=by
 have HL:=Lib.hid hL;clear hL
 have hel:=enc_len key
 have hne:(enc64 key).isEmpty=false:=by
  rcases K.size with⟨_,h⟩|⟨_,h⟩<;>(cases he:enc64 key with|nil=>(rw [he]at hel;simp at hel;omega)|cons=>rfl)
 have HK:=Lib.hid K
 have Hd:=Lib.hid (enc_p key)
 have hm4:(enc64 key).length%4=0:=by rw [hel];omega
 have hll:(enc64 key).length≤4294967296:=by rw [hel];omega
 have Hcl:Hid (∀c∈enc64 key,c≠13∧c≠10):=fun c hc=>by have:=(enc_all key c hc).1;refine⟨?_,?_⟩<;>(rintro rfl;revert this;decide)
 have H32:Hid ((32:UInt8)∉enc64 key):=fun h=>by have:=(enc_all key 32 h).1;revert this;decide
 clear hel
 obtain⟨EK,HEK⟩: ∃x,Hid (x=enc64 key):=⟨_,Lib.hid rfl⟩
 rw [←HEK.out]at hne Hd hm4 hll Hcl H32
 go_enter Tryz.func156,Tryz.ntmps156
 go_wp2_with fail
 refine(parseHeaderParams_any l L w hs hp HL.out).mono ?_
 rintro e w1 ⟨b,n,rfl,hbl,hm1,hn,hb1⟩
 have hbA:=(Below.refl w1.heap.size w1).alloc (Nat.le_refl _) (.cells #[.nilIface,Str [], .slice none 0 0,Str [], .slice none 0 0, .slice none 0 0] 220)
 have hq:=Blk.new w1 220 #[.nilIface,Str [], .slice none 0 0,Str [], .slice none 0 0, .slice none 0 0]
 have hm2:=hm1.below hbA hm1.lt
 obtain⟨q,Hq⟩: ∃x,Hid (x=w1.heap.size):=⟨_,Lib.hid rfl⟩
 rw [←Hq.out]at hq
 have lk:=KLk.of K HEK.out hm2
 have lv:=lk.v
 have lp:=lk.p
 clear lk
 go_wp2_with fail
 rw [←Hq.out]
 clear lv lp
 have hbw2:Below w.heap.size w (w1.alloc (.cells #[.nilIface,Str [], .slice none 0 0,Str [], .slice none 0 0, .slice none 0 0] 220)):=hb1.trans (hbA.mono hb1.size)
 generalize w1.alloc (.cells #[.nilIface,Str [], .slice none 0 0,Str [], .slice none 0 0, .slice none 0 0] 220)=w2 at*
 have hqw:w.heap.size≤q:=by rw [Hq.out];exact hb1.size
 refine(zzReplaceAll_none EK 32 w2 hll H32.out).mono ?_
 rintro e w3 ⟨rfl,hb3⟩
 have hm3:=hm2.below hb3 hm2.lt
 have hq3:=hq.below hb3 hq.lt
 have hbw3:=hbw2.trans (hb3.mono hbw2.size)
 clear hm1 hm2 hq hbA hb1 hb3 hbw2
 go_wp2_with fail
 refine(zzDecode_any EK key w3 hll Hd.out Hcl.out hm4).mono ?_
 rintro e w4 ⟨kv,rfl,ho4,hb4⟩
 have hm4':=hm3.below hb4 hm3.lt
 have hq4:=hq3.below hb4 hq3.lt
 have hbw4:=hbw3.trans (hb4.mono hbw3.size)
 have hkq: ∀k,kv.ownBlock=some k→w3.heap.size≤k∧k<w4.heap.size:=ho4.lt
 have hq3l:=hq3.lt
 have hrd:=ho4.rd
 have hw3w:=hbw3.size
 clear hm3 hq3 hb4 hbw3 ho4
 have lk:=KLk.of K HEK.out hm4'
 have lk4:=lk.k
 have f0:=hq4.frozen 0
 have f1:=hq4.frozen 1
 have c0:=hq4.cell 0 _ rfl
 have c1:=hq4.cell 1 _ rfl
 clear lk
 have hc56: ∀kd,Calls Tryz.prog 56 #[Str kd,kv] w4 fun e w'=>e= .returned (.tuple #[.iface 94 (.agg #[Str kd,kv]), .int .i64 (sizeV kd key), .nilIface])∧w'=w4:=fun kd=>keyOf_any kd key kv w4 hrd (by omega)
 have hfin: ∀(a:Bool),Blk ((w4.setCell ⟨q,0,none⟩ (.iface 94 (.agg #[Str kind,kv]))).setCell ⟨q,1,none⟩ (Str kind)) q 220 (keyCells kind kv):=fun _=>(hq4.set 0 (.iface 94 (.agg #[Str kind,kv]))).set 1 (Str kind)
 have hfin:=hfin true
 have hF:Frm (· =q) w4 ((w4.setCell ⟨q,0,none⟩ (.iface 94 (.agg #[Str kind,kv]))).setCell ⟨q,1,none⟩ (Str kind)):=Frm.setCell (S:=(· =q)) (Frm.setCell (S:=(· =q)) (Frm.refl _ w4) ⟨q,0,none⟩ _ (fun _=>rfl)) ⟨q,1,none⟩ _ (fun _=>rfl)
 have lk5:=KLk.of K HEK.out (hm4'.frm hF (fun e=>by
  obtain⟨es,c,hb⟩:=mapS_obj0 hm4'
  rw [e,hq4]at hb
  cases hb))
 have hrd5:Rd ((w4.setCell ⟨q,0,none⟩ (.iface 94 (.agg #[Str kind,kv]))).setCell ⟨q,1,none⟩ (Str kind)) kv (byts key):=hrd.frm hF (fun k hk e=>by have:=hkq k hk;omega)
 have hb5:Below w.heap.size w ((w4.setCell ⟨q,0,none⟩ (.iface 94 (.agg #[Str kind,kv]))).setCell ⟨q,1,none⟩ (Str kind)):=hbw4.trans (hF.below (fun k _ e=>by rw [e];exact hqw) hbw4.size)
 have l1:=lk5.h
 have l2:=lk5.n
 have l3:=lk5.s
 have l4:=lk5.t
 obtain⟨A,kc,hkv,_⟩:=id hrd
 rw [byL]at hkv
 subst hkv
 clear hm4' lk5 hrd hF hq4 hbw4
 rcases K.size with⟨hk0,hkl⟩|⟨hk0,hkl⟩
 ·have hk1:kind= [114,115,97]:=hk0
  clear hk0
  subst hk1
  have z1: ¬(8*(key.length:Int)<1024):=by omega
  go_wp2_with fail
  refine(hc56 [114,115,97]).mono ?_
  rintro e w5 ⟨rfl,rfl⟩
  have z2:((sizeV [114,115,97] key:Nat):Int)=8*(key.length:Int):=by unfold sizeV;rw [if_neg (by decide)];omega
  rw [z2]
  clear z2 hc56
  go_wp2_with fail
  go_ret2
  clear l1 l2 l3 l4
  have hkq': ∀k,(Value.slice A key.length kc).ownBlock=some k→w.heap.size≤k∧k≠q:=fun k hk=>by have:=hkq k hk;omega
  exact⟨q, .slice A key.length kc,rfl,hfin,hrd5,hqw,hkq',hb5⟩
 ·have hk1:kind= [101,100,50,53,53,49,57]:=hk0
  clear hk0
  subst hk1
  have z1:((key.length:Int) !=32)=false:=by simp;omega
  clear hkl K HK
  go_wp2_with fail
  refine(hc56 [101,100,50,53,53,49,57]).mono ?_
  rintro e w5 ⟨rfl,rfl⟩
  clear hc56
  go_wp2_with fail
  go_ret2
  clear l1 l2 l3 l4
  have hkq': ∀k,(Value.slice A key.length kc).ownBlock=some k→w.heap.size≤k∧k≠q:=fun k hk=>by have:=hkq k hk;omega
  exact⟨q, .slice A key.length kc,rfl,hfin,hrd5,hqw,hkq',hb5⟩
end Go.Proofs.YtgilnagajcfkpaaGreatDoor
