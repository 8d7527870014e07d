import Derived.Test.YtgilnagajcfkpaaGreatDoorQ00
import Derived.Test.YtgilnagajcfkpaaGreatDoorQ05
set_option maxHeartbeats 4000000
set_option maxRecDepth 1000000
set_option linter.all false
namespace Go.Proofs.YtgilnagajcfkpaaGreatDoor
open Go.RowKit
theorem blank_eq (c:UInt8):blank c=((c.toNat:Int)==32||(c.toNat:Int)==9||(c.toNat:Int)==13||(c.toNat:Int)==10):=by
 have a:=u8_eq c 32;have b:=u8_eq c 9;have d:=u8_eq c 13;have e:=u8_eq c 10
 simp only [blank,←a,←b,←d,←e];rfl
theorem dBlank_any (c:UInt8)(w:World):
 Calls Tryz.prog 46 #[.int .u8 c.toNat] w fun e w'=>e= .returned (.bool (blank c))∧w=w':=by
 go_enter Tryz.func46,Tryz.ntmps46
 go_wp2
 all_goals go_ret
 all_goals rw [blank_eq]
 all_goals simp [*]
theorem dStrip_any (l:BS)(w:World)(hs:l.length≤4294967296):
 Calls Tryz.prog 29 #[Str l] w fun e w'=>e= .returned (Str (strip l))∧Below w.heap.size w w':=by
 go_enter Tryz.func29,Tryz.ntmps29
 go_wp2
 go_loopw [3,4] (fun v i wr=> ∃k:Nat,k≤l.length∧i= .int .i64 k∧OwnAt wr w.heap.size 5 v (byts (strip (l.take k)))∧Below w.heap.size w wr) (fun _ i _=>l.length-(intOf i).toNat)
 case atStart=>exact⟨0,Nat.zero_le _,rfl,OwnAt.nil _ _ _,Below.refl _ _⟩
 case round=>
  obtain⟨k,hk,rfl,ho,hb⟩:=hrel
  by_cases hlt:k<l.length
  ·have hsn:=strip_snoc l k hlt
   have hsl:(strip (l.take k)).length≤4294967296:=by
    have h1:=strip_len (l.take k)
    have:(l.take k).length≤k:=List.length_take_le _ _
    omega
   cases hbl:blank l[k]with
   |true=>
    have H:=Lib.hid hsn;clear hsn
    have Hb:=Lib.hid hbl;clear hbl
    go_wp2_with (go_at_call 46;refine(dBlank_any _ _).mono ?_;rintro e w1 ⟨rfl,rfl⟩;rw [Hb.out])
    go_roundw
    case rel=>exact⟨k+1,by omega,by go_num,by rw [H.out,Hb.out];simpa using ho,hb⟩
    case measure=>simp [intOf];omega
   |false=>
    have H:=Lib.hid hsn;clear hsn
    have Hb:=Lib.hid hbl;clear hbl
    have hbs:=hb.size
    go_wp2_with (first
     |(go_at_call 46;refine(dBlank_any _ _).mono ?_;rintro e w1 ⟨rfl,rfl⟩;rw [Hb.out])
     |(at_builtin;refine appB rfl (.tmp 16) (.tmp 20) 22 (.inl rfl) rfl _ [l[k]] rfl (ho.alloc _) rfl (Src.one wr 5 _ rfl) (by simp;omega) (by simp;omega) ?_;intro v' w' ho' hg' hb' hat'))
    go_roundw
    case rel=>exact⟨k+1,by omega,by go_num,by rw [H.out,Hb.out];simpa using ho',hb.trans (((Below.refl _ _).alloc hbs _).trans hb')⟩
    case measure=>simp [intOf];omega
  ·have e:l.take k=l:=List.take_of_length_le (by omega)
   rw [e]at ho
   have hcv:=cvB ho.rd
   go_wp2
   go_ret
   exact⟨rfl,hb⟩
theorem dCut_any (l:BS)(c:UInt8)(w:World)(hs:l.length≤4294967296):
 Calls Tryz.prog 41 #[Str l, .int .u8 c.toNat] w fun e w'=>
  e= .returned (.tuple #[Str (cutAt c l).1,Str (cutAt c l).2.1, .bool (cutAt c l).2.2])∧Below w.heap.size w w':=by
 go_enter Tryz.func41,Tryz.ntmps41
 go_wp2
 go_loopw [7] (fun i wr=> ∃k:Nat,k≤l.length∧i= .int .i64 k∧Below w.heap.size w wr∧Hid (∀j,(hj:j<k)→(hj2:j<l.length)→l[j]≠c)) (fun i _=>l.length-(intOf i).toNat)
 case atStart=>exact⟨0,Nat.zero_le _,rfl,Below.refl _ _,fun j hj=>by omega⟩
 case round=>
  obtain⟨k,hk,rfl,hb,H⟩:=hrel
  by_cases hlt:k<l.length
  ·by_cases hc:l[k]=c
   ·have hd:=bT hc
    have Hc:=Lib.hid hc;clear hc
    go_wp2
    go_quiet (fail)
    go_wp2
    go_ret3
    refine⟨?_,bdN hb _⟩
    rw [cutAt_at c l k hlt (fun j hj=>H.out j hj (by omega)) Hc.out]
    simp
   ·have hd:=bF hc
    have Hc:=Lib.hid hc;clear hc
    go_wp2
    go_roundw
    case rel=>exact⟨k+1,by omega,by go_num,hb,fun j hj hj2=>by
     by_cases e:j=k
     ·subst e;exact Hc.out
     ·exact H.out j (by omega) hj2⟩
    case measure=>simp [intOf];omega
  ·go_wp2
   go_ret3
   refine⟨?_,hb⟩
   rw [cutAt_none c l (fun j hj=>H.out j (by omega) hj)];rfl
theorem dSplit_any (l:BS)(c:UInt8)(w:World)(hs:l.length≤4294967296):
 Calls Tryz.prog 30 #[Str l, .int .u8 c.toNat] w fun e w'=> ∃v,e= .returned v∧OwnAt w' w.heap.size 9 v (strs (splitAt c l))∧Below w.heap.size w w':=by
 have hsl:=spL c l
 go_enter Tryz.func30,Tryz.ntmps30
 go_wp2
 go_loopw [0,5] (fun s v wr=> ∃(x:BS) (done:List BS),x.length≤l.length∧s=Str x∧Hid (splitAt c l=done++splitAt c x)∧OwnAt wr w.heap.size 9 v (strs done)∧Below w.heap.size w wr) (fun s _ _=>match s with| .string b=>b.size|_=>0)
 case atStart=>exact⟨l,[],by omega,rfl,rfl,OwnAt.nil _ _ _,Below.refl _ _⟩
 case round=>
  obtain⟨x,done,hx,rfl,H,ho,hb⟩:=hrel
  have hcl:=cutAt_len c x
  have hsc:=splitAt_cut c x
  have hdl:done.length≤l.length+1:=by have h:=congrArg List.length H.out;simp at h;omega
  rcases hct:cutAt c x with⟨p,q,f⟩
  rw [hct]at hcl hsc
  simp only at hcl hsc
  obtain⟨hp,hq,hq2⟩:=hcl
  have Hc:=Lib.hid hct;clear hct
  have Hs:=Lib.hid hsc;clear hsc
  have hbs:=hb.size
  cases f with
  |true=>
   have hq3:=hq2 rfl
   clear hq2
   go_wp2_with (first
    |(go_at_call 41;refine(dCut_any _ _ _ (by omega)).mono ?_;rintro e w1 ⟨rfl,hb1⟩;rw [Hc.out];simp only [];have hs1:=hb1.size)
    |(at_builtin;refine appS rfl (.tmp 16) (.tmp 18) rfl _ [p] rfl ((ho.below hb1).alloc _) rfl (Src.one w1 9 _ rfl) (by simp;omega) (by simp;omega) ?_;intro v' w' ho' hg' hb' hat'))
   go_roundw
   case rel=>exact⟨q,done++ [p],by omega,rfl,by rw [H.out,Hs.out];simp [Hid],ho',(hb.trans (hb1.mono hbs)).trans (((Below.refl _ _).alloc (by omega) _).trans hb')⟩
   case measure=>simp [ByteArray.size];omega
  |false=>
   clear hq2
   go_wp2_with (first
    |(go_at_call 41;refine(dCut_any _ _ _ (by omega)).mono ?_;rintro e w1 ⟨rfl,hb1⟩;rw [Hc.out];simp only [];have hs1:=hb1.size)
    |(at_builtin;refine appS rfl (.tmp 16) (.tmp 18) rfl _ [p] rfl ((ho.below hb1).alloc _) rfl (Src.one w1 9 _ rfl) (by simp;omega) (by simp;omega) ?_;intro v' w' ho' hg' hb' hat'))
   go_ret
   exact⟨_,rfl,by rw [H.out,Hs.out];exact ho',(hb.trans (hb1.mono hbs)).trans (((Below.refl _ _).alloc (by omega) _).trans hb')⟩
theorem dTrim_any (l:BS)(w:World)(hs:l.length≤4294967296):
 Calls Tryz.prog 45 #[Str l] w fun e w'=>e= .returned (Str (trim l))∧w=w':=by
 go_enter Tryz.func45,Tryz.ntmps45
 go_wp2
 go_loop [0] (fun s=> ∃x:BS,x.length≤l.length∧s=Str x∧Hid (x.dropWhile blank=l.dropWhile blank)) (fun s=>match s with| .string b=>b.size|_=>0)
 case atStart=>exact⟨l,by omega,rfl,rfl⟩
 case round=>
  obtain⟨x,hx,rfl,H⟩:=hrel
  have hcase:(∃c r,x=c::r∧blank c=true)∨x= []∨∃c r,x=c::r∧blank c=false:=by
   cases x with
   |nil=>exact .inr (.inl rfl)
   |cons c r=>cases hb:blank c<;>simp [hb]
  rcases hcase with⟨c,r,rfl,hbl⟩|hcase
  ·have Hb:=Lib.hid hbl;clear hbl
   go_wp2_with (go_at_call 46;refine(dBlank_any _ _).mono ?_;rintro e w1 ⟨rfl,rfl⟩;rw [Hb.out])
   go_round
   case rel=>exact⟨r,by simp at hx;omega,by simp,by rw [←H.out];simp [Hid,List.dropWhile_cons,Hb.out]⟩
   case measure=>simp [ByteArray.size]
  ·have Hd:Hid (rtrim x=trim l):=by
    show _=_
    rw [trim,←H.out]
    rcases hcase with rfl|⟨c,r,rfl,hbl⟩<;>simp [List.dropWhile_cons, *]
   clear H
   rcases hcase with rfl|⟨c,r,rfl,hbl⟩
   all_goals try (have Hb:=Lib.hid hbl;clear hbl)
   all_goals
    go_wp2_with (go_at_call 46;refine(dBlank_any _ _).mono ?_;rintro e w1 ⟨rfl,rfl⟩;rw [Hb.out])
    go_loop [0] (fun s=> ∃y:BS,y.length≤l.length∧s=Str y∧Hid (rtrim y=trim l)) (fun s=>match s with| .string b=>b.size|_=>0)
    case atStart=>exact⟨_,hx,rfl,Hd⟩
    case round=>
     obtain⟨y,hy,rfl,H2⟩:=hrel
     clear Hd
     by_cases hy0:y= []
     ·subst hy0
      go_wp2
      go_ret
      exact⟨by rw [←H2.out];rfl,rfl⟩
     ·obtain⟨q,d,rfl⟩:=eq_snoc y hy0
      clear hy0
      cases hbd:blank d with
      |true=>
       have Hbd:=Lib.hid hbd;clear hbd
       simp at hy
       go_wp2_with (go_at_call 46;refine(dBlank_any _ _).mono ?_;rintro e w1 ⟨rfl,rfl⟩;rw [Hbd.out])
       go_round
       case rel=>exact⟨q,by omega,by simp,by rw [←H2.out,rtrim_snoc,Hbd.out];rfl⟩
       case measure=>simp [ByteArray.size]
      |false=>
       have Hbd:=Lib.hid hbd;clear hbd
       simp at hy
       go_wp2_with (go_at_call 46;refine(dBlank_any _ _).mono ?_;rintro e w1 ⟨rfl,rfl⟩;rw [Hbd.out])
       go_ret
       exact⟨by rw [←H2.out,rtrim_snoc,Hbd.out];rfl,rfl⟩
theorem dName_any (l:BS)(w:World)(hs:l.length≤4294967296):
 Calls Tryz.prog 28 #[Str l] w fun e w'=>e= .returned (Str (name l))∧Below w.heap.size w w':=by
 have hcl:=(cutAt_len 58 l).1
 go_enter Tryz.func28,Tryz.ntmps28
 go_wp2_with (first
  |(go_at_call 41;refine(dCut_any l 58 _ hs).mono ?_;rintro e w1 ⟨rfl,hb1⟩)
  |(go_at_call 45;refine(dTrim_any _ _ (by omega)).mono ?_;rintro e w2 ⟨rfl,rfl⟩))
 go_ret
 exact⟨rfl,hb1⟩
theorem dParts_any (l:BS)(w:World)(hs:l.length≤4294967296):
 Calls Tryz.prog 73 #[Str l] w fun e w'=> ∃v,e= .returned v∧OwnAt w' w.heap.size 9 v (strs (splitAt 58 (strip l)))∧Below w.heap.size w w':=by
 have hcl:=strip_len l
 go_enter Tryz.func73,Tryz.ntmps73
 go_wp2_with (first
  |(go_at_call 29;refine(dStrip_any l _ hs).mono ?_;rintro e w1 ⟨rfl,hb1⟩)
  |(go_at_call 30;refine(dSplit_any _ 58 _ (by omega)).mono ?_;rintro e w2 ⟨v,rfl,ho,hb2⟩))
 go_ret
 exact⟨_,rfl,ho.mono hb1.size,hb1.trans (hb2.mono hb1.size)⟩
theorem plainB_eq (c:UInt8):plainB c=(decide ((c.toNat:Int)<128)&& !((c.toNat:Int)==11)&& !((c.toNat:Int)==12)):=by
 have a:=u8_lt c 128;have b:=u8_eq c 11;have d:=u8_eq c 12
 simp only [plainB,bne,←a,←b,←d];rfl
theorem dPlain_any (l:BS)(m:Int)(w:World)(hs:l.length≤4294967296):
 Calls Tryz.prog 35 #[Str l, .int .i64 m] w fun e w'=>e= .returned (.bool (plain l&&decide ((l.length:Int)≤m)))∧w=w':=by
 go_enter Tryz.func35,Tryz.ntmps35
 go_wp2
 go_loop [5] (fun i=> ∃k:Nat,k≤l.length∧i= .int .i64 k∧Hid (plain l=plain (l.drop k))) (fun i=>l.length-(intOf i).toNat)
 case atStart=>exact⟨0,by omega,rfl,by simp [Hid]⟩
 case round=>
  obtain⟨k,hk,rfl,H⟩:=hrel
  by_cases hlt:k<l.length
  ·have hp:=plainB_eq l[k]
   have hd:Hid (plain (l.drop k)=(plainB l[k]&&plain (l.drop (k+1)))):=by
    show _=_
    rw [List.drop_eq_getElem_cons hlt];rfl
   have H2:=Lib.hid hp;clear hp
   by_cases h1:(l[k].toNat:Int)<128
   ·cases h2:((l[k].toNat:Int)==11)with
    |true=>
     go_wp2
     go_ret
     exact⟨by rw [H.out,hd.out,H2.out,h2];simp,rfl⟩
    |false=>
     cases h3:((l[k].toNat:Int)==12)with
     |true=>
      go_wp2
      go_ret
      exact⟨by rw [H.out,hd.out,H2.out,h3];simp,rfl⟩
     |false=>
      go_wp2
      go_round
      case rel=>exact⟨k+1,by omega,by go_num,by rw [H.out,hd.out,H2.out,h2,h3];simp [h1,Hid]⟩
      case measure=>simp [intOf];omega
   ·have h1':decide ((l[k].toNat:Int)<128)=false:=by simp;omega
    go_wp2
    go_ret
    exact⟨by rw [H.out,hd.out,H2.out,h1'];rfl,rfl⟩
  ·go_wp2
   go_ret
   refine⟨?_,rfl⟩
   rw [H.out,List.drop_eq_nil_of_le (by omega)];rfl
theorem dAmong_any (s:BS)(v:Value)(ss:List BS)(w:World)(hv:Rd w v (strs ss))(hs:ss.length≤4294967296):
 Calls Tryz.prog 75 #[Str s,v] w fun e w'=>e= .returned (.bool (decide (s∈ss)))∧w=w':=by
 obtain⟨A,c,rfl,_,hx⟩:=hv
 rw [stL]
 go_enter Tryz.func75,Tryz.ntmps75
 go_wp2
 go_loop [5] (fun i=> ∃k:Nat,k≤ss.length∧i= .int .i64 k∧Hid (s∈ss↔s∈ss.drop k)) (fun i=>ss.length-(intOf i).toNat)
 case atStart=>exact⟨0,by omega,rfl,by simp [Hid]⟩
 case round=>
  obtain⟨k,hk,rfl,H⟩:=hrel
  by_cases hlt:k<ss.length
  ·have hd:Hid (ss.drop k=ss[k]::ss.drop (k+1)):=List.drop_eq_getElem_cons hlt
   rcases hx with hn|⟨g,off,rfl,hg,hc⟩
   ·simp [strs]at hn;subst hn;simp at hlt
   ·have hck:=hc k (Str ss[k]) (by simp [strs,hlt])
    clear hc
    by_cases he:ss[k]=s
    ·have h1:(ss[k]==s)=true:=by simp [he]
     have F:Hid (decide (s∈ss)=true):=decide_eq_true (by rw [H.out,hd.out,he];simp)
     clear he
     go_wp2
     go_ret
     exact⟨by rw [F.out];rfl,rfl⟩
    ·have h1:(ss[k]==s)=false:=by simp [he]
     have He:=Lib.hid he;clear he
     go_wp2
     go_round
     case rel=>exact⟨k+1,by omega,by go_num,by
      show _↔_
      rw [H.out,hd.out,List.mem_cons];exact⟨fun h=>h.resolve_left (fun e=>He.out e.symm), .inr⟩⟩
     case measure=>simp [intOf];omega
  ·have F:Hid (decide (s∈ss)=false):=decide_eq_false (by rw [H.out,List.drop_eq_nil_of_le (by omega)];simp)
   go_wp2
   go_ret
   exact⟨by rw [F.out];rfl,rfl⟩
theorem dWithout_any (l:BS)(w:World)(hs:l.length≤4294967296):
 Calls Tryz.prog 83 #[Str l] w fun e w'=>e= .returned (Str (without l))∧w=w':=by
 go_enter Tryz.func83,Tryz.ntmps83
 go_wp2
 go_loop [0] (fun s=> ∃y:BS,y.length≤l.length∧s=Str y∧Hid (without y=without l)) (fun s=>match s with| .string b=>b.size|_=>0)
 case atStart=>exact⟨_,Nat.le_refl _,rfl,rfl⟩
 case round=>
  obtain⟨y,hy,rfl,H2⟩:=hrel
  by_cases hy0:y= []
  ·subst hy0
   go_wp2
   go_ret
   exact⟨by rw [←H2.out];rfl,rfl⟩
  ·obtain⟨q,d,rfl⟩:=eq_snoc y hy0
   clear hy0
   have hcase:((d.toNat:Int)==13)=true∨((d.toNat:Int)==13)=false∧((d.toNat:Int)==10)=true∨((d.toNat:Int)==13)=false∧((d.toNat:Int)==10)=false:=by
    cases h1:((d.toNat:Int)==13)<;>cases h2:((d.toNat:Int)==10)<;>simp
   have he:Hid (eolB d=((d.toNat:Int)==13||(d.toNat:Int)==10)):=by
    have a:=u8_eq d 13;have b:=u8_eq d 10
    show _=_
    simp only [eolB,←a,←b];rfl
   simp at hy
   rcases hcase with h1|⟨h1,h2⟩|⟨h1,h2⟩
   ·have hd:Hid (eolB d=true):=by show _=_;rw [he.out,h1];rfl
    go_wp2
    go_round
    case rel=>exact⟨q,by omega,by simp,by rw [←H2.out,without_snoc,hd.out];rfl⟩
    case measure=>simp [ByteArray.size]
   ·have hd:Hid (eolB d=true):=by show _=_;rw [he.out,h1,h2];rfl
    go_wp2
    go_round
    case rel=>exact⟨q,by omega,by simp,by rw [←H2.out,without_snoc,hd.out];rfl⟩
    case measure=>simp [ByteArray.size]
   ·have hd:Hid (eolB d=false):=by show _=_;rw [he.out,h1,h2];rfl
    go_wp2
    go_ret
    exact⟨by rw [←H2.out,without_snoc,hd.out];rfl,rfl⟩
theorem low_eq (c:UInt8):(low c).toNat=if 65≤c.toNat∧c.toNat≤90 then c.toNat+32 else c.toNat:=by
 unfold low
 simp only [UInt8.le_iff_toNat_le]
 have h1:(65:UInt8).toNat=65:=rfl
 have h2:(90:UInt8).toNat=90:=rfl
 rw [h1,h2]
 split
 ·rw [UInt8.toNat_add]
  have h3:(32:UInt8).toNat=32:=rfl
  omega
 ·rfl
theorem set_same {α :Type} (l:List α)(k:Nat)(u: α)(h:l[k]?=some u):l.set k u=l:=by
 obtain⟨h1,rfl⟩:=List.getElem?_eq_some_iff.1 h
 exact List.set_getElem_self h1
theorem lower_set (l:BS)(k:Nat)(h:k<l.length):(byts (lower (l.take k)++l.drop k)).set k (.int .u8 (low l[k]).toNat)=byts (lower (l.take (k+1))++l.drop (k+1)):=by
 have h1:(lower (l.take k)).length=k:=by simp [lower];omega
 rw [byts_append,byts_append,List.set_append,if_neg (by rw [byL];omega),byL,h1,Nat.sub_self]
 rw [List.drop_eq_getElem_cons h,List.take_succ_eq_append_getElem h]
 show byts (List.map low _)++_=byts (List.map low _)++_
 rw [List.map_append,byts_append]
 show _++(_::byts _).set 0 _=_
 rw [List.set_cons_zero]
 simp [byts]
theorem lower_at (l:BS)(k:Nat)(h:k<l.length):(byts (lower (l.take k)++l.drop k))[k]?=some (.int .u8 l[k].toNat):=by
 have h1:(lower (l.take k)).length=k:=by simp [lower];omega
 rw [byts_append,List.getElem?_append_right (by rw [byL];omega),byL,h1,Nat.sub_self,List.drop_eq_getElem_cons h];rfl
theorem dLower_any (l:BS)(w:World)(hs:l.length≤4294967296):
 Calls Tryz.prog 27 #[Str l] w fun e w'=>e= .returned (Str (lower l))∧Below w.heap.size w w':=by
 obtain⟨c,w1,hcv,ho1,hb1⟩:=conv_text w l (by omega)
 go_enter Tryz.func27,Tryz.ntmps27
 go_wp2
 go_loopw [4] (fun i wr=> ∃k:Nat,k≤l.length∧i= .int .i64 k∧OwnAt wr w.heap.size 5 (.slice (some ⟨w.heap.size,0,none⟩) l.length c) (byts (lower (l.take k)++l.drop k))∧Below w.heap.size w wr) (fun i _=>l.length-(intOf i).toNat)
 case atStart=>exact⟨0,Nat.zero_le _,rfl,by simpa [lower]using ho1,hb1⟩
 case round=>
  obtain⟨k,hk,rfl,ho,hb⟩:=hrel
  clear hcv ho1 hb1
  by_cases hlt:k<l.length
  ·have hck:=ho.cell_at k (.int .u8 l[k].toNat) (lower_at l k hlt)
   rw [Nat.zero_add]at hck
   obtain⟨hck,hfk⟩:=hck
   have H1:=Lib.hid (lower_set l k hlt)
   have hlow:=low_eq l[k]
   have hkl:k<(byts (lower (l.take k)++l.drop k)).length:=by rw [byL];simp [lower];omega
   by_cases h12:65≤(l[k].toNat:Int)∧(l[k].toNat:Int)≤90
   ·obtain⟨h1,h2⟩:=h12
    have hv:Hid (Value.int .u8 ((l[k].toNat:Int)+32)= .int .u8 (low l[k]).toNat):=by
     show _=_
     rw [hlow,if_pos (by omega)];rfl
    have H2:=ho.set_at k (.int .u8 ((l[k].toNat:Int)+32)) hkl
    have H3:=below_set ho k (.int .u8 ((l[k].toNat:Int)+32))
    rw [Nat.zero_add]at H2 H3
    clear hlow
    have H2':=Lib.hid H2;clear H2
    have H3':=Lib.hid H3;clear H3
    go_wp2
    go_roundw
    case rel=>exact⟨k+1,by omega,by go_num,by rw [←H1.out,←hv.out];exact H2'.out,hb.trans H3'.out⟩
    case measure=>simp [intOf];omega
   ·have hv:Hid (byts (lower (l.take (k+1))++l.drop (k+1))=byts (lower (l.take k)++l.drop k)):=by
     show _=_
     rw [←H1.out,hlow,if_neg (by omega)]
     exact set_same _ _ _ (lower_at l k hlt)
    clear hlow
    by_cases h1:65≤(l[k].toNat:Int)
    ·have h2: ¬(l[k].toNat:Int)≤90:=fun h=>h12 ⟨h1,h⟩
     clear h12
     go_wp2
     go_roundw
     case rel=>exact⟨k+1,by omega,by go_num,by rw [hv.out];exact ho,hb⟩
     case measure=>simp [intOf];omega
    ·clear h12
     go_wp2
     go_roundw
     case rel=>exact⟨k+1,by omega,by go_num,by rw [hv.out];exact ho,hb⟩
     case measure=>simp [intOf];omega
  ·have e:lower (l.take k)++l.drop k=lower l:=by rw [List.take_of_length_le (by omega),List.drop_eq_nil_of_le (by omega)];simp
   rw [e]at ho
   have hcv:=cvB ho.rd
   go_wp2
   go_ret
   exact⟨rfl,hb⟩
theorem bareB_eq (c:UInt8):bareB c=(!((c.toNat:Int)==32)&& !((c.toNat:Int)==13)&& !((c.toNat:Int)==10)):=by
 have a:=u8_eq c 32;have b:=u8_eq c 13;have d:=u8_eq c 10
 simp only [bareB,bne,←a,←b,←d];rfl
theorem bare_len (l:BS):(bare l).length≤l.length:=List.length_filter_le _ _
theorem bare_snoc (l:BS)(k:Nat)(h:k<l.length):bare (l.take (k+1))=bare (l.take k)++if bareB l[k]then [l[k]]else []:=filter_snoc _ l k h
theorem dBare_any (l:BS)(w:World)(hs:l.length≤4294967296):
 Calls Tryz.prog 102 #[Str l] w fun e w'=>e= .returned (Str (bare l))∧Below w.heap.size w w':=by
 go_enter Tryz.func102,Tryz.ntmps102
 go_wp2
 go_loopw [3,4] (fun v i wr=> ∃k:Nat,k≤l.length∧i= .int .i64 k∧OwnAt wr w.heap.size 5 v (byts (bare (l.take k)))∧Below w.heap.size w wr) (fun _ i _=>l.length-(intOf i).toNat)
 case atStart=>exact⟨0,Nat.zero_le _,rfl,OwnAt.nil _ _ _,Below.refl _ _⟩
 case round=>
  obtain⟨k,hk,rfl,ho,hb⟩:=hrel
  by_cases hlt:k<l.length
  ·have H:=Lib.hid (bare_snoc l k hlt)
   have hsl:(bare (l.take k)).length≤4294967296:=by
    have h1:=bare_len (l.take k)
    have:(l.take k).length≤k:=List.length_take_le _ _
    omega
   have Hq:=Lib.hid (bareB_eq l[k])
   have hbs:=hb.size
   cases h1:((l[k].toNat:Int)==32)with
   |true=>
    have Hb:Hid (bareB l[k]=false):=by show _=_;rw [Hq.out,h1];rfl
    have g1:=bneT h1
    go_wp2
    go_roundw
    case rel=>exact⟨k+1,by omega,by go_num,by rw [H.out,Hb.out];simpa using ho,hb⟩
    case measure=>simp [intOf];omega
   |false=>
    have g1:=bneF h1
    cases h2:((l[k].toNat:Int)==13)with
    |true=>
     have Hb:Hid (bareB l[k]=false):=by show _=_;rw [Hq.out,h2];simp
     have g2:=bneT h2
     go_wp2
     go_roundw
     case rel=>exact⟨k+1,by omega,by go_num,by rw [H.out,Hb.out];simpa using ho,hb⟩
     case measure=>simp [intOf];omega
    |false=>
     have g2:=bneF h2
     cases h3:((l[k].toNat:Int)==10)with
     |true=>
      have Hb:Hid (bareB l[k]=false):=by show _=_;rw [Hq.out,h3];simp
      have g3:=bneT h3
      go_wp2
      go_roundw
      case rel=>exact⟨k+1,by omega,by go_num,by rw [H.out,Hb.out];simpa using ho,hb⟩
      case measure=>simp [intOf];omega
     |false=>
      have Hb:Hid (bareB l[k]=true):=by show _=_;rw [Hq.out,h1,h2,h3];rfl
      have g3:=bneF h3
      go_wp2_with (at_builtin;refine appB rfl (.tmp 27) (.tmp 31) 22 (.inl rfl) rfl _ [l[k]] rfl (ho.alloc _) rfl (Src.one wr 5 _ rfl) (by simp;omega) (by simp;omega) ?_;intro v' w' ho' hg' hb' hat')
      go_roundw
      case rel=>exact⟨k+1,by omega,by go_num,by rw [H.out,Hb.out];simpa using ho',hb.trans (((Below.refl _ _).alloc hbs _).trans hb')⟩
      case measure=>simp [intOf];omega
  ·have e:l.take k=l:=List.take_of_length_le (by omega)
   rw [e]at ho
   have hcv:=cvB ho.rd
   go_wp2
   go_ret
   exact⟨rfl,hb⟩
theorem endFrom_snoc (cr:Bool)(l:BS)(k:Nat)(h:k<l.length):eFr cr (l.take (k+1))=endStep (eFr cr (l.take k)) l[k]:=foldl_snoc _ _ _ _ h
theorem endFrom_cr0:(eFr false []).2=false:=rfl
theorem endFrom_crk (l:BS)(k:Nat)(h:k<l.length)(h0:k≠0):(eFr false (l.take k)).2=(l[k-1]==13):=by
 obtain⟨j,rfl⟩: ∃j,k=j+1:=⟨k-1,by omega⟩
 rw [endFrom_snoc false l j (by omega)]
 simp [endStep]
theorem endStep_both (s:BS×Bool)(c:UInt8)(h:c=10)(hs:s.2=false):(endStep s c).1=s.1++([13]:BS)++ [c]:=by
 subst h;simp [endStep,hs]
theorem endStep_one (s:BS×Bool)(c:UInt8)(h:c≠10∨s.2=true):(endStep s c).1=s.1++ [c]:=by
 rcases h with h|h
 ·simp [endStep,h]
 ·simp [endStep,h]
theorem dEnded_any (l:BS)(w:World)(hs:l.length≤4294967296):
 Calls Tryz.prog 106 #[Str l] w fun e w'=>e= .returned (Str (ended l))∧Below w.heap.size w w':=by
 go_enter Tryz.func106,Tryz.ntmps106
 go_wp2
 go_loopw [3,4] (fun v i wr=> ∃k:Nat,k≤l.length∧i= .int .i64 k∧OwnAt wr w.heap.size 5 v (byts (eFr false (l.take k)).1)∧Below w.heap.size w wr) (fun _ i _=>l.length-(intOf i).toNat)
 case atStart=>exact⟨0,Nat.zero_le _,rfl,OwnAt.nil _ _ _,Below.refl _ _⟩
 case round=>
  obtain⟨k,hk,rfl,ho,hb⟩:=hrel
  by_cases hlt:k<l.length
  ·have H:=Lib.hid (endFrom_snoc false l k hlt)
   have hsl:(eFr false (l.take k)).1.length≤8589934592:=by
    have h1:=ended_len false (l.take k)
    have:(l.take k).length≤k:=List.length_take_le _ _
    omega
   have hbs:=hb.size
   cases h1:((l[k].toNat:Int)==10)with
   |true=>
    by_cases hk0:k=0
    ·subst hk0
     have Hs:=Lib.hid (endStep_both (eFr false (l.take 0)) l[0] (u8_of h1) endFrom_cr0)
     go_wp2_with (first
      |(at_builtin;refine appB1 rfl (.tmp 26) (.tmp 27) rfl _ 13 13 rfl rfl ho rfl (by omega) hb (Nat.le_refl _) ?_;intro v1 w1 ho1 _ hb1)
      |(at_builtin;refine appB1 rfl (.tmp 29) (.tmp 33) rfl _ l[0] _ rfl rfl ho1 rfl (by simp only [List.length_append,List.length_cons,List.length_nil];omega) hb1 (Nat.le_refl _) ?_;intro v2 w2 ho2 _ hb2))
     go_roundw
     case rel=>exact⟨0+1,by omega,by go_num,by rw [H.out,Hs.out];exact ho2,hb2⟩
     case measure=>simp [intOf];omega
    ·have hkk:0<k:=by omega
     have g0:((k:Int)==0)=false:=by simp;omega
     have h0':0≤(k:Int)-1:=by omega
     have htn:((k:Int)-1).toNat=k-1:=by omega
     have hkl:k-1<l.length:=by omega
     have hcr:=endFrom_crk l k hlt hk0
     cases h2:((l[k-1].toNat:Int)==13)with
     |true=>
      have g2:=bneT h2
      have Hs:=Lib.hid (endStep_one (eFr false (l.take k)) l[k] (.inr (by rw [hcr,u8_of (d:=13) h2];rfl)))
      clear hcr
      go_wp2_with (at_builtin;refine appB1 rfl (.tmp 29) (.tmp 33) rfl _ l[k] _ rfl rfl ho rfl (by omega) hb (Nat.le_refl _) ?_;intro v1 w1 ho1 _ hb1)
      go_roundw
      case rel=>exact⟨k+1,by omega,by go_num,by rw [H.out,Hs.out];exact ho1,hb1⟩
      case measure=>simp [intOf];omega
     |false=>
      have g2:=bneF h2
      have Hs:=Lib.hid (endStep_both (eFr false (l.take k)) l[k] (u8_of h1) (by rw [hcr];simpa using u8_of_not h2))
      clear hcr
      go_wp2_with (first
       |(at_builtin;refine appB1 rfl (.tmp 26) (.tmp 27) rfl _ 13 13 rfl rfl ho rfl (by omega) hb (Nat.le_refl _) ?_;intro v1 w1 ho1 _ hb1)
       |(at_builtin;refine appB1 rfl (.tmp 29) (.tmp 33) rfl _ l[k] _ rfl rfl ho1 rfl (by simp only [List.length_append,List.length_cons,List.length_nil];omega) hb1 (Nat.le_refl _) ?_;intro v2 w2 ho2 _ hb2))
      go_roundw
      case rel=>exact⟨k+1,by omega,by go_num,by rw [H.out,Hs.out];exact ho2,hb2⟩
      case measure=>simp [intOf];omega
   |false=>
    have Hs:=Lib.hid (endStep_one (eFr false (l.take k)) l[k] (.inl (u8_of_not h1)))
    go_wp2_with (at_builtin;refine appB1 rfl (.tmp 29) (.tmp 33) rfl _ l[k] _ rfl rfl ho rfl (by omega) hb (Nat.le_refl _) ?_;intro v1 w1 ho1 _ hb1)
    go_roundw
    case rel=>exact⟨k+1,by omega,by go_num,by rw [H.out,Hs.out];exact ho1,hb1⟩
    case measure=>simp [intOf];omega
  ·have e:l.take k=l:=List.take_of_length_le (by omega)
   rw [e]at ho
   have hcv:=cvB ho.rd
   go_wp2
   go_ret
   exact⟨rfl,hb⟩
theorem dec_pos (X:BS):decide (0<X.length)= !X.isEmpty:=by cases X<;>simp
theorem OwnAt.form {w:World} {B:Nat} {e:TypeId} {v:Value} {xs:List Value} (h:OwnAt w B e v xs): ∃A c,v= .slice A xs.length c:=by
 obtain⟨A,c,rfl,_⟩:=h.rd;exact⟨A,c,rfl⟩
theorem joinSt_len (l:BS)(k:Nat):((l.take k).foldl joinStep ([],false)).1.length≤2*l.length:=by
 have h1:=joined_len (l.take k)
 have:(l.take k).length≤l.length:=by simp;omega
 unfold joined at h1;omega
theorem dJoined_any (l:BS)(w:World)(hs:l.length≤4294967296):
 Calls Tryz.prog 107 #[Str l] w fun e w'=>e= .returned (Str (joined l))∧Below w.heap.size w w':=by
 go_enter Tryz.func107,Tryz.ntmps107
 go_wp2
 go_loopw [3,4,5] (fun v b i wr=> ∃k:Nat,k≤l.length∧i= .int .i64 k∧b= .bool ((l.take k).foldl joinStep ([],false)).2∧OwnAt wr w.heap.size 5 v (byts ((l.take k).foldl joinStep ([],false)).1)∧Below w.heap.size w wr) (fun _ _ i _=>l.length-(intOf i).toNat)
 case atStart=>exact⟨0,Nat.zero_le _,rfl,rfl,OwnAt.nil _ _ _,Below.refl _ _⟩
 case round=>
  obtain⟨k,hk,rfl,rfl,ho,hb⟩:=hrel
  by_cases hlt:k<l.length
  ·have H:=Lib.hid (foldl_snoc joinStep ([],false) l k hlt)
   have hsl:=joinSt_len l k
   generalize(l.take k).foldl joinStep ([],false)=s at*
   obtain⟨x,wt⟩:=s
   simp only at ho hsl
   have hbs:=hb.size
   cases hbl:blank l[k]with
   |true=>
    have Hs:Hid (joinStep (x,wt) l[k]=(x,!x.isEmpty)):=by show _=_;simp [joinStep,hbl]
    have Hb:=Lib.hid hbl;clear hbl
    obtain⟨A,c,rfl⟩:=ho.form
    rw [byL]at*
    go_wp2_with (go_at_call 46;refine(dBlank_any _ _).mono ?_;rintro e w1 ⟨rfl,rfl⟩;rw [Hb.out])
    go_roundw
    case rel=>exact⟨k+1,by omega,by go_num,by rw [H.out,Hs.out,dec_pos],by rw [H.out,Hs.out];exact ho,hb⟩
    case measure=>simp [intOf];omega
   |false=>
    cases wt with
    |true=>
     have Hs:Hid (joinStep (x,true) l[k]=(x++ [32]++ [l[k]],false)):=by show _=_;simp [joinStep,hbl]
     have Hb:=Lib.hid hbl;clear hbl
     go_wp2_with (first
      |(go_at_call 46;refine(dBlank_any _ _).mono ?_;rintro e w1 ⟨rfl,rfl⟩;rw [Hb.out])
      |(at_builtin;refine appB1 rfl (.tmp 20) (.tmp 21) rfl _ 32 32 rfl rfl ho rfl (by omega) hb (Nat.le_refl _) ?_;intro v1 w1 ho1 _ hb1)
      |(at_builtin;refine appB1 rfl (.tmp 23) (.tmp 27) rfl _ l[k] _ rfl rfl ho1 rfl (by simp only [List.length_append,List.length_cons,List.length_nil];omega) hb1 (Nat.le_refl _) ?_;intro v2 w2 ho2 _ hb2))
     go_roundw
     case rel=>exact⟨k+1,by omega,by go_num,by rw [H.out,Hs.out],by rw [H.out,Hs.out];exact ho2,hb2⟩
     case measure=>simp [intOf];omega
    |false=>
     have Hs:Hid (joinStep (x,false) l[k]=(x++ [l[k]],false)):=by show _=_;simp [joinStep,hbl]
     have Hb:=Lib.hid hbl;clear hbl
     go_wp2_with (first
      |(go_at_call 46;refine(dBlank_any _ _).mono ?_;rintro e w1 ⟨rfl,rfl⟩;rw [Hb.out])
      |(at_builtin;refine appB1 rfl (.tmp 23) (.tmp 27) rfl _ l[k] _ rfl rfl ho rfl (by omega) hb (Nat.le_refl _) ?_;intro v2 w2 ho2 _ hb2))
     go_roundw
     case rel=>exact⟨k+1,by omega,by go_num,by rw [H.out,Hs.out],by rw [H.out,Hs.out];exact ho2,hb2⟩
     case measure=>simp [intOf];omega
  ·have e:l.take k=l:=List.take_of_length_le (by omega)
   rw [e]at ho
   have hcv:=cvB ho.rd
   go_wp2
   go_ret
   exact⟨rfl,hb⟩
theorem dFieldOf_any (form l:BS)(w:World)(hs:l.length≤2147483648):
 Calls Tryz.prog 82 #[Str form,Str l] w fun e w'=>e= .returned (Str (fieldOf form l))∧Below w.heap.size w w':=by
 by_cases hf:form=simpleS
 ·have hfin:Hid (fieldOf form l=l):=by show _=_;simp [fieldOf,hf]
  have h1:(form== [115,105,109,112,108,101])=true:=by rw [hf];rfl
  clear hf
  go_enter Tryz.func82,Tryz.ntmps82
  go_wp2
  go_ret
  exact⟨by rw [hfin.out];rfl,Below.refl _ _⟩
 ·have h1:(form== [115,105,109,112,108,101])=false:=by simpa [simpleS]using hf
  have hcl:=cutAt_len 58 l
  have hfin:fieldOf form l=if(cutAt 58 l).2.2 then trim (lower (cutAt 58 l).1)++ [58]++joined (cutAt 58 l).2.1++crlf else trim (lower l)++ [58,13,10]:=by
   rw [fieldOf,if_neg hf]
  clear hf
  rcases hct:cutAt 58 l with⟨p,q,f⟩
  rw [hct]at hcl hfin
  simp only at hcl hfin
  obtain⟨hp,hq,_⟩:=hcl
  have Hc:=Lib.hid hct;clear hct
  have Hf:=Lib.hid hfin;clear hfin
  have h2:=trim_len (lower p);rw [lwL]at h2
  have h3:=trim_len (lower l);rw [lwL]at h3
  have h4:=joined_len q
  have H5:(lower p).length≤4294967296:=by rw [lwL];omega
  have H6:(lower l).length≤4294967296:=by rw [lwL];omega
  cases f with
  |true=>
   go_enter Tryz.func82,Tryz.ntmps82
   go_wp2_with (first
    |(go_at_call 41;refine(dCut_any l 58 _ (by omega)).mono ?_;rintro e w1 ⟨rfl,hb1⟩;rw [Hc.out];simp only [])
    |(go_at_call 27;refine(dLower_any p _ (by omega)).mono ?_;rintro e w2 ⟨rfl,hb2⟩)
    |(go_at_call 45;refine(dTrim_any _ _ (by omega)).mono ?_;rintro e w3 ⟨rfl,rfl⟩)
    |(go_at_call 107;refine(dJoined_any q _ (by omega)).mono ?_;rintro e w4 ⟨rfl,hb4⟩))
   go_ret
   have s1:=hb1.size
   have s2:=hb2.size
   exact⟨by rw [Hf.out];simp [crlf,List.append_assoc],(hb1.trans (hb2.mono s1)).trans (hb4.mono (by omega))⟩
  |false=>
   go_enter Tryz.func82,Tryz.ntmps82
   go_wp2_with (first
    |(go_at_call 41;refine(dCut_any l 58 _ (by omega)).mono ?_;rintro e w1 ⟨rfl,hb1⟩;rw [Hc.out];simp only [])
    |(go_at_call 27;refine(dLower_any l _ (by omega)).mono ?_;rintro e w2 ⟨rfl,hb2⟩)
    |(go_at_call 45;refine(dTrim_any _ _ (by omega)).mono ?_;rintro e w3 ⟨rfl,rfl⟩))
   go_ret
   have s1:=hb1.size
   exact⟨by rw [Hf.out];simp,hb1.trans (hb2.mono s1)⟩
theorem noEnds_both (q:BS):noEnds (q++ [13,10])=noEnds q:=by simp [noEnds,noEndsR]
theorem noEnds_short (q:BS)(h:q.length≤1):noEnds q=q:=by
 match q,h with
 | [],_=>rfl
 | [c],_=>unfold noEnds;simp [noEndsR]
theorem noEnds_other (q:BS)(a b:UInt8)(h: ¬(a=13∧b=10)):noEnds (q++ [a,b])=q++ [a,b]:=by
 unfold noEnds
 simp only [List.reverse_append,List.reverse_cons,List.reverse_nil,List.nil_append,List.cons_append,List.singleton_append]
 rw [noEndsR]
 ·simp
 ·intro r hr
  simp at hr
  exact h ⟨hr.2.1,hr.1⟩
theorem eq_snoc2 (l:BS)(h:1<l.length): ∃r a b,l=r++ [a,b]:=by
 obtain⟨q,b,rfl⟩:=eq_snoc l (by intro e;subst e;simp at h)
 obtain⟨r,a,rfl⟩:=eq_snoc q (by intro e;subst e;simp at h)
 exact⟨r,a,b,by simp⟩
theorem relSt_len (l:BS)(k:Nat):((l.take k).foldl relStep ([],false,[])).1.length+((l.take k).foldl relStep ([],false,[])).2.2.length≤2*l.length:=by
 have h: ∀(l:BS) (s:BS×Bool×BS),(l.foldl relStep s).1.length+(l.foldl relStep s).2.2.length≤s.1.length+s.2.2.length+2*l.length:=by
  intro l
  induction l with
  |nil=>intro s;simp
  |cons x r ih=>
   intro s
   have h1:=ih (relStep s x)
   have h2:(relStep s x).1.length+(relStep s x).2.2.length≤s.1.length+s.2.2.length+2:=by
    unfold relStep
    split
    ·simp
    ·split
     ·simp;omega
     ·simp;split<;>simp<;>omega
   simp only [List.foldl_cons,List.length_cons]
   omega
 have h1:=h (l.take k) ([],false,[])
 have:(l.take k).length≤l.length:=by simp;omega
 simp only [List.length_nil]at h1
 omega
theorem dBodyOf_simple (form l:BS)(w:World)(hf:form=simpleS)(hs:l.length≤2147483648):
 Calls Tryz.prog 81 #[Str form,Str l] w fun e w'=>e= .returned (Str (bodyOf form l))∧Below w.heap.size w w':=by
 have hfin:Hid (bodyOf form l=noEnds (ended l)++crlf):=by show _=_;simp [bodyOf,hf]
 have h1:(form== [115,105,109,112,108,101])=true:=by rw [hf];rfl
 clear hf
 have hel:=ended_len false l
 go_enter Tryz.func81,Tryz.ntmps81
 go_wp2_with (go_at_call 106;refine(dEnded_any l _ (by omega)).mono ?_;rintro e w1 ⟨rfl,hb1⟩)
 go_loop [5] (fun s=> ∃y:BS,y.length≤2*l.length∧s=Str y∧Hid (noEnds y=noEnds (ended l))) (fun s=>match s with| .string b=>b.size|_=>0)
 case atStart=>exact⟨_,hel,rfl,rfl⟩
 case round=>
  obtain⟨y,hy,rfl,H2⟩:=hrel
  by_cases hy1:1<y.length
  ·obtain⟨q,a,b,rfl⟩:=eq_snoc2 y hy1
   clear hy1
   simp only [List.length_append,List.length_cons,List.length_nil]at hy
   by_cases hab:a=13∧b=10
   ·obtain⟨rfl,rfl⟩:=hab
    go_wp2
    go_round
    case rel=>exact⟨q,by omega,by simp,by rw [←H2.out,noEnds_both];rfl⟩
    case measure=>simp [ByteArray.size]
   ·have H3:=Lib.hid (noEnds_other q a b hab)
    have hab':(a==13&&b==10)=false:=by simpa using hab
    clear hab
    go_wp2
    go_ret
    exact⟨by rw [hfin.out,←H2.out,H3.out];simp [crlf],hb1⟩
  ·have H3:=Lib.hid (noEnds_short y (by omega))
   go_wp2
   go_ret
   exact⟨by rw [hfin.out,←H2.out,H3.out];rfl,hb1⟩
theorem relStep_wsp (s:BS×Bool×BS)(c:UInt8)(h:c=32∨c=9):relStep s c=(s.1,true,s.2.2):=by
 rcases h with rfl|rfl<;>rfl
theorem relStep_end (s:BS×Bool×BS)(c:UInt8)(h:c=13∨c=10):relStep s c=(s.1,false,s.2.2++ [c]):=by
 rcases h with rfl|rfl<;>rfl
theorem relStep_other (s:BS×Bool×BS)(c:UInt8)(h1:c≠32)(h2:c≠9)(h3:c≠13)(h4:c≠10):relStep s c=(s.1++s.2.2++(if s.2.1 then [32]else [])++ [c],false,[]):=by
 simp [relStep,h1,h2,h3,h4]
theorem dBodyOf_relaxed (form l:BS)(w:World)(hf:form≠simpleS)(hs:l.length≤2147483648):
 Calls Tryz.prog 81 #[Str form,Str l] w fun e w'=>e= .returned (Str (bodyOf form l))∧Below w.heap.size w w':=by
 have hfin:Hid (bodyOf form l=if((ended l).foldl relStep ([],false,[])).1= []then []else((ended l).foldl relStep ([],false,[])).1++crlf):=by show _=_;simp [bodyOf,hf]
 have h1:(form== [115,105,109,112,108,101])=false:=by simpa [simpleS]using hf
 clear hf
 have hel:(ended l).length≤4294967296:=by have:=ended_len false l;unfold ended;omega
 go_enter Tryz.func81,Tryz.ntmps81
 go_wp2_with (go_at_call 106;refine(dEnded_any l _ (by omega)).mono ?_;rintro e w1 ⟨rfl,hb1⟩)
 generalize ended l=m at*
 go_loopw [6,7,8,9,10] (fun v b ends i _ wr=> ∃k:Nat,k≤m.length∧i= .int .i64 k∧b= .bool ((m.take k).foldl relStep ([],false,[])).2.1∧ends=Str ((m.take k).foldl relStep ([],false,[])).2.2∧
  OwnAt wr w.heap.size 5 v (byts ((m.take k).foldl relStep ([],false,[])).1)∧Below w.heap.size w wr) (fun _ _ _ i _ _=>m.length-(intOf i).toNat)
 case atStart=>exact⟨0,Nat.zero_le _,rfl,rfl,rfl,OwnAt.nil _ _ _,hb1⟩
 case round=>
  obtain⟨k,hk,rfl,rfl,rfl,ho,hb⟩:=hrel
  clear hb1
  by_cases hlt:k<m.length
  ·have H:=Lib.hid (foldl_snoc relStep ([],false,[]) m k hlt)
   have hsl:=relSt_len m k
   generalize(m.take k).foldl relStep ([],false,[])=s at*
   obtain⟨x,wt,en⟩:=s
   simp only at ho hsl
   have hbs:=hb.size
   cases c1:((m[k].toNat:Int)==32)with
   |true=>
    have Hs:=Lib.hid (relStep_wsp (x,wt,en) m[k] (.inl (u8_of c1)))
    go_wp2
    go_roundw
    case rel=>exact⟨k+1,by omega,by go_num,by rw [H.out,Hs.out],by rw [H.out,Hs.out],by rw [H.out,Hs.out];exact ho,hb⟩
    case measure=>simp [intOf];omega
   |false=>
    cases c2:((m[k].toNat:Int)==9)with
    |true=>
     have Hs:=Lib.hid (relStep_wsp (x,wt,en) m[k] (.inr (u8_of c2)))
     go_wp2
     go_roundw
     case rel=>exact⟨k+1,by omega,by go_num,by rw [H.out,Hs.out],by rw [H.out,Hs.out],by rw [H.out,Hs.out];exact ho,hb⟩
     case measure=>simp [intOf];omega
    |false=>
     cases c3:((m[k].toNat:Int)==13)with
     |true=>
      have Hs:=Lib.hid (relStep_end (x,wt,en) m[k] (.inl (u8_of c3)))
      have Hd:Hid ((m.drop k).take 1= [m[k]]):=by show _=_;rw [List.drop_eq_getElem_cons hlt];rfl
      go_wp2
      go_roundw
      case rel=>exact⟨k+1,by omega,by go_num,by rw [H.out,Hs.out],by rw [H.out,Hs.out,Hd.out],by rw [H.out,Hs.out];exact ho,hb⟩
      case measure=>simp [intOf];omega
     |false=>
      cases c4:((m[k].toNat:Int)==10)with
      |true=>
       have Hs:=Lib.hid (relStep_end (x,wt,en) m[k] (.inr (u8_of c4)))
       have Hd:Hid ((m.drop k).take 1= [m[k]]):=by show _=_;rw [List.drop_eq_getElem_cons hlt];rfl
       go_wp2
       go_roundw
       case rel=>exact⟨k+1,by omega,by go_num,by rw [H.out,Hs.out],by rw [H.out,Hs.out,Hd.out],by rw [H.out,Hs.out];exact ho,hb⟩
       case measure=>simp [intOf];omega
      |false=>
       have Hs:=Lib.hid (relStep_other (x,wt,en) m[k] (u8_of_not c1) (u8_of_not c2) (u8_of_not c3) (u8_of_not c4))
       cases wt with
       |true=>
        go_wp2_with (first
         |(at_builtin;refine appB rfl (.tmp 43) (.tmp 44) 9 (.inr rfl) rfl _ en rfl ho rfl (Src.str en) (by omega) hbs ?_;intro v1 w2 ho1 _ hb1 _;have hb1':=hb.trans hb1)
         |(at_builtin;refine appB1 rfl (.tmp 47) (.tmp 48) rfl _ 32 32 rfl rfl ho1 rfl (by simp only [List.length_append];omega) hb1' (Nat.le_refl _) ?_;intro v2 w3 ho2 _ hb2)
         |(at_builtin;refine appB1 rfl (.tmp 50) (.tmp 52) rfl _ m[k] _ rfl rfl ho2 rfl (by simp only [List.length_append,List.length_cons,List.length_nil];omega) hb2 (Nat.le_refl _) ?_;intro v3 w4 ho3 _ hb3))
        go_roundw
        case rel=>exact⟨k+1,by omega,by go_num,by rw [H.out,Hs.out],by rw [H.out,Hs.out],by rw [H.out,Hs.out];exact ho3,hb3⟩
        case measure=>simp [intOf];omega
       |false=>
        go_wp2_with (first
         |(at_builtin;refine appB rfl (.tmp 43) (.tmp 44) 9 (.inr rfl) rfl _ en rfl ho rfl (Src.str en) (by omega) hbs ?_;intro v1 w2 ho1 _ hb1 _;have hb1':=hb.trans hb1)
         |(at_builtin;refine appB1 rfl (.tmp 50) (.tmp 52) rfl _ m[k] _ rfl rfl ho1 rfl (by simp only [List.length_append,List.length_cons,List.length_nil];omega) hb1' (Nat.le_refl _) ?_;intro v3 w4 ho3 _ hb3))
        go_roundw
        case rel=>exact⟨k+1,by omega,by go_num,by rw [H.out,Hs.out],by rw [H.out,Hs.out],by rw [H.out,Hs.out];simpa using ho3,hb3⟩
        case measure=>simp [intOf];omega
  ·have e:m.take k=m:=List.take_of_length_le (by omega)
   have hsl:=relSt_len m k
   rw [e]at ho hsl
   have hcv:=cvB ho.rd
   have hxl:(m.foldl relStep ([],false,[])).1.length≤8589934592:=by omega
   clear hsl
   generalize(m.foldl relStep ([],false,[])).1=x at*
   obtain⟨A,c,rfl⟩:=ho.form
   rw [byL]at*
   by_cases hx:x.length=0
   ·have hx':x= []:=List.eq_nil_of_length_eq_zero hx
    subst hx'
    go_wp2
    go_ret
    exact⟨by rw [hfin.out];rfl,hb⟩
   ·have hx0:0<x.length:=by omega
    have hg:((x.length:Int)==0)=false:=by rw [beq_eq_false_iff_ne];omega
    have Hx:Hid (x≠ []):=by intro e;subst e;simp at hx
    go_wp2
    go_ret
    exact⟨by rw [hfin.out,if_neg Hx.out];simp [crlf],hb⟩
theorem dBodyOf_any (form l:BS)(w:World)(hs:l.length≤2147483648):
 Calls Tryz.prog 81 #[Str form,Str l] w fun e w'=>e= .returned (Str (bodyOf form l))∧Below w.heap.size w w':=by
 by_cases hf:form=simpleS
 ·exact dBodyOf_simple form l w hf hs
 ·exact dBodyOf_relaxed form l w hf hs
theorem unCR_snoc (q:BS)(c:UInt8):unCR (q++ [c])=if c=13 then q else q++ [c]:=by
 unfold unCR
 simp
theorem line_shape (p:BS):p= []∨p= [13]∨(∃c r,p=c::(r++ [13])∧unCR p=c::r)∨(∃c,c≠13∧p= [c]∧unCR p= [c])∨∃c r d,d≠13∧p=c::(r++ [d])∧unCR p=c::(r++ [d]):=by
 by_cases h0:p= []
 ·exact .inl h0
 ·obtain⟨q,d,rfl⟩:=eq_snoc p h0
  rcases q with _|⟨c,r⟩
  ·by_cases hd:d=13
   ·subst hd;exact .inr (.inl rfl)
   ·exact .inr (.inr (.inr (.inl ⟨d,hd,rfl,by simp [unCR,hd]⟩)))
  ·by_cases hd:d=13
   ·subst hd;exact .inr (.inr (.inl ⟨c,r,rfl,by
     have:=unCR_snoc (c::r) 13;simpa using this⟩))
   ·exact .inr (.inr (.inr (.inr ⟨c,r,d,hd,rfl,by
     have:=unCR_snoc (c::r) d;simpa [hd]using this⟩)))
theorem addLine_new (out:List BS)(c:UInt8)(r:BS)(h:out= []∨c≠32∧c≠9):addLine out (c::r)=out++ [c::r++crlf]:=by
 unfold addLine
 rcases h with rfl|⟨h1,h2⟩
 ·simp
 ·simp [h1,h2]
theorem addLine_old (out:List BS)(f:BS)(c:UInt8)(r:BS)(h:c=32∨c=9):addLine (out++ [f]) (c::r)=out++ [f++(c::r)++crlf]:=by
 unfold addLine
 rcases h with rfl|rfl<;>simp
theorem headGo_cut (n:Nat)(out:List BS)(x:BS):headGo (n+1) out x=if(cutAt 10 x).2.2 then if unCR (cutAt 10 x).1= []then some (out,(cutAt 10 x).2.1)else headGo n (addLine out (unCR (cutAt 10 x).1)) (cutAt 10 x).2.1 else none:=rfl
theorem cutAt_sum (c:UInt8)(l:BS)(h:(cutAt c l).2.2=true):(cutAt c l).1.length+(cutAt c l).2.1.length+1=l.length:=by
 induction l with
 |nil=>simp [cutAt]at h
 |cons x r ih=>
  by_cases hx:x=c
  ·simp [cutAt,hx]
  ·simp only [cutAt,hx,if_false,List.length_cons]at h⊢
   have:=ih h
   omega
theorem OwnAt.form_some {w:World} {B:Nat} {e:TypeId} {v:Value} {xs:List Value} (h:OwnAt w B e v xs)(hx:xs≠ []): ∃g off c,v= .slice (some ⟨g,off,none⟩) xs.length c:=by
 rcases h with⟨_,h⟩|⟨g,off,cap,_,_,rfl,_⟩
 ·exact absurd h hx
 ·exact⟨g,off,cap,rfl⟩
theorem OwnAt.set_last {w:World} {B g off c n:Nat} {o:List BS} {f z:BS} (h:OwnAt w B 9 (.slice (some ⟨g,off,none⟩) n c) (strs (o++ [f]))):OwnAt (w.setCell ⟨g,off+o.length,none⟩ (Str z)) B 9 (.slice (some ⟨g,off,none⟩) n c) (strs (o++ [z])):=by
 have h1:=h.set_at o.length (Str z) (by simp [strs])
 have h2:(strs (o++ [f])).set o.length (Str z)=strs (o++ [z]):=by
  simp [strs]
 rw [h2]at h1
 exact h1
def HeadPost (l:BS)(w:World)(e:Ending)(w':World):Prop:=
 (match heads l with
   |none=>e= .returned (.tuple #[.slice none 0 0,Str [], .bool false])
   |some (fs,body)=> ∃v,e= .returned (.tuple #[v,Str body, .bool true])∧OwnAt w' w.heap.size 9 v (strs fs))∧Below w.heap.size w w'
theorem HeadPost.none {l:BS} {w w':World} {e:Ending} (h:heads l=Option.none)(he:e= .returned (.tuple #[.slice Option.none 0 0,Str [], .bool false]))(hb:Below w.heap.size w w'):HeadPost l w e w':=by
 unfold HeadPost;rw [h];exact⟨he,hb⟩
theorem HeadPost.some {l:BS} {w w':World} {e:Ending} {fs:List BS} {body:BS} {v:Value} (h:heads l=Option.some (fs,body))(he:e= .returned (.tuple #[v,Str body, .bool true]))(ho:OwnAt w' w.heap.size 9 v (strs fs))(hb:Below w.heap.size w w'):HeadPost l w e w':=by
 unfold HeadPost;rw [h];exact⟨⟨v,he,ho⟩,hb⟩
theorem dHead_any (l:BS)(w:World)(hs:l.length≤2147483648):
 Calls Tryz.prog 19 #[Str l] w (HeadPost l w):=by
 go_enter Tryz.func19,Tryz.ntmps19
 go_wp2
 go_loopw [0,5,6,7,8,9] (fun s v _ _ _ _ wr=> ∃(x:BS) (out:List BS) (n:Nat),x.length<n∧n+out.length≤l.length+1∧s=Str x∧Hid (heads l=headGo n out x)∧OwnAt wr w.heap.size 9 v (strs out)∧Below w.heap.size w wr∧Hid (∀f∈out,f.length+2*x.length≤2*l.length)) (fun s _ _ _ _ _ _=>match s with| .string b=>b.size|_=>0)
 case atStart=>exact⟨l,[],l.length+1,by omega,by simp,rfl,rfl,OwnAt.nil _ _ _,Below.refl _ _,by simp [Hid]⟩
 case round=>
  obtain⟨x,out,n,hxn,hn,rfl,H,ho,hb,hlen⟩:=hrel
  obtain⟨m,rfl⟩: ∃m,n=m+1:=⟨n-1,by omega⟩
  have hgo:=headGo_cut m out x
  rw [←H.out]at hgo
  clear H
  have hcs:=cutAt_sum 10 x
  rcases hct:cutAt 10 x with⟨p,q,f⟩
  rw [hct]at hgo hcs
  simp only at hgo hcs
  have Hc:=Lib.hid hct;clear hct
  have Hg:=Lib.hid hgo;clear hgo
  have hbs:=hb.size
  have hdc: ∀(ww:World),Calls Tryz.prog 41 #[Str x, .int .u8 10] ww fun e w'=>e= .returned (.tuple #[Str p,Str q, .bool f])∧Below ww.heap.size ww w':=by
   intro ww
   have:=dCut_any x 10 ww (by omega)
   rw [Hc.out]at this
   exact this
  have Hdc:=Lib.hid hdc;clear hdc Hc
  cases f with
  |false=>
   clear hcs
   go_wp2_with (go_at_call 41;refine(Hdc.out _).mono ?_;rintro e w1 ⟨rfl,hb1⟩)
   go_ret3
   exact HeadPost.none Hg.out rfl (hb.trans (hb1.mono hbs))
  |true=>
   have hcs':=hcs rfl
   clear hcs
   rcases line_shape p with rfl|rfl|⟨c,r,rfl,hu⟩|⟨c,hc13,rfl,hu⟩|⟨c,r,d,hd13,rfl,hu⟩
   ·go_wp2_with (go_at_call 41;refine(Hdc.out _).mono ?_;rintro e w1 ⟨rfl,hb1⟩)
    go_ret3
    exact HeadPost.some Hg.out rfl (ho.below hb1) (hb.trans (hb1.mono hbs))
   ·go_wp2_with (go_at_call 41;refine(Hdc.out _).mono ?_;rintro e w1 ⟨rfl,hb1⟩)
    go_ret3
    exact HeadPost.some Hg.out rfl (ho.below hb1) (hb.trans (hb1.mono hbs))
   all_goals try (have g13:((c.toNat:Int)==13)=false:=bF hc13;have Hc13:=Lib.hid hc13;clear hc13)
   all_goals try (have g13:((d.toNat:Int)==13)=false:=bF hd13;have Hd13:=Lib.hid hd13;clear hd13)
   all_goals
    have hg2:=Hg.out
    rw [hu]at hg2
    simp only [if_true,reduceCtorEq,if_false]at hg2
    clear hu Hg
    have Hg:=Lib.hid hg2
    clear hg2
    simp only [List.length_cons,List.length_append,List.length_nil]at hcs'
    by_cases hout:out= []
    ·subst hout
     obtain⟨A,cc,rfl⟩: ∃A cc,u5= .slice A 0 cc:=ho.form
     go_wp2_with (first
      |(go_at_call 41;refine(Hdc.out _).mono ?_;rintro e w1 ⟨rfl,hb1⟩;have hb1':=hb.trans (hb1.mono hbs))
      |(at_builtin;refine appS1 rfl (.tmp 64) (.tmp 67) rfl [] _ rfl (ho.below hb1) rfl (by simp) hb1' (Nat.le_refl _) ?_;intro v2 w2 ho2 _ hb2))
     go_roundw
     case rel=>exact⟨q,_,m,by omega,by simp;omega,rfl,by rw [Hg.out,addLine_new _ _ _ (.inl rfl)];simp [Hid,crlf],ho2,hb2,by intro f hf;simp at hf;subst hf;simp [crlf];omega⟩
     case measure=>simp [ByteArray.size];omega
    ·obtain⟨o,f,rfl⟩: ∃o f,out=o++ [f]:=⟨out.dropLast,out.getLast hout,(List.dropLast_concat_getLast hout).symm⟩
     clear hout
     have hfl:=hlen.out f (by simp)
     simp only [List.length_append,List.length_cons,List.length_nil]at hn
     obtain⟨g,off,cc,rfl⟩: ∃g off cc,u5= .slice (some ⟨g,off,none⟩) (o.length+1) cc:=by
      obtain⟨g,off,cc,h⟩:=ho.form_some (by simp [strs])
      exact⟨g,off,cc,by rw [h,stL];simp⟩
     by_cases hc:c=32∨c=9
     ·have Hcc:=Lib.hid hc
      have hc2:((c.toNat:Int)==32)=true∨((c.toNat:Int)==32)=false∧((c.toNat:Int)==9)=true:=by
       rcases hc with rfl|rfl
       ·exact .inl rfl
       ·exact .inr ⟨rfl,rfl⟩
      clear hc
      rcases hc2 with c1|⟨c1,c2⟩
      all_goals
       go_wp2_with (go_at_call 41;refine(Hdc.out _).mono ?_;rintro e w1 ⟨rfl,hb1⟩;have hb1':=hb.trans (hb1.mono hbs);have ho1:=ho.below hb1;obtain⟨hck,hfk⟩:=ho1.cell_at o.length (Str f) (by simp [strs]);have hgB:=ho1.len_at.2.2.1)
       go_roundw
       case rel=>
        refine⟨q,_,m,by omega,?_,rfl,?_,ho1.set_last,hb1'.setCell hgB _,?_⟩
        ·simp;omega
        ·rw [Hg.out,addLine_old _ _ _ _ Hcc.out];simp [Hid,crlf]
        ·intro y hy
         rw [List.mem_append]at hy
         rcases hy with hy|hy
         ·have:=hlen.out y (by simp [hy]);omega
         ·simp at hy;subst hy;simp;omega
       case measure=>simp [ByteArray.size];omega
     ·have c1:((c.toNat:Int)==32)=false:=bF (fun h=>hc (.inl h): ¬c=32)
      have c2:((c.toNat:Int)==9)=false:=bF (fun h=>hc (.inr h): ¬c=9)
      have Hcc:Hid (c≠32∧c≠9):=⟨fun h=>hc (.inl h),fun h=>hc (.inr h)⟩
      clear hc
      go_wp2_with (first
       |(go_at_call 41;refine(Hdc.out _).mono ?_;rintro e w1 ⟨rfl,hb1⟩;have hb1':=hb.trans (hb1.mono hbs))
       |(at_builtin;refine appS1 rfl (.tmp 64) (.tmp 67) rfl _ _ rfl (ho.below hb1) rfl (by simp;omega) hb1' (Nat.le_refl _) ?_;intro v2 w2 ho2 _ hb2))
      go_roundw
      case rel=>exact⟨q,_,m,by omega,by simp;omega,rfl,by rw [Hg.out,addLine_new _ _ _ (.inr Hcc.out)];simp [Hid,crlf],ho2,hb2,by
       intro y hy
       rw [List.mem_append]at hy
       rcases hy with hy|hy
       ·have:=hlen.out y hy;omega
       ·simp at hy;subst hy;simp;omega⟩
      case measure=>simp [ByteArray.size];omega
structure RawO where
 dom:BS
 sel:BS
 ident:BS
 kind:BS
 key:BS
 hdr:BS
 bdy:BS
 keys:List BS
 all:Bool
 exp:Int
 now:Int
 query:List BS
def RawO.val (o:RawO)(kv ksv qv:Value):Value:= .agg #[Str o.dom,Str o.sel,Str o.ident,Str o.kind,kv,Str o.hdr,Str o.bdy,ksv, .bool o.all, .int .i64 o.exp, .int .i64 o.now,qv]
structure RawO.In (w:World)(o:RawO)(kv ksv qv:Value):Prop where
 key:Rd w kv (byts o.key)
 keys:Rd w ksv (strs o.keys)
 query:Rd w qv (strs o.query)
theorem RawO.In.below {w w':World} {o:RawO} {kv ksv qv:Value} (h:o.In w kv ksv qv)(hb:Below w.heap.size w w'):o.In w' kv ksv qv:=⟨h.key.below hb,h.keys.below hb,h.query.below hb⟩
def fitsL (xs:List BS):Bool:=decide (xs.length≤2147483647)&&xs.all fun x=>decide (x.length≤2147483647)
theorem fitsL_iff (xs:List BS):fitsL xs=true↔xs.length≤2147483647∧∀x∈xs,x.length≤2147483647:=by unfold fitsL;simp
theorem zzFits7_any (v:Value)(xs:List BS)(w:World)(hv:Rd w v (strs xs)):Calls Tryz.prog 22 #[v] w fun e w'=>e= .returned (.bool (fitsL xs))∧w=w':=by
 obtain⟨A,c,rfl,_,hx⟩:=hv
 rw [stL]
 by_cases h0:xs.length≤2147483647
 ·have g0:(xs.length:Int)≤2147483647:=by omega
  go_enter Tryz.func22,Tryz.ntmps22
  go_wp2
  go_loop [10] (fun i=> ∃k:Nat,k≤xs.length∧i= .int .i64 k∧Hid (∀x∈xs.take k,x.length≤2147483647)) (fun i=>xs.length-(intOf i).toNat)
  case atStart=>exact⟨0,by omega,rfl,by simp [Hid]⟩
  case round=>
   obtain⟨k,hk,rfl,H⟩:=hrel
   by_cases hlt:k<xs.length
   ·rcases hx with hn|⟨g,off,rfl,hg,hc⟩
    ·simp [strs]at hn;subst hn;simp at hlt
    ·have hck:=hc k (Str xs[k]) (by simp [strs,hlt])
     clear hc
     have hlt':(k:Int)<(xs.length:Int):=by omega
     by_cases he:xs[k].length≤2147483647
     ·have g1:(xs[k].length:Int)≤2147483647:=by omega
      have H2:Hid (∀x∈xs.take (k+1),x.length≤2147483647):=by
       show∀x∈xs.take (k+1),_
       intro x hx
       rw [List.take_succ_eq_append_getElem hlt,List.mem_append]at hx
       rcases hx with hx|hx
       ·exact H.out x hx
       ·simp at hx;rw [hx];exact he
      clear he
      go_wp2
      go_round
      case rel=>exact⟨k+1,by omega,by go_num,H2⟩
      case measure=>simp [intOf];omega
     ·have g1:(2147483647:Int)<(xs[k].length:Int):=by omega
      have F:Hid (fitsL xs=false):=by
       show _=_
       rw [Bool.eq_false_iff];intro e
       exact he (((fitsL_iff xs).1 e).2 _ (List.getElem_mem hlt))
      clear he
      go_wp2
      go_ret
      exact⟨by rw [F.out];rfl,rfl⟩
   ·have F:Hid (fitsL xs=true):=by
     show _=_
     rw [fitsL_iff]
     exact⟨h0,by have:=H.out;rwa [List.take_of_length_le (by omega)]at this⟩
    go_wp2
    go_ret
    exact⟨by rw [F.out];rfl,rfl⟩
 ·have g0:(2147483647:Int)<(xs.length:Int):=by omega
  have F:Hid (fitsL xs=false):=by
   show _=_
   rw [Bool.eq_false_iff];intro e
   exact h0 ((fitsL_iff xs).1 e).1
  go_enter Tryz.func22,Tryz.ntmps22
  go_wp2
  go_ret
  exact⟨by rw [F.out];rfl,rfl⟩
def RawO.fits (o:RawO):Bool:=decide (o.dom.length≤2147483647∧o.sel.length≤2147483647∧o.ident.length≤2147483647∧o.kind.length≤2147483647∧o.key.length≤2147483647∧o.hdr.length≤2147483647∧o.bdy.length≤2147483647)&&fitsL o.keys&&fitsL o.query
theorem zzFits10_any (o:RawO)(kv ksv qv:Value)(w:World)(h:o.In w kv ksv qv):Calls Tryz.prog 7 #[o.val kv ksv qv] w fun e w'=>e= .returned (.bool o.fits)∧Below w.heap.size w w':=by
 obtain⟨kA,kc,rfl,_⟩:=h.key
 unfold RawO.val
 rw [byL]
 have hb1:=(Below.refl w.heap.size w).alloc (Nat.le_refl _) (.cells #[Str o.dom,Str o.sel,Str o.ident,Str o.kind, .slice kA o.key.length kc,Str o.hdr,Str o.bdy,ksv, .bool o.all, .int .i64 o.exp, .int .i64 o.now,qv] 25)
 have F:Hid (o.fits=(decide (o.dom.length≤2147483647∧o.sel.length≤2147483647∧o.ident.length≤2147483647∧o.kind.length≤2147483647∧o.key.length≤2147483647∧o.hdr.length≤2147483647∧o.bdy.length≤2147483647)&&fitsL o.keys&&fitsL o.query)):=rfl
 have h7:=zzFits7_any ksv o.keys _ (h.keys.below hb1)
 have h8:=zzFits7_any qv o.query _ (h.query.below hb1)
 generalize o.dom=a1 at*
 generalize o.sel=a2 at*
 generalize o.ident=a3 at*
 generalize o.kind=a4 at*
 generalize o.key=a5 at*
 generalize o.hdr=a6 at*
 generalize o.bdy=a7 at*
 by_cases hall:a1.length≤2147483647∧a2.length≤2147483647∧a3.length≤2147483647∧a4.length≤2147483647∧a5.length≤2147483647∧a6.length≤2147483647∧a7.length≤2147483647
 ·obtain⟨b1,b2,b3,b4,b5,b6,b7⟩:=hall
  have c1:(a1.length:Int)≤2147483647:=by omega
  have c2:(a2.length:Int)≤2147483647:=by omega
  have c3:(a3.length:Int)≤2147483647:=by omega
  have c4:(a4.length:Int)≤2147483647:=by omega
  have c5:(a5.length:Int)≤2147483647:=by omega
  have c6:(a6.length:Int)≤2147483647:=by omega
  have c7:(a7.length:Int)≤2147483647:=by omega
  have F2:Hid (o.fits=(fitsL o.keys&&fitsL o.query)):=by
   show _=_
   rw [F.out,decide_eq_true ⟨b1,b2,b3,b4,b5,b6,b7⟩];rfl
  clear F
  go_enter Tryz.func7,Tryz.ntmps7
  go_wp2_with fail
  refine h7.mono ?_
  rintro e w1 ⟨rfl,rfl⟩
  cases hk:fitsL o.keys with
  |false=>
   go_wp2
   go_ret
   exact⟨by rw [F2.out,hk];rfl,hb1⟩
  |true=>
   go_wp2_with fail
   refine h8.mono ?_
   rintro e w1 ⟨rfl,rfl⟩
   cases hq:fitsL o.query with
   |false=>
    go_wp2
    go_ret
    exact⟨by rw [F2.out,hk,hq];rfl,hb1⟩
   |true=>
    go_wp2
    go_ret
    exact⟨by rw [F2.out,hk,hq];rfl,hb1⟩
 ·have F2:Hid (o.fits=false):=by
   show _=_
   rw [F.out,decide_eq_false hall];rfl
  clear F
  by_cases b1:a1.length≤2147483647
  ·have c1:(a1.length:Int)≤2147483647:=by omega
   by_cases b2:a2.length≤2147483647
   ·have c2:(a2.length:Int)≤2147483647:=by omega
    by_cases b3:a3.length≤2147483647
    ·have c3:(a3.length:Int)≤2147483647:=by omega
     by_cases b4:a4.length≤2147483647
     ·have c4:(a4.length:Int)≤2147483647:=by omega
      by_cases b5:a5.length≤2147483647
      ·have c5:(a5.length:Int)≤2147483647:=by omega
       by_cases b6:a6.length≤2147483647
       ·have c6:(a6.length:Int)≤2147483647:=by omega
        have c7:(2147483647:Int)<(a7.length:Int):=by omega
        clear hall b1 b2 b3 b4 b5 b6
        go_enter Tryz.func7,Tryz.ntmps7
        go_wp2
        go_ret
        exact⟨by rw [F2.out];rfl,hb1⟩
       ·have c6:(2147483647:Int)<(a6.length:Int):=by omega
        clear hall b1 b2 b3 b4 b5 b6
        go_enter Tryz.func7,Tryz.ntmps7
        go_wp2
        go_ret
        exact⟨by rw [F2.out];rfl,hb1⟩
      ·have c5:(2147483647:Int)<(a5.length:Int):=by omega
       clear hall b1 b2 b3 b4 b5
       go_enter Tryz.func7,Tryz.ntmps7
       go_wp2
       go_ret
       exact⟨by rw [F2.out];rfl,hb1⟩
     ·have c4:(2147483647:Int)<(a4.length:Int):=by omega
      clear hall b1 b2 b3 b4
      go_enter Tryz.func7,Tryz.ntmps7
      go_wp2
      go_ret
      exact⟨by rw [F2.out];rfl,hb1⟩
    ·have c3:(2147483647:Int)<(a3.length:Int):=by omega
     clear hall b1 b2 b3
     go_enter Tryz.func7,Tryz.ntmps7
     go_wp2
     go_ret
     exact⟨by rw [F2.out];rfl,hb1⟩
   ·have c2:(2147483647:Int)<(a2.length:Int):=by omega
    clear hall b1 b2
    go_enter Tryz.func7,Tryz.ntmps7
    go_wp2
    go_ret
    exact⟨by rw [F2.out];rfl,hb1⟩
  ·have c1:(2147483647:Int)<(a1.length:Int):=by omega
   clear hall b1
   go_enter Tryz.func7,Tryz.ntmps7
   go_wp2
   go_ret
   exact⟨by rw [F2.out];rfl,hb1⟩
theorem emptied_cons (n:Nat)(c:UInt8)(r:BS):emptied (n+1) (c::r)=if c=98∧(r.dropWhile blank).head?=some 61 then c::r.takeWhile blank++ [61]++emptied n ((r.dropWhile blank).tail.dropWhile (· !=59))else c::emptied n r:=rfl
structure Run (l:BS)(a k:Nat):Prop where
 le:a≤k∧k≤l.length
 tk:(l.drop a).takeWhile blank=(l.drop a).take (k-a)++(l.drop k).takeWhile blank
 dr:(l.drop a).dropWhile blank=(l.drop k).dropWhile blank
theorem Run.start (l:BS)(a:Nat)(h:a≤l.length):Run l a a:=⟨⟨Nat.le_refl _,h⟩,by simp,rfl⟩
theorem Run.step {l:BS} {a k:Nat} (h:Run l a k)(hk:k<l.length)(hb:blank l[k]=true):Run l a (k+1):=by
 obtain⟨⟨h1,h2⟩,h3,h4⟩:=h
 have hd:l.drop k=l[k]::l.drop (k+1):=List.drop_eq_getElem_cons hk
 refine⟨⟨by omega,by omega⟩,?_,?_⟩
 ·rw [h3,hd,List.takeWhile_cons,if_pos hb]
  have e:k+1-a=(k-a)+1:=by omega
  rw [e,List.take_succ_eq_append_getElem (by simp;omega)]
  simp
  congr 1
  omega
 ·rw [h4,hd,List.dropWhile_cons,if_pos hb]
theorem Run.stop {l:BS} {a k:Nat} (h:Run l a k)(hk: ∀h:k<l.length,blank l[k]=false):(l.drop a).takeWhile blank=(l.drop a).take (k-a)∧(l.drop a).dropWhile blank=l.drop k:=by
 by_cases hlt:k<l.length
 ·have hd:l.drop k=l[k]::l.drop (k+1):=List.drop_eq_getElem_cons hlt
  rw [h.tk,h.dr,hd,List.takeWhile_cons,List.dropWhile_cons]
  simp [hk hlt]
 ·have:=h.le
  rw [h.tk,h.dr]
  have e:l.drop k= []:=List.drop_eq_nil_of_le (by omega)
  rw [e];simp
theorem seg (l:BS)(k j:Nat)(h:k<j)(hj:j<l.length):(l.drop k).take (j+1-k)=l[k]::(l.drop (k+1)).take (j-(k+1))++ [l[j]]:=by
 have hd:l.drop k=l[k]::l.drop (k+1):=List.drop_eq_getElem_cons (by omega)
 have e:j+1-k=(j-(k+1)+1)+1:=by omega
 rw [hd,e,List.take_succ_cons,List.take_succ_eq_append_getElem (by simp;omega)]
 simp
 congr 1
 omega
theorem dEmptied_any (l:BS)(w:World)(hs:l.length≤2147483648):
 Calls Tryz.prog 84 #[Str l] w fun e w'=>e= .returned (Str (emptied l.length l))∧w=w':=by
 go_enter Tryz.func84,Tryz.ntmps84
 go_wp2
 go_loop [3,4,5] (fun o i _=> ∃(k n:Nat) (out:BS),k≤l.length∧l.length≤n+k∧out.length≤k∧i= .int .i64 k∧o=Str out∧Hid (emptied l.length l=out++emptied n (l.drop k))) (fun _ i _=>l.length-(intOf i).toNat)
 case atStart=>exact⟨0,l.length,[],by omega,by omega,by simp,rfl,rfl,by simp [Hid]⟩
 case round=>
  obtain⟨k,n,out,hk,hn,ho,rfl,rfl,H⟩:=hrel
  by_cases hlt:k<l.length
  ·obtain⟨m,rfl⟩: ∃m,n=m+1:=⟨n-1,by omega⟩
   have hd:l.drop k=l[k]::l.drop (k+1):=List.drop_eq_getElem_cons hlt
   have hec:=emptied_cons m l[k] (l.drop (k+1))
   rw [←hd]at hec
   have Hd:=Lib.hid hd;clear hd
   have Ht:Hid ((l.drop k).take 1= [l[k]]):=by show _=_;rw [Hd.out];rfl
   cases c1:((l[k].toNat:Int)==98)with
   |false=>
    have g1:=bneF c1
    rw [if_neg (fun h=>u8_of_not (d:=98) c1 h.1)]at hec
    have He:=Lib.hid hec;clear hec
    go_wp2
    go_loop [5] (fun j=>j= .int .i64 ((k:Int)+1)) (fun _=>0)
    case atStart=>rfl
    case round=>
     subst hrel
     go_wp2
     go_round
     case rel=>exact⟨k+1,m,_,by omega,by omega,by simp;omega,by go_num,rfl,by rw [H.out,He.out,Ht.out];simp [Hid]⟩
     case measure=>simp [intOf];omega
   |true=>
    have g1:=bneT c1
    have hc98:l[k]=98:=u8_of (d:=98) c1
    have He:=Lib.hid hec;clear hec
    have Hc:=Lib.hid hc98;clear hc98
    go_wp2
    go_loop [5] (fun q=> ∃j:Nat,j≤l.length∧k+1≤j∧q= .int .i64 j∧Hid (Run l (k+1) j)) (fun q=>l.length-(intOf q).toNat)
    case atStart=>exact⟨k+1,by omega,by omega,by go_num,Run.start l (k+1) (by omega)⟩
    case round=>
     obtain⟨j,hj,hkj,rfl,R⟩:=hrel
     by_cases hb: ∃h:j<l.length,blank l[j]=true
     ·obtain⟨hjl,hb⟩:=hb
      have Hb:=Lib.hid hb;clear hb
      go_wp2_with (go_at_call 46;refine(dBlank_any _ _).mono ?_;rintro e w1 ⟨rfl,rfl⟩;rw [Hb.out])
      go_round
      case rel=>exact⟨j+1,by omega,by omega,by go_num,R.out.step hjl Hb.out⟩
      case measure=>simp [intOf];omega
     ·have hst:=R.out.stop (fun h=>by
       cases hbb:blank l[j]with
       |true=>exact absurd ⟨h,hbb⟩ hb
       |false=>rfl)
      have Hst:=Lib.hid hst;clear hst
      by_cases hq: ∃h:j<l.length,l[j]=61
      ·obtain⟨hjl,hq⟩:=hq
       have hbl:Hid (blank l[j]=false):=by show _=_;rw [hq];rfl
       have hdj:l.drop j=l[j]::l.drop (j+1):=List.drop_eq_getElem_cons hjl
       have hfin:Hid (emptied (m+1) (l.drop k)=(l.drop k).take (j+1-k)++emptied m ((l.drop (j+1)).dropWhile (· !=59))):=by
        show _=_
        rw [He.out,if_pos ⟨Hc.out,by rw [Hst.out.2,hdj,hq];rfl⟩,Hst.out.1,Hst.out.2,seg l k j (by omega) hjl,hdj,hq]
        simp
       have c2:((l[j].toNat:Int)==61)=true:=by rw [hq];rfl
       have g2:=bneT c2
       clear hq hdj hb
       go_wp2_with (go_at_call 46;refine(dBlank_any _ _).mono ?_;rintro e w1 ⟨rfl,rfl⟩;rw [hbl.out])
       go_loop [4] (fun i=> ∃q:Nat,q≤l.length∧j+1≤q∧i= .int .i64 q∧Hid ((l.drop (j+1)).dropWhile (· !=59)=(l.drop q).dropWhile (· !=59))) (fun i=>l.length-(intOf i).toNat)
       case atStart=>exact⟨j+1,by omega,by omega,by go_num,rfl⟩
       case round=>
        obtain⟨q,hq,hjq,rfl,D⟩:=hrel
        by_cases hql:q<l.length
        ·have hdq:l.drop q=l[q]::l.drop (q+1):=List.drop_eq_getElem_cons hql
         cases c3:((l[q].toNat:Int)==59)with
         |true=>
          have g3:=bneT c3
          have hD:Hid ((l.drop q).dropWhile (· !=59)=l.drop q):=by
           show _=_
           rw [hdq,List.dropWhile_cons,if_neg (by rw [u8_of (d:=59) c3];decide)]
          clear hdq
          go_wp2
          go_round
          case rel=>exact⟨q,m,_,by omega,by omega,by simp;omega,rfl,rfl,by rw [H.out,hfin.out,D.out,hD.out];simp [Hid]⟩
          case measure=>simp [intOf];omega
         |false=>
          have g3:=bneF c3
          have hD:Hid ((l.drop q).dropWhile (· !=59)=(l.drop (q+1)).dropWhile (· !=59)):=by
           show _=_
           rw [hdq,List.dropWhile_cons,if_pos (by simpa using u8_of_not (d:=59) c3)]
          clear hdq
          go_wp2
          go_round
          case rel=>exact⟨q+1,by omega,by omega,by go_num,by rw [D.out,hD.out];rfl⟩
          case measure=>simp [intOf];omega
        ·have hD:Hid ((l.drop q).dropWhile (· !=59)=l.drop q):=by
          show _=_
          rw [List.drop_eq_nil_of_le (by omega)];rfl
         go_wp2
         go_round
         case rel=>exact⟨q,m,_,by omega,by omega,by simp;omega,rfl,rfl,by rw [H.out,hfin.out,D.out,hD.out];simp [Hid]⟩
         case measure=>simp [intOf];omega
      ·have hfin:Hid (emptied (m+1) (l.drop k)=l[k]::emptied m (l.drop (k+1))):=by
        show _=_
        rw [He.out,if_neg]
        rintro⟨_,h⟩
        rw [Hst.out.2]at h
        by_cases hjl:j<l.length
        ·rw [List.drop_eq_getElem_cons hjl]at h
         simp only [List.head?_cons,Option.some.injEq]at h
         exact hq ⟨hjl,h⟩
        ·rw [List.drop_eq_nil_of_le (by omega)]at h;simp at h
       by_cases hjl:j<l.length
       ·have c2:((l[j].toNat:Int)==61)=false:=bF (fun h=>hq ⟨hjl,h⟩: ¬l[j]=61)
        have g2:=bneF c2
        have hbl:Hid (blank l[j]=false):=by
         cases hbb:blank l[j]with
         |true=>exact absurd ⟨hjl,hbb⟩ hb
         |false=>rfl
        clear hb hq
        go_wp2_with (go_at_call 46;refine(dBlank_any _ _).mono ?_;rintro e w1 ⟨rfl,rfl⟩;rw [hbl.out])
        go_round
        case rel=>exact⟨k+1,m,_,by omega,by omega,by simp;omega,by go_num,rfl,by rw [H.out,hfin.out,Ht.out];simp [Hid]⟩
        case measure=>simp [intOf];omega
       ·clear hb hq
        go_wp2
        go_round
        case rel=>exact⟨k+1,m,_,by omega,by omega,by simp;omega,by go_num,rfl,by rw [H.out,hfin.out,Ht.out];simp [Hid]⟩
        case measure=>simp [intOf];omega
  ·have Hn:Hid (emptied n (l.drop k)= []):=by show _=_;rw [List.drop_eq_nil_of_le (by omega)];cases n<;>rfl
   go_wp2
   go_ret
   exact⟨by rw [H.out,Hn.out];simp,rfl⟩
def ErrK (v:Value)(c:Nat):Prop:=(c=0∧v= .nilIface)∨(c=1∧∃s:BS,v= .iface 223 (Str s))∨(c=2∧∃s:BS,v= .iface 209 (Str s))
theorem ta1 (v:Value)(w:World):(Instr.typeAssert (.iface 223 v) 74 223 true).run Tryz.prog w= .ok (.tuple #[v, .bool true]) w:=by kernel_rfl
theorem ta2 (v:Value)(w:World):(Instr.typeAssert (.iface 209 v) 74 223 true).run Tryz.prog w= .ok (.tuple #[Str [], .bool false]) w:=by kernel_rfl
theorem ta3 (w:World):(Instr.typeAssert .nilIface 74 223 true).run Tryz.prog w= .ok (.tuple #[Str [], .bool false]) w:=by kernel_rfl
theorem tb1 (v:Value)(w:World):(Instr.typeAssert (.iface 209 v) 74 209 true).run Tryz.prog w= .ok (.tuple #[v, .bool true]) w:=by kernel_rfl
theorem tb2 (v:Value)(w:World):(Instr.typeAssert (.iface 223 v) 74 209 true).run Tryz.prog w= .ok (.tuple #[Str [], .bool false]) w:=by kernel_rfl
theorem tb3 (w:World):(Instr.typeAssert .nilIface 74 209 true).run Tryz.prog w= .ok (.tuple #[Str [], .bool false]) w:=by kernel_rfl
theorem tc1 (v:Value)(w:World):(Instr.typeAssert (.iface 209 v) 74 233 true).run Tryz.prog w= .ok (.tuple #[Str [], .bool false]) w:=by kernel_rfl
theorem tc2 (v:Value)(w:World):(Instr.typeAssert (.iface 223 v) 74 233 true).run Tryz.prog w= .ok (.tuple #[Str [], .bool false]) w:=by kernel_rfl
theorem tc3 (w:World):(Instr.typeAssert .nilIface 74 233 true).run Tryz.prog w= .ok (.tuple #[Str [], .bool false]) w:=by kernel_rfl
theorem isFail_any (v:Value)(c:Nat)(w:World)(h:ErrK v c):Calls Tryz.prog 93 #[v] w fun e w'=>e= .returned (.bool (c==1))∧w'=w:=by
 rcases h with⟨rfl,rfl⟩|⟨rfl,s,rfl⟩|⟨rfl,s,rfl⟩<;>
 ·have h1:=ta1
  have h2:=ta2
  have h3:=ta3
  go_enter Tryz.func93,Tryz.ntmps93
  go_wp2
  go_ret
  exact⟨rfl,rfl⟩
theorem isPerm_any (v:Value)(c:Nat)(w:World)(h:ErrK v c):Calls Tryz.prog 92 #[v] w fun e w'=>e= .returned (.bool (c==2))∧w'=w:=by
 rcases h with⟨rfl,rfl⟩|⟨rfl,s,rfl⟩|⟨rfl,s,rfl⟩<;>
 ·have h1:=tb1
  have h2:=tb2
  have h3:=tb3
  go_enter Tryz.func92,Tryz.ntmps92
  go_wp2
  go_ret
  exact⟨rfl,rfl⟩
theorem isTemp_any (v:Value)(c:Nat)(w:World)(h:ErrK v c):Calls Tryz.prog 91 #[v] w fun e w'=>e= .returned (.bool false)∧w'=w:=by
 rcases h with⟨rfl,rfl⟩|⟨rfl,s,rfl⟩|⟨rfl,s,rfl⟩<;>
 ·have h1:=tc1
  have h2:=tc2
  have h3:=tc3
  go_enter Tryz.func91,Tryz.ntmps91
  go_wp2
  go_ret
  exact⟨rfl,rfl⟩
theorem isFail2_any (v:Value)(c:Nat)(w:World)(h:ErrK v c):Calls Tryz.prog 95 #[v] w fun e w'=>e= .returned (.bool (c==1))∧w'=w:=by
 go_enter Tryz.func95,Tryz.ntmps95
 go_wp2_with fail
 refine(isFail_any v c w h).mono ?_
 rintro e w1 ⟨rfl,rfl⟩
 go_wp2
 go_ret
 exact⟨rfl,rfl⟩
theorem codeOf_any (v:Value)(c:Nat)(w:World)(h:ErrK v c):Calls Tryz.prog 59 #[v] w fun e w'=>e= .returned (.int .i64 c)∧w'=w:=by
 have h1:=fun w=>isPerm_any v c w h
 have h2:=fun w=>isTemp_any v c w h
 have h3:=fun w=>isFail2_any v c w h
 rcases h with⟨rfl,rfl⟩|⟨rfl,s,rfl⟩|⟨rfl,s,rfl⟩
 ·go_enter Tryz.func59,Tryz.ntmps59
  go_wp2
  go_ret
  exact⟨rfl,rfl⟩
 ·go_enter Tryz.func59,Tryz.ntmps59
  go_wp2_with fail
  refine(h1 w).mono ?_
  rintro e w1 ⟨rfl,rfl⟩
  go_wp2_with fail
  refine(h2 _).mono ?_
  rintro e w1 ⟨rfl,rfl⟩
  go_wp2_with fail
  refine(h3 _).mono ?_
  rintro e w1 ⟨rfl,rfl⟩
  go_wp2
  go_ret
  exact⟨rfl,rfl⟩
 ·go_enter Tryz.func59,Tryz.ntmps59
  go_wp2_with fail
  refine(h1 w).mono ?_
  rintro e w1 ⟨rfl,rfl⟩
  go_wp2
  go_ret
  exact⟨rfl,rfl⟩
def endsB (s x:BS):Bool:=decide (x.length≤s.length)&&(s.drop (s.length-x.length)==x)
theorem suffix_any (s x:BS)(w:World)(hs:s.length≤4294967296)(hx:x.length≤4294967296):Calls Tryz.prog 141 #[Str s,Str x] w fun e w'=>e= .returned (.bool (endsB s x))∧w'=w:=by
 by_cases h:x.length≤s.length
 ·have h1:(x.length:Int)≤(s.length:Int):=by omega
  have h0:(0:Int)≤(s.length:Int)-(x.length:Int):=by omega
  have hw:IntKind.i64.wrap ((s.length:Int)-(x.length:Int))=(s.length:Int)-(x.length:Int):=by rw [IntKind.wrap_i64];omega
  have hn:((s.length:Int)-(x.length:Int)).toNat=s.length-x.length:=by omega
  have F:Hid (endsB s x=(s.drop (s.length-x.length)==x)):=by show _=_;unfold endsB;simp [h]
  go_enter Tryz.func141,Tryz.ntmps141
  go_wp2
  go_ret
  exact⟨by rw [F.out];rfl,rfl⟩
 ·have h1:(s.length:Int)<(x.length:Int):=by omega
  have F:Hid (endsB s x=false):=by show _=_;unfold endsB;simp [h]
  go_enter Tryz.func141,Tryz.ntmps141
  go_wp2
  go_ret
  exact⟨by rw [F.out];rfl,rfl⟩
theorem hasSuffix_any (s x:BS)(w:World)(hs:s.length≤4294967296)(hx:x.length≤4294967296):Calls Tryz.prog 114 #[Str s,Str x] w fun e w'=>e= .returned (.bool (endsB s x))∧w'=w:=by
 go_enter Tryz.func114,Tryz.ntmps114
 go_wp2_with fail
 refine(suffix_any s x w hs hx).mono ?_
 rintro e w1 ⟨rfl,rfl⟩
 go_wp2
 go_ret
 exact⟨rfl,rfl⟩
end Go.Proofs.YtgilnagajcfkpaaGreatDoor
