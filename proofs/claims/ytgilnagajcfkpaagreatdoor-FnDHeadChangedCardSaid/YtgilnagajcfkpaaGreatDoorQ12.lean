import Derived.Test.YtgilnagajcfkpaaGreatDoorQ04
import Derived.Test.YtgilnagajcfkpaaGreatDoorQ07
set_option maxHeartbeats 4000000
set_option maxRecDepth 1000000
set_option linter.all false
namespace Go.Proofs.YtgilnagajcfkpaaGreatDoor
open Go.RowKit
structure OkF (f:BS):Prop where
 two:2≤(splitAt 58 f).length
 ne:name f≠ []
 dry:strip (name f)=name f
 one:(splitAt 59 (name f)).length+(splitAt 61 (name f)).length=2
 other:lower (name f)≠dkimS
structure NamedP (M:BS)(F:List BS)(b:BS):Prop where
 heads:heads M=some (F,b)
 ne:F≠ []
 all: ∀f∈F,OkF f
 from_:(F.any fun f=>lower (name f)==fromS)=true
 head: ∀f,F.head?=some f→¬contL f
theorem addLine_cnt (out:List BS)(l:BS):(addLine out l).length≤out.length+1:=by
 unfold addLine
 split<;>simp<;>omega
theorem headGo_cnt: ∀(n:Nat)(out:List BS)(m:BS)(F:List BS)(b:BS),headGo n out m=some (F,b)→F.length≤out.length+n
 |0,_,_,_,_,h=>by simp [headGo]at h
 |n+1,out,m,F,b,h=>by
  rw [headGo]at h
  split at h
  ·split at h
   ·injection h with h;injection h with h1 h2;subst h1;omega
   ·have h1:=headGo_cnt n _ _ F b h
    have h2:=addLine_cnt out (unCR (cutAt 10 m).1)
    omega
  ·cases h
theorem heads_cnt {m:BS} {F:List BS} {b:BS} (h:heads m=some (F,b)):F.length≤m.length+1:=by
 have:=headGo_cnt _ _ _ _ _ h
 simpa using this
theorem len_flat (F:List BS)(f:BS)(h:f∈F):f.length≤F.flatten.length:=by
 induction F with
 |nil=>cases h
 |cons a r ih=>
  rw [List.flatten_cons,List.length_append]
  rcases List.mem_cons.1 h with rfl|h
  ·omega
  ·have:=ih h;omega
theorem dNamed_any (M:BS)(w:World)(hM:M.length≤1073741824):
 Calls Tryz.prog 10 #[Str M] w fun e w'=>(∃r,e= .returned (.bool r)∧(r=true→∃F b,NamedP M F b))∧Below w.heap.size w w':=by
 go_enter Tryz.func10,Tryz.ntmps10
 go_wp2_with fail
 refine(dHead_any M w (by omega)).mono ?_
 rintro e w1 ⟨hp,hb1⟩
 cases hh:heads M with
 |none=>
  rw [hh]at hp
  subst hp
  clear hh
  go_wp2_with fail
  go_loopw [7] (fun v7 wx=>v7= .int .i64 0∧wx=w1) (fun _ _=>0)
  case atStart=>exact⟨rfl,rfl⟩
  case round=>
   obtain⟨rfl,rfl⟩:=hrel
   go_wp2_with fail
   go_ret
   exact⟨⟨false,rfl,fun h=>by cases h⟩,hb1⟩
 |some p=>
  obtain⟨F,b⟩:=p
  rw [hh]at hp
  obtain⟨v,rfl,hv⟩:=hp
  have hvr:=hv.rd
  obtain⟨vA,vc,rfl,_,_⟩:=id hvr
  rw [stL]at hvr⊢
  have Hh:=Lib.hid hh
  have hfl:=heads_len hh
  have lF:F.length≤2147483650:=by have:=heads_cnt hh;omega
  have hfm:Hid (∀f∈F,f.length≤4294967296):=fun f hf=>by
   have:=len_flat F f hf
   omega
  clear hv hh hfl
  go_wp2_with fail
  go_loopw [6,7] (fun v6 v7 wx=> ∃k:Nat,k≤F.length∧v7= .int .i64 k∧v6= .bool ((F.take k).any fun f=>lower (name f)==fromS)∧Hid (∀f∈F.take k,OkF f)∧Below w1.heap.size w1 wx) (fun _ v7 _=>F.length-(intOf v7).toNat)
  case atStart=>exact⟨0,Nat.zero_le _,rfl,by simp,by intro f hf;simp at hf,Below.refl _ _⟩
  case round=>
   obtain⟨k,hk,rfl,rfl,hok,hbx⟩:=hrel
   by_cases hlt:k<F.length
   ·have hvx:=hvr.below hbx
    obtain⟨A',c',he,_,hn0|⟨g,off,e,_,hc⟩⟩:=id hvx
    ·exfalso
     have:F.length=0:=by rw [←stL,hn0];rfl
     omega
    injection he with h1 h2 h3
    clear h2 h3
    subst h1
    subst e
    have hck:=hc k (Str F[k]) (by simp [strs,hlt])
    clear hc
    have h0:(0:Int)≤(k:Int):=by omega
    have h1:(k:Int)<(F.length:Int):=by omega
    have lf:=hfm.out _ (List.getElem_mem hlt)
    have hok2:Hid (OkF F[k]→∀f∈F.take (k+1),OkF f):=by
     intro hx f hf
     rw [List.take_succ_eq_append_getElem hlt]at hf
     rcases List.mem_append.1 hf with hf|hf
     ·exact hok.out f hf
     ·rw [List.mem_singleton.1 hf];exact hx
    have hs1:Hid (((F.take (k+1)).any fun f=>lower (name f)==fromS)=(((F.take k).any fun f=>lower (name f)==fromS)||(lower (name F[k])==fromS))):=by
     show _=_
     rw [List.take_succ_eq_append_getElem hlt,List.any_append];simp
    obtain⟨f,Hf⟩: ∃z,Hid (z=F[k]):=⟨_,Lib.hid rfl⟩
    obtain⟨a,Ha⟩: ∃z,Hid (z=(F.take k).any fun f=>lower (name f)==fromS):=⟨_,Lib.hid rfl⟩
    rw [←Hf.out]at hck lf hok2 hs1
    rw [←Ha.out]at hs1⊢
    have hbw:=hb1.trans (hbx.mono hb1.size)
    clear hok
    go_wp2_with fail
    refine(dName_any f wr (by omega)).mono ?_
    rintro e w2 ⟨rfl,hb2⟩
    have hck2:=bcell hb2 hck
    have lnm:(name f).length≤4294967296:=by have:=name_len f;omega
    go_wp2_with fail
    refine(dSplit_any f 58 w2 (by omega)).mono ?_
    rintro e w3 ⟨v3,rfl,ho3,hb3⟩
    obtain⟨A3,c3,hv3,_,_⟩:=ho3.rd
    have hb3:=hb2.trans (hb3.mono hb2.size)
    have hb03:=hbw.trans (hb3.mono hbw.size)
    subst hv3
    rw [stL]
    clear ho3 hck2 hb2
    by_cases p1:((splitAt 58 f).length:Int)<2
    ·go_wp2_with fail
     go_ret
     exact⟨⟨false,rfl,fun h=>by cases h⟩,hb03⟩
    have P1:Hid (2≤(splitAt 58 f).length):=by show _≤_;omega
    obtain⟨n,Hn⟩: ∃z,Hid (z=name f):=⟨_,Lib.hid rfl⟩
    rw [←Hn.out]at lnm hs1⊢
    by_cases p2:n= []
    ·have p2:n.isEmpty=true:=by rw [p2];rfl
     go_wp2_with fail
     go_ret
     exact⟨⟨false,rfl,fun h=>by cases h⟩,hb03⟩
    have P2:=Lib.hid p2
    have p2:n.isEmpty=false:=by rw [List.isEmpty_eq_false_iff];exact P2.out
    go_wp2_with fail
    refine(dStrip_any n w3 lnm).mono ?_
    rintro e w4 ⟨rfl,hb4⟩
    have hb4:=hb3.trans (hb4.mono hb3.size)
    have hb04:=hbw.trans (hb4.mono hbw.size)
    obtain⟨sn,Hsn⟩: ∃z,Hid (z=strip n):=⟨_,Lib.hid rfl⟩
    rw [←Hsn.out]
    clear hb03
    by_cases p3: ¬sn=n
    ·have p3:(sn==n)=false:=by simpa using p3
     go_wp2_with fail
     go_ret
     exact⟨⟨false,rfl,fun h=>by cases h⟩,hb04⟩
    have P3:Hid (sn=n):=Classical.not_not.1 p3
    clear p3
    have p3:(sn==n)=true:=by simpa using P3.out
    go_wp2_with fail
    refine(dSplit_any n 59 w4 lnm).mono ?_
    rintro e w5 ⟨v5,rfl,ho5,hb5⟩
    obtain⟨A5,c5,hv5,_,_⟩:=ho5.rd
    have hb5:=hb4.trans (hb5.mono hb4.size)
    subst hv5
    rw [stL]
    clear ho5
    go_wp2_with fail
    refine(dSplit_any n 61 w5 lnm).mono ?_
    rintro e w6 ⟨v6,rfl,ho6,hb6⟩
    obtain⟨A6,c6,hv6,_,_⟩:=ho6.rd
    have hb6:=hb5.trans (hb6.mono hb5.size)
    have hb06:=hbw.trans (hb6.mono hbw.size)
    subst hv6
    rw [stL]
    clear ho6
    have l59:=spL 59 n
    have l61:=spL 61 n
    obtain⟨x59,Hx59⟩: ∃z,Hid (z=(splitAt 59 n).length):=⟨_,Lib.hid rfl⟩
    obtain⟨x61,Hx61⟩: ∃z,Hid (z=(splitAt 61 n).length):=⟨_,Lib.hid rfl⟩
    rw [←Hx59.out]at l59⊢
    rw [←Hx61.out]at l61⊢
    by_cases p4: ¬x59+x61=2
    ·have p4b: ¬((x59:Int)+(x61:Int)=2):=by omega
     clear p4
     go_wp2_with fail
     go_ret
     exact⟨⟨false,rfl,fun h=>by cases h⟩,hb06⟩
    have P4:Hid (x59+x61=2):=Classical.not_not.1 p4
    clear p4
    have p4:(x59:Int)+(x61:Int)=2:=by have:=P4.out;omega
    go_wp2_with fail
    refine(dLower_any n w6 lnm).mono ?_
    rintro e w7 ⟨rfl,hb7⟩
    have hb7:=hb6.trans (hb7.mono hb6.size)
    have hb07:=hbw.trans (hb7.mono hbw.size)
    by_cases p5:lower n=dkimS
    ·have q5:(lower n== [100,107,105,109,45,115,105,103,110,97,116,117,114,101])=true:=by rw [p5];rfl
     clear p5
     go_wp2_with fail
     go_ret
     exact⟨⟨false,rfl,fun h=>by cases h⟩,hb07⟩
    have P5:=Lib.hid p5
    clear p5
    have p5:(lower n== [100,107,105,109,45,115,105,103,110,97,116,117,114,101])=false:=by simpa [dkimS]using P5.out
    have hokf:Hid (∀f∈F.take (k+1),OkF f):=hok2.out ⟨P1.out,by rw [←Hn.out];exact P2.out,by rw [←Hn.out,←Hsn.out];exact P3.out,by rw [←Hn.out,←Hx59.out,←Hx61.out];exact P4.out,by rw [←Hn.out];exact P5.out⟩
    have hbx7:=hbx.trans (hb7.mono hbx.size)
    clear hb06 hb04 hok2
    cases a with
    |true=>
     have hs2:Hid (((F.take (k+1)).any fun f=>lower (name f)==fromS)=true):=by show _=_;rw [hs1.out];rfl
     clear hs1
     go_wp2_with fail
     go_roundw
     case rel=>exact⟨k+1,hlt,by go_num,by rw [hs2.out],hokf,hbx7⟩
     case measure=>simp [intOf];omega
    |false=>
     go_wp2_with fail
     refine(dLower_any n w7 lnm).mono ?_
     rintro e w8 ⟨rfl,hb8⟩
     have hbx8:=hbx7.trans (hb8.mono hbx7.size)
     by_cases hb:lower n=fromS
     ·have e1:(lower n== [102,114,111,109])=true:=by simpa [fromS]using hb
      have hs2:Hid (((F.take (k+1)).any fun f=>lower (name f)==fromS)=true):=by show _=_;rw [hs1.out,hb];rfl
      clear hb hs1
      go_wp2_with fail
      go_roundw
      case rel=>exact⟨k+1,hlt,by go_num,by rw [hs2.out],hokf,hbx8⟩
      case measure=>simp [intOf];omega
     ·have e1:(lower n== [102,114,111,109])=false:=by simpa [fromS]using hb
      have hs2:Hid (((F.take (k+1)).any fun f=>lower (name f)==fromS)=false):=by show _=_;rw [hs1.out];simpa using hb
      clear hb hs1
      go_wp2_with fail
      go_roundw
      case rel=>exact⟨k+1,hlt,by go_num,by rw [hs2.out],hokf,hbx8⟩
      case measure=>simp [intOf];omega
   ·have hbw:=hb1.trans (hbx.mono hb1.size)
    have e2:F.take k=F:=List.take_of_length_le (by omega)
    rw [e2]at hok⊢
    obtain⟨a,Ha⟩: ∃z,Hid (z=F.any fun f=>lower (name f)==fromS):=⟨_,Lib.hid rfl⟩
    rw [←Ha.out]
    clear e2
    cases a with
    |false=>
     go_wp2_with fail
     go_ret
     exact⟨⟨false,rfl,fun h=>by cases h⟩,hbw⟩
    |true=>
     have hFc: ∃f r,F=f::r:=by
      cases hF:F with
      |nil=>exfalso;have:=Ha.out;rw [hF]at this;simp at this
      |cons f r=>exact⟨f,r,rfl⟩
     obtain⟨f,r,hF⟩:=hFc
     ·have Hok:=hok.out f (by rw [hF];simp)
      have hvx:=hvr.below hbx
      obtain⟨A',c',he,_,hn0|⟨g,off,e,_,hc⟩⟩:=id hvx
      ·exfalso;rw [hF]at hn0;simp [strs]at hn0
      injection he with h1 h2 h3
      clear h2 h3
      subst h1
      subst e
      have hck:=hc 0 (Str f) (by rw [hF];rfl)
      rw [Nat.add_zero]at hck
      clear hc
      have hne0:f≠ []:=by
       rintro rfl
       have:=Hok.two
       simp [splitAt]at this
      obtain⟨c0,f',rfl⟩:=List.exists_cons_of_ne_nil hne0
      have hpos:(0:Int)<(F.length:Int):=by rw [hF];simp
      have hnl: ¬((k:Int)<(F.length:Int)):=by omega
      have HN:Hid (¬c0=32→¬c0=9→NamedP M F b):=fun h32 h9=>⟨Hh.out,by rw [hF];simp,hok.out,Ha.out.symm,by
       intro f2 h2
       rw [hF]at h2
       simp at h2
       subst h2
       unfold contL
       simp [h32,h9]⟩
      clear hF hne0 Hok hok
      go_wp2_with fail
      ·go_ret
       exact⟨.inl rfl,hbw⟩
      ·by_cases d1:c0=32∨c0=9
       ·have hv:((c0.toNat:Int) !=32&&(c0.toNat:Int) !=9)=false:=by rcases d1 with rfl|rfl<;>rfl
        go_ret
        refine⟨.inl ?_,hbw⟩
        show Ending.returned (Value.bool ((c0.toNat:Int) !=32&&(c0.toNat:Int) !=9))=_
        rw [hv]
       ·have hv:((c0.toNat:Int) !=32&&(c0.toNat:Int) !=9)=true:=by
         have e1: ¬c0.toNat=32:=fun e=>d1 (.inl (UInt8.toNat_inj.1 e))
         have e2: ¬c0.toNat=9:=fun e=>d1 (.inr (UInt8.toNat_inj.1 e))
         simp only [Bool.and_eq_true,bne_iff_ne,ne_eq]
         omega
        go_ret
        refine⟨.inr ⟨?_,F,b,HN.out (fun e=>d1 (.inl e)) (fun e=>d1 (.inr e))⟩,hbw⟩
        show Ending.returned (Value.bool ((c0.toNat:Int) !=32&&(c0.toNat:Int) !=9))=_
        rw [hv]
theorem low_low (c:UInt8):low (low c)=low c:=by
 have: ∀c:Fin 256,low (low (UInt8.ofNat c.val))=low (UInt8.ofNat c.val):=by decide+kernel
 have h:=this ⟨c.toNat,c.toNat_lt⟩
 simpa using h
theorem lower_lower (l:BS):lower (lower l)=lower l:=by simp [lower,low_low,Function.comp_def]
theorem plain_low (c:UInt8)(h:plainB c=true):plainB (low c)=true:=by
 have: ∀c:Fin 256,plainB (UInt8.ofNat c.val)=true→plainB (low (UInt8.ofNat c.val))=true:=by decide+kernel
 have h2:=this ⟨c.toNat,c.toNat_lt⟩
 simp only [UInt8.ofNat_toNat]at h2
 exact h2 h
theorem plain_lower {l:BS} (h:plain l=true):plain (lower l)=true:=by
 rw [plain_all]at*
 intro c hc
 obtain⟨d,hd,rfl⟩:=List.mem_map.1 hc
 exact plain_low d (h d hd)
theorem nmLen (f:BS):(name f).length≤f.length:=Nat.le_trans (trim_len _) (cutAt_len 58 f).1
theorem plain_name {f:BS} (h:plain f=true):plain (name f)=true:=plain_of_sub h fun c hc=>name_sub hc
theorem Rd.below_if {B:Nat} {w w':World} {v:Value} {xs:List Value} (h:Rd w v xs)(hb:Below B w w')(hh:xs≠ []→∀k,v.ownBlock=some k→k<B):Rd w' v xs:=by
 obtain⟨A,c,rfl,hlc,hx⟩:=h
 refine⟨A,c,rfl,hlc,?_⟩
 rcases hx with hn|⟨g,off,rfl,hg,hc⟩
 ·exact .inl hn
 ·by_cases hn:xs= []
  ·exact .inl hn
  ·have hlt:=hh hn g rfl
   exact .inr ⟨g,off,rfl,Nat.lt_of_lt_of_le hg hb.size,fun j u hu=>(hb.cell (p:=⟨g,off+j,none⟩) hlt).trans (hc j u hu)⟩
theorem MapI.le {w:World} {b n:Nat} {f:List UInt8→Nat} (h:MapI w b n f)(k:List UInt8):f k≤n:=by obtain⟨D,_,hf⟩:=h;exact(hf k).1
structure Pk (w:World)(q b n:Nat)(hv:Value)(fs:List BS)(f:BS→Nat):Prop where
 blk:Blk w q 274 [hv, .map (some b)]
 rd:Rd w hv (strs fs)
 map:MapI w b n f
 ne:q≠b
 nb:hv.ownBlock≠some b
theorem Pk.below {B:Nat} {w w':World} {q b n:Nat} {hv:Value} {fs:List BS} {f:BS→Nat} (p:Pk w q b n hv fs f)(hb:Below B w w')(hq:q<B)(hbb:b<B)(hh:fs≠ []→∀k,hv.ownBlock=some k→k<B):Pk w' q b n hv fs f:=
 ⟨p.blk.below hb hq,p.rd.below_if hb (fun hne=>hh (fun e=>hne (by rw [e];rfl))),p.map.below hb hbb,p.ne,p.nb⟩
def didF (fs done:List BS)(k:BS):Nat:=min (countIn k done) (cntF fs k 0)
theorem pickAt_did (fs done:List BS)(nm:BS):pickAt fs nm (didF fs done nm)=pickAt fs nm (countIn nm done):=by
 unfold didF
 by_cases h:countIn nm done≤cntF fs nm 0
 ·rw [Nat.min_eq_left h]
 ·rw [Nat.min_eq_right (by omega),pickAt_none _ _ _ (Nat.le_refl _),pickAt_none _ _ _ (by omega)]
theorem did_hit (fs done:List BS)(nm:BS)(h:didF fs done (lower nm)<cntF fs (lower nm) 0)(k:BS):incF (didF fs done) (lower nm) k=didF fs (done++ [nm]) k:=by
 unfold incF didF at*
 rw [countIn_snoc]
 by_cases e:k=lower nm
 ·subst e;rw [if_pos rfl,if_pos rfl];omega
 ·rw [if_neg e,if_neg (fun h=>e h.symm),Nat.add_zero]
theorem did_miss (fs done:List BS)(nm:BS)(h:cntF fs (lower nm) 0≤didF fs done (lower nm))(k:BS):didF fs done k=didF fs (done++ [nm]) k:=by
 unfold didF at*
 rw [countIn_snoc]
 by_cases e:k=lower nm
 ·subst e;rw [if_pos rfl];omega
 ·rw [if_neg (fun h=>e h.symm),Nat.add_zero]
def PickPost (w:World)(q b n:Nat)(hv:Value)(fs done:List BS)(nm:BS)(e:Ending)(w':World):Prop:=
 e= .returned (Str (pickAt fs (lower nm) (countIn (lower nm) done)))∧Pk w' q b (n+1) hv fs (didF fs (done++ [nm]))∧Frm (· =b) w w'
theorem pick_any (q b n:Nat)(hv:Value)(fs done:List BS)(nm:BS)(w:World)(hp:Pk w q b n hv fs (didF fs done))(hn:n≤1000000)(hl:fs.length≤1000000)(hf: ∀f∈fs,f.length≤2147483648∧plain f=true)(hnm:nm.length≤2147483648)(hnp:plain nm=true):
 Calls Tryz.prog 125 #[.pointer (some ⟨q,0,none⟩),Str nm] w (PickPost w q b n hv fs done nm):=by
 obtain⟨A,c,rfl,hc,hx⟩:=hp.rd
 rw [stL]at hp hc⊢
 have hlow:=lwL nm
 have hdn:didF fs done (lower nm)≤n:=hp.map.le _
 have hpl:=plain_lower hnp
 have hq:=hp.blk.lt
 have hb:=hp.map.lt
 have hA:fs≠ []→∀k,(Value.slice A fs.length c).ownBlock=some k→k<w.heap.size:=by
  intro hne k hk
  rcases hx with h0|⟨g,off,rfl,hg,_⟩
  ·exact absurd (by simpa [strs]using h0) hne
  ·simp [Value.ownBlock]at hk;subst hk;exact hg
 have Hf:=Lib.hid hf
 have Hx:=Lib.hid hx
 clear hf hx
 go_enter Tryz.func125,Tryz.ntmps125
 go_wp2_with fail
 refine(zzToLower_any nm _ (by omega) hnp).mono ?_
 rintro e w1 ⟨rfl,hb1⟩
 have hp1:=hp.below hb1 hq hb hA
 have c0:=hp1.blk.cell 0 _ rfl
 have c1:=hp1.blk.cell 1 _ rfl
 have hlk:=run_mapI hp1.map (lower nm) (by omega)
 generalize hd:didF fs done (lower nm)=d at*
 go_wp2_with fail
 have Hd:=Lib.hid hd;clear hd hlk c0 c1
 have hcf:cntF fs (lower nm) fs.length=0:=by unfold cntF;rw [List.drop_length];rfl
 have hd0:Hid (cntF fs (lower nm) fs.length≤d):=by show _≤_;rw [hcf];omega
 have hd1:Hid ((d:Int)=(d:Int)-(cntF fs (lower nm) fs.length:Int)):=by show _=_;rw [hcf];simp
 have hbx:=hb1
 go_loopw [5,6] (fun v5 v6 wx=> ∃(i:Nat) (at':Int),i≤fs.length∧v6= .int .i64 ((i:Int)-1)∧v5= .int .i64 at'∧Hid (cntF fs (lower nm) i≤d)∧Hid (at'=(d:Int)-(cntF fs (lower nm) i:Int))∧Below w.heap.size w wx) (fun _ v6 _=>(1+intOf v6).toNat)
 case atStart=>exact⟨fs.length,d,Nat.le_refl _,rfl,rfl,hd0,hd1,hb1⟩
 case round=>
  clear hd0 hd1 hcf hbx hp1 hb1
  obtain⟨i,at',hi,rfl,rfl,H0,H1,hb⟩:=hrel
  have hpr:=hp.below hb hq ‹b<w.heap.size› hA
  by_cases hi0:i=0
  ·subst hi0
   have h0:cntF fs (lower nm) 0≤didF fs done (lower nm):=by rw [Hd.out];exact H0.out
   go_wp2_with fail
   go_ret
   refine⟨?_,⟨hpr.blk,hpr.rd,(hpr.map.mono (Nat.le_succ n)).congr (did_miss fs done nm h0),hpr.ne,hpr.nb⟩,Frm.of_new hb⟩
   have h1:=pickAt_did fs done (lower nm)
   rw [pickAt_none _ _ _ h0]at h1
   rw [←h1];rfl
  ·obtain⟨m,rfl⟩: ∃m,i=m+1:=⟨i-1,by omega⟩
   clear hi0
   have hm:m<fs.length:=by omega
   have e1:((m+1:Nat):Int)-1=(m:Int):=by omega
   rw [e1]
   have m0:(0:Int)≤(m:Int):=by omega
   have m1:(m:Int)<(fs.length:Int):=by omega
   have hAe: ∃g off,A=some ⟨g,off,none⟩∧wr.cell? ⟨g,off+m,none⟩=some (Str fs[m]):=by
    obtain⟨A',c',he,_,hx⟩:=hpr.rd
    injection he with h1 _ _
    subst h1
    rcases hx with h0|⟨g,off,rfl,_,hx⟩
    ·have:=congrArg List.length h0
     rw [stL,List.length_nil]at this;omega
    ·exact⟨g,off,rfl,hx m _ (by simp [strs,hm])⟩
   obtain⟨g,off,rfl,hcell⟩:=hAe
   obtain⟨f,hfe⟩: ∃f,Hid (f=fs[m]):=⟨_,Lib.hid rfl⟩
   rw [←hfe.out]at hcell
   obtain⟨hfl,hfp⟩:=Hf.out f (by rw [hfe.out];exact List.getElem_mem hm)
   have Hfp:=Lib.hid hfp
   have hnl:=nmLen f
   have c0:=hpr.blk.cell 0 _ rfl
   have hstep:=cnt_step fs (lower nm) m hm
   rw [←hfe.out]at hstep
   have hBr:=hb.size
   clear e1 hfp
   go_wp2_with fail
   refine(parseHeaderField_any f _ (by omega) Hfp.out).mono ?_
   rintro e w2 ⟨rfl,hb2⟩
   go_wp2_with fail
   refine(zzEqualFold_any (name f) (lower nm) _ (by omega) (by omega) (plain_name Hfp.out) hpl).mono ?_
   rintro e w3 ⟨rfl,hb3⟩
   have hb23:Below w.heap.size wr w3:=(hb2.mono hBr).trans (hb3.mono (Nat.le_trans hBr hb2.size))
   have hbw:=hb.trans hb23
   have hp3:=hp.below hbw hq ‹b<w.heap.size› hA
   have hnam:(lower (name f)==lower (lower nm))=named (lower nm) f:=by rw [lower_lower];rfl
   rw [hnam]
   cases hnm2:named (lower nm) f with
   |true=>
    rw [if_pos hnm2]at hstep
    have Hstep:=Lib.hid hstep
    by_cases h0:cntF fs (lower nm) (m+1)=d
    ·have ha0:(at'==0)=true:=by rw [beq_iff_eq];have:=H1.out;omega
     have c1:=hp3.blk.cell 1 _ rfl
     have hlk:=run_mapI hp3.map (lower nm) (by omega)
     rw [Hd.out]at hlk
     have HN:=Lib.hid hnm2;have H00:=Lib.hid h0
     clear hstep hnm2 hnam h0 c0 hcell
     go_wp2_with (at_mapUpdate;refine mapI_inc rfl (.tmp 49) (.tmp 50) (.tmp 52) rfl rfl hp3.map (by omega) (lower nm) (by omega) rfl ?_ ?_;(· rw [Hd.out];rfl);intro w5 hm5 hg5)
     go_ret
     have h2:didF fs done (lower nm)<cntF fs (lower nm) 0:=by
      have:=cnt_mono fs (lower nm) 0 m
      rw [Nat.zero_add]at this
      have h1:=Hstep.out;have h3:=H00.out
      rw [Hd.out];omega
     refine⟨?_,⟨hp3.blk.grown hg5 (fun e=>hp3.ne (by injection e)),hp3.rd.kept hg5 (.inr hp3.nb),hm5.congr (did_hit fs done nm h2),hp3.ne,hp3.nb⟩,(Frm.of_new hbw).after (Frm.of_grown hg5) (fun k _ e=>by injection e)⟩
     rw [←pickAt_did,Hd.out,←H00.out,pickAt_rank fs (lower nm) m hm (by rw [←hfe.out];exact HN.out),←hfe.out]
     rfl
    ·have ha0:(at'==0)=false:=by rw [beq_eq_false_iff_ne];have:=H1.out;omega
     have ha1:(1:Int)≤at':=by have:=H0.out;have:=H1.out;omega
     have ha2:at'≤4294967296:=by have:=H1.out;omega
     have HN:=Lib.hid hnm2;have H00:=Lib.hid h0
     clear hstep hnm2 hnam h0 c0 hcell
     go_wp2_with fail
     go_roundw
     case rel=>exact⟨m,at'-1,by omega,rfl,rfl,by show _≤_;have h1:=Hstep.out;have h2:=H0.out;have h3:=H00.out;omega,by show _=_;have h1:=Hstep.out;have h2:=H1.out;omega,hbw⟩
     case measure=>simp [intOf];omega
   |false=>
    have h9: ¬(named (lower nm) f=true):=by rw [hnm2];decide
    rw [if_neg h9,Nat.add_zero]at hstep
    have Hstep:=Lib.hid hstep
    clear hstep hnm2 hnam h9 c0 hcell
    go_wp2_with fail
    go_roundw
    case rel=>exact⟨m,at',by omega,rfl,rfl,by show _≤_;rw [Hstep.out];exact H0.out,by show _=_;rw [Hstep.out];exact H1.out,hbw⟩
    case measure=>simp [intOf];omega
def RdT (w:World)(v:Value)(l:List Tag):Prop:=
 ∃A c,v= .slice A l.length c∧l.length≤c∧(l= []∨∃g off,A=some ⟨g,off,none⟩∧g<w.heap.size∧∀k,(h:k<l.length)→w.cell? ⟨g,off+k*2,none⟩=some (Str l[k].1)∧w.cell? ⟨g,off+k*2+1,none⟩=some (Str l[k].2))
theorem RdT.below {w w':World} {v:Value} {l:List Tag} (h:RdT w v l)(hb:Below w.heap.size w w'):RdT w' v l:=by
 obtain⟨A,c,rfl,hc,hx⟩:=h
 refine⟨A,c,rfl,hc,?_⟩
 rcases hx with hx|⟨g,off,rfl,hg,hk⟩
 ·exact .inl hx
 ·exact .inr ⟨g,off,rfl,Nat.lt_of_lt_of_le hg hb.size,fun k h=>⟨bcell hb (hk k h).1,bcell hb (hk k h).2⟩⟩
theorem look_at (k:BS)(l:List Tag)(i:Nat)(h:i<l.length)(hn: ∀j,(hj:j<i)→l[j].1≠k)(hk:l[i].1=k):look k l=some l[i].2:=by
 induction l generalizing i with
 |nil=>simp at h
 |cons t r ih=>
  cases i with
  |zero=>simp at hk;simp [look,hk]
  |succ i=>
   have h0:t.1≠k:=hn 0 (by omega)
   have:=ih i (by simpa using h) (fun j hj=>hn (j+1) (by omega)) (by simpa using hk)
   simp [look,h0,this]
theorem look_none (k:BS)(l:List Tag)(hn: ∀j,(hj:j<l.length)→l[j].1≠k):look k l=none:=by
 induction l with
 |nil=>rfl
 |cons t r ih=>
  have h0:t.1≠k:=hn 0 (by simp)
  simp [look,h0,ih (fun j hj=>hn (j+1) (by simpa using hj))]
theorem dValue_any (l:List Tag)(k:BS)(v:Value)(w:World)(hv:RdT w v l)(hl:l.length≤4294967296):
 Calls Tryz.prog 71 #[v,Str k] w fun e w'=>e= .returned (.tuple #[Str ((look k l).getD []), .bool (look k l).isSome])∧w=w':=by
 obtain⟨A,c,rfl,hc,hx⟩:=hv
 have Hx:=Lib.hid hx;clear hx
 go_enter Tryz.func71,Tryz.ntmps71
 go_wp2
 go_loop [6] (fun i=> ∃j:Nat,j≤l.length∧i= .int .i64 j∧Hid (∀q,(hq:q<j)→(hq2:q<l.length)→l[q].1≠k)) (fun i=>l.length-(intOf i).toNat)
 case atStart=>exact⟨0,Nat.zero_le _,rfl,fun q hq=>by omega⟩
 case round=>
  obtain⟨j,hj,rfl,H⟩:=hrel
  by_cases hlt:j<l.length
  ·obtain⟨g,off,rfl,hg,hcell⟩:=Hx.out.resolve_left (by intro e;subst e;simp at hlt)
   obtain⟨x1,x2⟩:=hcell j hlt
   have hj0:(0:Int)≤(j:Int):=by omega
   have hj1:(j:Int)<(l.length:Int):=by omega
   clear hcell
   cases hq:(l[j].1==k)with
   |true=>
    have F:Hid (look k l=some l[j].2):=look_at k l j hlt (fun q hq=>H.out q hq (by omega)) (by simpa using hq)
    go_wp2
    go_ret2
    exact⟨by rw [F.out];rfl,rfl⟩
   |false=>
    have Hq:Hid (l[j].1≠k):=by simpa [Hid]using hq
    go_wp2
    go_round
    case rel=>exact⟨j+1,by omega,by go_num,fun q hq hq2=>by
     by_cases e:q=j
     ·subst e;exact Hq.out
     ·exact H.out q (by omega) hq2⟩
    case measure=>simp [intOf];omega
  ·have F:Hid (look k l=none):=look_none k l (fun q hq=>H.out q (by omega) hq)
   go_wp2
   go_ret2
   exact⟨by rw [F.out];rfl,rfl⟩
theorem dEnds_any (a b:BS)(w:World)(ha:a.length≤4294967296)(hb:b.length≤4294967296):
 Calls Tryz.prog 72 #[Str a,Str b] w fun e w'=>e= .returned (.bool (decide (b.length≤a.length)&&a.drop (a.length-b.length)==b))∧w=w':=by
 by_cases h:b.length≤a.length
 ·have h1:(b.length:Int)≤(a.length:Int):=by omega
  have h2:((a.length:Int)-(b.length:Int)).toNat=a.length-b.length:=by omega
  have h3:(0:Int)≤(a.length:Int)-(b.length:Int):=by omega
  have h4:IntKind.i64.wrap ((a.length:Int)-(b.length:Int))=(a.length:Int)-(b.length:Int):=by rw [IntKind.wrap_i64];omega
  have F:Hid ((decide (b.length≤a.length)&&a.drop (a.length-b.length)==b)=(a.drop (a.length-b.length)==b)):=by show _=_;simp [h]
  go_enter Tryz.func72,Tryz.ntmps72
  go_wp2
  go_ret
  exact⟨by rw [F.out];rfl,rfl⟩
 ·have h1: ¬(b.length:Int)≤(a.length:Int):=by omega
  have F:Hid ((decide (b.length≤a.length)&&a.drop (a.length-b.length)==b)=false):=by show _=_;simp [h]
  go_enter Tryz.func72,Tryz.ntmps72
  go_wp2
  go_ret
  exact⟨rfl,rfl⟩
def Rec1 (w:World)(v:Value)(nm text:BS):Prop:=
 ∃g off c g2 off2 c2,v= .slice (some ⟨g,off,none⟩) 1 c∧w.cell? ⟨g,off,none⟩=some (Str nm)∧w.cell? ⟨g,off+1,none⟩=some (.slice (some ⟨g2,off2,none⟩) 1 c2)∧
  w.cell? ⟨g,off+2,none⟩=some (.bool false)∧w.cell? ⟨g,off+3,none⟩=some (.bool false)∧w.cell? ⟨g2,off2,none⟩=some (Str text)
theorem Rec1.below {w w':World} {v:Value} {nm text:BS} (h:Rec1 w v nm text)(hb:Below w.heap.size w w'):Rec1 w' v nm text:=by
 obtain⟨g,off,c,g2,off2,c2,rfl,h0,h1,h2,h3,h4⟩:=h
 exact⟨g,off,c,g2,off2,c2,rfl,bcell hb h0,bcell hb h1,bcell hb h2,bcell hb h3,bcell hb h4⟩
theorem dAsk_one (v:Value)(nm text:BS)(w:World)(h:Rec1 w v nm text):
 Calls Tryz.prog 76 #[v,Str nm] w fun e w'=>e= .returned (.tuple #[Str text, .int .i64 0])∧Below w.heap.size w w':=by
 obtain⟨g,off,c,g2,off2,c2,rfl,h0,h1,h2,h3,h4⟩:=h
 have hb0:=Below.refl w.heap.size w
 have h4': ∀o:Obj,(w.alloc o).cell? ⟨g2,off2,none⟩=some (Str text):=fun o=>bcell ((Below.refl _ _).alloc (Nat.le_refl _) o) h4
 have hb1: ∀o:Obj,Below w.heap.size w (w.alloc o):=fun o=>(Below.refl _ _).alloc (Nat.le_refl _) o
 go_enter Tryz.func76,Tryz.ntmps76
 go_wp2
 go_loopw [6] (fun i wr=>i= .int .i64 0∧wr=w) (fun _ _=>0)
 case atStart=>exact⟨rfl,rfl⟩
 case round=>
  obtain⟨rfl,rfl⟩:=hrel
  go_wp2
  go_ret2
  exact⟨rfl,hb1 _⟩
theorem dAsk_none (nm:BS)(w:World):
 Calls Tryz.prog 76 #[.slice none 0 0,Str nm] w fun e w'=>e= .returned (.tuple #[Str [], .int .i64 2])∧w=w':=by
 go_enter Tryz.func76,Tryz.ntmps76
 go_wp2
 go_loop [6] (fun i=>i= .int .i64 0) (fun _=>0)
 case atStart=>rfl
 case round=>
  subst hrel
  go_wp2
  go_ret2
  exact⟨rfl,rfl⟩
def knownB (s:BS):Bool:=s==simpleS||s==relaxedS
theorem known_any (s:BS)(w:World):Calls Tryz.prog 103 #[Str s] w fun e w'=>e= .returned (.bool (knownB s))∧w=w':=by
 cases h1:(s== [115,105,109,112,108,101])with
 |true=>
  have F:Hid (knownB s=true):=by show _=_;unfold knownB simpleS;rw [h1];rfl
  go_enter Tryz.func103,Tryz.ntmps103
  go_wp2
  go_ret
  exact⟨by rw [F.out];rfl,rfl⟩
 |false=>
  cases h2:(s== [114,101,108,97,120,101,100])with
  |true=>
   have F:Hid (knownB s=true):=by show _=_;unfold knownB simpleS relaxedS;rw [h1,h2];rfl
   go_enter Tryz.func103,Tryz.ntmps103
   go_wp2
   go_ret
   exact⟨by rw [F.out];rfl,rfl⟩
  |false=>
   have F:Hid (knownB s=false):=by show _=_;unfold knownB simpleS relaxedS;rw [h1,h2];rfl
   go_enter Tryz.func103,Tryz.ntmps103
   go_wp2
   go_ret
   exact⟨by rw [F.out];rfl,rfl⟩
theorem dFormsOf_two (l a b:BS)(w:World)(hs:l.length≤4294967296)(hc:cutAt 47 (strip l)=(a,b,true))(ha:knownB a=true)(hb:knownB b=true):
 Calls Tryz.prog 78 #[Str l] w fun e w'=>e= .returned (.tuple #[Str a,Str b, .bool true])∧Below w.heap.size w w':=by
 have Hc:=Lib.hid hc;clear hc
 have hne:(a== [])=false:=by
  cases a with
  |nil=>revert ha;decide
  |cons=>rfl
 have Ha:=Lib.hid ha;have Hb:=Lib.hid hb;clear ha hb
 have tok:True:=trivial
 have hsl:=strip_len l
 go_enter Tryz.func78,Tryz.ntmps78
 go_wp2_with (first
  |(go_at_call 29;refine(dStrip_any l _ hs).mono ?_;rintro e w1 ⟨rfl,hb1⟩)
  |(go_at_call 41;refine(dCut_any (strip l) 47 _ (by omega)).mono ?_;rintro e w2 ⟨rfl,hb2⟩;rw [Hc.out];simp only [])
  |(go_at_call 103;have _t:=tok;refine(known_any a _).mono ?_;rintro e w3 ⟨rfl,rfl⟩;rw [Ha.out];clear tok)
  |(go_at_call 103;refine(known_any b _).mono ?_;rintro e w3 ⟨rfl,rfl⟩;rw [Hb.out]))
 go_ret3
 exact⟨rfl,hb1.trans (hb2.mono hb1.size)⟩
end Go.Proofs.YtgilnagajcfkpaaGreatDoor
