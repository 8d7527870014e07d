import Derived.Lib.ItoaNum
import Derived.Lib.AtoiTie
import Derived.Lib.ParseIntBTie
import Derived.Lib.FieldsP
import Derived.Lib.Join
import Derived.Laws.RangeString
import Derived.Test.YtgilnagajcfkpaaGreatDoorQ00
set_option maxHeartbeats 4000000
set_option maxRecDepth 1000000
set_option linter.all false
namespace Go.Proofs.YtgilnagajcfkpaaGreatDoor
structure Opt where
 dom:BS
 sel:BS
 ident:BS
 kind:BS
 key:BS
 hdr:BS
 bdy:BS
 keys:List BS
 all:Bool
 exp:Nat
 now:Nat
def formOf (s:BS):BS:=if s= []then simpleS else s
def namesOf (o:Opt)(F:List BS):List BS:=if o.all then F.map name else o.keys
def joinC:List BS→BS
 | []=> []
 | [a]=>a
 |a::r=>a++ [58]++joinC r
def sha256S:BS:= [45,115,104,97,50,53,54]
def optTags (o:Opt)(nm:List BS)(bh:BS):List Tag:=
 [([97],o.kind++sha256S),([98,104],bh),([99],formOf o.hdr++ [47]++formOf o.bdy),([100],o.dom),([104],joinC nm)]++(if o.ident= []then []else [([105],o.ident)])++
   [([115],o.sel),([116],Lib.decDigits o.now),([118],[49])]++(if o.exp=0 then []else [([120],Lib.decDigits o.exp)])
def allOf (form:BS)(F nm:List BS):BS:=((picked F nm).map fun f=>if f= []then []else fieldOf form f).flatten
def bhOf (o:Opt)(body:BS):BS:=enc64 (sha (bodyOf (formOf o.bdy) body))
def optT (o:Opt)(F:List BS)(body:BS):List Tag:=optTags o (namesOf o F) (bhOf o body)
def sigOf (o:Opt)(F:List BS)(body:BS):BS:=
 sha (o.key++sha (allOf (formOf o.hdr) F (namesOf o F)++without (fieldOf (formOf o.hdr) (sigField (optT o F body) []))))
def signed (o:Opt)(F:List BS)(body:BS):BS:=sigField (optT o F body) (enc64 (sigOf o F body))
def dry (l:BS):Prop:= ∀c∈l,blank c=false
theorem strip_dry {l:BS} (h:dry l):strip l=l:=by unfold strip;rw [List.filter_eq_self];intro c hc;rw [h c hc];rfl
theorem dropWhile_dry {l:BS} (h:dry l):l.dropWhile blank=l:=by
 cases l with
 |nil=>rfl
 |cons c r=>rw [List.dropWhile_cons,if_neg (by rw [h c (by simp)];decide)]
theorem trim_dry {l:BS} (h:dry l):trim l=l:=by
 unfold trim rtrim
 rw [dropWhile_dry h,dropWhile_dry (l:=l.reverse) (fun c hc=>h c (by simpa using hc)),List.reverse_reverse]
theorem dry_app {a b:BS} :dry (a++b)↔dry a∧dry b:=by
 unfold dry;constructor
 ·intro h;exact⟨fun c hc=>h c (by simp [hc]),fun c hc=>h c (by simp [hc])⟩
 ·rintro⟨h1,h2⟩ c hc;rcases List.mem_append.1 hc with hc|hc
  ·exact h1 c hc
  ·exact h2 c hc
theorem dry_nil:dry []:=by simp [dry]
theorem dry_enc (x:BS):dry (enc64 x):=fun c hc=>(enc_all x c hc).1
structure Word (l:BS):Prop where
 dry:dry l
 semi:59∉l
theorem Word.app {a b:BS} (h:Word a)(k:Word b):Word (a++b):=⟨dry_app.2 ⟨h.dry,k.dry⟩,by simp [h.semi,k.semi]⟩
theorem word_enc (x:BS):Word (enc64 x):=⟨dry_enc x,fun h=>(enc_all x 59 h).2.1 rfl⟩
theorem word_of {l:BS} (h:l.all (fun c=> !blank c&&c !=59)=true):Word l:=by
 rw [List.all_eq_true]at h
 refine⟨fun c hc=> ?_,fun hc=> ?_⟩
 ·have:=h c hc;simp at this;exact this.1
 ·have:=h 59 hc;simp at this
theorem word_joinC: ∀l:List BS,(∀x∈l,Word x)→Word (joinC l)
 | [],_=>⟨dry_nil,by simp [joinC]⟩
 | [a],h=>by rw [joinC];exact h a (by simp)
 |a::b::r,h=>by
  rw [joinC]
  ·exact((h a (by simp)).app (word_of rfl)).app (word_joinC (b::r) fun x hx=>h x (by simp [hx]))
  ·simp
theorem splitAt_joinC: ∀l:List BS,l≠ []→(∀x∈l,58∉x)→splitAt 58 (joinC l)=l
 | [],h,_=>absurd rfl h
 | [a],_,h=>by rw [joinC];exact splitAt_one _ _ (h a (by simp))
 |a::b::r,_,h=>by
  rw [joinC,List.append_assoc,List.singleton_append,splitAt_app _ _ _ (h a (by simp)),splitAt_joinC (b::r) (by simp) fun x hx=>h x (by simp [hx])]
  simp
def digitB (c:UInt8):Bool:=decide (48≤c.toNat)&&decide (c.toNat≤57)
def numOf (l:BS):Nat:=l.foldl (fun n c=>n*10+(c.toNat-48)) 0
theorem digit_nat (d:Nat)(h:d<10):(UInt8.ofNat (48+d)).toNat=48+d:=by rw [UInt8.toNat_ofNat'];omega
theorem dec_digits (n:Nat): ∀c∈Lib.decDigits n,digitB c=true:=by
 induction n using Nat.strongRecOn with
 |_ n ih=>
  rw [Lib.decDigits]
  intro c hc
  split at hc
  ·obtain rfl:=List.mem_singleton.1 hc
   unfold digitB;rw [digit_nat _ (by omega)];simp;omega
  ·rcases List.mem_append.1 hc with hc|hc
   ·exact ih (n/10) (by omega) c hc
   ·obtain rfl:=List.mem_singleton.1 hc
    unfold digitB;rw [digit_nat _ (by omega)];simp;omega
theorem dec_num (n:Nat):numOf (Lib.decDigits n)=n:=by
 induction n using Nat.strongRecOn with
 |_ n ih=>
  rw [Lib.decDigits]
  split
  ·unfold numOf;rw [List.foldl_cons,List.foldl_nil,digit_nat _ (by omega)];omega
  ·have:=ih (n/10) (by omega)
   unfold numOf at this⊢
   rw [List.foldl_append,this,List.foldl_cons,List.foldl_nil,digit_nat _ (by omega)];omega
theorem dec_ne (n:Nat):Lib.decDigits n≠ []:=by rw [Lib.decDigits];split<;>simp
theorem dec_len (k:Nat): ∀n,n<10^(k+1)→(Lib.decDigits n).length≤k+1:=by
 induction k with
 |zero=>intro n h;rw [Lib.decDigits,dif_pos (by omega)];simp
 |succ k ih=>
  intro n h
  rw [Lib.decDigits]
  split
  ·simp
  ·have:=ih (n/10) (by rw [Nat.pow_succ]at h;omega)
   simp;omega
theorem dec_from (n:Nat): ∀acc,Lib.decFrom acc (Lib.decDigits n)=some (acc*10^(Lib.decDigits n).length+n):=by
 have key: ∀(l:BS) (acc:Nat),(∀c∈l,digitB c=true)→Lib.decFrom acc l=some (l.foldl (fun n c=>n*10+(c.toNat-48)) acc):=by
  intro l
  induction l with
  |nil=>intro acc _;rfl
  |cons c r ih=>
   intro acc h
   have hc:=h c (by simp)
   simp only [digitB,Bool.and_eq_true,decide_eq_true_eq]at hc
   rw [Lib.decFrom,Lib.digitVal,if_pos hc]
   simp only [List.foldl_cons]
   exact ih _ fun d hd=>h d (by simp [hd])
 have lin: ∀(l:BS) (acc:Nat),l.foldl (fun n c=>n*10+(c.toNat-48)) acc=acc*10^l.length+l.foldl (fun n c=>n*10+(c.toNat-48)) 0:=by
  intro l
  induction l with
  |nil=>intro acc;simp
  |cons c r ih=>
   intro acc
   rw [List.foldl_cons,List.foldl_cons,ih,ih (0*10+(c.toNat-48)),List.length_cons,Nat.pow_succ,Nat.add_mul]
   have e:acc*10*10^r.length=acc*(10^r.length*10):=by rw [Nat.mul_assoc,Nat.mul_comm 10]
   rw [e];simp only [Nat.zero_mul,Nat.zero_add];omega
 intro acc
 rw [key _ _ (dec_digits n),lin]
 have:=dec_num n
 unfold numOf at this;rw [this]
theorem dec_parse (n:Nat)(h:n<9007199254740992):Lib.parseIntB 64 (Lib.decDigits n)= .ok n:=by
 have hl:(Lib.decDigits n).length≤16:=dec_len 15 n (by omega)
 rw [Lib.parseIntB_64,Lib.atoiAll_short _ (by omega)]
 have hd:=dec_digits n
 have hf:=dec_from n 0
 have hne:=dec_ne n
 cases hc:Lib.decDigits n with
 |nil=>exact absurd hc hne
 |cons c r=>
  rw [hc]at hd hf
  have h0:=hd c (by simp)
  simp only [digitB,Bool.and_eq_true,decide_eq_true_eq]at h0
  rw [Nat.zero_mul,Nat.zero_add]at hf
  have:Lib.atoi (c::r)=some (n:Int):=by
   unfold Lib.atoi Lib.decNat
   have h45: ¬c=45:=fun e=>by subst e;exact absurd h0.1 (by decide)
   have h43: ¬c=43:=fun e=>by subst e;exact absurd h0.1 (by decide)
   simp [hf,h45,h43]
  rw [this];rfl
theorem word_dec (n:Nat):Word (Lib.decDigits n):=by
 apply word_of
 rw [List.all_eq_true]
 intro c hc
 have:=dec_digits n c hc
 simp only [digitB,Bool.and_eq_true,decide_eq_true_eq]at this
 have key: ∀c:UInt8,48≤c.toNat→c.toNat≤57→(!blank c&&c !=59)=true:=by
  intro c h1 h2
  simp only [blank,Bool.and_eq_true,Bool.not_eq_true',Bool.or_eq_false_iff,beq_eq_false_iff_ne,bne_iff_ne,ne_eq,←UInt8.toNat_inj]
  have e9:(9:UInt8).toNat=9:=rfl
  have e10:(10:UInt8).toNat=10:=rfl
  have e13:(13:UInt8).toNat=13:=rfl
  have e32:(32:UInt8).toNat=32:=rfl
  have e59:(59:UInt8).toNat=59:=rfl
  omega
 exact key c this.1 this.2
def rsaS:BS:= [114,115,97]
def edS:BS:= [101,100,50,53,53,49,57]
def dkimS:BS:= [100,107,105,109,45,115,105,103,110,97,116,117,114,101]
def fromS:BS:= [102,114,111,109]
def joeS:BS:= [106,111,101,64,115,117,98,46]
def look (k:BS):List Tag→Option BS
 | []=>none
 |t::r=>if t.1=k then some t.2 else look k r
structure WordN (l:BS):Prop where
 word:Word l
 ne:l≠ []
 c58:58∉l
 c61:61∉l
structure OptOk (o:Opt):Prop where
 dom:WordN o.dom
 sel:WordN o.sel
 keys: ∀k∈o.keys,WordN k∧lower k≠dkimS
 ident:o.ident= []∨o.ident= [64]++o.dom∨o.ident=joeS++o.dom
 kind:(o.kind=edS∧o.key.length=32)∨(o.kind=rsaS∧128≤o.key.length)
 hdr:o.hdr= []∨o.hdr=simpleS∨o.hdr=relaxedS
 bdy:o.bdy= []∨o.bdy=simpleS∨o.bdy=relaxedS
 time:o.exp=0∨o.now≤o.exp
 now:o.now<8589934592
 exp:o.exp<8589934592
 key:o.key.length≤1000
 nkeys:o.keys.length≤20
 lens:o.dom.length≤200∧o.sel.length≤200∧o.ident.length≤200∧∀k∈o.keys,k.length≤200
 plain:plain o.dom=true∧plain o.sel=true∧plain o.ident=true∧∀k∈o.keys,plain k=true
theorem OptOk.hform {o:Opt} (h:OptOk o):formOf o.hdr=simpleS∨formOf o.hdr=relaxedS:=by
 rcases h.hdr with e|e|e<;>rw [e]<;>decide
theorem OptOk.bform {o:Opt} (h:OptOk o):formOf o.bdy=simpleS∨formOf o.bdy=relaxedS:=by
 rcases h.bdy with e|e|e<;>rw [e]<;>decide
theorem OptOk.kinds {o:Opt} (h:OptOk o):o.kind=edS∨o.kind=rsaS:=by
 rcases h.kind with e|e
 ·exact .inl e.1
 ·exact .inr e.1
theorem OptOk.wident {o:Opt} (h:OptOk o):Word o.ident:=by
 rcases h.ident with e|e|e<;>rw [e]
 ·exact word_of rfl
 ·exact(word_of rfl).app h.dom.word
 ·exact(word_of rfl).app h.dom.word
structure NamesOk (nm:List BS):Prop where
 ne:nm≠ []
 all: ∀x∈nm,WordN x∧lower x≠dkimS
 plain: ∀x∈nm,plain x=true
 from_: ∃x∈nm,lower x=fromS
theorem neat_of {k v:BS} (hk:k.all (fun c=> !blank c&&c !=59&&c !=61)=true)(hv:Word v):Neat (k,v):=by
 rw [List.all_eq_true]at hk
 have hd:dry k:=fun c hc=>by have:=hk c hc;simp only [Bool.and_eq_true,Bool.not_eq_true']at this;exact this.1.1
 exact⟨fun h=>by have:=hk 59 h;simp at this,fun h=>by have:=hk 61 h;simp at this,hv.semi,trim_dry hd,trim_dry hv.dry⟩
theorem word_form {s:BS} (h:formOf s=simpleS∨formOf s=relaxedS):Word (formOf s):=by
 rcases h with e|e<;>rw [e]<;>exact word_of rfl
theorem word_kind {s:BS} (h:s=edS∨s=rsaS):Word s:=by
 rcases h with e|e<;>rw [e]<;>exact word_of rfl
theorem neat_tags {o:Opt} {nm:List BS} {bh:BS} (ho:OptOk o)(hn:NamesOk nm)(hb:Word bh): ∀t∈optTags o nm bh,Neat t:=by
 have h1:Word (o.kind++sha256S):=(word_kind ho.kinds).app (word_of rfl)
 have h2:Word (formOf o.hdr++ [47]++formOf o.bdy):=((word_form ho.hform).app (word_of rfl)).app (word_form ho.bform)
 have h3:Word (joinC nm):=word_joinC nm fun x hx=>(hn.all x hx).1.word
 intro t ht
 unfold optTags at ht
 simp only [List.mem_append,List.mem_cons,List.not_mem_nil,or_false]at ht
 rcases ht with((ht|ht)|ht)|ht
 ·rcases ht with rfl|rfl|rfl|rfl|rfl
  ·exact neat_of rfl h1
  ·exact neat_of rfl hb
  ·exact neat_of rfl h2
  ·exact neat_of rfl ho.dom.word
  ·exact neat_of rfl h3
 ·split at ht
  ·simp at ht
  ·obtain rfl:=List.mem_singleton.1 ht;exact neat_of rfl ho.wident
 ·rcases ht with rfl|rfl|rfl
  ·exact neat_of rfl ho.sel.word
  ·exact neat_of rfl (word_dec _)
  ·exact neat_of rfl (word_of rfl)
 ·split at ht
  ·simp at ht
  ·obtain rfl:=List.mem_singleton.1 ht;exact neat_of rfl (word_dec _)
theorem trim_ends {core:BS} (c d:UInt8)(h1:core.head?=some c)(h2:core.getLast?=some d)(hc:blank c=false)(hd:blank d=false):trim core=core:=by
 unfold trim rtrim
 have e1:core.dropWhile blank=core:=by
  cases core with
  |nil=>rfl
  |cons x r=>simp at h1;subst h1;rw [List.dropWhile_cons,if_neg (by rw [hc];decide)]
 rw [e1]
 have e2:core.reverse.dropWhile blank=core.reverse:=by
  rw [←List.head?_reverse]at h2
  cases hr:core.reverse with
  |nil=>rfl
  |cons x r=>rw [hr]at h2;simp at h2;subst h2;rw [List.dropWhile_cons,if_neg (by rw [hd];decide)]
 rw [e2,List.reverse_reverse]
theorem zip_snd (seps:List BS): ∀(T:List Tag),seps.length=T.length→(List.zipWith (fun s t=>((s++ [32],t):BS×Tag)) seps T).map (·.2)=T:=by
 induction seps with
 |nil=>intro T h;cases T with|nil=>rfl|cons=>simp at h
 |cons s r ih=>
  intro T h
  cases T with
  |nil=>simp at h
  |cons t u=>simp only [List.zipWith_cons_cons,List.map_cons];rw [ih u (by simpa using h)]
theorem zip_mem (seps:List BS): ∀(T:List Tag),(∀s∈seps,s= []∨s=crlf)→(∀t∈T,Neat t)→∀x∈List.zipWith (fun s t=>((s++ [32],t):BS×Tag)) seps T,blanks x.1∧Neat x.2:=by
 induction seps with
 |nil=>intro T _ _ x hx;simp at hx
 |cons s r ih=>
  intro T hs hT x hx
  cases T with
  |nil=>simp at hx
  |cons t u=>
   simp only [List.zipWith_cons_cons,List.mem_cons]at hx
   rcases hx with rfl|hx
   ·refine⟨?_,hT t (by simp)⟩
    rcases hs s (by simp)with rfl|rfl
    ·intro c hc;simp at hc;subst hc;rfl
    ·intro c hc;simp [crlf]at hc;rcases hc with rfl|rfl|rfl<;>rfl
   ·exact ih u (fun y hy=>hs y (by simp [hy])) (fun y hy=>hT y (by simp [hy])) x hx
theorem tags_keys (o:Opt)(nm:List BS)(bh:BS):((optTags o nm bh).map (fun t:Tag=>t.1)++ [[98]]).Nodup:=by
 unfold optTags
 by_cases h1:o.ident= []<;>by_cases h2:o.exp=0<;>simp only [h1,h2,if_true,if_false,List.map_append,List.map_cons,List.map_nil,List.cons_append,List.nil_append]<;>decide
theorem tags_first (o:Opt)(nm:List BS)(bh:BS): ∃v r,optTags o nm bh=([97],v)::r:=⟨_,_,by unfold optTags;rfl⟩
theorem blanks_crlf:blanks crlf:=by intro c hc;simp [crlf]at hc;rcases hc with rfl|rfl<;>rfl
theorem blanks_sp:blanks (crlf++ [32]):=by intro c hc;simp [crlf]at hc;rcases hc with rfl|rfl|rfl<;>rfl
theorem pmap_signed {o:Opt} {nm:List BS} {bh b:BS} (ho:OptOk o)(hn:NamesOk nm)(hb:Word bh)(hw:Word b):
 (cutAt 58 (sigField (optTags o nm bh) b)).1=sigName∧pmap (trim (cutAt 58 (sigField (optTags o nm bh) b)).2.1)=some (optTags o nm bh++ [([98],b)]):=by
 obtain⟨seps,h1,h2,h3⟩:=sigField_eq (optTags o nm bh) b
 have hN:=neat_tags (bh:=bh) ho hn hb
 have hK:=tags_keys o nm bh
 obtain⟨v,r,hT⟩:=tags_first o nm bh
 rw [hT]at h1 h3 hN hK⊢
 cases seps with
 |nil=>simp at h1
 |cons s rs=>
  have hl:rs.length=r.length:=by simpa using h1
  have e0:=cutAt_app 58 sigName (sigValue (s::rs) (([97],v)::r) b) (by decide)
  rw [h3 b,e0]
  refine⟨rfl,?_⟩
  have hs:blanks (s++ [32]):=(zip_mem [s] [([97],v)] (fun x hx=>h2 x (by simp at hx;simp [hx])) (fun t ht=>hN t (by simp at ht;simp [ht])) _ (by simp;rfl)).1
  have eV:sigValue (s::rs) (([97],v)::r) b=(s++ [32])++((wtags (([],([97],v))::List.zipWith (fun s t=>(s++ [32],t)) rs r)++(crlf++ [32]++ [98]++ [61]++b))++crlf):=by
   unfold sigValue;simp [wtags,List.append_assoc]
  rw [eV,trim_left _ _ hs,trim_right _ _ blanks_crlf]
  have hcore:trim (wtags (([],([97],v))::List.zipWith (fun s t=>(s++ [32],t)) rs r)++(crlf++ [32]++ [98]++ [61]++b))=wtags (([],([97],v))::List.zipWith (fun s t=>(s++ [32],t)) rs r)++(crlf++ [32]++ [98]++ [61]++b):=by
   by_cases hbn:b= []
   ·subst hbn
    refine trim_ends 97 61 ?_ ?_ rfl rfl
    ·simp [wtags]
    ·simp [List.getLast?_append]
   ·obtain⟨q,d,rfl⟩:=eq_snoc b hbn
    refine trim_ends 97 d ?_ ?_ rfl (hw.dry d (by simp))
    ·simp [wtags]
    ·rw [←List.append_assoc,←List.append_assoc,List.getLast?_append];rfl
  rw [hcore]
  have key:=pmap_wtags (([],([97],v))::List.zipWith (fun s t=>(s++ [32],t)) rs r) (crlf++ [32]) [] ([98],b) ?_ blanks_sp (by intro c hc;simp at hc) (neat_of rfl hw) ?_
  ·simp only [List.map_cons,zip_snd rs r hl,List.append_nil]at key
   rw [show crlf++ [32]++ [98]++ [61]++b=crlf++ [32]++([98],b).1++ [61]++([98],b).2 from rfl,key]
  ·intro x hx
   rcases List.mem_cons.1 hx with rfl|hx
   ·exact⟨by intro c hc;simp at hc,hN _ (by simp)⟩
   ·exact zip_mem rs r (fun y hy=>h2 y (by simp [hy])) (fun t ht=>hN t (by simp [ht])) x hx
  ·have:(List.zipWith (fun s t=>((s++ [32],t):BS×Tag)) rs r).map (fun x=>x.2.1)=r.map (·.1):=by
    rw [show(fun x:BS×Tag=>x.2.1)=(fun t:Tag=>t.1)∘(fun x:BS×Tag=>x.2)from rfl,←List.map_map,zip_snd rs r hl]
   simp only [List.map_cons,this]
   simpa using hK
structure SigTags (L:List Tag)(o:Opt)(nm:List BS)(bh b:BS):Prop where
 v:look [118] L=some [49]
 a:look [97] L=some (o.kind++sha256S)
 b:look [98] L=some b
 bh:look [98,104] L=some bh
 c:look [99] L=some (formOf o.hdr++ [47]++formOf o.bdy)
 d:look [100] L=some o.dom
 h:look [104] L=some (joinC nm)
 s:look [115] L=some o.sel
 i:look [105] L=if o.ident= []then none else some o.ident
 t:look [116] L=some (Lib.decDigits o.now)
 x:look [120] L=if o.exp=0 then none else some (Lib.decDigits o.exp)
 q:look [113] L=none
 l:look [108] L=none
theorem sigTags_p (o:Opt)(nm:List BS)(bh b:BS):SigTags (optTags o nm bh++ [([98],b)]) o nm bh b:=by
 unfold optTags
 by_cases h1:o.ident= []<;>by_cases h2:o.exp=0<;>constructor<;>simp [h1,h2,look]
theorem sigTags_r (o:Opt)(nm:List BS)(bh b:BS):SigTags ((optTags o nm bh).take 1++ [([98],b)]++(optTags o nm bh).drop 1) o nm bh b:=by
 unfold optTags
 by_cases h1:o.ident= []<;>by_cases h2:o.exp=0<;>constructor<;>simp [h1,h2,look]
def lname (f:BS):BS:=lower (name f)
def named (nm:BS)(f:BS):Bool:=lname f==nm
def pickAt (fs:List BS)(nm:BS)(c:Nat):BS:=(fs.filter (named nm)).reverse.getD c []
def countIn (nm:BS)(l:List BS):Nat:=(l.filter fun x=>lower x==nm).length
def pickedC (fs:List BS):List BS→List BS→List BS
 |_,[]=> []
 |done,nm::r=>pickAt fs (lower nm) (countIn (lower nm) done)::pickedC fs (done++ [nm]) r
def cntF (fs:List BS)(nm:BS)(n:Nat):Nat:=((fs.drop n).filter (named nm)).length
theorem cnt_step (fs:List BS)(nm:BS)(n:Nat)(h:n<fs.length):cntF fs nm n=cntF fs nm (n+1)+if named nm fs[n]then 1 else 0:=by
 unfold cntF
 rw [List.drop_eq_getElem_cons h,List.filter_cons]
 split<;>simp
theorem cnt_mono (fs:List BS)(nm:BS)(n:Nat): ∀d,cntF fs nm (n+d)≤cntF fs nm n
 |0=>Nat.le_refl _
 |d+1=>by
  refine Nat.le_trans ?_ (cnt_mono fs nm n d)
  by_cases h:n+d<fs.length
  ·have:=cnt_step fs nm (n+d) h
   rw [show n+(d+1)=n+d+1 by omega];omega
  ·unfold cntF;rw [List.drop_eq_nil_of_le (by omega),List.drop_eq_nil_of_le (by omega)];exact Nat.le_refl _
theorem pickAt_rank (fs:List BS)(nm:BS)(k:Nat)(h:k<fs.length)(hm:named nm fs[k]=true):pickAt fs nm (cntF fs nm (k+1))=fs[k]:=by
 unfold pickAt
 have e:fs.filter (named nm)=(fs.take k).filter (named nm)++([fs[k]]++(fs.drop (k+1)).filter (named nm)):=by
  conv=>lhs;rw [←List.take_append_drop k fs,List.filter_append,List.drop_eq_getElem_cons h,List.filter_cons,if_pos hm]
  rfl
 rw [e,List.reverse_append,List.reverse_append,List.append_assoc,List.getD_eq_getElem?_getD,List.getElem?_append_right (by simp [cntF])]
 simp [cntF]
theorem pickAt_none (fs:List BS)(nm:BS)(c:Nat)(h:cntF fs nm 0≤c):pickAt fs nm c= []:=by
 unfold pickAt
 rw [List.getD_eq_getElem?_getD,List.getElem?_eq_none (by unfold cntF at h;simpa using h)];rfl
def UsedOk (fs:List BS)(used:List Bool)(done:List BS):Prop:=
 used.length=fs.length∧∀k,(h:k<fs.length)→used.getD k true=decide (cntF fs (lname fs[k]) (k+1)<countIn (lname fs[k]) done)
theorem find_rank (fs:List BS)(used:List Bool)(done:List BS)(nm:BS)(hu:UsedOk fs used done): ∀n,n≤fs.length→cntF fs (lower nm) n≤countIn (lower nm) done→
 (findDown (pickP fs used nm) n=none∧cntF fs (lower nm) 0≤countIn (lower nm) done)∨∃k,∃h:k<fs.length,findDown (pickP fs used nm) n=some k∧named (lower nm) fs[k]=true∧cntF fs (lower nm) (k+1)=countIn (lower nm) done
 |0,_,hc=> .inl ⟨rfl,hc⟩
 |n+1,hn,hc=>by
  have hn':n<fs.length:=by omega
  have hs:=cnt_step fs (lower nm) n hn'
  have hp:pickP fs used nm n=(!decide (cntF fs (lname fs[n]) (n+1)<countIn (lname fs[n]) done)&&named (lower nm) fs[n]):=by
   unfold pickP named lname
   rw [hu.2 n hn',List.getD_eq_getElem?_getD (l:=fs),List.getElem?_eq_getElem hn'];rfl
  rw [findDown]
  by_cases hm:named (lower nm) fs[n]=true
  ·have hl:lname fs[n]=lower nm:=by unfold named at hm;simpa using hm
   rw [if_pos hm]at hs
   rw [hl,hm,Bool.and_true]at hp
   by_cases hlt:cntF fs (lower nm) (n+1)<countIn (lower nm) done
   ·rw [hp,if_neg (by simp [hlt])]
    exact find_rank fs used done nm hu n (by omega) (by omega)
   ·rw [hp,if_pos (by simp [hlt])]
    exact .inr ⟨n,hn',rfl,hm,by omega⟩
  ·have hm':named (lower nm) fs[n]=false:=by simpa using hm
   rw [if_neg hm]at hs
   rw [hp,hm',Bool.and_false,if_neg (by simp)]
   exact find_rank fs used done nm hu n (by omega) (by omega)
theorem countIn_snoc (nm x:BS)(l:List BS):countIn nm (l++ [x])=countIn nm l+if lower x=nm then 1 else 0:=by
 unfold countIn
 rw [List.filter_append,List.length_append]
 by_cases h:lower x=nm
 ·simp [h]
 ·have:(lower x==nm)=false:=by simpa using h
  simp [h,this]
theorem pick_fold (fs:List BS): ∀(names done:List BS)(used:List Bool)(out:List BS),UsedOk fs used done→(names.foldl (pickStep fs) (used,out)).2=out++pickedC fs done names
 | [],done,used,out,_=>by simp [pickedC]
 |nm::r,done,used,out,hu=>by
  have h0:cntF fs (lower nm) fs.length≤countIn (lower nm) done:=by unfold cntF;rw [List.drop_length];simp
  rw [List.foldl_cons,pickedC]
  rcases find_rank fs used done nm hu fs.length (Nat.le_refl _) h0 with⟨hf,hc⟩|⟨k,hk,hf,hm,hc⟩
  ·have e:pickStep fs (used,out) nm=(used,out++ [[]]):=by unfold pickStep;simp only [hf]
   rw [e,pick_fold fs r (done++ [nm]) used _ ?_,pickAt_none _ _ _ hc]
   ·simp
   ·refine⟨hu.1,fun j hj=> ?_⟩
    rw [hu.2 j hj,countIn_snoc]
    by_cases hl:lower nm=lname fs[j]
    ·have hs:=cnt_step fs (lower nm) j hj
     rw [if_pos (by unfold named;simp [hl])]at hs
     have hm:=cnt_mono fs (lower nm) 0 j
     rw [Nat.zero_add]at hm
     rw [←hl,if_pos rfl]
     simp only [decide_eq_decide];omega
    ·rw [if_neg hl];rfl
  ·have e:pickStep fs (used,out) nm=(used.set k true,out++ [fs[k]]):=by
    unfold pickStep;simp only [hf];rw [List.getD_eq_getElem?_getD,List.getElem?_eq_getElem hk];rfl
   rw [e,pick_fold fs r (done++ [nm]) _ _ ?_,←hc,pickAt_rank fs _ k hk hm]
   ·simp
   ·have hlk:lname fs[k]=lower nm:=by unfold named at hm;simpa using hm
    refine⟨by rw [List.length_set];exact hu.1,fun j hj=> ?_⟩
    rw [countIn_snoc,List.getD_eq_getElem?_getD,List.getElem?_set]
    by_cases hjk:k=j
    ·subst hjk
     rw [if_pos rfl,if_pos (by rw [hu.1];exact hk),hlk,if_pos rfl,hc]
     simp
    ·rw [if_neg hjk,←List.getD_eq_getElem?_getD,hu.2 j hj]
     by_cases hl:lower nm=lname fs[j]
     ·rw [←hl,if_pos rfl,←hc]
      have hj1:=cnt_step fs (lower nm) j hj
      rw [if_pos (by unfold named;simp [hl])]at hj1
      have hk1:=cnt_step fs (lower nm) k hk
      rw [if_pos hm]at hk1
      simp only [decide_eq_decide]
      rcases Nat.lt_or_gt_of_ne hjk with h|h
      ·have:=cnt_mono fs (lower nm) (k+1) (j-(k+1))
       rw [show k+1+(j-(k+1))=j by omega]at this
       omega
      ·have:=cnt_mono fs (lower nm) (j+1) (k-(j+1))
       rw [show j+1+(k-(j+1))=k by omega]at this
       omega
     ·rw [if_neg hl];rfl
theorem picked_eq (fs nm:List BS):picked fs nm=pickedC fs [] nm:=by
 unfold picked
 rw [pick_fold fs nm [] _ [] ⟨by simp,fun k hk=>by rw [List.getD_eq_getElem?_getD,List.getElem?_replicate,if_pos hk];simp [countIn]⟩,List.nil_append]
theorem pickedC_length (fs:List BS): ∀(nm done:List BS),(pickedC fs done nm).length=nm.length
 | [],_=>rfl
 |x::r,done=>by simp [pickedC,pickedC_length fs r]
theorem picked_length (fs nm:List BS):(picked fs nm).length=nm.length:=by rw [picked_eq,pickedC_length]
theorem pickAt_append (P fs:List BS)(nm:BS)(c:Nat)(h:cntF P nm 0=0∨c<cntF fs nm 0):pickAt (P++fs) nm c=pickAt fs nm c:=by
 unfold pickAt cntF at*
 rw [List.filter_append,List.reverse_append]
 rcases h with h|h
 ·rw [List.drop_zero]at h
  rw [List.eq_nil_of_length_eq_zero h];simp
 ·rw [List.drop_zero]at h
  rw [List.getD_eq_getElem?_getD,List.getElem?_append_left (by simpa using h),←List.getD_eq_getElem?_getD]
theorem pickedC_append (P fs:List BS): ∀(nm done:List BS),(∀x∈nm,cntF P (lower x) 0=0∨countIn (lower x) (done++nm)≤cntF fs (lower x) 0)→pickedC (P++fs) done nm=pickedC fs done nm
 | [],_,_=>rfl
 |x::r,done,h=>by
  rw [pickedC,pickedC,pickAt_append,pickedC_append P fs r]
  ·intro y hy
   have:=h y (by simp [hy])
   rwa [List.append_assoc,List.singleton_append]
  ·rcases h x (by simp)with h|h
   ·exact .inl h
   ·refine .inr (Nat.lt_of_lt_of_le ?_ h)
    unfold countIn
    rw [List.filter_append,List.length_append,List.filter_cons]
    simp
theorem picked_append (P fs nm:List BS)(h: ∀x∈nm,cntF P (lower x) 0=0∨countIn (lower x) nm≤cntF fs (lower x) 0):picked (P++fs) nm=picked fs nm:=by
 rw [picked_eq,picked_eq,pickedC_append P fs nm [] (by simpa using h)]
theorem sigField_pieces (T:List Tag): ∃ps:List (BS×Tag),ps.map (fun x=>x.2)=T∧(∀x∈ps,x.1= [32]∨x.1=crlf++ [32])∧
 ∀b,sigField T b=sigName++58::(wtags ps++(crlf++ [32]++ [98]++ [61]++b++crlf)):=by
 obtain⟨seps,h1,h2,h3⟩:=sigField_eq T []
 refine⟨List.zipWith (fun s t=>(s++ [32],t)) seps T,zip_snd seps T h1,?_,h3⟩
 clear h1 h3
 induction seps generalizing T with
 |nil=>intro x hx;simp at hx
 |cons s r ih=>
  intro x hx
  cases T with
  |nil=>simp at hx
  |cons t u=>
   simp only [List.zipWith_cons_cons,List.mem_cons]at hx
   rcases hx with rfl|hx
   ·rcases h2 s (by simp)with rfl|rfl
    ·exact .inl rfl
    ·exact .inr rfl
   ·exact ih u (fun y hy=>h2 y (by simp [hy])) x hx
theorem wtags_cons (x:BS×Tag)(r:List (BS×Tag)):wtags (x::r)=x.1++x.2.1++ [61]++x.2.2++ [59]++wtags r:=by simp [wtags,List.append_assoc]
def flat (t:Tag):Prop:=10∉t.1∧10∉t.2
theorem pieces_lines (tl:BS)(htl:10∉tl): ∀(ps:List (BS×Tag))(l:BS),(∀x∈ps,(x.1= [32]∨x.1=crlf++ [32])∧flat x.2)→
 ∃(g:BS) (ls:List BS),l++(wtags ps++(crlf++32::tl++crlf))=(l++g)++crlf++(ls.map (· ++crlf)).flatten∧10∉g∧∀x∈ls,Line x∧contL x
 | [],l,_=>⟨[],[32::tl],by simp [wtags,List.append_assoc],by simp,fun x hx=>by
     obtain rfl:=List.mem_singleton.1 hx
     exact⟨⟨by simp,by simp [htl]⟩, .inl rfl⟩⟩
 |x::r,l,h=>by
  obtain⟨hx,h1,h2⟩:=h x (by simp)
  have hr: ∀y∈r,(y.1= [32]∨y.1=crlf++ [32])∧flat y.2:=fun y hy=>h y (by simp [hy])
  rcases hx with e|e
  ·obtain⟨g,ls,hg,hg1,hg2⟩:=pieces_lines tl htl r (l++(x.1++x.2.1++ [61]++x.2.2++ [59])) hr
   refine⟨x.1++x.2.1++ [61]++x.2.2++ [59]++g,ls,?_,by rw [e];simp [h1,h2,hg1],hg2⟩
   rw [wtags_cons]
   simp only [List.append_assoc]at hg⊢
   exact hg
  ·obtain⟨g,ls,hg,hg1,hg2⟩:=pieces_lines tl htl r ([32]++x.2.1++ [61]++x.2.2++ [59]) hr
   refine⟨[],([32]++x.2.1++ [61]++x.2.2++ [59]++g)::ls,?_,by simp,fun y hy=> ?_⟩
   ·rw [wtags_cons,e]
    simp only [List.append_assoc,List.map_cons,List.flatten_cons,List.append_nil]at hg⊢
    rw [hg]
   ·rcases List.mem_cons.1 hy with rfl|hy
    ·exact⟨⟨by simp,by simp [h1,h2,hg1]⟩, .inl rfl⟩
    ·exact hg2 y hy
theorem fld_sig {T:List Tag} {b:BS} (hT: ∀t∈T,flat t)(hb:10∉b):Fld (sigField T b):=by
 obtain⟨ps,h1,h2,h3⟩:=sigField_pieces T
 have hps: ∀x∈ps,(x.1= [32]∨x.1=crlf++ [32])∧flat x.2:=fun x hx=>⟨h2 x hx,hT x.2 (by rw [←h1];exact List.mem_map_of_mem hx)⟩
 obtain⟨g,ls,hg,hg1,hg2⟩:=pieces_lines ([98]++ [61]++b) (by simp [hb]) ps (sigName++ [58]) hps
 have e:sigField T b=(sigName++ [58]++g)++crlf++(ls.map (· ++crlf)).flatten:=by
  rw [h3,←hg];simp [List.append_assoc]
 refine⟨⟨sigName++ [58]++g,ls,e,⟨by simp,?_⟩,hg2⟩,?_⟩
 ·simp only [List.mem_append,not_or];exact⟨⟨by decide,by decide⟩,hg1⟩
 ·rw [e];intro h;rcases h with h|h<;>simp [sigName]at h
def scan:UInt8→BS→Option UInt8
 |p,[]=>some p
 |p,c::r=>if blank c=true then scan p r else if c=61∧p=98 then none else scan c r
theorem scan_app (x y:BS): ∀p,scan p (x++y)=(scan p x).bind fun q=>scan q y:=by
 induction x with
 |nil=>intro p;rfl
 |cons c r ih=>
  intro p
  rw [List.cons_append,scan,scan]
  split
  ·exact ih p
  ·split
   ·rfl
   ·exact ih c
theorem scan_no (x:BS)(h:61∉x): ∀p,∃q,scan p x=some q:=by
 induction x with
 |nil=>intro p;exact⟨p,rfl⟩
 |cons c r ih=>
  intro p
  have hc: ¬c=61:=fun e=>h (by simp [e])
  have ih':=ih (fun e=>h (by simp [e]))
  rw [scan]
  split
  ·exact ih' p
  ·rw [if_neg (fun e=>hc e.1)];exact ih' c
theorem scan_head {r y:BS} (c:UInt8)(hy:y.head?=some c)(hb:blank c=false)(h61:c≠61)(h:scan 98 r≠none):((r++y).dropWhile blank).head?≠some 61:=by
 induction r with
 |nil=>
  cases y with
  |nil=>simp at hy
  |cons d t=>simp at hy;subst hy;rw [List.nil_append,List.dropWhile_cons,if_neg (by rw [hb];decide)];simpa using h61
 |cons d t ih=>
  rw [List.cons_append,List.dropWhile_cons]
  rw [scan]at h
  split
  ·next hd=>rw [if_pos hd]at h;exact ih h
  ·next hd=>
   rw [if_neg hd]at h
   intro e
   simp at e
   rw [if_pos ⟨e,rfl⟩]at h;exact h rfl
theorem emptied_app (y:BS)(c:UInt8)(hy:y.head?=some c)(hb:blank c=false)(h61:c≠61): ∀(x:BS)(n:Nat)(p:UInt8),scan p x≠none→emptied (x.length+n) (x++y)=x++emptied n y
 | [],n,p,_=>by simp
 |d::r,n,p,h=>by
  have hsc: ∃q,scan q r≠none∧(d=98→q=98):=by
   rw [scan]at h
   split at h
   ·next hd=>exact⟨p,h,fun e=>by subst e;exact absurd hd (by decide)⟩
   ·split at h
    ·exact absurd rfl h
    ·exact⟨d,h,fun e=>e⟩
  obtain⟨q,hq,hd⟩:=hsc
  rw [List.length_cons,show r.length+1+n=(r.length+n)+1 by omega,List.cons_append,emptied]
  rw [if_neg,emptied_app y c hy hb h61 r n q hq]
  ·rfl
  ·rintro⟨e,h2⟩
   have:=hd e
   subst this
   exact scan_head c hy hb h61 hq h2
theorem dig_b (n:Nat)(h:n<64):dig n=98↔n=27:=by
 have: ∀n:Fin 64,dig n.val=98↔n.val=27:=by decide+kernel
 exact this ⟨n,h⟩
theorem dig_dry (n:Nat)(h:n<64):blank (dig n)=false:=by
 have: ∀n:Fin 64,blank (dig n.val)=false:=by decide+kernel
 exact this ⟨n,h⟩
theorem scan_dig (p:UInt8)(n:Nat)(h:n<64)(r:BS):scan p (dig n::r)=scan (dig n) r:=by
 rw [scan,if_neg (by rw [dig_dry n h];decide),if_neg (fun e=>dig_ne n h e.1)]
theorem scan_eq (p:UInt8)(h:p≠98)(r:BS):scan p (61::r)=scan 61 r:=by
 rw [scan,if_neg (by decide),if_neg (fun e=>h e.2)]
theorem scan_enc (x:BS): ∀p,∃q,scan p (enc64 x)=some q:=by
 induction x using enc64.induct with
 |case1 a b c r ih=>
  have h:=num3_lt a b c
  intro p
  rw [enc64,scan_dig _ _ (by omega),scan_dig _ _ (by omega),scan_dig _ _ (by omega),scan_dig _ _ (by omega)]
  exact ih _
 |case2 a b=>
  have h:=num3_lt a b 0
  intro p
  rw [enc64,scan_dig _ _ (by omega),scan_dig _ _ (by omega),scan_dig _ _ (by omega),scan_eq _ _]
  ·exact⟨_,rfl⟩
  ·rw [ne_eq,dig_b _ (by omega)]
   unfold num3;rw [show(0:UInt8).toNat=0 from rfl];omega
 |case3 a=>
  have h:=num3_lt a 0 0
  intro p
  rw [enc64,scan_dig _ _ (by omega),scan_dig _ _ (by omega),scan_eq _ _,scan_eq _ _]
  ·exact⟨_,rfl⟩
  ·decide
  ·rw [ne_eq,dig_b _ (by omega)]
   unfold num3;rw [show(0:UInt8).toNat=0 from rfl];omega
 |case4=>intro p;exact⟨p,rfl⟩
def quietT (t:Tag):Prop:=(∃q,q≠98∧∀p,scan p t.1=some q)∧∀p,∃q,scan p t.2=some q
theorem scan_pieces: ∀(ps:List (BS×Tag)),(∀x∈ps,(x.1= [32]∨x.1=crlf++ [32])∧quietT x.2)→∀p,∃q,scan p (wtags ps)=some q
 | [],_,p=>⟨p,rfl⟩
 |x::r,h,p=>by
  obtain⟨hx,⟨q1,hq1,h1⟩,h2⟩:=h x (by simp)
  have e1:scan p x.1=some p:=by rcases hx with e|e<;>rw [e]<;>rfl
  obtain⟨q2,h2⟩:=h2 61
  have e3:scan q2 [59]=some 59:=rfl
  obtain⟨q,hq⟩:=scan_pieces r (fun y hy=>h y (by simp [hy])) 59
  refine⟨q,?_⟩
  rw [wtags_cons]
  simp only [List.append_assoc,scan_app,e1,h1,Option.bind_some]
  rw [scan_eq _ hq1,scan]
  simp only [Option.bind_some,h2,e3,hq]
theorem emptied_sig {T:List Tag} {b:BS} (hT: ∀t∈T,quietT t)(hb:59∉b): ∃pre,(∀b,sigField T b=pre++ [98,61]++b++crlf)∧emptied (sigField T b).length (sigField T b)=pre++ [98,61]:=by
 obtain⟨ps,h1,h2,h3⟩:=sigField_pieces T
 have hps: ∀x∈ps,(x.1= [32]∨x.1=crlf++ [32])∧quietT x.2:=fun x hx=>⟨h2 x hx,hT x.2 (by rw [←h1];exact List.mem_map_of_mem hx)⟩
 refine⟨sigName++ [58]++wtags ps++crlf++ [32],fun b=>by rw [h3];simp [List.append_assoc],?_⟩
 have e:sigField T b=(sigName++ [58]++wtags ps++crlf++ [32])++([98,61]++b++crlf):=by rw [h3];simp [List.append_assoc]
 have hs:scan 0 (sigName++ [58]++wtags ps++crlf++ [32])≠none:=by
  obtain⟨q,hq⟩:=scan_pieces ps hps 58
  have e0:scan 0 (sigName++ [58])=some 58:=by decide
  have e2:scan q (crlf++ [32])=some q:=rfl
  rw [List.append_assoc,List.append_assoc,scan_app,e0,Option.bind_some,scan_app,hq,Option.bind_some,e2]
  simp
 rw [e,List.length_append,emptied_app _ 98 rfl rfl (by decide) _ _ 0 hs]
 congr 1
 have hd:(61::(b++crlf)).dropWhile blank=61::(b++crlf):=by rw [List.dropWhile_cons,if_neg (by decide)]
 have ht:(61::(b++crlf)).takeWhile blank= []:=by rw [List.takeWhile_cons,if_neg (by decide)]
 have hw:(b++crlf).dropWhile (· !=59)= []:=by
  have key: ∀l:BS,59∉l→l.dropWhile (· !=59)= []:=by
   intro l
   induction l with
   |nil=>intro _;rfl
   |cons c r ih=>
    intro h
    rw [List.dropWhile_cons,if_pos (by simp only [bne_iff_ne,ne_eq];rintro rfl;simp at h),ih fun hm=>h (by simp [hm])]
  exact key _ (by simp [hb,crlf])
 show emptied (([98,61]++b++crlf).length) (98::(61::(b++crlf)))=_
 have hlen:([98,61]++b++crlf).length=((b++crlf).length+1)+1:=by simp
 rw [hlen]
 rw [emptied,hd,ht,if_pos ⟨rfl,rfl⟩,List.tail_cons,hw]
 cases (b++crlf).length<;>rfl
theorem without_crlf (x:BS):without (x++crlf)=without x:=by
 rw [show x++crlf=(x++ [13])++ [10] by simp [crlf],without_snoc,if_pos (by decide),without_snoc,if_pos (by decide)]
theorem joined_crlf (x:BS):joined (x++crlf)=joined x:=by
 unfold joined crlf
 rw [List.foldl_append]
 generalize x.foldl joinStep ([],false)=s
 simp [joinStep,blank]
theorem field_crlf (form x:BS)(h:(cutAt 58 x).2.2=true):without (fieldOf form (x++crlf))=without (fieldOf form x):=by
 unfold fieldOf
 split
 ·exact without_crlf x
 ·have e:cutAt 58 (x++crlf)=((cutAt 58 x).1,(cutAt 58 x).2.1++crlf,true):=by
   induction x with
   |nil=>simp [cutAt]at h
   |cons c r ih=>
    rw [List.cons_append,cutAt,cutAt]at*
    split
    ·rfl
    ·next hc=>rw [if_neg hc]at h;rw [ih h]
  rw [e]
  simp only [if_true,joined_crlf]
theorem hashed_sig {T:List Tag} {b:BS} (form:BS)(hT: ∀t∈T,quietT t)(hb:59∉b):
 without (fieldOf form (emptied (sigField T b).length (sigField T b)))=without (fieldOf form (sigField T [])):=by
 obtain⟨pre,h1,h2⟩:=emptied_sig hT hb
 rw [h2,h1 [],List.append_nil,field_crlf]
 obtain⟨ps,_,_,h3⟩:=sigField_pieces T
 have e:=h1 []
 rw [h3,List.append_nil,List.append_nil]at e
 have hc: ∃y,pre++ [98,61]=sigName++58::y:=by
  refine⟨wtags ps++(crlf++ [32]++ [98]++ [61]),?_⟩
  have e2:(pre++ [98,61])++crlf=(sigName++58::(wtags ps++(crlf++ [32]++ [98]++ [61])))++crlf:=by
   rw [←e];simp [List.append_assoc]
  exact List.append_cancel_right e2
 obtain⟨y,hy⟩:=hc
 rw [hy,cutAt_app 58 sigName y (by decide)]
theorem quiet_tags {o:Opt} {nm:List BS} (x:BS)(ho:OptOk o)(hn:NamesOk nm): ∀t∈optTags o nm (enc64 x),quietT t:=by
 have no (v:BS) (h:61∉v): ∀p,∃q,scan p v=some q:=scan_no v h
 have hj: ∀l:List BS,(∀y∈l,61∉y)→61∉joinC l:=by
  intro l
  induction l with
  |nil=>intro _ h;simp [joinC]at h
  |cons a r ih=>
   intro h
   cases r with
   |nil=>rw [joinC];exact h a (by simp)
   |cons b r=>
    rw [joinC]
    ·have:=ih fun y hy=>h y (by simp [hy])
     have:=h a (by simp)
     simp [*]
    ·simp
 have hk:61∉o.kind:=by rcases ho.kinds with e|e<;>rw [e]<;>decide
 have hf:61∉formOf o.hdr:=by rcases ho.hform with e|e<;>rw [e]<;>decide
 have hg:61∉formOf o.bdy:=by rcases ho.bform with e|e<;>rw [e]<;>decide
 have hd:=ho.dom.c61
 have hi:61∉o.ident:=by rcases ho.ident with e|e|e<;>rw [e]<;>simp [hd,joeS]
 have hdec: ∀n,61∉Lib.decDigits n:=fun n h=>by have:=dec_digits n 61 h;revert this;decide
 have key: ∀(k:BS) (q:UInt8),k≠ []→k.getLast?=some q→q≠98→blank q=false→61∉k→∃q,q≠98∧∀p,scan p k=some q:=by
  intro k q hne hl h98 hb h61
  obtain⟨r,c,rfl⟩:=eq_snoc k hne
  have:c=q:=by simpa using hl
  subst this
  refine⟨c,h98,fun p=> ?_⟩
  obtain⟨q,hq⟩:=scan_no r (fun h=>h61 (by simp [h])) p
  rw [scan_app,hq,Option.bind_some,scan,if_neg (by rw [hb];decide),if_neg (fun e=>h61 (by simp [e.1])),scan]
 intro t ht
 unfold optTags at ht
 simp only [List.mem_append,List.mem_cons,List.not_mem_nil,or_false]at ht
 rcases ht with((ht|ht)|ht)|ht
 ·rcases ht with rfl|rfl|rfl|rfl|rfl
  ·exact⟨key _ 97 (by simp) rfl (by decide) rfl (by simp),no _ (by simp [hk,sha256S])⟩
  ·exact⟨key _ 104 (by simp) rfl (by decide) rfl (by simp),scan_enc x⟩
  ·exact⟨key _ 99 (by simp) rfl (by decide) rfl (by simp),no _ (by simp [hf,hg])⟩
  ·exact⟨key _ 100 (by simp) rfl (by decide) rfl (by simp),no _ hd⟩
  ·exact⟨key _ 104 (by simp) rfl (by decide) rfl (by simp),no _ (hj nm fun y hy=>(hn.all y hy).1.c61)⟩
 ·split at ht
  ·simp at ht
  ·obtain rfl:=List.mem_singleton.1 ht;exact⟨key _ 105 (by simp) rfl (by decide) rfl (by simp),no _ hi⟩
 ·rcases ht with rfl|rfl|rfl
  ·exact⟨key _ 115 (by simp) rfl (by decide) rfl (by simp),no _ ho.sel.c61⟩
  ·exact⟨key _ 116 (by simp) rfl (by decide) rfl (by simp),no _ (hdec _)⟩
  ·exact⟨key _ 118 (by simp) rfl (by decide) rfl (by simp),no _ (by decide)⟩
 ·split at ht
  ·simp at ht
  ·obtain rfl:=List.mem_singleton.1 ht;exact⟨key _ 120 (by simp) rfl (by decide) rfl (by simp),no _ (hdec _)⟩
structure MsgOk (m:BS)(F:List BS)(b:BS):Prop where
 heads:heads m=some (F,b)
 ne:F≠ []
 head: ∀f,F.head?=some f→¬contL f
 fields: ∀f∈F,name f≠ []∧dry (name f)∧59∉name f∧61∉name f∧lname f≠dkimS
 from_: ∃f∈F,lname f=fromS
 plain:plain m=true
theorem trim_sub {c:UInt8} {l:BS} (h:c∈trim l):c∈l:=by
 unfold trim rtrim at h
 rw [List.mem_reverse]at h
 have h1:=(List.dropWhile_sublist blank).mem h
 rw [List.mem_reverse]at h1
 exact(List.dropWhile_sublist blank).mem h1
theorem cutAt_mem {c x:UInt8} : ∀ {l:BS},(c∈(cutAt x l).1→c∈l)∧(c∈(cutAt x l).2.1→c∈l)
 | []=>by simp [cutAt]
 |a::r=>by
  have ih:= @cutAt_mem c x r
  rw [cutAt]
  split
  ·simp;exact fun h=> .inr h
  ·simp only [List.mem_cons]
   exact⟨fun h=>h.elim .inl fun h=> .inr (ih.1 h),fun h=> .inr (ih.2 h)⟩
theorem name_sub {c:UInt8} {f:BS} (h:c∈name f):c∈f:=cutAt_mem.1 (trim_sub h)
theorem plain_of_sub {l m:BS} (h:plain m=true)(hs: ∀c∈l,c∈m):plain l=true:=by
 unfold plain at*
 rw [List.all_eq_true]at*
 exact fun c hc=>h c (hs c hc)
theorem name_c58 (f:BS):58∉name f:=fun h=>cutAt_notin 58 f (trim_sub h)
theorem headGo_sub: ∀(n:Nat)(out:List BS)(m:BS)(F:List BS)(b:BS),headGo n out m=some (F,b)→(∀f∈F,∀c∈f,(∃g∈out,c∈g)∨c∈m∨c=13∨c=10)∧∀c∈b,c∈m
 |0,_,_,_,_,h=>by simp [headGo]at h
 |n+1,out,m,F,b,h=>by
  rw [headGo]at h
  split at h
  ·split at h
   ·injection h with h;injection h with h1 h2;subst h1;subst h2
    exact⟨fun f hf c hc=> .inl ⟨f,hf,hc⟩,fun c hc=>cutAt_mem.2 hc⟩
   ·obtain⟨h1,h2⟩:=headGo_sub n _ _ F b h
    refine⟨fun f hf c hc=> ?_,fun c hc=>cutAt_mem.2 (h2 c hc)⟩
    rcases h1 f hf c hc with⟨g,hg,hcg⟩|h|h|h
    ·unfold addLine at hg
     split at hg
     ·next ho=>
      rcases List.mem_append.1 hg with hg|hg
      ·exact .inl ⟨g,(List.dropLast_sublist _).mem hg,hcg⟩
      ·obtain rfl:=List.mem_singleton.1 hg
       simp only [List.mem_append]at hcg
       rcases hcg with(hcg|hcg)|hcg
       ·cases hl:out.getLast? with
        |none=>rw [hl]at hcg;simp at hcg
        |some g=>rw [hl]at hcg;exact .inl ⟨g,List.mem_of_getLast? hl,hcg⟩
       ·exact .inr (.inl (cutAt_mem.1 (unCR_mem hcg)))
       ·simp [crlf]at hcg;exact .inr (.inr hcg)
     ·rcases List.mem_append.1 hg with hg|hg
      ·exact .inl ⟨g,hg,hcg⟩
      ·obtain rfl:=List.mem_singleton.1 hg
       rcases List.mem_append.1 hcg with hcg|hcg
       ·exact .inr (.inl (cutAt_mem.1 (unCR_mem hcg)))
       ·simp [crlf]at hcg;exact .inr (.inr hcg)
    ·exact .inr (.inl (cutAt_mem.2 h))
    ·exact .inr (.inr (.inl h))
    ·exact .inr (.inr (.inr h))
  ·cases h
theorem plain_all {l:BS} :plain l=true↔∀c∈l,plainB c=true:=by unfold plain;rw [List.all_eq_true]
theorem plain_app {a b:BS} :plain (a++b)=true↔plain a=true∧plain b=true:=by
 simp only [plain_all,List.mem_append]
 exact⟨fun h=>⟨fun c hc=>h c (.inl hc),fun c hc=>h c (.inr hc)⟩,fun h c hc=>hc.elim (h.1 c) (h.2 c)⟩
theorem plain_heads {m:BS} {F:List BS} {b:BS} (h:heads m=some (F,b))(hp:plain m=true):(∀f∈F,plain f=true)∧plain b=true:=by
 obtain⟨h1,h2⟩:=headGo_sub _ _ _ _ _ h
 rw [plain_all]at hp
 refine⟨fun f hf=>plain_all.2 fun c hc=> ?_,plain_all.2 fun c hc=>hp c (h2 c hc)⟩
 rcases h1 f hf c hc with⟨g,hg,_⟩|h|rfl|rfl
 ·simp at hg
 ·exact hp c h
 ·rfl
 ·rfl
theorem unCR_le (l:BS):(unCR l).length≤l.length:=by unfold unCR;split<;>simp
theorem addLine_len (out:List BS)(l:BS):(addLine out l).flatten.length=out.flatten.length+l.length+2:=by
 by_cases hc:contL l
 ·by_cases ho:out= []
  ·subst ho;rw [addLine_nil];simp [crlf]
  ·obtain⟨r,f,rfl⟩: ∃r f,out=r++ [f]:=⟨out.dropLast,out.getLast ho,(List.dropLast_concat_getLast ho).symm⟩
   rw [addLine_cont _ _ _ hc];simp [crlf];omega
 ·rw [addLine_fresh _ _ hc];simp [crlf];omega
theorem cutAt_len' (c:UInt8)(l:BS)(h:(cutAt c l).2.2=true):(cutAt c l).1.length+(cutAt c l).2.1.length+1=l.length:=by
 induction l with
 |nil=>simp [cutAt]at h
 |cons x r ih=>
  rw [cutAt]at*
  split
  ·simp
  ·next hx=>rw [if_neg hx]at h;have:=ih h;simp;omega
theorem headGo_len: ∀(n:Nat)(out:List BS)(m:BS)(F:List BS)(b:BS),headGo n out m=some (F,b)→F.flatten.length+b.length≤out.flatten.length+2*m.length
 |0,_,_,_,_,h=>by simp [headGo]at h
 |n+1,out,m,F,b,h=>by
  rw [headGo]at h
  split at h
  ·next hc=>
   have hl:=cutAt_len' 10 m hc
   split at h
   ·injection h with h;injection h with h1 h2;subst h1;subst h2;omega
   ·next hne=>
    have:=headGo_len n _ _ F b h
    rw [addLine_len]at this
    have h2:=unCR_le (cutAt 10 m).1
    have h3:(unCR (cutAt 10 m).1).length≠0:=fun e=>hne (List.eq_nil_of_length_eq_zero e)
    omega
  ·cases h
theorem heads_len {m:BS} {F:List BS} {b:BS} (h:heads m=some (F,b)):F.flatten.length+b.length≤2*m.length:=by
 have:=headGo_len _ _ _ _ _ h;simpa using this
theorem mem_flatten_len {F:List BS} {f:BS} (h:f∈F):f.length≤F.flatten.length:=by
 induction F with
 |nil=>simp at h
 |cons a r ih=>
  rw [List.flatten_cons,List.length_append]
  rcases List.mem_cons.1 h with rfl|h
  ·omega
  ·have:=ih h;omega
theorem count_flatten {F:List BS} (h: ∀f∈F,f≠ []):F.length≤F.flatten.length:=by
 induction F with
 |nil=>simp
 |cons a r ih=>
  rw [List.flatten_cons,List.length_append,List.length_cons]
  have h1:a.length≠0:=fun e=>h a (by simp) (List.eq_nil_of_length_eq_zero e)
  have:=ih fun f hf=>h f (by simp [hf])
  omega
theorem names_ok {o:Opt} {m b:BS} {F:List BS} (ho:OptOk o)(hm:MsgOk m F b)(hf:o.all=true∨∃k∈o.keys,lower k=fromS):NamesOk (namesOf o F):=by
 have hpl:=(plain_heads hm.heads hm.plain).1
 unfold namesOf
 cases ha:o.all with
 |true=>
  simp only [if_true]
  obtain⟨f,hf1,hf2⟩:=hm.from_
  refine⟨by simpa using hm.ne,fun x hx=> ?_,fun x hx=> ?_,⟨name f,List.mem_map_of_mem hf1,hf2⟩⟩
  ·obtain⟨g,hg,rfl⟩:=List.mem_map.1 hx
   obtain⟨h1,h2,h3,h4,h5⟩:=hm.fields g hg
   exact⟨⟨⟨h2,h3⟩,h1,name_c58 g,h4⟩,h5⟩
  ·obtain⟨g,hg,rfl⟩:=List.mem_map.1 hx
   exact plain_of_sub (hpl g hg) fun c hc=>name_sub hc
 |false=>
  simp only [Bool.false_eq_true,if_false]
  rw [ha]at hf
  have hf':=hf.resolve_left (by decide)
  have hf2:=hf'
  obtain⟨k,hk,_⟩:=hf2
  exact⟨fun e=>by rw [e]at hk;simp at hk,ho.keys,ho.plain.2.2.2,hf'⟩
theorem signed_tags {o:Opt} {F:List BS} {b:BS} :signed o F b=sigField (optTags o (namesOf o F) (enc64 (sha (bodyOf (formOf o.bdy) b)))) (enc64 (sigOf o F b)):=rfl
theorem flat_tags {o:Opt} {nm:List BS} (x:BS)(ho:OptOk o)(hn:NamesOk nm): ∀t∈optTags o nm (enc64 x),flat t:=by
 have hN:=neat_tags (bh:=enc64 x) ho hn (word_enc x)
 intro t ht
 have hd:10∉t.1∧dry t.2:=by
  have h1:dry (o.kind++sha256S):=((word_kind ho.kinds).app (word_of rfl)).dry
  have h2:dry (formOf o.hdr++ [47]++formOf o.bdy):=(((word_form ho.hform).app (word_of rfl)).app (word_form ho.bform)).dry
  have h3:dry (joinC nm):=(word_joinC nm fun x hx=>(hn.all x hx).1.word).dry
  unfold optTags at ht
  simp only [List.mem_append,List.mem_cons,List.not_mem_nil,or_false]at ht
  rcases ht with((ht|ht)|ht)|ht
  ·rcases ht with rfl|rfl|rfl|rfl|rfl
   ·exact⟨by simp,h1⟩
   ·exact⟨by simp,dry_enc x⟩
   ·exact⟨by simp,h2⟩
   ·exact⟨by simp,ho.dom.word.dry⟩
   ·exact⟨by simp,h3⟩
  ·split at ht
   ·simp at ht
   ·obtain rfl:=List.mem_singleton.1 ht;exact⟨by simp,ho.wident.dry⟩
  ·rcases ht with rfl|rfl|rfl
   ·exact⟨by simp,ho.sel.word.dry⟩
   ·exact⟨by simp,(word_dec _).dry⟩
   ·exact⟨by simp,(word_of rfl:Word [49]).dry⟩
  ·split at ht
   ·simp at ht
   ·obtain rfl:=List.mem_singleton.1 ht;exact⟨by simp,(word_dec _).dry⟩
 exact⟨hd.1,fun h10=>by have:=hd.2 10 h10;revert this;decide⟩
theorem fld_signed {o:Opt} {F:List BS} {b:BS} (ho:OptOk o)(hn:NamesOk (namesOf o F)):Fld (signed o F b):=
 fld_sig (flat_tags _ ho hn) fun h=>by have:=dry_enc _ 10 h;revert this;decide
theorem lname_signed {o:Opt} {F:List BS} {b:BS} (ho:OptOk o)(hn:NamesOk (namesOf o F)):lname (signed o F b)=dkimS:=by
 unfold lname name
 rw [signed_tags,(pmap_signed ho hn (word_enc _) (word_enc _)).1];decide
def judged (hf bf key:BS)(x y:BS)(FS nm:List BS)(field body:BS):Bool:=
 (sha (bodyOf bf body)==x)&&(sha (key++sha (allOf hf FS nm++without (fieldOf hf (emptied field.length field))))==y)
theorem judged_signed {o:Opt} {F:List BS} {b:BS} (ho:OptOk o)(hn:NamesOk (namesOf o F))(P F':List BS)(b':BS)(hb:bodyOf (formOf o.bdy) b'=bodyOf (formOf o.bdy) b)
 (hP:allOf (formOf o.hdr) (P++signed o F b::F') (namesOf o F)=allOf (formOf o.hdr) F (namesOf o F)):
 judged (formOf o.hdr) (formOf o.bdy) o.key (sha (bodyOf (formOf o.bdy) b)) (sigOf o F b) (P++signed o F b::F') (namesOf o F) (signed o F b) b'=true:=by
 unfold judged
 rw [hb,hP,signed_tags,hashed_sig _ (quiet_tags _ ho hn) (fun h=>(enc_all _ 59 h).2.1 rfl)]
 simp [sigOf,optT,bhOf]
theorem all_behind {o:Opt} {F:List BS} {b:BS} (ho:OptOk o)(hn:NamesOk (namesOf o F))(form:BS)(P F':List BS)(nm:List BS)(hnm: ∀x∈nm,lower x≠dkimS)
 (h: ∀x∈nm,cntF P (lower x) 0=0∨countIn (lower x) nm≤cntF F' (lower x) 0):allOf form (P++signed o F b::F') nm=allOf form F' nm:=by
 unfold allOf
 rw [show P++signed o F b::F'=(P++ [signed o F b])++F' by simp,picked_append]
 intro x hx
 rcases h x hx with h|h
 ·left
  have hl:=lname_signed (b:=b) ho hn
  unfold cntF at*
  rw [List.drop_zero,List.filter_append,List.length_append]at*
  have:named (lower x) (signed o F b)=false:=by unfold named;rw [hl];simpa using fun e=>hnm x hx e.symm
  rw [h,List.filter_cons,this];rfl
 ·exact .inr h
theorem cutAt_more (c:UInt8)(l x:BS)(h:(cutAt c l).2.2=true):cutAt c (l++x)=((cutAt c l).1,(cutAt c l).2.1++x,true):=by
 induction l with
 |nil=>simp [cutAt]at h
 |cons a r ih=>
  rw [List.cons_append,cutAt,cutAt]at*
  split
  ·rfl
  ·next hc=>rw [if_neg hc]at h;rw [ih h]
theorem headsFrom_more (x:BS): ∀(n:Nat)(out:List BS)(m:BS)(F:List BS)(b:BS),m.length<n→headsFrom out m=some (F,b)→headsFrom out (m++x)=some (F,b++x)
 |0,_,_,_,_,h,_=>by omega
 |n+1,out,m,F,b,hn,h=>by
  rw [headsFrom_step]at h⊢
  split at h
  ·next hc=>
   rw [cutAt_more 10 m x hc]
   simp only [if_true]
   split at h
   ·next hu=>
    rw [if_pos hu]
    injection h with h;injection h with h1 h2;subst h1;subst h2;rfl
   ·next hu=>
    rw [if_neg hu]
    exact headsFrom_more x n _ _ F b (by have:=(cutAt_len 10 m).2.2 hc;omega) h
  ·cases h
theorem heads_more {m:BS} {F:List BS} {b:BS} (x:BS)(h:heads m=some (F,b)):heads (m++x)=some (F,b++x):=headsFrom_more x _ _ _ _ _ (Nat.lt_succ_self _) h
theorem foldEnd (o:BS)(s:Bool)(l:BS):l.foldl endStep (o,s)=(o++(eFr s l).1,(eFr s l).2):=by
 induction l generalizing o s with
 |nil=>simp [eFr]
 |cons x r ih=>
  unfold eFr
  rw [List.foldl_cons,List.foldl_cons]
  have e1:endStep (o,s) x=(o++(endStep ([],s) x).1,(endStep ([],s) x).2):=by simp [endStep]
  rw [e1,ih,show(endStep ([],s) x)=((endStep ([],s) x).1,(endStep ([],s) x).2)from rfl,ih (endStep ([],s) x).1]
  simp
theorem endFrom_app (s:Bool)(a b:BS):eFr s (a++b)=((eFr s a).1++(eFr (eFr s a).2 b).1,(eFr (eFr s a).2 b).2):=by
 have h1:eFr s (a++b)=b.foldl endStep (eFr s a):=by unfold eFr;rw [List.foldl_append]
 rw [h1,show eFr s a=((eFr s a).1,(eFr s a).2)from rfl,foldEnd]
def endsOf (n:Nat)(b:Bool):BS:=(List.replicate n [13,10]).flatten++(if b then [13]else [])
theorem endFrom_ends (n:Nat)(b s:Bool)(h:n=0→s=b):eFr s (endsOf n b)=(endsOf n b,b):=by
 induction n generalizing s with
 |zero=>
  have:=h rfl
  subst this
  cases s<;>rfl
 |succ n ih=>
  have e:endsOf (n+1) b= [13,10]++endsOf n b:=by unfold endsOf;rw [List.replicate_succ,List.flatten_cons,List.append_assoc]
  rw [e,endFrom_app]
  have h2:eFr s [13,10]=([13,10],false):=by cases s<;>rfl
  rw [h2]
  by_cases hn:n=0
  ·subst hn
   cases b
   ·rfl
   ·rfl
  ·rw [ih false (fun e=>absurd e hn)]
def simD (E:BS):BS:=noEnds (unCR E)
theorem noEnds_crlf (l:BS):noEnds (l++ [13,10])=noEnds l:=by
 unfold noEnds;rw [List.reverse_append];rfl
theorem noEnds_keep (l:BS)(h: ∀p,l≠p++ [13,10]):noEnds l=l:=by
 unfold noEnds
 have:noEndsR l.reverse=l.reverse:=by
  match hr:l.reverse with
  | []=>rfl
  | [a]=>unfold noEndsR;split<;>simp_all
  |a::b::r=>
   unfold noEndsR
   split
   ·rename_i r' he
    injection he with h1 h2
    injection h2 with h2 h3
    subst h1;subst h2
    exact absurd (by have:=congrArg List.reverse hr;simpa using this) (h r.reverse)
   ·rfl
 rw [this,List.reverse_reverse]
theorem noEnds_split (l:BS): ∃n,l=noEnds l++(List.replicate n [13,10]).flatten∧∀p,noEnds l≠p++ [13,10]:=by
 generalize hk:l.length=k
 induction k using Nat.strongRecOn generalizing l with
 |_ k ih=>
  by_cases h: ∃p,l=p++ [13,10]
  ·obtain⟨p,rfl⟩:=h
   obtain⟨n,h1,h2⟩:=ih p.length (by simp at hk;omega) p rfl
   rw [noEnds_crlf]
   refine⟨n+1,?_,h2⟩
   have e:(List.replicate (n+1) ([13,10]:BS)).flatten=(List.replicate n [13,10]).flatten++ [13,10]:=by
    rw [List.replicate_succ'];simp
   rw [e,←List.append_assoc,←h1]
  ·have h': ∀p,l≠p++ [13,10]:=fun p e=>h ⟨p,e⟩
   rw [noEnds_keep l h']
   exact⟨0,by simp,h'⟩
theorem unCR_split (l:BS):l=unCR l++(if l.getLast?=some 13 then [13]else []):=by
 unfold unCR
 split
 ·rename_i h
  have hne:l≠ []:=by rintro rfl;simp at h
  rw [List.getLast?_eq_some_getLast hne]at h
  injection h with h
  rw [←h,List.dropLast_concat_getLast]
 ·simp
theorem simD_split (E:BS): ∃n,E=simD E++endsOf n (E.getLast?==some 13)∧(∀p,simD E≠p++ [13,10]):=by
 obtain⟨n,h1,h2⟩:=noEnds_split (unCR E)
 refine⟨n,?_,h2⟩
 have:=unCR_split E
 unfold simD endsOf
 rw [←List.append_assoc,←h1]
 refine this.trans ?_
 congr 1
 by_cases h:E.getLast?=some 13<;>simp [h]
theorem ended_last (s:Bool)(l:BS):(eFr s l).2=if l= []then s else((eFr s l).1.getLast?==some 13):=by
 rcases List.eq_nil_or_concat l with rfl|⟨q,x,rfl⟩
 ·rfl
 ·rw [List.concat_eq_append,endFrom_app]
  have hx: ∀t,(eFr t [x]).2=(x==13):=fun t=>rfl
  rw [hx,if_neg (by simp)]
  simp only [List.getLast?_append]
  have: ∀t,(eFr t [x]).1.getLast?=some x:=by
   intro t
   show(if x==10&& !t then([13,10]:BS)else [x]).getLast?=some x
   split
   ·rename_i h;simp at h;simp [h.1]
   ·rfl
  rw [this];rfl
theorem ended_cr (l:BS):(eFr false l).2=((ended l).getLast?==some 13):=by
 rw [ended_last]
 split
 ·rename_i h;subst h;rfl
 ·rfl
theorem noEnds_app (D Y:BS)(hD: ∀p,D≠p++ [13,10])(hY:Y.head?≠some 10):noEnds (D++Y)=D++noEnds Y:=by
 generalize hk:Y.length=k
 induction k using Nat.strongRecOn generalizing Y with
 |_ k ih=>
  by_cases h: ∃p,Y=p++ [13,10]
  ·obtain⟨p,rfl⟩:=h
   rw [←List.append_assoc,noEnds_crlf,noEnds_crlf]
   refine ih p.length (by simp at hk;omega) p ?_ rfl
   cases p with
   |nil=>simp
   |cons a r=>simpa using hY
  ·have h': ∀p,Y≠p++ [13,10]:=fun p e=>h ⟨p,e⟩
   rw [noEnds_keep Y h']
   refine noEnds_keep _ (fun p e=> ?_)
   match hYr:Y.reverse with
   | []=>
     have:Y= []:=by simpa using hYr
     subst this
     rw [List.append_nil]at e
     exact hD p e
   | [a]=>
     have:Y= [a]:=by have:=congrArg List.reverse hYr;simpa using this
     subst this
     have e':=congrArg List.getLast? e
     simp at e'
     exact hY (by simp [e'])
   |a::b::r=>
    have:Y=r.reverse++ [b,a]:=by have:=congrArg List.reverse hYr;simpa using this
    subst this
    rw [←List.append_assoc]at e
    have e2:=List.append_inj_right' e rfl
    exact h' r.reverse (by rw [e2])
theorem endFrom_head (s:Bool)(l:BS)(hs:s=false):(eFr s l).1.head?≠some 10:=by
 subst hs
 cases l with
 |nil=>simp [eFr]
 |cons x r=>
  rw [show x::r= [x]++r from rfl,endFrom_app]
  show((if x==10&& !false then([13,10]:BS)else [x])++_).head?≠some 10
  split
  ·simp
  ·rename_i h;simp at h;simpa using h
theorem head_pre (a b:BS)(h:(a++b).head?≠some 10):a.head?≠some 10:=by
 cases a with
 |nil=>simp
 |cons x r=>simpa using h
theorem unCR_app2 (p q:BS)(h:q≠ []):unCR (p++q)=p++unCR q:=by
 unfold unCR
 rw [List.getLast?_append]
 have e:q.getLast?.or p.getLast?=q.getLast?:=by
  cases hq:q.getLast? with
  |none=>simp at hq;exact absurd hq h
  |some y=>rfl
 rw [e]
 split
 ·rw [List.dropLast_append_of_ne_nil h]
 ·rfl
def simC (acc:BS):BS:=(ended acc).drop (simD (ended acc)).length
theorem sim_write (acc l:BS):ended (acc++l)=simD (ended acc)++(eFr (eFr false acc).2 (simC acc++l)).1∧(eFr (eFr false acc).2 (simC acc++l)).2=(eFr false (acc++l)).2∧
 simD (ended (acc++l))=simD (ended acc)++simD (eFr (eFr false acc).2 (simC acc++l)).1∧simC (acc++l)=(eFr (eFr false acc).2 (simC acc++l)).1.drop (simD (eFr (eFr false acc).2 (simC acc++l)).1).length:=by
 obtain⟨n,h1,h2⟩:=simD_split (ended acc)
 have hD2:(ended acc).getLast?≠some 13→n=0→simD (ended acc)=ended acc:=by
  intro hs hn
  subst hn
  have:((ended acc).getLast?==some 13)=false:=by simpa using hs
  rw [this]at h1
  simpa [endsOf]using h1.symm
 rw [←ended_cr]at h1
 have hs2:=ended_cr acc
 have hC:simC acc=endsOf n (eFr false acc).2:=by
  unfold simC;conv=>lhs;arg 2;rw [h1]
  simp
 generalize hs:(eFr false acc).2=s at*
 have hE:=endFrom_app false acc l
 rw [hs]at hE
 have hB:eFr s (simC acc++l)=(simC acc++(eFr s l).1,(eFr s l).2):=by
  rw [endFrom_app,hC,endFrom_ends n s s (fun _=>rfl)]
 have hEl:ended (acc++l)=simD (ended acc)++(simC acc++(eFr s l).1):=by
  rw [hC,←List.append_assoc,←h1]
  unfold ended;rw [hE]
 have hhead:(simC acc++(eFr s l).1).head?≠some 10:=by
  rw [hC]
  cases n with
  |zero=>
   cases s with
   |true=>simp [endsOf]
   |false=>simpa [endsOf]using endFrom_head false l rfl
  |succ n=>simp [endsOf,List.replicate_succ]
 have h3:simD (ended (acc++l))=simD (ended acc)++simD (simC acc++(eFr s l).1):=by
  rw [hEl]
  by_cases hYe:simC acc++(eFr s l).1= []
  ·have hc0:simC acc= []:=(List.append_eq_nil_iff.1 hYe).1
   rw [hC]at hc0
   have hn0:n=0:=by
    cases n with
    |zero=>rfl
    |succ n=>simp [endsOf,List.replicate_succ]at hc0
   have hs0:s=false:=by
    cases s with
    |false=>rfl
    |true=>simp [endsOf]at hc0
   have hd:simD (ended acc)=ended acc:=hD2 (by intro e;rw [e,hs0]at hs2;simp at hs2) hn0
   have:simD []= []:=rfl
   rw [hYe,List.append_nil,this,List.append_nil,hd]
   exact hd
  ·unfold simD
   have:unCR (noEnds (unCR (ended acc))++(simC acc++(eFr s l).1))=noEnds (unCR (ended acc))++unCR (simC acc++(eFr s l).1):=unCR_app2 _ _ hYe
   rw [this]
   refine noEnds_app _ _ h2 ?_
   have:=unCR_split (simC acc++(eFr s l).1)
   rw [this]at hhead
   exact head_pre _ _ hhead
 rw [hB]
 refine⟨hEl,by rw [hE],h3,?_⟩
 have:simC (acc++l)=(ended (acc++l)).drop (simD (ended (acc++l))).length:=rfl
 rw [this,h3,hEl,List.length_append,List.drop_append]
 simp
theorem simD_le (E:BS):(simD E).length≤E.length:=by
 obtain⟨n,h,_⟩:=simD_split E
 have:=congrArg List.length h
 rw [List.length_append]at this;omega
theorem simD_take (E:BS):E.take (simD E).length=simD E:=by
 obtain⟨n,h,_⟩:=simD_split E
 conv=>lhs;arg 2;rw [h]
 simp
theorem sim_close (acc:BS):simD (ended acc)++(if(simC acc).getLast?=some 13 then simC acc else [])++crlf=bodyOf simpleS acc:=by
 unfold bodyOf
 rw [if_pos rfl]
 congr 1
 obtain⟨n,h1,h2⟩:=simD_split (ended acc)
 have hC:simC acc=endsOf n ((ended acc).getLast?==some 13):=by
  unfold simC;conv=>lhs;arg 2;rw [h1]
  simp
 have hlast:(simC acc).getLast?=some 13↔(ended acc).getLast?=some 13:=by
  rw [hC]
  cases hb:((ended acc).getLast?==some 13)with
  |true=>simp [endsOf];simpa using hb
  |false=>
   have hb':(ended acc).getLast?≠some 13:=by simpa using hb
   refine⟨fun e=> ?_,fun e=>absurd e hb'⟩
   exfalso
   cases n with
   |zero=>simp [endsOf]at e
   |succ n=>simp [endsOf,List.replicate_succ']at e
 by_cases h:(ended acc).getLast?=some 13
 ·rw [if_pos (hlast.2 h)]
  have e:simD (ended acc)++simC acc=ended acc:=by
   unfold simC
   conv=>lhs;arg 1;rw [←simD_take (ended acc)]
   exact List.take_append_drop _ _
  rw [e]
  refine(noEnds_keep _ (fun p e=> ?_)).symm
  rw [e]at h;simp at h
 ·rw [if_neg (fun e=>h (hlast.1 e)),List.append_nil]
  unfold simD
  congr 1
  unfold unCR;rw [if_neg h]
theorem foldRel (o:BS)(s:Bool×BS)(l:BS):l.foldl relStep (o,s)=(o++(l.foldl relStep ([],s)).1,(l.foldl relStep ([],s)).2):=by
 induction l generalizing o s with
 |nil=>simp
 |cons x r ih=>
  rw [List.foldl_cons,List.foldl_cons]
  have e1:relStep (o,s) x=(o++(relStep ([],s) x).1,(relStep ([],s) x).2):=by
   unfold relStep;split
   ·simp
   ·split<;>simp [List.append_assoc]
  rw [e1,ih,show(relStep ([],s) x)=((relStep ([],s) x).1,(relStep ([],s) x).2)from rfl,ih (relStep ([],s) x).1]
  simp
def relOf (acc:BS):BS×Bool×BS:=(ended acc).foldl relStep ([],false,[])
theorem rel_write (acc l:BS):relOf (acc++l)=((relOf acc).1++((eFr (eFr false acc).2 l).1.foldl relStep ([],(relOf acc).2)).1,((eFr (eFr false acc).2 l).1.foldl relStep ([],(relOf acc).2)).2):=by
 unfold relOf
 have:ended (acc++l)=ended acc++(eFr (eFr false acc).2 l).1:=by unfold ended;rw [endFrom_app]
 rw [this,List.foldl_append]
 exact foldRel _ _ _
theorem rel_close (form acc:BS)(h:form≠simpleS):(relOf acc).1++(if(relOf acc).1= []then []else crlf)=bodyOf form acc:=by
 unfold bodyOf
 rw [if_neg h]
 show _=if(relOf acc).1= []then []else(relOf acc).1++crlf
 split
 ·rename_i h;rw [h];rfl
 ·rfl
def wsR (r:Nat):Bool:=r==32||r==9||r==10||r==13
def jn (xs:List BS):BS:=Lib.join xs [32]
theorem jn_snoc (xs:List BS)(y:BS):jn (xs++ [y])=if xs= []then y else jn xs++32::y:=by
 cases xs with
 |nil=>exact Lib.join_one y [32]
 |cons x r=>
  rw [if_neg (by simp)]
  show Lib.join (x::(r++ [y])) [32]=Lib.join (x::r) [32]++32::y
  rw [Lib.join_cons,Lib.join_cons]
  simp [Lib.joinTail]
theorem jn_ne (xs:List BS)(h:xs≠ [])(hx: ∀x∈xs,x≠ []):jn xs≠ []:=by
 cases xs with
 |nil=>exact absurd rfl h
 |cons x r=>
  show Lib.join (x::r) [32]≠ []
  rw [Lib.join_cons]
  intro e
  exact hx x (by simp) (List.append_eq_nil_iff.1 e).1
theorem ws_blank (c:UInt8):wsR c.toNat=blank c:=by
 have h: ∀k:UInt8,(c.toNat==k.toNat)=(c==k):=fun k=>by
  by_cases e:c=k
  ·simp [e]
  ·have: ¬c.toNat=k.toNat:=fun h=>e (UInt8.toNat_inj.1 h)
   rw [beq_eq_false_iff_ne.2 e,beq_eq_false_iff_ne.2 this]
 have h32:=h 32;have h9:=h 9;have h13:=h 13;have h10:=h 10
 unfold wsR blank
 show((((c.toNat==(32:UInt8).toNat)||(c.toNat==(9:UInt8).toNat))||(c.toNat==(10:UInt8).toNat))||(c.toNat==(13:UInt8).toNat))=_
 rw [h32,h9,h13,h10]
 cases (c==32)<;>cases (c==9)<;>cases (c==13)<;>cases (c==10)<;>rfl
def pc (l:BS)(p:Nat×Nat):BS:=(l.take p.2).drop p.1
def cur (l:BS)(pos:Nat)(st:Option Nat):List BS:=match st with|some a=> [pc l (a,pos)]|none=> []
theorem spans_joined (l:BS)(hl: ∀c∈l,c.toNat<128): ∀(f pos:Nat)(st:Option Nat)(acc:List (Nat×Nat)),l.length≤pos+f→pos≤l.length→(∀a,st=some a→a<pos)→(∀p∈acc,p.1<p.2∧p.2≤l.length)→
 jn ((Lib.closeSpans ⟨l.toArray⟩ (Lib.spansFromP wsR ⟨l.toArray⟩ f pos st acc)).map (pc l))=((l.drop pos).foldl joinStep (jn (acc.map (pc l)++cur l pos st),st.isNone&& !(jn (acc.map (pc l)++cur l pos st)).isEmpty)).1:=by
 intro f
 have hend: ∀(pos:Nat) (st:Option Nat) (acc:List (Nat×Nat)),pos=l.length→(Lib.closeSpans ⟨l.toArray⟩ (acc,st)).map (pc l)=acc.map (pc l)++cur l pos st:=by
  intro pos st acc hp
  cases st with
  |none=>simp [Lib.closeSpans,cur]
  |some a=>simp [Lib.closeSpans,cur,hp];rfl
 induction f with
 |zero=>
  intro pos st acc h1 h2 _ _
  have hp:pos=l.length:=by omega
  rw [show Lib.spansFromP wsR ⟨l.toArray⟩ 0 pos st acc=(acc,st)from rfl,hend pos st acc hp,hp,List.drop_length];rfl
 |succ f ih=>
  intro pos st acc h1 h2 h3 h4
  by_cases hlt:pos<l.length
  ·have hd:Utf8.decode ⟨l.toArray⟩ pos=(l[pos].toNat,1):=decode_ascii ⟨l.toArray⟩ pos hlt (hl _ (List.getElem_mem hlt))
   have hdr:l.drop pos=l[pos]::l.drop (pos+1):=List.drop_eq_getElem_cons hlt
   rw [hdr,List.foldl_cons]
   unfold Lib.spansFromP
   rw [if_pos (show pos<(⟨l.toArray⟩:ByteArray).size from hlt),hd]
   simp only
   rw [ws_blank]
   have htk: ∀a,a≤pos→pc l (a,pos+1)=pc l (a,pos)++ [l[pos]]:=by
    intro a ha
    unfold pc
    rw [List.take_succ_eq_append_getElem hlt,List.drop_append_of_le_length (by rw [List.length_take];omega)]
   cases hb:blank l[pos]with
   |true=>
    cases st with
    |some a=>
     simp only [if_true]
     rw [ih (pos+1) none _ (by omega) (by omega) (by simp) (by
      intro p hp
      rcases List.mem_append.1 hp with h|h
      ·exact h4 p h
      ·simp at h;subst h;exact⟨h3 a rfl,by omega⟩)]
     simp [cur,joinStep,hb]
    |none=>
     simp only [if_true]
     rw [ih (pos+1) none _ (by omega) (by omega) (by simp) h4]
     simp [cur,joinStep,hb]
   |false=>
    cases st with
    |some a=>
     simp only [Bool.false_eq_true,if_false]
     have ha:=h3 a rfl
     rw [ih (pos+1) (some a) _ (by omega) (by omega) (by intro b hb;injection hb with hb;omega) h4]
     simp only [cur,joinStep,hb,Option.isNone_some,Bool.false_and,Bool.false_eq_true,if_false]
     rw [htk a (by omega)]
     congr 3
     rw [jn_snoc,jn_snoc]
     split<;>simp
    |none=>
     simp only [Bool.false_eq_true,if_false]
     rw [ih (pos+1) (some pos) _ (by omega) (by omega) (by intro b hb;injection hb with hb;omega) h4]
     simp only [cur,joinStep,hb,Option.isNone_some,Option.isNone_none,Bool.false_and,Bool.true_and,Bool.false_eq_true,if_false,List.append_nil]
     rw [htk pos (Nat.le_refl _)]
     have hp0:pc l (pos,pos)= []:=by unfold pc;exact List.drop_eq_nil_of_le (by rw [List.length_take];omega)
     rw [hp0,List.nil_append]
     congr 3
     rw [jn_snoc]
     by_cases hx:acc.map (pc l)= []
     ·rw [hx];rfl
     ·have:=jn_ne _ hx (by
       intro x hxm
       obtain⟨p,hp,rfl⟩:=List.mem_map.1 hxm
       have:=h4 p hp
       intro e
       have e:=congrArg List.length e
       unfold pc at e
       rw [List.length_drop,List.length_take,List.length_nil]at e
       omega)
      rw [if_neg hx]
      cases hj:jn (acc.map (pc l))with
      |nil=>exact absurd hj this
      |cons y r=>simp
  ·have hp:pos=l.length:=by omega
   rw [Lib.spansFromP_end wsR ⟨l.toArray⟩ (f+1) pos st acc (show¬pos<(⟨l.toArray⟩:ByteArray).size by show¬pos<l.length;omega),hend pos st acc hp,hp,List.drop_length];rfl
theorem fields_joined (l:BS)(hl: ∀c∈l,c.toNat<128):Lib.join ((Lib.goFieldsP wsR ⟨l.toArray⟩).map (·.data.toList)) [32]=joined l:=by
 have h:=spans_joined l hl l.length 0 none [] (by omega) (by omega) (by simp) (by simp)
 have e:(Lib.goFieldsP wsR ⟨l.toArray⟩).map (·.data.toList)=(Lib.closeSpans ⟨l.toArray⟩ (Lib.spansFromP wsR ⟨l.toArray⟩ l.length 0 none [])).map (pc l):=by
  unfold Lib.goFieldsP Lib.spansOfP
  rw [List.map_map]
  apply List.map_congr_left
  intro p _
  show((⟨l.toArray⟩:ByteArray).extract p.1 p.2).data.toList=_
  simp [pc,ByteArray.data_extract]
  rw [List.drop_take]
 rw [e]
 refine h.trans ?_
 rfl
structure SgMsg (o:Opt)(F:List BS)(b M:BS)(P F':List BS)(b':BS):Prop where
 heads:heads M=some (P++signed o F b::F',b')
 other: ∀f∈P++F',lname f≠dkimS
 opt:OptOk o
 nms:NamesOk (namesOf o F)
def vcode (o:Opt)(F:List BS)(b:BS)(FS:List BS)(b':BS)(key:Option BS)(now:Nat):Nat:=
 if o.exp≠0∧o.exp<now then 2 else match key with
  |none=>2
  |some k=>if judged (formOf o.hdr) (formOf o.bdy) k (sha (bodyOf (formOf o.bdy) b)) (sigOf o F b) FS (namesOf o F) (signed o F b) b' then 0 else 1
theorem vcode_late {o:Opt} {F:List BS} {b:BS} {FS:List BS} {b':BS} {key:Option BS} (h:o.exp≠0):vcode o F b FS b' key (o.exp+1)=2:=by
 unfold vcode;rw [if_pos ⟨h,by omega⟩]
theorem vcode_none {o:Opt} {F:List BS} {b:BS} {FS:List BS} {b':BS} {now:Nat} :vcode o F b FS b' none now=2:=by
 unfold vcode;simp
theorem vcode_ok {o:Opt} {F:List BS} {b:BS} (ho:OptOk o)(hn:NamesOk (namesOf o F))(P F':List BS)(b':BS)(hb:bodyOf (formOf o.bdy) b'=bodyOf (formOf o.bdy) b)
 (hP:allOf (formOf o.hdr) (P++signed o F b::F') (namesOf o F)=allOf (formOf o.hdr) F (namesOf o F)):vcode o F b (P++signed o F b::F') b' (some o.key) o.now=0:=by
 unfold vcode
 rw [if_neg (by rintro⟨h1,h2⟩;rcases ho.time with h|h<;>omega)]
 simp only [judged_signed ho hn P F' b' hb hP,if_true]
theorem vcode_key {o:Opt} {F:List BS} {b:BS} (ho:OptOk o)(FS:List BS)(b' k:BS):vcode o F b FS b' (some k) o.now=0∨vcode o F b FS b' (some k) o.now=1:=by
 unfold vcode
 rw [if_neg (by rintro⟨h1,h2⟩;rcases ho.time with h|h<;>omega)]
 simp only []
 split<;>simp
theorem MsgOk.flds {m:BS} {F:List BS} {b:BS} (h:MsgOk m F b): ∀f∈F,Fld f:=(heads_flds h.heads).all h.head
theorem SgMsg.ahead {o:Opt} {m:BS} {F:List BS} {b:BS} (ho:OptOk o)(hm:MsgOk m F b)(hf:o.all=true∨∃k∈o.keys,lower k=fromS)(P:List BS)(hP: ∀f∈P,Fld f∧lname f≠dkimS)(x:BS):
 SgMsg o F b (P.flatten++(signed o F b++(m++x))) P F (b++x):=by
 have hn:=names_ok ho hm hf
 refine⟨?_,fun f h=> ?_,ho,hn⟩
 ·have h:=heads_behind (P++ [signed o F b]) (m++x) F (b++x) (fun f h=> ?_) (heads_more x hm.heads) hm.ne hm.head
  ·rw [List.flatten_append,List.append_assoc,List.append_assoc]at h
   simpa using h
  ·rcases List.mem_append.1 h with h|h
   ·exact(hP f h).1
   ·obtain rfl:=List.mem_singleton.1 h;exact fld_signed ho hn
 ·rcases List.mem_append.1 h with h|h
  ·exact(hP f h).2
  ·exact(hm.fields f h).2.2.2.2
theorem SgMsg.upon {o:Opt} {m:BS} {F:List BS} {b:BS} (ho:OptOk o)(hm:MsgOk m F b)(hf:o.all=true∨∃k∈o.keys,lower k=fromS)(F':List BS)(hF: ∀f∈F',Fld f∧lname f≠dkimS)(x:BS):
 SgMsg o F b (signed o F b++(F'.flatten++(crlf++x))) [] F' x:=by
 have hn:=names_ok ho hm hf
 refine⟨?_,fun f h=>(hF f h).2,ho,hn⟩
 have h:=heads_written (signed o F b::F') x (fun f h=> ?_)
 ·rw [List.flatten_cons,List.append_assoc]at h;exact h
 ·rcases List.mem_cons.1 h with rfl|h
  ·exact fld_signed ho hn
  ·exact(hF f h).1
theorem fld_line {l:BS} (h:l≠ [])(h10:10∉l)(hc: ¬contL l):Fld (l++crlf):=by
 refine⟨⟨l,[],by simp,⟨h,h10⟩,by simp⟩,?_⟩
 rwa [contL_app _ _ h]
theorem cutAt_tail (c:UInt8)(l x:BS)(h:(cutAt c l).2.2=true):(cutAt c (l++x)).1=(cutAt c l).1:=by rw [cutAt_more c l x h]
def letters (l:BS):Prop:= ∀c∈l,97≤c∧c≤122
theorem letters_fact (c:UInt8)(h:97≤c∧c≤122):blank c=false∧c≠10∧c≠58∧low c=c∧plainB c=true:=by
 have: ∀c:Fin 256,97≤UInt8.ofNat c.val∧UInt8.ofNat c.val≤122→blank (UInt8.ofNat c.val)=false∧UInt8.ofNat c.val≠10∧UInt8.ofNat c.val≠58∧low (UInt8.ofNat c.val)=UInt8.ofNat c.val∧plainB (UInt8.ofNat c.val)=true:=by decide+kernel
 have h2:=this ⟨c.toNat,c.toNat_lt⟩
 simp only [UInt8.ofNat_toNat]at h2
 exact h2 h
theorem letters_dry {l:BS} (h:letters l):dry l:=fun c hc=>(letters_fact c (h c hc)).1
theorem letters_lower {l:BS} (h:letters l):lower l=l:=by
 unfold lower
 rw [List.map_congr_left (g:=id) fun c hc=>(letters_fact c (h c hc)).2.2.2.1]
 simp
theorem lname_one {n x:BS} (hd:dry n)(h58:58∉n):lname (n++58::x)=lower n:=by
 unfold lname name
 rw [cutAt_app 58 n x h58,trim_dry hd]
def xField (word:BS):BS:= [88,45]++word++ [58,32,121]++crlf
theorem xField_ok {word:BS} (h:letters word):Fld (xField word)∧lname (xField word)= [120,45]++word∧lname (xField word)≠dkimS∧plain (xField word)=true:=by
 have hl:=letters_lower h
 have hp:plain word=true:=plain_all.2 fun c hc=>(letters_fact c (h c hc)).2.2.2.2
 have hn:lname (xField word)= [120,45]++word:=by
  unfold xField
  rw [show [88,45]++word++ [58,32,121]++crlf=([88,45]++word)++58::([32,121]++crlf) by simp,lname_one]
  ·show lower ([88,45]++word)=_
   unfold lower at*
   rw [List.map_append,hl];rfl
  ·rw [dry_app];exact⟨by intro c hc;simp at hc;rcases hc with rfl|rfl<;>rfl,letters_dry h⟩
  ·intro hm;rcases List.mem_append.1 hm with hm|hm
   ·simp at hm
   ·exact(letters_fact _ (h _ hm)).2.2.1 rfl
 refine⟨?_,hn,?_,?_⟩
 ·refine fld_line (by simp) ?_ ?_
  ·intro hm
   simp only [List.mem_append]at hm
   rcases hm with(hm|hm)|hm
   ·simp at hm
   ·exact(letters_fact _ (h _ hm)).2.1 rfl
   ·simp at hm
  ·unfold contL;simp
 ·rw [hn];intro e;simp [dkimS]at e
 ·unfold xField;simp only [plain_app];exact⟨⟨⟨by decide,hp⟩,by decide⟩,by decide⟩
def anotherS:BS:= [58,32,97,110,111,116,104,101,114]
theorem aField_ok {nm:BS} (h:letters nm)(hne:nm≠ []):Fld (nm++anotherS++crlf)∧lname (nm++anotherS++crlf)=nm∧nm≠dkimS∧plain (nm++anotherS++crlf)=true:=by
 have hp:plain nm=true:=plain_all.2 fun c hc=>(letters_fact c (h c hc)).2.2.2.2
 refine⟨fld_line (by simp [hne]) ?_ ?_,?_,?_,?_⟩
 ·intro hm
  rcases List.mem_append.1 hm with hm|hm
  ·exact(letters_fact _ (h _ hm)).2.1 rfl
  ·simp [anotherS]at hm
 ·rw [contL_app _ _ hne]
  obtain⟨c,r,rfl⟩:=List.exists_cons_of_ne_nil hne
  have hb:=(letters_fact c (h c (by simp))).1
  unfold contL
  rintro(e|e)<;>(simp at e;subst e;exact absurd hb (by decide))
 ·rw [show nm++anotherS++crlf=nm++58::([32,97,110,111,116,104,101,114]++crlf) by simp [anotherS],lname_one (letters_dry h),letters_lower h]
  intro hm;exact(letters_fact _ (h _ hm)).2.2.1 rfl
 ·rintro rfl
  have:=h 45 (by simp [dkimS])
  exact absurd this.1 (by decide)
 ·simp only [plain_app];exact⟨⟨hp,by decide⟩,by decide⟩
def lastFrom (F:List BS):Nat:=(List.range F.length).foldl (fun a i=>if lname (F.getD i [])=fromS then i else a) 0
def moreOf (f word:BS):BS:=f.take (f.length-2)++word++crlf
def otherFrom (F:List BS)(word:BS):List BS:=F.set (lastFrom F) (moreOf (F.getD (lastFrom F) []) word)
theorem fld0_ends {f:BS} (h:Fld0 f): ∃g l,f=g++l++crlf∧Line l∧∀y,letters y→Fld0 (g++(l++y)++crlf):=by
 obtain⟨l,ls,rfl,hl,hls⟩:=h
 have hy: ∀(l y:BS),Line l→letters y→Line (l++y):=fun l y h1 h2=>⟨by simp [h1.1],fun hm=>by
  rcases List.mem_append.1 hm with hm|hm
  ·exact h1.2 hm
  ·exact(letters_fact _ (h2 _ hm)).2.1 rfl⟩
 rcases List.eq_nil_or_concat ls with rfl|⟨r,x,rfl⟩
 ·refine⟨[],l,by simp,hl,fun y h=>⟨l++y,[],by simp,hy l y hl h,by simp⟩⟩
 ·refine⟨l++crlf++(r.map (· ++crlf)).flatten,x,by simp,(hls x (by simp)).1,fun y h=>⟨l,r++ [x++y],by simp,hl,fun z hz=> ?_⟩⟩
  rcases List.mem_append.1 hz with hz|hz
  ·exact hls z (by simp [hz])
  ·obtain rfl:=List.mem_singleton.1 hz
   have:=hls x (by simp)
   exact⟨hy x y this.1 h,(contL_app _ _ this.1.1).2 this.2⟩
theorem more_ok {f word:BS} (h:Fld f)(hw:letters word)(h58:58∈f):Fld (moreOf f word)∧lname (moreOf f word)=lname f:=by
 obtain⟨g,l,e,hl,hy⟩:=fld0_ends h.1
 have ht:f.take (f.length-2)=g++l:=by
  rw [e,show(g++l++crlf).length-2=(g++l).length by rw [List.length_append];rfl,List.take_left]
 have hgl:g++l≠ []:=by simp [hl.1]
 have hm:moreOf f word=g++(l++word)++crlf:=by unfold moreOf;rw [ht];simp
 have hin:58∈g++l:=by
  rw [e]at h58
  rcases List.mem_append.1 h58 with h|h
  ·exact h
  ·simp [crlf]at h
 have hc:(cutAt 58 (g++l)).2.2=true:=by
  have key: ∀l:BS,58∈l→(cutAt 58 l).2.2=true:=by
   intro l
   induction l with
   |nil=>intro h;simp at h
   |cons c r ih=>
    intro h
    rw [cutAt]
    split
    ·rfl
    ·next hne=>exact ih ((List.mem_cons.1 h).resolve_left fun e=>hne e.symm)
  exact key _ hin
 refine⟨⟨by rw [hm];exact hy word hw,?_⟩,?_⟩
 ·rw [hm,show g++(l++word)++crlf=(g++l)++(word++crlf) by simp,contL_app _ _ hgl]
  have h2:=h.2
  rw [e,contL_app _ _ hgl]at h2
  exact h2
 ·unfold lname name
  rw [hm,show g++(l++word)++crlf=(g++l)++(word++crlf) by simp,cutAt_tail _ _ _ hc]
  conv=>rhs;rw [e,cutAt_tail _ _ _ hc]
theorem otherFrom_ok {F:List BS} {word:BS} (h: ∀f∈F,Fld f∧lname f≠dkimS∧58∈f)(hw:letters word): ∀f∈otherFrom F word,Fld f∧lname f≠dkimS:=by
 intro f hf
 unfold otherFrom at hf
 rcases List.mem_or_eq_of_mem_set hf with hf|rfl
 ·exact⟨(h f hf).1,(h f hf).2.1⟩
 ·by_cases hl:lastFrom F<F.length
  ·have hm:=h _ (List.getElem_mem hl)
   rw [List.getD_eq_getElem?_getD,List.getElem?_eq_getElem hl]
   have:=more_ok hm.1 hw hm.2.2
   exact⟨this.1,by rw [show(some F[lastFrom F]).getD []=F[lastFrom F]from rfl,this.2];exact hm.2.1⟩
  ·rw [List.set_eq_of_length_le (by omega)]at hf
   exact⟨(h _ hf).1,(h _ hf).2.1⟩
theorem cnt_map (F:List BS)(y:BS):countIn y (F.map name)=cntF F y 0:=by
 unfold countIn cntF named lname
 rw [List.drop_zero,List.filter_map,List.length_map];rfl
theorem cnt_one (f y:BS)(h:lname f≠y):cntF [f] y 0=0:=by
 unfold cntF named
 have:(lname f==y)=false:=by simpa using h
 simp [this]
theorem law_x {o:Opt} {m:BS} {F:List BS} {b:BS} (ho:OptOk o)(hm:MsgOk m F b)(hf:o.all=true∨∃k∈o.keys,lower k=fromS)(f:BS)(hn:o.all=true∨∀k∈o.keys,lower k≠lname f):
 vcode o F b ([f]++signed o F b::F) b (some o.key) o.now=0:=by
 have hN:=names_ok ho hm hf
 refine vcode_ok ho hN [f] F b rfl (all_behind ho hN _ [f] F _ (fun x hx=>(hN.all x hx).2) fun x hx=> ?_)
 unfold namesOf at*
 cases ha:o.all with
 |true=>simp only [ha,if_true]at hx⊢;right;rw [cnt_map];exact Nat.le_refl _
 |false=>
  simp only [ha,Bool.false_eq_true,if_false]at hx
  rw [ha]at hn
  exact .inl (cnt_one f _ fun e=>(hn.resolve_left (by simp)) x hx e.symm)
theorem law_same {o:Opt} {m:BS} {F:List BS} {b:BS} (ho:OptOk o)(hm:MsgOk m F b)(hf:o.all=true∨∃k∈o.keys,lower k=fromS):
 vcode o F b ([]++signed o F b::F) b (some o.key) o.now=0:=by
 have hN:=names_ok ho hm hf
 exact vcode_ok ho hN [] F b rfl (all_behind ho hN _ [] F _ (fun x hx=>(hN.all x hx).2) fun x hx=> .inl (by simp [cntF]))
theorem law_body {o:Opt} {m:BS} {F:List BS} {b b':BS} (ho:OptOk o)(hm:MsgOk m F b)(hf:o.all=true∨∃k∈o.keys,lower k=fromS)(hb:bodyOf (formOf o.bdy) b=bodyOf (formOf o.bdy) b'):
 vcode o F b ([]++signed o F b::F) b' (some o.key) o.now=0:=by
 have hN:=names_ok ho hm hf
 exact vcode_ok ho hN [] F b' hb.symm (all_behind ho hN _ [] F _ (fun x hx=>(hN.all x hx).2) fun x hx=> .inl (by simp [cntF]))
theorem law_head {o:Opt} {m:BS} {F F':List BS} {b:BS} (ho:OptOk o)(hm:MsgOk m F b)(hf:o.all=true∨∃k∈o.keys,lower k=fromS)(hb:allOf (formOf o.hdr) F (namesOf o F)=allOf (formOf o.hdr) F' (namesOf o F)):
 vcode o F b ([]++signed o F b::F') b (some o.key) o.now=0:=by
 have hN:=names_ok ho hm hf
 refine vcode_ok ho hN [] F' b rfl ?_
 rw [hb]
 exact all_behind ho hN _ [] F' _ (fun x hx=>(hN.all x hx).2) fun x hx=> .inl (by simp [cntF])
def fromU:BS:= [70,114,111,109]
def overN (F:List BS)(nm:BS):Nat:=if nm=fromS then cntF F nm 0-1 else cntF F nm 0
def overKeys (F:List BS)(nm:BS)(once:Bool):List BS:=fromU::(List.replicate (overN F nm) nm++if once then [nm]else [])
def overO (o:Opt)(F:List BS)(nm:BS)(once:Bool):Opt:= { o with all:=false,keys:=overKeys F nm once }
theorem over_from (o:Opt)(F:List BS)(nm:BS)(once:Bool):(overO o F nm once).all=true∨∃k∈(overO o F nm once).keys,lower k=fromS:= .inr ⟨fromU,by simp [overO,overKeys],rfl⟩
theorem over_mem {F:List BS} {nm:BS} {once:Bool} {k:BS} (h:k∈overKeys F nm once):k=fromU∨k=nm:=by
 unfold overKeys at h
 rcases List.mem_cons.1 h with h|h
 ·exact .inl h
 ·rcases List.mem_append.1 h with h|h
  ·exact .inr (List.eq_of_mem_replicate h)
  ·split at h
   ·exact .inr (List.mem_singleton.1 h)
   ·simp at h
theorem letters_word {nm:BS} (h:letters nm)(hne:nm≠ []):WordN nm:=by
 refine⟨⟨letters_dry h,fun hm=> ?_⟩,hne,fun hm=> ?_,fun hm=> ?_⟩<;> · have:=(h _ hm).1;exact absurd this (by decide)
theorem over_ok {o:Opt} {F:List BS} {nm:BS} {once:Bool} (ho:OptOk o)(h:letters nm)(hne:nm≠ [])(hl:nm.length≤200)(hk:(overKeys F nm once).length≤20):OptOk (overO o F nm once) where
 dom:=ho.dom
 sel:=ho.sel
 keys:=fun k hk=>by
  rcases over_mem hk with rfl|rfl
  ·exact⟨⟨word_of rfl,by decide,by decide,by decide⟩,by decide⟩
  ·refine⟨letters_word h hne,?_⟩
   rw [letters_lower h];exact(aField_ok h hne).2.2.1
 ident:=ho.ident
 kind:=ho.kind
 hdr:=ho.hdr
 bdy:=ho.bdy
 time:=ho.time
 now:=ho.now
 exp:=ho.exp
 key:=ho.key
 nkeys:=hk
 lens:=⟨ho.lens.1,ho.lens.2.1,ho.lens.2.2.1,fun k hk=>by
  rcases over_mem hk with rfl|rfl
  ·decide
  ·exact hl⟩
 plain:=⟨ho.plain.1,ho.plain.2.1,ho.plain.2.2.1,fun k hk=>by
  rcases over_mem hk with rfl|rfl
  ·decide
  ·exact plain_all.2 fun c hc=>(letters_fact c (h c hc)).2.2.2.2⟩
theorem count_rep (y nm:BS)(n:Nat):countIn y (List.replicate n nm)=if lower nm=y then n else 0:=by
 unfold countIn
 by_cases h:lower nm=y
 ·rw [List.filter_replicate_of_pos (by simpa using h),List.length_replicate,if_pos h]
 ·rw [List.filter_replicate_of_neg (by simpa using h),if_neg h];rfl
theorem over_count {F:List BS} {nm:BS} (h:letters nm)(hF:nm=fromS→0<cntF F nm 0):countIn nm (overKeys F nm false)≤cntF F nm 0:=by
 unfold overKeys
 have e:countIn nm (fromU::(List.replicate (overN F nm) nm++if false=true then [nm]else []))=(if fromS=nm then 1 else 0)+countIn nm (List.replicate (overN F nm) nm):=by
  unfold countIn
  rw [List.filter_cons]
  have hfu:lower fromU=fromS:=rfl
  by_cases e:fromS=nm
  ·subst e;simp [hfu];omega
  ·have:(lower fromU==nm)=false:=by rw [hfu];simpa using e
   simp [this,e]
 rw [e,count_rep,letters_lower h,if_pos rfl]
 unfold overN
 by_cases e:nm=fromS
 ·rw [if_pos e.symm,if_pos e];have:=hF e;omega
 ·rw [if_neg (fun h=>e h.symm),if_neg e];omega
theorem from_cnt {m:BS} {F:List BS} {b:BS} (hm:MsgOk m F b):0<cntF F fromS 0:=by
 obtain⟨f,hf,hn⟩:=hm.from_
 unfold cntF
 rw [List.drop_zero]
 exact List.length_pos_of_mem (List.mem_filter.2 ⟨hf,by unfold named;simpa using hn⟩)
theorem law_over {o:Opt} {m:BS} {F:List BS} {b:BS} {nm:BS} (ho:OptOk o)(hm:MsgOk m F b)(h:letters nm)(hne:nm≠ [])(hl:nm.length≤200)(hk:(overKeys F nm false).length≤20):
 vcode (overO o F nm false) F b ([nm++anotherS++crlf]++signed (overO o F nm false) F b::F) b (some o.key) o.now=0:=by
 have hO:=over_ok (F:=F) (once:=false) ho h hne hl hk
 have hN:=names_ok hO hm (over_from o F nm false)
 refine vcode_ok hO hN [nm++anotherS++crlf] F b rfl (all_behind hO hN _ _ F _ (fun x hx=>(hN.all x hx).2) fun x hx=> ?_)
 have hx':x∈overKeys F nm false:=hx
 show _∨countIn (lower x) (overKeys F nm false)≤_
 have ha:=(aField_ok h hne).2.1
 by_cases e:lower x=nm
 ·right
  rw [e]
  exact over_count h fun e2=>by rw [e2];exact from_cnt hm
 ·exact .inl (cnt_one _ _ (by rw [ha];exact fun h=>e h.symm))
end Go.Proofs.YtgilnagajcfkpaaGreatDoor
