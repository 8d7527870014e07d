
set_option maxHeartbeats 4000000
set_option maxRecDepth 1000000
set_option linter.all false
namespace Go.Proofs.YtgilnagajcfkpaaGreatDoor
abbrev BS:=List UInt8
def blank (c:UInt8):Bool:=c==32||c==9||c==13||c==10
def strip (l:BS):BS:=l.filter fun c=> !blank c
def cutAt (c:UInt8):BS→BS×BS×Bool
 | []=>([],[],false)
 |x::r=>if x=c then([],r,true)else(x::(cutAt c r).1,(cutAt c r).2.1,(cutAt c r).2.2)
def splitAt (c:UInt8):BS→List BS
 | []=> [[]]
 |x::r=>if x=c then []::splitAt c r else(x::(splitAt c r).headD [])::(splitAt c r).tail
def rtrim (l:BS):BS:=(l.reverse.dropWhile blank).reverse
def trim (l:BS):BS:=rtrim (l.dropWhile blank)
def low (c:UInt8):UInt8:=if 65≤c∧c≤90 then c+32 else c
def lower (l:BS):BS:=l.map low
def plainB (c:UInt8):Bool:=decide (c<128)&&c !=11&&c !=12
def plain (l:BS):Bool:=l.all plainB
def name (f:BS):BS:=trim (cutAt 58 f).1
def bareB (c:UInt8):Bool:=c !=32&&c !=13&&c !=10
def bare (l:BS):BS:=l.filter bareB
def eolB (c:UInt8):Bool:=c==13||c==10
def without (l:BS):BS:=(l.reverse.dropWhile eolB).reverse
def endStep (s:BS×Bool)(c:UInt8):BS×Bool:=(s.1++(if c==10&& !s.2 then [13,10]else [c]),c==13)
def eFr (cr:Bool)(l:BS):BS×Bool:=l.foldl endStep ([],cr)
def ended (l:BS):BS:=(eFr false l).1
def joinStep (s:BS×Bool)(c:UInt8):BS×Bool:=if blank c then(s.1,!s.1.isEmpty)else((if s.2 then s.1++ [32]else s.1)++ [c],false)
def joined (l:BS):BS:=(l.foldl joinStep ([],false)).1
def crlf:BS:= [13,10]
def simpleS:BS:= [115,105,109,112,108,101]
def relaxedS:BS:= [114,101,108,97,120,101,100]
def fieldOf (form field:BS):BS:=
 if form=simpleS then field
 else if(cutAt 58 field).2.2 then trim (lower (cutAt 58 field).1)++ [58]++joined (cutAt 58 field).2.1++crlf
 else trim (lower field)++ [58,13,10]
def relStep (s:BS×Bool×BS)(c:UInt8):BS×Bool×BS:=
 if c==32||c==9 then(s.1,true,s.2.2)
 else if c==13||c==10 then(s.1,false,s.2.2++ [c])
 else(s.1++s.2.2++(if s.2.1 then [32]else [])++ [c],false,[])
def noEndsR:BS→BS
 |10::13::r=>noEndsR r
 |l=>l
def noEnds (l:BS):BS:=(noEndsR l.reverse).reverse
def bodyOf (form body:BS):BS:=
 if form=simpleS then noEnds (ended body)++crlf
 else
  let r:=((ended body).foldl relStep ([],false,[])).1
  if r= []then []else r++crlf
def emptied:Nat→BS→BS
 |0,_=> []
 |_+1,[]=> []
 |n+1,c::r=>
  if c=98∧(r.dropWhile blank).head?=some 61 then
   c::r.takeWhile blank++ [61]++emptied n ((r.dropWhile blank).tail.dropWhile (· !=59))
  else c::emptied n r
def addLine (out:List BS)(line:BS):List BS:=
 if out≠ []∧(line.head?=some 32∨line.head?=some 9)then out.dropLast++ [out.getLast?.getD []++line++crlf]else out++ [line++crlf]
def unCR (l:BS):BS:=if l.getLast?=some 13 then l.dropLast else l
def headGo:Nat→List BS→BS→Option (List BS×BS)
 |0,_,_=>none
 |n+1,out,m=>
  if(cutAt 10 m).2.2 then
   if unCR (cutAt 10 m).1= []then some (out,(cutAt 10 m).2.1)else headGo n (addLine out (unCR (cutAt 10 m).1)) (cutAt 10 m).2.1
  else none
def heads (m:BS):Option (List BS×BS):=headGo (m.length+1) [] m
def findDown (p:Nat→Bool):Nat→Option Nat
 |0=>none
 |k+1=>if p k then some k else findDown p k
def pickP (fs:List BS)(used:List Bool)(nm:BS)(k:Nat):Bool:= !used.getD k true&&lower (name (fs.getD k []))==lower nm
def pickStep (fs:List BS)(s:List Bool×List BS)(nm:BS):List Bool×List BS:=
 match findDown (pickP fs s.1 nm) fs.length with
 |none=>(s.1,s.2++ [[]])
 |some k=>(s.1.set k true,s.2++ [fs.getD k []])
def picked (fs names:List BS):List BS:=(names.foldl (pickStep fs) (List.replicate fs.length false,[])).2
theorem foldl_snoc {α β :Type} (f: α → β → α)(s: α)(l:List β)(k:Nat)(h:k<l.length):(l.take (k+1)).foldl f s=f ((l.take k).foldl f s) l[k]:=by
 rw [List.take_succ_eq_append_getElem h,List.foldl_append];rfl
theorem filter_snoc {β :Type} (p: β →Bool)(l:List β)(k:Nat)(h:k<l.length):(l.take (k+1)).filter p=(l.take k).filter p++if p l[k]then [l[k]]else []:=by
 rw [List.take_succ_eq_append_getElem h,List.filter_append]
 cases hb:p l[k]<;>simp [hb]
theorem cutAt_at (c:UInt8)(l:BS)(k:Nat)(h:k<l.length)(hn: ∀j,(hj:j<k)→l[j]≠c)(hc:l[k]=c):cutAt c l=(l.take k,l.drop (k+1),true):=by
 induction l generalizing k with
 |nil=>simp at h
 |cons x r ih=>
  cases k with
  |zero=>simp at hc;simp [cutAt,hc]
  |succ k=>
   have hx:x≠c:=hn 0 (by omega)
   have:=ih k (by simpa using h) (fun j hj=>hn (j+1) (by omega)) (by simpa using hc)
   simp [cutAt,hx,this]
theorem cutAt_none (c:UInt8)(l:BS)(hn: ∀j,(hj:j<l.length)→l[j]≠c):cutAt c l=(l,[],false):=by
 induction l with
 |nil=>rfl
 |cons x r ih=>
  have hx:x≠c:=hn 0 (by simp)
  have:=ih (fun j hj=>hn (j+1) (by simpa using hj))
  simp [cutAt,hx,this]
theorem cutAt_len (c:UInt8)(l:BS):(cutAt c l).1.length≤l.length∧(cutAt c l).2.1.length≤l.length∧((cutAt c l).2.2=true→(cutAt c l).2.1.length<l.length):=by
 induction l with
 |nil=>simp [cutAt]
 |cons x r ih=>
  by_cases h:x=c
  ·simp [cutAt,h]
  ·simp only [cutAt,h,if_false,List.length_cons]
   refine⟨by omega,by omega,fun h=> ?_⟩
   have:=ih.2.2 h
   omega
theorem splitAt_ne (c:UInt8)(l:BS):splitAt c l≠ []:=by
 cases l with
 |nil=>simp [splitAt]
 |cons x r=>simp only [splitAt];split<;>simp
theorem splitAt_cut (c:UInt8)(l:BS):splitAt c l=(cutAt c l).1::if(cutAt c l).2.2 then splitAt c (cutAt c l).2.1 else []:=by
 induction l with
 |nil=>simp [splitAt,cutAt]
 |cons x r ih=>
  by_cases h:x=c
  ·simp [splitAt,cutAt,h]
  ·simp only [splitAt,cutAt,h,if_false]
   rw [ih];simp
theorem spL (c:UInt8)(l:BS):(splitAt c l).length≤l.length+1:=by
 induction l with
 |nil=>simp [splitAt]
 |cons x r ih=>
  have:=splitAt_ne c r
  simp only [splitAt]
  split
  ·simp;omega
  ·simp;cases hs:splitAt c r<;>simp_all;omega
theorem strip_snoc (l:BS)(k:Nat)(h:k<l.length):strip (l.take (k+1))=strip (l.take k)++if blank l[k]then []else [l[k]]:=by
 rw [strip,filter_snoc _ l k h,strip];cases blank l[k]<;>rfl
theorem strip_len (l:BS):(strip l).length≤l.length:=List.length_filter_le _ _
theorem rtrim_snoc (l:BS)(c:UInt8):rtrim (l++ [c])=if blank c then rtrim l else l++ [c]:=by
 unfold rtrim
 simp only [List.reverse_append,List.reverse_cons,List.reverse_nil,List.nil_append,List.cons_append,List.dropWhile_cons]
 split<;>simp
theorem without_snoc (l:BS)(c:UInt8):without (l++ [c])=if eolB c then without l else l++ [c]:=by
 unfold without
 simp only [List.reverse_append,List.reverse_cons,List.reverse_nil,List.nil_append,List.cons_append,List.dropWhile_cons]
 split<;>simp
theorem eq_snoc (l:BS)(h:l≠ []): ∃r c,l=r++ [c]:=⟨l.dropLast,l.getLast h,(List.dropLast_concat_getLast h).symm⟩
theorem rtrim_len (l:BS):(rtrim l).length≤l.length:=by
 unfold rtrim
 have:=(List.dropWhile_sublist blank (l:=l.reverse)).length_le
 simpa using this
theorem trim_len (l:BS):(trim l).length≤l.length:=by
 have h1:=rtrim_len (l.dropWhile blank)
 have:=(List.dropWhile_sublist blank (l:=l)).length_le
 unfold trim;omega
theorem lwL (l:BS):(lower l).length=l.length:=by simp [lower]
theorem joined_len (l:BS):(joined l).length≤2*l.length:=by
 have h: ∀(l:BS) (s:BS×Bool),(l.foldl joinStep s).1.length≤s.1.length+2*l.length:=by
  intro l
  induction l with
  |nil=>intro s;simp
  |cons x r ih=>
   intro s
   have h1:=ih (joinStep s x)
   have h2:(joinStep s x).1.length≤s.1.length+2:=by unfold joinStep;repeat' split
                                                    all_goals simp
   simp only [List.foldl_cons,List.length_cons]
   omega
 have:=h l ([],false)
 simp only [List.length_nil,Nat.zero_add]at this
 exact this
theorem ended_len (cr:Bool)(l:BS):(eFr cr l).1.length≤2*l.length:=by
 have h: ∀(l:BS) (s:BS×Bool),(l.foldl endStep s).1.length≤s.1.length+2*l.length:=by
  intro l
  induction l with
  |nil=>intro s;simp
  |cons x r ih=>
   intro s
   have h1:=ih (endStep s x)
   have h2:(endStep s x).1.length≤s.1.length+2:=by unfold endStep;simp only [];split<;>simp
   simp only [List.foldl_cons,List.length_cons]
   omega
 have:=h l ([],cr)
 simp only [List.length_nil,Nat.zero_add]at this
 exact this
abbrev Tag:=BS×BS
def item (t:Tag):BS:= [32]++t.1++ [61]++t.2++ [59]
def fmtStep (s:BS×BS)(t:Tag):BS×BS:=
 if 75<3+s.2.length+t.2.length+t.1.length then(s.1++s.2++crlf,item t)else(s.1,s.2++item t)
def fmtFields (nm:BS)(tags:List Tag):BS:=(tags.foldl fmtStep (nm++ [58],[])).1++(tags.foldl fmtStep (nm++ [58],[])).2
def sigName:BS:= [68,75,73,77,45,83,105,103,110,97,116,117,114,101]
def sigField (tags:List Tag)(b:BS):BS:=fmtFields sigName tags++crlf++ [32,98,61]++b++crlf
theorem fmt_seps (tags:List Tag): ∀(s line:BS),∃seps:List BS,seps.length=tags.length∧(∀x∈seps,x= []∨x=crlf)∧
 (tags.foldl fmtStep (s,line)).1++(tags.foldl fmtStep (s,line)).2=s++line++(List.zipWith (fun p t=>p++item t) seps tags).flatten:=by
 induction tags with
 |nil=>intro s line;exact⟨[],rfl,by simp,by simp⟩
 |cons t r ih=>
  intro s line
  simp only [List.foldl_cons]
  by_cases h:75<3+line.length+t.2.length+t.1.length
  ·obtain⟨seps,h1,h2,h3⟩:=ih (s++line++crlf) (item t)
   refine⟨crlf::seps,by simp [h1],fun x hx=> ?_,?_⟩
   ·rcases List.mem_cons.1 hx with rfl|hx
    ·exact .inr rfl
    ·exact h2 x hx
   ·rw [show fmtStep (s,line) t=(s++line++crlf,item t) by simp [fmtStep,h],h3]
    simp [List.append_assoc]
  ·obtain⟨seps,h1,h2,h3⟩:=ih s (line++item t)
   refine⟨[]::seps,by simp [h1],fun x hx=> ?_,?_⟩
   ·rcases List.mem_cons.1 hx with rfl|hx
    ·exact .inl rfl
    ·exact h2 x hx
   ·rw [show fmtStep (s,line) t=(s,line++item t) by simp [fmtStep,h],h3]
    simp [List.append_assoc]
theorem splitAt_one (c:UInt8)(p:BS)(h:c∉p):splitAt c p= [p]:=by
 induction p with
 |nil=>rfl
 |cons x r ih=>
  have hx:x≠c:=fun e=>h (by simp [e])
  rw [splitAt,if_neg hx,ih (fun hm=>h (List.mem_cons_of_mem _ hm))];rfl
theorem splitAt_app (c:UInt8)(p r:BS)(h:c∉p):splitAt c (p++c::r)=p::splitAt c r:=by
 induction p with
 |nil=>simp [splitAt]
 |cons x q ih=>
  have hx:x≠c:=fun e=>h (by simp [e])
  rw [List.cons_append,splitAt,if_neg hx,ih (fun hm=>h (List.mem_cons_of_mem _ hm))];rfl
theorem cutAt_app (c:UInt8)(p r:BS)(h:c∉p):cutAt c (p++c::r)=(p,r,true):=by
 induction p with
 |nil=>simp [cutAt]
 |cons x q ih=>
  have hx:x≠c:=fun e=>h (by simp [e])
  rw [List.cons_append,cutAt,if_neg hx,ih (fun hm=>h (List.mem_cons_of_mem _ hm))]
theorem cutAt_no (c:UInt8)(p:BS)(h:c∉p):cutAt c p=(p,[],false):=by
 induction p with
 |nil=>rfl
 |cons x q ih=>
  have hx:x≠c:=fun e=>h (by simp [e])
  rw [cutAt,if_neg hx,ih (fun hm=>h (List.mem_cons_of_mem _ hm))]
def blanks (x:BS):Prop:= ∀c∈x,blank c=true
theorem dropWhile_blanks (x l:BS)(h:blanks x):(x++l).dropWhile blank=l.dropWhile blank:=by
 induction x with
 |nil=>rfl
 |cons c r ih=>
  rw [List.cons_append,List.dropWhile_cons,if_pos (h c (by simp)),ih (fun d hd=>h d (by simp [hd]))]
theorem rtrim_blanks (q l:BS)(h:blanks q):rtrim (l++q)=rtrim l:=by
 unfold rtrim
 rw [List.reverse_append,dropWhile_blanks _ _ (fun c hc=>h c (by simpa using hc))]
theorem trim_left (x l:BS)(h:blanks x):trim (x++l)=trim l:=by
 unfold trim;rw [dropWhile_blanks _ _ h]
theorem dropWhile_app (l q:BS)(h: ¬blanks l):(l++q).dropWhile blank=l.dropWhile blank++q:=by
 induction l with
 |nil=>exact absurd (fun c hc=>by simp at hc) h
 |cons c r ih=>
  rw [List.cons_append,List.dropWhile_cons,List.dropWhile_cons]
  split
  ·next hb=>
   refine ih (fun hr=>h ?_)
   intro d hd
   rcases List.mem_cons.1 hd with rfl|hd
   ·exact hb
   ·exact hr d hd
  ·rfl
theorem dropWhile_all (l:BS)(h:blanks l):l.dropWhile blank= []:=by
 have:=dropWhile_blanks l [] h
 simpa using this
theorem trim_right (l q:BS)(h:blanks q):trim (l++q)=trim l:=by
 unfold trim
 by_cases hl:blanks l
 ·rw [dropWhile_blanks _ _ hl,dropWhile_all _ hl,dropWhile_all _ h]
 ·rw [dropWhile_app _ _ hl,rtrim_blanks _ _ h]
def pmapStep (s:Option (List Tag))(p:BS):Option (List Tag):=
 s.bind fun out=>
  if(cutAt 61 p).2.2 then
   if out.any (fun t=>t.1==trim (cutAt 61 p).1)then none else some (out++ [(trim (cutAt 61 p).1,trim (cutAt 61 p).2.1)])
  else if trim p= []then some out else none
def pmap (l:BS):Option (List Tag):=(splitAt 59 l).foldl pmapStep (some [])
structure Neat (t:Tag):Prop where
 k59:59∉t.1
 k61:61∉t.1
 v59:59∉t.2
 kt:trim t.1=t.1
 vt:trim t.2=t.2
def wtags (ps:List (BS×Tag)):BS:=(ps.map fun x=>x.1++x.2.1++ [61]++x.2.2++ [59]).flatten
theorem blanks_no {x:BS} (h:blanks x)(c:UInt8)(hc:blank c=false):c∉x:=fun hm=>by
 have:=h c hm;rw [hc]at this;cases this
theorem splitAt_wtags (ps:List (BS×Tag))(last:BS)(h: ∀x∈ps,blanks x.1∧Neat x.2):
 splitAt 59 (wtags ps++last)=(ps.map fun x=>x.1++x.2.1++ [61]++x.2.2)++splitAt 59 last:=by
 induction ps with
 |nil=>simp [wtags]
 |cons x r ih=>
  obtain⟨hb,hn⟩:=h x (by simp)
  have e:wtags (x::r)++last=(x.1++x.2.1++ [61]++x.2.2)++59::(wtags r++last):=by simp [wtags,List.append_assoc]
  rw [e,splitAt_app,ih (fun y hy=>h y (by simp [hy]))]
  ·simp
  ·have:=blanks_no hb 59 rfl
   have:=hn.k59
   have:=hn.v59
   simp [*]
theorem pmapStep_neat (out:List Tag)(p q:BS)(t:Tag)(hp:blanks p)(hq:blanks q)(ht:Neat t)(hnew: ∀u∈out,u.1≠t.1):pmapStep (some out) (p++t.1++ [61]++t.2++q)=some (out++ [t]):=by
 have e:p++t.1++ [61]++t.2++q=(p++t.1)++61::(t.2++q):=by simp
 have hc:=cutAt_app 61 (p++t.1) (t.2++q) (by have:=blanks_no hp 61 rfl;have:=ht.k61;simp [*])
 rw [e,pmapStep,Option.bind_some,hc]
 simp only [if_true,trim_left _ _ hp,trim_right _ _ hq,ht.kt,ht.vt]
 rw [if_neg]
 simp only [List.any_eq_true,beq_iff_eq,not_exists,not_and]
 exact hnew
theorem pmap_fold (ps:List (BS×Tag)): ∀(out:List Tag),(∀x∈ps,blanks x.1∧Neat x.2)→((out.map (·.1))++ps.map (·.2.1)).Nodup→
 (ps.map fun x=>x.1++x.2.1++ [61]++x.2.2).foldl pmapStep (some out)=some (out++ps.map (·.2)):=by
 induction ps with
 |nil=>intro out _ _;simp
 |cons x r ih=>
  intro out h hd
  obtain⟨hb,hn⟩:=h x (by simp)
  simp only [List.map_cons,List.foldl_cons]
  have:=pmapStep_neat out x.1 [] x.2 hb (by simp [blanks]) hn (fun u hu e=>by
   rw [List.nodup_append]at hd
   exact hd.2.2 _ (List.mem_map_of_mem hu) _ (by simp) e)
  rw [List.append_nil]at this
  rw [this,ih _ (fun y hy=>h y (by simp [hy])) (by simpa using hd)]
  simp
theorem pmap_wtags (ps:List (BS×Tag))(p q:BS)(b:Tag)(h: ∀x∈ps,blanks x.1∧Neat x.2)(hp:blanks p)(hq:blanks q)(hb:Neat b)(hd:((ps.map (·.2.1))++ [b.1]).Nodup):
 pmap (wtags ps++(p++b.1++ [61]++b.2++q))=some (ps.map (·.2)++ [b]):=by
 unfold pmap
 rw [splitAt_wtags ps _ h,splitAt_one,List.foldl_append,pmap_fold ps [] h,List.foldl_cons,List.foldl_nil]
 ·rw [List.nil_append,pmapStep_neat _ p q b hp hq hb]
  intro u hu
  rw [List.nodup_append]at hd
  obtain⟨x,hx,rfl⟩:=List.mem_map.1 hu
  exact hd.2.2 _ (List.mem_map_of_mem hx) _ (by simp)
 ·rw [List.nodup_append]at hd
  simpa using hd.1
 ·have:=blanks_no hp 59 rfl
  have:=blanks_no hq 59 rfl
  have:=hb.k59
  have:=hb.v59
  simp [*]
def sigValue (seps:List BS)(tags:List Tag)(b:BS):BS:=wtags (List.zipWith (fun s t=>(s++ [32],t)) seps tags)++(crlf++ [32]++ [98]++ [61]++b++crlf)
theorem zip_item (seps:List BS)(tags:List Tag):(List.zipWith (fun p t=>p++item t) seps tags).flatten=wtags (List.zipWith (fun s t=>(s++ [32],t)) seps tags):=by
 induction seps generalizing tags with
 |nil=>simp [wtags]
 |cons s r ih=>
  cases tags with
  |nil=>simp [wtags]
  |cons t u=>
   simp only [List.zipWith_cons_cons,List.flatten_cons,ih]
   simp [wtags,item,List.append_assoc]
theorem sigField_eq (tags:List Tag)(b:BS): ∃seps:List BS,seps.length=tags.length∧(∀x∈seps,x= []∨x=crlf)∧∀b,sigField tags b=sigName++58::sigValue seps tags b:=by
 obtain⟨seps,h1,h2,h3⟩:=fmt_seps tags (sigName++ [58]) []
 refine⟨seps,h1,h2,fun b=> ?_⟩
 unfold sigField fmtFields sigValue
 rw [h3,zip_item]
 simp [List.append_assoc]
theorem headGo_fuel: ∀(n n':Nat)(out:List BS)(m:BS),m.length<n→m.length<n'→headGo n out m=headGo n' out m
 |0,_,_,_,h,_=>by omega
 |_+1,0,_,_,_,h=>by omega
 |n+1,n'+1,out,m,h,h'=>by
  rw [headGo,headGo]
  have hl:=cutAt_len 10 m
  split
  ·next hc=>
   split
   ·rfl
   ·exact headGo_fuel n n' _ _ (by have:=hl.2.2 hc;omega) (by have:=hl.2.2 hc;omega)
  ·rfl
def headsFrom (out:List BS)(m:BS):Option (List BS×BS):=headGo (m.length+1) out m
theorem heads_from (m:BS):heads m=headsFrom [] m:=rfl
theorem headsFrom_step (out:List BS)(m:BS):headsFrom out m=if(cutAt 10 m).2.2 then(if unCR (cutAt 10 m).1= []then some (out,(cutAt 10 m).2.1)else headsFrom (addLine out (unCR (cutAt 10 m).1)) (cutAt 10 m).2.1)else none:=by
 have hl:=cutAt_len 10 m
 unfold headsFrom
 rw [headGo]
 split
 ·next hc=>
  split
  ·rfl
  ·exact headGo_fuel _ _ _ _ (hl.2.2 hc) (Nat.lt_succ_self _)
 ·rfl
theorem headsFrom_line (out:List BS)(l m:BS)(h:10∉l):headsFrom out (l++10::m)=if unCR l= []then some (out,m)else headsFrom (addLine out (unCR l)) m:=by
 rw [headsFrom_step,cutAt_app 10 l m h];rfl
theorem unCR_cr (l:BS):unCR (l++ [13])=l:=by simp [unCR]
theorem headsFrom_crlf (out:List BS)(l m:BS)(h:10∉l):headsFrom out (l++crlf++m)=if l= []then some (out,m)else headsFrom (addLine out l) m:=by
 have e:l++crlf++m=(l++ [13])++10::m:=by simp [crlf]
 rw [e,headsFrom_line out _ m (by simp [h]),unCR_cr]
def contL (l:BS):Prop:=l.head?=some 32∨l.head?=some 9
instance (l:BS):Decidable (contL l):=by unfold contL;exact inferInstance
theorem contL_app (l r:BS)(h:l≠ []):contL (l++r)↔contL l:=by
 cases l with
 |nil=>exact absurd rfl h
 |cons=>exact Iff.rfl
def Line (l:BS):Prop:=l≠ []∧10∉l
def Fld0 (f:BS):Prop:= ∃(l:BS)(ls:List BS),f=l++crlf++(ls.map (· ++crlf)).flatten∧Line l∧∀x∈ls,Line x∧contL x
def Fld (f:BS):Prop:=Fld0 f∧¬contL f
theorem addLine_fresh (out:List BS)(l:BS)(h: ¬contL l):addLine out l=out++ [l++crlf]:=by
 unfold addLine;rw [if_neg];rintro⟨_,h2⟩;exact h h2
theorem addLine_nil (l:BS):addLine [] l= [l++crlf]:=by simp [addLine]
theorem addLine_cont (out:List BS)(f l:BS)(h:contL l):addLine (out++ [f]) l=out++ [f++l++crlf]:=by
 unfold addLine;rw [if_pos ⟨by simp,h⟩];simp
theorem headsFrom_conts (out:List BS)(f m:BS): ∀ls:List BS,(∀x∈ls,Line x∧contL x)→∀f,headsFrom (out++ [f]) ((ls.map (· ++crlf)).flatten++m)=headsFrom (out++ [f++(ls.map (· ++crlf)).flatten]) m
 | [],_,f=>by simp
 |x::r,h,f=>by
  obtain⟨hl,hc⟩:=h x (by simp)
  rw [List.map_cons,List.flatten_cons,List.append_assoc,headsFrom_crlf _ _ _ hl.2,if_neg hl.1,addLine_cont _ _ _ hc,headsFrom_conts out f m r (fun y hy=>h y (by simp [hy]))]
  simp [List.append_assoc]
theorem headsFrom_fld (out:List BS)(f m:BS)(h:Fld f):headsFrom out (f++m)=headsFrom (out++ [f]) m:=by
 obtain⟨⟨l,ls,rfl,hl,hls⟩,hc⟩:=h
 rw [List.append_assoc,contL_app _ _ hl.1]at hc
 have e:l++crlf++(ls.map (· ++crlf)).flatten++m=l++crlf++((ls.map (· ++crlf)).flatten++m):=by simp
 rw [e,headsFrom_crlf _ _ _ hl.2,if_neg hl.1,addLine_fresh _ _ hc,headsFrom_conts out [] m ls hls]
theorem headsFrom_flds (m:BS): ∀(F out:List BS),(∀f∈F,Fld f)→headsFrom out (F.flatten++m)=headsFrom (out++F) m
 | [],out,_=>by simp
 |f::r,out,h=>by
  rw [List.flatten_cons,List.append_assoc,headsFrom_fld out f _ (h f (by simp)),headsFrom_flds m r _ (fun g hg=>h g (by simp [hg]))]
  simp
theorem headsFrom_end (out:List BS)(body:BS):headsFrom out (crlf++body)=some (out,body):=by
 have:=headsFrom_crlf out [] body (by simp)
 rw [List.nil_append,if_pos rfl]at this;exact this
theorem headsFrom_written (out F:List BS)(body:BS)(h: ∀f∈F,Fld f):headsFrom out (F.flatten++(crlf++body))=some (out++F,body):=by
 rw [headsFrom_flds _ F out h,headsFrom_end]
theorem heads_written (F:List BS)(body:BS)(h: ∀f∈F,Fld f):heads (F.flatten++(crlf++body))=some (F,body):=by
 rw [heads_from,headsFrom_written [] F body h,List.nil_append]
def Flds (F:List BS):Prop:=(∀f∈F,Fld0 f)∧∀f∈F.tail,¬contL f
theorem Fld0.ne {f:BS} (h:Fld0 f):f≠ []:=by
 obtain⟨l,ls,rfl,hl,_⟩:=h
 intro e
 have:=hl.1
 simp at e;exact this e.1
theorem Fld0.more {f l:BS} (h:Fld0 f)(hl:Line l)(hc:contL l):Fld0 (f++l++crlf):=by
 obtain⟨a,ls,rfl,ha,hls⟩:=h
 refine⟨a,ls++ [l],by simp [List.append_assoc],ha,fun x hx=> ?_⟩
 rcases List.mem_append.1 hx with hx|hx
 ·exact hls x hx
 ·obtain rfl:=List.mem_singleton.1 hx;exact⟨hl,hc⟩
theorem addLine_flds {out:List BS} {l:BS} (h:Flds out)(hl:Line l):Flds (addLine out l):=by
 have hnew:Fld0 (l++crlf):=⟨l,[],by simp,hl,by simp⟩
 by_cases ho:out= []
 ·subst ho
  rw [addLine_nil]
  exact⟨by simpa using hnew,by simp⟩
 ·by_cases hc:contL l
  ·obtain⟨r,f,rfl⟩: ∃r f,out=r++ [f]:=⟨out.dropLast,out.getLast ho,(List.dropLast_concat_getLast ho).symm⟩
   rw [addLine_cont _ _ _ hc]
   have hf:=h.1 f (by simp)
   refine⟨fun g hg=> ?_,fun g hg=> ?_⟩
   ·rcases List.mem_append.1 hg with hg|hg
    ·exact h.1 g (by simp [hg])
    ·obtain rfl:=List.mem_singleton.1 hg;exact hf.more hl hc
   ·cases r with
    |nil=>simp at hg
    |cons a r=>
     simp only [List.cons_append,List.tail_cons]at hg
     rcases List.mem_append.1 hg with hg|hg
     ·exact h.2 g (by simp [hg])
     ·obtain rfl:=List.mem_singleton.1 hg
      rw [List.append_assoc,contL_app _ _ hf.ne]
      exact h.2 f (by simp)
  ·rw [addLine_fresh _ _ hc]
   refine⟨fun g hg=> ?_,fun g hg=> ?_⟩
   ·rcases List.mem_append.1 hg with hg|hg
    ·exact h.1 g hg
    ·obtain rfl:=List.mem_singleton.1 hg;exact hnew
   ·cases out with
    |nil=>exact absurd rfl ho
    |cons a r=>
     simp only [List.cons_append,List.tail_cons]at hg
     rcases List.mem_append.1 hg with hg|hg
     ·exact h.2 g (by simpa using hg)
     ·obtain rfl:=List.mem_singleton.1 hg;rwa [contL_app _ _ hl.1]
theorem cutAt_notin (c:UInt8)(l:BS):c∉(cutAt c l).1:=by
 induction l with
 |nil=>simp [cutAt]
 |cons x r ih=>
  by_cases h:x=c
  ·simp [cutAt,h]
  ·simp only [cutAt,h,if_false,List.mem_cons,not_or];exact⟨fun e=>h e.symm,ih⟩
theorem unCR_mem {c:UInt8} {l:BS} (h:c∈unCR l):c∈l:=by
 unfold unCR at h;split at h
 ·exact List.dropLast_sublist _|>.mem h
 ·exact h
theorem headGo_flds: ∀(n:Nat)(out:List BS)(m:BS)(F:List BS)(b:BS),Flds out→headGo n out m=some (F,b)→Flds F
 |0,_,_,_,_,_,h=>by simp [headGo]at h
 |n+1,out,m,F,b,ho,h=>by
  rw [headGo]at h
  split at h
  ·split at h
   ·injection h with h;injection h with h1 h2;subst h1;exact ho
   ·next hne=>exact headGo_flds n _ _ F b (addLine_flds ho ⟨hne,fun hm=>cutAt_notin 10 m (unCR_mem hm)⟩) h
  ·cases h
theorem heads_flds {m:BS} {F:List BS} {b:BS} (h:heads m=some (F,b)):Flds F:=headGo_flds _ _ _ _ _ ⟨by simp,by simp⟩ h
theorem Flds.all {F:List BS} (h:Flds F)(h0: ∀f,F.head?=some f→¬contL f): ∀f∈F,Fld f:=by
 intro f hf
 refine⟨h.1 f hf,?_⟩
 cases F with
 |nil=>simp at hf
 |cons a r=>
  rcases List.mem_cons.1 hf with rfl|hf
  ·exact h0 _ rfl
  ·exact h.2 f (by simpa using hf)
theorem addLine_app (pre out:List BS)(l:BS)(h:out≠ []):addLine (pre++out) l=pre++addLine out l:=by
 by_cases hc:contL l
 ·obtain⟨r,f,rfl⟩: ∃r f,out=r++ [f]:=⟨out.dropLast,out.getLast h,(List.dropLast_concat_getLast h).symm⟩
  rw [←List.append_assoc,addLine_cont _ _ _ hc,addLine_cont _ _ _ hc,List.append_assoc]
 ·rw [addLine_fresh _ _ hc,addLine_fresh _ _ hc,List.append_assoc]
theorem addLine_ne (out:List BS)(l:BS):addLine out l≠ []:=by unfold addLine;split<;>simp
theorem headGo_pre (pre:List BS): ∀(n:Nat)(out:List BS)(m:BS),out≠ []→headGo n (pre++out) m=(headGo n out m).map fun r=>(pre++r.1,r.2)
 |0,_,_,_=>rfl
 |n+1,out,m,h=>by
  rw [headGo,headGo]
  split
  ·split
   ·rfl
   ·rw [addLine_app _ _ _ h,headGo_pre pre n _ _ (addLine_ne _ _)]
  ·rfl
theorem addLine_head (f:BS)(out:List BS)(l:BS): ∃g,(addLine (f::out) l).head?=some (f++g):=by
 by_cases hc:contL l
 ·cases out with
  |nil=>exact⟨l++crlf,by rw [show [f]= []++ [f]from rfl,addLine_cont _ _ _ hc];simp [List.append_assoc]⟩
  |cons a r=>exact⟨[],by rw [show f::a::r= [f]++(a::r)from rfl,addLine_app _ _ _ (by simp)];simp⟩
 ·exact⟨[],by rw [addLine_fresh _ _ hc];simp⟩
theorem headGo_head: ∀(n:Nat)(f:BS)(out:List BS)(m:BS)(F:List BS)(b:BS),headGo n (f::out) m=some (F,b)→∃g,F.head?=some (f++g)
 |0,_,_,_,_,_,h=>by simp [headGo]at h
 |n+1,f,out,m,F,b,h=>by
  rw [headGo]at h
  split at h
  ·split at h
   ·injection h with h;injection h with h1 h2;subst h1;exact⟨[],by simp⟩
   ·obtain⟨g,hg⟩:=addLine_head f out (unCR (cutAt 10 m).1)
    cases ha:addLine (f::out) (unCR (cutAt 10 m).1)with
    |nil=>exact absurd ha (addLine_ne _ _)
    |cons a r=>
     rw [ha]at h hg
     obtain⟨g',hg'⟩:=headGo_head n a r _ F b h
     simp only [List.head?_cons,Option.some.injEq]at hg
     exact⟨g++g',by rw [hg',hg,List.append_assoc]⟩
  ·cases h
theorem headsFrom_behind (pre:List BS)(m:BS)(F:List BS)(b:BS)(h:heads m=some (F,b))(hne:F≠ [])(h0: ∀f,F.head?=some f→¬contL f):headsFrom pre m=some (pre++F,b):=by
 rw [heads_from]at h
 have h1:=h
 rw [headsFrom_step]at h⊢
 split at h
 ·next hc=>
  rw [if_pos hc]
  split at h
  ·injection h with h;injection h with h2 h3;exact absurd h2.symm hne
  ·next hu=>
   rw [if_neg hu]
   have hu0:unCR (cutAt 10 m).1≠ []:=hu
   rw [addLine_nil]at h
   have hh:=headGo_head _ _ _ _ _ _ h
   obtain⟨g,hg⟩:=hh
   have hcont: ¬contL (unCR (cutAt 10 m).1):=by
    have:=h0 _ hg
    rwa [List.append_assoc,contL_app _ _ hu0]at this
   rw [addLine_fresh _ _ hcont]
   unfold headsFrom at h⊢
   rw [headGo_pre pre _ _ _ (by simp),h];rfl
 ·cases h
theorem heads_behind (P:List BS)(m:BS)(F:List BS)(b:BS)(hP: ∀f∈P,Fld f)(h:heads m=some (F,b))(hne:F≠ [])(h0: ∀f,F.head?=some f→¬contL f):heads (P.flatten++m)=some (P++F,b):=by
 rw [heads_from,headsFrom_flds m P [] hP,List.nil_append,headsFrom_behind P m F b h hne h0]
def digs:BS:= [65,66,67,68,69,70,71,72,73,74,75,76,77,78,79,80,81,82,83,84,85,86,87,88,89,90,97,98,99,100,101,102,103,104,105,106,107,108,109,110,111,112,113,114,115,116,117,118,119,120,121,122,48,49,50,51,52,53,54,55,56,57,43,47]
def dig (n:Nat):UInt8:=digs.getD n 0
def num3 (a b c:UInt8):Nat:=a.toNat*65536+b.toNat*256+c.toNat
def enc64:BS→BS
 |a::b::c::r=>dig (num3 a b c/262144)::dig (num3 a b c/4096%64)::dig (num3 a b c/64%64)::dig (num3 a b c%64)::enc64 r
 | [a,b]=> [dig (num3 a b 0/262144),dig (num3 a b 0/4096%64),dig (num3 a b 0/64%64),61]
 | [a]=> [dig (num3 a 0 0/262144),dig (num3 a 0 0/4096%64),61,61]
 | []=> []
def val64 (c:UInt8):Option Nat:=findDown (fun k=>digs.getD k 0==c) 64
def bytes3 (n:Nat):BS:= [UInt8.ofNat (n/65536),UInt8.ofNat (n/256),UInt8.ofNat n]
def stepR (last:Bool)(k:Nat)(c:UInt8)(s:Nat×Nat):Option (Nat×Nat):=
 if c=61∧1<k∧last=true then some (s.1*64,s.2+1)
 else match val64 c with
  |none=>none
  |some v=>if 0<s.2 then none else some (s.1*64+v,s.2)
def grpR (last:Bool):Nat→BS→Nat×Nat→Option (Nat×Nat)
 |_,[],s=>some s
 |k,c::r,s=>(stepR last k c s).bind (grpR last (k+1) r)
def decR:BS→Option BS
 | []=>some []
 |c0::c1::c2::c3::r=>(grpR r.isEmpty 0 [c0,c1,c2,c3] (0,0)).bind fun s=>(decR r).bind fun l=>some ((bytes3 s.1).take (3-s.2)++l)
 |_=>none
def stepP (last:Bool)(c3:UInt8)(k:Nat)(c:UInt8)(s:Nat×Nat):Option (Nat×Nat):=
 match val64 c with
 |some v=>if s.2<4 then none else some (s.1*64+v,s.2)
 |none=>if c≠61∨k<2∨last=false∨(k=2∧c3≠61)then none else some (s.1*64,min s.2 k)
def grpP (last:Bool)(c3:UInt8):Nat→BS→Nat×Nat→Option (Nat×Nat)
 |_,[],s=>some s
 |k,c::r,s=>(stepP last c3 k c s).bind (grpP last c3 (k+1) r)
def decP:BS→Option BS
 | []=>some []
 |c0::c1::c2::c3::r=>(grpP r.isEmpty c3 0 [c0,c1,c2,c3] (0,4)).bind fun s=>(decP r).bind fun l=>some ((bytes3 s.1).take (s.2-1)++l)
 |_=>none
theorem val_dig (n:Nat)(h:n<64):val64 (dig n)=some n:=by
 have: ∀n:Fin 64,val64 (dig n.val)=some n.val:=by decide+kernel
 exact this ⟨n,h⟩
theorem val_pad:val64 61=none:=by decide+kernel
theorem dig_ne (n:Nat)(h:n<64):dig n≠61:=by
 have: ∀n:Fin 64,dig n.val≠61:=by decide+kernel
 exact this ⟨n,h⟩
theorem num3_lt (a b c:UInt8):num3 a b c<16777216:=by
 have:=a.toNat_lt;have:=b.toNat_lt;have:=c.toNat_lt;unfold num3;omega
theorem num3_val (n:Nat)(h:n<16777216):(((n/262144)*64+n/4096%64)*64+n/64%64)*64+n%64=n:=by omega
theorem bytes3_num3 (a b c:UInt8):bytes3 (num3 a b c)= [a,b,c]:=by
 have h1:=a.toNat_lt;have h2:=b.toNat_lt;have h3:=c.toNat_lt
 have e1:num3 a b c/65536=a.toNat:=by unfold num3;omega
 have e2:UInt8.ofNat (num3 a b c/256)=b:=by apply UInt8.toNat_inj.1;rw [UInt8.toNat_ofNat'];unfold num3;omega
 have e3:UInt8.ofNat (num3 a b c)=c:=by apply UInt8.toNat_inj.1;rw [UInt8.toNat_ofNat'];unfold num3;omega
 unfold bytes3
 rw [e1,e2,e3,UInt8.ofNat_toNat]
theorem stepR_dig (last:Bool)(k n:Nat)(h:n<64)(m:Nat):stepR last k (dig n) (m,0)=some (m*64+n,0):=by
 unfold stepR
 rw [if_neg (fun e=>dig_ne n h e.1),val_dig n h];simp
theorem stepR_pad (k:Nat)(h:1<k)(m e:Nat):stepR true k 61 (m,e)=some (m*64,e+1):=by
 unfold stepR;rw [if_pos ⟨rfl,h,rfl⟩]
theorem stepP_dig (last:Bool)(c3:UInt8)(k n:Nat)(h:n<64)(m:Nat):stepP last c3 k (dig n) (m,4)=some (m*64+n,4):=by
 unfold stepP;rw [val_dig n h];simp
theorem stepP_pad (k:Nat)(h:1<k)(m e:Nat):stepP true 61 k 61 (m,e)=some (m*64,min e k):=by
 unfold stepP;rw [val_pad];simp;omega
theorem enc_r (x:BS):decR (enc64 x)=some x:=by
 induction x using enc64.induct with
 |case1 a b c r ih=>
  have h:=num3_lt a b c
  have e:=num3_val _ h
  rw [enc64,decR,ih]
  simp only [grpR]
  rw [stepR_dig _ _ _ (by omega),Option.bind_some,stepR_dig _ _ _ (by omega),Option.bind_some,stepR_dig _ _ _ (by omega),Option.bind_some,stepR_dig _ _ _ (by omega),Option.bind_some]
  simp only [Nat.zero_mul,Nat.zero_add,Option.bind_some]
  rw [e,bytes3_num3];rfl
 |case2 a b=>
  have h:=num3_lt a b 0
  have e:=num3_val _ h
  have h0:num3 a b 0%64=0:=by unfold num3;show(_+_*256+0)%64=0;omega
  rw [enc64,decR]
  simp only [grpR,List.isEmpty_nil]
  rw [stepR_dig _ _ _ (by omega),Option.bind_some,stepR_dig _ _ _ (by omega),Option.bind_some,stepR_dig _ _ _ (by omega),Option.bind_some,stepR_pad _ (by omega),Option.bind_some]
  simp only [Nat.zero_mul,Nat.zero_add,Option.bind_some,decR]
  rw [h0]at e
  rw [←Nat.add_zero (_*64),e,bytes3_num3];rfl
 |case3 a=>
  have h:=num3_lt a 0 0
  have e:=num3_val _ h
  have h0:num3 a 0 0%64=0:=by unfold num3;show(_+0*256+0)%64=0;omega
  have h1:num3 a 0 0/64%64=0:=by unfold num3;show(_+0*256+0)/64%64=0;omega
  rw [enc64,decR]
  simp only [grpR,List.isEmpty_nil]
  rw [stepR_dig _ _ _ (by omega),Option.bind_some,stepR_dig _ _ _ (by omega),Option.bind_some,stepR_pad _ (by omega),Option.bind_some,stepR_pad _ (by omega),Option.bind_some]
  simp only [Nat.zero_mul,Nat.zero_add,Option.bind_some,decR]
  rw [h0,h1]at e
  rw [show(num3 a 0 0/262144*64+num3 a 0 0/4096%64)*64*64=num3 a 0 0 by omega,bytes3_num3];rfl
 |case4=>rfl
theorem enc_p (x:BS):decP (enc64 x)=some x:=by
 induction x using enc64.induct with
 |case1 a b c r ih=>
  have h:=num3_lt a b c
  have e:=num3_val _ h
  rw [enc64,decP,ih]
  simp only [grpP]
  rw [stepP_dig _ _ _ _ (by omega),Option.bind_some,stepP_dig _ _ _ _ (by omega),Option.bind_some,stepP_dig _ _ _ _ (by omega),Option.bind_some,stepP_dig _ _ _ _ (by omega),Option.bind_some]
  simp only [Nat.zero_mul,Nat.zero_add,Option.bind_some]
  rw [e,bytes3_num3];rfl
 |case2 a b=>
  have h:=num3_lt a b 0
  have e:=num3_val _ h
  have h0:num3 a b 0%64=0:=by unfold num3;show(_+_*256+0)%64=0;omega
  rw [enc64,decP]
  simp only [grpP,List.isEmpty_nil]
  rw [stepP_dig _ _ _ _ (by omega),Option.bind_some,stepP_dig _ _ _ _ (by omega),Option.bind_some,stepP_dig _ _ _ _ (by omega),Option.bind_some,stepP_pad _ (by omega),Option.bind_some]
  simp only [Nat.zero_mul,Nat.zero_add,Option.bind_some,decP]
  rw [h0]at e
  rw [←Nat.add_zero (_*64),e,bytes3_num3];rfl
 |case3 a=>
  have h:=num3_lt a 0 0
  have e:=num3_val _ h
  have h0:num3 a 0 0%64=0:=by unfold num3;show(_+0*256+0)%64=0;omega
  have h1:num3 a 0 0/64%64=0:=by unfold num3;show(_+0*256+0)/64%64=0;omega
  rw [enc64,decP]
  simp only [grpP,List.isEmpty_nil]
  rw [stepP_dig _ _ _ _ (by omega),Option.bind_some,stepP_dig _ _ _ _ (by omega),Option.bind_some,stepP_pad _ (by omega),Option.bind_some,stepP_pad _ (by omega),Option.bind_some]
  simp only [Nat.zero_mul,Nat.zero_add,Option.bind_some,decP]
  rw [h0,h1]at e
  rw [show(num3 a 0 0/262144*64+num3 a 0 0/4096%64)*64*64=num3 a 0 0 by omega,bytes3_num3];rfl
 |case4=>rfl
theorem enc_mem (x:BS): ∀c∈enc64 x,c=61∨∃n,n<64∧c=dig n:=by
 induction x using enc64.induct with
 |case1 a b c r ih=>
  have h:=num3_lt a b c
  intro d hd
  simp only [enc64,List.mem_cons]at hd
  rcases hd with rfl|rfl|rfl|rfl|hd
  ·exact .inr ⟨_,by omega,rfl⟩
  ·exact .inr ⟨_,by omega,rfl⟩
  ·exact .inr ⟨_,by omega,rfl⟩
  ·exact .inr ⟨_,by omega,rfl⟩
  ·exact ih d hd
 |case2 a b=>
  have h:=num3_lt a b 0
  intro d hd
  simp only [enc64,List.mem_cons,List.not_mem_nil,or_false]at hd
  rcases hd with rfl|rfl|rfl|rfl
  ·exact .inr ⟨_,by omega,rfl⟩
  ·exact .inr ⟨_,by omega,rfl⟩
  ·exact .inr ⟨_,by omega,rfl⟩
  ·exact .inl rfl
 |case3 a=>
  have h:=num3_lt a 0 0
  intro d hd
  simp only [enc64,List.mem_cons,List.not_mem_nil,or_false]at hd
  rcases hd with rfl|rfl|rfl|rfl
  ·exact .inr ⟨_,by omega,rfl⟩
  ·exact .inr ⟨_,by omega,rfl⟩
  ·exact .inl rfl
  ·exact .inl rfl
 |case4=>intro d hd;simp [enc64]at hd
theorem enc_all (x:BS): ∀c∈enc64 x,blank c=false∧c≠59∧plainB c=true:=by
 have key: ∀n:Fin 64,blank (dig n.val)=false∧dig n.val≠59∧plainB (dig n.val)=true:=by decide+kernel
 intro c hc
 rcases enc_mem x c hc with rfl|⟨n,hn,rfl⟩
 ·decide
 ·exact key ⟨n,hn⟩
theorem enc_len (x:BS):(enc64 x).length=(x.length+2)/3*4:=by
 induction x using enc64.induct with
 |case1 a b c r ih=>simp only [enc64,List.length_cons,ih];omega
 |case2 a b=>simp [enc64]
 |case3 a=>simp [enc64]
 |case4=>simp [enc64]
def kTab:List UInt32:= [1116352408,1899447441,3049323471,3921009573,961987163,1508970993,2453635748,2870763221,3624381080,310598401,607225278,1426881987,1925078388,2162078206,2614888103,3248222580,3835390401,4022224774,264347078,604807628,770255983,1249150122,1555081692,1996064986,2554220882,2821834349,2952996808,3210313671,3336571891,3584528711,113926993,338241895,666307205,773529912,1294757372,1396182291,1695183700,1986661051,2177026350,2456956037,2730485921,2820302411,3259730800,3345764771,3516065817,3600352804,4094571909,275423344,430227734,506948616,659060556,883997877,958139571,1322822218,1537002063,1747873779,1955562222,2024104815,2227730452,2361852424,2428436474,2756734187,3204031479,3329325298]
def rotr (x n:UInt32):UInt32:=x>>>n|||x<<<(32-n)
def sg0 (x:UInt32):UInt32:=rotr x 7^^^rotr x 18^^^x>>>3
def sg1 (x:UInt32):UInt32:=rotr x 17^^^rotr x 19^^^x>>>10
def bs0 (x:UInt32):UInt32:=rotr x 2^^^rotr x 13^^^rotr x 22
def bs1 (x:UInt32):UInt32:=rotr x 6^^^rotr x 11^^^rotr x 25
def chf (x y z:UInt32):UInt32:=(x&&&y)^^^(~~~x&&&z)
def maj (x y z:UInt32):UInt32:=(x&&&y)^^^(x&&&z)^^^(y&&&z)
def word (a b c d:UInt8):UInt32:=a.toUInt32<<<24|||b.toUInt32<<<16|||c.toUInt32<<<8|||d.toUInt32
def nextW (blk:BS)(ws:List UInt32):UInt32:=
 if ws.length<16 then word (blk.getD (4*ws.length) 0) (blk.getD (4*ws.length+1) 0) (blk.getD (4*ws.length+2) 0) (blk.getD (4*ws.length+3) 0)
 else sg1 (ws.getD (ws.length-2) 0)+ws.getD (ws.length-7) 0+sg0 (ws.getD (ws.length-15) 0)+ws.getD (ws.length-16) 0
def words (blk:BS):Nat→List UInt32
 |0=> []
 |n+1=>words blk n++ [nextW blk (words blk n)]
structure St8 where
 (a b c d e f g h:UInt32)
def rndT1 (s:St8)(k w:UInt32):UInt32:=s.h+bs1 s.e+chf s.e s.f s.g+k+w
def rndT2 (s:St8):UInt32:=bs0 s.a+maj s.a s.b s.c
def rnd (s:St8)(k w:UInt32):St8:=⟨rndT1 s k w+rndT2 s,s.a,s.b,s.c,s.d+rndT1 s k w,s.e,s.f,s.g⟩
def rounds (blk:BS)(s:St8):Nat→St8
 |0=>s
 |n+1=>rnd (rounds blk s n) (kTab.getD n 0) ((words blk 64).getD n 0)
def plus (s t:St8):St8:=⟨s.a+t.a,s.b+t.b,s.c+t.c,s.d+t.d,s.e+t.e,s.f+t.f,s.g+t.g,s.h+t.h⟩
def block (s:St8)(blk:BS):St8:=plus s (rounds blk s 64)
def h0:St8:=⟨1779033703,3144134277,1013904242,2773480762,1359893119,2600822924,528734635,1541459225⟩
def blocks:Nat→St8→BS→St8
 |0,s,_=>s
 |n+1,s,l=>if 64≤l.length then blocks n (block s (l.take 64)) (l.drop 64)else s
def bytesOf (x:UInt32):BS:= [(x>>>24).toUInt8,(x>>>16).toUInt8,(x>>>8).toUInt8,x.toUInt8]
def St8.bytes (s:St8):BS:=bytesOf s.a++bytesOf s.b++bytesOf s.c++bytesOf s.d++bytesOf s.e++bytesOf s.f++bytesOf s.g++bytesOf s.h
def zeros (n:Nat):Nat:=(120-n%64)%64
def lenByte (n:Nat)(i:Nat):UInt8:=UInt8.ofNat (n/2^i)
def padded (l:BS):BS:=l++ [128]++List.replicate (zeros (l.length+1)) 0++ [lenByte (8*l.length) 56,lenByte (8*l.length) 48,lenByte (8*l.length) 40,lenByte (8*l.length) 32,lenByte (8*l.length) 24,lenByte (8*l.length) 16,lenByte (8*l.length) 8,lenByte (8*l.length) 0]
def sha (l:BS):BS:=(blocks (padded l).length h0 (padded l)).bytes
end Go.Proofs.YtgilnagajcfkpaaGreatDoor
