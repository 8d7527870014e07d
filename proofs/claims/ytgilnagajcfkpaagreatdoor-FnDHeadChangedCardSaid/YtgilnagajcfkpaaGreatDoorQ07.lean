import Derived.Laws.MakeOwn
import Derived.Deep.RegionHeld3
import Derived.Lib.OthersKept
import Derived.Laws.IdiomStrings
import Derived.Laws.Runes
import Derived.Maps.Own
import Derived.Maps.OwnSet
import Derived.Maps.OwnOps
import Derived.Maps.StringElems
import Derived.StringKeys
import Derived.Test.YtgilnagajcfkpaaGreatDoorQ00
import Derived.Test.YtgilnagajcfkpaaGreatDoorQ02
import Derived.Test.YtgilnagajcfkpaaGreatDoorQ05
import Derived.Test.YtgilnagajcfkpaaGreatDoorQ06
set_option maxHeartbeats 4000000
set_option maxRecDepth 1000000
set_option linter.all false
namespace Go.Proofs.YtgilnagajcfkpaaGreatDoor
open Go.RowKit
def bols (l:List Bool):List Value:=l.map Value.bool
theorem bols_length (l:List Bool):(bols l).length=l.length:=by simp [bols]
theorem Tryz.info4:(Tryz.prog.info? 4).map (fun i=>(i.zero,i.size,i.bytes))=some (some (.bool false),1,1):=by kernel_rfl
theorem make_at (w:World)(t e:TypeId)(z:Value)(bytes:Nat)(ht:Tryz.prog.underlying t=some (.slice e))(hinfo:(Tryz.prog.info? e).map (fun i=>(i.zero,i.size,i.bytes))=some (some z,1,bytes))(hz:z.cells= #[z])
 (n c:Nat)(hnc:n≤c)(hb:bytes*c≤281474976710656)(hm:c≤281474976710656):
 ∃w1,(Instr.makeSlice t (.int .i64 n) (.int .i64 c)).run Tryz.prog w= .ok (.slice (some ⟨w.heap.size,0,none⟩) n c) w1∧
  OwnAt w1 w.heap.size e (.slice (some ⟨w.heap.size,0,none⟩) n c) (List.replicate n z)∧Below w.heap.size w w1:=by
 obtain⟨i,hi,hz',hs,hb'⟩:=info_parts hinfo
 have hbc:(i.bytes:Int)*(c:Int)≤281474976710656:=by
  rw [hb'];have:((bytes*c:Nat):Int)≤281474976710656:=by omega
  rwa [Int.natCast_mul]at this
 have h:=run_make (P:=Tryz.prog) w t e i z ht hi hz' .i64 .i64 n c (by omega) (by omega) hbc (by omega)
 rw [hs,hz]at h
 simp only [Int.toNat_natCast,Nat.mul_one]at h
 refine⟨_,h, .inr ⟨w.heap.size,0,c,_,(0,0),by rw [List.length_replicate],Nat.le_refl _,heap_alloc_new w _,fun j _=>by omega,by rw [List.length_replicate];exact hnc,by simp only [maxLen];omega,by rw [size_madeCells];omega,fun j u hj=> ?_⟩,(Below.refl _ _).alloc (Nat.le_refl _) _⟩
 have hjn:j<n:=by have:=(List.getElem?_eq_some_iff.1 hj).1;simpa using this
 rw [List.getElem?_replicate,if_pos hjn]at hj
 rw [Nat.zero_add]
 simp [madeCells,show j<c by omega,←hj,Nat.mod_one]
theorem bcell {W w1:World} (hb:Below W.heap.size W w1) {b o:Nat} {v:Value} (h:W.cell? ⟨b,o,none⟩=some v):w1.cell? ⟨b,o,none⟩=some v:=
 (hb.cell (p:=⟨b,o,none⟩) (World.block_lt_of_cell? W _ h)).trans h
theorem bchain {a w w':World} (h:Below w.heap.size w w')(k:Below a.heap.size a w):Below a.heap.size a w':=k.trans (h.mono k.size)
theorem own_ne {w:World} {B B':Nat} {e e':TypeId} {v v':Value} {xs xs':List Value} (h:OwnAt w B e v xs)(h':OwnAt w B' e' v' xs')(hne:e≠e'):v.ownBlock=none∨v.ownBlock≠v'.ownBlock:=by
 rcases h with⟨rfl,_⟩|⟨g,off,cap,cur,fr,rfl,_,hg,_⟩
 ·exact .inl rfl
 ·refine .inr fun hk=> ?_
  rcases h' with⟨rfl,_⟩|⟨g',off',cap',cur',fr',rfl,_,hg',_⟩
  ·simp [Value.ownBlock]at hk
  ·have:g=g':=by simpa [Value.ownBlock]using hk
   subst this
   rw [hg]at hg'
   injection hg' with hg'
   injection hg' with _ ht
   exact hne ht
theorem grown_setCell (w:World)(p:Addr)(u:Value):w.grownBy (w.setCell p u) (some p.block):=
 ⟨rfl,rfl,rfl,by simp [World.setCell],fun k _ hne=>Below.heap_setCell w p u k (fun e=>hne (by rw [e]))⟩
theorem appS1' {ops:Array Oper} {rest:List Oper} {o:Oper} {a:Act} {Q:Exit→Act→World→Prop} {w w0:World} {B:Nat} (v:Value)(hgd:o.guard=none)(s x:Operand)(ho:o.op= .call { callee:= .builtin .append,args:= #[s,x],argTypes:= #[23,23] })
 (l:List (List UInt8))(b:List UInt8)(hs:a.eval s=v)(hown:OwnAt w B 9 v (strs l))(n:Nat)(hsz:n=w.heap.size)(hxv:a.eval x= .slice (some ⟨n,0,none⟩) 1 1)(hn:l.length≤4398046511104)(hb:Below B w0 w)(hB:B≤w0.heap.size)
 (h: ∀v' w',OwnAt w' B 9 v' (strs (l++ [b]))→(w.alloc (.cells #[Str b] 9)).grownBy w' v.ownBlock→Below B w0 w'→wpList Tryz.prog ops Q rest (a.put o.dst v') w'):wpList Tryz.prog ops Q (o::rest) a (w.alloc (.cells #[Str b] 9)):=by
 subst hsz;exact appS1 hgd s x ho l b hs hown hxv hn hb hB h
theorem appB1' {ops:Array Oper} {rest:List Oper} {o:Oper} {a:Act} {Q:Exit→Act→World→Prop} {w w0:World} {B:Nat} (v:Value)(hgd:o.guard=none)(s x:Operand)(ho:o.op= .call { callee:= .builtin .append,args:= #[s,x],argTypes:= #[22,22] })
 (l:List UInt8)(b:UInt8)(n:Int)(hnb:n=b.toNat)(hs:a.eval s=v)(hown:OwnAt w B 5 v (byts l))(m:Nat)(hsz:m=w.heap.size)(hxv:a.eval x= .slice (some ⟨m,0,none⟩) 1 1)(hn:l.length≤70368744177664)(hb:Below B w0 w)(hB:B≤w0.heap.size)
 (h: ∀v' w',OwnAt w' B 5 v' (byts (l++ [b]))→(w.alloc (.cells #[.int .u8 n] 5)).grownBy w' v.ownBlock→Below B w0 w'→wpList Tryz.prog ops Q rest (a.put o.dst v') w'):wpList Tryz.prog ops Q (o::rest) a (w.alloc (.cells #[.int .u8 n] 5)):=by
 subst hsz;exact appB1 hgd s x ho l b n hnb hs hown hxv hn hb hB h
theorem szC (w:World)(p:Addr)(u:Value):(w.setCell p u).heap.size=w.heap.size:=by simp [World.setCell]
theorem name_len (f:BS):(name f).length≤f.length:=by
 have h1:=trim_len (cutAt 58 f).1
 have h2:=(cutAt_len 58 f).1
 unfold name;omega
theorem dPicked_any (fs nms:List BS)(fv nv:Value)(w:World)(hfv:Rd w fv (strs fs))(hnv:Rd w nv (strs nms))(hfl:fs.length≤4294967296)(hnl:nms.length≤4294967296)
 (hf: ∀f∈fs,f.length≤4294967296)(hn: ∀f∈nms,f.length≤4294967296):
 Calls Tryz.prog 25 #[fv,nv] w fun e w'=> ∃v,e= .returned v∧OwnAt w' w.heap.size 9 v (strs (picked fs nms))∧Below w.heap.size w w':=by
 have Hf:=Lib.hid hf;clear hf
 have Hn:=Lib.hid hn;clear hn
 obtain⟨w1,hmk,ho1,hb1⟩:=make_at w 67 4 (.bool false) 1 Tryz.underlying67 Tryz.info4 rfl fs.length fs.length (Nat.le_refl _) (by omega) (by omega)
 have Hfv:=Lib.hid hfv
 have Hnv:=Lib.hid hnv
 obtain⟨A,c1,rfl,_,hx1⟩:=hfv
 obtain⟨A2,c2,rfl,_,hx2⟩:=hnv
 have Hx1:=Lib.hid hx1;clear hx1
 have Hx2:=Lib.hid hx2;clear hx2
 rw [stL]at*
 rw [stL]at*
 go_enter Tryz.func25,Tryz.ntmps25
 go_wp2
 go_loopw [6,7,8,9] (fun v i _ _ wr=> ∃(k:Nat) (used:List Bool) (out:List BS),k≤nms.length∧used.length=fs.length∧out.length=k∧i= .int .i64 k∧Hid ((nms.take k).foldl (pickStep fs) (List.replicate fs.length false,[])=(used,out))∧
  OwnAt wr w.heap.size 4 (.slice (some ⟨w.heap.size,0,none⟩) fs.length fs.length) (bols used)∧OwnAt wr w.heap.size 9 v (strs out)∧Below w.heap.size w wr) (fun _ i _ _ _=>nms.length-(intOf i).toNat)
 case atStart=>exact⟨0,_,_,Nat.zero_le _,by simp,rfl,rfl,rfl,by simpa [bols]using ho1,OwnAt.nil _ _ _,hb1⟩
 case round=>
  obtain⟨i,used,out,hi,hul,hol,rfl,H,hu,ho,hb⟩:=hrel
  clear hmk ho1 hb1
  have Hul:=Lib.hid hul;clear hul
  have Hol:=Lib.hid hol
  have hol':out.length≤4294967296:=by omega
  clear hol
  by_cases hlt:i<nms.length
  ·have H2:Hid ((nms.take (i+1)).foldl (pickStep fs) (List.replicate fs.length false,[])=pickStep fs (used,out) nms[i]):=by
    show _=_
    rw [foldl_snoc _ _ _ _ hlt,H.out]
   clear H
   obtain⟨wo,rfl⟩: ∃wo:World,wo=wr:=⟨_,rfl⟩
   go_wp2
   go_loopw [8,9] (fun s k wx=>s=Str []∧Below wo.heap.size wo wx∧((∃j:Nat,j<fs.length∧k= .int .i64 j∧Hid (findDown (pickP fs used nms[i]) fs.length=findDown (pickP fs used nms[i]) (j+1)))∨(k= .int .i64 (-1)∧Hid (findDown (pickP fs used nms[i]) fs.length=none)))) (fun _ k _=>(intOf k+1).toNat)
   case atStart=>
    refine⟨rfl,Below.refl _ _,?_⟩
    rcases Nat.eq_zero_or_pos fs.length with h0|h0
    ·exact .inr ⟨by rw [h0];rfl,by rw [h0];rfl⟩
    ·exact .inl ⟨fs.length-1,by omega,by congr 1;omega,by rw [Nat.sub_add_cancel h0];rfl⟩
   case round=>
    obtain⟨rfl,hb2,hcase⟩:=hrel
    rcases hcase with⟨j,hj,rfl,D⟩|⟨rfl,D⟩
    ·have hbw:=hb.trans (hb2.mono hb.size)
     have hnm:(nms[i]).length≤4294967296:=Hn.out _ (List.getElem_mem hlt)
     have hfj:(fs[j]).length≤4294967296:=Hf.out _ (List.getElem_mem hj)
     obtain⟨g1,o1,rfl,cf⟩: ∃g o,A=some ⟨g,o,none⟩∧wr.cell? ⟨g,o+j,none⟩=some (Str fs[j]):=by
      rcases Hx1.out with h|⟨g,o,rfl,hg,hc⟩
      ·have:fs= []:=by simpa [strs]using h
       subst this;simp at hj
      ·exact⟨g,o,rfl,by rw [hbw.cell (p:=⟨g,o+j,none⟩) hg];exact hc j _ (by simp [strs,hj])⟩
     obtain⟨g2,o2,rfl,cn⟩: ∃g o,A2=some ⟨g,o,none⟩∧wr.cell? ⟨g,o+i,none⟩=some (Str nms[i]):=by
      rcases Hx2.out with h|⟨g,o,rfl,hg,hc⟩
      ·have:nms= []:=by simpa [strs]using h
       subst this;simp at hlt
      ·exact⟨g,o,rfl,by rw [hbw.cell (p:=⟨g,o+i,none⟩) hg];exact hc i _ (by simp [strs,hlt])⟩
     have hul:=Hul.out
     have hju:j<used.length:=by omega
     have cu:=bcell hb2 (hu.cell_at j (.bool used[j]) (by simp [bols,hju])).1
     rw [Nat.zero_add]at cu
     clear hul
     have hP:Hid (pickP fs used nms[i] j=(!used[j]&&lower (name fs[j])==lower nms[i])):=by
      show _=_
      simp [pickP,hju,hj]
     have hj0:(0:Int)≤(j:Int):=by omega
     have hj1:(j:Int)<(fs.length:Int):=by omega
     have hi0:(0:Int)≤(i:Int):=by omega
     have hi1:(i:Int)<(nms.length:Int):=by omega
     cases hus:used[j]with
     |true=>
      rw [hus]at cu
      have hPv:Hid (pickP fs used nms[i] j=false):=by show _=_;rw [hP.out,hus];rfl
      clear hus
      go_wp2_with fail
      go_quiet (fail)
      go_wp2
      go_roundw
      case rel=>
       refine⟨rfl,by first|assumption|exact bdN hb2 _,?_⟩
       have hD:findDown (pickP fs used nms[i]) fs.length=findDown (pickP fs used nms[i]) j:=by rw [D.out,findDown,hPv.out];rfl
       rcases Nat.eq_zero_or_pos j with h0|h0
       ·exact .inr ⟨by rw [h0];rfl,by rw [hD,h0];rfl⟩
       ·exact .inl ⟨j-1,by omega,by congr 1;omega,by rw [hD,Nat.sub_add_cancel h0];rfl⟩
      case measure=>simp [intOf]
     |false=>
      rw [hus]at cu
      cases heq:(lower (name fs[j])==lower nms[i])with
      |false=>
       have hPv:Hid (pickP fs used nms[i] j=false):=by show _=_;rw [hP.out,hus,heq];rfl
       clear hus
       go_wp2_with fail
       go_region_held3 (fun wx=>wx.cell? ⟨w.heap.size,j,none⟩=some (.bool false)∧wx.cell? ⟨g1,o1+j,none⟩=some (Str fs[j])∧wx.cell? ⟨g2,o2+i,none⟩=some (Str nms[i]))
        (first|go_keep|(refine⟨?_,?_,?_⟩<;>(repeat (first|assumption|refine bcell (by assumption) ?_))))
        (first|(go_at_call 28;refine(dName_any _ _ hfj).mono ?_;rintro e w3 ⟨rfl,hb3⟩)|(go_at_call 27;refine(dLower_any _ _ (by have:=name_len fs[j];omega)).mono ?_;rintro e w4 ⟨rfl,hb4⟩))
       all_goals
        go_wp2
        go_roundw
        case rel=>
         refine⟨rfl,(by repeat (first|assumption|exact Below.refl _ _|refine bdw ?_|refine bchain (by assumption) ?_)),?_⟩
         have hD:findDown (pickP fs used nms[i]) fs.length=findDown (pickP fs used nms[i]) j:=by rw [D.out,findDown,hPv.out];rfl
         rcases Nat.eq_zero_or_pos j with h0|h0
         ·exact .inr ⟨by rw [h0];rfl,by rw [hD,h0];rfl⟩
         ·exact .inl ⟨j-1,by omega,by congr 1;omega,by rw [hD,Nat.sub_add_cancel h0];rfl⟩
        case measure=>simp [intOf]
      |true=>
       have hPv:Hid (pickP fs used nms[i] j=true):=by show _=_;rw [hP.out,hus,heq];rfl
       have hfd:Hid (pickStep fs (used,out) nms[i]=(used.set j true,out++ [fs[j]])):=by
        show _=_
        unfold pickStep
        simp only
        rw [D.out,findDown,hPv.out]
        simp [hj]
       clear hus
       go_wp2_with fail
       go_region_held3 (fun wx=>wx.cell? ⟨w.heap.size,j,none⟩=some (.bool false)∧wx.cell? ⟨g1,o1+j,none⟩=some (Str fs[j])∧wx.cell? ⟨g2,o2+i,none⟩=some (Str nms[i]))
        (first|go_keep|(refine⟨?_,?_,?_⟩<;>(repeat (first|assumption|refine bcell (by assumption) ?_))))
        (first|(go_at_call 28;refine(dName_any _ _ hfj).mono ?_;rintro e w3 ⟨rfl,hb3⟩)|(go_at_call 27;refine(dLower_any _ _ (by have:=name_len fs[j];omega)).mono ?_;rintro e w4 ⟨rfl,hb4⟩))
       all_goals
        have hbx:Below wo.heap.size wo w4:=by repeat (first|assumption|exact Below.refl _ _|refine bdw ?_|refine bchain (by assumption) ?_)
        have hu4:=hu.below hbx
        have hfz:=(hu4.cell_at j (.bool used[j]) (by simp [bols,hju])).2
        rw [Nat.zero_add]at hfz
        have hbw4:=hb.trans (hbx.mono hb.size)
        have Hu5:=hu4.set_at j (.bool true) (by rw [bols_length];exact hju)
        have Ho5:=(ho.below hbx).kept (grown_setCell w4 ⟨w.heap.size,0+j,none⟩ (.bool true)) (by have:=own_ne (ho.below hbx) hu4 (by decide);simpa [Value.ownBlock]using this)
        have Hb5:=hbw4.setCell (p:=⟨w.heap.size,0+j,none⟩) (Nat.le_refl _) (.bool true)
        rw [Nat.zero_add]at Hu5 Ho5 Hb5
        have Hu6:=Lib.hid Hu5;clear Hu5 hu4
        go_wp2_with (at_builtin;go_loud (refine appS1' u6 rfl (.tmp 52) (.tmp 54) rfl _ _ rfl Ho5 w4.heap.size (szC _ _ _).symm rfl (by omega) Hb5 (Nat.le_refl _) ?_);intro v8 w8 ho8 hg8 hb8)
        go_roundw
        case rel=>
         refine⟨i+1,used.set j true,out++ [fs[j]],by omega,by rw [List.length_set];exact Hul.out,by have:=Hol.out;simp;omega,by go_num,by rw [H2.out,hfd.out];rfl,?_,ho8,hb8⟩
         have h1:bols (used.set j true)=(bols used).set j (.bool true):=by simp [bols,List.map_set]
         rw [h1]
         have h2:=Hu6.out.alloc (.cells #[Str fs[j]] 9)
         exact h2.kept hg8 (by have:=own_ne h2 (Ho5.alloc (.cells #[Str fs[j]] 9)) (by decide);simpa [Value.ownBlock]using this)
        case measure=>simp [intOf];omega
    ·have hfd:Hid (pickStep fs (used,out) nms[i]=(used,out++ [[]])):=by
      show _=_
      unfold pickStep
      simp only
      rw [D.out]
     have hbw:=hb.trans (hb2.mono hb.size)
     have ho2:=ho.below hb2
     have Hu2:=Lib.hid (hu.below hb2)
     go_wp2_with (at_builtin;refine appS1' u6 rfl (.tmp 52) (.tmp 54) rfl _ _ rfl ho2 _ rfl rfl (by omega) hbw (Nat.le_refl _) ?_;intro v8 w8 ho8 hg8 hb8)
     go_roundw
     case rel=>
      refine⟨i+1,used,out++ [[]],by omega,Hul.out,by have:=Hol.out;simp;omega,by go_num,by rw [H2.out,hfd.out];rfl,?_,ho8,hb8⟩
      have h2:=Hu2.out.alloc (.cells #[Str []] 9)
      exact h2.kept hg8 (by have:=own_ne h2 (ho2.alloc (.cells #[Str []] 9)) (by decide);simpa [Value.ownBlock]using this)
     case measure=>simp [intOf];omega
  ·have e:nms.take i=nms:=List.take_of_length_le (by omega)
   have Hp:Hid (picked fs nms=out):=by show _=_;rw [picked,←e,H.out]
   go_wp2
   go_ret
   exact⟨_,rfl,by rw [Hp.out];exact ho,hb⟩
def Blk (w:World)(g:Nat)(t:TypeId)(cs:List Value):Prop:=w.heap[g]?=some (.cells cs.toArray t (0,0))
section
variable {w w':World} {g:Nat} {t:TypeId} {cs:List Value}
theorem Blk.lt (h:Blk w g t cs):g<w.heap.size:=(Array.getElem?_eq_some_iff.1 h).1
theorem Blk.cell (h:Blk w g t cs)(i:Nat)(u:Value)(hu:cs[i]?=some u):w.cell? ⟨g,i,none⟩=some u:=by
 rw [cell_of_row w g i cs.toArray t (0,0) h];simpa using hu
theorem Blk.frozen (h:Blk w g t cs)(i:Nat):w.frozen? ⟨g,i,none⟩=false:=by
 unfold Blk at h;simp [World.frozen?,h]
theorem Blk.new (w:World)(t:TypeId)(cs:Array Value):Blk (w.alloc (.cells cs t)) w.heap.size t cs.toList:=heap_alloc_new w _
theorem Blk.drew (h:Blk w g t cs):Blk w.drew g t cs:=h
theorem Blk.drewN (h:Blk w g t cs)(n:Nat):Blk (w.drewN n) g t cs:=h
theorem Blk.alloc (h:Blk w g t cs)(o:Obj):Blk (w.alloc o) g t cs:=(Below.heap_alloc w o g h.lt).trans h
theorem Blk.set (h:Blk w g t cs)(i:Nat)(u:Value):Blk (w.setCell ⟨g,i,none⟩ u) g t (cs.set i u):=by
 unfold Blk at h⊢
 simp [World.setCell,Array.getElem?_modify,h]
theorem Blk.far (h:Blk w g t cs) {p:Addr} (hp:g≠p.block)(u:Value):Blk (w.setCell p u) g t cs:=(Below.heap_setCell w p u g hp).trans h
theorem Blk.below {B:Nat} (h:Blk w g t cs)(hb:Below B w w')(hg:g<B):Blk w' g t cs:=(hb.block g hg).trans h
theorem Blk.grown {row:Option Nat} (h:Blk w g t cs)(hb:w.grownBy w' row)(hg:some g≠row):Blk w' g t cs:=(hb.block g h.lt hg).trans h
theorem Blk.ne {g':Nat} {t':TypeId} {cs':List Value} (h:Blk w g t cs)(h':Blk w g' t' cs')(hne:t≠t'):g≠g':=by
 rintro rfl
 unfold Blk at h h'
 rw [h]at h'
 injection h' with h'
 injection h' with _ ht
 exact hne ht
theorem own_blk {B:Nat} {e:TypeId} {v:Value} {xs:List Value} (h:OwnAt w B e v xs)(hg:Blk w g t cs)(hne:e≠t):v.ownBlock≠some g:=by
 rcases h with⟨rfl,_⟩|⟨g',off,cap,cur,fr,rfl,_,hh,_⟩
 ·simp [Value.ownBlock]
 ·intro he
  have:g'=g:=by simpa [Value.ownBlock]using he
  subst this
  unfold Blk at hg
  rw [hg]at hh
  injection hh with hh
  injection hh with _ ht
  exact hne ht.symm
end
theorem Rd.sliced {w:World} {A:Option Addr} {n c:Nat} {xs:List Value} (h:Rd w (.slice A n c) xs)(lo hi:Nat)(hlo:lo≤hi)(hhi:hi≤n):Rd w (Go.sliced A lo hi c 1) ((xs.drop lo).take (hi-lo)):=by
 obtain⟨A',c',he,hlc,hx⟩:=h
 injection he with h1 h2 h3
 subst h1;subst h2;subst h3
 have hl:((xs.drop lo).take (hi-lo)).length=hi-lo:=by simp;omega
 unfold Go.sliced
 refine⟨_,_,by rw [hl],by rw [hl];omega,?_⟩
 by_cases h0:hi-lo=0
 ·exact .inl (by rw [h0];rfl)
 ·rcases hx with rfl|⟨g,off,rfl,hg,hc⟩
  ·simp at hhi;omega
  ·refine .inr ⟨g,off+lo,?_,hg,fun j u hj=> ?_⟩
   ·rw [if_neg (by omega),Nat.mul_one,Option.map_some,add_at]
   ·have hj':j<hi-lo:=by have:=(List.getElem?_eq_some_iff.1 hj).1;omega
    rw [List.getElem?_take,if_pos hj',List.getElem?_drop]at hj
    rw [Nat.add_assoc]
    exact hc _ u hj
theorem OwnAt.sliced {w:World} {B:Nat} {e:TypeId} {A:Option Addr} {n c:Nat} {xs:List Value} (h:OwnAt w B e (.slice A n c) xs)(lo hi:Nat)(hlo:lo≤hi)(hhi:hi≤n):OwnAt w B e (Go.sliced A lo hi c 1) ((xs.drop lo).take (hi-lo)):=by
 have hl:((xs.drop lo).take (hi-lo)).length=hi-lo∨xs.length≠n:=by
  by_cases h:xs.length=n
  ·left;simp;omega
  ·exact .inr h
 rcases h with⟨he,rfl⟩|⟨g,off,cap,cur,fr,he,hb,hgg,hf,hln,hm,hc,hx⟩
 ·injection he with h1 h2 h3
  subst h1;subst h2;subst h3
  have h1:lo=0:=by omega
  have h2:hi=0:=by omega
  subst h1;subst h2
  exact .inl ⟨rfl,rfl⟩
 ·injection he with h1 h2 h3
  subst h1;subst h2;subst h3
  have hl':=hl.resolve_right (by simp)
  unfold Go.sliced
  by_cases h0:c=lo
  ·have hn:(xs.drop lo).take (hi-lo)= []:=List.eq_nil_of_length_eq_zero (by rw [hl'];omega)
   rw [if_pos h0,hn]
   refine .inr ⟨g,off,c-lo,cur,fr,by simp;omega,hb,hgg,hf,by simp,by omega,by omega,fun j u hj=>by simp at hj⟩
  ·rw [if_neg h0,Nat.mul_one,Option.map_some,add_at]
   refine .inr ⟨g,off+lo,c-lo,cur,fr,by rw [hl'],hb,hgg,hf,by rw [hl'];omega,by omega,by omega,fun j u hj=> ?_⟩
   have hj':j<hi-lo:=by have:=(List.getElem?_eq_some_iff.1 hj).1;omega
   rw [List.getElem?_take,if_pos hj',List.getElem?_drop]at hj
   rw [Nat.add_assoc]
   exact hx _ u hj
def indexOf (c:UInt8)(l:BS):Int:=if(cutAt c l).2.2 then(cutAt c l).1.length else-1
theorem zzIndex_any (l:BS)(c:UInt8)(w:World)(hs:l.length≤4294967296):
 Calls Tryz.prog 131 #[Str l,Str [c]] w fun e w'=>e= .returned (.int .i64 (indexOf c l))∧w=w':=by
 go_enter Tryz.func131,Tryz.ntmps131
 go_wp2
 go_loop [5] (fun i=> ∃k:Nat,k≤l.length∧i= .int .i64 k∧Hid (∀j,(hj:j<k)→(hj2:j<l.length)→l[j]≠c)) (fun i=>l.length-(intOf i).toNat)
 case atStart=>exact⟨0,Nat.zero_le _,rfl,fun j hj=>by omega⟩
 case round=>
  obtain⟨k,hk,rfl,H⟩:=hrel
  by_cases hlt:k<l.length
  ·have hd:(l.drop k).take 1= [l[k]]:=by rw [List.drop_eq_getElem_cons hlt];rfl
   by_cases hc:l[k]=c
   ·have ht:((l.drop k).take 1== [c])=true:=by rw [hd,hc];simp
    have F:Hid (indexOf c l=k):=by
     show _=_
     rw [indexOf,cutAt_at c l k hlt (fun j hj=>H.out j hj (by omega)) hc];simp;omega
    clear hc hd
    go_wp2
    go_ret
    exact⟨by rw [F.out];rfl,rfl⟩
   ·have ht:((l.drop k).take 1== [c])=false:=by rw [hd];simpa using hc
    have Hc:=Lib.hid hc;clear hc hd
    go_wp2
    go_round
    case rel=>exact⟨k+1,by omega,by go_num,fun j hj hj2=>by
     by_cases e:j=k
     ·subst e;exact Hc.out
     ·exact H.out j (by omega) hj2⟩
    case measure=>simp [intOf];omega
  ·have F:Hid (indexOf c l= -1):=by
    show _=_
    rw [indexOf,cutAt_none c l (fun j hj=>H.out j (by omega) hj)];rfl
   go_wp2
   go_ret
   exact⟨by rw [F.out];rfl,rfl⟩
theorem cutAt_parts (c:UInt8)(l:BS)(h:(cutAt c l).2.2=true):(cutAt c l).1=l.take (cutAt c l).1.length∧(cutAt c l).2.1=l.drop ((cutAt c l).1.length+1)∧(cutAt c l).1.length<l.length:=by
 induction l with
 |nil=>simp [cutAt]at h
 |cons x r ih=>
  by_cases hx:x=c
  ·simp [cutAt,hx]
  ·simp only [cutAt,hx,if_false]at h⊢
   obtain⟨h1,h2,h3⟩:=ih h
   exact⟨by simp [←h1],by simpa using h2,by simpa using h3⟩
theorem cutAt_miss (c:UInt8)(l:BS)(h:(cutAt c l).2.2=false):cutAt c l=(l,[],false):=by
 induction l with
 |nil=>rfl
 |cons x r ih=>
  by_cases hx:x=c
  ·simp [cutAt,hx]at h
  ·simp only [cutAt,hx,if_false]at h⊢
   rw [ih h]
theorem zzCut_any (l:BS)(c:UInt8)(w:World)(hs:l.length≤4294967296):
 Calls Tryz.prog 110 #[Str l,Str [c]] w fun e w'=>e= .returned (.tuple #[Str (cutAt c l).1,Str (cutAt c l).2.1, .bool (cutAt c l).2.2])∧Below w.heap.size w w':=by
 cases hf:(cutAt c l).2.2 with
 |true=>
  obtain⟨h1,h2,h3⟩:=cutAt_parts c l hf
  have F:Hid (indexOf c l=(cutAt c l).1.length):=by show _=_;rw [indexOf,hf];rfl
  generalize hk:(cutAt c l).1.length=k at*
  have H1:=Lib.hid h1;have H2:=Lib.hid h2;clear h1 h2 hf hk
  have hk0:(0:Int)≤(k:Int):=by omega
  go_enter Tryz.func110,Tryz.ntmps110
  go_wp2_with (go_at_call 131;refine(zzIndex_any l c _ hs).mono ?_;rintro e w1 ⟨rfl,rfl⟩;rw [F.out])
  go_quiet (fail)
  go_wp2
  go_ret3
  exact⟨by rw [H1.out,H2.out];simp,bdN (Below.refl _ _) _⟩
 |false=>
  have hm:=cutAt_miss c l hf
  have F:Hid (indexOf c l= -1):=by show _=_;rw [indexOf,hf];rfl
  have Hm:=Lib.hid hm;clear hm hf
  go_enter Tryz.func110,Tryz.ntmps110
  go_wp2_with (go_at_call 131;refine(zzIndex_any l c _ hs).mono ?_;rintro e w1 ⟨rfl,rfl⟩;rw [F.out])
  go_ret3
  exact⟨by rw [Hm.out];rfl,Below.refl _ _⟩
def spaceB (c:UInt8):Bool:=(decide (9≤c)&&decide (c≤13))||c==32
theorem space_blank (c:UInt8)(h:plainB c=true):spaceB c=blank c:=by
 simp only [plainB,Bool.and_eq_true,decide_eq_true_eq,bne_iff_ne]at h
 obtain⟨⟨h1,h2⟩,h3⟩:=h
 rw [Bool.eq_iff_iff]
 simp only [spaceB,blank,Bool.or_eq_true,Bool.and_eq_true,decide_eq_true_eq,beq_iff_eq,UInt8.le_iff_toNat_le,←UInt8.toNat_inj,ne_eq]at*
 have e9:(9:UInt8).toNat=9:=rfl
 have e10:(10:UInt8).toNat=10:=rfl
 have e11:(11:UInt8).toNat=11:=rfl
 have e12:(12:UInt8).toNat=12:=rfl
 have e13:(13:UInt8).toNat=13:=rfl
 have e32:(32:UInt8).toNat=32:=rfl
 rw [e9,e10,e13,e32]
 rw [e11]at h2
 rw [e12]at h3
 omega
theorem zzIsSpace_any (c:UInt8)(w:World)(h:c.toNat<128):
 Calls Tryz.prog 132 #[.int .i32 c.toNat] w fun e w'=>e= .returned (.bool (spaceB c))∧w=w':=by
 have a:=u8_le 9 c;have b:=u8_le c 13;have d:=u8_eq c 32
 have F:Hid (spaceB c=((decide (9≤(c.toNat:Int))&&decide ((c.toNat:Int)≤13))||((c.toNat:Int)==32))):=by
  show _=_
  simp only [spaceB,←a,←b,←d];rfl
 clear a b d
 have hc:(c.toNat:Int)<128:=by omega
 have hc0:0≤(c.toNat:Int):=by omega
 by_cases h1:9≤(c.toNat:Int)
 ·by_cases h2:(c.toNat:Int)≤13
  ·go_enter Tryz.func132,Tryz.ntmps132
   go_wp2
   go_ret
   exact⟨by rw [F.out];simp [h1,h2],rfl⟩
  ·cases h3:((c.toNat:Int)==32)with
   |true=>
    go_enter Tryz.func132,Tryz.ntmps132
    go_wp2
    go_ret
    exact⟨by rw [F.out,h3];simp,rfl⟩
   |false=>
    go_enter Tryz.func132,Tryz.ntmps132
    go_wp2
    go_ret
    exact⟨by rw [F.out,h3];simp [h2],rfl⟩
 ·have h3:((c.toNat:Int)==32)=false:=by rw [beq_eq_false_iff_ne];omega
  go_enter Tryz.func132,Tryz.ntmps132
  go_wp2
  go_ret
  have h1':decide (9≤(c.toNat:Int))=false:=by simp;omega
  exact⟨by rw [F.out,h3,h1'];rfl,rfl⟩
theorem appE1 {ops:Array Oper} {rest:List Oper} {o:Oper} {a:Act} {Q:Exit→Act→World→Prop} {w w0:World} {B:Nat} {t e:TypeId} {z:Value} {bytes:Nat} (ht:Tryz.prog.underlying t=some (.slice e))
 (hinfo:(Tryz.prog.info? e).map (fun i=>(i.zero,i.size,i.bytes))=some (some z,1,bytes))(hz:z.cells.size=1)(v:Value)(hgd:o.guard=none)(s x:Operand)(ho:o.op= .call { callee:= .builtin .append,args:= #[s,x],argTypes:= #[t,t] })
 (l:List Value)(u:Value)(h1:u.oneCell'=true)(hs:a.eval s=v)(hown:OwnAt w B e v l)(n:Nat)(hsz:n=w.heap.size)(hxv:a.eval x= .slice (some ⟨n,0,none⟩) 1 1)(hn:(l.length+1)*bytes≤140737488355328)(hm:l.length≤4398046511104)(hb:Below B w0 w)(hB:B≤w0.heap.size)
 (h: ∀v' w',OwnAt w' B e v' (l++ [u])→(w.alloc (.cells #[u] e)).grownBy w' v.ownBlock→Below B w0 w'→wpList Tryz.prog ops Q rest (a.put o.dst v') w'):wpList Tryz.prog ops Q (o::rest) a (w.alloc (.cells #[u] e)):=by
 subst hsz
 have hBw:=Nat.le_trans hB hb.size
 obtain⟨i,hi,hz',hs1,hb'⟩:=info_parts hinfo
 refine wpList_plain hgd fun K hK=>wp_app s x t t ho B e i z bytes ht (.inr ⟨_,ht⟩) hi hz' hs1 hb' hz v l hs (hown.alloc _) _ [u] hxv (Src.one w e u h1) ?_ ?_ (Nat.le_trans hBw (leA _ _)) fun v' w' h2 h3 h4=>hK _ _ (h v' w' h2 h3 ((hb.alloc hBw _).trans (grown_below (hown.alloc _) h3 (Nat.le_trans hBw (leA _ _)))))
 ·simp only [List.length_cons,List.length_nil,maxLen];omega
 ·simpa only [List.length_cons,List.length_nil]using hn
theorem Tryz.info198:(Tryz.prog.info? 198).map (fun i=>(i.zero,i.size,i.bytes))=some (some (.int .u32 0),1,4):=by kernel_rfl
theorem Tryz.underlying196:Tryz.prog.underlying 196=some (.slice 198):=by kernel_rfl
structure Frm (S:Nat→Prop)(w w':World):Prop where
 os:w'.os=w.os
 tape:w'.tape=w.tape
 output:w'.output=w.output
 size:w.heap.size≤w'.heap.size
 block: ∀k,k<w.heap.size→¬S k→w'.heap[k]?=w.heap[k]?
section
variable {S T:Nat→Prop} {a w w':World} {B:Nat}
theorem Frm.refl (S:Nat→Prop)(w:World):Frm S w w:=⟨rfl,rfl,rfl,Nat.le_refl _,fun _ _ _=>rfl⟩
theorem Frm.mono (h:Frm S w w')(hST: ∀k,k<w.heap.size→S k→T k):Frm T w w':=⟨h.os,h.tape,h.output,h.size,fun k hk hT=>h.block k hk fun hs=>hT (hST k hk hs)⟩
theorem Frm.trans (h:Frm S a w)(k:Frm S w w'):Frm S a w':=
 ⟨k.os.trans h.os,k.tape.trans h.tape,k.output.trans h.output,Nat.le_trans h.size k.size,fun i hi hs=>(k.block i (Nat.lt_of_lt_of_le hi h.size) hs).trans (h.block i hi hs)⟩
theorem Frm.after (h:Frm S a w)(k:Frm T w w')(hT: ∀i,i<a.heap.size→T i→S i):Frm S a w':=
 ⟨k.os.trans h.os,k.tape.trans h.tape,k.output.trans h.output,Nat.le_trans h.size k.size,fun i hi hs=>(k.block i (Nat.lt_of_lt_of_le hi h.size) (fun ht=>hs (hT i hi ht))).trans (h.block i hi hs)⟩
theorem Frm.below (h:Frm S w w')(hS: ∀k,k<w.heap.size→S k→B≤k)(hB:B≤w.heap.size):Below B w w':=⟨h.os,h.tape,h.output,h.size,fun k hk=>h.block k (Nat.lt_of_lt_of_le hk hB) fun hs=>absurd (hS k (Nat.lt_of_lt_of_le hk hB) hs) (by omega)⟩
theorem Frm.of_below (h:Below B w w'):Frm (B≤ ·) w w':=⟨h.os,h.tape,h.output,h.size,fun k _ hs=>h.block k (by simpa using hs)⟩
theorem Frm.of_new (h:Below w.heap.size w w'):Frm S w w':=⟨h.os,h.tape,h.output,h.size,fun k hk _=>h.block k hk⟩
theorem Frm.of_grown {r:Option Nat} (h:w.grownBy w' r):Frm (fun k=>some k=r) w w':=⟨h.os,h.tape,h.output,h.size,fun k hk hs=>h.block k hk hs⟩
theorem Frm.drewN (h:Frm S a w)(n:Nat):Frm S a (w.drewN n):=⟨h.os,h.tape,h.output,h.size,h.block⟩
theorem Frm.drew (h:Frm S a w):Frm S a w.drew:=⟨h.os,h.tape,h.output,h.size,h.block⟩
theorem Frm.alloc (h:Frm S a w)(o:Obj):Frm S a (w.alloc o):=h.trans (Frm.of_new ((Below.refl _ _).alloc (Nat.le_refl _) o))
theorem Frm.setCell (h:Frm S a w)(p:Addr)(u:Value)(hp:p.block<a.heap.size→S p.block):Frm S a (w.setCell p u):=
 h.after (T:=fun k=>k=p.block) ⟨rfl,rfl,rfl,by simp [World.setCell],fun k _ hne=>Below.heap_setCell w p u k hne⟩ (fun i hi e=>by subst e;exact hp hi)
theorem Blk.frm {g:Nat} {t:TypeId} {cs:List Value} (h:Blk w g t cs)(hf:Frm S w w')(hg: ¬S g):Blk w' g t cs:=(hf.block g h.lt hg).trans h
theorem OwnAt.frm {e:TypeId} {v:Value} {xs:List Value} (h:OwnAt w B e v xs)(hf:Frm S w w')(hv: ∀k,v.ownBlock=some k→¬S k):OwnAt w' B e v xs:=by
 rcases h with hn|⟨g,off,cap,cur,fr,rfl,hb,hgg,rest⟩
 ·exact .inl hn
 ·exact .inr ⟨g,off,cap,cur,fr,rfl,hb,by rw [hf.block g (Array.getElem?_eq_some_iff.1 hgg).1 (hv g rfl)];exact hgg,rest⟩
theorem Rd.frm {v:Value} {xs:List Value} (h:Rd w v xs)(hf:Frm S w w')(hv: ∀k,v.ownBlock=some k→¬S k):Rd w' v xs:=by
 obtain⟨A,c,rfl,hlc,hx⟩:=h
 refine⟨A,c,rfl,hlc,?_⟩
 rcases hx with hn|⟨g,off,rfl,hb,hc⟩
 ·exact .inl hn
 ·refine .inr ⟨g,off,rfl,Nat.lt_of_lt_of_le hb hf.size,fun j u hu=> ?_⟩
  rw [World.cell?_of_block (w:=w)]
  ·exact hc j u hu
  ·exact hf.block _ hb (hv g rfl)
theorem frC (hf:Frm S w w') {p:Addr} {u:Value} (h:w.cell? p=some u)(hp: ¬S p.block):w'.cell? p=some u:=by
 rw [World.cell?_of_block (w:=w)]
 ·exact h
 ·exact hf.block _ (World.block_lt_of_cell? w _ h) hp
end
def It (w:World)(k:Nat)(l:List UInt8)(pos:Nat):Prop:=w.heap[k]?=some (.stringIter ⟨l.toArray⟩ pos)
section
variable {w w':World} {k pos:Nat} {l:List UInt8}
theorem It.lt (h:It w k l pos):k<w.heap.size:=(Array.getElem?_eq_some_iff.1 h).1
theorem It.new (w:World)(l:List UInt8):It (w.iter ⟨l.toArray⟩ 0) w.heap.size l 0:=World.iter_heap w _ 0
theorem It.alloc (h:It w k l pos)(o:Obj):It (w.alloc o) k l pos:=(Below.heap_alloc w o k h.lt).trans h
theorem It.own_ne {B:Nat} {e:TypeId} {v:Value} {xs:List Value} (h:It w k l pos)(ho:OwnAt w B e v xs):some k≠v.ownBlock:=by
 rcases ho with⟨rfl,_⟩|⟨g,off,cap,cur,fr,rfl,_,hg,_⟩
 ·simp [Value.ownBlock]
 ·intro e
  have:k=g:=by simpa [Value.ownBlock]using e
  subst this
  unfold It at h
  rw [h]at hg;cases hg
theorem It.grown {row:Option Nat} (h:It w k l pos)(hg:w.grownBy w' row)(hne:some k≠row):It w' k l pos:=(hg.block k h.lt hne).trans h
theorem It.pos_eq (h:It w k l pos):w.iterPos k=pos:=by unfold It at h;simp [World.iterPos,h]
theorem It.step (h:It w k l pos)(pos':Nat):It (w.iterAt k ⟨l.toArray⟩ pos') k l pos':=Lib.iterAt_heap w k _ pos pos' h
theorem It.next (h:It w k l pos)(ty:TypeId)(hp:pos<l.length)(ha:l[pos].toNat<128):
 (Instr.next (.pointer (some ⟨k,0,none⟩)) true ty).run Tryz.prog w= .ok (.tuple #[.bool true, .int .i64 pos, .int .i32 l[pos].toNat]) (w.iterAt k ⟨l.toArray⟩ (pos+1)):=
 Lib.run_next_ascii_at w k ⟨l.toArray⟩ pos ty h hp ha
theorem It.stop (h:It w k l pos)(ty:TypeId)(hp: ¬pos<l.length):(Instr.next (.pointer (some ⟨k,0,none⟩)) true ty).run Tryz.prog w= .ok (.tuple #[.bool false]) w:=
 Lib.run_next_end_at w k ⟨l.toArray⟩ pos ty h hp
theorem own_iterAt {B:Nat} {e:TypeId} {v:Value} {xs:List Value} (ho:OwnAt w B e v xs)(h:It w k l pos)(pos':Nat):OwnAt (w.iterAt k ⟨l.toArray⟩ pos') B e v xs:=by
 have hne:=h.own_ne ho
 rcases ho with hn|⟨g,off,cap,cur,fr,rfl,hb,hgg,rest⟩
 ·exact .inl hn
 ·refine .inr ⟨g,off,cap,cur,fr,rfl,hb,?_,rest⟩
  rw [Lib.iterAt_other w k g _ _ (fun e=>hne (by rw [e];rfl))];exact hgg
end
theorem below_iter {B:Nat} {a w:World} (h:Below B a w)(hB:B≤w.heap.size)(s:ByteArray)(p:Nat):Below B a (w.iter s p):=h.alloc hB _
theorem Tryz.underlying205:Tryz.prog.underlying 205=some (.slice 21):=by kernel_rfl
theorem Tryz.info21:(Tryz.prog.info? 21).map (fun i=>(i.zero,i.size,i.bytes))=some (some (.int .i32 0),1,4):=by kernel_rfl
theorem Tryz.underlying21:Tryz.prog.underlying 21=some (.int .i32):=by kernel_rfl
def runs (l:List UInt8):List Value:=l.map fun b=> .int .i32 b.toNat
theorem runs_length (l:List UInt8):(runs l).length=l.length:=by simp [runs]
theorem conv_rune (w:World)(c:UInt8)(hc:c.toNat<128): ∃cap w1,(convert 9 205 (Str [c])).run Tryz.prog w= .ok (.slice (some ⟨w.heap.size,0,none⟩) 1 cap) w1∧
 w1.cell? ⟨w.heap.size,0,none⟩=some (.int .i32 c.toNat)∧Below w.heap.size w w1:=by
 have hr:Conv.runesFrom ⟨[c].toArray⟩ (⟨[c].toArray⟩:ByteArray).size 0 #[]= #[.int .i32 c.toNat]:=by
  have hd:=decode_ascii ⟨[c].toArray⟩ 0 (by show 0<1;omega) hc
  show Conv.runesFrom _ 1 0 #[]=_
  have hs:(0:Nat)<(⟨[c].toArray⟩:ByteArray).size:=by show 0<1;omega
  simp only [Conv.runesFrom,hs,if_true,hd]
  rfl
 have h:=run_runes_of_string (P:=Tryz.prog) w 9 205 21 ⟨[c].toArray⟩ Tryz.underlying9 Tryz.underlying205 Tryz.underlying21 (by rw [hr];simp)
 rw [hr]at h
 refine⟨_,_,h,?_,((Below.refl _ _).drew.alloc (Nat.le_refl _) _)⟩
 have:=heap_alloc_new w.drew (.cells (#[.int .i32 c.toNat]++Array.replicate (grownCap w (#[Value.int .i32 c.toNat]:Array Value).size 0 21-(#[Value.int .i32 c.toNat]:Array Value).size) (.int .i32 0)) 21)
 have e:=cell_of_row _ _ 0 _ _ _ this
 rw [Array.getElem?_append_left (by simp)]at e
 exact e
theorem encode_ascii (c:UInt8)(hc:c.toNat<128):Utf8.encode (c.toNat:Int)=⟨[c].toArray⟩:=by
 have h: ∀n:Fin 128,Utf8.encode ((n.val:Nat):Int)=⟨[UInt8.ofNat n.val].toArray⟩:=by decide+kernel
 have:=h ⟨c.toNat,hc⟩
 simpa using this
theorem conv_str (w:World)(c:UInt8)(hc:c.toNat<128):(convert 21 9 (.int .i32 c.toNat)).run Tryz.prog w= .ok (Str [c]) w:=by
 rw [run_convert_int_string w 21 9 .i32 _ (by rw [Tryz.underlying21];rfl) Tryz.underlying9,encode_ascii c hc]
theorem plain_lt {c:UInt8} (h:plainB c=true):c.toNat<128:=by
 simp only [plainB,Bool.and_eq_true,decide_eq_true_eq,UInt8.lt_iff_toNat_lt]at h
 exact h.1.1
theorem plain_at {l:BS} (h:plain l=true)(k:Nat)(hk:k<l.length):plainB l[k]=true:=List.all_eq_true.1 h _ (List.getElem_mem hk)
theorem dropWhile_at (l:BS)(k:Nat)(h:k<l.length)(hb:blanks (l.take k))(hk:blank l[k]=false):l.dropWhile blank=l.drop k:=by
 have e:l=l.take k++l.drop k:=(List.take_append_drop k l).symm
 conv=>lhs;rw [e]
 rw [dropWhile_blanks _ _ hb,List.drop_eq_getElem_cons h,List.dropWhile_cons,if_neg (by rw [hk];decide)]
theorem blanks_snoc {l:BS} {k:Nat} (hk:k<l.length)(h:blanks (l.take k))(hb:blank l[k]=true):blanks (l.take (k+1)):=by
 rw [List.take_succ_eq_append_getElem hk]
 intro c hc
 rcases List.mem_append.1 hc with hc|hc
 ·exact h c hc
 ·simp at hc;subst hc;exact hb
structure Tail (l:BS)(f k t:Nat):Prop where
 le:f≤k∧k≤l.length
 tail:(k=f∧t=l.length)∨(f<t∧t≤k∧rtrim ((l.drop f).take (k-f))=(l.drop f).take (t-f))
theorem Tail.step {l:BS} {f k t:Nat} (h:Tail l f k t)(hk:k<l.length)(hf: ∀(h:f<l.length),blank l[f]=false):Tail l f (k+1) (if blank l[k]then t else k+1):=by
 obtain⟨⟨h1,h2⟩,h3⟩:=h
 refine⟨⟨by omega,by omega⟩, .inr ?_⟩
 have e:(l.drop f).take (k+1-f)=(l.drop f).take (k-f)++ [l[k]]:=by
  rw [show k+1-f=(k-f)+1 by omega,List.take_succ_eq_append_getElem (by simp;omega)]
  simp
  congr 1
  omega
 cases hb:blank l[k]with
 |false=>exact⟨by simp;omega,by simp,by rw [e,rtrim_snoc,hb];simp [e]⟩
 |true=>
  rcases h3 with⟨rfl,rfl⟩|⟨h4,h5,h6⟩
  ·rw [hf hk]at hb;cases hb
  ·exact⟨by simpa using h4,by simp;omega,by rw [e,rtrim_snoc,hb];simpa using h6⟩
theorem Tail.stop {l:BS} {f t:Nat} (h:Tail l f l.length t)(hf:f<l.length):f≤t∧t≤l.length∧rtrim (l.drop f)=(l.drop f).take (t-f):=by
 rcases h.tail with⟨h1,_⟩|⟨h1,h2,h3⟩
 ·omega
 ·rw [List.take_of_length_le (by simp)]at h3
  exact⟨by omega,by omega,h3⟩
theorem plain_sub {l r:BS} (h:plain l=true)(hr: ∀c∈r,c∈l):plain r=true:=List.all_eq_true.2 fun c hc=>List.all_eq_true.1 h c (hr c hc)
theorem cutAt_sub (c:UInt8)(l:BS):(∀d∈(cutAt c l).1,d∈l)∧∀d∈(cutAt c l).2.1,d∈l:=by
 induction l with
 |nil=>simp [cutAt]
 |cons x r ih=>
  by_cases hx:x=c
  ·simp only [cutAt,hx,if_true]
   exact⟨by simp,fun d hd=>by simp [hd]⟩
  ·simp only [cutAt,hx,if_false]
   refine⟨fun d hd=> ?_,fun d hd=> ?_⟩
   ·rcases List.mem_cons.1 hd with rfl|hd
    ·simp
    ·simp [ih.1 d hd]
   ·simp [ih.2 d hd]
theorem cutAt_plain (c:UInt8)(l:BS)(h:plain l=true):plain (cutAt c l).1=true∧plain (cutAt c l).2.1=true:=⟨plain_sub h (cutAt_sub c l).1,plain_sub h (cutAt_sub c l).2⟩
theorem zzTrimSpace_any (l:BS)(w:World)(hs:l.length≤4294967296)(hp:plain l=true):
 Calls Tryz.prog 111 #[Str l] w fun e w'=>e= .returned (Str (trim l))∧Below w.heap.size w w':=by
 have Hp:Hid (plain l=true):=hp
 clear hp
 have hb0:Below w.heap.size w (w.iter ⟨l.toArray⟩ 0):=below_iter (Below.refl _ _) (Nat.le_refl _) _ _
 have hi0:=It.new w l
 go_enter Tryz.func111,Tryz.ntmps111
 go_wp2
 go_loopw [3,5,6] (fun f _ _ wr=>f= .int .i64 l.length∧∃k:Nat,k≤l.length∧It wr w.heap.size l k∧Hid (blanks (l.take k))∧Below w.heap.size w wr) (fun _ _ _ wr=>l.length-wr.iterPos w.heap.size)
 case atStart=>exact⟨rfl,0,Nat.zero_le _,hi0,by simp [Hid,blanks],hb0⟩
 case round=>
  obtain⟨rfl,k,hk,hi,H,hb⟩:=hrel
  clear hb0 hi0
  by_cases hlt:k<l.length
  ·have hpl:=plain_at Hp.out k hlt
   have hlt128:=plain_lt hpl
   have hnext:=fun ty=>hi.next ty hlt hlt128
   have hi1:=hi.step (k+1)
   have hb1:=Lib.below_iterAt hb (Nat.le_refl _) ⟨l.toArray⟩ (k+1)
   have hpos:=hi.pos_eq
   generalize wr.iterAt w.heap.size ⟨l.toArray⟩ (k+1)=w1 at*
   have hsb:=space_blank l[k] hpl
   cases hbl:blank l[k]with
   |true=>
    have Hq:Hid (spaceB l[k]=true):=by show _=_;rw [hsb,hbl]
    have H2:Hid (blanks (l.take (k+1))):=blanks_snoc hlt H.out hbl
    clear hsb hbl hpl
    go_wp2_with (go_at_call 132;refine(zzIsSpace_any _ _ hlt128).mono ?_;rintro e w2 ⟨rfl,rfl⟩;rw [Hq.out])
    go_roundw
    case rel=>exact⟨rfl,k+1,by omega,hi1,H2,hb1⟩
    case measure=>rw [hpos,hi1.pos_eq];omega
   |false=>
    have Hq:Hid (spaceB l[k]=false):=by show _=_;rw [hsb,hbl]
    have Hd:Hid (l.dropWhile blank=l.drop k):=dropWhile_at l k hlt H.out hbl
    have Hf:Hid (∀(h:k<l.length),blank l[k]=false):=fun _=>hbl
    clear hsb hbl hpl
    go_wp2_with (go_at_call 132;refine(zzIsSpace_any _ _ hlt128).mono ?_;rintro e w2 ⟨rfl,rfl⟩;rw [Hq.out])
    clear hnext H hi1 hi hpos
    have hk0:((k:Int)==(l.length:Int))=false:=by rw [beq_eq_false_iff_ne];omega
    have T0:Hid (Tail l k k l.length):=⟨⟨by omega,by omega⟩, .inl ⟨rfl,rfl⟩⟩
    go_loopw [4,7,8,9,10] (fun t i _ _ _ wr=> ∃(q tt:Nat),q≤l.length∧i= .int .i64 q∧t= .int .i64 tt∧Hid (Tail l k q tt)∧Below w.heap.size w wr) (fun _ i _ _ _ _=>l.length-(intOf i).toNat)
    case atStart=>exact⟨k,l.length,by omega,rfl,rfl,T0,hb1⟩
    case round=>
     obtain⟨q,tt,hq,rfl,rfl,T,hb2⟩:=hrel
     clear hb1 T0
     by_cases hql:q<l.length
     ·have hpq:=plain_at Hp.out q hql
      have hq128:=plain_lt hpq
      have hq192: ¬(192:Int)≤(l[q].toNat:Int):=by omega
      have hd1:(l.drop q).take 1= [l[q]]:=by rw [List.drop_eq_getElem_cons hql];rfl
      obtain⟨cap1,wc1,hc1,hcc1,hbc1⟩:=conv_rune wr l[q] hq128
      obtain⟨cap2,wc2,hc2,hcc2,hbc2⟩:=conv_rune wc1 l[q] hq128
      have hbw1:=hb2.trans (hbc1.mono hb2.size)
      have hbw2:=hbw1.trans (hbc2.mono hbw1.size)
      have Tn:=Lib.hid (T.out.step hql Hf.out)
      have hsb:=space_blank l[q] hpq
      clear hpq T
      go_wp2
      go_loop [8] (fun n=>n= .int .i64 1) (fun _=>0)
      case atStart=>rfl
      case round=>
       subst hrel
       have hqn:((q:Int)+1<(l.length:Int))∨¬((q:Int)+1<(l.length:Int)):=Classical.em _
       rcases hqn with hqn|hqn
       all_goals
        cases hbl:blank l[q]with
        |true=>
         have Hs:Hid (spaceB l[q]=true):=by show _=_;rw [hsb,hbl]
         rw [hbl]at Tn
         go_wp2_with (go_at_call 132;refine(zzIsSpace_any _ _ hq128).mono ?_;rintro e w2 ⟨rfl,rfl⟩;rw [Hs.out])
         go_roundw
         case rel=>exact⟨q+1,tt,by omega,by go_num,rfl,Tn,hbw2⟩
         case measure=>simp [intOf];omega
        |false=>
         have Hs:Hid (spaceB l[q]=false):=by show _=_;rw [hsb,hbl]
         rw [hbl]at Tn
         go_wp2_with (go_at_call 132;refine(zzIsSpace_any _ _ hq128).mono ?_;rintro e w2 ⟨rfl,rfl⟩;rw [Hs.out])
         go_roundw
         case rel=>exact⟨q+1,q+1,by omega,by go_num,by go_num,Tn,hbw2⟩
         case measure=>simp [intOf];omega
     ·obtain rfl:q=l.length:=by omega
      obtain⟨t1,t2,t3⟩:=T.out.stop hlt
      have F:Hid (trim l=(l.drop k).take (tt-k)):=by show _=_;rw [trim,Hd.out,t3]
      clear t3 T
      go_wp2
      go_ret
      exact⟨by rw [F.out];rfl,hb2⟩
  ·have hnext:=fun ty=>hi.stop ty hlt
   have e:k=l.length:=by omega
   have F:Hid (trim l= []):=by
    show _=_
    have:=H.out
    rw [e,List.take_length]at this
    unfold trim;rw [dropWhile_all _ this];rfl
   clear e
   go_wp2
   go_loop [7] (fun i=>i= .int .i64 l.length) (fun _=>0)
   case atStart=>rfl
   case round=>
    subst hrel
    go_wp2
    go_ret
    exact⟨by rw [F.out];rfl,hb⟩
theorem parseHeaderField_any (l:BS)(w:World)(hs:l.length≤4294967296)(hp:plain l=true):
 Calls Tryz.prog 88 #[Str l] w fun e w'=>e= .returned (.tuple #[Str (name l),Str (trim (cutAt 58 l).2.1)])∧Below w.heap.size w w':=by
 have hcl:=cutAt_len 58 l
 have hc:=cutAt_plain 58 l hp
 go_enter Tryz.func88,Tryz.ntmps88
 have tok:True:=trivial
 go_wp2_with (first
  |(go_at_call 110;refine(zzCut_any l 58 _ hs).mono ?_;rintro e w1 ⟨rfl,hb1⟩)
  |(go_at_call 111;have _t:=tok;refine(zzTrimSpace_any _ _ (by omega) hc.1).mono ?_;rintro e w2 ⟨rfl,hb2⟩;clear tok)
  |(go_at_call 111;refine(zzTrimSpace_any _ _ (by omega) hc.2).mono ?_;rintro e w3 ⟨rfl,hb3⟩))
 go_ret2
 have s1:=hb1.size
 have s2:=hb2.size
 exact⟨rfl,(hb1.trans (hb2.mono s1)).trans (hb3.mono (by omega))⟩
theorem low_a (c:UInt8):(low c).toNat=if 65≤c.toNat∧c.toNat≤90 then c.toNat+32 else c.toNat:=low_eq c
theorem zzToLower_any (l:BS)(w:World)(hs:l.length≤4294967296)(hp:plain l=true):
 Calls Tryz.prog 147 #[Str l] w fun e w'=>e= .returned (Str (lower l))∧Below w.heap.size w w':=by
 have Hp:Hid (plain l=true):=hp
 clear hp
 go_enter Tryz.func147,Tryz.ntmps147
 go_wp2
 go_loopw [3,4,5,19,32] (fun v i _ _ _ wr=> ∃k:Nat,k≤l.length∧i= .int .i64 k∧OwnAt wr w.heap.size 5 v (byts (lower (l.take k)))∧Below w.heap.size w wr) (fun _ i _ _ _ _=>l.length-(intOf i).toNat)
 case atStart=>exact⟨0,Nat.zero_le _,rfl,OwnAt.nil _ _ _,Below.refl _ _⟩
 case round=>
  obtain⟨k,hk,rfl,ho,hb⟩:=hrel
  by_cases hlt:k<l.length
  ·have hsl:(lower (l.take k)).length≤4294967296:=by rw [lwL];simp;omega
   have H:Hid (lower (l.take (k+1))=lower (l.take k)++ [low l[k]]):=by show List.map low _=_;rw [List.take_succ_eq_append_getElem hlt,List.map_append];rfl
   have hbs:=hb.size
   have h128:=plain_lt (plain_at Hp.out k hlt)
   have hlow:=low_a l[k]
   by_cases h12:65≤(l[k].toNat:Int)∧(l[k].toNat:Int)≤90
   ·obtain⟨h1,h2⟩:=h12
    rw [if_pos (by omega)]at hlow
    have hn:(l[k].toNat:Int)+97-65=((low l[k]).toNat:Int):=by omega
    have hn':(l[k].toNat:Int)+32=((low l[k]).toNat:Int):=by omega
    clear hlow
    go_wp2_with (at_builtin;refine appB1 rfl (.tmp 26) (.tmp 30) rfl _ (low l[k]) _ ?hn rfl ho rfl (by omega) hb (Nat.le_refl _) ?_;(case hn=>first|exact hn|exact hn'|omega);intro v1 w1 ho1 _ hb1)
    go_roundw
    case rel=>exact⟨k+1,by omega,by go_num,by rw [H.out];exact ho1,hb1⟩
    case measure=>simp [intOf];omega
   ·rw [if_neg (by omega)]at hlow
    have Hlow:Hid (low l[k]=l[k]):=UInt8.toNat_inj.1 hlow
    clear hlow
    have hne:((l.drop k).take 3== [226,132,170])=false:=by
     rw [List.drop_eq_getElem_cons hlt]
     simp only [List.take_succ_cons]
     rw [beq_eq_false_iff_ne]
     intro e
     have:=(List.cons.inj e).1
     rw [this]at h128
     revert h128;decide
    have h3:(3:Int)≤(l.length:Int)-(k:Int)∨¬(3:Int)≤(l.length:Int)-(k:Int):=Classical.em _
    by_cases h1:65≤(l[k].toNat:Int)
    ·have h2: ¬(l[k].toNat:Int)≤90:=fun h=>h12 ⟨h1,h⟩
     clear h12
     rcases h3 with h3|h3
     all_goals
      go_wp2_with (at_builtin;refine appB1 rfl (.tmp 15) (.tmp 17) rfl _ l[k] _ rfl rfl ho rfl (by omega) hb (Nat.le_refl _) ?_;intro v1 w1 ho1 _ hb1)
      go_roundw
      case rel=>exact⟨k+1,by omega,by go_num,by rw [H.out,Hlow.out];exact ho1,hb1⟩
      case measure=>simp [intOf];omega
    ·clear h12
     rcases h3 with h3|h3
     all_goals
      go_wp2_with (at_builtin;refine appB1 rfl (.tmp 15) (.tmp 17) rfl _ l[k] _ rfl rfl ho rfl (by omega) hb (Nat.le_refl _) ?_;intro v1 w1 ho1 _ hb1)
      go_roundw
      case rel=>exact⟨k+1,by omega,by go_num,by rw [H.out,Hlow.out];exact ho1,hb1⟩
      case measure=>simp [intOf];omega
  ·have e:l.take k=l:=List.take_of_length_le (by omega)
   rw [e]at ho
   have hcv:=cvB ho.rd
   go_wp2
   go_ret
   exact⟨rfl,hb⟩
theorem stW_any (l:BS)(w:World)(hs:l.length≤4294967296)(hp:plain l=true):
 Calls Tryz.prog 97 #[Str l] w fun e w'=>e= .returned (Str (strip l))∧Below w.heap.size w w':=by
 have Hp:Hid (plain l=true):=hp
 clear hp
 have hb0:Below w.heap.size w (w.iter ⟨l.toArray⟩ 0):=below_iter (Below.refl _ _) (Nat.le_refl _) _ _
 have hi0:=It.new w l
 go_enter Tryz.func97,Tryz.ntmps97
 go_wp2
 go_loopw [3,5] (fun v _ wr=> ∃k:Nat,k≤l.length∧It wr w.heap.size l k∧OwnAt wr w.heap.size 5 v (byts (strip (l.take k)))∧Below w.heap.size w wr) (fun _ _ wr=>l.length-wr.iterPos w.heap.size)
 case atStart=>exact⟨0,Nat.zero_le _,hi0,OwnAt.nil _ _ _,hb0⟩
 case round=>
  obtain⟨k,hk,hi,ho,hb⟩:=hrel
  clear hb0 hi0
  by_cases hlt:k<l.length
  ·have hpl:=plain_at Hp.out k hlt
   have hlt128:=plain_lt hpl
   have hnext:=fun ty=>hi.next ty hlt hlt128
   have hi1:=hi.step (k+1)
   have ho1:=own_iterAt ho hi (k+1)
   have hb1:=Lib.below_iterAt hb (Nat.le_refl _) ⟨l.toArray⟩ (k+1)
   have hpos:=hi.pos_eq
   generalize wr.iterAt w.heap.size ⟨l.toArray⟩ (k+1)=w1 at*
   clear hi ho
   have hsb:=space_blank l[k] hpl
   have H:=Lib.hid (strip_snoc l k hlt)
   have hsl:(strip (l.take k)).length≤4294967296:=by
    have h1:=strip_len (l.take k)
    have:(l.take k).length≤k:=List.length_take_le _ _
    omega
   have hcs:=fun ww=>conv_str ww l[k] hlt128
   have hbs:=hb1.size
   cases hbl:blank l[k]with
   |true=>
    have Hq:Hid (spaceB l[k]=true):=by show _=_;rw [hsb,hbl]
    have Hb:=Lib.hid hbl
    clear hsb hbl hpl
    go_wp2_with (go_at_call 132;refine(zzIsSpace_any _ _ hlt128).mono ?_;rintro e w2 ⟨rfl,rfl⟩;rw [Hq.out])
    go_roundw
    case rel=>exact⟨k+1,by omega,hi1,by rw [H.out,Hb.out];simpa using ho1,hb1⟩
    case measure=>rw [hpos,hi1.pos_eq];omega
   |false=>
    have Hq:Hid (spaceB l[k]=false):=by show _=_;rw [hsb,hbl]
    have Hb:=Lib.hid hbl
    clear hsb hbl hpl
    go_wp2_with (first
     |(go_at_call 132;refine(zzIsSpace_any _ _ hlt128).mono ?_;rintro e w2 ⟨rfl,rfl⟩;rw [Hq.out])
     |(at_builtin;refine appB rfl (.tmp 14) (.tmp 16) 9 (.inr rfl) rfl _ [l[k]] rfl ho1 rfl (Src.str _) (by simp only [List.length_cons,List.length_nil];omega) hbs ?_;intro v2 w2 ho2 hg2 hb2 _))
    have hi2:=hi1.grown hg2 (hi1.own_ne ho1)
    go_roundw
    case rel=>exact⟨k+1,by omega,hi2,by rw [H.out,Hb.out];exact ho2,hb1.trans hb2⟩
    case measure=>rw [hpos,hi2.pos_eq];omega
  ·have hnext:=fun ty=>hi.stop ty hlt
   have e:l.take k=l:=List.take_of_length_le (by omega)
   rw [e]at ho
   have hcv:=cvB ho.rd
   go_wp2
   go_ret
   exact⟨rfl,hb⟩
open Go.RowKit Go.Maps
theorem Tryz.law9:Keyed Tryz.prog 9:=string_keyed Tryz.underlying9
theorem Tryz.zero9 (w:World):(zeroValue 9).run Tryz.prog w= .ok (Str []) w:=by kernel_rfl
theorem Tryz.zero3 (w:World):(zeroValue 3).run Tryz.prog w= .ok (.int .i64 0) w:=by kernel_rfl
theorem key_str (k:List UInt8)(hk:k.length≤140737488355328):keyOf Tryz.prog 9 (Str k)=some (.string k):=by
 have h:(⟨k.toArray⟩:ByteArray).size≤maxLen:=by show k.length≤maxLen;unfold maxLen;omega
 have:=WideMaps.keyOf_string_mk (P:=Tryz.prog) (k:=9) Tryz.underlying9 h
 simpa using this
theorem isKey_str (k:List UInt8)(hk:k.length≤140737488355328):WideAt.IsKeyLit (.string k):=Tryz.law9.key (key_str k hk)
def MapS (w:World)(b n:Nat)(f:List UInt8→Option (List UInt8)):Prop:=
 ∃D:DataW Unit,w.ownsMap Tryz.prog 9 (plainElem Tryz.prog 9) b n D∧∀k:List UInt8,has D (.string k)=(f k).isSome∧∀v,f k=some v→∀z,D.atKey (.string k) z= .lit (.string v)
section
variable {w w':World} {b n:Nat} {f:List UInt8→Option (List UInt8)}
theorem MapS.lt (h:MapS w b n f):b<w.heap.size:=by obtain⟨D,hD,_⟩:=h;exact hD.lt
theorem MapS.new (w:World):MapS (w.alloc (.map #[] 0)) w.heap.size 0 fun _=>none:=
 ⟨.map [],World.ownsMap_made w Tryz.prog 9 _,fun k=>⟨rfl,fun v hv=>by cases hv⟩⟩
theorem MapS.mono (h:MapS w b n f) {n':Nat} (hn:n≤n'):MapS w b n' f:=by obtain⟨D,hD,hf⟩:=h;exact⟨D,hD.mono hn,hf⟩
theorem MapS.frm {S:Nat→Prop} (h:MapS w b n f)(hF:Frm S w w')(hS: ¬S b):MapS w' b n f:=by
 obtain⟨D,⟨es,clock,hb,F,hs,hD⟩,hf⟩:=h
 exact⟨D,⟨es,clock,(hF.block b (Array.getElem?_eq_some_iff.1 hb).1 hS).trans hb,F,hs,hD⟩,hf⟩
theorem MapS.below {B:Nat} (h:MapS w b n f)(hb:Below B w w')(hlt:b<B):MapS w' b n f:=h.frm (Frm.of_below hb) (by omega)
theorem MapS.congr {g:List UInt8→Option (List UInt8)} (h:MapS w b n f)(e: ∀k,f k=g k):MapS w b n g:=by rwa [show g=f from(funext e).symm]
end
def putF (f:List UInt8→Option (List UInt8))(k v:List UInt8):List UInt8→Option (List UInt8):=fun x=>if x=k then some v else f x
section
variable {w:World} {ops:Array Oper} {rest:List Oper} {o:Oper} {a:Act} {Q:Exit→Act→World→Prop} {b n:Nat} {f:List UInt8→Option (List UInt8)}
theorem mapS_put (hg:o.guard=none)(m x v:Operand)(hop:o.op=Op.mapUpdate 179 m x v)(hm:a.eval m= .map (some b))(hown:MapS w b n f)(hn:n<1000000000000)(k u:List UInt8)(hk:k.length≤140737488355328)(hu:u.length≤140737488355328)(hx:a.eval x=Str k)(hv:a.eval v=Str u)
 (h: ∀w',MapS w' b (n+1) (putF f k u)→w.grownBy w' (some b)→wpList Tryz.prog ops Q rest (a.put o.dst undef) w'):wpList Tryz.prog ops Q (o::rest) a w:=by
 obtain⟨D,hD,hf⟩:=hown
 have hs:(⟨u.toArray⟩:ByteArray).size≤maxLen:=by show u.length≤maxLen;unfold maxLen;omega
 refine wpList_mapUpdate_own w hg m x v 179 hop 9 9 Tryz.law9 Tryz.underlying179 _ b n D hm hD (by unfold maxLen;omega) _ _ _ hx hv (key_str k hk) _ [] (plainElem_string Tryz.underlying9 hs) fun w' h1 h2=>h w' ⟨_,h1,fun y=> ?_⟩ h2
 have hmap:=hD.isMap
 unfold putF
 by_cases e:y=k
 ·subst e
  rw [if_pos rfl,has_put_same hmap (isKey_str y hk)]
  exact⟨rfl,fun v hv z=>by injection hv with hv;subst hv;rw [atKey_put_same hmap (isKey_str y hk)]⟩
 ·have hne:(Lit.string y)≠ .string k:=fun h=>e (by injection h)
  rw [if_neg e,has_put_other hne]
  exact⟨(hf y).1,fun v hv z=>by rw [atKey_put_other hne];exact(hf y).2 v hv z⟩
theorem mapS_val {D:DataW Unit} {k:List UInt8} {v:Value} {ps:List MemPlace} (hf:has D (.string k)=(f k).isSome∧∀v,f k=some v→∀z,D.atKey (.string k) z= .lit (.string v))(hv:plainElem Tryz.prog 9 v=some (D.atKey (.string k) (.lit (.string [])),ps)):v=Str ((f k).getD []):=by
 obtain⟨s,rfl,hs,_⟩:=plainElem_string_inv Tryz.underlying9 hv
 have hs1:D.atKey (.string k) (.lit (.string []))= .lit (.string s.data.toList):=congrArg Prod.fst hs
 have hat:D.atKey (.string k) (.lit (.string []))= .lit (.string ((f k).getD [])):=by
  cases hc:f k with
  |none=>exact atKey_of_not_has (by rw [hf.1,hc];rfl) _
  |some u=>exact hf.2 u hc _
 have hl:s.data.toList=(f k).getD []:=Lit.string.inj (DataW.lit.inj (hs1.symm.trans hat))
 have e:s=⟨((f k).getD []).toArray⟩:=by
  apply ByteArray.ext;apply Array.ext'
  simpa using hl
 rw [e]
theorem zero_str:plainElem (H:=Unit) Tryz.prog 9 (Str [])=some (.lit (.string []),[]):=plainElem_string Tryz.underlying9 (s:=⟨#[]⟩) (Nat.zero_le _)
theorem run_mapS {w:World} {b n:Nat} {f:List UInt8→Option (List UInt8)} (hown:MapS w b n f)(k:List UInt8)(hk:k.length≤140737488355328):(Instr.lookup 179 (.map (some b)) (Str k) false).run Tryz.prog w= .ok (Str ((f k).getD [])) w:=by
 obtain⟨D,hD,hf⟩:=hown
 obtain⟨v,ps,hrun,hv⟩:=hD.lookup Tryz.law9 Tryz.underlying179 (Tryz.zero9 w) zero_str (key_str k hk)
 rw [hrun,mapS_val (hf k) hv]
theorem run_mapS_ok {w:World} {b n:Nat} {f:List UInt8→Option (List UInt8)} (hown:MapS w b n f)(k:List UInt8)(hk:k.length≤140737488355328):(Instr.lookup 179 (.map (some b)) (Str k) true).run Tryz.prog w= .ok (.tuple #[Str ((f k).getD []), .bool (f k).isSome]) w:=by
 obtain⟨D,hD,hf⟩:=hown
 obtain⟨v,ps,hrun,hv⟩:=hD.look_ok Tryz.law9 Tryz.underlying179 (Tryz.zero9 w) zero_str (key_str k hk)
 rw [hrun,mapS_val (hf k) hv,(hf k).1]
end
end Go.Proofs.YtgilnagajcfkpaaGreatDoor
namespace Go.Proofs.YtgilnagajcfkpaaGreatDoor
open Go.RowKit Go.Maps
def MapI (w:World)(b n:Nat)(f:List UInt8→Nat):Prop:=
 ∃D:DataW Unit,w.ownsMap Tryz.prog 9 (plainElem Tryz.prog 3) b n D∧∀k:List UInt8,f k≤n∧D.atKey (.string k) (.lit (.int .i64 0))= .lit (.int .i64 (f k))
section
variable {w w':World} {b n:Nat} {f:List UInt8→Nat}
theorem MapI.lt (h:MapI w b n f):b<w.heap.size:=by obtain⟨D,hD,_⟩:=h;exact hD.lt
theorem MapI.new (w:World):MapI (w.alloc (.map #[] 0)) w.heap.size 0 fun _=>0:=
 ⟨.map [],World.ownsMap_made w Tryz.prog 9 _,fun k=>⟨Nat.le_refl _,rfl⟩⟩
theorem MapI.mono (h:MapI w b n f) {n':Nat} (hn:n≤n'):MapI w b n' f:=by obtain⟨D,hD,hf⟩:=h;exact⟨D,hD.mono hn,fun k=>⟨Nat.le_trans (hf k).1 hn,(hf k).2⟩⟩
theorem MapI.frm {S:Nat→Prop} (h:MapI w b n f)(hF:Frm S w w')(hS: ¬S b):MapI w' b n f:=by
 obtain⟨D,⟨es,clock,hb,F,hs,hD⟩,hf⟩:=h
 exact⟨D,⟨es,clock,(hF.block b (Array.getElem?_eq_some_iff.1 hb).1 hS).trans hb,F,hs,hD⟩,hf⟩
theorem MapI.below {B:Nat} (h:MapI w b n f)(hb:Below B w w')(hlt:b<B):MapI w' b n f:=h.frm (Frm.of_below hb) (by omega)
theorem MapI.congr {g:List UInt8→Nat} (h:MapI w b n f)(e: ∀k,f k=g k):MapI w b n g:=by rwa [show g=f from(funext e).symm]
end
def incF (f:List UInt8→Nat)(k:List UInt8):List UInt8→Nat:=fun x=>if x=k then f x+1 else f x
theorem wf_i64n (n:Nat)(h:n<9223372036854775807):(Lit.int .i64 (n:Int)).wf=true:=WalkArith.wf_i64 (by omega)
section
variable {w:World} {ops:Array Oper} {rest:List Oper} {o:Oper} {a:Act} {Q:Exit→Act→World→Prop} {b n:Nat} {f:List UInt8→Nat}
theorem run_mapI {w:World} {b n:Nat} {f:List UInt8→Nat} (hown:MapI w b n f)(k:List UInt8)(hk:k.length≤140737488355328):(Instr.lookup 272 (.map (some b)) (Str k) false).run Tryz.prog w= .ok (.int .i64 (f k)) w:=by
 obtain⟨D,hD,hf⟩:=hown
 obtain⟨c,hrun,hat,_⟩:=hD.lookup_int Tryz.law9 Tryz.underlying272 Tryz.underlying3 (Tryz.zero3 w) (key_str k hk)
 have:=hat.symm.trans (hf k).2
 have e:c=(f k:Int):=(Lit.int.inj (DataW.lit.inj this)).2
 rw [hrun,e]
theorem mapI_inc (hg:o.guard=none)(m x v:Operand)(hop:o.op=Op.mapUpdate 272 m x v)(hm:a.eval m= .map (some b))(hown:MapI w b n f)(hn:n<1000000000000)(k:List UInt8)(hk:k.length≤140737488355328)(hx:a.eval x=Str k)(hv:a.eval v= .int .i64 ((f k:Int)+1))
 (h: ∀w',MapI w' b (n+1) (incF f k)→w.grownBy w' (some b)→wpList Tryz.prog ops Q rest (a.put o.dst undef) w'):wpList Tryz.prog ops Q (o::rest) a w:=by
 obtain⟨D,hD,hf⟩:=hown
 have hfk:=(hf k).1
 have hwf:=wf_i64n (f k+1) (by omega)
 refine wpList_mapUpdate_own w hg m x v 272 hop 9 3 Tryz.law9 Tryz.underlying272 _ b n D hm hD (by unfold maxLen;omega) _ _ _ hx hv (key_str k hk) (.lit (.int .i64 ((f k:Int)+1))) [] (plainElem_int Tryz.underlying3 hwf) fun w' h1 h2=>h w' ⟨_,h1,fun y=> ?_⟩ h2
 have hmap:=hD.isMap
 unfold incF
 by_cases e:y=k
 ·subst e
  rw [if_pos rfl,atKey_put_same hmap (isKey_str y hk)]
  exact⟨by omega,by simp⟩
 ·have hne:(Lit.string y)≠ .string k:=fun h=>e (by injection h)
  rw [if_neg e,atKey_put_other hne]
  exact⟨by have:=(hf y).1;omega,(hf y).2⟩
end
end Go.Proofs.YtgilnagajcfkpaaGreatDoor
namespace Go.Proofs.YtgilnagajcfkpaaGreatDoor
open Go.RowKit
theorem It.app {w w':World} {k pos B:Nat} {l:BS} {e:TypeId} {v:Value} {xs:List Value} {o:Obj} (h:It w k l pos)(ho:OwnAt w B e v xs)(hg:(w.alloc o).grownBy w' v.ownBlock):It w' k l pos:=
 (h.alloc o).grown hg ((h.alloc o).own_ne (ho.alloc o))
theorem fold_any (l:BS)(w:World)(hs:l.length≤4294967296)(hp:plain l=true):
 Calls Tryz.prog 112 #[Str l] w fun e w'=> ∃v,e= .returned v∧OwnAt w' w.heap.size 21 v (runs (lower l))∧Below w.heap.size w w':=by
 have Hp:Hid (plain l=true):=hp
 clear hp
 have hb0:Below w.heap.size w (w.iter ⟨l.toArray⟩ 0):=below_iter (Below.refl _ _) (Nat.le_refl _) _ _
 have hi0:=It.new w l
 go_enter Tryz.func112,Tryz.ntmps112
 go_wp2
 go_loopw [3,5,11,20,23] (fun v _ _ _ _ wr=> ∃k:Nat,k≤l.length∧It wr w.heap.size l k∧OwnAt wr w.heap.size 21 v (runs (lower (l.take k)))∧Below w.heap.size w wr) (fun _ _ _ _ _ wr=>l.length-wr.iterPos w.heap.size)
 case atStart=>exact⟨0,Nat.zero_le _,hi0,OwnAt.nil _ _ _,hb0⟩
 case round=>
  obtain⟨k,hk,hi,ho,hb⟩:=hrel
  clear hb0 hi0
  by_cases hlt:k<l.length
  ·have hlt128:=plain_lt (plain_at Hp.out k hlt)
   have hnext:=fun ty=>hi.next ty hlt hlt128
   have hi1:=hi.step (k+1)
   have ho1:=own_iterAt ho hi (k+1)
   have hb1:=Lib.below_iterAt hb (Nat.le_refl _) ⟨l.toArray⟩ (k+1)
   have hpos:=hi.pos_eq
   generalize wr.iterAt w.heap.size ⟨l.toArray⟩ (k+1)=w1 at*
   clear hi ho
   have H:Hid (runs (lower (l.take (k+1)))=runs (lower (l.take k))++ [.int .i32 (low l[k]).toNat]):=by
    show List.map _ (List.map low _)=_
    rw [List.take_succ_eq_append_getElem hlt,List.map_append,List.map_append];rfl
   have hsl:(runs (lower (l.take k))).length≤4294967296:=by rw [runs_length,lwL];simp;omega
   have hbs:=hb1.size
   have hlow:=low_a l[k]
   by_cases h12:65≤(l[k].toNat:Int)∧(l[k].toNat:Int)≤90
   ·obtain⟨h1,h2⟩:=h12
    rw [if_pos (by omega)]at hlow
    have Hv:Hid (Value.int .i32 ((l[k].toNat:Int)+32)= .int .i32 (low l[k]).toNat):=by show _=_;rw [hlow];rfl
    clear hlow
    go_wp2_with (at_builtin;refine appE1 Tryz.underlying205 Tryz.info21 rfl _ rfl (.tmp 26) (.tmp 28) rfl (runs (lower (l.take k))) (.int .i32 ((l[k].toNat:Int)+32)) rfl rfl ho1 _ rfl rfl (by omega) (by omega) hb1 (Nat.le_refl _) ?_;intro v2 w2 ho2 hg2 hb2)
    have hi2:=hi1.app ho1 hg2
    go_roundw
    case rel=>exact⟨k+1,by omega,hi2,by rw [H.out,←Hv.out];exact ho2,hb2⟩
    case measure=>rw [hpos,hi2.pos_eq];omega
   ·rw [if_neg (by omega)]at hlow
    have Hv:Hid (Value.int .i32 ((l[k].toNat:Int))= .int .i32 (low l[k]).toNat):=by show _=_;rw [hlow]
    clear hlow
    by_cases h1:65≤(l[k].toNat:Int)
    ·have h2: ¬(l[k].toNat:Int)≤90:=fun h=>h12 ⟨h1,h⟩
     have h3:((l[k].toNat:Int)==383)=false:=by rw [beq_eq_false_iff_ne];omega
     have h4:((l[k].toNat:Int)==8490)=false:=by rw [beq_eq_false_iff_ne];omega
     clear h12
     go_wp2_with (at_builtin;refine appE1 Tryz.underlying205 Tryz.info21 rfl _ rfl (.tmp 26) (.tmp 28) rfl (runs (lower (l.take k))) (.int .i32 (l[k].toNat:Int)) rfl rfl ho1 _ rfl rfl (by omega) (by omega) hb1 (Nat.le_refl _) ?_;intro v2 w2 ho2 hg2 hb2)
     have hi2:=hi1.app ho1 hg2
     go_roundw
     case rel=>exact⟨k+1,by omega,hi2,by rw [H.out,←Hv.out];exact ho2,hb2⟩
     case measure=>rw [hpos,hi2.pos_eq];omega
    ·have h3:((l[k].toNat:Int)==383)=false:=by rw [beq_eq_false_iff_ne];omega
     have h4:((l[k].toNat:Int)==8490)=false:=by rw [beq_eq_false_iff_ne];omega
     clear h12
     go_wp2_with (at_builtin;refine appE1 Tryz.underlying205 Tryz.info21 rfl _ rfl (.tmp 26) (.tmp 28) rfl (runs (lower (l.take k))) (.int .i32 (l[k].toNat:Int)) rfl rfl ho1 _ rfl rfl (by omega) (by omega) hb1 (Nat.le_refl _) ?_;intro v2 w2 ho2 hg2 hb2)
     have hi2:=hi1.app ho1 hg2
     go_roundw
     case rel=>exact⟨k+1,by omega,hi2,by rw [H.out,←Hv.out];exact ho2,hb2⟩
     case measure=>rw [hpos,hi2.pos_eq];omega
  ·have hnext:=fun ty=>hi.stop ty hlt
   have e:l.take k=l:=List.take_of_length_le (by omega)
   rw [e]at ho
   go_wp2
   go_ret
   exact⟨_,rfl,ho,hb⟩
theorem runs_at (l:BS)(k:Nat)(h:k<l.length):(runs l)[k]?=some (.int .i32 l[k].toNat):=by simp [runs,h]
theorem fold_form (l:BS)(w:World)(hs:l.length≤4294967296)(hp:plain l=true):
 Calls Tryz.prog 112 #[Str l] w fun e w'=> ∃A c,e= .returned (.slice A l.length c)∧OwnAt w' w.heap.size 21 (.slice A l.length c) (runs (lower l))∧Below w.heap.size w w':=by
 refine(fold_any l w hs hp).mono ?_
 rintro e w1 ⟨v,rfl,ho,hb⟩
 obtain⟨A,c,rfl⟩:=ho.form
 rw [runs_length,lwL]at ho⊢
 exact⟨A,c,rfl,ho,hb⟩
theorem same_take (a b:BS)(k:Nat)(ha:k<a.length)(hb:k<b.length)(h:lower (a.take k)=lower (b.take k))(he:low a[k]=low b[k]):lower (a.take (k+1))=lower (b.take (k+1)):=by
 rw [List.take_succ_eq_append_getElem ha,List.take_succ_eq_append_getElem hb]
 unfold lower at h⊢
 rw [List.map_append,List.map_append,h,List.map_singleton,List.map_singleton,he]
theorem lower_get (a:BS)(k:Nat)(h:k<a.length):(lower a)[k]'(by rw [lwL];exact h)=low a[k]:=by simp [lower]
theorem zzEqualFold_any (a b:BS)(w:World)(ha:a.length≤4294967296)(hb:b.length≤4294967296)(hpa:plain a=true)(hpb:plain b=true):
 Calls Tryz.prog 89 #[Str a,Str b] w fun e w'=>e= .returned (.bool (lower a==lower b))∧Below w.heap.size w w':=by
 have Hpa:=Lib.hid hpa;have Hpb:=Lib.hid hpb;clear hpa hpb
 have tok:True:=trivial
 by_cases hl:a.length=b.length
 ·have hne:((a.length:Int) !=(b.length:Int))=false:=bneT (by simp;omega)
  have Hl:=Lib.hid hl;clear hl
  go_enter Tryz.func89,Tryz.ntmps89
  go_wp2_with (first
   |(go_at_call 112;have _t:=tok;refine(fold_form a _ ha Hpa.out).mono ?_;rintro e w1 ⟨A1,c1,rfl,ho1,hb1⟩;clear tok)
   |(go_at_call 112;refine(fold_form b _ hb Hpb.out).mono ?_;rintro e w2 ⟨A2,c2,rfl,ho2,hb2⟩))
  have ho1':=ho1.below hb2
  have hbb:=hb1.trans (hb2.mono hb1.size)
  clear ho1 hb1 hb2
  go_loopw [8,22] (fun _ i wr=> ∃k:Nat,k≤a.length∧i= .int .i64 k∧Hid (lower (a.take k)=lower (b.take k))∧OwnAt wr w.heap.size 21 (.slice A1 a.length c1) (runs (lower a))∧OwnAt wr w1.heap.size 21 (.slice A2 b.length c2) (runs (lower b))∧Below w.heap.size w wr) (fun _ i _=>a.length-(intOf i).toNat)
  case atStart=>exact⟨0,Nat.zero_le _,rfl,rfl,ho1',ho2,hbb⟩
  case round=>
   obtain⟨k,hk,rfl,H,h1,h2,hbr⟩:=hrel
   clear ho1' ho2 hbb
   by_cases hlt:k<a.length
   ·have hlb:k<b.length:=by rw [←Hl.out];exact hlt
    obtain⟨g1,o1,c1',e1⟩:=h1.form_some (by intro e;have:=congrArg List.length e;rw [runs_length,lwL,List.length_nil]at this;omega)
    obtain⟨g2,o2,c2',e2⟩:=h2.form_some (by intro e;have:=congrArg List.length e;rw [runs_length,lwL,List.length_nil]at this;omega)
    rw [runs_length,lwL]at e1 e2
    injection e1 with e1 _ e1c
    injection e2 with e2 _ e2c
    subst e1;subst e1c;subst e2;subst e2c
    have x1:=(h1.cell_at k _ (runs_at (lower a) k (by rw [lwL];exact hlt))).1
    have x2:=(h2.cell_at k _ (runs_at (lower b) k (by rw [lwL];exact hlb))).1
    rw [lower_get a k hlt]at x1
    rw [lower_get b k hlb]at x2
    have hk0:(0:Int)≤(k:Int):=by omega
    have hk1:(k:Int)<(a.length:Int):=by omega
    have hk2:(k:Int)<(b.length:Int):=by omega
    cases hq:(((low a[k]).toNat:Int)==((low b[k]).toNat:Int))with
    |true=>
     have hq2:=bneT hq
     have H2:=Lib.hid (same_take a b k hlt hlb H.out (u8_of hq))
     go_wp2_with fail
     go_quiet (fail)
     go_wp2_with fail
     go_roundw
     case rel=>exact⟨k+1,by omega,by go_num,H2,h1.drewN _,h2.drewN _,bdN hbr _⟩
     case measure=>simp [intOf];omega
    |false=>
     have hq2:=bneF hq
     have F:Hid ((lower a==lower b)=false):=by
      show _=_
      rw [beq_eq_false_iff_ne]
      intro e
      have e2:(lower a)[k]'(by rw [lwL];exact hlt)=(lower b)[k]'(by rw [lwL];exact hlb):=by simp only [e]
      rw [lower_get a k hlt,lower_get b k hlb]at e2
      exact u8_of_not hq e2
     go_wp2_with fail
     go_quiet (fail)
     go_wp2_with fail
     go_ret
     exact⟨by rw [F.out];rfl,bdN hbr _⟩
   ·have F:Hid ((lower a==lower b)=true):=by
     show _=_
     have:=H.out
     rw [List.take_of_length_le (by omega),List.take_of_length_le (by rw [←Hl.out];omega)]at this
     rw [this];simp
    go_wp2_with fail
    go_ret
    exact⟨by rw [F.out];rfl,hbr⟩
 ·have hne:((a.length:Int) !=(b.length:Int))=true:=bneF (by rw [beq_eq_false_iff_ne];omega)
  have F:Hid ((lower a==lower b)=false):=by
   show _=_
   rw [beq_eq_false_iff_ne]
   intro e
   have:=congrArg List.length e
   rw [lwL,lwL]at this
   exact hl this
  clear hl
  go_enter Tryz.func89,Tryz.ntmps89
  go_wp2_with (first
   |(go_at_call 112;have _t:=tok;refine(fold_form a _ ha Hpa.out).mono ?_;rintro e w1 ⟨A1,c1,rfl,ho1,hb1⟩;clear tok)
   |(go_at_call 112;refine(fold_form b _ hb Hpb.out).mono ?_;rintro e w2 ⟨A2,c2,rfl,ho2,hb2⟩))
  go_ret
  exact⟨by rw [F.out];rfl,hb1.trans (hb2.mono hb1.size)⟩
def ed25519S:BS:= [101,100,50,53,53,49,57]
def sizeV (kind:BS)(key:BS):Nat:=if kind=ed25519S then 256 else 8*key.length
theorem sizeOf_any (kind key:BS)(v:Value)(w:World)(hv:Rd w v (byts key))(hk:key.length≤4294967296):
 Calls Tryz.prog 57 #[Str kind,v] w fun e w'=>e= .returned (.int .i64 (sizeV kind key))∧w'=w:=by
 obtain⟨A,c,rfl,_⟩:=hv
 rw [byL]
 by_cases h:kind=ed25519S
 ·have h1:(kind== [101,100,50,53,53,49,57])=true:=by rw [h];rfl
  go_enter Tryz.func57,Tryz.ntmps57
  go_wp2
  go_ret
  exact⟨by unfold sizeV;rw [if_pos h];rfl,rfl⟩
 ·have h1:(kind== [101,100,50,53,53,49,57])=false:=by
   rw [beq_eq_false_iff_ne];exact h
  have b0:(0:Int)≤(key.length:Int):=by omega
  have b1:(8:Int)*(key.length:Int)≤34359738368:=by omega
  go_enter Tryz.func57,Tryz.ntmps57
  go_wp2
  go_ret
  exact⟨by unfold sizeV;rw [if_neg h];simp,rfl⟩
def dnsTxtS:BS:= [100,110,115,47,116,120,116]
theorem queryMethods_any (w:World):Calls Tryz.prog 117 #[Str dnsTxtS] w fun e w'=>e= .returned (.tuple #[.func (.func 143) #[] #[], .bool true])∧w'=w:=by
 go_enter Tryz.func117,Tryz.ntmps117
 go_wp2
 go_ret2
 exact⟨rfl,rfl⟩
open Go.RowKit Go.Maps Go.WideAt
section
variable {ops:Array Oper} {o:Oper} {a:Act} {K:Act→World→Prop} {Q:Exit→Act→World→Prop} {w:World}
theorem wanted_free (hg:o.guard=none)(ys:Nat→Option Bool):Region.wanted o ys=true:=by unfold Region.wanted;rw [hg]
theorem wpOp_of {i:Nat} {P:Program} (ho:ops[i]?=some o)(hg:o.guard=none)(h:o.wp P a w K Q):wpOp P ops Q i K a w:=by
 unfold wpOp
 rw [ho]
 show if Region.wanted o (yielded ops a.tmps)=true then _ else _
 rw [if_pos (wanted_free hg _)]
 exact Or.inl h
theorem wp_makeMap (hop:o.op=Op.makeMap 179 none)(h:K (a.put o.dst (.map (some w.heap.size))) (w.alloc (.map #[] 0))):o.wp Tryz.prog a w K Q:=by
 unfold Oper.wp
 have hr:(execOp a.eval o).run Tryz.prog w= .ok (.value (.map (some w.heap.size))) (w.alloc (.map #[] 0)):=by
  simp [execOp,hop,Instr.makeMap]
 rw [hr,Oper.upon_value]
 exact h
theorem run_mapS_put {b n:Nat} {f:BS→Option BS} (hown:MapS w b n f)(hn:n<1000000000000)(k u:BS)(hk:k.length≤140737488355328)(hu:u.length≤140737488355328):
 ∃w',(Instr.mapUpdate 179 (.map (some b)) (Str k) (Str u)).run Tryz.prog w= .ok () w'∧MapS w' b (n+1) (putF f k u)∧w.grownBy w' (some b):=by
 obtain⟨D,hD,hf⟩:=hown
 have hs:(⟨u.toArray⟩:ByteArray).size≤maxLen:=by show u.length≤maxLen;unfold maxLen;omega
 obtain⟨w',hrun,r1,r2⟩:=hD.update Tryz.law9 Tryz.underlying179 (show n<maxLen by unfold maxLen;omega) (key_str k hk) (plainElem_string Tryz.underlying9 hs)
 refine⟨w',hrun,⟨_,r1,fun y=> ?_⟩,r2⟩
 have hmap:=hD.isMap
 unfold putF
 by_cases e:y=k
 ·subst e
  rw [if_pos rfl,has_put_same hmap (isKey_str y hk)]
  exact⟨rfl,fun v hv z=>by injection hv with hv;subst hv;rw [atKey_put_same hmap (isKey_str y hk)]⟩
 ·have hne:(Lit.string y)≠ .string k:=fun h=>e (by injection h)
  rw [if_neg e,has_put_other hne]
  exact⟨(hf y).1,fun v hv z=>by rw [atKey_put_other hne];exact(hf y).2 v hv z⟩
theorem wp_insert (m x v:Operand)(hop:o.op=Op.insert 179 m x v) {b n:Nat} {f:BS→Option BS} (hm:a.eval m= .map (some b))(hown:MapS w b n f)(hn:n<1000000000000)(k u:BS)(hk:k.length≤140737488355328)(hu:u.length≤140737488355328)(hx:a.eval x=Str k)(hv:a.eval v=Str u)
 (h: ∀w',MapS w' b (n+1) (putF f k u)→w.grownBy w' (some b)→K (a.put o.dst undef) w'):o.wp Tryz.prog a w K Q:=by
 obtain⟨D,hD,hf⟩:=hown
 have hs:(⟨u.toArray⟩:ByteArray).size≤maxLen:=by show u.length≤maxLen;unfold maxLen;omega
 obtain⟨w',hrun,r1,r2⟩:=hD.update Tryz.law9 Tryz.underlying179 (show n<maxLen by unfold maxLen;omega) (key_str k hk) (plainElem_string Tryz.underlying9 hs)
 unfold Oper.wp
 simp [execOp,hop,hm,hx,hv,hrun,Result.andThen]
 refine h w' ⟨_,r1,fun y=> ?_⟩ r2
 have hmap:=hD.isMap
 unfold putF
 by_cases e:y=k
 ·subst e
  rw [if_pos rfl,has_put_same hmap (isKey_str y hk)]
  exact⟨rfl,fun v hv z=>by injection hv with hv;subst hv;rw [atKey_put_same hmap (isKey_str y hk)]⟩
 ·have hne:(Lit.string y)≠ .string k:=fun h=>e (by injection h)
  rw [if_neg e,has_put_other hne]
  exact⟨(hf y).1,fun v hv z=>by rw [atKey_put_other hne];exact(hf y).2 v hv z⟩
theorem wp_move (x:Operand)(v:Value)(hop:o.op=Op.move x∨o.op=Op.assign x)(hx:a.eval x=v)(h:K (a.put o.dst v) w):o.wp Tryz.prog a w K Q:=by
 unfold Oper.wp
 have hr:(execOp a.eval o).run Tryz.prog w= .ok (.value v) w:=by
  rcases hop with hop|hop<;>simp [execOp,hop,hx]
 rw [hr,Oper.upon_value]
 exact h
theorem wp_call1 (fn:Nat)(x:Operand)(t:TypeId)(hop:o.op= .call { callee:= .value (.func fn),args:= #[x],argTypes:= #[t] })(he: ∀(args:Array Value)(w:World),(callFunc fn args).run Tryz.prog w= .ok (.enter fn args) w)(xv:Value)(hx:a.eval x=xv)
 (h:Calls Tryz.prog fn #[xv] w fun e w'=> ∃v,e= .returned v∧K (a.put o.dst v) w'):o.wp Tryz.prog a w K Q:=by
 unfold Oper.wp
 have hr:(execOp a.eval o).run Tryz.prog w= .ok (.enter fn #[xv]) w:=by
  have hf:a.eval (.func fn)= .func (.func fn) #[] #[]:=rfl
  simp [execOp,hop,resolve,invoke,hx,he,Deferred.ofValue,hf]
 rw [hr,Oper.upon_enter]
 refine h.mono ?_
 rintro e w' ⟨v,rfl,hK⟩
 exact hK
end
end Go.Proofs.YtgilnagajcfkpaaGreatDoor
namespace Go.Proofs.YtgilnagajcfkpaaGreatDoor
open Go.RowKit
theorem eolB_eq (c:UInt8):eolB c=(((13:Int)==(c.toNat:Int))||((10:Int)==(c.toNat:Int))):=by
 have a:=u8_eq 13 c;have b:=u8_eq 10 c
 rw [show((13:UInt8).toNat:Int)=13 from rfl]at a
 rw [show((10:UInt8).toNat:Int)=10 from rfl]at b
 rw [a,b,eolB,Bool.beq_comm,Bool.beq_comm (a:=(10:UInt8))]
theorem zzTrimRight_any (l:BS)(w:World)(hs:l.length≤4294967296):
 Calls Tryz.prog 128 #[Str l,Str [13,10]] w fun e w'=>e= .returned (Str (without l))∧Below w.heap.size w w':=by
 go_enter Tryz.func128,Tryz.ntmps128
 go_wp2
 go_loopw [5,6,7] (fun n _ _ wr=> ∃k:Nat,k≤l.length∧n= .int .i64 k∧Hid (without (l.take k)=without l)∧Below w.heap.size w wr) (fun n _ _ _=>(intOf n).toNat)
 case atStart=>exact⟨l.length,Nat.le_refl _,rfl,by rw [List.take_length];rfl,Below.refl _ _⟩
 case round=>
  obtain⟨k,hk,rfl,H,hb⟩:=hrel
  by_cases h0:k=0
  ·subst h0
   have F:Hid (without l= []):=by show _=_;rw [←H.out];rfl
   go_wp2
   go_ret
   exact⟨by rw [F.out];rfl,hb⟩
  ·obtain⟨m,rfl⟩: ∃m,k=m+1:=⟨k-1,by omega⟩
   have hm:m<l.length:=by omega
   have hw:=without_snoc (l.take m) l[m]
   rw [←List.take_succ_eq_append_getElem hm,H.out]at hw
   have heq:=eolB_eq l[m]
   have hm1:((m:Int)+1-1)=(m:Int):=by omega
   have hpos:(0:Int)<(m:Int)+1:=by omega
   clear h0 H
   have hd1:(m:Int)<(l.length:Int):=by omega
   have hm0:(0:Int)≤(m:Int):=by omega
   obtain⟨wo,rfl⟩: ∃wo:World,wo=wr:=⟨_,rfl⟩
   go_wp2
   go_loopw [6,7] (fun b j wx=>wx.heap.size=wo.heap.size∧Below w.heap.size w wx∧((j= .int .i64 0∧b= .bool false)∨(j= .int .i64 1∧b= .bool ((13:Int)==(l[m].toNat:Int)))∨(j= .int .i64 2∧b= .bool (((13:Int)==(l[m].toNat:Int))||((10:Int)==(l[m].toNat:Int)))))) (fun _ j _=>2-(intOf j).toNat)
   case atStart=>exact⟨rfl,hb, .inl ⟨rfl,rfl⟩⟩
   case round=>
    obtain⟨hsz,hb2,hcase⟩:=hrel
    have Hsz:=Lib.hid hsz;clear hsz
    rcases hcase with⟨rfl,rfl⟩|⟨rfl,rfl⟩|⟨rfl,rfl⟩
    ·cases h1:((13:Int)==(l[m].toNat:Int))with
     |true=>
      go_wp2
      go_quiet (fail)
      go_wp2
      go_roundw
      case rel=>exact⟨Hsz.out,bdN hb2 _, .inr (.inl ⟨rfl,rfl⟩)⟩
      case measure=>simp [intOf]
     |false=>
      go_wp2
      go_quiet (fail)
      go_wp2
      go_roundw
      case rel=>exact⟨Hsz.out,bdN hb2 _, .inr (.inl ⟨rfl,rfl⟩)⟩
      case measure=>simp [intOf]
    ·cases h2:((10:Int)==(l[m].toNat:Int))with
     |true=>
      go_wp2
      go_quiet (fail)
      go_wp2
      go_roundw
      case rel=>exact⟨Hsz.out,bdN hb2 _, .inr (.inr ⟨rfl,by simp⟩)⟩
      case measure=>simp [intOf]
     |false=>
      go_wp2
      go_quiet (fail)
      go_wp2
      go_roundw
      case rel=>exact⟨Hsz.out,bdN hb2 _, .inr (.inr ⟨rfl,by simp⟩)⟩
      case measure=>simp [intOf]
    ·rw [←heq]
     cases he:eolB l[m]with
     |true=>
      rw [he]at hw
      have Hw:Hid (without (l.take m)=without l):=by show _=_;rw [hw,if_pos rfl]
      clear hw heq he
      go_wp2
      go_roundw
      case rel=>exact⟨m,by omega,by go_num,Hw,hb2⟩
      case measure=>simp [intOf]
     |false=>
      rw [he]at hw
      have Hw:Hid (without l=l.take (m+1)):=by show _=_;rw [hw,if_neg (by decide)]
      clear hw heq he
      go_wp2
      go_ret
      exact⟨by rw [Hw.out];rfl,hb2⟩
theorem blank4 (c:UInt8)(h:plainB c=true):blank c=((c.toNat:Int)==32||(c.toNat:Int)==9||(c.toNat:Int)==10||(c.toNat:Int)==12||(c.toNat:Int)==13):=by
 rw [blank_eq]
 have h12:((c.toNat:Int)==12)=false:=by
  have:=u8_eq c 12
  rw [show((12:UInt8).toNat:Int)=12 from rfl]at this
  rw [this]
  simp only [plainB,Bool.and_eq_true,bne_iff_ne]at h
  simpa using h.2
 rw [h12,Bool.or_false]
 cases ((c.toNat:Int)==32)<;>cases ((c.toNat:Int)==9)<;>cases ((c.toNat:Int)==10)<;>cases ((c.toNat:Int)==13)<;>rfl
def dkS:BS:= [46,95,100,111,109,97,105,110,107,101,121,46]
def OneRec (w:World)(v:Value)(name text:BS):Prop:= ∃r q,v= .slice (some ⟨r,0,none⟩) 1 1∧Blk w r 39 [Str name, .slice (some ⟨q,0,none⟩) 1 1, .bool false, .bool false]∧Blk w q 9 [Str text]∧r≠q
theorem seg_eq (l:BS)(k j:Nat)(h:k<j)(hj:j<l.length)(hc:l[k]=98)(hq:l[j]=61)(hb:(l.drop (k+1)).takeWhile blank=(l.drop (k+1)).take (j-(k+1))):98::(l.drop (k+1)).takeWhile blank++ [61]=(l.drop k).take (j+1-k):=by
 rw [seg l k j h hj,hc,hq,hb]
structure Val (l:BS)(a e:Nat):Prop where
 le:a≤e∧e≤l.length
 dr:(l.drop a).dropWhile (· !=59)=(l.drop e).dropWhile (· !=59)
theorem Val.start (l:BS)(a:Nat)(h:a≤l.length):Val l a a:=⟨⟨Nat.le_refl _,h⟩,rfl⟩
theorem Val.step {l:BS} {a e:Nat} (h:Val l a e)(he:e<l.length)(hc:l[e]≠59):Val l a (e+1):=by
 refine⟨⟨by have:=h.le;omega,by omega⟩,?_⟩
 rw [h.dr,List.drop_eq_getElem_cons he,List.dropWhile_cons,if_pos (by simpa using hc)]
theorem Val.stop {l:BS} {a e:Nat} (h:Val l a e)(hs: ∀(he:e<l.length),l[e]=59):(l.drop a).dropWhile (· !=59)=l.drop e:=by
 rw [h.dr]
 by_cases he:e<l.length
 ·rw [List.drop_eq_getElem_cons he,List.dropWhile_cons,if_neg (by rw [hs he];decide)]
 ·rw [List.drop_eq_nil_of_le (by omega)];rfl
theorem emptied_more (n:Nat): ∀(m:Nat)(l:BS),l.length≤n→n≤m→emptied m l=emptied n l:=by
 induction n with
 |zero=>
  intro m l hl _
  have:l= []:=List.eq_nil_of_length_eq_zero (by omega)
  subst this
  cases m<;>rfl
 |succ n ih=>
  intro m l hl hm
  obtain⟨k,rfl⟩: ∃k,m=k+1:=⟨m-1,by omega⟩
  cases l with
  |nil=>rfl
  |cons c r=>
   simp only [List.length_cons]at hl
   rw [emptied_cons,emptied_cons]
   split
   ·congr 1
    refine ih k _ ?_ (by omega)
    have h1:=(List.dropWhile_sublist (· !=(59:UInt8)) (l:=(r.dropWhile blank).tail)).length_le
    have h2:=(List.dropWhile_sublist blank (l:=r)).length_le
    have h3:(r.dropWhile blank).tail.length≤(r.dropWhile blank).length:=by simp
    omega
   ·rw [ih k r (by omega) (by omega)]
theorem emptied_other (n:Nat)(c:UInt8)(r:BS)(h:c≠98):emptied (n+1) (c::r)=c::emptied n r:=by
 rw [emptied_cons,if_neg (fun e=>h e.1)]
theorem emptied_blanks (x r:BS)(n:Nat)(hx:blanks x)(hn:(x++r).length≤n):emptied n (x++r)=x++emptied (n-x.length) r:=by
 induction x generalizing n with
 |nil=>simp
 |cons c x ih=>
  obtain⟨m,rfl⟩: ∃m,n=m+1:=⟨n-1,by simp at hn;omega⟩
  rw [List.cons_append,emptied_other _ _ _ (by rintro rfl;have:=hx 98 (by simp);revert this;decide),ih m (fun d hd=>hx d (by simp [hd])) (by simpa using hn)]
  simp
def E (l:BS):BS:=emptied l.length l
theorem E_nil:E []= []:=rfl
theorem E_other (c:UInt8)(r:BS)(h: ¬(c=98∧(r.dropWhile blank).head?=some 61)):E (c::r)=c::E r:=by
 unfold E
 rw [List.length_cons,emptied_cons,if_neg h]
theorem E_pat (r:BS)(h:(r.dropWhile blank).head?=some 61):E (98::r)=98::r.takeWhile blank++ [61]++E ((r.dropWhile blank).tail.dropWhile (· !=59)):=by
 unfold E
 rw [List.length_cons,emptied_cons,if_pos ⟨rfl,h⟩]
 congr 1
 refine emptied_more _ _ _ (Nat.le_refl _) ?_
 have h1:=(List.dropWhile_sublist (· !=(59:UInt8)) (l:=(r.dropWhile blank).tail)).length_le
 have h2:=(List.dropWhile_sublist blank (l:=r)).length_le
 have h3:(r.dropWhile blank).tail.length≤(r.dropWhile blank).length:=by simp
 omega
theorem E_blanks (x r:BS)(hx:blanks x):E (x++r)=x++E r:=by
 unfold E
 rw [emptied_blanks x r _ hx (Nat.le_refl _)]
 simp
theorem takeWhile_blanks (r:BS):blanks (r.takeWhile blank):=fun c hc=>by
 induction r with
 |nil=>simp at hc
 |cons x r ih=>
  rw [List.takeWhile_cons]at hc
  split at hc
  ·rcases List.mem_cons.1 hc with rfl|hc
   ·assumption
   ·exact ih hc
  ·simp at hc
theorem E_keep (r:BS)(h:(r.dropWhile blank).head?=some 61)(hv:(r.dropWhile blank).tail.dropWhile (· !=59)=(r.dropWhile blank).tail):E (98::r)=98::E r:=by
 rw [E_pat r h,hv]
 have e:r=r.takeWhile blank++r.dropWhile blank:=List.takeWhile_append_dropWhile.symm
 have e2:r.dropWhile blank=61::(r.dropWhile blank).tail:=by
  cases hd:r.dropWhile blank with
  |nil=>rw [hd]at h;simp at h
  |cons c t=>rw [hd]at h;simp at h;rw [h];rfl
 conv=>rhs;rw [e,e2,E_blanks _ _ (takeWhile_blanks r),E_other 61 _ (by rintro⟨h,_⟩;revert h;decide)]
 simp
theorem removeSignature_any (l:BS)(w:World)(hs:l.length≤2147483648)(hp:plain l=true):
 Calls Tryz.prog 127 #[Str l] w fun e w'=>e= .returned (Str (E l))∧Below w.heap.size w w':=by
 have Hp:Hid (plain l=true):=hp
 clear hp
 go_enter Tryz.func127,Tryz.ntmps127
 go_wp2
 go_loopw [3,4,5,6] (fun v i _ _ wr=> ∃(k:Nat) (out:BS),k≤l.length∧out.length≤k∧i= .int .i64 k∧Hid (E l=out++E (l.drop k))∧OwnAt wr w.heap.size 5 v (byts out)∧Below w.heap.size w wr) (fun _ i _ _ _=>l.length-(intOf i).toNat)
 case atStart=>exact⟨0,[],by omega,by simp,rfl,rfl,OwnAt.nil _ _ _,Below.refl _ _⟩
 case round=>
  obtain⟨k,out,hk,hol,rfl,H,ho,hb⟩:=hrel
  by_cases hlt:k<l.length
  ·have Hd:Hid (l.drop k=l[k]::l.drop (k+1)):=List.drop_eq_getElem_cons hlt
   cases c1:((l[k].toNat:Int)==98)with
   |false=>
    have H2:Hid (E l=(out++ [l[k]])++E (l.drop (k+1))):=by
     show _=_
     rw [H.out,Hd.out,E_other _ _ (fun e=>u8_of_not (d:=98) c1 e.1)];simp
    clear H
    go_wp2_with (at_builtin;refine appB1 rfl (.tmp 89) (.tmp 93) rfl _ l[k] _ rfl rfl ho rfl (by omega) hb (Nat.le_refl _) ?_;intro v1 w1 ho1 _ hb1)
    go_roundw
    case rel=>exact⟨k+1,_,by omega,by simp;omega,by go_num,H2,ho1,hb1⟩
    case measure=>simp [intOf];omega
   |true=>
    have Hc:Hid (l[k]=98):=u8_of (d:=98) c1
    obtain⟨wo,rfl⟩: ∃wo:World,wo=wr:=⟨_,rfl⟩
    go_wp2
    go_loop [5] (fun q=> ∃j:Nat,j≤l.length∧k+1≤j∧q= .int .i64 j∧Hid (Run l (k+1) j)) (fun q=>l.length-(intOf q).toNat)
    case atStart=>exact⟨k+1,by omega,by omega,by go_num,Run.start l (k+1) (by omega)⟩
    case round=>
     obtain⟨j,hj,hkj,rfl,R⟩:=hrel
     by_cases hjl:j<l.length
     ·have hbl4:=blank4 l[j] (plain_at Hp.out j hjl)
      cases e32:((l[j].toNat:Int)==32)with
      |true=>
       have R2:Hid (Run l (k+1) (j+1)):=R.out.step hjl (by rw [hbl4,e32];rfl)
       clear hbl4
       go_wp2
       go_round
       case rel=>exact⟨j+1,by omega,by omega,by go_num,R2⟩
       case measure=>simp [intOf];omega
      |false=>
      cases e9:((l[j].toNat:Int)==9)with
      |true=>
       have R2:Hid (Run l (k+1) (j+1)):=R.out.step hjl (by rw [hbl4,e9];simp)
       clear hbl4
       go_wp2
       go_round
       case rel=>exact⟨j+1,by omega,by omega,by go_num,R2⟩
       case measure=>simp [intOf];omega
      |false=>
      cases e10:((l[j].toNat:Int)==10)with
      |true=>
       have R2:Hid (Run l (k+1) (j+1)):=R.out.step hjl (by rw [hbl4,e10];simp)
       clear hbl4
       go_wp2
       go_round
       case rel=>exact⟨j+1,by omega,by omega,by go_num,R2⟩
       case measure=>simp [intOf];omega
      |false=>
      cases e12:((l[j].toNat:Int)==12)with
      |true=>
       have R2:Hid (Run l (k+1) (j+1)):=R.out.step hjl (by rw [hbl4,e12];simp)
       clear hbl4
       go_wp2
       go_round
       case rel=>exact⟨j+1,by omega,by omega,by go_num,R2⟩
       case measure=>simp [intOf];omega
      |false=>
      cases e13:((l[j].toNat:Int)==13)with
      |true=>
       have R2:Hid (Run l (k+1) (j+1)):=R.out.step hjl (by rw [hbl4,e13];simp)
       clear hbl4
       go_wp2
       go_round
       case rel=>exact⟨j+1,by omega,by omega,by go_num,R2⟩
       case measure=>simp [intOf];omega
      |false=>
       have hst:=R.out.stop (fun _=>by rw [hbl4,e32,e9,e10,e12,e13];rfl)
       have Hst:=Lib.hid hst;clear hst hbl4
       have Hdj:Hid (l.drop j=l[j]::l.drop (j+1)):=List.drop_eq_getElem_cons hjl
       cases c2:((l[j].toNat:Int)==61)with
       |false=>
        have H2:Hid (E l=(out++ [l[k]])++E (l.drop (k+1))):=by
         show _=_
         rw [H.out,Hd.out,E_other _ _ (fun e=>by rw [Hst.out.2,Hdj.out]at e;have e2:=e.2;simp only [List.head?_cons,Option.some.injEq]at e2;exact u8_of_not (d:=61) c2 e2)];simp
        go_wp2_with (at_builtin;refine appB1 rfl (.tmp 89) (.tmp 93) rfl _ l[k] _ rfl rfl ho rfl (by omega) hb (Nat.le_refl _) ?_;intro v1 w1 ho1 _ hb1)
        go_roundw
        case rel=>exact⟨k+1,_,by omega,by simp;omega,by go_num,H2,ho1,hb1⟩
        case measure=>simp [intOf];omega
       |true=>
        have Hq:Hid (l[j]=61):=u8_of (d:=61) c2
        have Hp61:Hid (((l.drop (k+1)).dropWhile blank).head?=some 61):=by show _=_;rw [Hst.out.2,Hdj.out,Hq.out];rfl
        have Htl:Hid (((l.drop (k+1)).dropWhile blank).tail=l.drop (j+1)):=by show _=_;rw [Hst.out.2,Hdj.out];rfl
        go_wp2
        go_loop [6] (fun q=> ∃e:Nat,e≤l.length∧j+1≤e∧q= .int .i64 e∧Hid (Val l (j+1) e)) (fun q=>l.length-(intOf q).toNat)
        case atStart=>exact⟨j+1,by omega,by omega,by go_num,Val.start l (j+1) (by omega)⟩
        case round=>
         obtain⟨e,he,hje,rfl,V⟩:=hrel
         by_cases hmore: ∃h:e<l.length,((l[e].toNat:Int)==59)=false
         ·obtain⟨hel,c3⟩:=hmore
          have g3:=bneF c3
          have V2:Hid (Val l (j+1) (e+1)):=V.out.step hel (u8_of_not (d:=59) c3)
          go_wp2
          go_round
          case rel=>exact⟨e+1,by omega,by omega,by go_num,V2⟩
          case measure=>simp [intOf];omega
         ·have Hvs:Hid ((l.drop (j+1)).dropWhile (· !=59)=l.drop e):=V.out.stop (fun he=>by
           cases c3:((l[e].toNat:Int)==59)with
           |true=>exact u8_of (d:=59) c3
           |false=>exact absurd ⟨he,c3⟩ hmore)
          have g3: ∀(h:e<l.length),((l[e].toNat:Int) !=59)=false:=fun h=>bneT (by
           cases c3:((l[e].toNat:Int)==59)with
           |true=>rfl
           |false=>exact absurd ⟨h,c3⟩ hmore)
          clear hmore
          by_cases hev:j+1<e
          ·have H2:Hid (E l=(out++(l.drop k).take (j+1-k))++E (l.drop e)):=by
            show _=_
            rw [H.out,Hd.out,Hc.out,E_pat _ Hp61.out,Htl.out,Hvs.out,seg_eq l k j (by omega) hjl Hc.out Hq.out Hst.out.1]
            rw [←Hc.out,←Hd.out];simp
           have hsl:((l.drop k).take (j+1-k)).length=j+1-k:=by simp;omega
           by_cases hel:e<l.length
           ·have g4:=g3 hel
            clear g3
            go_wp2_with (at_builtin;refine appB rfl (.tmp 81) (.tmp 86) 9 (.inr rfl) rfl _ ((l.drop k).take (j+1-k)) rfl ho rfl (Src.str _) (by rw [hsl];omega) hb.size ?_;intro v1 w1 ho1 _ hb1 _)
            go_roundw
            case rel=>exact⟨e,_,by omega,by rw [List.length_append,hsl];omega,rfl,H2,ho1,hb.trans hb1⟩
            case measure=>simp [intOf];omega
           ·clear g3
            go_wp2_with (at_builtin;refine appB rfl (.tmp 81) (.tmp 86) 9 (.inr rfl) rfl _ ((l.drop k).take (j+1-k)) rfl ho rfl (Src.str _) (by rw [hsl];omega) hb.size ?_;intro v1 w1 ho1 _ hb1 _)
            go_roundw
            case rel=>exact⟨e,_,by omega,by rw [List.length_append,hsl];omega,rfl,H2,ho1,hb.trans hb1⟩
            case measure=>simp [intOf];omega
          ·obtain rfl:e=j+1:=by omega
           have H2:Hid (E l=(out++ [l[k]])++E (l.drop (k+1))):=by
            show _=_
            rw [H.out,Hd.out,Hc.out,E_keep _ Hp61.out (by rw [Htl.out,Hvs.out])];simp
           by_cases hel:j+1<l.length
           ·have g4:=g3 hel
            clear g3
            go_wp2_with (at_builtin;refine appB1 rfl (.tmp 89) (.tmp 93) rfl _ l[k] _ rfl rfl ho rfl (by omega) hb (Nat.le_refl _) ?_;intro v1 w1 ho1 _ hb1)
            go_roundw
            case rel=>exact⟨k+1,_,by omega,by simp;omega,by go_num,H2,ho1,hb1⟩
            case measure=>simp [intOf];omega
           ·clear g3
            go_wp2_with (at_builtin;refine appB1 rfl (.tmp 89) (.tmp 93) rfl _ l[k] _ rfl rfl ho rfl (by omega) hb (Nat.le_refl _) ?_;intro v1 w1 ho1 _ hb1)
            go_roundw
            case rel=>exact⟨k+1,_,by omega,by simp;omega,by go_num,H2,ho1,hb1⟩
            case measure=>simp [intOf];omega
     ·have hst:=R.out.stop (fun h=>absurd h hjl)
      have H2:Hid (E l=(out++ [l[k]])++E (l.drop (k+1))):=by
       show _=_
       rw [H.out,Hd.out,E_other _ _ (fun e=>by rw [hst.2,List.drop_eq_nil_of_le (by omega)]at e;simpa using e.2)];simp
      clear hst
      go_wp2_with (at_builtin;refine appB1 rfl (.tmp 89) (.tmp 93) rfl _ l[k] _ rfl rfl ho rfl (by omega) hb (Nat.le_refl _) ?_;intro v1 w1 ho1 _ hb1)
      go_roundw
      case rel=>exact⟨k+1,_,by omega,by simp;omega,by go_num,H2,ho1,hb1⟩
      case measure=>simp [intOf];omega
  ·have F:Hid (E l=out):=by show _=_;rw [H.out,List.drop_eq_nil_of_le (by omega)];simp [E_nil]
   have hcv:=cvB ho.rd
   go_wp2
   go_ret
   exact⟨by rw [F.out];rfl,hb⟩
end Go.Proofs.YtgilnagajcfkpaaGreatDoor
