import Derived.Test.YtgilnagajcfkpaaGreatDoorQ11
import Derived.Test.YtgilnagajcfkpaaGreatDoorQ31
import Derived.Test.YtgilnagajcfkpaaGreatDoorQ36
set_option maxHeartbeats 4000000
set_option maxRecDepth 1000000
set_option linter.all false
namespace Go.Proofs.YtgilnagajcfkpaaGreatDoor
open Go.RowKit
theorem neq_nil (a:Addr)(w:World):(binOp .neq 74 .nilIface (.iface 242 (.pointer (some a)))).run Tryz.prog w= .ok (.bool true) w:=by kernel_rfl
theorem neq_same (a:Addr)(w:World):(binOp .neq 74 (.iface 242 (.pointer (some a))) (.iface 242 (.pointer (some a)))).run Tryz.prog w= .ok (.bool false) w:=by
 obtain⟨i,hi,hc⟩:=Option.map_eq_some_iff.1 Tryz.cmp242
 obtain⟨j,hj⟩:=Option.isSome_iff_exists.1 Tryz.has244
 simp only [binOp]
 simp [Op.equal,Op.maxDepth,run_equalIn_iface_ptr_same w 9998 a Tryz.underlying74 Tryz.underlying242 hi hc hj]
theorem foldHeader_any (l:BS)(w:World)(h0:l≠ [])(hl:l.length≤75)(heof:EofErr w):
 Calls Tryz.prog 151 #[Str l] w fun e w'=>e= .returned (Str (l++crlf))∧Below w.heap.size w w':=by
 obtain⟨ea,he⟩:=heof
 have hl0:0<l.length:=List.length_pos_iff.2 h0
 have h4:4<w.heap.size:=by
  have:=World.block_lt_of_cell? w _ he
  exact this
 go_enter Tryz.func151,Tryz.ntmps151
 go_wp2_with fail
 refine(bufNewString_any l w (by omega)).mono ?_
 rintro e w1 ⟨c,q,rfl,hq,hqb,ho,hb1⟩
 have hq1:=hqb.lt
 have hs1:=hb1.size
 obtain⟨o2,ho2⟩: ∃o2,Hid (o2=Obj.cells (byts (List.replicate 75 0)).toArray 5):=⟨_,Lib.hid rfl⟩
 have hmk:(Instr.makeSlice 22 (.int .i64 75) (.int .i64 75)).run Tryz.prog w1= .ok (.slice (some ⟨w1.heap.size,0,none⟩) 75 75) (w1.alloc o2):=by rw [ho2.out];exact make_blk w1 75 (by omega)
 have hbb:Blk (w1.alloc o2) w1.heap.size 5 (byts (List.replicate 75 0)):=by rw [ho2.out];exact Blk.new _ _ _
 have hqb2:=hqb.alloc o2
 have ho2':=ho.alloc o2
 have hb2:=hb1.alloc hs1 o2
 have hsz2:(w1.alloc o2).heap.size=w1.heap.size+1:=by simp
 obtain⟨bb,hbbe⟩: ∃bb,Hid (bb=w1.heap.size):=⟨_,Lib.hid rfl⟩
 rw [←hbbe.out]at hmk hbb hsz2
 have hqbb:q<bb:=by rw [hbbe.out];exact hq1
 clear hqb ho hb1 hs1 hq1
 go_wp2_with fail
 clear hmk
 generalize w1.alloc o2=w2 at*
 clear hbbe ho2
 have hbl:Bld (w2.alloc (.cells #[.pointer none, .slice none 0 0] 72)) w2.heap.size w2.heap.size (.slice none 0 0) []:=⟨.inl (Blk.new _ _ _),OwnAt.nil _ _ _⟩
 have hqb3:=hqb2.alloc (.cells #[.pointer none, .slice none 0 0] 72)
 have hbb3:=hbb.alloc (.cells #[.pointer none, .slice none 0 0] 72)
 have ho3:=ho2'.alloc (.cells #[.pointer none, .slice none 0 0] 72)
 have hb3:=hb2.alloc hb2.size (.cells #[.pointer none, .slice none 0 0] 72)
 have hs3:w2.heap.size≤(w2.alloc (.cells #[.pointer none, .slice none 0 0] 72)).heap.size:=leA _ _
 generalize hbe:w2.heap.size=b at*
 generalize w2.alloc (.cells #[.pointer none, .slice none 0 0] 72)=w3 at*
 clear hqb2 hbb ho2' hb2 hbe
 subst hsz2
 refine(bufRead_all q w.heap.size c 0 l bb _ w3 hqb3 ho3.rd (by omega) (by omega) (by omega) hbb3 (by simp [byL]) hl0 hl).mono ?_
 rintro e w4 ⟨rfl,hqb4,hbb4,hF4⟩
 have hbl4:Bld w4 (bb+1) (bb+1) (.slice none 0 0) []:=⟨hbl.blk.imp (fun h=>h.frm hF4 (by omega)) (fun h=>h.frm hF4 (by omega)),OwnAt.nil _ _ _⟩
 have he4:w4.cell? ⟨4,0,none⟩=some (.iface 242 (.pointer (some ea))):=frC hF4 ((hb3.cell (p:=⟨4,0,none⟩) h4).trans he) (by simp;omega)
 have hb4:Below w.heap.size w w4:=hb3.trans (hF4.below (fun k hk e=>by omega) hb3.size)
 have hs4:=hF4.size
 have n1:=neq_nil ea
 have n2:=neq_same ea
 have hrd4:Rd w4 (.slice (some ⟨bb,0,none⟩) l.length 75) (byts l):=⟨_,75,by rw [byL],by rw [byL];exact hl, .inr ⟨bb,0,rfl,hbb4.lt,fun j u hu=>by rw [Nat.zero_add];exact hbb4.cell j u (by rw [List.getElem?_append_left (List.getElem?_eq_some_iff.1 hu).1];exact hu)⟩⟩
 clear hqb3 hbb3 ho3 hbl hb3 hF4 he
 go_wp2_with fail
 go_loopw [5,7,8] (fun f v x wx=>(f= .bool true∧v= .int .i64 l.length∧x= .nilIface∧wx=w4)∨(f= .bool false∧v= .int .i64 0∧x= .iface 242 (.pointer (some ea))∧wx.cell? ⟨4,0,none⟩=some (.iface 242 (.pointer (some ea)))∧(∃vb,Bld wx (bb+1) (bb+1) vb l)∧Below w.heap.size w wx)) (fun f _ _ _=>match f with| .bool true=>1|_=>0)
 case atStart=>exact .inl ⟨rfl,rfl,rfl,rfl⟩
 case round=>
  rcases hrel with⟨rfl,rfl,rfl,rfl⟩|⟨rfl,rfl,rfl,he5,⟨vb,hbl5⟩,hb5⟩
  ·have g0:(0:Int)≤(l.length:Int):=by omega
   have g1:(l.length:Int)≤75:=by omega
   have hs5:bb+1≤wr.heap.size:=Nat.le_trans hs3 hs4
   go_wp2_with fail
   refine(bldWrite_any (bb+1) (bb+1) (.slice none 0 0) _ [] l wr hbl4 hrd4 (fun k hk=>by have e:bb=k:=Option.some.inj hk;omega) (by simp;omega) hs5).mono ?_
   rintro e w5 ⟨rfl,vb,hbl5,_,hF5⟩
   have hqb5:=hqb4.frm hF5 (by simp [Value.ownBlock];omega)
   have he5:=frC hF5 he4 (by simp [Value.ownBlock];omega)
   have hb5:=hb4.trans (hF5.below (B:=w.heap.size) (fun k hk e=>by simp [Value.ownBlock]at e;omega) hb4.size)
   clear hqb4 hbb4 hbl4 hb4 hrd4 hF5
   go_wp2_with fail
   refine(bufRead_end q l.length c bb _ (-1) _ w5 hqb5 he5 (by omega)).mono ?_
   rintro e w6 ⟨rfl,hF6⟩
   have hbl6:Bld w6 (bb+1) (bb+1) vb l:=⟨hbl5.blk.imp (fun h=>h.frm hF6 (by omega)) (fun h=>h.frm hF6 (by omega)),hbl5.own.frm hF6 (fun k hk e=>by have:=(hbl5.own.lt k hk).1;omega)⟩
   have he6:=frC hF6 he5 (by simp;omega)
   have hb6:=hb5.trans (hF6.below (B:=w.heap.size) (fun k hk e=>by omega) hb5.size)
   go_wp2_with fail
   go_roundw
   case rel=>exact .inr ⟨rfl,rfl,rfl,he6,⟨vb,hbl6⟩,hb6⟩
   case measure=>simp
  ·have g3: ¬9223372036854775807<l.length+2:=by omega
   go_wp2_with fail
   refine(bldString_any (bb+1) (bb+1) vb l wr hbl5 h0).mono ?_
   rintro e w6 ⟨rfl,hb6⟩
   go_wp2
   go_ret
   exact⟨by simp [crlf],hb5.trans (hb6.mono (by omega))⟩
theorem fmt_len (M:Nat): ∀(T:List Tag)(s line:BS),(∀t∈T,t.1.length+t.2.length≤M)→(T.foldl fmtStep (s,line)).1.length+(T.foldl fmtStep (s,line)).2.length≤s.length+line.length+T.length*(M+5)
 | [],s,line,_=>by simp
 |t::r,s,line,h=>by
  have ht:=h t (by simp)
  rw [List.foldl_cons]
  have ih:=fmt_len M r (fmtStep (s,line) t).1 (fmtStep (s,line) t).2 (fun u hu=>h u (by simp [hu]))
  have hs:(fmtStep (s,line) t).1.length+(fmtStep (s,line) t).2.length≤s.length+line.length+(M+5):=by
   unfold fmtStep item
   split<;>simp [crlf]<;>omega
  rw [List.length_cons,Nat.add_mul]
  have e:(fmtStep (s,line) t)=((fmtStep (s,line) t).1,(fmtStep (s,line) t).2):=rfl
  rw [←e]at ih
  omega
theorem formatParams_any (nm:BS)(b n:Nat)(f:BS→Option BS)(T:List Tag)(bv:BS)(w:World)(hm:MapS w b n f)(hb:f tagB=some bv)(hT: ∀t∈T,f t.1=some t.2∧t.1≠tagB)(hTn:(T.map fun t=>t.1).Nodup)(hTm: ∀x,(f x).isSome=true→x≠tagB→x∈T.map fun t=>t.1)(hTs:(T.map fun t=>t.1).Pairwise fun x y=>x≤y)
 (hT0:T≠ [])(hn:n≤1000000000)(hTl:T.length≤1000)(hM: ∀t∈T,t.1.length+t.2.length≤1073741824)(hnm:nm.length≤1000)(hbv:bv.length≤72)(heof:EofErr w):
 Calls Tryz.prog 137 #[Str nm, .map (some b)] w fun e w'=>e= .returned (Str (fmtFields nm T++crlf++ [32,98,61]++bv++crlf))∧Below w.heap.size w w':=by
 have hsp:=sortParams_any (fun blk off cap ss w h1 h2 h3=>Tryz.slices_Sort_string blk off cap ss w h1 h2 h3) b n f (T.map fun t=>t.1) bv w hm hb hTn (fun x=>⟨fun hx=>by
  obtain⟨t,ht,rfl⟩:=List.mem_map.1 hx
  obtain⟨h1,h2⟩:=hT t ht
  exact⟨by rw [h1];rfl,h2⟩,fun hx=>hTm x hx.1 hx.2⟩) hTs (by simp [hT0]) hn
 go_enter Tryz.func137,Tryz.ntmps137
 go_wp2_with fail
 refine hsp.mono ?_
 rintro e w1 ⟨v,rfl,ho,hb1⟩
 have hm1:=hm.below hb1 hm.lt
 obtain⟨A,c,rfl⟩:=ho.form
 rw [stL,List.length_map]at ho⊢
 go_wp2_with fail
 have H0:Hid (((T.take 0).foldl fmtStep (nm++ [58],([]:BS)))=(nm++ [58],[])):=rfl
 go_loopw [8,9,25] (fun v8 v9 v25 wx=> ∃(k:Nat) (s line:BS),k≤T.length∧v8=Str s∧v9=Str line∧v25= .int .i64 k∧Hid ((T.take k).foldl fmtStep (nm++ [58],([]:BS))=(s,line))∧wx=w1) (fun _ _ v25 _=>T.length-(intOf v25).toNat)
 case atStart=>exact⟨0,nm++ [58],[],by omega,rfl,rfl,rfl,H0,rfl⟩
 case round=>
  obtain⟨k,s,line,hk,rfl,rfl,rfl,H,rfl⟩:=hrel
  have Hlen:s.length+line.length≤1001+k*1073741829:=by
   have h:=fmt_len 1073741824 (T.take k) (nm++ [58]) [] (fun t ht=>hM t (List.mem_of_mem_take ht))
   rw [H.out,List.length_take]at h
   simp only [List.length_append,List.length_cons,List.length_nil]at h
   have:min k T.length=k:=by omega
   rw [this]at h
   omega
  have hk3:k*1073741829≤1000*1073741829:=Nat.mul_le_mul_right _ (by omega)
  have Hb:s.length+line.length≤1100000000000:=by omega
  clear H0 Hlen hk3
  by_cases hlt:k<T.length
  ·have hk0:(0:Int)≤(k:Int):=by omega
   have hk1:(k:Int)<(T.length:Int):=by omega
   obtain⟨g,off,cc,he⟩:=ho.form_some (by simp [strs,hT0])
   injection he with he1 _ _
   subst he1
   have hck:=(ho.cell_at k (Str T[k].1) (by simp [strs,hlt])).1
   obtain⟨hfk,_⟩:=hT _ (List.getElem_mem hlt)
   have hMk:=hM _ (List.getElem_mem hlt)
   have Hs:Hid ((T.take (k+1)).foldl fmtStep (nm++ [58],([]:BS))=fmtStep (s,line) T[k]):=by
    show _=_
    rw [foldl_snoc _ _ _ _ hlt,H.out]
   have hlk:=run_mapS hm1 T[k].1 (by omega)
   rw [hfk]at hlk
   clear hfk
   generalize T[k]=tk at*
   obtain⟨key,val⟩:=tk
   simp only [Option.getD_some]at hlk hck hMk
   have a1:IntKind.i64.wrap (3+(line.length:Int))=3+(line.length:Int):=by rw [IntKind.wrap_i64];omega
   have a2:IntKind.i64.wrap (3+(line.length:Int)+(val.length:Int))=3+(line.length:Int)+(val.length:Int):=by rw [IntKind.wrap_i64];omega
   have a3:IntKind.i64.wrap (3+(line.length:Int)+(val.length:Int)+(key.length:Int))=3+(line.length:Int)+(val.length:Int)+(key.length:Int):=by rw [IntKind.wrap_i64];omega
   by_cases hgt:75<3+line.length+val.length+key.length
   ·have g0:(75:Int)<3+(line.length:Int)+(val.length:Int)+(key.length:Int):=by omega
    have Hst:Hid ((T.take (k+1)).foldl fmtStep (nm++ [58],([]:BS))=(s++(line++ [13,10]),32::(key++61::(val++ [59])))):=by
     show _=_;rw [Hs.out];unfold fmtStep item;rw [if_pos hgt];simp [crlf]
    clear hgt
    go_wp2_with fail
    go_roundw
    case rel=>exact⟨k+1,_,_,hlt,rfl,rfl,by go_num,Hst,trivial⟩
    case measure=>simp [intOf];omega
   ·have g0: ¬(75:Int)<3+(line.length:Int)+(val.length:Int)+(key.length:Int):=by omega
    have Hst:Hid ((T.take (k+1)).foldl fmtStep (nm++ [58],([]:BS))=(s,line++32::(key++61::(val++ [59])))):=by
     show _=_;rw [Hs.out];unfold fmtStep item;rw [if_neg hgt];simp
    clear hgt
    go_wp2_with fail
    go_roundw
    case rel=>exact⟨k+1,_,_,hlt,rfl,rfl,by go_num,Hst,trivial⟩
    case measure=>simp [intOf];omega
  ·obtain rfl:k=T.length:=by omega
   have HF:Hid (fmtFields nm T=s++line):=by
    have h:=H.out
    rw [List.take_of_length_le (Nat.le_refl _)]at h
    show _=_;unfold fmtFields;rw [h]
   have he1:EofErr wr:=by obtain⟨a,ha⟩:=heof;exact⟨a,(hb1.cell (p:=⟨4,0,none⟩) (World.block_lt_of_cell? w _ ha)).trans ha⟩
   have hfold:=foldHeader_any (32::98::61::bv) wr (by simp) (by simp;omega) he1
   simp only [crlf,List.cons_append]at hfold
   clear hk hlt H
   have hs1:=hb1.size
   by_cases hl:line= []
   ·subst hl
    go_wp2_with fail
    refine hfold.mono ?_
    rintro e w2 ⟨rfl,hb2⟩
    go_wp2
    go_ret
    exact⟨by rw [HF.out];simp [crlf],hb1.trans (hb2.mono hs1)⟩
   ·have h1:(line== [])=false:=by rw [beq_eq_false_iff_ne];exact hl
    have h2:(line != [])=true:=by rw [bne_iff_ne];exact hl
    go_wp2_with fail
    refine hfold.mono ?_
    rintro e w2 ⟨rfl,hb2⟩
    go_wp2
    go_ret
    exact⟨by rw [HF.out];simp [crlf],hb1.trans (hb2.mono hs1)⟩
theorem formatSignature_any (b n:Nat)(f:BS→Option BS)(T:List Tag)(bv:BS)(w:World)(hm:MapS w b n f)(hb:f tagB=some bv)(hT: ∀t∈T,f t.1=some t.2∧t.1≠tagB)(hTn:(T.map fun t=>t.1).Nodup)(hTm: ∀x,(f x).isSome=true→x≠tagB→x∈T.map fun t=>t.1)(hTs:(T.map fun t=>t.1).Pairwise fun x y=>x≤y)
 (hT0:T≠ [])(hn:n≤1000000000)(hTl:T.length≤1000)(hM: ∀t∈T,t.1.length+t.2.length≤1073741824)(hbv:bv.length≤72)(heof:EofErr w):
 Calls Tryz.prog 101 #[.map (some b)] w fun e w'=>e= .returned (Str (sigField T bv))∧Below w.heap.size w w':=by
 have hf:=formatParams_any sigName b n f T bv w hm hb hT hTn hTm hTs hT0 hn hTl hM (by decide) hbv heof
 go_enter Tryz.func101,Tryz.ntmps101
 go_wp2_with fail
 refine hf.mono ?_
 rintro e w1 ⟨rfl,hb1⟩
 go_wp2
 go_ret
 exact⟨by simp [sigField],hb1⟩
end Go.Proofs.YtgilnagajcfkpaaGreatDoor
