import Derived.Test.YtgilnagajcfkpaaGreatDoorQ14
import Derived.Test.YtgilnagajcfkpaaGreatDoorQ21
set_option maxHeartbeats 4000000
set_option maxRecDepth 1000000
set_option linter.all false
namespace Go.Proofs.YtgilnagajcfkpaaGreatDoor
open Go.RowKit
theorem below_alloc' {w0 w:World} (h:Below w0.heap.size w0 w)(o:Obj):Below w0.heap.size w0 (w.alloc o):=h.alloc h.size o
theorem below_setCell' {w0 w:World} (h:Below w0.heap.size w0 w)(p:Addr)(v:Value)(hp:w0.heap.size≤p.block):Below w0.heap.size w0 (w.setCell p v):=h.setCell hp v
structure KeyTags (L:List Tag)(kind key:BS):Prop where
 v:look [118] L=some [68,75,73,77,49]
 k:look [107] L=some kind
 p:look [112] L=some (enc64 key)
 h:look [104] L=none
 s:look [115] L=none
 t:look [116] L=none
 n:look [110] L=none
 size:(kind=rsaS∧128≤key.length)∨(kind=edS∧key.length=32)
theorem bare_enc (x:BS):bare (enc64 x)=enc64 x:=by
 unfold bare
 rw [List.filter_eq_self]
 intro c hc
 have:=(enc_all x c hc).1
 simp only [blank,Bool.or_eq_false_iff]at this
 simp only [bareB,bne,this.1.1.1,this.1.2,this.2]
 rfl
theorem resBlk {w w1 w5:World} (hb1:Below (w.alloc (.cells #[Str [], .slice none 0 0, .int .i64 0, .slice none 0 0, .slice none 0 0, .slice none 0 0,Str [], .bool false, .bool false] 151)).heap.size (w.alloc (.cells #[Str [], .slice none 0 0, .int .i64 0, .slice none 0 0, .slice none 0 0, .slice none 0 0,Str [], .bool false, .bool false] 151)) w1)(hb14:Below w1.heap.size w1 w5):
 Blk w5 w.heap.size 151 [Str [], .slice none 0 0, .int .i64 0, .slice none 0 0, .slice none 0 0, .slice none 0 0,Str [], .bool false, .bool false]:=by
 have h:=Blk.new w 151 #[Str [], .slice none 0 0, .int .i64 0, .slice none 0 0, .slice none 0 0, .slice none 0 0,Str [], .bool false, .bool false]
 have h1:=h.below hb1 h.lt
 exact h1.below hb14 h1.lt
theorem dRead_key (l kind key:BS)(L:List Tag)(w:World)(hs:l.length≤2147483648)(hk:key.length≤1073741824)(hL:tagsOf l=some L)(hLl:L.length≤4294967296)(K:KeyTags L kind key):
 Calls Tryz.prog 77 #[Str l] w fun e w'=> ∃v,e= .returned (.tuple #[.agg #[Str kind,v, .int .i64 (8*(key.length:Int)), .slice none 0 0, .slice none 0 0, .slice none 0 0,Str [], .bool true, .bool true], .int .i64 0])∧
  OwnAt w' w.heap.size 5 v (byts key)∧Below w.heap.size w w':=by
 have HL:=Lib.hid hL;clear hL
 have hel:=enc_len key
 have hne:(enc64 key== [])=false:=by
  rcases K.size with⟨_,h⟩|⟨_,h⟩<;>(cases he:enc64 key with|nil=>(rw [he]at hel;simp at hel;omega)|cons=>rfl)
 have HK:=Lib.hid K
 have Hb:=Lib.hid (bare_enc key)
 have Hd:=Lib.hid (enc_r key)
 have hm4:(enc64 key).length%4=0:=by rw [hel];omega
 have hll:(enc64 key).length≤4294967296:=by rw [hel];omega
 have hw64:IntKind.i64.wrap (8*(key.length:Int))=8*(key.length:Int):=by rw [IntKind.wrap_i64];omega
 clear hel
 have dv: ∀(k:BS) (r:Option BS) (v:Value) (ww:World),RdT ww v L→look k L=r→Calls Tryz.prog 71 #[v,Str k] ww fun e w'=>e= .returned (.tuple #[Str (r.getD []), .bool r.isSome])∧ww=w':=fun k r v ww h he=>by
  have:=dValue_any L k v ww h hLl
  rw [he]at this;exact this
 have Dv:=Lib.hid dv;clear dv
 rcases K.size with⟨rfl,h1⟩|⟨rfl,h1⟩
 ·have h2: ¬(8*(key.length:Int)<1024):=by omega
  clear K
  have t1:True:=trivial
  have hw00:=Below.refl w.heap.size w
  go_enter Tryz.func77,Tryz.ntmps77
  go_wp2_with (first
   |(go_at_call 70;refine(dTags_any l L _ hs HL.out).mono ?_;rintro e w1 ⟨v1,rfl,hr1,hb1⟩)
   |(go_at_call 71;have _t:=t1;refine(Dv.out [118] _ _ _ hr1 HK.out.v).mono ?_;rintro e w2 ⟨rfl,rfl⟩;have t2:True:=trivial;clear t1)
   |(go_at_call 71;have _t:=t2;refine(Dv.out [112] _ _ _ hr1 HK.out.p).mono ?_;rintro e w2 ⟨rfl,rfl⟩;have t3:True:=trivial;clear t2)
   |(go_at_call 102;refine(dBare_any _ _ hll).mono ?_;rintro e w3 ⟨rfl,hb3⟩;rw [Hb.out])
   |(go_at_call 79;refine(dBytes64_any _ _ _ hll Hd.out hm4).mono ?_;rintro e w4 ⟨rfl,hb4⟩)
   |(go_at_call 71;have _t:=t3;refine(Dv.out [107] _ _ _ ((hr1.below hb3).below hb4) HK.out.k).mono ?_;rintro e w2 ⟨rfl,rfl⟩;have t4:True:=trivial;clear t3;obtain⟨c5,w5,hcv,ho5,hb5⟩:=conv_text w4 key (by omega);have hb14:Below w1.heap.size w1 w5:=(hb3.trans (hb4.mono hb3.size)).trans (hb5.mono (Nat.le_trans hb3.size hb4.size));have hs5:=hb14.size;have hB0:=resBlk hb1 hb14;have hBl:=hB0.lt;have hne5:w5.heap.size≠w.heap.size:=(by omega);have z0:=hB0.cell 0 _ rfl;have z1:=hB0.cell 1 _ rfl;have z2:=hB0.cell 2 _ rfl;have z3:=hB0.cell 3 _ rfl;have z4:=hB0.cell 4 _ rfl;have z5:=hB0.cell 5 _ rfl;have z6:=hB0.cell 6 _ rfl;have z7:=hB0.cell 7 _ rfl;have z8:=hB0.cell 8 _ rfl;have f0:=hB0.frozen 0;have f1:=hB0.frozen 1;have f2:=hB0.frozen 2;have f3:=hB0.frozen 3;have f4:=hB0.frozen 4;have f5:=hB0.frozen 5;have f6:=hB0.frozen 6;have f7:=hB0.frozen 7;have f8:=hB0.frozen 8;have hB0':=Lib.hid hB0;clear hB0)
   |(go_at_call 71;have _t:=t4;refine(Dv.out [104] _ _ _ (hr1.below ?hB) HK.out.h).mono ?_;(case hB=>repeat' (first|with_reducible refine below_alloc' ?_ _|with_reducible refine below_setCell' ?_ _ _ ?_|with_reducible exact hb14|(simp<;>omega)));rintro e w2 ⟨rfl,rfl⟩;have t5:True:=trivial;clear t4)
   |(go_at_call 71;have _t:=t5;refine(Dv.out [115] _ _ _ (hr1.below ?hB) HK.out.s).mono ?_;(case hB=>repeat' (first|with_reducible refine below_alloc' ?_ _|with_reducible refine below_setCell' ?_ _ _ ?_|with_reducible exact hb14|(simp<;>omega)));rintro e w2 ⟨rfl,rfl⟩;have t6:True:=trivial;clear t5)
   |(go_at_call 71;have _t:=t6;refine(Dv.out [116] _ _ _ (hr1.below ?hB) HK.out.t).mono ?_;(case hB=>repeat' (first|with_reducible refine below_alloc' ?_ _|with_reducible refine below_setCell' ?_ _ _ ?_|with_reducible exact hb14|(simp<;>omega)));rintro e w2 ⟨rfl,rfl⟩;have t7:True:=trivial;clear t6)
   |(go_at_call 71;have _t:=t7;refine(Dv.out [110] _ _ _ (hr1.below ?hB) HK.out.n).mono ?_;(case hB=>repeat' (first|with_reducible refine below_alloc' ?_ _|with_reducible refine below_setCell' ?_ _ _ ?_|with_reducible exact hb14|(simp<;>omega)));rintro e w2 ⟨rfl,rfl⟩;clear t7))
  (try simp only [Exit.inBlock,Exit.then])
  refine bodyPost_ret (v:= .tuple #[.agg #[Str rsaS, .slice (some ⟨w4.heap.size,0,none⟩) key.length c5, .int .i64 (8*(key.length:Int)), .slice none 0 0, .slice none 0 0, .slice none 0 0,Str [], .bool true, .bool true], .int .i64 0]) ?_ rfl ⟨_,rfl,(ho5.frm (S:=fun k=>k=w.heap.size) ?hF ?hN).mono ?hM,?hB⟩
  ·rw [results_cell_tmp rfl]
   go_simp
  case hF=>repeat' (first|with_reducible refine Frm.alloc ?_ _|with_reducible refine Frm.setCell ?_ _ _ (fun h=> ?_)|with_reducible exact Frm.refl _ _|rfl|(exfalso;revert h;simp;done))
  case hN=>intro k hk;simp [Value.ownBlock]at hk;have q1:=hb1.size;have q3:=hb3.size;have q4:=hb4.size;simp at q1;omega
  case hM=>have q1:=hb1.size;have q3:=hb3.size;have q4:=hb4.size;simp at q1;omega
  case hB=>
   have h0:Below w.heap.size w w5:=(((below_alloc' (Below.refl _ w) _).trans (hb1.mono (by simp))).trans (hb14.mono (by have q1:=hb1.size;simp at q1;omega)))
   repeat' (first|with_reducible refine below_alloc' ?_ _|with_reducible refine below_setCell' ?_ _ _ ?_|with_reducible exact h0|(simp<;>omega))
 ·have h2:((key.length:Int) !=32)=false:=bneT (by rw [beq_iff_eq];omega)
  clear K
  have t1:True:=trivial
  have hw00:=Below.refl w.heap.size w
  go_enter Tryz.func77,Tryz.ntmps77
  go_wp2_with (first
   |(go_at_call 70;refine(dTags_any l L _ hs HL.out).mono ?_;rintro e w1 ⟨v1,rfl,hr1,hb1⟩)
   |(go_at_call 71;have _t:=t1;refine(Dv.out [118] _ _ _ hr1 HK.out.v).mono ?_;rintro e w2 ⟨rfl,rfl⟩;have t2:True:=trivial;clear t1)
   |(go_at_call 71;have _t:=t2;refine(Dv.out [112] _ _ _ hr1 HK.out.p).mono ?_;rintro e w2 ⟨rfl,rfl⟩;have t3:True:=trivial;clear t2)
   |(go_at_call 102;refine(dBare_any _ _ hll).mono ?_;rintro e w3 ⟨rfl,hb3⟩;rw [Hb.out])
   |(go_at_call 79;refine(dBytes64_any _ _ _ hll Hd.out hm4).mono ?_;rintro e w4 ⟨rfl,hb4⟩)
   |(go_at_call 71;have _t:=t3;refine(Dv.out [107] _ _ _ ((hr1.below hb3).below hb4) HK.out.k).mono ?_;rintro e w2 ⟨rfl,rfl⟩;have t4:True:=trivial;clear t3;obtain⟨c5,w5,hcv,ho5,hb5⟩:=conv_text w4 key (by omega);have hb14:Below w1.heap.size w1 w5:=(hb3.trans (hb4.mono hb3.size)).trans (hb5.mono (Nat.le_trans hb3.size hb4.size));have hs5:=hb14.size;have hB0:=resBlk hb1 hb14;have hBl:=hB0.lt;have hne5:w5.heap.size≠w.heap.size:=(by omega);have z0:=hB0.cell 0 _ rfl;have z1:=hB0.cell 1 _ rfl;have z2:=hB0.cell 2 _ rfl;have z3:=hB0.cell 3 _ rfl;have z4:=hB0.cell 4 _ rfl;have z5:=hB0.cell 5 _ rfl;have z6:=hB0.cell 6 _ rfl;have z7:=hB0.cell 7 _ rfl;have z8:=hB0.cell 8 _ rfl;have f0:=hB0.frozen 0;have f1:=hB0.frozen 1;have f2:=hB0.frozen 2;have f3:=hB0.frozen 3;have f4:=hB0.frozen 4;have f5:=hB0.frozen 5;have f6:=hB0.frozen 6;have f7:=hB0.frozen 7;have f8:=hB0.frozen 8;have hB0':=Lib.hid hB0;clear hB0)
   |(go_at_call 71;have _t:=t4;refine(Dv.out [104] _ _ _ (hr1.below ?hB) HK.out.h).mono ?_;(case hB=>repeat' (first|with_reducible refine below_alloc' ?_ _|with_reducible refine below_setCell' ?_ _ _ ?_|with_reducible exact hb14|(simp<;>omega)));rintro e w2 ⟨rfl,rfl⟩;have t5:True:=trivial;clear t4)
   |(go_at_call 71;have _t:=t5;refine(Dv.out [115] _ _ _ (hr1.below ?hB) HK.out.s).mono ?_;(case hB=>repeat' (first|with_reducible refine below_alloc' ?_ _|with_reducible refine below_setCell' ?_ _ _ ?_|with_reducible exact hb14|(simp<;>omega)));rintro e w2 ⟨rfl,rfl⟩;have t6:True:=trivial;clear t5)
   |(go_at_call 71;have _t:=t6;refine(Dv.out [116] _ _ _ (hr1.below ?hB) HK.out.t).mono ?_;(case hB=>repeat' (first|with_reducible refine below_alloc' ?_ _|with_reducible refine below_setCell' ?_ _ _ ?_|with_reducible exact hb14|(simp<;>omega)));rintro e w2 ⟨rfl,rfl⟩;have t7:True:=trivial;clear t6)
   |(go_at_call 71;have _t:=t7;refine(Dv.out [110] _ _ _ (hr1.below ?hB) HK.out.n).mono ?_;(case hB=>repeat' (first|with_reducible refine below_alloc' ?_ _|with_reducible refine below_setCell' ?_ _ _ ?_|with_reducible exact hb14|(simp<;>omega)));rintro e w2 ⟨rfl,rfl⟩;clear t7))
  (try simp only [Exit.inBlock,Exit.then])
  refine bodyPost_ret (v:= .tuple #[.agg #[Str edS, .slice (some ⟨w4.heap.size,0,none⟩) key.length c5, .int .i64 (8*(key.length:Int)), .slice none 0 0, .slice none 0 0, .slice none 0 0,Str [], .bool true, .bool true], .int .i64 0]) ?_ rfl ⟨_,rfl,(ho5.frm (S:=fun k=>k=w.heap.size) ?hF ?hN).mono ?hM,?hB⟩
  ·rw [results_cell_tmp rfl]
   go_simp
  case hF=>repeat' (first|with_reducible refine Frm.alloc ?_ _|with_reducible refine Frm.setCell ?_ _ _ (fun h=> ?_)|with_reducible exact Frm.refl _ _|rfl|(exfalso;revert h;simp;done))
  case hN=>intro k hk;simp [Value.ownBlock]at hk;have q1:=hb1.size;have q3:=hb3.size;have q4:=hb4.size;simp at q1;omega
  case hM=>have q1:=hb1.size;have q3:=hb3.size;have q4:=hb4.size;simp at q1;omega
  case hB=>
   have h0:Below w.heap.size w w5:=(((below_alloc' (Below.refl _ w) _).trans (hb1.mono (by simp))).trans (hb14.mono (by have q1:=hb1.size;simp at q1;omega)))
   repeat' (first|with_reducible refine below_alloc' ?_ _|with_reducible refine below_setCell' ?_ _ _ ?_|with_reducible exact h0|(simp<;>omega))
def dkim1S:BS:= [68,75,73,77,49]
def recK (kind key:BS):BS:= [118,61,68,75,73,77,49,59,32,107,61]++kind++ [59,32,112,61]++enc64 key
theorem recK_eq (kind key:BS):recK kind key=wtags [([],([118],dkim1S)),([32],([107],kind))]++([32]++ [112]++ [61]++enc64 key++ []):=by
 simp [recK,wtags,dkim1S]
theorem recK_neat (kind key:BS)(hk:kind=edS∨kind=rsaS):(∀x∈([([],([118],dkim1S)),([32],([107],kind))]:List (BS×Tag)),blanks x.1∧Neat x.2)∧Neat ([112],enc64 key):=by
 refine⟨fun x hx=> ?_,neat_of rfl (word_enc key)⟩
 simp only [List.mem_cons,List.not_mem_nil,or_false]at hx
 rcases hx with rfl|rfl
 ·exact⟨by intro c hc;simp at hc,neat_of rfl (word_of rfl)⟩
 ·exact⟨by intro c hc;simp at hc;rw [hc];rfl,neat_of rfl (word_kind hk)⟩
theorem pmap_rec (kind key:BS)(hk:kind=edS∨kind=rsaS):pmap (recK kind key)=some [([118],dkim1S),([107],kind),([112],enc64 key)]:=by
 obtain⟨h1,h2⟩:=recK_neat kind key hk
 have h:=pmap_wtags [([],([118],dkim1S)),([32],([107],kind))] [32] [] ([112],enc64 key) h1 (by intro c hc;simp at hc;rw [hc];rfl) (by intro c hc;simp at hc) h2 (by simp)
 rw [recK_eq]
 exact h
theorem tagsOf_rec (kind key:BS)(hk:kind=edS∨kind=rsaS):tagsOf (recK kind key)=some [([107],kind),([112],enc64 key),([118],dkim1S)]:=by
 obtain⟨h1,h2⟩:=recK_neat kind key hk
 rw [recK_eq]
 unfold tagsOf
 rw [splitAt_wtags _ _ h1,splitAt_one]
 ·have e1:=tagsStep_neat [] [] [] ([118],dkim1S) (by intro c hc;simp at hc) (by intro c hc;simp at hc) (h1 ([],([118],dkim1S)) (by simp)).2
  have e2:=tagsStep_neat [([118],dkim1S)] [32] [] ([107],kind) (by intro c hc;simp at hc;rw [hc];rfl) (by intro c hc;simp at hc) (h1 ([32],([107],kind)) (by simp)).2
  have e3:=tagsStep_neat [([107],kind),([118],dkim1S)] [32] [] ([112],enc64 key) (by intro c hc;simp at hc;rw [hc];rfl) (by intro c hc;simp at hc) h2
  have i1:insT [] ([118],dkim1S)=some [([118],dkim1S)]:=by simp [insT,posT]
  have i2:insT [([118],dkim1S)] ([107],kind)=some [([107],kind),([118],dkim1S)]:=by
   have:posT [([118],dkim1S)] [107]=0:=by unfold posT;rw [List.takeWhile_cons,if_neg (show¬Op.bytesLess [118] [107]=true by decide)];rfl
   simp [insT,this]
  have i3:insT [([107],kind),([118],dkim1S)] ([112],enc64 key)=some [([107],kind),([112],enc64 key),([118],dkim1S)]:=by
   have:=ins_second ([107],kind) ([112],enc64 key) [([118],dkim1S)] (show Op.bytesLess [107] [112]=true by decide) (fun u hu=>by simp at hu;subst hu;exact⟨show Op.bytesLess [118] [112]=false by decide,by simp⟩)
   exact this
  simp only [List.append_nil,List.nil_append]at e1 e2 e3
  simp only [List.map_cons,List.map_nil,List.nil_append,List.cons_append,List.foldl_cons,List.foldl_nil,List.append_nil]
  simp only [List.singleton_append,List.cons_append,List.nil_append]at e1 e2 e3⊢
  rw [e1,i1,e2,i2,e3,i3]
 ·have h:=(word_enc key).semi
  simp [h]
theorem keyTags_p (kind key:BS)(hz:(kind=rsaS∧128≤key.length)∨(kind=edS∧key.length=32)):KeyTags [([118],dkim1S),([107],kind),([112],enc64 key)] kind key:=by
 constructor<;>first|exact hz|simp [look,dkim1S]
theorem keyTags_r (kind key:BS)(hz:(kind=rsaS∧128≤key.length)∨(kind=edS∧key.length=32)):KeyTags [([107],kind),([112],enc64 key),([118],dkim1S)] kind key:=by
 constructor<;>first|exact hz|simp [look,dkim1S]
theorem plain_recK (kind key:BS)(hk:kind=edS∨kind=rsaS):plain (recK kind key)=true:=by
 unfold recK
 simp only [plain_app]
 refine⟨⟨⟨by decide,by rcases hk with rfl|rfl<;>decide⟩,by decide⟩,plain_all.2 fun c hc=>(enc_all key c hc).2.2⟩
end Go.Proofs.YtgilnagajcfkpaaGreatDoor
