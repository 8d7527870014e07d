import Derived.Test.YtgilnagajcfkpaaGreatDoorQ46
set_option maxHeartbeats 4000000
set_option maxRecDepth 1000000
set_option linter.all false
namespace Go.Proofs.YtgilnagajcfkpaaGreatDoor
open Go.RowKit
theorem close_any (B sg op:Nat)(o:Opt)(kv ksv bv:Value)(lr:Int)(m:BS)(F:List BS)(body:BS)(w:World)(hG:Glo B w)(hs:Blk w sg 181 (sgnCells o op bv lr false (.map none)))(hop:Blk w op 137 (optCells o kv ksv))(hBs:B≤sg)(hBo:B≤op)(hso:sg≠op)
 (hbv:BufV w bv m)(hbs:bv.ownBlock≠some sg)(hk:Rd w kv (byts o.key))(hkv:kv.ownBlock≠some sg)(hks:KeysIn w o ksv)(hksv:ksv.ownBlock≠some sg)(hO:OptOk o)(hM:MsgOk m F body)(hf:signsFrom o)(hm:m.length≤100000):
 Calls Tryz.prog 65 #[.pointer (some ⟨sg,0,none⟩)] w (SignPost w sg op o bv lr F body):=by
 have c7:w.cell? ⟨sg,7,none⟩=some (.bool false):=hs.cell 7 _ rfl
 have f7:=hs.frozen 7
 have hF:Frm (· =sg) w (w.setCell ⟨sg,7,none⟩ (.bool true)):=(Frm.refl _ w).setCell ⟨sg,7,none⟩ _ (fun _=>rfl)
 have hs1:Blk (w.setCell ⟨sg,7,none⟩ (.bool true)) sg 181 (sgnCells o op bv lr true (.map none)):=hs.set 7 (.bool true)
 have hop1:=hop.frm hF (fun e=>hso e.symm)
 have hbv1:BufV (w.setCell ⟨sg,7,none⟩ (.bool true)) bv m:=hbv.frm hF (fun k hk e=>hbs (by rw [hk,e]))
 have hk1:=hk.frm hF (fun k hk e=>hkv (by rw [hk,e]))
 have hks1:=hks.frm hF (fun k hk e=>hksv (by rw [hk,e]))
 have hG1:Glo B (w.setCell ⟨sg,7,none⟩ (.bool true)):=hG.below (hF.below (fun k _ e=>by rw [e];exact hBs) hG.le)
 have hc:=sign_any B sg op o kv ksv bv lr m F body _ hG1 hs1 hop1 hBs hBo hso hbv1 hk1 hks1 hO hM hf hm
 go_enter Tryz.func65,Tryz.ntmps65
 go_wp2_with fail
 refine hc.mono ?_
 rintro e w1 ⟨rfl,mb,n,h1,h2,h3,h4,h5⟩
 go_wp2_with fail
 go_ret
 exact⟨rfl,mb,n,h1,h2,h3,Nat.le_trans hF.size h4,hF.trans h5⟩
theorem closeAgain (sg:Nat)(cells:List Value)(u:FrameMode)(w:World)(hs:Blk w sg 181 cells)(hc:cells[7]?=some (.bool true)):
 CallsD Tryz.prog 65 #[.pointer (some ⟨sg,0,none⟩)] u w fun e u' w'=>u'=u∧(e= .returned .nilIface∧w'=w):=by
 have c7:w.cell? ⟨sg,7,none⟩=some (.bool true):=hs.cell 7 _ hc
 go_enter_d Tryz.func65,Tryz.ntmps65
 go_wp2
 go_ret
 exact⟨rfl,rfl⟩
theorem signature_any (sg op:Nat)(o:Opt)(bv:Value)(lr:Int)(F:List BS)(body:BS)(mb n:Nat)(w:World)(hs:Blk w sg 181 (sgnCells o op bv lr true (.map (some mb))))(hm:MapS w mb n (PF (optT o F body) (enc64 (sigOf o F body))))(hn:n≤1000)
 (hO:OptOk o)(hj:(joinC (namesOf o F)).length≤400000)(he:EofErr w):
 Calls Tryz.prog 69 #[.pointer (some ⟨sg,0,none⟩)] w fun e w'=>e= .returned (Str (signed o F body))∧Below w.heap.size w w':=by
 have c8:w.cell? ⟨sg,8,none⟩=some (.map (some mb)):=hs.cell 8 _ rfl
 have hp:=pf_conds o (namesOf o F) (bhOf o body) (enc64 (sigOf o F body))
 have hc:=formatSignature_any mb n _ (optT o F body) (enc64 (sigOf o F body)) w hm hp.1 hp.2.1 (opt_nodup o _ _).1 hp.2.2 (opt_sorted o _ _) (opt_count o _ _).1 (by omega) (opt_count o _ _).2 (opt_short hO (by omega) (by unfold bhOf;rw [enc_len,sha_len];decide)) (by unfold sigOf;rw [enc_len,sha_len];decide) he
 have hq: ∀(w:World) (r:Option Nat),(binOp .eql 179 (.map r) (.map none)).run Tryz.prog w= .ok (.bool r.isNone) w:=fun w r=>run_eql_map_nil w _ _ _ r (show Tryz.prog.underlying 179=some (TypeDesc.map 9 9) by kernel_rfl)
 go_enter Tryz.func69,Tryz.ntmps69
 go_wp2_with fail
 refine hc.mono ?_
 rintro e w1 ⟨rfl,hb⟩
 go_wp2_with fail
 go_ret
 exact⟨rfl,hb⟩
structure CpSt (W0 mw r off pc g sg:Nat)(cells:List Value)(w:World):Prop where
 size:W0≤w.heap.size
 mw:Blk w mw 186 [.slice (some ⟨r,off,none⟩) 2 pc]
 r0:w.cell? ⟨r,off,none⟩=some (.iface 116 (.pointer (some ⟨g,0,none⟩)))
 r1:w.cell? ⟨r,off+1,none⟩=some (.iface 124 (.pointer (some ⟨sg,0,none⟩)))
 g:Blk w g 112 [.slice none 0 0, .int .i64 0, .int .i8 0]
 sg:Blk w sg 181 cells
def CpQ (W0 g sg:Nat)(cells:List Value)(l:BS)(w:World):Prop:=
 ∃vb vs,Blk w g 112 [vb, .int .i64 0, .int .i8 0]∧BufV w vb l∧vb.ownBlock≠some g∧Blk w sg 181 ((cells.set 6 (.int .i8 0)).set 4 vs)∧BufV w vs l∧vs.ownBlock≠some sg∧(∀k,vb.ownBlock=some k→W0≤k)∧(∀k,vs.ownBlock=some k→W0≤k∧vb.ownBlock≠some k)
theorem copy_both (W0 mw r off pc g sg h:Nat)(cells:List Value)(l:BS)(p:Int)(w:World)(hS:CpSt W0 mw r off pc g sg cells w)(hh:Blk w h 132 [Str l, .int .i64 0, .int .i64 p])(hl0:l≠ [])(hl:l.length≤4294967296)
 (h4:cells[4]?=some (.slice none 0 0))(h5:cells[5]?=some (.int .i64 0))(h6:cells[6]?=some (.int .i8 0))(hrg:r≠g)(hlt:h<W0)(hn:h≠mw∧h≠r∧h≠g∧h≠sg):
 Calls Tryz.prog 67 #[.iface 183 (.pointer (some ⟨mw,0,none⟩)), .iface 76 (.pointer (some ⟨h,0,none⟩))] w (SWPost w h l (fun k=>k=g∨k=sg) (CpQ W0 g sg cells l)):=by
 refine ioCopyStr_gen 183 ⟨mw,0,none⟩ h l p (fun k=>k=g∨k=sg) (CpSt W0 mw r off pc g sg cells) (CpQ W0 g sg cells l) w hh hS (fun w w' h1 hF=> ?_) (fun w w' h1 hF=> ?_) (fun e=>e.elim hn.2.2.1 hn.2.2.2) hl0 hl (fun w1 h1=> ?_)
 ·exact⟨Nat.le_trans h1.size hF.size,h1.mw.frm hF (fun e=>hn.1 e.symm),frC hF h1.r0 (fun e=>hn.2.1 e.symm),frC hF h1.r1 (fun e=>hn.2.1 e.symm),h1.g.frm hF (fun e=>hn.2.2.1 e.symm),h1.sg.frm hF (fun e=>hn.2.2.2 e.symm)⟩
 ·obtain⟨vb,vs,q1,q2,q3,q4,q5,q6,q7,q8⟩:=h1
  exact⟨vb,vs,q1.frm hF (fun e=>hn.2.2.1 e.symm),q2.frm hF (fun k hk e=>by have:=q7 k hk;omega),q3,q4.frm hF (fun e=>hn.2.2.2 e.symm),q5.frm hF (fun k hk e=>by have:=(q8 k hk).1;omega),q6,q7,q8⟩
 ·refine(ioWriteString_mw mw r off pc g sg cells l 0 0 w1 h1.mw h1.r0 h1.r1 hrg h1.g h1.sg h4 h5 h6 hl).mono ?_
  rintro e w2 ⟨rfl,vb,vs,q1,q2,q3,q4,q5,q6,q7,q8,hF⟩
  exact⟨rfl,⟨vb,vs,q1,q2,q3,q4,q5,q6,fun k hk=>Nat.le_trans h1.size (q7 k hk),fun k hk=>⟨Nat.le_trans h1.size (q8 k hk).1,(q8 k hk).2⟩⟩,hF⟩
def Sgn48Post (w:World)(B0 bb:Nat)(o:Opt)(m:BS)(F:List BS)(body:BS)(e:Ending)(w':World):Prop:=
 ((signsFrom o∧e= .returned .nilIface∧∃v',Bld w' B0 bb v' (signed o F body++m))∨(¬signsFrom o∧∃a,e= .returned (.iface 242 (.pointer (some a)))))∧Below B0 w w'
theorem sign48_any (B B0 bb h op:Nat)(o:Opt)(kv ksv:Value)(p:Int)(m:BS)(F:List BS)(body:BS)(w:World)(hG:Glo B w)(hB0:B≤B0)(hop:Blk w op 137 (optCells o kv ksv))(hbb:Blk w bb 72 [.pointer none, .slice none 0 0])(hh:Blk w h 132 [Str m, .int .i64 0, .int .i64 p])
 (hBo:B0≤op)(hBb:B0≤bb)(hBh:B0≤h)(hne:op≠bb∧op≠h∧bb≠h)(hk:Rd w kv (byts o.key))(hkb: ∀k,kv.ownBlock=some k→k<B0)(hks:KeysIn w o ksv)(hksb: ∀k,ksv.ownBlock=some k→k<w.heap.size∧k≠bb∧k≠h)(hO:OptOk o)(hM:MsgOk m F body)(hm:m.length≤100000)(hm0:m≠ []):
 Calls Tryz.prog 48 #[.iface 70 (.pointer (some ⟨bb,0,none⟩)), .iface 76 (.pointer (some ⟨h,0,none⟩)), .pointer (some ⟨op,0,none⟩)] w (Sgn48Post w B0 bb o m F body):=by
 have hB0w:B0≤w.heap.size:=by have:=hop.lt;omega
 go_enter_defers Tryz.func48,Tryz.ntmps48
 go_wp2_with fail
 refine(newSigner_any op o kv ksv w hop hks hO).mono ?_
 rintro e1 w1 ⟨⟨hsf,sg,rfl,hsg,hsgl⟩|⟨hsf,a,rfl⟩,hb1⟩
 ·go_wp2_with fail
  have hs1:(w1.alloc (.cells #[.slice none 0 0, .int .i64 0, .int .i8 0] 112)).heap.size=w1.heap.size+1:=by simp
  have hbA:=(Below.refl w1.heap.size w1).alloc (Nat.le_refl _) (.cells #[.slice none 0 0, .int .i64 0, .int .i8 0] 112)
  have hb2:=hbA.alloc hbA.size (.cells #[.iface 116 (.pointer (some ⟨w1.heap.size,0,none⟩)), .iface 124 (.pointer (some ⟨sg,0,none⟩))] 121)
  have hr2:Blk ((w1.alloc (.cells #[.slice none 0 0, .int .i64 0, .int .i8 0] 112)).alloc (.cells #[.iface 116 (.pointer (some ⟨w1.heap.size,0,none⟩)), .iface 124 (.pointer (some ⟨sg,0,none⟩))] 121)) (w1.heap.size+1) 121 [.iface 116 (.pointer (some ⟨w1.heap.size,0,none⟩)), .iface 124 (.pointer (some ⟨sg,0,none⟩))]:=by
   have h:=Blk.new (w1.alloc (.cells #[.slice none 0 0, .int .i64 0, .int .i8 0] 112)) 121 #[.iface 116 (.pointer (some ⟨w1.heap.size,0,none⟩)), .iface 124 (.pointer (some ⟨sg,0,none⟩))]
   rw [hs1]at h
   exact h
  have hg2:Blk ((w1.alloc (.cells #[.slice none 0 0, .int .i64 0, .int .i8 0] 112)).alloc (.cells #[.iface 116 (.pointer (some ⟨w1.heap.size,0,none⟩)), .iface 124 (.pointer (some ⟨sg,0,none⟩))] 121)) w1.heap.size 112 [.slice none 0 0, .int .i64 0, .int .i8 0]:=(Blk.new w1 112 #[.slice none 0 0, .int .i64 0, .int .i8 0]).alloc _
  obtain⟨g,hg⟩: ∃g,Hid (g=w1.heap.size):=⟨_,Lib.hid rfl⟩
  rw [←hg.out]at hr2 hg2 hb2⊢
  have hsz2:g+2≤((w1.alloc (.cells #[.slice none 0 0, .int .i64 0, .int .i8 0] 112)).alloc (.cells #[.iface 116 (.pointer (some ⟨g,0,none⟩)), .iface 124 (.pointer (some ⟨sg,0,none⟩))] 121)).heap.size:=by simp [hg.out]
  generalize(w1.alloc (.cells #[.slice none 0 0, .int .i64 0, .int .i8 0] 112)).alloc (.cells #[.iface 116 (.pointer (some ⟨g,0,none⟩)), .iface 124 (.pointer (some ⟨sg,0,none⟩))] 121)=w2 at*
  have hsgg:sg<g:=by have:=hsg.lt;have:=hg.out;omega
  have hg0:w.heap.size≤g:=by have:=hb1.size;have:=hg.out;omega
  have hb2:Below w1.heap.size w1 w2:=by rw [←hg.out];exact hb2
  have hsg2:=hsg.below hb2 hsg.lt
  have hb2':=hb1.trans (hb2.mono hb1.size)
  clear hbA hs1 hsg hb1 hb2
  refine(multiWriter_any (g+1) ⟨g,0,none⟩ ⟨sg,0,none⟩ w2 hr2).mono ?_
  rintro e3 w3 ⟨mw,A,c,rfl,hmw,hmwb,hown,hb3⟩
  obtain⟨r,off,c',he⟩:=hown.form_some (by simp)
  injection he with he1 he2 he3
  clear he2 he3
  subst he1
  have hrl:=hown.lt r rfl
  have hr0:=(hown.cell_at 0 _ rfl).1
  have hr1:=(hown.cell_at 1 _ rfl).1
  have hS:CpSt w3.heap.size mw r off c g sg (sgnCells o op (.slice none 0 0) 0 false (.map none)) w3:=⟨Nat.le_refl _,hmwb,hr0,hr1,hg2.below hb3 hg2.lt,hsg2.below hb3 hsg2.lt⟩
  have hb3':=hb2'.trans (hb3.mono hb2'.size)
  have hhl:=hh.lt
  have hol:=hop.lt
  have hbl:=hbb.lt
  have hh3:=hh.below hb3' hhl
  have hsz3:=hb3.size
  clear hmwb hown hr0 hr1 hg2 hsg2 hb2' hb3 hr2
  go_wp2_with fail
  refine(copy_both w3.heap.size mw r off c g sg h (sgnCells o op (.slice none 0 0) 0 false (.map none)) m p w3 hS hh3 hm0 (by omega) rfl rfl rfl (by omega) (by omega) ⟨by omega,by omega,by omega,by omega⟩).mono ?_
  rintro e4 w4 ⟨rfl,⟨vb,vs,q1,q2,q3,q4,q5,q6,q7,q8⟩,hF4⟩
  have q4:Blk w4 sg 181 (sgnCells o op vs 0 false (.map none)):=q4
  have hsz4:=hF4.size
  have hb4:Below B0 w w4:=(hb3'.mono hB0w).trans (hF4.below (fun k _ e=>by rcases e with e|e|e<;>omega) (by omega))
  have hn4: ∀k,¬(k=h∨k=g∨k=sg)→¬((fun k=>k=h∨k=g∨k=sg) k):=fun _ h=>h
  have hop4:=(hop.below hb3' hol).frm hF4 (fun e=>by rcases e with e|e|e;exact hne.2.1 e;omega;omega)
  have hbb4:=(hbb.below hb3' hbl).frm hF4 (fun e=>by rcases e with e|e|e;exact hne.2.2 e;omega;omega)
  have hk4:=(hk.below hb3').frm hF4 (fun k hk e=>by have:=hkb k hk;rcases e with e|e|e<;>omega)
  have hks4:=(hks.below hb3').frm hF4 (fun k hk e=>by have:=hksb k hk;rcases e with e|e|e;exact this.2.2 e;omega;omega)
  have hG4:Glo B w4:=hG.below (hb4.mono hB0)
  clear hh3 hS hF4 hb3' hn4
  go_wp2_with fail
  refine(close_any B sg op o kv ksv vs 0 m F body w4 hG4 q4 hop4 (by omega) (by omega) (by omega) q5 q6 hk4 (fun e=>by have:=hkb _ e;omega) hks4 (fun e=>by have:=hksb _ e;omega) hO hM hsf hm).mono ?_
  rintro e5 w5 ⟨rfl,mb,n,hs5,hm5,hn5,hmb5,hF5⟩
  have hsz5:=hF5.size
  have hB4:B0≤w4.heap.size:=Nat.le_trans hB0w hb4.size
  have hb5:Below B0 w w5:=hb4.trans (hF5.below (fun k _ e=>by omega) hB4)
  have hg5:=q1.frm hF5 (fun e=>by omega)
  have hv5:=q2.frm hF5 (fun k hk e=>by have:=q7 k hk;omega)
  have hbb5:=hbb4.frm hF5 (fun e=>by omega)
  have hG5:Glo B w5:=hG.below (hb5.mono hB0)
  have hjn:=(names_len hO hM hm).1
  clear q1 q2 q4 q5 q6 q8 hop4 hbb4 hk4 hks4 hG4 hb4 hF5
  go_wp2_with fail
  refine(signature_any sg op o vs 0 F body mb n w5 hs5 hm5 hn5 hO hjn hG5.eof).mono ?_
  rintro e6 w6 ⟨rfl,hb6⟩
  have hs6:=hs5.below hb6 hs5.lt
  have hg6:=hg5.below hb6 hg5.lt
  have hv6:BufV w6 vb m:=hv5.frm (Frm.of_new (S:=fun _=>False) hb6) (fun _ _ h=>h)
  have hbb6:=hbb5.below hb6 hbb5.lt
  have hsz6:=hb6.size
  have hb6':=hb5.trans (hb6.mono (by omega))
  have hld6:Bld w6 B0 bb (.slice none 0 0) []:=⟨.inl hbb6,OwnAt.nil _ _ _⟩
  have lsg:(signed o F body).length≤7000044:=by
   have h:=field_len hO (nm:=namesOf o F) (bh:=bhOf o body) hjn (by unfold bhOf;rw [enc_len,sha_len];decide) (enc64 (sigOf o F body))
   have h2:(enc64 (sigOf o F body)).length=44:=by unfold sigOf;rw [enc_len,sha_len]
   rw [h2]at h
   exact h
  clear hs5 hm5 hg5 hv5 hbb5 hG5 hb5 hb6 hbb6
  obtain⟨SG,HSG⟩: ∃x,Hid (x=signed o F body):=⟨_,Lib.hid rfl⟩
  rw [←HSG.out]at lsg⊢
  go_wp2_with fail
  refine(ioWriteString_bld B0 bb (.slice none 0 0) [] SG w6 hld6 (by simp;omega) (by omega)).mono ?_
  rintro e7 w7 ⟨rfl,v7,hld7,hv7o,hF7⟩
  rw [List.nil_append]at hld7
  have hv7: ∀k,v7.ownBlock=some k→w6.heap.size≤k:=fun k hk=>by
   rcases hv7o with e|⟨j,e,hj⟩
   ·rw [hk]at e;cases e
   ·rw [hk]at e;have:=Option.some.inj e;omega
  have hF7':Frm (· =bb) w6 w7:=hF7.mono (fun k _ e=>e.elim id (fun e=>by cases e))
  have hs7:=hs6.frm hF7' (fun e=>by omega)
  have hg7:=hg6.frm hF7' (fun e=>by omega)
  have hv7b:BufV w7 vb m:=hv6.frm hF7' (fun k hk e=>by have:=q7 k hk;omega)
  have hsz7:=hF7'.size
  have hb7:=hb6'.trans (hF7'.below (fun k _ e=>by omega) (by omega))
  clear hs6 hg6 hv6 hb6' hld6 hv7o hF7 hF7'
  go_wp2_with fail
  refine(ioCopy_bufBld B0 g bb 0 vb v7 SG m w7 hg7 hv7b hm0 hld7 (by omega) (by omega) (by omega) q3 (fun e=>by have:=q7 _ e;omega) (fun e=>by have:=hv7 _ e;omega)).mono ?_
  rintro e8 w8 ⟨rfl,v8,hld8,_,hF8⟩
  have hs8:=hs7.frm hF8 (fun e=>by rcases e with e|e|e;omega;omega;have:=hv7 _ e.symm;omega)
  have hb8:=hb7.trans (hF8.below (fun k _ e=>by rcases e with e|e|e;omega;omega;have:=hv7 _ e.symm;omega) (by omega))
  clear hs7 hg7 hv7b hb7 hld7 hF8
  go_wp2_with fail
  refine leaves_cons (f:=65) (args:= #[.pointer (some ⟨sg,0,none⟩)]) (by simp) (by simp [go_sem]) ?_
  refine(closeAgain sg _ .returning w8 hs8 rfl).mono ?_
  rintro e u' w9 ⟨rfl,rfl,rfl⟩
  exact⟨_,results_tmp rfl _ _ _, .inl ⟨hsf,rfl,v8,by rw [←HSG.out];exact hld8⟩,hb8⟩
 ·go_wp2_with fail
  exact⟨_,results_tmp rfl _ _ _, .inr ⟨hsf,a,rfl⟩,hb1.mono hB0w⟩
def optV (o:Opt)(kv hv qv:Value):Value:= .agg #[Str o.dom,Str o.sel,Str o.ident,Str o.kind,kv,Str o.hdr,Str o.bdy,hv, .bool o.all, .int .i64 o.exp, .int .i64 o.now,qv]
def OptPost (w:World)(o:Opt)(kv:Value)(e:Ending)(w':World):Prop:=
 ∃op ksv,e= .returned (.pointer (some ⟨op,0,none⟩))∧Blk w' op 137 (optCells o kv ksv)∧KeysIn w' o ksv∧w.heap.size≤op∧(∀k,ksv.ownBlock=some k→w.heap.size≤k∧k<w'.heap.size∧k≠op)∧Below w.heap.size w w'
theorem own_some {w:World} {B:Nat} {e:TypeId} {v:Value} {xs:List Value} {i j:Nat} (h:OwnAt w B e v xs)(hv:v.ownBlock=some i∨v.ownBlock=some j): ∃a n c,v= .slice (some a) n c:=by
 rcases h with⟨h,_⟩|⟨g,off,cap,_,_,h,_⟩
 ·rw [h]at hv;rcases hv with h|h<;>cases h
 ·exact⟨_,_,_,h⟩
theorem optionsOf_any (o:Opt)(kv hv:Value)(w:World)(hO:OptOk o)(hk:Rd w kv (byts o.key))(hh:Rd w hv (strs o.keys)):
 Calls Tryz.prog 50 #[optV o kv hv (.slice none 0 0)] w (OptPost w o kv):=by
 obtain⟨KA,KC,rfl,_⟩:=id hk
 obtain⟨HA,HC,rfl,_⟩:=id hh
 rw [byL,stL]at*
 have hbA:=(Below.refl w.heap.size w).alloc (Nat.le_refl _) (.cells #[Str o.dom,Str o.sel,Str o.ident,Str o.kind, .slice KA o.key.length KC,Str o.hdr,Str o.bdy, .slice HA o.keys.length HC, .bool o.all, .int .i64 o.exp, .int .i64 o.now, .slice none 0 0] 25)
 have hx:=Blk.new w 25 #[Str o.dom,Str o.sel,Str o.ident,Str o.kind, .slice KA o.key.length KC,Str o.hdr,Str o.bdy, .slice HA o.keys.length HC, .bool o.all, .int .i64 o.exp, .int .i64 o.now, .slice none 0 0]
 obtain⟨w0,hw0⟩: ∃w0,Hid (w0=w.alloc (.cells #[Str o.dom,Str o.sel,Str o.ident,Str o.kind, .slice KA o.key.length KC,Str o.hdr,Str o.bdy, .slice HA o.keys.length HC, .bool o.all, .int .i64 o.exp, .int .i64 o.now, .slice none 0 0] 25)):=⟨_,Lib.hid rfl⟩
 obtain⟨x,hxn⟩: ∃x,Hid (x=w.heap.size):=⟨_,Lib.hid rfl⟩
 rw [←hw0.out,←hxn.out]at hx
 rw [←hw0.out]at hbA
 simp only [Array.toList]at hx
 have c0:=hx.cell 0 _ rfl
 have c1:=hx.cell 1 _ rfl
 have c2:=hx.cell 2 _ rfl
 have c3:=hx.cell 3 _ rfl
 have c4:=hx.cell 4 _ rfl
 have c5:=hx.cell 5 _ rfl
 have c6:=hx.cell 6 _ rfl
 have c10:=hx.cell 10 _ rfl
 unfold optV
 go_enter Tryz.func50,Tryz.ntmps50
 go_wp2_with fail
 rw [←hw0.out,←hxn.out]
 go_region_held3 (fun ww=>ww.cell? ⟨x,0,none⟩=some (Str o.dom)∧ww.cell? ⟨x,1,none⟩=some (Str o.sel)∧ww.cell? ⟨x,2,none⟩=some (Str o.ident)∧ww.cell? ⟨x,3,none⟩=some (Str o.kind)∧ww.cell? ⟨x,4,none⟩=some (.slice KA o.key.length KC)∧ww.cell? ⟨x,5,none⟩=some (Str o.hdr)∧ww.cell? ⟨x,6,none⟩=some (Str o.bdy)∧ww.cell? ⟨x,10,none⟩=some (.int .i64 o.now))
  (first|go_keep|(refine⟨?_,?_,?_,?_,?_,?_,?_,?_⟩<;>(repeat (first|assumption|refine bcell (by assumption) ?_))))
  (first|(go_at_call 54;refine(unix_any (o.now:Int) _).mono ?_;rintro e w1 ⟨he,hb1⟩;unfold Tm at he;subst he))
 have hb1:Below w0.heap.size w0 w1:=⟨hb1.os,hb1.tape,hb1.output,hb1.size,hb1.block⟩
 have hb1':=hbA.trans (hb1.mono hbA.size)
 have hx1:Blk w1 x 25 [Str o.dom,Str o.sel,Str o.ident,Str o.kind, .slice KA o.key.length KC,Str o.hdr,Str o.bdy, .slice HA o.keys.length HC, .bool o.all, .int .i64 o.exp, .int .i64 o.now, .slice none 0 0]:=hx.below hb1 hx.lt
 have hop:=Blk.new w1 137 #[Str o.dom,Str o.sel,Str o.ident, .iface 94 (.agg #[Str o.kind, .slice KA o.key.length KC]),Str o.hdr,Str o.bdy, .slice none 0 0, .int .i64 0, .bool false, .slice none 0 0, .int .i64 o.now, .bool true]
 have hx2:=hx1.alloc (.cells #[Str o.dom,Str o.sel,Str o.ident, .iface 94 (.agg #[Str o.kind, .slice KA o.key.length KC]),Str o.hdr,Str o.bdy, .slice none 0 0, .int .i64 0, .bool false, .slice none 0 0, .int .i64 o.now, .bool true] 137)
 have hb2:=hb1'.alloc hb1'.size (.cells #[Str o.dom,Str o.sel,Str o.ident, .iface 94 (.agg #[Str o.kind, .slice KA o.key.length KC]),Str o.hdr,Str o.bdy, .slice none 0 0, .int .i64 0, .bool false, .slice none 0 0, .int .i64 o.now, .bool true] 137)
 obtain⟨op,hopn⟩: ∃x,Hid (x=w1.heap.size):=⟨_,Lib.hid rfl⟩
 rw [←hopn.out]at hop⊢
 have hwo:w.heap.size≤op:=by rw [hopn.out];exact hb1'.size
 have hxo:x<op:=by rw [hopn.out];exact hx1.lt
 generalize w1.alloc (.cells #[Str o.dom,Str o.sel,Str o.ident, .iface 94 (.agg #[Str o.kind, .slice KA o.key.length KC]),Str o.hdr,Str o.bdy, .slice none 0 0, .int .i64 0, .bool false, .slice none 0 0, .int .i64 o.now, .bool true] 137)=w2 at*
 have hop:Blk w2 op 137 [Str o.dom,Str o.sel,Str o.ident, .iface 94 (Giv o.kind (.slice KA o.key.length KC)),Str o.hdr,Str o.bdy, .slice none 0 0, .int .i64 0, .bool false, .slice none 0 0, .int .i64 o.now, .bool true]:=hop
 clear c0 c1 c2 c3 c4 c5 c6 c10 hb1 hx hbA
 have d8:w2.cell? ⟨x,8,none⟩=some (.bool o.all):=hx2.cell 8 _ rfl
 have hll:=hb2.size
 have hol:=hop.lt
 have hxl:=hx2.lt
 cases ha:o.all with
 |true=>
  rw [ha]at d8
  have d9:w2.cell? ⟨x,9,none⟩=some (.int .i64 o.exp):=hx2.cell 9 _ rfl
  have d11:w2.cell? ⟨x,11,none⟩=some (.slice none 0 0):=hx2.cell 11 _ rfl
  by_cases he:o.exp=0
  ·have q:((o.exp:Int) !=0)=false:=by rw [he];rfl
   go_wp2_with fail
   go_ret
   refine⟨op, .slice none 0 0,rfl,?_, .inl ⟨ha,rfl⟩,hwo,(fun k hk=>by cases hk),hb2⟩
   unfold optCells
   rw [he]
   exact hop
  ·have q:((o.exp:Int) !=0)=true:=by rw [bne_iff_ne];omega
   have q2:=Lib.hid (show(o.exp !=0)=true by rw [bne_iff_ne];exact he)
   go_wp2_with fail
   refine(unix_any (o.exp:Int) w2).mono ?_
   rintro e3 w3 ⟨he3,hb3⟩
   unfold Tm at he3
   subst he3
   have hopq:=hop.below hb3 (by omega)
   have f7:=hopq.cell 7 _ rfl
   have f8:=hopq.cell 8 _ rfl
   have z7:=hopq.frozen 7
   have z8:=hopq.frozen 8
   have hxq:=hx2.below hb3 (by omega)
   have e11:w3.cell? ⟨x,11,none⟩=some (.slice none 0 0):=hxq.cell 11 _ rfl
   have hopr:=(hopq.set 7 (.int .i64 o.exp)).set 8 (.bool true)
   have hFp:Frm (· =op) w3 (w3.setCell ⟨op,7,none⟩ (.int .i64 o.exp)):=(Frm.refl _ w3).setCell ⟨op,7,none⟩ _ (fun _=>rfl)
   have hFq:Frm (· =op) w3 ((w3.setCell ⟨op,7,none⟩ (.int .i64 o.exp)).setCell ⟨op,8,none⟩ (.bool true)):=hFp.setCell ⟨op,8,none⟩ _ (fun _=>rfl)
   have hbq:=hb2.trans (hb3.mono (by omega))
   have hbr:=hbq.trans (hFq.below (fun k _ e=>by omega) (by have:=hb3.size;omega))
   have hkeys:=KeysIn.frm (KeysIn.below (show KeysIn w2 o (.slice none 0 0)from .inl ⟨ha,rfl⟩) hb3) hFq (fun k hk e=>(((fun k hk=>by cases hk): ∀k,((.slice none 0 0):Value).ownBlock=some k→w.heap.size≤k∧k<w2.heap.size∧k≠op) k hk).2.2 e)
   have hown: ∀k,((.slice none 0 0):Value).ownBlock=some k→w.heap.size≤k∧k<((w3.setCell ⟨op,7,none⟩ (.int .i64 o.exp)).setCell ⟨op,8,none⟩ (.bool true)).heap.size∧k≠op:=fun k hk=>by
    have h1:=((fun k hk=>by cases hk): ∀k,((.slice none 0 0):Value).ownBlock=some k→w.heap.size≤k∧k<w2.heap.size∧k≠op) k hk
    have h2:=hb3.size
    have h3:=hFq.size
    exact⟨h1.1,by omega,h1.2.2⟩
   go_wp2_with fail
   go_ret
   refine⟨op, .slice none 0 0,rfl,?_,hkeys,hwo,hown,hbr⟩
   unfold optCells
   rw [q2.out]
   exact hopr
 |false=>
  rw [ha]at d8
  have d7:(w2.alloc (.cells #[] 9)).cell? ⟨x,7,none⟩=some (.slice HA o.keys.length HC):=(hx2.alloc _).cell 7 _ rfl
  have hl0:OwnAt (w2.alloc (.cells #[] 9)) w2.heap.size 9 (.slice (some ⟨w2.heap.size,0,none⟩) 0 0) (strs []):=OwnAt.lit w2 w2.heap.size 9 [] (Nat.le_refl _) (by simp [maxLen])
  have hbl:Below w2.heap.size w2 (w2.alloc (.cells #[] 9)):=(Below.refl _ w2).alloc (Nat.le_refl _) _
  have hh2:Rd (w2.alloc (.cells #[] 9)) (.slice HA o.keys.length HC) (strs o.keys):=(hh.below hb2).below hbl
  have hnk:=hO.nkeys
  go_upto_if 39 with(first|(at_builtin;refine appS rfl (.tmp 31) (.tmp 33) rfl [] o.keys rfl hl0 rfl (Src.rd hh2 (strs_one _)) (by simp;omega) hbl.size ?_;intro v' w' ho3 _ hb3 hv3;obtain⟨a,n,c,rfl⟩:=own_some (i:=w2.heap.size) (j:=(w2.alloc (.cells #[] 9)).heap.size) ho3 hv3;clear hv3;have hop3:=(hop.alloc (.cells #[] 9)).below hb3 hop.lt;have e6:=hop3.cell 6 _ rfl;have z6:=hop3.frozen 6;have e9:w'.cell? ⟨x,9,none⟩=some (.int .i64 o.exp):=((hx2.alloc (.cells #[] 9)).below hb3 hx2.lt).cell 9 _ rfl)|fail)
  rw [List.nil_append]at ho3
  have hF:Frm (· =op) w' (w'.setCell ⟨op,6,none⟩ (.slice (some a) n c)):=(Frm.refl _ w').setCell ⟨op,6,none⟩ _ (fun _=>rfl)
  have hop4:=hop3.set 6 (.slice (some a) n c)
  have hsz:=hb3.size
  have hsl:=hbl.size
  have hlt:=ho3.lt
  have hx4:=((hx2.alloc (.cells #[] 9)).below hb3 hx2.lt).frm hF (fun e=>by omega)
  have hb4:=((hb2.trans (hbl.mono hb2.size)).trans (hb3.mono hb2.size)).trans (hF.below (fun k _ e=>by omega) (by omega))
  have hrd4:=ho3.rd.frm hF (fun k hk e=>by have:=(hlt k hk).1;omega)
  have hsF:=hF.size
  have hown4: ∀k,(Value.slice (some a) n c).ownBlock=some k→w.heap.size≤k∧k<(w'.setCell ⟨op,6,none⟩ (.slice (some a) n c)).heap.size∧k≠op:=fun k hk=>by
   have h1:=hlt k hk
   exact⟨by omega,by omega,by omega⟩
  obtain⟨w4,hw4⟩: ∃w4,Hid (w4=w'.setCell ⟨op,6,none⟩ (.slice (some a) n c)):=⟨_,Lib.hid rfl⟩
  rw [←hw4.out]at hop4 hx4 hb4 hrd4 hown4 hsF⊢
  clear ho3 hF hlt d7 hl0 hh2 e6 z6 e9 hop3 hb3 hbl
  have hop4:Blk w4 op 137 [Str o.dom,Str o.sel,Str o.ident, .iface 94 (Giv o.kind (.slice KA o.key.length KC)),Str o.hdr,Str o.bdy, .slice (some a) n c, .int .i64 0, .bool false, .slice none 0 0, .int .i64 o.now, .bool true]:=hop4
  have hk4:KeysIn w4 o (.slice (some a) n c):= .inr ⟨ha,a,n,c,rfl,hrd4⟩
  have d9:w4.cell? ⟨x,9,none⟩=some (.int .i64 o.exp):=hx4.cell 9 _ rfl
  have d11:w4.cell? ⟨x,11,none⟩=some (.slice none 0 0):=hx4.cell 11 _ rfl
  by_cases he:o.exp=0
  ·have q:((o.exp:Int) !=0)=false:=by rw [he];rfl
   go_wp2_with fail
   go_ret
   refine⟨op, .slice (some a) n c,rfl,?_,hk4,hwo,hown4,hb4⟩
   unfold optCells
   rw [he]
   exact hop4
  ·have q:((o.exp:Int) !=0)=true:=by rw [bne_iff_ne];omega
   have q2:=Lib.hid (show(o.exp !=0)=true by rw [bne_iff_ne];exact he)
   go_wp2_with fail
   refine(unix_any (o.exp:Int) w4).mono ?_
   rintro e3 w3 ⟨he3,hb3⟩
   unfold Tm at he3
   subst he3
   have hopq:=hop4.below hb3 (by omega)
   have f7:=hopq.cell 7 _ rfl
   have f8:=hopq.cell 8 _ rfl
   have z7:=hopq.frozen 7
   have z8:=hopq.frozen 8
   have hxq:=hx4.below hb3 (by omega)
   have e11:w3.cell? ⟨x,11,none⟩=some (.slice none 0 0):=hxq.cell 11 _ rfl
   have hopr:=(hopq.set 7 (.int .i64 o.exp)).set 8 (.bool true)
   have hFp:Frm (· =op) w3 (w3.setCell ⟨op,7,none⟩ (.int .i64 o.exp)):=(Frm.refl _ w3).setCell ⟨op,7,none⟩ _ (fun _=>rfl)
   have hFq:Frm (· =op) w3 ((w3.setCell ⟨op,7,none⟩ (.int .i64 o.exp)).setCell ⟨op,8,none⟩ (.bool true)):=hFp.setCell ⟨op,8,none⟩ _ (fun _=>rfl)
   have hbq:=hb4.trans (hb3.mono (by omega))
   have hbr:=hbq.trans (hFq.below (fun k _ e=>by omega) (by have:=hb3.size;omega))
   have hkeys:=KeysIn.frm (KeysIn.below (show KeysIn w4 o (.slice (some a) n c)from hk4) hb3) hFq (fun k hk e=>((hown4: ∀k,((.slice (some a) n c):Value).ownBlock=some k→w.heap.size≤k∧k<w4.heap.size∧k≠op) k hk).2.2 e)
   have hown: ∀k,((.slice (some a) n c):Value).ownBlock=some k→w.heap.size≤k∧k<((w3.setCell ⟨op,7,none⟩ (.int .i64 o.exp)).setCell ⟨op,8,none⟩ (.bool true)).heap.size∧k≠op:=fun k hk=>by
    have h1:=(hown4: ∀k,((.slice (some a) n c):Value).ownBlock=some k→w.heap.size≤k∧k<w4.heap.size∧k≠op) k hk
    have h2:=hb3.size
    have h3:=hFq.size
    exact⟨h1.1,by omega,h1.2.2⟩
   go_wp2_with fail
   go_ret
   refine⟨op, .slice (some a) n c,rfl,?_,hkeys,hwo,hown,hbr⟩
   unfold optCells
   rw [q2.out]
   exact hopr
theorem dForm_any (s:BS)(w:World):Calls Tryz.prog 32 #[Str s] w fun e w'=>e= .returned (.bool (s==simpleS||s==relaxedS))∧w'=w:=by
 by_cases h:s= [115,105,109,112,108,101]
 ·subst h
  go_enter Tryz.func32,Tryz.ntmps32
  go_wp2
  go_ret
  exact⟨rfl,rfl⟩
 ·have h1:(s== [115,105,109,112,108,101])=false:=by simpa using h
  have F:Hid ((s==simpleS||s==relaxedS)=(s== [114,101,108,97,120,101,100])):=by
   show(s== [115,105,109,112,108,101]||s== [114,101,108,97,120,101,100])=_
   rw [h1];rfl
  clear h
  go_enter Tryz.func32,Tryz.ntmps32
  go_wp2
  go_ret
  exact⟨by rw [F.out];rfl,rfl⟩
theorem known31_any (s:BS)(w:World):Calls Tryz.prog 31 #[Str s] w fun e w'=>e= .returned (.bool (s== []||(s==simpleS||s==relaxedS)))∧w'=w:=by
 cases s with
 |nil=>
  go_enter Tryz.func31,Tryz.ntmps31
  go_wp2
  go_ret
  exact⟨rfl,rfl⟩
 |cons a r=>
  have h:=dForm_any (a::r) w
  have F:Hid (((a::r)== []||((a::r)==simpleS||(a::r)==relaxedS))=((a::r)==simpleS||(a::r)==relaxedS)):=rfl
  go_enter Tryz.func31,Tryz.ntmps31
  go_wp2_with fail
  refine h.mono ?_
  rintro e w1 ⟨rfl,rfl⟩
  go_wp2
  go_ret
  exact⟨by rw [F.out];rfl,rfl⟩
theorem dShort_any (most:Int)(v:Value)(xs:List BS)(w:World)(hv:Rd w v (strs xs))(hl: ∀x∈xs,x.length≤4294967296)(hn:xs.length≤1099511627776):
 Calls Tryz.prog 9 #[.int .i64 most,v] w fun e w'=>(∃r,e= .returned (.bool r)∧(r=true→(∀x∈xs,plain x=true∧(x.length:Int)≤most)∧xs.length≤200))∧w'=w:=by
 obtain⟨A,c,rfl,_,hx⟩:=hv
 rw [stL]
 go_enter Tryz.func9,Tryz.ntmps9
 go_wp2
 go_loopw [5] (fun v5 wx=> ∃k:Nat,k≤xs.length∧v5= .int .i64 k∧Hid (∀x∈xs.take k,plain x=true∧(x.length:Int)≤most)∧wx=w) (fun v5 _=>xs.length-(intOf v5).toNat)
 case atStart=>exact⟨0,Nat.zero_le _,rfl,by intro x hx;simp at hx,rfl⟩
 case round=>
  obtain⟨k,hk,rfl,H,rfl⟩:=hrel
  by_cases hlt:k<xs.length
  ·rcases hx with hn0|⟨g,off,rfl,hg,hc⟩
   ·exfalso
    have:xs.length=0:=by rw [←stL,hn0];rfl
    omega
   ·have hck:=hc k (Str xs[k]) (by simp [strs,hlt])
    have h0:(0:Int)≤(k:Int):=by omega
    have h1:(k:Int)<(xs.length:Int):=by omega
    have hxl:=hl _ (List.getElem_mem hlt)
    obtain⟨x,Hx⟩: ∃z,Hid (z=xs[k]):=⟨_,Lib.hid rfl⟩
    rw [←Hx.out]at hck hxl
    have hp:=dPlain_any x most wr hxl
    clear hc
    go_wp2_with fail
    refine hp.mono ?_
    rintro e w1 ⟨rfl,rfl⟩
    by_cases hb:(plain x&&decide ((x.length:Int)≤most))=true
    ·have H2:Hid (∀x∈xs.take (k+1),plain x=true∧(x.length:Int)≤most):=by
      show∀y∈xs.take (k+1),_
      intro y hy
      rw [List.take_succ_eq_append_getElem hlt]at hy
      rcases List.mem_append.1 hy with hy|hy
      ·exact H.out y hy
      ·rw [List.mem_singleton.1 hy,←Hx.out];simpa using hb
     rw [hb]
     clear hb hp
     go_wp2_with fail
     go_roundw
     case rel=>exact⟨k+1,hlt,by go_num,H2,trivial⟩
     case measure=>simp [intOf];omega
    ·have hb:(plain x&&decide ((x.length:Int)≤most))=false:=by simpa using hb
     rw [hb]
     clear hb hp
     go_wp2_with fail
     go_ret
     exact⟨⟨false,rfl,fun h=>by cases h⟩,rfl⟩
  ·have hk2:k=xs.length:=by omega
   have H2:Hid (∀x∈xs,plain x=true∧(x.length:Int)≤most):=by
    have:=H.out
    rw [List.take_of_length_le (by omega)]at this
    exact this
   clear hk2
   go_wp2_with fail
   go_ret
   refine⟨⟨_,rfl,fun h=>⟨H2.out,?_⟩⟩,rfl⟩
   have h:=of_decide_eq_true h
   omega
def RawO.cells (o:RawO)(kv ksv qv:Value):List Value:= [Str o.dom,Str o.sel,Str o.ident,Str o.kind,kv,Str o.hdr,Str o.bdy,ksv, .bool o.all, .int .i64 o.exp, .int .i64 o.now,qv]
theorem RawO.blk (w:World)(o:RawO)(kv ksv qv:Value):Blk (w.alloc (.cells #[Str o.dom,Str o.sel,Str o.ident,Str o.kind,kv,Str o.hdr,Str o.bdy,ksv, .bool o.all, .int .i64 o.exp, .int .i64 o.now,qv] 25)) w.heap.size 25 (o.cells kv ksv qv):=Blk.new w 25 #[Str o.dom,Str o.sel,Str o.ident,Str o.kind,kv,Str o.hdr,Str o.bdy,ksv, .bool o.all, .int .i64 o.exp, .int .i64 o.now,qv]
theorem dNames14_any (o:RawO)(kv hv qv:Value)(nm:BS)(w:World)(hh:Rd w hv (strs o.keys))(hk: ∃A n c,kv= .slice A n c)(hq: ∃A n c,qv= .slice A n c)(hl: ∀k∈o.keys,k.length≤4294967296)(hn:o.keys.length≤1099511627776):
 Calls Tryz.prog 14 #[o.val kv hv qv,Str nm] w fun e w'=>e= .returned (.bool (o.keys.any fun k=>lower k==nm))∧Below w.heap.size w w':=by
 obtain⟨kA,kn,kc,rfl⟩:=hk
 obtain⟨qA,qn,qc,rfl⟩:=hq
 obtain⟨HA,HC,rfl,_,hx⟩:=id hh
 rw [stL]at*
 have hb1:=(Below.refl w.heap.size w).alloc (Nat.le_refl _) (.cells #[Str o.dom,Str o.sel,Str o.ident,Str o.kind, .slice kA kn kc,Str o.hdr,Str o.bdy, .slice HA o.keys.length HC, .bool o.all, .int .i64 o.exp, .int .i64 o.now, .slice qA qn qc] 25)
 have hx1:=RawO.blk w o (.slice kA kn kc) (.slice HA o.keys.length HC) (.slice qA qn qc)
 obtain⟨x,Hx⟩: ∃z,Hid (z=w.heap.size):=⟨_,Lib.hid rfl⟩
 have hxw:w.heap.size≤x:=Nat.le_of_eq Hx.out.symm
 unfold RawO.val
 go_enter Tryz.func14,Tryz.ntmps14
 go_wp2_with fail
 rw [←Hx.out]at hx1⊢
 generalize(w.alloc (.cells #[Str o.dom,Str o.sel,Str o.ident,Str o.kind, .slice kA kn kc,Str o.hdr,Str o.bdy, .slice HA o.keys.length HC, .bool o.all, .int .i64 o.exp, .int .i64 o.now, .slice qA qn qc] 25))=w1 at*
 go_loopw [5] (fun v5 wx=> ∃k:Nat,k≤o.keys.length∧v5= .int .i64 k∧Hid (∀z∈o.keys.take k,lower z≠nm)∧Below w1.heap.size w1 wx) (fun v5 _=>o.keys.length-(intOf v5).toNat)
 case atStart=>exact⟨0,Nat.zero_le _,rfl,by intro z hz;simp at hz,Below.refl _ _⟩
 case round=>
  obtain⟨k,hk,rfl,H,hbx⟩:=hrel
  have c7:wr.cell? ⟨x,7,none⟩=some (.slice HA o.keys.length HC):=bcell hbx (hx1.cell 7 _ rfl)
  have hbw:=hb1.trans (hbx.mono hb1.size)
  by_cases hlt:k<o.keys.length
  ·rcases hx with hn0|⟨g,off,rfl,hg,hc⟩
   ·exfalso
    have:o.keys.length=0:=by rw [←stL,hn0];rfl
    omega
   ·have hck:=bcell hbw (hc k (Str o.keys[k]) (by simp [strs,hlt]))
    have h0:(0:Int)≤(k:Int):=by omega
    have h1:(k:Int)<(o.keys.length:Int):=by omega
    have hxl:=hl _ (List.getElem_mem hlt)
    have hmem:=List.getElem_mem hlt
    obtain⟨y,Hy⟩: ∃z,Hid (z=o.keys[k]):=⟨_,Lib.hid rfl⟩
    rw [←Hy.out]at hck hxl hmem
    have hp:=dLower_any y wr hxl
    clear hc
    go_wp2_with fail
    refine hp.mono ?_
    rintro e w2 ⟨rfl,hb2⟩
    have hbx2:=hbx.trans (hb2.mono hbx.size)
    have hbw2:=hb1.trans (hbx2.mono hb1.size)
    by_cases hb:lower y=nm
    ·have e1:(lower y==nm)=true:=by simpa using hb
     have F:Hid ((o.keys.any fun k=>lower k==nm)=true):=by
      show _=_
      rw [List.any_eq_true]
      exact⟨y,hmem,e1⟩
     clear hb hp
     go_wp2_with fail
     go_ret
     exact⟨by rw [F.out];rfl,hbw2⟩
    ·have e1:(lower y==nm)=false:=by simpa using hb
     have H2:Hid (∀z∈o.keys.take (k+1),lower z≠nm):=by
      show∀z∈o.keys.take (k+1),_
      intro z hz
      rw [List.take_succ_eq_append_getElem hlt]at hz
      rcases List.mem_append.1 hz with hz|hz
      ·exact H.out z hz
      ·rw [List.mem_singleton.1 hz,←Hy.out];exact hb
     clear hb hp
     go_wp2_with fail
     go_roundw
     case rel=>exact⟨k+1,hlt,by go_num,H2,hbx2⟩
     case measure=>simp [intOf];omega
  ·have F:Hid ((o.keys.any fun k=>lower k==nm)=false):=by
    show _=_
    rw [List.any_eq_false]
    have:=H.out
    rw [List.take_of_length_le (by omega)]at this
    intro z hz
    simpa using this z hz
   go_wp2_with fail
   go_ret
   exact⟨by rw [F.out];rfl,hbw⟩
def RawO.names (o:RawO)(F:List BS):List BS:=if o.all then F.map name else o.keys
theorem dNamesOf_any (o:RawO)(kv hv qv fv:Value)(F:List BS)(w:World)(hh:Rd w hv (strs o.keys))(hk: ∃A n c,kv= .slice A n c)(hq: ∃A n c,qv= .slice A n c)(hf:Rd w fv (strs F))(hl: ∀f∈F,f.length≤4294967296)(hn:F.length≤1000000000):
 Calls Tryz.prog 24 #[o.val kv hv qv,fv] w fun e w'=>(∃v,e= .returned v∧Rd w' v (strs (o.names F)))∧Below w.heap.size w w':=by
 obtain⟨kA,kn,kc,rfl⟩:=hk
 obtain⟨qA,qn,qc,rfl⟩:=hq
 obtain⟨HA,HC,rfl,_,_⟩:=id hh
 obtain⟨FA,FC,rfl,_,hx⟩:=id hf
 rw [stL]at*
 rw [stL]at*
 have hb1:=(Below.refl w.heap.size w).alloc (Nat.le_refl _) (.cells #[Str o.dom,Str o.sel,Str o.ident,Str o.kind, .slice kA kn kc,Str o.hdr,Str o.bdy, .slice HA o.keys.length HC, .bool o.all, .int .i64 o.exp, .int .i64 o.now, .slice qA qn qc] 25)
 have hx1:=RawO.blk w o (.slice kA kn kc) (.slice HA o.keys.length HC) (.slice qA qn qc)
 obtain⟨x,Hx⟩: ∃z,Hid (z=w.heap.size):=⟨_,Lib.hid rfl⟩
 unfold RawO.val
 go_enter Tryz.func24,Tryz.ntmps24
 go_upto_region 1 with fail
 rw [←Hx.out]at hx1⊢
 generalize(w.alloc (.cells #[Str o.dom,Str o.sel,Str o.ident,Str o.kind, .slice kA kn kc,Str o.hdr,Str o.bdy, .slice HA o.keys.length HC, .bool o.all, .int .i64 o.exp, .int .i64 o.now, .slice qA qn qc] 25))=w1 at*
 have c7:=hx1.cell 7 _ rfl
 have c8:=hx1.cell 8 _ rfl
 cases ha:o.all with
 |false=>
  rw [ha]at c8
  have hr:=hh.below hb1
  go_wp2_with fail
  go_ret
  exact⟨⟨_,rfl,by unfold RawO.names;rw [ha];exact hr⟩,hb1⟩
 |true=>
  rw [ha]at c8
  have hnil:OwnAt w1 w1.heap.size 9 (.slice none 0 0) (strs ((F.take 0).map name)):=OwnAt.nil _ _ _
  have Ha:=Lib.hid ha
  clear ha
  go_wp2_with fail
  go_loopw [5,6] (fun v5 v6 wx=> ∃(k:Nat) (A:Option Addr) (c:Nat),k≤F.length∧v6= .int .i64 k∧v5= .slice A k c∧OwnAt wx w1.heap.size 9 v5 (strs ((F.take k).map name))∧Below w1.heap.size w1 wx) (fun _ v6 _=>F.length-(intOf v6).toNat)
  case atStart=>exact⟨0,none,0,Nat.zero_le _,rfl,rfl,hnil,Below.refl _ _⟩
  case round=>
   obtain⟨k,A,c,hk,rfl,rfl,hok,hbx⟩:=hrel
   have hbw:=hb1.trans (hbx.mono hb1.size)
   clear hnil
   by_cases hlt:k<F.length
   ·rcases hx with hn0|⟨g,off,rfl,hg,hc⟩
    ·exfalso
     have:F.length=0:=by rw [←stL,hn0];rfl
     omega
    ·have hck:=bcell hbw (hc k (Str F[k]) (by simp [strs,hlt]))
     have h0:(0:Int)≤(k:Int):=by omega
     have h1:(k:Int)<(F.length:Int):=by omega
     have hxl:=hl _ (List.getElem_mem hlt)
     have H2:Hid ((F.take k).map name++ [name F[k]]=(F.take (k+1)).map name):=by
      show _=_
      rw [List.take_succ_eq_append_getElem hlt,List.map_append];rfl
     have hlk:((F.take k).map name).length=k:=by simp;omega
     obtain⟨L,HL⟩: ∃z,Hid (z=(F.take k).map name):=⟨_,Lib.hid rfl⟩
     rw [←HL.out]at H2 hok hlk
     have hlk2:=Lib.hid hlk
     have hLl:L.length≤1000000000:=by omega
     have hp:=dName_any F[k] wr hxl
     clear hc hlk
     go_wp2_with fail
     refine hp.mono ?_
     rintro e w2 ⟨rfl,hb2⟩
     have hok2:=hok.below hb2
     have hbx2:=hbx.trans (hb2.mono hbx.size)
     clear hp hok hbx hb2
     go_wp2_with (first
      |(at_builtin;refine appS1' (.slice A k c) rfl (.tmp 18) (.tmp 24) rfl L (name F[k]) rfl hok2 _ rfl rfl (by omega) hbx2 (Nat.le_refl _) ?_;intro v3 w3 ho3 _ hb3;obtain⟨A7,c7,hv3⟩:=ho3.form;have hv3e:v3= .slice A7 (k+1) c7:=(by rw [hv3,stL,List.length_append,hlk2.out];rfl);clear hv3;subst hv3e)
      |fail)
     rw [H2.out]at ho3
     go_roundw
     case rel=>
      refine⟨k+1,A7,c7,hlt,?_,?_,ho3,hb3⟩
      ·go_num
      ·rfl
     case measure=>simp [intOf];omega
   ·obtain rfl:k=F.length:=by omega
    have hr:=hok.rd
    rw [List.take_length]at hr
    go_wp2_with fail
    go_ret
    exact⟨⟨_,rfl,by unfold RawO.names;rw [Ha.out];exact hr⟩,hbw⟩
def RawO.keyed (o:RawO):Prop:=(o.kind=edS∧o.key.length=32)∨(o.kind=rsaS∧128≤o.key.length)
theorem dKeyed_any (o:RawO)(kv hv qv:Value)(w:World)(h:o.In w kv hv qv):
 Calls Tryz.prog 34 #[o.val kv hv qv] w fun e w'=>(∃r,e= .returned (.bool r)∧(r=true→o.keyed))∧Below w.heap.size w w':=by
 obtain⟨kA,kc,rfl,_⟩:=h.key
 obtain⟨hA,hc,rfl,_⟩:=h.keys
 obtain⟨qA,qc,rfl,_⟩:=h.query
 unfold RawO.val
 rw [byL,stL,stL]
 have hb1:=(Below.refl w.heap.size w).alloc (Nat.le_refl _) (.cells #[Str o.dom,Str o.sel,Str o.ident,Str o.kind, .slice kA o.key.length kc,Str o.hdr,Str o.bdy, .slice hA o.keys.length hc, .bool o.all, .int .i64 o.exp, .int .i64 o.now, .slice qA o.query.length qc] 25)
 have hx1:=RawO.blk w o (.slice kA o.key.length kc) (.slice hA o.keys.length hc) (.slice qA o.query.length qc)
 by_cases c1:o.kind=edS
 ·have b1:(o.kind== [101,100,50,53,53,49,57])=true:=by rw [c1];rfl
  have b3:(o.kind== [114,115,97])=false:=by rw [c1];rfl
  by_cases c2:o.key.length=32
  ·have b2:((o.key.length:Int)==32)=true:=by rw [c2];rfl
   have F:Hid o.keyed:= .inl ⟨c1,c2⟩
   clear c1 c2
   go_enter Tryz.func34,Tryz.ntmps34
   go_wp2_with fail
   go_ret
   exact⟨⟨_,rfl,fun _=>F.out⟩,hb1⟩
  ·have b2:((o.key.length:Int)==32)=false:=by rw [beq_eq_false_iff_ne];omega
   clear c1 c2
   go_enter Tryz.func34,Tryz.ntmps34
   go_wp2_with fail
   go_ret
   exact⟨⟨false,rfl,fun h=>by cases h⟩,hb1⟩
 ·have b1:(o.kind== [101,100,50,53,53,49,57])=false:=by simpa [edS]using c1
  by_cases c3:o.kind=rsaS
  ·have b3:(o.kind== [114,115,97])=true:=by rw [c3];rfl
   by_cases c2:128≤o.key.length
   ·have b2:(128:Int)≤(o.key.length:Int):=by omega
    have F:Hid o.keyed:= .inr ⟨c3,c2⟩
    clear c1 c2 c3
    go_enter Tryz.func34,Tryz.ntmps34
    go_wp2_with fail
    go_ret
    exact⟨⟨_,rfl,fun _=>F.out⟩,hb1⟩
   ·have b2: ¬((128:Int)≤(o.key.length:Int)):=by omega
    clear c1 c2 c3
    go_enter Tryz.func34,Tryz.ntmps34
    go_wp2_with fail
    go_ret
    exact⟨.inl rfl,hb1⟩
  ·have b3:(o.kind== [114,115,97])=false:=by simpa [rsaS]using c3
   clear c1 c3
   go_enter Tryz.func34,Tryz.ntmps34
   go_wp2_with fail
   go_ret
   exact⟨⟨false,rfl,fun h=>by cases h⟩,hb1⟩
structure RawO.Opts (o:RawO):Prop where
 six: ∀x∈ [o.dom,o.sel,o.ident,o.kind,o.hdr,o.bdy],plain x=true∧(x.length:Int)≤200
 keys: ∀x∈o.keys,plain x=true∧(x.length:Int)≤200
 nkeys:o.keys.length≤20
 key:o.key.length≤1000
 now:0≤o.now∧o.now<8589934592
 exp: -8589934592<o.exp∧o.exp<8589934592
theorem dOptions_any (o:RawO)(kv hv qv:Value)(w:World)(h:o.In w kv hv qv)(hf:o.fits=true):
 Calls Tryz.prog 33 #[o.val kv hv qv] w fun e w'=>(∃r,e= .returned (.bool r)∧(r=true→o.Opts))∧Below w.heap.size w w':=by
 obtain⟨kA,kc,rfl,_⟩:=h.key
 obtain⟨hA,hc,rfl,_⟩:=h.keys
 obtain⟨qA,qc,rfl,_⟩:=h.query
 have hF:(o.dom.length≤2147483647∧o.sel.length≤2147483647∧o.ident.length≤2147483647∧o.kind.length≤2147483647∧o.key.length≤2147483647∧o.hdr.length≤2147483647∧o.bdy.length≤2147483647)∧(o.keys.length≤2147483647∧∀x∈o.keys,x.length≤2147483647)∧(o.query.length≤2147483647∧∀x∈o.query,x.length≤2147483647):=by
  unfold RawO.fits at hf
  simp only [Bool.and_eq_true,decide_eq_true_eq,fitsL_iff]at hf
  exact⟨hf.1.1,hf.1.2,hf.2⟩
 obtain⟨⟨f1,f2,f3,f4,f5,f6,f7⟩,⟨g1,g2⟩,g3,g4⟩:=hF
 have hkr:=h.keys
 have hqr:=h.query
 unfold RawO.val
 rw [byL]at*
 rw [stL]at hkr hqr⊢
 rw [stL]at*
 have hb1:=(Below.refl w.heap.size w).alloc (Nat.le_refl _) (.cells #[Str o.dom,Str o.sel,Str o.ident,Str o.kind, .slice kA o.key.length kc,Str o.hdr,Str o.bdy, .slice hA o.keys.length hc, .bool o.all, .int .i64 o.exp, .int .i64 o.now, .slice qA o.query.length qc] 25)
 have hx1:=RawO.blk w o (.slice kA o.key.length kc) (.slice hA o.keys.length hc) (.slice qA o.query.length qc)
 clear h hf
 go_enter Tryz.func33,Tryz.ntmps33
 go_upto_region 1 with fail
 obtain⟨x,Hx⟩: ∃z,Hid (z=w.heap.size):=⟨_,Lib.hid rfl⟩
 rw [←Hx.out]at hx1⊢
 generalize w.alloc (.cells #[Str o.dom,Str o.sel,Str o.ident,Str o.kind, .slice kA o.key.length kc,Str o.hdr,Str o.bdy, .slice hA o.keys.length hc, .bool o.all, .int .i64 o.exp, .int .i64 o.now, .slice qA o.query.length qc] 25)=w1 at*
 have q0:=hx1.cell 0 _ rfl
 have q1:=hx1.cell 1 _ rfl
 have q2:=hx1.cell 2 _ rfl
 have q3:=hx1.cell 3 _ rfl
 have q5:=hx1.cell 5 _ rfl
 have q6:=hx1.cell 6 _ rfl
 have hba:=(Below.refl w1.heap.size w1).alloc (Nat.le_refl _) (.cells #[Str o.dom,Str o.sel,Str o.ident,Str o.kind,Str o.hdr,Str o.bdy] 9)
 have hxa:=Blk.new w1 9 #[Str o.dom,Str o.sel,Str o.ident,Str o.kind,Str o.hdr,Str o.bdy]
 have hra:Rd (w1.alloc (.cells #[Str o.dom,Str o.sel,Str o.ident,Str o.kind,Str o.hdr,Str o.bdy] 9)) (.slice (some ⟨w1.heap.size,0,none⟩) 6 6) (strs [o.dom,o.sel,o.ident,o.kind,o.hdr,o.bdy]):=
  ⟨_,6,rfl,Nat.le_refl _, .inr ⟨_,0,rfl,hxa.lt,fun j u hu=>by rw [Nat.zero_add];exact hxa.cell j u hu⟩⟩
 have hx2:=hx1.below hba hx1.lt
 have hb2:=hb1.trans (hba.mono hb1.size)
 have p4:=hx2.cell 4 _ rfl
 have p7:=hx2.cell 7 _ rfl
 have p9:=hx2.cell 9 _ rfl
 have p10:=hx2.cell 10 _ rfl
 have p11:=hx2.cell 11 _ rfl
 have hk2:=hkr.below hb2
 have hq2:=hqr.below hb2
 clear hx1 hx2 hxa hba hb1 hkr hqr Hx
 go_wp2_with fail
 generalize w1.alloc (.cells #[Str o.dom,Str o.sel,Str o.ident,Str o.kind,Str o.hdr,Str o.bdy] 9)=w2 at*
 refine(dShort_any 200 _ _ w2 hra (by simp;omega) (by simp)).mono ?_
 rintro e w3 ⟨⟨r1,rfl,H1⟩,rfl⟩
 have H1:=Lib.hid H1
 clear hra q0 q1 q2 q3 q5 q6
 cases r1
 ·go_wp2_with fail
  go_ret
  exact⟨⟨false,rfl,fun h=>by cases h⟩,hb2⟩
 go_wp2_with fail
 refine(dShort_any 200 _ _ w3 hk2 (fun x hx=>by have:=g2 x hx;omega) (by omega)).mono ?_
 rintro e w4 ⟨⟨r2,rfl,H2⟩,rfl⟩
 have H2:=Lib.hid H2
 cases r2
 ·go_wp2_with fail
  go_ret
  exact⟨⟨false,rfl,fun h=>by cases h⟩,hb2⟩
 go_wp2_with fail
 refine(dShort_any 200 _ _ w4 hq2 (fun x hx=>by have:=g4 x hx;omega) (by omega)).mono ?_
 rintro e w5 ⟨⟨r3,rfl,H3⟩,rfl⟩
 have H3:=Lib.hid H3
 clear hk2 hq2
 cases r3
 ·go_wp2_with fail
  go_ret
  exact⟨⟨false,rfl,fun h=>by cases h⟩,hb2⟩
 by_cases c0: ¬((o.keys.length:Int)≤20)
 ·go_wp2_with fail
  go_ret
  first
   |exact⟨⟨false,rfl,fun h=>by cases h⟩,hb2⟩
   |exact⟨.inl rfl,hb2⟩
 have c0:=Classical.not_not.1 c0
 by_cases c1: ¬((o.query.length:Int)≤20)
 ·go_wp2_with fail
  go_ret
  first
   |exact⟨⟨false,rfl,fun h=>by cases h⟩,hb2⟩
   |exact⟨.inl rfl,hb2⟩
 have c1:=Classical.not_not.1 c1
 by_cases c2: ¬((o.key.length:Int)≤1000)
 ·go_wp2_with fail
  go_ret
  first
   |exact⟨⟨false,rfl,fun h=>by cases h⟩,hb2⟩
   |exact⟨.inl rfl,hb2⟩
 have c2:=Classical.not_not.1 c2
 by_cases c3: ¬((0:Int)≤o.now)
 ·go_wp2_with fail
  go_ret
  first
   |exact⟨⟨false,rfl,fun h=>by cases h⟩,hb2⟩
   |exact⟨.inl rfl,hb2⟩
 have c3:=Classical.not_not.1 c3
 by_cases c4: ¬(o.now<8589934592)
 ·go_wp2_with fail
  go_ret
  first
   |exact⟨⟨false,rfl,fun h=>by cases h⟩,hb2⟩
   |exact⟨.inl rfl,hb2⟩
 have c4:=Classical.not_not.1 c4
 by_cases c5: ¬(-8589934592<o.exp)
 ·go_wp2_with fail
  go_ret
  first
   |exact⟨⟨false,rfl,fun h=>by cases h⟩,hb2⟩
   |exact⟨.inl rfl,hb2⟩
 have c5:=Classical.not_not.1 c5
 have F:o.exp<8589934592→o.Opts:=fun he=>⟨(H1.out trivial).1,(H2.out trivial).1,by omega,by omega,⟨by omega,by omega⟩,⟨by omega,by omega⟩⟩
 have HF:=Lib.hid F
 clear F
 go_wp2_with fail
 go_ret
 exact⟨⟨_,rfl,fun h=>HF.out (by simpa using h)⟩,hb2⟩
theorem splitAt_pos (c:UInt8)(l:BS):1≤(splitAt c l).length:=by
 cases l with
 |nil=>simp [splitAt]
 |cons x r=>rw [splitAt];split<;>simp
theorem splitAt_two (c:UInt8)(l:BS)(h:c∈l):2≤(splitAt c l).length:=by
 induction l with
 |nil=>cases h
 |cons x r ih=>
  rw [splitAt]
  split
  ·have:=splitAt_pos c r;simp;omega
  ·next hx=>
   have hr:c∈r:=by
    rcases List.mem_cons.1 h with e|e
    ·exact absurd e.symm hx
    ·exact e
   have:=ih hr
   simp;omega
theorem splitAt_no (c:UInt8)(l:BS)(h:(splitAt c l).length≤1):c∉l:=fun hm=>by have:=splitAt_two c l hm;omega
theorem splitAt_in (c:UInt8)(l:BS)(h:2≤(splitAt c l).length):c∈l:=by
 apply Classical.byContradiction
 intro hn
 rw [splitAt_one c l hn]at h
 simp at h
theorem dry_of_strip {l:BS} (h:strip l=l):dry l:=by
 unfold strip at h
 rw [List.filter_eq_self]at h
 intro c hc
 simpa using h c hc
theorem NamedP.msg {M:BS} {F:List BS} {b:BS} (h:NamedP M F b)(hp:plain M=true):MsgOk M F b∧∀f∈F,58∈f:=by
 refine⟨⟨h.heads,h.ne,h.head,fun f hf=> ?_,?_,hp⟩,fun f hf=>splitAt_in _ _ (h.all f hf).two⟩
 ·have ho:=h.all f hf
  have h1:=splitAt_pos 59 (name f)
  have h2:=splitAt_pos 61 (name f)
  have h3:=ho.one
  exact⟨ho.ne,dry_of_strip ho.dry,splitAt_no _ _ (by omega),splitAt_no _ _ (by omega),ho.other⟩
 ·obtain⟨f,hf,he⟩:=List.any_eq_true.1 h.from_
  exact⟨f,hf,beq_iff_eq.1 he⟩
def OkW (x:BS):Prop:=strip x=x∧x≠ []∧(splitAt 59 x).length+(splitAt 58 x).length+(splitAt 61 x).length=3
theorem OkW.word {x:BS} (h:OkW x):WordN x:=by
 have h1:=splitAt_pos 59 x
 have h2:=splitAt_pos 58 x
 have h3:=splitAt_pos 61 x
 have h4:=h.2.2
 exact⟨⟨dry_of_strip h.1,splitAt_no _ _ (by omega)⟩,h.2.1,splitAt_no _ _ (by omega),splitAt_no _ _ (by omega)⟩
structure RawO.Fit (o:RawO):Prop where
 words: ∀x∈o.dom::o.sel::o.keys,OkW x
 opts:o.Opts
 keyed:o.keyed
 none:(o.keys.any fun k=>lower k==dkimS)=false
 hdr:(o.hdr== []||(o.hdr==simpleS||o.hdr==relaxedS))=true
 bdy:(o.bdy== []||(o.bdy==simpleS||o.bdy==relaxedS))=true
 ident:o.ident= []∨o.ident=64::o.dom∨o.ident=joeS++o.dom
 time:o.exp=0∨o.now≤o.exp
def toOpt (o:RawO):Opt:=⟨o.dom,o.sel,o.ident,o.kind,o.key,o.hdr,o.bdy,o.keys,o.all,o.exp.toNat,o.now.toNat⟩
theorem known_or {s:BS} (h:(s== []||(s==simpleS||s==relaxedS))=true):s= []∨s=simpleS∨s=relaxedS:=by simpa [Bool.or_eq_true]using h
theorem RawO.Fit.ok {o:RawO} (h:o.Fit):OptOk (toOpt o):=by
 have hs:=h.opts.six
 have h1:=hs o.dom (by simp)
 have h2:=hs o.sel (by simp)
 have h3:=hs o.ident (by simp)
 have hk:=h.opts.keys
 have hn:=h.opts.now
 have he:=h.opts.exp
 refine⟨(h.words o.dom (by simp)).word,(h.words o.sel (by simp)).word,fun k hk=>⟨(h.words k (by simp only [List.mem_cons];exact .inr (.inr hk))).word,fun e=> ?_⟩,h.ident,?_,known_or h.hdr,known_or h.bdy,?_,?_,?_,h.opts.key,h.opts.nkeys,⟨?_,?_,?_,fun k hk'=> ?_⟩,⟨h1.1,h2.1,h3.1,fun k hk'=>(hk k hk').1⟩⟩
 ·have:=List.any_eq_false.1 h.none k hk
  exact this (by rw [e];rfl)
 ·exact h.keyed.imp id id
 ·show o.exp.toNat=0∨o.now.toNat≤o.exp.toNat
  have:=h.time
  omega
 ·show o.now.toNat<8589934592
  omega
 ·show o.exp.toNat<8589934592
  omega
 ·show o.dom.length≤200
  have:=h1.2;omega
 ·show o.sel.length≤200
  have:=h2.2;omega
 ·show o.ident.length≤200
  have:=h3.2;omega
 ·have:=(hk k hk').2;omega
theorem RawO.Fit.nonneg {o:RawO} (h:o.Fit):(o.now.toNat:Int)=o.now∧(o.exp.toNat:Int)=o.exp:=by
 have hn:=h.opts.now
 have ht:=h.time
 omega
theorem words_l (o:RawO)(hF:(o.dom.length≤2147483647∧o.sel.length≤2147483647)∧∀x∈o.keys,x.length≤2147483647): ∀x∈o.dom::o.sel::o.keys,x.length≤2147483647:=by
 intro x hx
 rcases List.mem_cons.1 hx with rfl|hx
 ·exact hF.1.1
 ·rcases List.mem_cons.1 hx with rfl|hx
  ·exact hF.1.2
  ·exact hF.2 x hx
theorem dProper_any (o:RawO)(kv hv qv:Value)(w:World)(h:o.In w kv hv qv)(hf:o.fits=true):
 Calls Tryz.prog 8 #[o.val kv hv qv] w fun e w'=>(∃r,e= .returned (.bool r)∧(r=true→o.Fit∧∃n c,qv= .slice none n c))∧Below w.heap.size w w':=by
 obtain⟨kA,kc,rfl,_⟩:=h.key
 obtain⟨hA,hc,rfl,_⟩:=h.keys
 obtain⟨qA,qc,rfl,_⟩:=h.query
 have hF:((o.dom.length≤2147483647∧o.sel.length≤2147483647)∧∀x∈o.keys,x.length≤2147483647)∧o.keys.length≤2147483647:=by
  unfold RawO.fits at hf
  simp only [Bool.and_eq_true,decide_eq_true_eq,fitsL_iff]at hf
  exact⟨⟨⟨hf.1.1.1,hf.1.1.2.1⟩,hf.1.2.2⟩,hf.1.2.1⟩
 have Hf:=Lib.hid hf
 have hW:=words_l o hF.1
 have HIn:=Lib.hid h
 have hkr:=h.keys
 have lk1:=hF.2
 unfold RawO.val
 rw [byL,stL,stL]
 rw [stL]at hkr
 have hb1:=(Below.refl w.heap.size w).alloc (Nat.le_refl _) (.cells #[Str o.dom,Str o.sel,Str o.ident,Str o.kind, .slice kA o.key.length kc,Str o.hdr,Str o.bdy, .slice hA o.keys.length hc, .bool o.all, .int .i64 o.exp, .int .i64 o.now, .slice qA o.query.length qc] 25)
 have hx1:=RawO.blk w o (.slice kA o.key.length kc) (.slice hA o.keys.length hc) (.slice qA o.query.length qc)
 clear h hf hF
 go_enter Tryz.func8,Tryz.ntmps8
 go_upto_region 1 with fail
 obtain⟨x,Hx⟩: ∃z,Hid (z=w.heap.size):=⟨_,Lib.hid rfl⟩
 rw [←Hx.out]at hx1⊢
 generalize w.alloc (.cells #[Str o.dom,Str o.sel,Str o.ident,Str o.kind, .slice kA o.key.length kc,Str o.hdr,Str o.bdy, .slice hA o.keys.length hc, .bool o.all, .int .i64 o.exp, .int .i64 o.now, .slice qA o.query.length qc] 25)=w1 at*
 have q0:=hx1.cell 0 _ rfl
 have q1:=hx1.cell 1 _ rfl
 have hba:=(Below.refl w1.heap.size w1).alloc (Nat.le_refl _) (.cells #[Str o.dom,Str o.sel] 9)
 have hra:=OwnAt.lit w1 w1.heap.size 9 [Str o.dom,Str o.sel] (Nat.le_refl _) (by simp [maxLen])
 have hx2:=hx1.below hba hx1.lt
 have hb2:=hb1.trans (hba.mono hb1.size)
 have p7:=hx2.cell 7 _ rfl
 have hk2:=hkr.below hb2
 have hszb:=hba.size
 have hap:(o.dom::o.sel::o.keys)= [o.dom,o.sel]++o.keys:=rfl
 go_wp2_with (first|(at_builtin;refine appS rfl (.tmp 11) (.tmp 13) rfl [o.dom,o.sel] o.keys rfl hra rfl (Src.rd hk2 (by intro u hu;obtain⟨z,_,rfl⟩:=List.mem_map.1 hu;rfl)) (by simp;omega) hszb ?_;intro v3 w3 ho3 hg3 hb3 _)|fail)
 obtain⟨WL,HWL⟩: ∃z,Hid (z=o.dom::o.sel::o.keys):=⟨_,Lib.hid rfl⟩
 have ho3:OwnAt w3 w1.heap.size 9 v3 (strs (o.dom::o.sel::o.keys)):=ho3
 rw [←HWL.out]at hW ho3
 have lWL:WL.length≤2147483650:=by rw [HWL.out];simp;omega
 have hvr:=ho3.rd
 obtain⟨vA,vc,rfl,_,_⟩:=id hvr
 rw [stL]at hvr⊢
 have hb03:Below w.heap.size w w3:=hb2.trans (hb3.mono hb1.size)
 have hx3:=hx2.below hb3 hx1.lt
 have HW:=Lib.hid hW
 have hvr3:=hvr
 clear ho3 hg3 hra hba hx2 hb2 p7 hk2 hszb hap q0 q1 hkr hW hvr hb1 hb3 hx1
 go_loopw [4] (fun v4 wx=> ∃k:Nat,k≤WL.length∧v4= .int .i64 k∧Hid (∀z∈WL.take k,OkW z)∧Below w3.heap.size w3 wx) (fun v4 _=>WL.length-(intOf v4).toNat)
 case atStart=>exact⟨0,Nat.zero_le _,rfl,by intro z hz;simp at hz,Below.refl _ _⟩
 case round=>
  obtain⟨k,hk,rfl,hok,hbx⟩:=hrel
  by_cases hlt:k<WL.length
  ·have hvx:=hvr3.below hbx
   obtain⟨A',c',he,_,hn0|⟨g,off,e,_,hc⟩⟩:=id hvx
   ·exfalso
    have:WL.length=0:=by rw [←stL,hn0];rfl
    omega
   injection he with h1 h2 h3
   clear h2 h3
   subst h1
   subst e
   have hck:=hc k (Str WL[k]) (by simp [strs,hlt])
   clear hc
   have h0:(0:Int)≤(k:Int):=by omega
   have h1:(k:Int)<(WL.length:Int):=by omega
   have ln:=HW.out _ (List.getElem_mem hlt)
   have hok2:Hid (OkW WL[k]→∀z∈WL.take (k+1),OkW z):=by
    intro hx f hf
    rw [List.take_succ_eq_append_getElem hlt]at hf
    rcases List.mem_append.1 hf with hf|hf
    ·exact hok.out f hf
    ·rw [List.mem_singleton.1 hf];exact hx
   obtain⟨n,Hn⟩: ∃z,Hid (z=WL[k]):=⟨_,Lib.hid rfl⟩
   rw [←Hn.out]at hck ln hok2
   have hbw:=hb03.trans (hbx.mono hb03.size)
   clear hok
   go_wp2_with fail
   refine(dStrip_any n wr (by omega)).mono ?_
   rintro e w4 ⟨rfl,hb4⟩
   have hb04:=hbw.trans (hb4.mono hbw.size)
   obtain⟨sn,Hsn⟩: ∃z,Hid (z=strip n):=⟨_,Lib.hid rfl⟩
   rw [←Hsn.out]
   by_cases p3: ¬sn=n
   ·have p3b:(sn==n)=false:=by simpa using p3
    clear p3
    go_wp2_with fail
    go_ret
    exact⟨⟨false,rfl,fun h=>by cases h⟩,hb04⟩
   have P3:Hid (sn=n):=Classical.not_not.1 p3
   clear p3
   have p3:(sn==n)=true:=by simpa using P3.out
   by_cases p2:n= []
   ·have p2b:n.isEmpty=true:=by rw [p2];rfl
    clear p2
    go_wp2_with fail
    go_ret
    exact⟨⟨false,rfl,fun h=>by cases h⟩,hb04⟩
   have P2:=Lib.hid p2
   clear p2
   have p2:n.isEmpty=false:=by rw [List.isEmpty_eq_false_iff];exact P2.out
   go_wp2_with fail
   refine(dSplit_any n 59 w4 (by omega)).mono ?_
   rintro e w5 ⟨v5,rfl,ho5,hb5⟩
   obtain⟨A5,c5,hv5,_,_⟩:=ho5.rd
   have hb5:=hb4.trans (hb5.mono hb4.size)
   subst hv5
   rw [stL]
   clear ho5
   go_wp2_with fail
   refine(dSplit_any n 58 w5 (by omega)).mono ?_
   rintro e w6 ⟨v6,rfl,ho6,hb6⟩
   obtain⟨A6,c6,hv6,_,_⟩:=ho6.rd
   have hb6:=hb5.trans (hb6.mono hb5.size)
   subst hv6
   rw [stL]
   clear ho6
   have l59:=spL 59 n
   have l58:=spL 58 n
   have l61:=spL 61 n
   obtain⟨x59,Hx59⟩: ∃z,Hid (z=(splitAt 59 n).length):=⟨_,Lib.hid rfl⟩
   obtain⟨x58,Hx58⟩: ∃z,Hid (z=(splitAt 58 n).length):=⟨_,Lib.hid rfl⟩
   rw [←Hx59.out]at l59⊢
   rw [←Hx58.out]at l58⊢
   go_wp2_with fail
   refine(dSplit_any n 61 w6 (by omega)).mono ?_
   rintro e w7 ⟨v7,rfl,ho7,hb7⟩
   obtain⟨A7,c7,hv7,_,_⟩:=ho7.rd
   have hb7:=hb6.trans (hb7.mono hb6.size)
   have hb07:=hbw.trans (hb7.mono hbw.size)
   subst hv7
   rw [stL]
   clear ho7
   obtain⟨x61,Hx61⟩: ∃z,Hid (z=(splitAt 61 n).length):=⟨_,Lib.hid rfl⟩
   rw [←Hx61.out]at l61⊢
   by_cases p4: ¬x59+x58+x61=3
   ·have p4b: ¬((x59:Int)+(x58:Int)+(x61:Int)=3):=by omega
    clear p4
    go_wp2_with fail
    go_ret
    exact⟨⟨false,rfl,fun h=>by cases h⟩,hb07⟩
   have P4:Hid (x59+x58+x61=3):=Classical.not_not.1 p4
   clear p4
   have p4:(x59:Int)+(x58:Int)+(x61:Int)=3:=by have:=P4.out;omega
   have hokf:Hid (∀z∈WL.take (k+1),OkW z):=hok2.out ⟨by rw [←Hsn.out];exact P3.out,P2.out,by rw [←Hx59.out,←Hx58.out,←Hx61.out];exact P4.out⟩
   have hbx7:=hbx.trans (hb7.mono hbx.size)
   go_wp2_with fail
   go_roundw
   case rel=>exact⟨k+1,hlt,by go_num,hokf,hbx7⟩
   case measure=>simp [intOf];omega
  ·have hall:Hid (∀z∈o.dom::o.sel::o.keys,OkW z):=by
    show∀z∈_,_
    rw [←HWL.out]
    have:=hok.out
    rw [List.take_of_length_le (by omega)]at this
    exact this
   have hbw:=hb03.trans (hbx.mono hb03.size)
   have hx4:=hx3.below hbx hx3.lt
   clear hok hx3 hb03 hvr3
   go_upto_region 9 with fail
   have q0:=hx4.cell 0 _ rfl
   have q1:=hx4.cell 1 _ rfl
   have q2:=hx4.cell 2 _ rfl
   have q3:=hx4.cell 3 _ rfl
   have q4:=hx4.cell 4 _ rfl
   have q5:=hx4.cell 5 _ rfl
   have q6:=hx4.cell 6 _ rfl
   have q7:=hx4.cell 7 _ rfl
   have q8:=hx4.cell 8 _ rfl
   have q9:=hx4.cell 9 _ rfl
   have q10:=hx4.cell 10 _ rfl
   have q11:=hx4.cell 11 _ rfl
   have hin33:=HIn.out.below hbw
   have h33:=dOptions_any o _ _ _ wr hin33 Hf.out
   unfold RawO.val at h33
   rw [byL,stL,stL]at h33
   clear hin33
   go_wp2_with fail
   refine h33.mono ?_
   rintro e w5 ⟨⟨r1,rfl,H1⟩,hb5⟩
   have H1:=Lib.hid H1
   have hbw5:=hbw.trans (hb5.mono hbw.size)
   have hx5:=hx4.below hb5 hx4.lt
   clear h33
   clear q0 q1 q2 q3 q4 q5 q6 q7 q8 q9 q10 q11
   cases r1
   ·go_wp2_with fail
    go_ret
    exact⟨⟨false,rfl,fun h=>by cases h⟩,hbw5⟩
   have q0:=hx5.cell 0 _ rfl
   have q1:=hx5.cell 1 _ rfl
   have q2:=hx5.cell 2 _ rfl
   have q3:=hx5.cell 3 _ rfl
   have q4:=hx5.cell 4 _ rfl
   have q5:=hx5.cell 5 _ rfl
   have q6:=hx5.cell 6 _ rfl
   have q7:=hx5.cell 7 _ rfl
   have q8:=hx5.cell 8 _ rfl
   have q9:=hx5.cell 9 _ rfl
   have q10:=hx5.cell 10 _ rfl
   have q11:=hx5.cell 11 _ rfl
   have hin34:=HIn.out.below hbw5
   have h34:=dKeyed_any o _ _ _ w5 hin34
   unfold RawO.val at h34
   rw [byL,stL,stL]at h34
   clear hin34
   go_wp2_with fail
   refine h34.mono ?_
   rintro e w6 ⟨⟨r2,rfl,H2⟩,hb6⟩
   have H2:=Lib.hid H2
   have hbw6:=hbw5.trans (hb6.mono hbw5.size)
   have hx6:=hx5.below hb6 hx5.lt
   clear h34
   clear q0 q1 q2 q3 q4 q5 q6 q7 q8 q9 q10 q11
   cases r2
   ·go_wp2_with fail
    go_ret
    exact⟨⟨false,rfl,fun h=>by cases h⟩,hbw6⟩
   have q0:=hx6.cell 0 _ rfl
   have q1:=hx6.cell 1 _ rfl
   have q2:=hx6.cell 2 _ rfl
   have q3:=hx6.cell 3 _ rfl
   have q4:=hx6.cell 4 _ rfl
   have q5:=hx6.cell 5 _ rfl
   have q6:=hx6.cell 6 _ rfl
   have q7:=hx6.cell 7 _ rfl
   have q8:=hx6.cell 8 _ rfl
   have q9:=hx6.cell 9 _ rfl
   have q10:=hx6.cell 10 _ rfl
   have q11:=hx6.cell 11 _ rfl
   have hin14:=HIn.out.below hbw6
   have h14:=dNames14_any o (.slice kA (byts o.key).length kc) _ (.slice qA (strs o.query).length qc) dkimS w6 hin14.keys ⟨_,_,_,rfl⟩ ⟨_,_,_,rfl⟩ (fun k hk=>by have:=HW.out k (by rw [HWL.out];simp [hk]);omega) (by omega)
   unfold RawO.val at h14
   rw [byL,stL,stL]at h14
   clear hin14
   go_wp2_with fail
   refine h14.mono ?_
   obtain⟨r3,Hr3⟩: ∃z,Hid (z=o.keys.any fun k=>lower k==dkimS):=⟨_,Lib.hid rfl⟩
   rw [←Hr3.out]
   rintro e w7 ⟨rfl,hb7⟩
   have hbw7:=hbw6.trans (hb7.mono hbw6.size)
   have hx7:=hx6.below hb7 hx6.lt
   clear h14
   clear q0 q1 q2 q3 q4 q5 q6 q7 q8 q9 q10 q11
   cases r3
   rotate_left
   ·go_wp2_with fail
    go_ret
    exact⟨⟨false,rfl,fun h=>by cases h⟩,hbw7⟩
   have q0:=hx7.cell 0 _ rfl
   have q1:=hx7.cell 1 _ rfl
   have q2:=hx7.cell 2 _ rfl
   have q3:=hx7.cell 3 _ rfl
   have q4:=hx7.cell 4 _ rfl
   have q5:=hx7.cell 5 _ rfl
   have q6:=hx7.cell 6 _ rfl
   have q7:=hx7.cell 7 _ rfl
   have q8:=hx7.cell 8 _ rfl
   have q9:=hx7.cell 9 _ rfl
   have q10:=hx7.cell 10 _ rfl
   have q11:=hx7.cell 11 _ rfl
   have e31: ∀(args:Array Value) (w:World),(callFunc 31 args).run Tryz.prog w= .ok (.enter 31 args) w:=fun args w=>by kernel_rfl
   go_wp2_with fail
   refine(known31_any o.hdr w7).mono ?_
   obtain⟨r4,H4⟩: ∃z,Hid (z=(o.hdr== []||(o.hdr==simpleS||o.hdr==relaxedS))):=⟨_,Lib.hid rfl⟩
   rw [←H4.out]
   rintro e w8 ⟨rfl,rfl⟩
   cases r4
   ·go_wp2_with fail
    go_ret
    exact⟨⟨false,rfl,fun h=>by cases h⟩,hbw7⟩
   go_wp2_with fail
   refine(known31_any o.bdy _).mono ?_
   obtain⟨r5,H5⟩: ∃z,Hid (z=(o.bdy== []||(o.bdy==simpleS||o.bdy==relaxedS))):=⟨_,Lib.hid rfl⟩
   rw [←H5.out]
   rintro e w8 ⟨rfl,rfl⟩
   cases r5
   ·go_wp2_with fail
    go_ret
    exact⟨⟨false,rfl,fun h=>by cases h⟩,hbw7⟩
   have hqn: ∀z,(binOp .eql 23 (.slice qA o.query.length qc) (.slice none 0 0)).run Tryz.prog z= .ok (.bool qA.isNone) z:=fun z=>Lib.run_eql_slice_nil z 23 9 qA _ _ 0 0 Tryz.underlying23
   obtain⟨r6,Hr6⟩: ∃z,Hid (z=qA.isNone):=⟨_,Lib.hid rfl⟩
   rw [←Hr6.out]at hqn
   have ld:o.dom.length≤2147483647:=HW.out o.dom (by rw [HWL.out];simp)
   cases r6
   ·go_wp2_with fail
    go_ret
    first
     |exact⟨⟨false,rfl,fun h=>by cases h⟩,hbw7⟩
     |exact⟨.inl rfl,hbw7⟩
   have hI:(o.ident.isEmpty=true∧Hid (o.ident= []∨o.ident=64::o.dom∨o.ident=joeS++o.dom))∨(o.ident.isEmpty=false∧(o.ident==64::o.dom)=true∧Hid (o.ident= []∨o.ident=64::o.dom∨o.ident=joeS++o.dom))∨
    (o.ident.isEmpty=false∧(o.ident==64::o.dom)=false∧(o.ident==106::111::101::64::115::117::98::46::o.dom)=true∧Hid (o.ident= []∨o.ident=64::o.dom∨o.ident=joeS++o.dom))∨(o.ident.isEmpty=false∧(o.ident==64::o.dom)=false∧(o.ident==106::111::101::64::115::117::98::46::o.dom)=false):=by
    by_cases h1:o.ident= []
    ·exact .inl ⟨by rw [h1];rfl, .inl h1⟩
    ·have h1':o.ident.isEmpty=false:=by rw [List.isEmpty_eq_false_iff];exact h1
     by_cases h2:o.ident=64::o.dom
     ·exact .inr (.inl ⟨h1',by simpa using h2, .inr (.inl h2)⟩)
     ·have h2':(o.ident==64::o.dom)=false:=by simpa using h2
      by_cases h3:o.ident=106::111::101::64::115::117::98::46::o.dom
      ·exact .inr (.inr (.inl ⟨h1',h2',by simpa using h3, .inr (.inr h3)⟩))
      ·exact .inr (.inr (.inr ⟨h1',h2',by simpa using h3⟩))
   have hE:((o.exp==0)=true∧Hid (o.exp=0∨o.now≤o.exp))∨((o.exp==0)=false∧o.now≤o.exp∧Hid (o.exp=0∨o.now≤o.exp))∨((o.exp==0)=false∧¬o.now≤o.exp):=by
    by_cases h1:o.exp=0
    ·exact .inl ⟨by simpa using h1, .inl h1⟩
    ·by_cases h2:o.now≤o.exp
     ·exact .inr (.inl ⟨by simpa using h1,h2, .inr h2⟩)
     ·exact .inr (.inr ⟨by simpa using h1,h2⟩)
   have HQ:Hid (∃n c,(.slice qA o.query.length qc:Value)= .slice none n c):=by
    have:=Hr6.out
    cases hq:qA with
    |none=>exact⟨_,_,rfl⟩
    |some a=>rw [hq]at this;cases this
   have HF:Hid ((o.ident= []∨o.ident=64::o.dom∨o.ident=joeS++o.dom)→(o.exp=0∨o.now≤o.exp)→o.Fit):=fun a b=>⟨hall.out,H1.out trivial,H2.out trivial,Hr3.out.symm,H4.out.symm,H5.out.symm,a,b⟩
   clear Hr6 hall H1 H2 Hr3 H4 H5 HIn Hf
   obtain⟨i1,HI⟩|⟨i1,i2,HI⟩|⟨i1,i2,i3,HI⟩|⟨i1,i2,i3⟩:=hI
   ·obtain⟨x1,HX⟩|⟨x1,x2,HX⟩|⟨x1,x2⟩:=hE
    ·go_wp2_with fail
     go_ret
     first
      |exact⟨⟨true,rfl,fun _=>⟨HF.out HI.out HX.out,HQ.out⟩⟩,hbw7⟩
      |exact⟨⟨_,rfl,fun _=>⟨HF.out HI.out HX.out,HQ.out⟩⟩,hbw7⟩
      |exact⟨.inr ⟨rfl,HF.out HI.out HX.out,HQ.out⟩,hbw7⟩
    ·go_wp2_with fail
     go_ret
     first
      |exact⟨⟨true,rfl,fun _=>⟨HF.out HI.out HX.out,HQ.out⟩⟩,hbw7⟩
      |exact⟨⟨_,rfl,fun _=>⟨HF.out HI.out HX.out,HQ.out⟩⟩,hbw7⟩
      |exact⟨.inr ⟨rfl,HF.out HI.out HX.out,HQ.out⟩,hbw7⟩
    ·go_wp2_with fail
     go_ret
     first
      |exact⟨⟨false,rfl,fun h=>by cases h⟩,hbw7⟩
      |exact⟨⟨_,rfl,fun h=>by have:=of_decide_eq_true h;omega⟩,hbw7⟩
      |exact⟨.inl rfl,hbw7⟩
   ·obtain⟨x1,HX⟩|⟨x1,x2,HX⟩|⟨x1,x2⟩:=hE
    ·go_wp2_with fail
     go_ret
     first
      |exact⟨⟨true,rfl,fun _=>⟨HF.out HI.out HX.out,HQ.out⟩⟩,hbw7⟩
      |exact⟨⟨_,rfl,fun _=>⟨HF.out HI.out HX.out,HQ.out⟩⟩,hbw7⟩
      |exact⟨.inr ⟨rfl,HF.out HI.out HX.out,HQ.out⟩,hbw7⟩
    ·go_wp2_with fail
     go_ret
     first
      |exact⟨⟨true,rfl,fun _=>⟨HF.out HI.out HX.out,HQ.out⟩⟩,hbw7⟩
      |exact⟨⟨_,rfl,fun _=>⟨HF.out HI.out HX.out,HQ.out⟩⟩,hbw7⟩
      |exact⟨.inr ⟨rfl,HF.out HI.out HX.out,HQ.out⟩,hbw7⟩
    ·go_wp2_with fail
     go_ret
     first
      |exact⟨⟨false,rfl,fun h=>by cases h⟩,hbw7⟩
      |exact⟨⟨_,rfl,fun h=>by have:=of_decide_eq_true h;omega⟩,hbw7⟩
      |exact⟨.inl rfl,hbw7⟩
   ·obtain⟨x1,HX⟩|⟨x1,x2,HX⟩|⟨x1,x2⟩:=hE
    ·go_wp2_with fail
     go_ret
     first
      |exact⟨⟨true,rfl,fun _=>⟨HF.out HI.out HX.out,HQ.out⟩⟩,hbw7⟩
      |exact⟨⟨_,rfl,fun _=>⟨HF.out HI.out HX.out,HQ.out⟩⟩,hbw7⟩
      |exact⟨.inr ⟨rfl,HF.out HI.out HX.out,HQ.out⟩,hbw7⟩
    ·go_wp2_with fail
     go_ret
     first
      |exact⟨⟨true,rfl,fun _=>⟨HF.out HI.out HX.out,HQ.out⟩⟩,hbw7⟩
      |exact⟨⟨_,rfl,fun _=>⟨HF.out HI.out HX.out,HQ.out⟩⟩,hbw7⟩
      |exact⟨.inr ⟨rfl,HF.out HI.out HX.out,HQ.out⟩,hbw7⟩
    ·go_wp2_with fail
     go_ret
     first
      |exact⟨⟨false,rfl,fun h=>by cases h⟩,hbw7⟩
      |exact⟨⟨_,rfl,fun h=>by have:=of_decide_eq_true h;omega⟩,hbw7⟩
      |exact⟨.inl rfl,hbw7⟩
   ·clear hE
    go_wp2_with fail
    go_ret
    first
     |exact⟨⟨false,rfl,fun h=>by cases h⟩,hbw7⟩
     |exact⟨.inl rfl,hbw7⟩
theorem strNew_blk (s:BS)(w:World):
 Calls Tryz.prog 49 #[Str s] w fun e w'=>e= .returned (.pointer (some ⟨w.heap.size,0,none⟩))∧Below w.heap.size w w'∧w.heap.size<w'.heap.size∧∃p,Blk w' w.heap.size 132 [Str s, .int .i64 0, .int .i64 p]:=by
 go_enter Tryz.func49,Tryz.ntmps49
 go_wp2_with fail
 go_ret
 exact⟨rfl,(Below.refl _ w).alloc (Nat.le_refl _) _,by simp,_,Blk.new w 132 #[Str s, .int .i64 0, .int .i64 (-1)]⟩
def DSignPost (w:World)(o:Opt)(m:BS)(F:List BS)(body:BS)(e:Ending)(w':World):Prop:=
 ((signsFrom o∧e= .returned (.tuple #[Str (signed o F body++m), .bool true]))∨(¬signsFrom o∧e= .returned (.tuple #[Str [], .bool false])))∧Below w.heap.size w w'
theorem dSign_any (B:Nat)(o:Opt)(kv hv:Value)(m:BS)(F:List BS)(body:BS)(w:World)(hG:Glo B w)(hO:OptOk o)(hk:Rd w kv (byts o.key))(hkl: ∀k,kv.ownBlock=some k→k<w.heap.size)(hh:Rd w hv (strs o.keys))(hM:MsgOk m F body)(hm:m.length≤100000)(hm0:m≠ []):
 Calls Tryz.prog 37 #[optV o kv hv (.slice none 0 0),Str m] w (DSignPost w o m F body):=by
 obtain⟨KA,KC,rfl,_⟩:=id hk
 obtain⟨HA,HC,rfl,_⟩:=id hh
 rw [byL,stL]at*
 have hbA:=(Below.refl w.heap.size w).alloc (Nat.le_refl _) (.cells #[Str o.dom,Str o.sel,Str o.ident,Str o.kind, .slice KA o.key.length KC,Str o.hdr,Str o.bdy, .slice HA o.keys.length HC, .bool o.all, .int .i64 o.exp, .int .i64 o.now, .slice none 0 0] 25)
 have hx:=Blk.new w 25 #[Str o.dom,Str o.sel,Str o.ident,Str o.kind, .slice KA o.key.length KC,Str o.hdr,Str o.bdy, .slice HA o.keys.length HC, .bool o.all, .int .i64 o.exp, .int .i64 o.now, .slice none 0 0]
 simp only [Array.toList]at hx
 have hb:=Blk.new (w.alloc (.cells #[Str o.dom,Str o.sel,Str o.ident,Str o.kind, .slice KA o.key.length KC,Str o.hdr,Str o.bdy, .slice HA o.keys.length HC, .bool o.all, .int .i64 o.exp, .int .i64 o.now, .slice none 0 0] 25)) 72 #[.pointer none, .slice none 0 0]
 have hx1:=hx.alloc (.cells #[.pointer none, .slice none 0 0] 72)
 have hb1:=hbA.alloc hbA.size (.cells #[.pointer none, .slice none 0 0] 72)
 have hs:(w.alloc (.cells #[Str o.dom,Str o.sel,Str o.ident,Str o.kind, .slice KA o.key.length KC,Str o.hdr,Str o.bdy, .slice HA o.keys.length HC, .bool o.all, .int .i64 o.exp, .int .i64 o.now, .slice none 0 0] 25)).heap.size=w.heap.size+1:=by simp
 rw [hs]at hb
 have hs2:((w.alloc (.cells #[Str o.dom,Str o.sel,Str o.ident,Str o.kind, .slice KA o.key.length KC,Str o.hdr,Str o.bdy, .slice HA o.keys.length HC, .bool o.all, .int .i64 o.exp, .int .i64 o.now, .slice none 0 0] 25)).alloc (.cells #[.pointer none, .slice none 0 0] 72)).heap.size=w.heap.size+2:=by simp
 simp only [Array.toList]at hb
 obtain⟨x,hxn⟩: ∃x,Hid (x=w.heap.size):=⟨_,Lib.hid rfl⟩
 have hBw:=hG.le
 unfold optV
 go_enter Tryz.func37,Tryz.ntmps37
 go_wp2_with fail
 rw [←hxn.out]at hx1 hb hs2⊢
 generalize((w.alloc (.cells #[Str o.dom,Str o.sel,Str o.ident,Str o.kind, .slice KA o.key.length KC,Str o.hdr,Str o.bdy, .slice HA o.keys.length HC, .bool o.all, .int .i64 o.exp, .int .i64 o.now, .slice none 0 0] 25)).alloc (.cells #[.pointer none, .slice none 0 0] 72))=w1 at*
 clear hx hs hbA
 have hk1:=hk.below hb1
 have hh1:=hh.below hb1
 have c0:=hx1.cell 0 _ rfl
 have c1:=hx1.cell 1 _ rfl
 have c2:=hx1.cell 2 _ rfl
 have c3:=hx1.cell 3 _ rfl
 have c4:=hx1.cell 4 _ rfl
 have c5:=hx1.cell 5 _ rfl
 have c6:=hx1.cell 6 _ rfl
 have c7:=hx1.cell 7 _ rfl
 have c8:=hx1.cell 8 _ rfl
 have c9:=hx1.cell 9 _ rfl
 have c10:=hx1.cell 10 _ rfl
 have c11:=hx1.cell 11 _ rfl
 have hc49:Calls Tryz.prog 49 #[Str m] w1.drew fun e w2=>e= .returned (.pointer (some ⟨w1.heap.size,0,none⟩))∧Below w1.heap.size w1 w2∧w1.heap.size<w2.heap.size∧∃p,Blk w2 w1.heap.size 132 [Str m, .int .i64 0, .int .i64 p]:=by
  refine(strNew_blk m w1.drew).mono ?_
  rintro e w2 ⟨rfl,h1,h2,p,h3⟩
  exact⟨rfl,⟨h1.os,h1.tape,h1.output,h1.size,h1.block⟩,h2,p,h3⟩
 have hc50: ∀w2,Rd w2 (.slice KA o.key.length KC) (byts o.key)→Rd w2 (.slice HA o.keys.length HC) (strs o.keys)→Calls Tryz.prog 50 #[.agg #[Str o.dom,Str o.sel,Str o.ident,Str o.kind, .slice KA o.key.length KC,Str o.hdr,Str o.bdy, .slice HA o.keys.length HC, .bool o.all, .int .i64 o.exp, .int .i64 o.now, .slice none 0 0]] w2 (OptPost w2 o (.slice KA o.key.length KC)):=fun w2 h1 h2=>by
  have h:=optionsOf_any o (.slice KA o.key.length KC) (.slice HA o.keys.length HC) w2 hO h1 h2
  unfold optV at h
  exact h
 have hc48: ∀(w2 w3:World) (op:Nat) (ksv:Value) (p:Int),Below w1.heap.size w1 w2→w1.heap.size<w2.heap.size→Blk w2 w1.heap.size 132 [Str m, .int .i64 0, .int .i64 p]→Below w2.heap.size w2 w3→Blk w3 op 137 (optCells o (.slice KA o.key.length KC) ksv)→KeysIn w3 o ksv→w2.heap.size≤op→(∀k,ksv.ownBlock=some k→w2.heap.size≤k∧k<w3.heap.size∧k≠op)→
  Calls Tryz.prog 48 #[.iface 70 (.pointer (some ⟨x+1,0,none⟩)), .iface 76 (.pointer (some ⟨x+2,0,none⟩)), .pointer (some ⟨op,0,none⟩)] w3 (Sgn48Post w3 (x+1) (x+1) o m F body):=by
  intro w2 w3 op ksv p hb2 hsz2 hh2 hb3 hop hks hopl hksl
  have hxo:=hxn.out
  have hs12:=hb1.size
  have hs3:=hb3.size
  have hb2':=hb1.trans (hb2.mono hb1.size)
  have hb3':=hb2'.trans (hb3.mono (by omega))
  rw [←hs2]
  exact sign48_any B (x+1) (x+1) w1.heap.size op o (.slice KA o.key.length KC) ksv p m F body w3 (hG.below (hb3'.mono hBw)) (by omega) hop ((hb.below hb2 (by omega)).below hb3 (by omega)) (hh2.below hb3 hsz2) (by omega) (by omega) (by omega) ⟨by omega,by omega,by omega⟩ (((hk.below hb1).below hb2).below hb3) (fun k hk=>by have:=hkl k hk;omega) hks (fun k hk=>by have:=hksl k hk;exact⟨this.2.1,by omega,by omega⟩) hO hM hm hm0
 have hcl: ∀ww,Blk ww x 25 [Str o.dom,Str o.sel,Str o.ident,Str o.kind, .slice KA o.key.length KC,Str o.hdr,Str o.bdy, .slice HA o.keys.length HC, .bool o.all, .int .i64 o.exp, .int .i64 o.now, .slice none 0 0]→ww.cell? ⟨x,0,none⟩=some (Str o.dom)∧ww.cell? ⟨x,1,none⟩=some (Str o.sel)∧ww.cell? ⟨x,2,none⟩=some (Str o.ident)∧ww.cell? ⟨x,3,none⟩=some (Str o.kind)∧ww.cell? ⟨x,4,none⟩=some (.slice KA o.key.length KC)∧ww.cell? ⟨x,5,none⟩=some (Str o.hdr)∧ww.cell? ⟨x,6,none⟩=some (Str o.bdy)∧ww.cell? ⟨x,7,none⟩=some (.slice HA o.keys.length HC)∧ww.cell? ⟨x,8,none⟩=some (.bool o.all)∧ww.cell? ⟨x,9,none⟩=some (.int .i64 o.exp)∧ww.cell? ⟨x,10,none⟩=some (.int .i64 o.now)∧ww.cell? ⟨x,11,none⟩=some (.slice none 0 0):=fun ww h=>⟨h.cell 0 _ rfl,h.cell 1 _ rfl,h.cell 2 _ rfl,h.cell 3 _ rfl,h.cell 4 _ rfl,h.cell 5 _ rfl,h.cell 6 _ rfl,h.cell 7 _ rfl,h.cell 8 _ rfl,h.cell 9 _ rfl,h.cell 10 _ rfl,h.cell 11 _ rfl⟩
 by_cases hsf:signsFrom o
 ·go_region_held3 (fun ww=>ww.cell? ⟨x,0,none⟩=some (Str o.dom)∧ww.cell? ⟨x,1,none⟩=some (Str o.sel)∧ww.cell? ⟨x,2,none⟩=some (Str o.ident)∧ww.cell? ⟨x,3,none⟩=some (Str o.kind)∧ww.cell? ⟨x,4,none⟩=some (.slice KA o.key.length KC)∧ww.cell? ⟨x,5,none⟩=some (Str o.hdr)∧ww.cell? ⟨x,6,none⟩=some (Str o.bdy)∧ww.cell? ⟨x,7,none⟩=some (.slice HA o.keys.length HC)∧ww.cell? ⟨x,8,none⟩=some (.bool o.all)∧ww.cell? ⟨x,9,none⟩=some (.int .i64 o.exp)∧ww.cell? ⟨x,10,none⟩=some (.int .i64 o.now)∧ww.cell? ⟨x,11,none⟩=some (.slice none 0 0))
   (first|exact hcl _ hx4|exact hcl _ hx3|exact hcl _ hx2|go_keep)
   (first
     |(go_at_call 49;refine hc49.mono ?_;rintro e w2 ⟨he,hb2,hsz2,p,hh2⟩;subst he;have hk2:=hk1.below hb2;have hhk2:=hh1.below hb2;have hbb2:=hb.below hb2 (by omega);have hb2':=hb1.trans (hb2.mono hb1.size);have hx2:=hx1.below hb2 (by omega))
     |(go_at_call 50;refine(hc50 _ hk2 hhk2).mono ?_;rintro e w3 ⟨op,ksv,he,hop,hks,hopl,hksl,hb3⟩;subst he;have hx3:=hx2.below hb3 (by omega))
     |(go_at_call 48;refine(hc48 w2 _ op ksv p hb2 hsz2 hh2 hb3 hop hks hopl hksl).mono ?_;rintro e w4 ⟨⟨_,he,v4,hld⟩|⟨hq,_⟩,hb4⟩;rotate_left;exact absurd hsf hq;subst he;have hx4:=hx3.below hb4 (by omega))
     |fail)
  go_wp2_with fail
  have hw0:=hb1.size
  have hxo:=hxn.out
  have hb3':=hb2'.trans (hb3.mono (by have:=hb2'.size;omega))
  have hb4':=hb3'.trans (hb4.mono (by omega))
  refine(bldString_any (x+1) (x+1) v4 (signed o F body++m) w4 hld (by simp [hm0])).mono ?_
  rintro e5 w5 ⟨rfl,hb5⟩
  go_wp2_with fail
  go_ret2
  exact⟨.inl ⟨hsf,rfl⟩,hb4'.trans (hb5.mono (by omega))⟩
 ·go_region_held3 (fun ww=>ww.cell? ⟨x,0,none⟩=some (Str o.dom)∧ww.cell? ⟨x,1,none⟩=some (Str o.sel)∧ww.cell? ⟨x,2,none⟩=some (Str o.ident)∧ww.cell? ⟨x,3,none⟩=some (Str o.kind)∧ww.cell? ⟨x,4,none⟩=some (.slice KA o.key.length KC)∧ww.cell? ⟨x,5,none⟩=some (Str o.hdr)∧ww.cell? ⟨x,6,none⟩=some (Str o.bdy)∧ww.cell? ⟨x,7,none⟩=some (.slice HA o.keys.length HC)∧ww.cell? ⟨x,8,none⟩=some (.bool o.all)∧ww.cell? ⟨x,9,none⟩=some (.int .i64 o.exp)∧ww.cell? ⟨x,10,none⟩=some (.int .i64 o.now)∧ww.cell? ⟨x,11,none⟩=some (.slice none 0 0))
   (first|exact hcl _ hx4|exact hcl _ hx3|exact hcl _ hx2|go_keep)
   (first
     |(go_at_call 49;refine hc49.mono ?_;rintro e w2 ⟨he,hb2,hsz2,p,hh2⟩;subst he;have hk2:=hk1.below hb2;have hhk2:=hh1.below hb2;have hbb2:=hb.below hb2 (by omega);have hb2':=hb1.trans (hb2.mono hb1.size);have hx2:=hx1.below hb2 (by omega))
     |(go_at_call 50;refine(hc50 _ hk2 hhk2).mono ?_;rintro e w3 ⟨op,ksv,he,hop,hks,hopl,hksl,hb3⟩;subst he;have hx3:=hx2.below hb3 (by omega))
     |(go_at_call 48;refine(hc48 w2 _ op ksv p hb2 hsz2 hh2 hb3 hop hks hopl hksl).mono ?_;rintro e w4 ⟨⟨hq,_⟩|⟨_,a,he⟩,hb4⟩;exact absurd hq hsf;subst he;have hx4:=hx3.below hb4 (by omega))
     |fail)
  go_wp2_with fail
  have hxo:=hxn.out
  have hb3':=hb2'.trans (hb3.mono (by have:=hb2'.size;omega))
  have hb4':=hb3'.trans (hb4.mono (by omega))
  go_ret2
  exact⟨.inr ⟨hsf,rfl⟩,hb4'⟩
def recordOf (o:Opt):BS:= [118,61,68,75,73,77,49,59,32,107,61]++o.kind++ [59,32,112,61]++enc64 o.key
def PubPost (w:World)(o:Opt)(e:Ending)(w':World):Prop:=e= .returned (Str (recordOf o))∧Below w.heap.size w w'
theorem dPublic_any (o:Opt)(kv hv qv:Value)(w:World)(hk:Rd w kv (byts o.key))(hkl:o.key.length≤1000000)(hkd:o.kind.length≤1000000)(hv1: ∃A n c,hv= .slice A n c)(hq1: ∃A n c,qv= .slice A n c):
 Calls Tryz.prog 17 #[optV o kv hv qv] w (PubPost w o):=by
 obtain⟨KA,KC,rfl,_⟩:=id hk
 obtain⟨HA,Hn,HC,rfl⟩:=hv1
 obtain⟨QA,Qn,QC,rfl⟩:=hq1
 rw [byL]at*
 have hbA:=(Below.refl w.heap.size w).alloc (Nat.le_refl _) (.cells #[Str o.dom,Str o.sel,Str o.ident,Str o.kind, .slice KA o.key.length KC,Str o.hdr,Str o.bdy, .slice HA Hn HC, .bool o.all, .int .i64 o.exp, .int .i64 o.now, .slice QA Qn QC] 25)
 have hx:=Blk.new w 25 #[Str o.dom,Str o.sel,Str o.ident,Str o.kind, .slice KA o.key.length KC,Str o.hdr,Str o.bdy, .slice HA Hn HC, .bool o.all, .int .i64 o.exp, .int .i64 o.now, .slice QA Qn QC]
 simp only [Array.toList]at hx
 have hk1:=hk.below hbA
 have hc:=encode_any o.key (.slice KA o.key.length KC) ((w.alloc (.cells #[Str o.dom,Str o.sel,Str o.ident,Str o.kind, .slice KA o.key.length KC,Str o.hdr,Str o.bdy, .slice HA Hn HC, .bool o.all, .int .i64 o.exp, .int .i64 o.now, .slice QA Qn QC] 25))).drew (by exact hk1) (by omega)
 have lE:(enc64 o.key).length≤2000000:=by rw [enc_len];omega
 obtain⟨x,hxn⟩: ∃x,Hid (x=w.heap.size):=⟨_,Lib.hid rfl⟩
 unfold optV
 go_enter Tryz.func17,Tryz.ntmps17
 go_wp2_with fail
 rw [←hxn.out]at hx⊢
 generalize(w.alloc (.cells #[Str o.dom,Str o.sel,Str o.ident,Str o.kind, .slice KA o.key.length KC,Str o.hdr,Str o.bdy, .slice HA Hn HC, .bool o.all, .int .i64 o.exp, .int .i64 o.now, .slice QA Qn QC] 25))=w1 at*
 have c3:=hx.cell 3 _ rfl
 have c4:=hx.cell 4 _ rfl
 have hxl:=hx.lt
 have hc:Calls Tryz.prog 40 #[.slice KA o.key.length KC] w1.drew fun e w'=>e= .returned (Str (enc64 o.key))∧Below w1.heap.size w1 w':=hc.mono (by rintro e w' ⟨rfl,h1⟩;exact⟨rfl,⟨h1.os,h1.tape,h1.output,h1.size,h1.block⟩⟩)
 have n1: ¬9223372036854775807<11+o.kind.length:=by omega
 have n2: ¬9223372036854775807<o.kind.length+1+1+1+1+1+1+1+1+1+1+1+4:=by omega
 have n3: ¬9223372036854775807<o.kind.length+4+1+1+1+1+1+1+1+1+1+1+1+(enc64 o.key).length:=by omega
 go_region_held3 (fun ww=>ww.cell? ⟨x,3,none⟩=some (Str o.kind)∧ww.cell? ⟨x,4,none⟩=some (.slice KA o.key.length KC))
  (first|go_keep|exact⟨bcell hb2 c3,bcell hb2 c4⟩)
  (first|(go_at_call 40;refine hc.mono ?_;rintro e w2 ⟨he,hb2⟩;subst he)|fail)
 all_goals(first|(exfalso;omega)|(go_wp2_with fail;go_ret;exact⟨by simp [recordOf],hbA.trans (hb2.mono hbA.size)⟩))
def DSealPost (w:World)(o:Opt)(m:BS)(F:List BS)(body:BS)(e:Ending)(w':World):Prop:=
 (∃s is r q,e= .returned (.tuple #[Str s, .slice (some ⟨r,0,none⟩) 1 1, .bool is])∧((signsFrom o∧s=signed o F body++m∧is=true)∨(¬signsFrom o∧s= []∧is=false))∧
   Blk w' r 39 [Str (o.sel++dkS++o.dom), .slice (some ⟨q,0,none⟩) 1 1, .bool false, .bool false]∧Blk w' q 9 [Str (recordOf o)]∧r≠q∧w.heap.size≤r∧w.heap.size≤q)∧Below w.heap.size w w'
theorem dSealed_any (B:Nat)(o:Opt)(kv hv:Value)(m:BS)(F:List BS)(body:BS)(w:World)(hG:Glo B w)(hO:OptOk o)(hk:Rd w kv (byts o.key))(hkl: ∀k,kv.ownBlock=some k→k<w.heap.size)(hh:Rd w hv (strs o.keys))(hM:MsgOk m F body)(hm:m.length≤100000)(hm0:m≠ []):
 Calls Tryz.prog 12 #[optV o kv hv (.slice none 0 0),Str m] w (DSealPost w o m F body):=by
 obtain⟨KA,KC,rfl,_⟩:=id hk
 obtain⟨HA,HC,rfl,_⟩:=id hh
 rw [byL,stL]at*
 have hbA:=(Below.refl w.heap.size w).alloc (Nat.le_refl _) (.cells #[Str o.dom,Str o.sel,Str o.ident,Str o.kind, .slice KA o.key.length KC,Str o.hdr,Str o.bdy, .slice HA o.keys.length HC, .bool o.all, .int .i64 o.exp, .int .i64 o.now, .slice none 0 0] 25)
 have hx:=Blk.new w 25 #[Str o.dom,Str o.sel,Str o.ident,Str o.kind, .slice KA o.key.length KC,Str o.hdr,Str o.bdy, .slice HA o.keys.length HC, .bool o.all, .int .i64 o.exp, .int .i64 o.now, .slice none 0 0]
 simp only [Array.toList]at hx
 obtain⟨x,hxn⟩: ∃x,Hid (x=w.heap.size):=⟨_,Lib.hid rfl⟩
 have hBw:=hG.le
 have hcl: ∀ww,Blk ww x 25 [Str o.dom,Str o.sel,Str o.ident,Str o.kind, .slice KA o.key.length KC,Str o.hdr,Str o.bdy, .slice HA o.keys.length HC, .bool o.all, .int .i64 o.exp, .int .i64 o.now, .slice none 0 0]→ww.cell? ⟨x,0,none⟩=some (Str o.dom)∧ww.cell? ⟨x,1,none⟩=some (Str o.sel)∧ww.cell? ⟨x,2,none⟩=some (Str o.ident)∧ww.cell? ⟨x,3,none⟩=some (Str o.kind)∧ww.cell? ⟨x,4,none⟩=some (.slice KA o.key.length KC)∧ww.cell? ⟨x,5,none⟩=some (Str o.hdr)∧ww.cell? ⟨x,6,none⟩=some (Str o.bdy)∧ww.cell? ⟨x,7,none⟩=some (.slice HA o.keys.length HC)∧ww.cell? ⟨x,8,none⟩=some (.bool o.all)∧ww.cell? ⟨x,9,none⟩=some (.int .i64 o.exp)∧ww.cell? ⟨x,10,none⟩=some (.int .i64 o.now)∧ww.cell? ⟨x,11,none⟩=some (.slice none 0 0):=fun ww h=>⟨h.cell 0 _ rfl,h.cell 1 _ rfl,h.cell 2 _ rfl,h.cell 3 _ rfl,h.cell 4 _ rfl,h.cell 5 _ rfl,h.cell 6 _ rfl,h.cell 7 _ rfl,h.cell 8 _ rfl,h.cell 9 _ rfl,h.cell 10 _ rfl,h.cell 11 _ rfl⟩
 have hc37: ∀w1,Glo B w1→Below w.heap.size w w1→Calls Tryz.prog 37 #[.agg #[Str o.dom,Str o.sel,Str o.ident,Str o.kind, .slice KA o.key.length KC,Str o.hdr,Str o.bdy, .slice HA o.keys.length HC, .bool o.all, .int .i64 o.exp, .int .i64 o.now, .slice none 0 0],Str m] w1 (DSignPost w1 o m F body):=fun w1 h1 hb=>by
  have h:=dSign_any B o (.slice KA o.key.length KC) (.slice HA o.keys.length HC) m F body w1 h1 hO (hk.below hb) (fun k hk=>Nat.lt_of_lt_of_le (hkl k hk) hb.size) (hh.below hb) hM hm hm0
  unfold optV at h
  exact h
 unfold optV
 go_enter Tryz.func12,Tryz.ntmps12
 go_upto_region 1 with fail
 rw [←hxn.out]at hx⊢
 generalize w.alloc (.cells #[Str o.dom,Str o.sel,Str o.ident,Str o.kind, .slice KA o.key.length KC,Str o.hdr,Str o.bdy, .slice HA o.keys.length HC, .bool o.all, .int .i64 o.exp, .int .i64 o.now, .slice none 0 0] 25)=w1 at*
 obtain⟨c0,c1,c2,c3,c4,c5,c6,c7,c8,c9,c10,c11⟩:=hcl _ hx
 go_wp2_with fail
 refine(hc37 w1 (hG.above hbA) hbA).mono ?_
 intro e w2 hP
 obtain⟨s,is,he,hb2,hsi⟩: ∃s is,e= .returned (.tuple #[Str s, .bool is])∧Below w1.heap.size w1 w2∧((signsFrom o∧s=signed o F body++m∧is=true)∨(¬signsFrom o∧s= []∧is=false)):=by
  obtain⟨⟨h1,rfl⟩|⟨h1,rfl⟩,h2⟩:=hP
  ·exact⟨_,_,rfl,h2, .inl ⟨h1,rfl,rfl⟩⟩
  ·exact⟨_,_,rfl,h2, .inr ⟨h1,rfl,rfl⟩⟩
 subst he
 have hx2:=hx.below hb2 hx.lt
 have hb2':=hbA.trans (hb2.mono hbA.size)
 clear hP c0 c1 c2 c3 c4 c5 c6 c7 c8 c9 c10 c11 hc37
 have hk2:Rd w2 (.slice KA o.key.length KC) (byts o.key):=hk.below hb2'
 have hk2:Rd w2.drew (.slice KA o.key.length KC) (byts o.key):=hk2
 have hkind:o.kind.length≤1000000:=by rcases hO.kinds with h|h<;>rw [h]<;>decide
 have hc17:Calls Tryz.prog 17 #[.agg #[Str o.dom,Str o.sel,Str o.ident,Str o.kind, .slice KA o.key.length KC,Str o.hdr,Str o.bdy, .slice HA o.keys.length HC, .bool o.all, .int .i64 o.exp, .int .i64 o.now, .slice none 0 0]] w2.drew fun e w'=>e= .returned (Str (recordOf o))∧Below w2.heap.size w2 w':=by
  have h:=dPublic_any o (.slice KA o.key.length KC) (.slice HA o.keys.length HC) (.slice none 0 0) w2.drew hk2 (by have:=hO.key;omega) hkind ⟨_,_,_,rfl⟩ ⟨_,_,_,rfl⟩
  unfold optV at h
  refine h.mono ?_
  rintro e w3 ⟨rfl,h1⟩
  exact⟨rfl,⟨h1.os,h1.tape,h1.output,h1.size,h1.block⟩⟩
 go_wp2_with fail
 have d0:=hx2.cell 0 _ rfl
 have hsl:o.sel.length≤1000:=by have:=hO.lens.2.1;omega
 have hdl:o.dom.length≤1000:=by have:=hO.lens.1;omega
 have n1: ¬9223372036854775807<o.sel.length+12:=by omega
 have n2: ¬9223372036854775807<o.sel.length+12+o.dom.length:=by omega
 go_region_held3 (fun ww=>ww.cell? ⟨x,0,none⟩=some (Str o.dom)∧ww.cell? ⟨x,1,none⟩=some (Str o.sel)∧ww.cell? ⟨x,2,none⟩=some (Str o.ident)∧ww.cell? ⟨x,3,none⟩=some (Str o.kind)∧ww.cell? ⟨x,4,none⟩=some (.slice KA o.key.length KC)∧ww.cell? ⟨x,5,none⟩=some (Str o.hdr)∧ww.cell? ⟨x,6,none⟩=some (Str o.bdy)∧ww.cell? ⟨x,7,none⟩=some (.slice HA o.keys.length HC)∧ww.cell? ⟨x,8,none⟩=some (.bool o.all)∧ww.cell? ⟨x,9,none⟩=some (.int .i64 o.exp)∧ww.cell? ⟨x,10,none⟩=some (.int .i64 o.now)∧ww.cell? ⟨x,11,none⟩=some (.slice none 0 0))
  (first|exact hcl _ hx3|exact hcl _ hx2|exact hcl _ (hx3.alloc _)|exact hcl _ ((hx3.alloc _).alloc _)|go_keep)
  (first|(go_at_call 17;refine hc17.mono ?_;rintro e w3 ⟨he,hb3⟩;subst he;have hx3:=hx2.below hb3 hx2.lt)|fail)
 all_goals(first|(exfalso;omega)|skip)
 all_goals(go_wp2_with fail)
 all_goals go_ret3
 all_goals
  have hname:o.sel++46::95::100::111::109::97::105::110::107::101::121::46::o.dom=o.sel++dkS++o.dom:=by simp [dkS]
  have hs1:(w3.alloc (.cells #[Str (recordOf o)] 9)).heap.size=w3.heap.size+1:=by simp
  have hq:=(Blk.new w3 9 #[Str (recordOf o)]).alloc (.cells #[Str (o.sel++dkS++o.dom), .slice (some ⟨w3.heap.size,0,none⟩) 1 1, .bool false, .bool false] 39)
  have hr:=Blk.new (w3.alloc (.cells #[Str (recordOf o)] 9)) 39 #[Str (o.sel++dkS++o.dom), .slice (some ⟨w3.heap.size,0,none⟩) 1 1, .bool false, .bool false]
  rw [hs1]at hr
  have hb3':=hb2'.trans (hb3.mono hb2'.size)
  have hb4:=hb3'.alloc hb3'.size (.cells #[Str (recordOf o)] 9)
  have hb5:=hb4.alloc hb4.size (.cells #[Str (o.sel++dkS++o.dom), .slice (some ⟨w3.heap.size,0,none⟩) 1 1, .bool false, .bool false] 39)
  rw [hname]
  have hz:=hb3'.size
  exact⟨⟨s,is,w3.heap.size+1,w3.heap.size,rfl,hsi,hr,hq,by omega,by omega,hz⟩,hb5⟩
def ToldP (o:RawO)(qv:Value)(M:BS):Prop:=(o.Fit∧∃n c,qv= .slice none n c)∧(plain M=true∧M.length≤5000)∧∃F b,NamedP M F b
theorem dTold_any (o:RawO)(kv hv qv:Value)(M:BS)(w:World)(h:o.In w kv hv qv)(hf:o.fits=true)(hM:M.length≤2147483647):
 Calls Tryz.prog 18 #[o.val kv hv qv,Str M] w fun e w'=>(∃r,e= .returned (.bool r)∧(r=true→ToldP o qv M))∧Below w.heap.size w w':=by
 obtain⟨kA,kc,rfl,_⟩:=h.key
 obtain⟨hA,hc,rfl,_⟩:=h.keys
 obtain⟨qA,qc,rfl,_⟩:=h.query
 have HIn:=Lib.hid h
 have Hf:=Lib.hid hf
 unfold RawO.val
 rw [byL,stL,stL]
 have hb1:=(Below.refl w.heap.size w).alloc (Nat.le_refl _) (.cells #[Str o.dom,Str o.sel,Str o.ident,Str o.kind, .slice kA o.key.length kc,Str o.hdr,Str o.bdy, .slice hA o.keys.length hc, .bool o.all, .int .i64 o.exp, .int .i64 o.now, .slice qA o.query.length qc] 25)
 have hx1:=RawO.blk w o (.slice kA o.key.length kc) (.slice hA o.keys.length hc) (.slice qA o.query.length qc)
 clear h hf
 go_enter Tryz.func18,Tryz.ntmps18
 go_upto_region 1 with fail
 obtain⟨x,Hx⟩: ∃z,Hid (z=w.heap.size):=⟨_,Lib.hid rfl⟩
 rw [←Hx.out]at hx1⊢
 generalize w.alloc (.cells #[Str o.dom,Str o.sel,Str o.ident,Str o.kind, .slice kA o.key.length kc,Str o.hdr,Str o.bdy, .slice hA o.keys.length hc, .bool o.all, .int .i64 o.exp, .int .i64 o.now, .slice qA o.query.length qc] 25)=w1 at*
 have q0:=hx1.cell 0 _ rfl
 have q1:=hx1.cell 1 _ rfl
 have q2:=hx1.cell 2 _ rfl
 have q3:=hx1.cell 3 _ rfl
 have q4:=hx1.cell 4 _ rfl
 have q5:=hx1.cell 5 _ rfl
 have q6:=hx1.cell 6 _ rfl
 have q7:=hx1.cell 7 _ rfl
 have q8:=hx1.cell 8 _ rfl
 have q9:=hx1.cell 9 _ rfl
 have q10:=hx1.cell 10 _ rfl
 have q11:=hx1.cell 11 _ rfl
 have h8:=dProper_any o _ _ _ w1 (HIn.out.below hb1) Hf.out
 unfold RawO.val at h8
 rw [byL,stL,stL]at h8
 go_wp2_with fail
 refine h8.mono ?_
 rintro e w3 ⟨⟨r8,rfl,H8⟩,hb3⟩
 have H8:=Lib.hid H8
 have hbw3:=hb1.trans (hb3.mono hb1.size)
 clear h8 q0 q1 q2 q3 q4 q5 q6 q7 q8 q9 q10 q11 hx1
 cases r8
 ·go_wp2_with fail
  go_ret
  first
   |exact⟨⟨false,rfl,fun h=>by cases h⟩,hbw3⟩
   |exact⟨.inl rfl,hbw3⟩
 have hba:=(Below.refl w3.heap.size w3).alloc (Nat.le_refl _) (.cells #[Str M] 9)
 have hxa:=Blk.new w3 9 #[Str M]
 have hra:Rd (w3.alloc (.cells #[Str M] 9)) (.slice (some ⟨w3.heap.size,0,none⟩) 1 1) (strs [M]):=
  ⟨_,1,rfl,Nat.le_refl _, .inr ⟨_,0,rfl,hxa.lt,fun j u hu=>by rw [Nat.zero_add];exact hxa.cell j u hu⟩⟩
 have hbw4:=hbw3.trans (hba.mono hbw3.size)
 go_wp2_with fail
 generalize w3.alloc (.cells #[Str M] 9)=w4 at*
 refine(dShort_any 5000 _ _ w4 hra (fun x hx=>by rw [List.mem_singleton.1 hx];omega) (by simp)).mono ?_
 rintro e w5 ⟨⟨r9,rfl,H9⟩,rfl⟩
 have H9:=Lib.hid H9
 clear hra hxa hba
 cases r9
 ·go_wp2_with fail
  go_ret
  first
   |exact⟨⟨false,rfl,fun h=>by cases h⟩,hbw4⟩
   |exact⟨.inl rfl,hbw4⟩
 have hMl:M.length≤5000:=by have:=((H9.out (by first|rfl|trivial)).1 M (by simp)).2;omega
 have hMp:=Lib.hid ((H9.out (by first|rfl|trivial)).1 M (by simp)).1
 clear H9
 go_wp2_with fail
 refine(dNamed_any M w5 (by omega)).mono ?_
 rintro e w6 ⟨⟨r10,rfl,H10⟩,hb6⟩
 have H10:=Lib.hid H10
 have hbw6:=hbw4.trans (hb6.mono hbw4.size)
 cases r10
 ·go_wp2_with fail
  go_ret
  first
   |exact⟨⟨false,rfl,fun h=>by cases h⟩,hbw6⟩
   |exact⟨.inl rfl,hbw6⟩
 go_wp2_with fail
 go_ret
 have hT:ToldP o (.slice qA o.query.length qc) M:=⟨H8.out (by first|rfl|trivial),⟨hMp.out,hMl⟩,H10.out (by first|rfl|trivial)⟩
 first
  |exact⟨⟨true,rfl,fun _=>hT⟩,hbw6⟩
  |exact⟨.inr ⟨rfl,hT⟩,hbw6⟩
end Go.Proofs.YtgilnagajcfkpaaGreatDoor
