import Derived.Test.YtgilnagajcfkpaaGreatDoorQ04
import Derived.Test.YtgilnagajcfkpaaGreatDoorQ23
import Derived.Test.YtgilnagajcfkpaaGreatDoorQ32
set_option maxHeartbeats 4000000
set_option maxRecDepth 1000000
set_option linter.all false
namespace Go.Proofs.YtgilnagajcfkpaaGreatDoor
open Go.RowKit
theorem SrcAt.below {B:Nat} {w w':World} {rd:Value} {h:Nat} {s:BS} {i g bb:Nat} (hs:SrcAt w rd h s i g bb)(hb:Below B w w')(hh:h<B):SrcAt w' rd h s i g bb:=by
 rcases hs with⟨rfl,p,hp⟩|⟨rfl,p,A,sc,hr,hA,hp⟩
 ·exact .inl ⟨rfl,p,hp.below hb hh⟩
 ·refine .inr ⟨rfl,p,A,sc,hr.frm (Frm.of_below hb) (fun k hk=> ?_),hA,hp.below hb hh⟩
  have:=(hA k hk).2.2.2
  omega
theorem Bio.below {B:Nat} {w w':World} {g bb h:Nat} {rd:Value} {s:BS} {i r n0:Nat} {cs:BS} (b:Bio w g bb h rd s i r n0 cs)(hb:Below B w w')(hg:g<B)(hbb:bb<B)(hh:h<B):Bio w' g bb h rd s i r n0 cs:=
 ⟨by obtain⟨lb,lr,h⟩:=b.cells;exact⟨lb,lr,h.below hb hg⟩,b.row.below hb hbb,b.len,b.rn,b.n0,b.src.below hb hh,b.ilen,b.slen,b.gb,b.hg,b.hb⟩
theorem SrcAt.lt {w:World} {rd:Value} {h:Nat} {s:BS} {i g bb:Nat} (hs:SrcAt w rd h s i g bb):h<w.heap.size:=by
 rcases hs with⟨rfl,p,hp⟩|⟨rfl,p,A,sc,hr,hA,hp⟩
 ·exact hp.lt
 ·exact hp.lt
theorem Bio.lt {w:World} {g bb h:Nat} {rd:Value} {s:BS} {i r n0:Nat} {cs:BS} (b:Bio w g bb h rd s i r n0 cs):g<w.heap.size∧bb<w.heap.size∧h<w.heap.size:=by
 obtain⟨lb,lr,h⟩:=b.cells
 exact⟨h.lt,b.row.lt,b.src.lt⟩
theorem FullErr.frm {S:Nat→Prop} {w w':World} (h:FullErr w)(hF:Frm S w w')(h5: ¬S 5):FullErr w':=by
 obtain⟨a,ha⟩:=h;exact⟨a,frC hF ha h5⟩
def ZPost (w:World)(g bb h:Nat)(rd:Value)(s rest:BS)(e:Ending)(w':World):Prop:=
 ∃(i r n0:Nat) (cs:BS),e= .returned (.tuple #[Str (unCR (cutAt 10 rest).1), .nilIface])∧Bio w' g bb h rd s i r n0 cs∧bioRest s i r n0 cs=(cutAt 10 rest).2.1∧Frm (fun k=>k=g∨k=bb∨k=h) w w'
theorem unCR_app (p q:BS)(h:p.getLast?≠some 13∨q.head?=some 13):unCR (p++q)=p++unCR q:=by
 cases q with
 |nil=>
  have hp:p.getLast?≠some 13:=h.resolve_right (by simp)
  rw [List.append_nil];unfold unCR;rw [if_neg hp];simp
 |cons x r=>
  unfold unCR
  rw [List.getLast?_append]
  have e:(x::r).getLast?.or p.getLast?=(x::r).getLast?:=by
   cases hq:(x::r).getLast? with
   |none=>simp at hq
   |some y=>rfl
  rw [e]
  split
  ·rw [List.dropLast_append_of_ne_nil (by simp)]
  ·rfl
theorem cutAt_pre (c:UInt8)(p q:BS)(h:c∉p):cutAt c (p++q)=(p++(cutAt c q).1,(cutAt c q).2.1,(cutAt c q).2.2):=by
 induction p with
 |nil=>rfl
 |cons x r ih=>
  have hx:x≠c:=fun e=>h (by simp [e])
  rw [List.cons_append,cutAt,if_neg hx,ih (fun e=>h (by simp [e]))];rfl
theorem head_cut (l:BS)(h:l.head?=some 13):(cutAt 10 l).1.head?=some 13:=by
 cases l with
 |nil=>simp at h
 |cons x r=>simp at h;subst h;rw [cutAt,if_neg (by decide)];rfl
theorem zzReadLine_any (g bb h:Nat)(rd:Value)(s:BS)(i r n0:Nat)(cs:BS)(w:World)(hb:Bio w g bb h rd s i r n0 cs)(h10:(cutAt 10 (bioRest s i r n0 cs)).2.2=true)(heb:FullErr w)(h5:5≠g∧5≠bb∧5≠h):
 Calls Tryz.prog 109 #[.pointer (some ⟨g,0,none⟩)] w (ZPost w g bb h rd s (bioRest s i r n0 cs)):=by
 obtain⟨rest,hrest⟩: ∃rest,Hid (rest=bioRest s i r n0 cs):=⟨_,Lib.hid rfl⟩
 rw [←hrest.out]at h10⊢
 have hlt:=hb.lt
 have hrl:(bioRest s i r n0 cs).length≤1099511627776+4096:=by
  have h1:=hb.slen;have h2:=hb.n0
  unfold bioRest;simp;omega
 rw [←hrest.out]at hrl
 have h5': ¬(5=g∨5=bb∨5=h):=fun e=>e.elim h5.1 (fun e=>e.elim h5.2.1 h5.2.2)
 have ha0:Hid (unCR (cutAt 10 rest).1= []++unCR (cutAt 10 (bioRest s i r n0 cs)).1):=by show _=_;rw [←hrest.out];rfl
 have ha1:Hid ((cutAt 10 rest).2.1=(cutAt 10 (bioRest s i r n0 cs)).2.1):=by show _=_;rw [←hrest.out]
 have ha2:Hid ((cutAt 10 (bioRest s i r n0 cs)).2.2=true):=by show _=_;rw [←hrest.out];exact h10
 have ha3:Hid (([]:BS).length+(bioRest s i r n0 cs).length≤1099511627776+4096):=by show _≤_;rw [←hrest.out];simpa using hrl
 have hF0:Frm (fun k=>k=g∨k=bb∨k=h) w w:=Frm.refl _ _
 clear h10 hrl
 go_enter Tryz.func109,Tryz.ntmps109
 go_wp2
 go_loopw [4] (fun v wx=> ∃(acc:BS) (i r n0:Nat) (cs:BS),OwnAt wx w.heap.size 5 v (byts acc)∧Bio wx g bb h rd s i r n0 cs∧Hid (unCR (cutAt 10 rest).1=acc++unCR (cutAt 10 (bioRest s i r n0 cs)).1)∧Hid ((cutAt 10 rest).2.1=(cutAt 10 (bioRest s i r n0 cs)).2.1)∧
  Hid ((cutAt 10 (bioRest s i r n0 cs)).2.2=true)∧Hid (acc.length+(bioRest s i r n0 cs).length≤1099511627776+4096)∧Frm (fun k=>k=g∨k=bb∨k=h) w wx) (fun v _=>1099511627776+4096-slen v)
 case atStart=>exact⟨[],i,r,n0,cs, .inl ⟨rfl,rfl⟩,hb,ha0,ha1,ha2,ha3,hF0⟩
 case round=>
  clear hb ha0 ha1 ha2 ha3 hF0 hrest
  obtain⟨acc,i,r,n0,cs,ho,hb,H0,H1,H2,H3,hF⟩:=hrel
  go_wp2_with fail
  refine(readLine_any g bb h rd s i r n0 cs wr hb H2.out (heb.frm hF h5') h5).mono ?_
  rintro e w1 ⟨i1,r1,n1,cs1,v1,hF1,hb1,⟨rfl,hrd,hrest⟩|⟨rfl,p,hpne,hpr,hp10,hrd,hplast⟩⟩
  ·have ho1:=ho.frm hF1 (fun k hk e=>by have:=(ho.lt k hk).1;omega)
   have hFw:=hF.trans hF1
   have hBw:w.heap.size≤w1.heap.size:=hFw.size
   have hsrc:=Src.rd (P:=Tryz.prog) hrd (byts_one _)
   have H0':=H0.out;have H1':=H1.out;have H3':=H3.out
   have hul:=unCR_le (cutAt 10 (bioRest s i r n0 cs)).1
   have hcl:=(cutAt_len 10 (bioRest s i r n0 cs)).1
   have Hres:Hid (unCR (cutAt 10 rest).1=acc++unCR (cutAt 10 (bioRest s i r n0 cs)).1):=H0
   have hlen2:acc.length+(unCR (cutAt 10 (bioRest s i r n0 cs)).1).length≤140737488355328:=by omega
   have Hrest2:Hid (bioRest s i1 r1 n1 cs1=(cutAt 10 rest).2.1):=by show _=_;rw [hrest,H1']
   clear H0' H1' H3' hul hcl hrest H0 H1 H2 H3
   go_wp2_with (at_builtin;refine appB rfl (.tmp 17) (.tmp 18) 22 (.inl rfl) rfl acc _ rfl ho1 rfl hsrc hlen2 hBw ?_;intro v2 w2 ho2 _ hb2 _;have hcv:=cvB ho2.rd)
   go_ret2
   refine⟨i1,r1,n1,cs1,by rw [Hres.out];rfl,hb1.below hb2 hlt.1 hlt.2.1 hlt.2.2,Hrest2.out,hFw.after (Frm.of_below hb2) (fun i hi e=>by omega)⟩
  ·have ho1:=ho.frm hF1 (fun k hk e=>by have:=(ho.lt k hk).1;omega)
   have hFw:=hF.trans hF1
   have hBw:w.heap.size≤w1.heap.size:=hFw.size
   have hsrc:=Src.rd (P:=Tryz.prog) hrd (byts_one _)
   have H0':=H0.out;have H1':=H1.out;have H2':=H2.out;have H3':=H3.out
   rw [hpr,cutAt_pre 10 _ _ hp10]at H0' H1' H2'
   rw [hpr,List.length_append]at H3'
   simp only at H0' H1' H2'
   rw [unCR_app _ _ (hplast.imp (fun e=>e) (head_cut _)),←List.append_assoc]at H0'
   have K0:=Lib.hid H0';have K1:=Lib.hid H1';have K2:=Lib.hid H2';have K3:=Lib.hid H3'
   have hlen2:acc.length+p.length≤140737488355328:=by omega
   have hp0:0<p.length:=List.length_pos_iff.2 hpne
   clear H0' H1' H2' H3' H0 H1 H2 H3 hpr hplast
   go_wp2_with (at_builtin;refine appB rfl (.tmp 17) (.tmp 18) 22 (.inl rfl) rfl acc p rfl ho1 rfl hsrc hlen2 hBw ?_;intro v2 w2 ho2 _ hb2 _)
   go_roundw
   case rel=>
    exact⟨acc++p,i1,r1,n1,cs1,ho2,hb1.below hb2 hlt.1 hlt.2.1 hlt.2.2,K0,K1,K2,by have:=K3.out;show _≤_;rw [List.length_append];omega,hFw.after (Frm.of_below hb2) (fun i hi e=>by omega)⟩
   case measure=>
    obtain⟨A1,c1,e1⟩:=ho.form
    obtain⟨A2,c2,e2⟩:=ho2.form
    rw [e1,e2]
    have:=K3.out
    simp only [slen,byL,List.length_append];omega
theorem Bio.meas {w:World} {g bb h:Nat} {rd:Value} {s:BS} {i r n0:Nat} {cs:BS} (b:Bio w g bb h rd s i r n0 cs):
 s.length-(intOf ((w.cell? ⟨h,1,none⟩).getD undef)).toNat+((intOf ((w.cell? ⟨g,3,none⟩).getD undef)).toNat-(intOf ((w.cell? ⟨g,2,none⟩).getD undef)).toNat)=(bioRest s i r n0 cs).length:=by
 obtain⟨lb,lr,hg⟩:=b.cells
 have c2:=hg.cell 2 _ rfl
 have c3:=hg.cell 3 _ rfl
 have hn:=b.n0;have hl:=b.len;have hr:=b.rn
 rw [b.src.pos,c2,c3]
 simp [intOf,bioRest]
 omega
def RHPost (w:World)(g bb h:Nat)(rd:Value)(s:BS)(F:List BS)(body:BS)(e:Ending)(w':World):Prop:=
 ∃(i r n0:Nat) (cs:BS) (v:Value),e= .returned (.tuple #[v, .nilIface])∧OwnAt w' w.heap.size 9 v (strs F)∧Bio w' g bb h rd s i r n0 cs∧bioRest s i r n0 cs=body∧Frm (fun k=>k=g∨k=bb∨k=h) w w'
theorem headsFrom_some {out:List BS} {m:BS} {r:List BS×BS} (h:headsFrom out m=some r):(cutAt 10 m).2.2=true∧((unCR (cutAt 10 m).1= []∧r=(out,(cutAt 10 m).2.1))∨(unCR (cutAt 10 m).1≠ []∧headsFrom (addLine out (unCR (cutAt 10 m).1)) (cutAt 10 m).2.1=some r)):=by
 rw [headsFrom_step]at h
 split at h
 ·next hc=>
  refine⟨hc,?_⟩
  split at h
  ·next hu=>injection h with h;exact .inl ⟨hu,h.symm⟩
  ·next hu=>exact .inr ⟨hu,h⟩
 ·cases h
theorem addLine_count (out:List BS)(l:BS):(addLine out l).length≤out.length+1:=by
 unfold addLine;split<;>simp
theorem readHeader_any (g bb h:Nat)(rd:Value)(s:BS)(i r n0:Nat)(cs:BS)(F:List BS)(body:BS)(w:World)(hb:Bio w g bb h rd s i r n0 cs)(hh:heads (bioRest s i r n0 cs)=some (F,body))(heb:FullErr w)(h5:5≠g∧5≠bb∧5≠h):
 Calls Tryz.prog 87 #[.pointer (some ⟨g,0,none⟩)] w (RHPost w g bb h rd s F body):=by
 have hlt:=hb.lt
 obtain⟨N,hN⟩: ∃N,Hid (N=(bioRest s i r n0 cs).length):=⟨_,Lib.hid rfl⟩
 have hNl:N≤1099511627776+4096:=by
  have h1:=hb.slen;have h2:=hb.n0
  rw [hN.out];unfold bioRest;simp;omega
 have h5': ¬(5=g∨5=bb∨5=h):=fun e=>e.elim h5.1 (fun e=>e.elim h5.2.1 h5.2.2)
 have hF0:Frm (fun k=>k=g∨k=bb∨k=h) w w:=Frm.refl _ _
 have hH0:Hid (headsFrom [] (bioRest s i r n0 cs)=some (F,body)):=hh
 have hL0:Hid (([]:List BS).flatten.length+2*(bioRest s i r n0 cs).length≤2*N∧([]:List BS).length+(bioRest s i r n0 cs).length≤N):=by show _∧_;rw [hN.out];simp
 clear hh hN
 go_enter Tryz.func87,Tryz.ntmps87
 go_wp2
 go_loopw [4] (fun v wx=> ∃(out:List BS) (i r n0:Nat) (cs:BS),OwnAt wx w.heap.size 9 v (strs out)∧Bio wx g bb h rd s i r n0 cs∧Hid (headsFrom out (bioRest s i r n0 cs)=some (F,body))∧
  Hid (out.flatten.length+2*(bioRest s i r n0 cs).length≤2*N∧out.length+(bioRest s i r n0 cs).length≤N)∧Frm (fun k=>k=g∨k=bb∨k=h) w wx)
  (fun _ wx=>s.length-(intOf ((wx.cell? ⟨h,1,none⟩).getD undef)).toNat+((intOf ((wx.cell? ⟨g,3,none⟩).getD undef)).toNat-(intOf ((wx.cell? ⟨g,2,none⟩).getD undef)).toNat))
 case atStart=>exact⟨[],i,r,n0,cs, .inl ⟨rfl,rfl⟩,hb,hH0,hL0,hF0⟩
 case round=>
  clear hb hH0 hL0 hF0
  obtain⟨out,i,r,n0,cs,ho,hb,H,HL,hF⟩:=hrel
  obtain⟨hf,hcase⟩:=headsFrom_some H.out
  have hmeas:=Lib.hid hb.meas
  have hl0:=HL.out
  have hcl:=cutAt_len' 10 (bioRest s i r n0 cs) hf
  have hul:=unCR_le (cutAt 10 (bioRest s i r n0 cs)).1
  have hzr:=zzReadLine_any g bb h rd s i r n0 cs wr hb hf (heb.frm hF h5') h5
  have Hzr:=Lib.hid hzr;clear hzr hb H HL hf
  unfold ZPost at Hzr
  generalize hR:bioRest s i r n0 cs=R at*
  clear hR
  generalize(cutAt 10 R).2.1=R2 at*
  generalize hln:unCR (cutAt 10 R).1=ln at*
  have hF1w:=hF.size
  rcases hcase with⟨rfl,he⟩|⟨hne,hH⟩
  ·injection he with he1 he2
   subst he1;subst he2
   have hls:=Lib.hid hl0;clear hl0 hln
   go_wp2_with fail
   refine Hzr.out.mono ?_
   rintro e w1 ⟨i1,r1,n1,cs1,rfl,hb1,hrest,hF1⟩
   have Hrest:=Lib.hid hrest;clear hrest
   go_wp2_with fail
   go_ret2
   exact⟨i1,r1,n1,cs1,_,rfl,ho.frm hF1 (fun k hk e=>by have:=(ho.lt k hk).1;omega),hb1,Hrest.out,hF.trans hF1⟩
  ·obtain⟨c,r',rfl⟩: ∃c r',ln=c::r':=by cases ln with|nil=>exact absurd rfl hne|cons c r=>exact⟨c,r,rfl⟩
   have hls:(out.flatten.length+2*R.length≤2*N∧out.length+R.length≤N)∧r'.length+1+R2.length+1≤R.length:=by
    rw [List.length_cons]at hul
    exact⟨hl0,by omega⟩
   have Hls:=Lib.hid hls
   have hrl:r'.length≤2199023255552:=by omega
   have hol:out.length≤2199023255552:=by omega
   have Hm2:=Lib.hid hmeas
   have HH:=Lib.hid hH
   clear hl0 hln hls hul hcl hne hH
   by_cases hout:out= []
   ·subst hout
    obtain⟨A,cc,rfl⟩: ∃A cc,u4= .slice A 0 cc:=ho.form
    go_wp2_with fail
    refine Hzr.out.mono ?_
    rintro e w1 ⟨i1,r1,n1,cs1,rfl,hb1,hrest,hF1⟩
    have Hrest:=Lib.hid hrest;clear hrest Hzr
    have ho1:=ho.frm hF1 (fun k hk e=>by have:=(ho.lt k hk).1;omega)
    have hFw:=hF.trans hF1
    have hBw:w.heap.size≤w1.heap.size:=hFw.size
    go_wp2_with (at_builtin;refine appE1 (w0:=w1) Tryz.underlying158 Tryz.info9 rfl _ rfl (.tmp 42) (.tmp 45) rfl [] _ rfl rfl ho1 _ rfl rfl (by simp) (by simp) (Below.refl _ _) hBw ?_;intro v2 w2 ho2 _ hb2)
    go_roundw
    case rel=>
     have hL2:Hid ((addLine [] (c::r')).flatten.length+2*(bioRest s i1 r1 n1 cs1).length≤2*N∧(addLine [] (c::r')).length+(bioRest s i1 r1 n1 cs1).length≤N):=by
      have e1:=addLine_len [] (c::r')
      have e2:=addLine_count [] (c::r')
      have:=Hls.out
      show _∧_
      rw [Hrest.out,e1]
      simp only [List.length_cons]at this⊢
      omega
     refine⟨addLine [] (c::r'),i1,r1,n1,cs1,?_,hb1.below hb2 hlt.1 hlt.2.1 hlt.2.2,by rw [Hrest.out];exact HH.out,hL2,hFw.after (Frm.of_below hb2) (fun i hi e=>by omega)⟩
     rw [addLine_nil];simpa [strs,crlf]using ho2
    case measure=>
     rw [(hb1.below hb2 hlt.1 hlt.2.1 hlt.2.2).meas,Hm2.out,Hrest.out]
     have:=Hls.out;omega
   ·obtain⟨o,f,rfl⟩: ∃o f,out=o++ [f]:=⟨out.dropLast,out.getLast hout,(List.dropLast_concat_getLast hout).symm⟩
    clear hout
    have hfl:f.length≤4398046511104:=by
     have:=Hls.out
     have e:=mem_flatten_len (F:=o++ [f]) (f:=f) (by simp)
     omega
    simp only [List.length_append,List.length_cons,List.length_nil]at hol
    obtain⟨go,off,cc,rfl⟩: ∃go off cc,u4= .slice (some ⟨go,off,none⟩) (o.length+1) cc:=by
     obtain⟨go,off,cc,h⟩:=ho.form_some (by simp [strs])
     exact⟨go,off,cc,by rw [h,stL];simp⟩
    have o0:(0:Int)≤(o.length:Int):=by omega
    by_cases hc:c=32∨c=9
    ·have Hcc:Hid (contL (c::r')):=by show contL _;unfold contL;simpa using hc
     have hc2:((c.toNat:Int)==32)=true∨((c.toNat:Int)==32)=false∧((c.toNat:Int)==9)=true:=by
      rcases hc with rfl|rfl
      ·exact .inl rfl
      ·exact .inr ⟨rfl,rfl⟩
     clear hc
     rcases hc2 with c1|⟨c1,c2⟩
     all_goals
      go_wp2_with fail
      refine Hzr.out.mono ?_
      rintro e w1 ⟨i1,r1,n1,cs1,rfl,hb1,hrest,hF1⟩
      have Hrest:=Lib.hid hrest;clear hrest Hzr
      have ho1:=ho.frm hF1 (fun k hk e=>by have:=(ho.lt k hk).1;omega)
      have hFw:=hF.trans hF1
      have hBw:w.heap.size≤w1.heap.size:=hFw.size
      obtain⟨hck,hfk⟩:=ho1.cell_at o.length (Str f) (by simp [strs])
      have hgB:=ho1.len_at.2.2.1
      go_wp2_with fail
      go_roundw
      case rel=>
       have hL2:Hid ((addLine (o++ [f]) (c::r')).flatten.length+2*(bioRest s i1 r1 n1 cs1).length≤2*N∧(addLine (o++ [f]) (c::r')).length+(bioRest s i1 r1 n1 cs1).length≤N):=by
        have e1:=addLine_len (o++ [f]) (c::r')
        have e2:=addLine_count (o++ [f]) (c::r')
        have:=Hls.out
        show _∧_
        rw [Hrest.out,e1]
        simp only [List.length_cons]at this⊢
        omega
       have hb2:=Below.setCell (Below.refl w.heap.size w1) (p:=⟨go,off+o.length,none⟩) hgB (Str (f++c::(r'++ [13,10])))
       refine⟨addLine (o++ [f]) (c::r'),i1,r1,n1,cs1,?_,hb1.below hb2 hlt.1 hlt.2.1 hlt.2.2,by rw [Hrest.out];exact HH.out,hL2,hFw.after (Frm.of_below hb2) (fun i hi e=>by omega)⟩
       rw [addLine_cont _ _ _ Hcc.out]
       have:=ho1.set_last (z:=f++(c::r'++ [13,10]))
       simpa [crlf]using this
      case measure=>
       have hb2:=Below.setCell (Below.refl w.heap.size w1) (p:=⟨go,off+o.length,none⟩) hgB (Str (f++c::(r'++ [13,10])))
       rw [(hb1.below hb2 hlt.1 hlt.2.1 hlt.2.2).meas,Hm2.out,Hrest.out]
       have:=Hls.out;omega
    ·have c1:((c.toNat:Int)==32)=false:=bF (fun h=>hc (.inl h): ¬c=32)
     have c2:((c.toNat:Int)==9)=false:=bF (fun h=>hc (.inr h): ¬c=9)
     have Hcc:Hid (¬contL (c::r')):=by show¬contL _;unfold contL;simpa using hc
     clear hc
     go_wp2_with fail
     refine Hzr.out.mono ?_
     rintro e w1 ⟨i1,r1,n1,cs1,rfl,hb1,hrest,hF1⟩
     have Hrest:=Lib.hid hrest;clear hrest Hzr
     have ho1:=ho.frm hF1 (fun k hk e=>by have:=(ho.lt k hk).1;omega)
     have hFw:=hF.trans hF1
     have hBw:w.heap.size≤w1.heap.size:=hFw.size
     go_wp2_with (at_builtin;refine appE1 (w0:=w1) Tryz.underlying158 Tryz.info9 rfl _ rfl (.tmp 42) (.tmp 45) rfl (strs (o++ [f])) _ rfl rfl ho1 _ rfl rfl (by simp [strs];omega) (by simp [strs];omega) (Below.refl _ _) hBw ?_;intro v2 w2 ho2 _ hb2)
     go_roundw
     case rel=>
      have hL2:Hid ((addLine (o++ [f]) (c::r')).flatten.length+2*(bioRest s i1 r1 n1 cs1).length≤2*N∧(addLine (o++ [f]) (c::r')).length+(bioRest s i1 r1 n1 cs1).length≤N):=by
       have e1:=addLine_len (o++ [f]) (c::r')
       have e2:=addLine_count (o++ [f]) (c::r')
       have:=Hls.out
       show _∧_
       rw [Hrest.out,e1]
       simp only [List.length_cons]at this⊢
       omega
      refine⟨addLine (o++ [f]) (c::r'),i1,r1,n1,cs1,?_,hb1.below hb2 hlt.1 hlt.2.1 hlt.2.2,by rw [Hrest.out];exact HH.out,hL2,hFw.after (Frm.of_below hb2) (fun i hi e=>by omega)⟩
      rw [addLine_fresh _ _ Hcc.out,strs_append];simpa [strs,crlf]using ho2
     case measure=>
      rw [(hb1.below hb2 hlt.1 hlt.2.1 hlt.2.2).meas,Hm2.out,Hrest.out]
      have:=Hls.out;omega
theorem bytNew_any (v:Value)(s:BS)(w:World)(hv:Rd w v (byts s))(hlt: ∀k,v.ownBlock=some k→k<w.heap.size):
 Calls Tryz.prog 130 #[v] w fun e w'=>e= .returned (.pointer (some ⟨w.heap.size,0,none⟩))∧Below w.heap.size w w'∧w.heap.size<w'.heap.size∧∀g bb,w.heap.size<g→w.heap.size<bb→SrcAt w' (.iface 238 (.pointer (some ⟨w.heap.size,0,none⟩))) w.heap.size s 0 g bb:=by
 obtain⟨A,c,rfl,hl,hx⟩:=hv
 rw [byL]at hl hlt⊢
 go_enter Tryz.func130,Tryz.ntmps130
 go_wp2_with fail
 go_ret
 refine⟨rfl,(Below.refl _ w).alloc (Nat.le_refl _) _,by simp,fun g bb h1 h2=> .inr ⟨rfl, -1,A,c,?_,fun k hk=> ?_,Blk.new _ _ _⟩⟩
 ·exact Rd.below ⟨A,c,by rw [byL],by rw [byL];exact hl,hx⟩ ((Below.refl _ w).alloc (Nat.le_refl _) _)
 ·have:=hlt k hk
  omega
theorem grown_again {w w1:World} {g:Nat} (h:w.grownBy w1 (some g))(o:Nat)(u:Value):w.grownBy (w1.setCell ⟨g,o,none⟩ u) (some g):=by
 have h2:=grown_setCell w1 ⟨g,o,none⟩ u
 exact⟨h2.os.trans h.os,h2.tape.trans h.tape,h2.output.trans h.output,Nat.le_trans h.size h2.size,fun k hk hne=>(h2.block k (Nat.lt_of_lt_of_le hk h.size) hne).trans (h.block k hk hne)⟩
theorem make_blk (w:World)(n:Nat)(hm:n≤281474976710656):
 (Instr.makeSlice 22 (.int .i64 n) (.int .i64 n)).run Tryz.prog w= .ok (.slice (some ⟨w.heap.size,0,none⟩) n n) (w.alloc (.cells (byts (List.replicate n 0)).toArray 5)):=by
 obtain⟨i,hi,hz',hs,hb'⟩:=info_parts Tryz.info5
 have hbc:(i.bytes:Int)*(n:Int)≤281474976710656:=by rw [hb'];omega
 have h:=run_make (P:=Tryz.prog) w 22 5 i (.int .u8 0) Tryz.underlying22 hi hz' .i64 .i64 n n (by omega) (by omega) hbc (by omega)
 rw [hs,show(Value.int .u8 0).cells= #[.int .u8 0]from rfl]at h
 simp only [Int.toNat_natCast,Nat.mul_one]at h
 rw [h]
 have e:madeCells #[Value.int .u8 0] n=(byts (List.replicate n 0)).toArray:=by
  apply Array.ext_getElem?
  intro j
  by_cases hj:j<n
  ·simp [madeCells,byts,hj,Nat.mod_one]
  ·simp [madeCells,byts,hj]
 rw [e]
theorem bioReset_any (g b T:Nat)(p:Addr)(cs:List Value)(w:World)(hg:Blk w g 263 cs)(hcs:cs.length=7):
 Calls Tryz.prog 139 #[.pointer (some ⟨g,0,none⟩), .slice (some ⟨b,0,none⟩) 4096 4096, .iface T (.pointer (some p))] w fun e w'=>e= .returned (.tuple #[])∧Blk w' g 263 (bioCells b (.iface T (.pointer (some p))) 0 0 (-1) (-1))∧w.grownBy w' (some g):=by
 match cs,hcs with
 | [a0,a1,a2,a3,a4,a5,a6],_=>
 have c0:=hg.cell 0 _ rfl
 have f0:=hg.frozen 0
 have c1:=hg.cell 1 _ rfl
 have f1:=hg.frozen 1
 have c2:=hg.cell 2 _ rfl
 have f2:=hg.frozen 2
 have c3:=hg.cell 3 _ rfl
 have f3:=hg.frozen 3
 have c4:=hg.cell 4 _ rfl
 have f4:=hg.frozen 4
 have c5:=hg.cell 5 _ rfl
 have f5:=hg.frozen 5
 have c6:=hg.cell 6 _ rfl
 have f6:=hg.frozen 6
 go_enter Tryz.func139,Tryz.ntmps139
 go_wp2
 go_end0
 exact⟨rfl,((((((hg.set 0 _).set 1 _).set 2 _).set 3 _).set 4 _).set 5 _).set 6 _,grown_again (grown_again (grown_again (grown_again (grown_again (grown_again (grown_setCell w ⟨g,0,none⟩ _) 1 _) 2 _) 3 _) 4 _) 5 _) 6 _⟩
theorem ta76 (v:Value)(w:World):(Instr.typeAssert (.iface 76 v) 123 156 true).run Tryz.prog w= .ok (.tuple #[.pointer none, .bool false]) w:=by kernel_rfl
theorem ta238 (v:Value)(w:World):(Instr.typeAssert (.iface 238 v) 123 156 true).run Tryz.prog w= .ok (.tuple #[.pointer none, .bool false]) w:=by kernel_rfl
theorem bioNew_any (rd:Value)(h:Nat)(s:BS)(w:World)(hs: ∀g bb,w.heap.size≤g→w.heap.size≤bb→SrcAt w rd h s 0 g bb)(hl:s.length≤1099511627776)(hh:h<w.heap.size):
 Calls Tryz.prog 108 #[rd, .int .i64 4096] w fun e w'=>e= .returned (.pointer (some ⟨w.heap.size,0,none⟩))∧Below w.heap.size w w'∧∃cs,Bio w' w.heap.size (w.heap.size+1) h rd s 0 0 0 cs:=by
 have hrd: ∃T,rd= .iface T (.pointer (some ⟨h,0,none⟩))∧∀v w,(Instr.typeAssert (.iface T v) 123 156 true).run Tryz.prog w= .ok (.tuple #[.pointer none, .bool false]) w:=by
  rcases hs _ _ (Nat.le_refl _) (Nat.le_refl _)with⟨rfl,_⟩|⟨rfl,_⟩
  ·exact⟨76,rfl,ta76⟩
  ·exact⟨238,rfl,ta238⟩
 obtain⟨T,rfl,hT⟩:=hrd
 obtain⟨o1,ho1⟩: ∃o1,Hid (o1=Obj.cells #[.slice none 0 0, .nilIface, .int .i64 0, .int .i64 0, .nilIface, .int .i64 0, .int .i64 0] 263):=⟨_,Lib.hid rfl⟩
 obtain⟨o2,ho2⟩: ∃o2,Hid (o2=Obj.cells (byts (List.replicate 4096 0)).toArray 5):=⟨_,Lib.hid rfl⟩
 have hm:=make_blk (w.alloc o1) 4096 (by decide)
 rw [←ho2.out,show(w.alloc o1).heap.size=w.heap.size+1 by simp]at hm
 have hg:Blk ((w.alloc o1).alloc o2) w.heap.size 263 [.slice none 0 0, .nilIface, .int .i64 0, .int .i64 0, .nilIface, .int .i64 0, .int .i64 0]:=by
  refine Blk.alloc ?_ _
  rw [ho1.out];exact Blk.new _ _ _
 have hbb:Blk ((w.alloc o1).alloc o2) (w.heap.size+1) 5 (byts (List.replicate 4096 0)):=by
  have:=Blk.new (w.alloc o1) 5 (byts (List.replicate 4096 0)).toArray
  rw [show(w.alloc o1).heap.size=w.heap.size+1 by simp,←ho2.out]at this
  exact this
 have hB:Below w.heap.size w ((w.alloc o1).alloc o2):=((Below.refl _ w).alloc (Nat.le_refl _) o1).alloc (leA _ _) o2
 have hS:=(hs w.heap.size (w.heap.size+1) (Nat.le_refl _) (by omega)).below hB hh
 have hm':(Instr.makeSlice 22 (.int .i64 4096) (.int .i64 4096)).run Tryz.prog (w.alloc o1)= .ok (.slice (some ⟨w.heap.size+1,0,none⟩) 4096 4096) ((w.alloc o1).alloc o2):=hm
 clear hm
 generalize(w.alloc o1).alloc o2=w2 at*
 rw [ho1.out]at hm'
 have e1:max (4096:Int) 16=4096:=by decide
 go_enter Tryz.func108,Tryz.ntmps108
 go_wp2_with fail
 refine(bioReset_any w.heap.size (w.heap.size+1) T ⟨h,0,none⟩ _ w2 hg rfl).mono ?_;rintro e w3 ⟨rfl,hg3,hgr⟩
 go_wp2
 go_ret
 have hF:=Frm.of_grown hgr
 have hne: ¬(some (w.heap.size+1)=some w.heap.size):=by simp
 refine⟨rfl,hB.grown hgr (by have:=hg.lt;omega) (fun k e=>by injection e;omega),List.replicate 4096 0,⟨_,_,hg3⟩,hbb.grown hgr hne,by simp,Nat.le_refl _,by decide,?_,Nat.zero_le _,hl,by omega,by omega,by omega⟩
 rcases hS with⟨hq,p,hp⟩|⟨hq,p,A,sc,hr,hA,hp⟩
 ·exact .inl ⟨hq,p,hp.grown hgr (fun e=>by injection e;omega)⟩
 ·exact .inr ⟨hq,p,A,sc,hr.kept hgr (by have:=hA w.heap.size;cases hk:(Value.slice A s.length sc).ownBlock with|none=>exact .inl rfl|some k=>exact .inr (fun e=>(hA k hk).2.1 (by injection e))),hA,hp.grown hgr (fun e=>by injection e;omega)⟩
theorem bioNew2_any (rd:Value)(h:Nat)(s:BS)(w:World)(hs: ∀g bb,w.heap.size≤g→w.heap.size≤bb→SrcAt w rd h s 0 g bb)(hl:s.length≤1099511627776)(hh:h<w.heap.size):
 Calls Tryz.prog 86 #[rd] w fun e w'=>e= .returned (.pointer (some ⟨w.heap.size,0,none⟩))∧Below w.heap.size w w'∧∃cs,Bio w' w.heap.size (w.heap.size+1) h rd s 0 0 0 cs:=by
 go_enter Tryz.func86,Tryz.ntmps86
 go_wp2_with fail
 refine(bioNew_any rd h s w hs hl hh).mono ?_
 rintro e w1 ⟨rfl,hb,hbio⟩
 go_wp2
 go_ret
 exact⟨rfl,hb,hbio⟩
def BufV (w:World)(v:Value)(acc:BS):Prop:=
 (v= .slice none 0 0∧acc= [])∨∃(r:Nat)(cs:List Value),0<acc.length∧v= .slice (some ⟨r,0,none⟩) acc.length cs.length∧Blk w r 5 cs∧acc.length≤cs.length∧cs.take acc.length=byts acc∧cs.length≤maxLen
def BufG (w:World)(v:Value)(acc:BS)(n:Nat):Prop:=
 ∃(r:Nat) (cs:List Value),v= .slice (some ⟨r,0,none⟩) (acc.length+n) cs.length∧Blk w r 5 cs∧acc.length+n≤cs.length∧cs.take acc.length=byts acc∧cs.length≤maxLen
theorem make_blk2 (w:World)(n c:Nat)(hnc:n≤c)(hm:c≤281474976710656):
 (Instr.makeSlice 22 (.int .i64 n) (.int .i64 c)).run Tryz.prog w= .ok (.slice (some ⟨w.heap.size,0,none⟩) n c) (w.alloc (.cells (byts (List.replicate c 0)).toArray 5)):=by
 obtain⟨i,hi,hz',hs,hb'⟩:=info_parts Tryz.info5
 have hbc:(i.bytes:Int)*(c:Int)≤281474976710656:=by rw [hb'];omega
 have h:=run_make (P:=Tryz.prog) w 22 5 i (.int .u8 0) Tryz.underlying22 hi hz' .i64 .i64 n c (by omega) (by omega) hbc (by omega)
 rw [hs,show(Value.int .u8 0).cells= #[.int .u8 0]from rfl]at h
 simp only [Int.toNat_natCast,Nat.mul_one]at h
 rw [h]
 have e:madeCells #[Value.int .u8 0] c=(byts (List.replicate c 0)).toArray:=by
  apply Array.ext_getElem?
  intro j
  by_cases hj:j<c
  ·simp [madeCells,byts,hj,Nat.mod_one]
  ·simp [madeCells,byts,hj]
 rw [e]
theorem bufLen_any (g o:Nat)(T:TypeId)(cells:List Value)(A:Option Addr)(l c:Nat)(w:World)(hg:Blk w g T cells)(h0:cells[o]?=some (.slice A l c))(h1:cells[o+1]?=some (.int .i64 0))(hl:l≤140737488355328):
 Calls Tryz.prog 248 #[.pointer (some ⟨g,o,none⟩)] w fun e w'=>e= .returned (.int .i64 l)∧∃k,w'=w.drewN k:=by
 have c0:=hg.cell o _ h0
 have c1:=hg.cell (o+1) _ h1
 go_enter Tryz.func248,Tryz.ntmps248
 go_wp2_with fail
 go_quiet (fail)
 go_wp2
 go_ret
 exact⟨rfl,_,rfl⟩
def TryPost (w:World)(g o:Nat)(T:TypeId)(cells:List Value)(A:Option Addr)(l c n:Nat)(e:Ending)(w':World):Prop:=
 (l+n≤c∧e= .returned (.tuple #[.int .i64 l, .bool true])∧w'=w.setCell ⟨g,o,none⟩ (.slice A (l+n) c))∨(¬l+n≤c∧e= .returned (.tuple #[.int .i64 0, .bool false])∧w'=w)
theorem bufTry_any (g o:Nat)(T:TypeId)(cells:List Value)(A:Option Addr)(l c n:Nat)(w:World)(hg:Blk w g T cells)(h0:cells[o]?=some (.slice A l c))(hlc:l≤c)(hl:c≤maxLen)(hn:n≤140737488355328):
 Calls Tryz.prog 247 #[.pointer (some ⟨g,o,none⟩), .int .i64 n] w (TryPost w g o T cells A l c n):=by
 have hl:c≤9223372036854775807:=by unfold maxLen at hl;omega
 have c0:=hg.cell o _ h0
 have f0:=hg.frozen o
 by_cases h:l+n≤c
 ·have b1:(n:Int)≤(c:Int)-(l:Int):=by omega
  have b2:(0:Int)≤(l:Int)+(n:Int):=by omega
  have b3:(l:Int)+(n:Int)≤(c:Int):=by omega
  go_enter Tryz.func247,Tryz.ntmps247
  go_wp2
  go_ret2
  exact .inl ⟨h,rfl,rfl⟩
 ·have b1: ¬(n:Int)≤(c:Int)-(l:Int):=by omega
  go_enter Tryz.func247,Tryz.ntmps247
  go_wp2
  go_ret2
  exact .inr ⟨h,rfl,rfl⟩
theorem set_back (cells:List Value)(o:Nat)(a z v:Value)(h:cells[o+1]?=some z):((cells.set o a).set (o+1) z).set o v=cells.set o v:=by
 apply List.ext_getElem?
 intro j
 simp only [List.getElem?_set,List.length_set]
 by_cases h1:o=j
 ·simp [h1]
 ·by_cases h2:o+1=j
  ·subst h2
   have:o+1<cells.length:=(List.getElem?_eq_some_iff.1 h).1
   obtain⟨_,hv⟩:=List.getElem?_eq_some_iff.1 h
   simp [this,hv]
  ·simp [h1,h2]
def GrowPost (w:World)(g o:Nat)(T:TypeId)(cells:List Value)(acc:BS)(n:Nat)(e:Ending)(w':World):Prop:=
 e= .returned (.int .i64 acc.length)∧∃v,BufG w' v acc n∧v.ownBlock≠some g∧(∀k,v.ownBlock=some k→w.heap.size≤k)∧Blk w' g T (cells.set o v)∧w.grownBy w' (some g)
theorem bufGrow_nil (g o:Nat)(T:TypeId)(cells:List Value)(n:Nat)(w:World)(hg:Blk w g T cells)(h0:cells[o]?=some (.slice none 0 0))(h1:cells[o+1]?=some (.int .i64 0))(hn0:0<n)(hn:n≤140737488355328):
 Calls Tryz.prog 246 #[.pointer (some ⟨g,o,none⟩), .int .i64 n] w (GrowPost w g o T cells [] n):=by
 have c0:=hg.cell o _ h0
 have f0:=hg.frozen o
 have c1:=hg.cell (o+1) _ h1
 have f1:=hg.frozen (o+1)
 go_enter Tryz.func246,Tryz.ntmps246
 go_wp2_with fail
 refine(bufLen_any g o T cells none 0 0 w hg h0 h1 (by decide)).mono ?_
 rintro e w1 ⟨rfl,q,rfl⟩
 have hg1:Blk (w.drewN q) g T cells:=hg
 have hgr1:w.grownBy (w.drewN q) (some g):=⟨rfl,rfl,rfl,Nat.le_refl _,fun _ _ _=>rfl⟩
 have hsz:(w.drewN q).heap.size=w.heap.size:=rfl
 generalize w.drewN q=w1 at*
 have c0':=hg1.cell o _ h0
 have f0':=hg1.frozen o
 have c1':=hg1.cell (o+1) _ h1
 have f1':=hg1.frozen (o+1)
 go_wp2_with fail
 refine(bufTry_any g o T cells none 0 0 n w1 hg1 h0 (Nat.le_refl _) (by decide) hn).mono ?_
 rintro e w2 (⟨hx,_,_⟩|⟨_,rfl,rfl⟩)
 ·omega
 have hq:(binOp .eql 22 (.slice none 0 0) (.slice none 0 0)).run Tryz.prog w2= .ok (.bool true) w2:=Lib.run_eql_slice_nil w2 22 5 none 0 0 0 0 Tryz.underlying22
 by_cases h64:n≤64
 ·have b1:(n:Int)≤64:=by omega
  obtain⟨o2,ho2⟩: ∃o2,Hid (o2=Obj.cells (byts (List.replicate 64 0)).toArray 5):=⟨_,Lib.hid rfl⟩
  have hm:(Instr.makeSlice 22 (.int .i64 n) (.int .i64 64)).run Tryz.prog w2= .ok (.slice (some ⟨w2.heap.size,0,none⟩) n 64) (w2.alloc o2):=by rw [ho2.out];exact make_blk2 w2 n 64 h64 (by decide)
  have hg2:Blk (w2.alloc o2) g T cells:=hg1.alloc o2
  have hr2:Blk (w2.alloc o2) w2.heap.size 5 (byts (List.replicate 64 0)):=by rw [ho2.out];exact Blk.new _ _ _
  have hgr2:w.grownBy (w2.alloc o2) (some g):=⟨hgr1.os,hgr1.tape,hgr1.output,by rw [←hsz];exact leA _ _,fun k hk hne=>(Below.heap_alloc w2 o2 k (by omega)).trans (hgr1.block k hk hne)⟩
  have cg:=hg2.cell o _ h0
  have fg:=hg2.frozen o
  generalize hw3:w2.alloc o2=w3 at*
  go_wp2_with fail
  go_ret
  have hlt:=hg.lt
  refine⟨rfl, .slice (some ⟨w2.heap.size,0,none⟩) n 64,⟨w2.heap.size,byts (List.replicate 64 0),by rw [byL,List.length_replicate,List.length_nil,Nat.zero_add],hr2.far (by simp;omega) _,by rw [byL,List.length_replicate,List.length_nil,Nat.zero_add];exact h64,rfl,by rw [byL,List.length_replicate];unfold maxLen;decide⟩,by simp [Value.ownBlock];omega,fun k hk=>by simp [Value.ownBlock]at hk;omega,by rw [hsz];exact hg2.set o _,grown_again hgr2 o _⟩
 ·have b1: ¬(n:Int)≤64:=by omega
  go_wp2_with fail
  have hlt:=hg.lt
  have mixed:Tryz.prog.follows Departure.mixedOrders=true:=by kernel_rfl
  have hwn:IntKind.i64.wrap (n:Int)=n:=by rw [IntKind.wrap_i64];omega
  go_region_with_o (
   go_at_call 249
   refine(Tryz.bytes_growSlice_nil n _ hn0 hn).mono ?_
   rintro e w4 ⟨cap2,cells2,rfl,hr4,hcs4,hnc4,hmx4,hb4⟩
   have hg4:Blk w4 g T cells:=hg1.drew.below hb4 hg1.lt
   have d0:=hg4.cell o _ h0
   have d1:=hg4.cell (o+1) _ h1
   have e0:=hg4.frozen o
   have e1:=hg4.frozen (o+1))
  all_goals(
   go_wp2
   go_ret
   have hB4:w.heap.size≤w4.heap.size:=by rw [←hsz];exact hb4.size
   have hgr4:w.grownBy w4 (some g):=⟨hb4.os.trans hgr1.os,hb4.tape.trans hgr1.tape,hb4.output.trans hgr1.output,hB4,fun k hk hne=>(hb4.block k (by rw [←hsz]at hk;exact hk)).trans (hgr1.block k hk hne)⟩
   have hr5:Blk w4 w2.heap.size 5 cells2.toList:=hr4
   have hcl:cells2.toList.length=cap2:=by simpa using hcs4
   have hmx:cap2≤maxLen:=hmx4
   have hne:w2.heap.size≠g:=by omega
   refine⟨rfl, .slice (some ⟨w2.heap.size,0,none⟩) n cap2,⟨w2.heap.size,cells2.toList,by rw [hcl,List.length_nil,Nat.zero_add],((hr5.far hne _).far hne _).far hne _,by rw [hcl,List.length_nil,Nat.zero_add];exact hnc4,rfl,by rw [hcl];exact hmx⟩,by simp [Value.ownBlock];omega,fun k hk=>by simp [Value.ownBlock]at hk;omega,?_,grown_again (grown_again (grown_again hgr4 o _) (o+1) _) o _⟩
   rw [←hsz]
   have:=((hg4.set o (.slice (some ⟨w2.heap.size,0,none⟩) 0 cap2)).set (o+1) (.int .i64 0)).set o (.slice (some ⟨w2.heap.size,0,none⟩) n cap2)
   rw [set_back _ _ _ _ _ h1]at this
   exact this)
theorem bufGrow_row (g o:Nat)(T:TypeId)(cells:List Value)(n r:Nat)(cs:List Value)(acc:BS)(w:World)(hg:Blk w g T cells)(h0:cells[o]?=some (.slice (some ⟨r,0,none⟩) acc.length cs.length))(h1:cells[o+1]?=some (.int .i64 0))
 (hr:Blk w r 5 cs)(hac:acc.length≤cs.length)(hcs:cs.take acc.length=byts acc)(ha0:0<acc.length)(hno: ¬acc.length+n≤cs.length)(hn:acc.length+n≤140737488355328):
 Calls Tryz.prog 246 #[.pointer (some ⟨g,o,none⟩), .int .i64 n] w (GrowPost w g o T cells acc n):=by
 obtain⟨l,hl⟩: ∃l,Hid (l=acc.length):=⟨_,Lib.hid rfl⟩
 obtain⟨c,hc⟩: ∃c,Hid (c=cs.length):=⟨_,Lib.hid rfl⟩
 rw [←hl.out,←hc.out]at h0 hac hno
 rw [←hl.out]at hcs ha0 hn
 have hcm:c≤140737488355328:=by omega
 have hn0:1≤n:=by omega
 have c0:=hg.cell o _ h0
 have f0:=hg.frozen o
 have c1:=hg.cell (o+1) _ h1
 have f1:=hg.frozen (o+1)
 have hl0: ¬((l:Int)=0):=by omega
 go_enter Tryz.func246,Tryz.ntmps246
 go_wp2_with fail
 refine(bufLen_any g o T cells _ l c w hg h0 h1 (by omega)).mono ?_
 rintro e w1 ⟨rfl,q,rfl⟩
 have hg1:Blk (w.drewN q) g T cells:=hg
 have hr1:Blk (w.drewN q) r 5 cs:=hr
 have hgr1:w.grownBy (w.drewN q) (some g):=⟨rfl,rfl,rfl,Nat.le_refl _,fun _ _ _=>rfl⟩
 have hsz:(w.drewN q).heap.size=w.heap.size:=rfl
 generalize w.drewN q=w1 at*
 have c0':=hg1.cell o _ h0
 have f0':=hg1.frozen o
 have c1':=hg1.cell (o+1) _ h1
 have f1':=hg1.frozen (o+1)
 go_wp2_with fail
 refine(bufTry_any g o T cells _ l c n w1 hg1 h0 hac (by unfold maxLen;omega) (by omega)).mono ?_
 rintro e w2 (⟨hx,_,_⟩|⟨_,rfl,rfl⟩)
 ·omega
 have hq:(binOp .eql 22 (.slice (some ⟨r,0,none⟩) l c) (.slice none 0 0)).run Tryz.prog w2= .ok (.bool false) w2:=Lib.run_eql_slice_nil w2 22 5 (some ⟨r,0,none⟩) l c 0 0 Tryz.underlying22
 have b1: ¬((n:Int)≤(c:Int).tdiv 2-(l:Int)):=by
  rw [Int.tdiv_eq_ediv_of_nonneg (by omega)];omega
 have b2:(0:Int)≤(c:Int).tdiv 2:=by rw [Int.tdiv_eq_ediv_of_nonneg (by omega)];omega
 have b3:(c:Int).tdiv 2≤(c:Int):=by rw [Int.tdiv_eq_ediv_of_nonneg (by omega)];omega
 have b4: ¬((c:Int)>9223372036854775807-(c:Int)-(n:Int)):=by omega
 have b5: ¬(9223372036854775807-(c:Int)-(n:Int)<(c:Int)):=by omega
 have w1x:(0:Int)≤(l:Int)+(n:Int):=by omega
 have w2x:(l:Int)+(n:Int)≤140737488355328:=by omega
 have hlt:=hg.lt
 have mixed:Tryz.prog.follows Departure.mixedOrders=true:=by kernel_rfl
 have hwn:IntKind.i64.wrap (n:Int)=n:=by rw [IntKind.wrap_i64];omega
 go_wp2_with fail
 have hgs:=Tryz.bytes_growSlice_row r l c n cs.toArray w2.drew hr1 (by simpa using hc.out.symm) hac hn0 hn hcm (by show∀v∈cs.take l,_;rw [hcs];exact byts_one _)
 have hcap: ¬c=0:=by omega
 have z1:((c==0)=false):=by simpa using hcap
 go_region_with_o (
  go_at_call 249
  refine hgs.mono ?_
  rintro e w4 ⟨cap2,cells2,rfl,hr4,hcs4,htk4,hnc4,hmx4,hb4⟩
  have hg4:Blk w4 g T cells:=hg1.drew.below hb4 hg1.lt
  have d0:=hg4.cell o _ h0
  have d1:=hg4.cell (o+1) _ h1
  have e0:=hg4.frozen o
  have e1:=hg4.frozen (o+1)
  have b6:(l:Int)+(n:Int)≤(cap2:Int):=by omega)
 all_goals(
  go_wp2
  go_ret
  have hB4:w.heap.size≤w4.heap.size:=by rw [←hsz];exact hb4.size
  have hgr4:w.grownBy w4 (some g):=⟨hb4.os.trans hgr1.os,hb4.tape.trans hgr1.tape,hb4.output.trans hgr1.output,hB4,fun k hk hne=>(hb4.block k (by rw [←hsz]at hk;exact hk)).trans (hgr1.block k hk hne)⟩
  have hr5:Blk w4 w2.heap.size 5 cells2.toList:=hr4
  have hcl:cells2.toList.length=cap2:=by simpa using hcs4
  have hmx:cap2≤maxLen:=hmx4
  have hne:w2.heap.size≠g:=by omega
  refine⟨by rw [hl.out];rfl, .slice (some ⟨w2.heap.size,0,none⟩) (l+n) cap2,⟨w2.heap.size,cells2.toList,by rw [hcl,hl.out],((hr5.far hne _).far hne _).far hne _,by rw [hcl,←hl.out];exact hnc4,?_,by rw [hcl];exact hmx⟩,by simp [Value.ownBlock];omega,fun k hk=>by simp [Value.ownBlock]at hk;omega,?_,grown_again (grown_again (grown_again hgr4 o _) (o+1) _) o _⟩
  ·rw [←hl.out,htk4];exact hcs
  ·rw [←hsz]
   have:=((hg4.set o (.slice (some ⟨w2.heap.size,0,none⟩) l cap2)).set (o+1) (.int .i64 0)).set o (.slice (some ⟨w2.heap.size,0,none⟩) (l+n) cap2)
   rw [set_back _ _ _ _ _ h1]at this
   exact this)
def WrPost (w:World)(g o:Nat)(T:TypeId)(cells:List Value)(bv:Value)(acc l:BS)(e:Ending)(w':World):Prop:=
 e= .returned (.tuple #[.int .i64 l.length, .nilIface])∧∃v,BufV w' v (acc++l)∧v.ownBlock≠some g∧(∀k,v.ownBlock=some k→bv.ownBlock=some k∨w.heap.size≤k)∧Blk w' g T ((cells.set (o+2) (.int .i8 0)).set o v)∧Frm (fun k=>k=g∨some k=bv.ownBlock) w w'
theorem run_copy_none (sT:TypeId)(x:Value)(w:World)(hx:Cpy w x 0 []):(Builtin.copy_ #[22,sT] 3 #[.slice none 0 0,x]).run Tryz.prog w= .ok (.int .i64 0) w:=by
 obtain⟨⟨L,hL,hmin⟩,h1,hf⟩:=hx
 obtain⟨i,hi,_,hs,_⟩:=info_parts Tryz.info5
 have hd:(Builtin.lenOf (.slice none 0 0)).run Tryz.prog w= .ok 0 w:=by simp [Builtin.lenOf]
 have hmin':min L 0=0:=by omega
 unfold Builtin.copy_
 simp only [List.length_nil]at hf
 simp [run_underlying Tryz.underlying22,sizeOf,typeInfo,hi,hs,hL,hd,hmin',hf,goInt,storeCells]
theorem buf_tail {w3:World} {g r:Nat} {T:TypeId} {cells cs:List Value} {acc l:BS} (hg:Blk w3 g T cells)(hr:Blk w3 r 5 cs)(hfit:acc.length+l.length≤cs.length)(hcs:cs.take acc.length=byts acc)(hm:cs.length≤maxLen)(hrg:r≠g)(h0:0<(acc++l).length):
 Blk (w3.setRow r (cs.take acc.length++byts l++cs.drop (acc.length+(byts l).length)).toArray) g T cells∧BufV (w3.setRow r (cs.take acc.length++byts l++cs.drop (acc.length+(byts l).length)).toArray) (.slice (some ⟨r,0,none⟩) (acc.length+l.length) cs.length) (acc++l):=by
 refine⟨hg.grown (gsR _ _ _) (fun e=>hrg (by injection e with e;exact e.symm)), .inr ⟨r,_,h0,?_,hr.setRow _,?_,?_,?_⟩⟩
 ·have:(cs.take acc.length++byts l++cs.drop (acc.length+(byts l).length)).length=cs.length:=by
   simp only [List.length_append,List.length_take,List.length_drop,byL];omega
  rw [this,List.length_append]
 ·simp only [List.length_append,List.length_take,List.length_drop,byL];omega
 ·rw [hcs,List.take_left' (by simp [byL])]
  simp [byts]
 ·simp only [List.length_append,List.length_take,List.length_drop,byL];omega
theorem bufWriteString_any (g o:Nat)(T:TypeId)(cells:List Value)(bv:Value)(acc l:BS)(lr:Int)(w:World)(hg:Blk w g T cells)(h0:cells[o]?=some bv)(h1:cells[o+1]?=some (.int .i64 0))(h2:cells[o+2]?=some (.int .i8 lr))
 (hb:BufV w bv acc)(hbg:bv.ownBlock≠some g)(hn:acc.length+l.length≤140737488355328)(hle:l≠ []∨acc= []):
 Calls Tryz.prog 244 #[.pointer (some ⟨g,o,none⟩),Str l] w (WrPost w g o T cells bv acc l):=by
 have ff:=hg.frozen (o+2)
 have c2:=hg.cell (o+2) _ h2
 obtain⟨cl,hcl⟩: ∃cl,Hid (cl=cells.set (o+2) (.int .i8 0)):=⟨_,Lib.hid rfl⟩
 obtain⟨n,hnl⟩: ∃n,Hid (n=l.length):=⟨_,Lib.hid rfl⟩
 have Hle:=Lib.hid hle
 rw [←hnl.out]at hn
 have hg1:Blk (w.setCell ⟨g,o+2,none⟩ (.int .i8 0)) g T cl:=by rw [hcl.out];exact hg.set _ _
 have k0:cl[o]?=some bv:=by rw [hcl.out,List.getElem?_set];simp [h0]
 have k1:cl[o+1]?=some (.int .i64 0):=by rw [hcl.out,List.getElem?_set];simp [h1]
 have hF1:Frm (fun k=>k=g∨some k=bv.ownBlock) w (w.setCell ⟨g,o+2,none⟩ (.int .i8 0)):=(Frm.refl _ w).setCell _ _ (fun _=> .inl rfl)
 have hsz:(w.setCell ⟨g,o+2,none⟩ (.int .i8 0)).heap.size=w.heap.size:=szC _ _ _
 have hb1:BufV (w.setCell ⟨g,o+2,none⟩ (.int .i8 0)) bv acc:=by
  rcases hb with hb|⟨r,cs,q0,rfl,hr,q1,q2,q3⟩
  ·exact .inl hb
  ·exact .inr ⟨r,cs,q0,rfl,hr.far (p:=⟨g,o+2,none⟩) (fun e=>hbg (congrArg some e)) _,q1,q2,q3⟩
 have hgw:=hg.lt
 go_enter Tryz.func244,Tryz.ntmps244
 go_wp2_with fail
 generalize w.setCell ⟨g,o+2,none⟩ (.int .i8 0)=w1 at*
 rw [show((l.length:Nat):Int)=(n:Int) by rw [hnl.out]]
 clear hb c2 ff
 rcases hb1 with⟨rfl,rfl⟩|⟨r,cs,q0,rfl,hr,q1',q2,q3⟩
 ·refine(bufTry_any g o T cl none 0 0 n w1 hg1 k0 (Nat.le_refl _) (by unfold maxLen;omega) (by simpa using hn)).mono ?_
  rintro e w2 (⟨hx,rfl,rfl⟩|⟨hx,rfl,rfl⟩)
  ·have hn0:n=0:=by omega
   have hl0:l= []:=List.eq_nil_of_length_eq_zero (by rw [←hnl.out];exact hn0)
   subst hn0
   subst hl0
   have hg2:=hg1.set o (.slice none (0+0) 0)
   have cc:=hg2.cell o (.slice none 0 0) (by rw [List.getElem?_set];simp;exact(List.getElem?_eq_some_iff.1 k0).1)
   have hF2:=hF1.setCell ⟨g,o,none⟩ (.slice none (0+0) 0) (fun _=> .inl rfl)
   generalize w1.setCell ⟨g,o,none⟩ (.slice none (0+0) 0)=w2 at*
   skip
   have hrun:=run_copy_none 9 (Str []) w2 (by have:=Cpy.str w2 ([]:BS) 0;simpa [byts]using this)
   go_wp2_with (at_builtin;refine Lib.wpList_copy_run _ rfl (.tmp 29) (.tmp 30) 22 9 rfl _ _ rfl rfl hrun ?_)
   go_ret2
   rw [hcl.out]at hg2
   exact⟨rfl,_, .inl ⟨rfl,rfl⟩,by simp [Value.ownBlock],fun k hk=>by simp [Value.ownBlock]at hk,hg2,hF2⟩
  ·have hn0:0<n:=by omega
   go_wp2_with fail
   rw [show((l.length:Nat):Int)=(n:Int) by rw [hnl.out]]
   refine(bufGrow_nil g o T cl n w2 hg1 k0 k1 hn0 (by simpa using hn)).mono ?_
   rintro e w3 ⟨rfl,v,⟨r3,cs3,rfl,hr3,q1,q2,q3⟩,hvg,hvk,hg3,hgr3⟩
   have hrg:r3≠g:=fun e=>hvg (by rw [e];rfl)
   have hr3s:w.heap.size≤r3:=by rw [←hsz];exact hvk r3 rfl
   have hF3:=hF1.after (Frm.of_grown hgr3) (fun k _ e=> .inl (by injection e))
   skip
   have cc:=hg3.cell o _ (by rw [List.getElem?_set,if_pos rfl,if_pos (List.getElem?_eq_some_iff.1 k0).1])
   have hrun:=run_copy_blk hr3 9 3 0 n cs3.length (Str l) (byts l) (by have:=Cpy.str w3 l n;rwa [hnl.out,List.take_length,←hnl.out]at this) (by rw [byL,←hnl.out];exact(by simpa using q1))
   rw [byL,←hnl.out]at hrun
   have x1:(0:Int)≤(n:Int):=by omega
   have x3:n≤cs3.length:=by simpa using q1
   have x4:(n:Int)≤(cs3.length:Int):=by omega
   have x5: ¬cs3.length=0:=by omega
   have hq1:([]:BS).length+l.length≤cs3.length:=by rw [←hnl.out];exact q1
   obtain⟨hgT,hbT⟩:=buf_tail (l:=l) hg3 hr3 hq1 q2 q3 hrg (by rw [List.length_append,←hnl.out];omega)
   have hFT:=hF3.after (Frm.of_grown (gsR w3 r3 (cs3.take 0++byts l++cs3.drop (0+(byts l).length)).toArray)) (fun k hk e=>by injection e with e;subst e;have:=hr3s;omega)
   simp only [List.length_nil,Nat.zero_add]at q1 hgT hbT hFT hrun hg3 cc
   rw [byL,←hnl.out]at hgT hbT hFT
   generalize World.setRow w3 r3 _=wz at hrun hgT hbT hFT
   clear hr3
   have Hq2:=Lib.hid q2;have Hq1:=Lib.hid hq1
   clear q2 hq1
   go_wp2_with (at_builtin;refine Lib.wpList_copy_run _ rfl (.tmp 29) (.tmp 30) 22 9 rfl _ _ rfl rfl hrun ?_)
   go_ret2
   refine⟨by rw [←hnl.out];rfl,_,hbT,fun e=>hrg (by injection e),fun k hk=>by injection hk with hk;subst hk;exact .inr hr3s,?_,hFT⟩
   rw [hcl.out]at hgT
   exact hgT
 ·have hn0:0<n:=by
   rcases Hle.out with h|h
   ·rw [hnl.out];exact List.length_pos_iff.2 h
   ·rw [h]at q0;simp at q0
  refine(bufTry_any g o T cl _ acc.length cs.length n w1 hg1 k0 q1' q3 (by omega)).mono ?_
  rintro e w2 (⟨hx,rfl,rfl⟩|⟨hx,rfl,rfl⟩)
  ·have hrg:r≠g:=fun e=>hbg (congrArg some e)
   have hg3:=hg1.set o (.slice (some ⟨r,0,none⟩) (acc.length+n) cs.length)
   have hr3:=hr.far (p:=⟨g,o,none⟩) hrg (.slice (some ⟨r,0,none⟩) (acc.length+n) cs.length)
   have hF3:=hF1.setCell ⟨g,o,none⟩ (.slice (some ⟨r,0,none⟩) (acc.length+n) cs.length) (fun _=> .inl rfl)
   generalize w1.setCell ⟨g,o,none⟩ (.slice (some ⟨r,0,none⟩) (acc.length+n) cs.length)=w3 at*
   skip
   obtain⟨r3,rfl⟩: ∃r3,r3=r:=⟨_,rfl⟩
   obtain⟨cs3,rfl⟩: ∃cs3,cs3=cs:=⟨_,rfl⟩
   have q1:=hx
   have cc:=hg3.cell o _ (by rw [List.getElem?_set,if_pos rfl,if_pos (List.getElem?_eq_some_iff.1 k0).1])
   have hrun:=run_copy_blk hr3 9 3 acc.length n (cs3.length-acc.length) (Str l) (byts l) (by have:=Cpy.str w3 l n;rwa [hnl.out,List.take_length,←hnl.out]at this) (by rw [byL,←hnl.out];exact q1)
   rw [byL,←hnl.out]at hrun
   have x1:(acc.length:Int)≤(acc.length:Int)+(n:Int):=by omega
   have x2:acc.length≤acc.length+n:=by omega
   have x3:acc.length+n≤cs3.length:=q1
   have x4:(acc.length:Int)+(n:Int)≤(cs3.length:Int):=by omega
   have x5: ¬cs3.length=acc.length:=by omega
   have x6:acc.length+n-acc.length=n:=by omega
   have hq1:acc.length+l.length≤cs3.length:=by rw [←hnl.out];exact q1
   obtain⟨hgT,hbT⟩:=buf_tail (l:=l) hg3 hr3 hq1 q2 q3 hrg (by rw [List.length_append,←hnl.out];omega)
   have hFT:=hF3.after (Frm.of_grown (gsR w3 r3 (cs3.take acc.length++byts l++cs3.drop (acc.length+(byts l).length)).toArray)) (fun k hk e=> .inr e)
   rw [byL,←hnl.out]at hgT hbT hFT
   generalize World.setRow w3 r3 _=wz at hrun hgT hbT hFT
   clear hr3
   have Hq2:=Lib.hid q2;have Hq1:=Lib.hid hq1
   clear q2 hq1
   go_wp2_with (at_builtin;refine Lib.wpList_copy_run _ rfl (.tmp 29) (.tmp 30) 22 9 rfl _ _ rfl rfl hrun ?_)
   go_ret2
   refine⟨by rw [←hnl.out];rfl,_,hbT,fun e=>hrg (by injection e),fun k hk=>by injection hk with hk;subst hk;exact .inl rfl,?_,hFT⟩
   rw [hcl.out]at hgT
   exact hgT
  ·go_wp2_with fail
   rw [show((l.length:Nat):Int)=(n:Int) by rw [hnl.out]]
   refine(bufGrow_row g o T cl n r cs acc w2 hg1 k0 k1 hr q1' q2 q0 hx hn).mono ?_
   clear q2 q3
   rintro e w3 ⟨rfl,v,⟨r3,cs3,rfl,hr3,q1,q2,q3⟩,hvg,hvk,hg3,hgr3⟩
   have hrg:r3≠g:=fun e=>hvg (by rw [e];rfl)
   have hr3s:w.heap.size≤r3:=by rw [←hsz];exact hvk r3 rfl
   have hF3:=hF1.after (Frm.of_grown hgr3) (fun k _ e=> .inl (by injection e))
   skip
   have cc:=hg3.cell o _ (by rw [List.getElem?_set,if_pos rfl,if_pos (List.getElem?_eq_some_iff.1 k0).1])
   have hrun:=run_copy_blk hr3 9 3 acc.length n (cs3.length-acc.length) (Str l) (byts l) (by have:=Cpy.str w3 l n;rwa [hnl.out,List.take_length,←hnl.out]at this) (by rw [byL,←hnl.out];exact q1)
   rw [byL,←hnl.out]at hrun
   have x1:(acc.length:Int)≤(acc.length:Int)+(n:Int):=by omega
   have x2:acc.length≤acc.length+n:=by omega
   have x3:acc.length+n≤cs3.length:=q1
   have x4:(acc.length:Int)+(n:Int)≤(cs3.length:Int):=by omega
   have x5: ¬cs3.length=acc.length:=by omega
   have x6:acc.length+n-acc.length=n:=by omega
   have hq1:acc.length+l.length≤cs3.length:=by rw [←hnl.out];exact q1
   obtain⟨hgT,hbT⟩:=buf_tail (l:=l) hg3 hr3 hq1 q2 q3 hrg (by rw [List.length_append,←hnl.out];omega)
   have hFT:=hF3.after (Frm.of_grown (gsR w3 r3 (cs3.take acc.length++byts l++cs3.drop (acc.length+(byts l).length)).toArray)) (fun k hk e=>by injection e with e;subst e;have:=hr3s;omega)
   rw [byL,←hnl.out]at hgT hbT hFT
   generalize World.setRow w3 r3 _=wz at hrun hgT hbT hFT
   clear hr3
   have Hq2:=Lib.hid q2;have Hq1:=Lib.hid hq1
   clear q2 hq1
   go_wp2_with (at_builtin;refine Lib.wpList_copy_run _ rfl (.tmp 29) (.tmp 30) 22 9 rfl _ _ rfl rfl hrun ?_)
   go_ret2
   refine⟨by rw [←hnl.out];rfl,_,hbT,fun e=>hrg (by injection e),fun k hk=>by injection hk with hk;subst hk;exact .inr hr3s,?_,hFT⟩
   rw [hcl.out]at hgT
   exact hgT
theorem bufWrite_any (g o:Nat)(T:TypeId)(cells:List Value)(bv pv:Value)(acc l:BS)(lr:Int)(w:World)(hg:Blk w g T cells)(h0:cells[o]?=some bv)(h1:cells[o+1]?=some (.int .i64 0))(h2:cells[o+2]?=some (.int .i8 lr))
 (hb:BufV w bv acc)(hbg:bv.ownBlock≠some g)(hp:Rd w pv (byts l))(hpS: ∀k,pv.ownBlock=some k→¬(k=g∨some k=bv.ownBlock))(hn:acc.length+l.length≤140737488355328)(hle:l≠ []∨acc= []):
 Calls Tryz.prog 243 #[.pointer (some ⟨g,o,none⟩),pv] w (WrPost w g o T cells bv acc l):=by
 have ff:=hg.frozen (o+2)
 have c2:=hg.cell (o+2) _ h2
 obtain⟨cl,hcl⟩: ∃cl,Hid (cl=cells.set (o+2) (.int .i8 0)):=⟨_,Lib.hid rfl⟩
 obtain⟨n,hnl⟩: ∃n,Hid (n=l.length):=⟨_,Lib.hid rfl⟩
 have Hle:=Lib.hid hle
 rw [←hnl.out]at hn
 have hg1:Blk (w.setCell ⟨g,o+2,none⟩ (.int .i8 0)) g T cl:=by rw [hcl.out];exact hg.set _ _
 have k0:cl[o]?=some bv:=by rw [hcl.out,List.getElem?_set];simp [h0]
 have k1:cl[o+1]?=some (.int .i64 0):=by rw [hcl.out,List.getElem?_set];simp [h1]
 have hF1:Frm (fun k=>k=g∨some k=bv.ownBlock) w (w.setCell ⟨g,o+2,none⟩ (.int .i8 0)):=(Frm.refl _ w).setCell _ _ (fun _=> .inl rfl)
 have hsz:(w.setCell ⟨g,o+2,none⟩ (.int .i8 0)).heap.size=w.heap.size:=szC _ _ _
 have hb1:BufV (w.setCell ⟨g,o+2,none⟩ (.int .i8 0)) bv acc:=by
  rcases hb with hb|⟨r,cs,q0,rfl,hr,q1,q2,q3⟩
  ·exact .inl hb
  ·exact .inr ⟨r,cs,q0,rfl,hr.far (p:=⟨g,o+2,none⟩) (fun e=>hbg (congrArg some e)) _,q1,q2,q3⟩
 have hgw:=hg.lt
 obtain⟨A,pc,rfl⟩: ∃A pc,pv= .slice A n pc:=by obtain⟨A,pc,e,_⟩:=hp;exact⟨A,pc,by rw [e,byL,hnl.out]⟩
 go_enter Tryz.func243,Tryz.ntmps243
 go_wp2_with fail
 generalize w.setCell ⟨g,o+2,none⟩ (.int .i8 0)=w1 at*
 clear hb c2 ff
 rcases hb1 with⟨rfl,rfl⟩|⟨r,cs,q0,rfl,hr,q1',q2,q3⟩
 ·refine(bufTry_any g o T cl none 0 0 n w1 hg1 k0 (Nat.le_refl _) (by unfold maxLen;omega) (by simpa using hn)).mono ?_
  rintro e w2 (⟨hx,rfl,rfl⟩|⟨hx,rfl,rfl⟩)
  ·have hn0:n=0:=by omega
   have hl0:l= []:=List.eq_nil_of_length_eq_zero (by rw [←hnl.out];exact hn0)
   clear hn
   subst hn0
   subst hl0
   have hg2:=hg1.set o (.slice none (0+0) 0)
   have cc:=hg2.cell o (.slice none 0 0) (by rw [List.getElem?_set];simp;exact(List.getElem?_eq_some_iff.1 k0).1)
   have hF2:=hF1.setCell ⟨g,o,none⟩ (.slice none (0+0) 0) (fun _=> .inl rfl)
   generalize w1.setCell ⟨g,o,none⟩ (.slice none (0+0) 0)=w2 at*
   have hpw:=hp.frm hF2 hpS
   have hrun:=run_copy_none 22 (.slice A 0 pc) w2 (by have:=Cpy.rd hpw 0;simpa [byts]using this)
   go_wp2_with (at_builtin;refine Lib.wpList_copy_run _ rfl (.tmp 29) (.tmp 30) 22 22 rfl _ _ rfl rfl hrun ?_)
   go_ret2
   rw [hcl.out]at hg2
   exact⟨rfl,_, .inl ⟨rfl,rfl⟩,by simp [Value.ownBlock],fun k hk=>by simp [Value.ownBlock]at hk,hg2,hF2⟩
  ·have hn0:0<n:=by omega
   go_wp2_with fail
   skip
   refine(bufGrow_nil g o T cl n w2 hg1 k0 k1 hn0 (by simpa using hn)).mono ?_
   rintro e w3 ⟨rfl,v,⟨r3,cs3,rfl,hr3,q1,q2,q3⟩,hvg,hvk,hg3,hgr3⟩
   have hrg:r3≠g:=fun e=>hvg (by rw [e];rfl)
   have hr3s:w.heap.size≤r3:=by rw [←hsz];exact hvk r3 rfl
   have hF3:=hF1.after (Frm.of_grown hgr3) (fun k _ e=> .inl (by injection e))
   have hpw:=hp.frm hF3 hpS
   have cc:=hg3.cell o _ (by rw [List.getElem?_set,if_pos rfl,if_pos (List.getElem?_eq_some_iff.1 k0).1])
   have hrun:=run_copy_blk hr3 22 3 0 n cs3.length (.slice A n pc) (byts l) (by have:=Cpy.rd hpw n;rwa [show l.take n=l by rw [hnl.out,List.take_length]]at this) (by rw [byL,←hnl.out];exact(by simpa using q1))
   rw [byL,←hnl.out]at hrun
   have x1:(0:Int)≤(n:Int):=by omega
   have x3:n≤cs3.length:=by simpa using q1
   have x4:(n:Int)≤(cs3.length:Int):=by omega
   have x5: ¬cs3.length=0:=by omega
   have hq1:([]:BS).length+l.length≤cs3.length:=by rw [←hnl.out];exact q1
   obtain⟨hgT,hbT⟩:=buf_tail (l:=l) hg3 hr3 hq1 q2 q3 hrg (by rw [List.length_append,←hnl.out];omega)
   have hFT:=hF3.after (Frm.of_grown (gsR w3 r3 (cs3.take 0++byts l++cs3.drop (0+(byts l).length)).toArray)) (fun k hk e=>by injection e with e;subst e;have:=hr3s;omega)
   simp only [List.length_nil,Nat.zero_add]at q1 hgT hbT hFT hrun hg3 cc
   rw [byL,←hnl.out]at hgT hbT hFT
   generalize World.setRow w3 r3 _=wz at hrun hgT hbT hFT
   clear hr3
   have Hq2:=Lib.hid q2;have Hq1:=Lib.hid hq1
   clear q2 hq1
   go_wp2_with (at_builtin;refine Lib.wpList_copy_run _ rfl (.tmp 29) (.tmp 30) 22 22 rfl _ _ rfl rfl hrun ?_)
   go_ret2
   refine⟨by rw [←hnl.out];rfl,_,hbT,fun e=>hrg (by injection e),fun k hk=>by injection hk with hk;subst hk;exact .inr hr3s,?_,hFT⟩
   rw [hcl.out]at hgT
   exact hgT
 ·have hn0:0<n:=by
   rcases Hle.out with h|h
   ·rw [hnl.out];exact List.length_pos_iff.2 h
   ·rw [h]at q0;simp at q0
  refine(bufTry_any g o T cl _ acc.length cs.length n w1 hg1 k0 q1' q3 (by omega)).mono ?_
  rintro e w2 (⟨hx,rfl,rfl⟩|⟨hx,rfl,rfl⟩)
  ·have hrg:r≠g:=fun e=>hbg (congrArg some e)
   have hg3:=hg1.set o (.slice (some ⟨r,0,none⟩) (acc.length+n) cs.length)
   have hr3:=hr.far (p:=⟨g,o,none⟩) hrg (.slice (some ⟨r,0,none⟩) (acc.length+n) cs.length)
   have hF3:=hF1.setCell ⟨g,o,none⟩ (.slice (some ⟨r,0,none⟩) (acc.length+n) cs.length) (fun _=> .inl rfl)
   generalize w1.setCell ⟨g,o,none⟩ (.slice (some ⟨r,0,none⟩) (acc.length+n) cs.length)=w3 at*
   have hpw:=hp.frm hF3 hpS
   obtain⟨r3,rfl⟩: ∃r3,r3=r:=⟨_,rfl⟩
   obtain⟨cs3,rfl⟩: ∃cs3,cs3=cs:=⟨_,rfl⟩
   have q1:=hx
   have cc:=hg3.cell o _ (by rw [List.getElem?_set,if_pos rfl,if_pos (List.getElem?_eq_some_iff.1 k0).1])
   have hrun:=run_copy_blk hr3 22 3 acc.length n (cs3.length-acc.length) (.slice A n pc) (byts l) (by have:=Cpy.rd hpw n;rwa [show l.take n=l by rw [hnl.out,List.take_length]]at this) (by rw [byL,←hnl.out];exact q1)
   rw [byL,←hnl.out]at hrun
   have x1:(acc.length:Int)≤(acc.length:Int)+(n:Int):=by omega
   have x2:acc.length≤acc.length+n:=by omega
   have x3:acc.length+n≤cs3.length:=q1
   have x4:(acc.length:Int)+(n:Int)≤(cs3.length:Int):=by omega
   have x5: ¬cs3.length=acc.length:=by omega
   have x6:acc.length+n-acc.length=n:=by omega
   have hq1:acc.length+l.length≤cs3.length:=by rw [←hnl.out];exact q1
   obtain⟨hgT,hbT⟩:=buf_tail (l:=l) hg3 hr3 hq1 q2 q3 hrg (by rw [List.length_append,←hnl.out];omega)
   have hFT:=hF3.after (Frm.of_grown (gsR w3 r3 (cs3.take acc.length++byts l++cs3.drop (acc.length+(byts l).length)).toArray)) (fun k hk e=> .inr e)
   rw [byL,←hnl.out]at hgT hbT hFT
   generalize World.setRow w3 r3 _=wz at hrun hgT hbT hFT
   clear hr3
   have Hq2:=Lib.hid q2;have Hq1:=Lib.hid hq1
   clear q2 hq1
   go_wp2_with (at_builtin;refine Lib.wpList_copy_run _ rfl (.tmp 29) (.tmp 30) 22 22 rfl _ _ rfl rfl hrun ?_)
   go_ret2
   refine⟨by rw [←hnl.out];rfl,_,hbT,fun e=>hrg (by injection e),fun k hk=>by injection hk with hk;subst hk;exact .inl rfl,?_,hFT⟩
   rw [hcl.out]at hgT
   exact hgT
  ·go_wp2_with fail
   skip
   refine(bufGrow_row g o T cl n r cs acc w2 hg1 k0 k1 hr q1' q2 q0 hx hn).mono ?_
   clear q2 q3
   rintro e w3 ⟨rfl,v,⟨r3,cs3,rfl,hr3,q1,q2,q3⟩,hvg,hvk,hg3,hgr3⟩
   have hrg:r3≠g:=fun e=>hvg (by rw [e];rfl)
   have hr3s:w.heap.size≤r3:=by rw [←hsz];exact hvk r3 rfl
   have hF3:=hF1.after (Frm.of_grown hgr3) (fun k _ e=> .inl (by injection e))
   have hpw:=hp.frm hF3 hpS
   have cc:=hg3.cell o _ (by rw [List.getElem?_set,if_pos rfl,if_pos (List.getElem?_eq_some_iff.1 k0).1])
   have hrun:=run_copy_blk hr3 22 3 acc.length n (cs3.length-acc.length) (.slice A n pc) (byts l) (by have:=Cpy.rd hpw n;rwa [show l.take n=l by rw [hnl.out,List.take_length]]at this) (by rw [byL,←hnl.out];exact q1)
   rw [byL,←hnl.out]at hrun
   have x1:(acc.length:Int)≤(acc.length:Int)+(n:Int):=by omega
   have x2:acc.length≤acc.length+n:=by omega
   have x3:acc.length+n≤cs3.length:=q1
   have x4:(acc.length:Int)+(n:Int)≤(cs3.length:Int):=by omega
   have x5: ¬cs3.length=acc.length:=by omega
   have x6:acc.length+n-acc.length=n:=by omega
   have hq1:acc.length+l.length≤cs3.length:=by rw [←hnl.out];exact q1
   obtain⟨hgT,hbT⟩:=buf_tail (l:=l) hg3 hr3 hq1 q2 q3 hrg (by rw [List.length_append,←hnl.out];omega)
   have hFT:=hF3.after (Frm.of_grown (gsR w3 r3 (cs3.take acc.length++byts l++cs3.drop (acc.length+(byts l).length)).toArray)) (fun k hk e=>by injection e with e;subst e;have:=hr3s;omega)
   rw [byL,←hnl.out]at hgT hbT hFT
   generalize World.setRow w3 r3 _=wz at hrun hgT hbT hFT
   clear hr3
   have Hq2:=Lib.hid q2;have Hq1:=Lib.hid hq1
   clear q2 hq1
   go_wp2_with (at_builtin;refine Lib.wpList_copy_run _ rfl (.tmp 29) (.tmp 30) 22 22 rfl _ _ rfl rfl hrun ?_)
   go_ret2
   refine⟨by rw [←hnl.out];rfl,_,hbT,fun e=>hrg (by injection e),fun k hk=>by injection hk with hk;subst hk;exact .inr hr3s,?_,hFT⟩
   rw [hcl.out]at hgT
   exact hgT
end Go.Proofs.YtgilnagajcfkpaaGreatDoor
