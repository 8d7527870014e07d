import Derived.Test.YtgilnagajcfkpaaGreatDoorQ15
set_option maxHeartbeats 4000000
set_option maxRecDepth 1000000
set_option linter.all false
namespace Go.Proofs.YtgilnagajcfkpaaGreatDoor
open Go.RowKit
def SrcAt (w:World)(rd:Value)(h:Nat)(s:BS)(i g bb:Nat):Prop:=
 (rd= .iface 76 (.pointer (some ⟨h,0,none⟩))∧∃p:Int,Blk w h 132 [Str s, .int .i64 i, .int .i64 p])∨
 (rd= .iface 238 (.pointer (some ⟨h,0,none⟩))∧∃(p:Int)(A:Option Addr)(sc:Nat),Rd w (.slice A s.length sc) (byts s)∧(∀k,(Value.slice A s.length sc).ownBlock=some k→k≠h∧k≠g∧k≠bb∧k<h)∧Blk w h 277 [.slice A s.length sc, .int .i64 i, .int .i64 p])
theorem SrcAt.frm {S:Nat→Prop} {w w':World} {rd:Value} {h:Nat} {s:BS} {i g bb:Nat} (hs:SrcAt w rd h s i g bb)(hF:Frm S w w')(hS: ∀k,S k→k=g∨k=bb)(hg:h≠g)(hb:h≠bb):SrcAt w' rd h s i g bb:=by
 have hh: ¬S h:=fun e=>(hS h e).elim hg hb
 rcases hs with⟨rfl,p,hp⟩|⟨rfl,p,A,sc,hr,hA,hp⟩
 ·exact .inl ⟨rfl,p,hp.frm hF hh⟩
 ·exact .inr ⟨rfl,p,A,sc,hr.frm hF (fun k hk e=>(hS k e).elim (hA k hk).2.1 (hA k hk).2.2.1),hA,hp.frm hF hh⟩
def bioCells (bb:Nat)(rd:Value)(r n1:Nat)(lb lr:Int):List Value:= [.slice (some ⟨bb,0,none⟩) 4096 4096,rd, .int .i64 r, .int .i64 n1, .nilIface, .int .i64 lb, .int .i64 lr]
def FillPost (w:World)(g bb h:Nat)(rd:Value)(s:BS)(i:Nat)(d:BS)(e:Ending)(w':World):Prop:=
 e= .returned (.tuple #[])∧∃(m:Nat) (cs:BS) (lb lr:Int),0<m∧i+m≤s.length∧d.length+m≤4096∧Blk w' g 263 (bioCells bb rd 0 (d.length+m) lb lr)∧Blk w' bb 5 (byts cs)∧cs.length=4096∧cs.take (d.length+m)=d++(s.drop i).take m∧
  SrcAt w' rd h s (i+m) g bb∧Frm (fun k=>k=g∨k=bb∨k=h) w w'
theorem strRead_m (h bb o n c:Nat)(s:BS)(i m:Nat)(p:Int)(cs:List Value)(w:World)(hm:Hid (((s.drop i).take n).length=m))(hh:Blk w h 132 [Str s, .int .i64 i, .int .i64 p])(hb:Blk w bb 5 cs)(hi:i<s.length)(hs:s.length≤1099511627776)(hn:0<n)(hn2:n≤4096)
 (hfit:o+n≤cs.length)(hne:h≠bb):
 Calls Tryz.prog 234 #[.pointer (some ⟨h,0,none⟩), .slice (some ⟨bb,o,none⟩) n c] w fun e w'=>e= .returned (.tuple #[.int .i64 m, .nilIface])∧Blk w' h 132 [Str s, .int .i64 (i+m:Nat), .int .i64 (-1)]∧
  Blk w' bb 5 (cs.take o++byts ((s.drop i).take n)++cs.drop (o+m))∧Frm (fun k=>k=h∨k=bb) w w':=by
 rw [←hm.out];exact strRead_any h bb o n c s i p cs w hh hb hi hs hn hn2 hfit hne
theorem bytRead_m (h bb o n c:Nat)(s:BS)(i m:Nat)(p:Int)(cs:List Value)(A:Option Addr)(sc:Nat)(w:World)(hr:Rd w (.slice A s.length sc) (byts s))(hrh: ∀k,(Value.slice A s.length sc).ownBlock=some k→¬(k=h∨k=bb))(hm:Hid (((s.drop i).take n).length=m))(hh:Blk w h 277 [.slice A s.length sc, .int .i64 i, .int .i64 p])(hb:Blk w bb 5 cs)(hi:i<s.length)(hs:s.length≤1099511627776)(hn:0<n)(hn2:n≤4096)
 (hfit:o+n≤cs.length)(hne:h≠bb):
 Calls Tryz.prog 267 #[.pointer (some ⟨h,0,none⟩), .slice (some ⟨bb,o,none⟩) n c] w fun e w'=>e= .returned (.tuple #[.int .i64 m, .nilIface])∧Blk w' h 277 [.slice A s.length sc, .int .i64 (i+m:Nat), .int .i64 (-1)]∧
  Blk w' bb 5 (cs.take o++byts ((s.drop i).take n)++cs.drop (o+m))∧Frm (fun k=>k=h∨k=bb) w w':=by
 rw [←hm.out];exact bytRead_any h bb o n c s i p cs A sc w hr hrh hh hb hi hs hn hn2 hfit hne
theorem fill_zero (g bb h:Nat)(rd:Value)(s:BS)(i n1:Nat)(lb lr:Int)(cs:BS)(w:World)(hg:Blk w g 263 (bioCells bb rd 0 n1 lb lr))(hb:Blk w bb 5 (byts cs))(hcl:cs.length=4096)(hw:n1<4096)
 (hs:SrcAt w rd h s i g bb)(hi:i<s.length)(hsl:s.length≤1099511627776)(hgb:g≠bb)(hhg:h≠g)(hhb:h≠bb):
 Calls Tryz.prog 168 #[.pointer (some ⟨g,0,none⟩)] w (FillPost w g bb h rd s i (cs.take n1)):=by
 have c0:=hg.cell 0 _ rfl
 have c1:=hg.cell 1 _ rfl
 have c2:=hg.cell 2 _ rfl
 have c3:=hg.cell 3 _ rfl
 have f3:=hg.frozen 3
 have hwI:(n1:Int)<4096:=by omega
 have hw0:(0:Int)≤(n1:Int):=by omega
 obtain⟨m,HM⟩: ∃m,Hid (((s.drop i).take (4096-n1)).length=m):=⟨_,Lib.hid rfl⟩
 have hm1:0<m∧i+m≤s.length∧n1+m≤4096:=by have hM:=HM.out;rw [List.length_take,List.length_drop]at hM;omega
 rcases hs with⟨rfl,p,hp⟩|⟨rfl,p,A,sc,hr,hA,hp⟩
 ·go_enter Tryz.func168,Tryz.ntmps168
  go_wp2
  go_quiet (fail)
  go_wp2
  have hg1:=hg.drewN nq
  have hb1:=hb.drewN nq
  have hp1:=hp.drewN nq
  have hF1:Frm (fun k=>k=g∨k=bb∨k=h) w (w.drewN nq):=(Frm.refl _ w).drewN nq
  clear c0 c1 c2 c3 f3 hg hb hp
  generalize w.drewN nq=w1 at*
  go_loopw [2] (fun i wx=>i= .int .i64 100∧wx=w1) (fun _ _=>0)
  case atStart=>exact⟨rfl,rfl⟩
  case round=>
   obtain⟨rfl,hwx⟩:=hrel
   subst hwx
   have c0:=hg1.cell 0 _ rfl
   have c1:=hg1.cell 1 _ rfl
   have c3:=hg1.cell 3 _ rfl
   have hw4:(n1:Int)≤4096:=by omega
   have hn5: ¬4096=n1:=by omega
   have hgS: ¬(g=h∨g=bb):=by omega
   go_wp2
   have hm:=m76_Read ⟨h,0,none⟩
   go_region_held3 (fun ww=>ww.cell? ⟨g,0,none⟩=some (.slice (some ⟨bb,0,none⟩) 4096 4096)∧ww.cell? ⟨g,1,none⟩=some (.iface 76 (.pointer (some ⟨h,0,none⟩)))∧ww.cell? ⟨g,3,none⟩=some (.int .i64 n1))
    (first|go_keep|(exact⟨frC hF2 (p:=⟨g,0,none⟩) c0 hgS,frC hF2 (p:=⟨g,1,none⟩) c1 hgS,frC hF2 (p:=⟨g,3,none⟩) c3 hgS⟩))
    (first|(go_at_call 234;refine(strRead_m h bb n1 (4096-n1) (4096-n1) s i m p (byts cs) _ HM hp1.drew hb1.drew hi hsl (by omega) (by omega) (by rw [byL];omega) hhb).mono ?_;rintro e w2 ⟨rfl,hp2,hb2,hF2⟩))
   have hg2:=hg1.drew.frm hF2 hgS
   have hFw:=(hF1.drew).after hF2 (fun k _ e=>e.elim (fun e=> .inr (.inr e)) (fun e=> .inr (.inl e)))
   have hM:=HM.out
   have hcs:(cs.take n1++(s.drop i).take (4096-n1)++cs.drop (n1+m)).length=4096∧(cs.take n1++(s.drop i).take (4096-n1)++cs.drop (n1+m)).take (n1+m)=cs.take n1++(s.drop i).take m:=by
    have h1:(cs.take n1).length=n1:=by simp;omega
    have h2:((s.drop i).take (4096-n1))=(s.drop i).take m:=by rw [←hM,List.length_take,List.take_eq_take_min]
    refine⟨by simp only [List.length_append,List.length_drop,h1,hM];omega,?_⟩
    rw [List.take_append_of_le_length (by simp only [List.length_append,h1,hM];omega),List.take_of_length_le (by simp only [List.length_append,h1,hM];omega),h2]
   have hb3:Blk w2 bb 5 (byts (cs.take n1++(s.drop i).take (4096-n1)++cs.drop (n1+m))):=by simpa [byts]using hb2
   have Hcs:=Lib.hid hcs;clear hcs hb2 hg1 hb1 hp1 hF1 hF2 c0 c1 c3 hm
   have Hm1:=Lib.hid hm1
   have hmI:(0:Int)<(m:Int):=by omega
   have hmI2:(m:Int)≤4096:=by omega
   have hmI3:(n1:Int)+(m:Int)≤4096:=by omega
   clear hM hm1
   have c3:=hg2.cell 3 _ rfl
   have f3:=hg2.frozen 3
   go_wp2
   go_end0
   have hgf:=hg2.set 3 (.int .i64 ((n1:Int)+(m:Int)))
   have hFf:=hFw.setCell ⟨g,3,none⟩ (.int .i64 ((n1:Int)+(m:Int))) (fun _=> .inl rfl)
   have hb4:=hb3.far (p:=⟨g,3,none⟩) hgb.symm (.int .i64 ((n1:Int)+(m:Int)))
   have hp4:=hp2.far (p:=⟨g,3,none⟩) hhg (.int .i64 ((n1:Int)+(m:Int)))
   have hl1:(cs.take n1).length=n1:=by simp;omega
   refine⟨rfl,m,_,lb,lr,Hm1.out.1,Hm1.out.2.1,by rw [hl1];exact Hm1.out.2.2,?_,hb4,Hcs.out.1,by rw [hl1];exact Hcs.out.2, .inl ⟨rfl,_,hp4⟩,hFf⟩
   rw [hl1]
   simpa [bioCells]using hgf
 ·have hrA: ∀k,(Value.slice A s.length sc).ownBlock=some k→¬(k=h∨k=bb):=fun k hk e=>e.elim (hA k hk).1 (hA k hk).2.2.1
  go_enter Tryz.func168,Tryz.ntmps168
  go_wp2
  go_quiet (fail)
  go_wp2
  have hg1:=hg.drewN nq
  have hb1:=hb.drewN nq
  have hp1:=hp.drewN nq
  have hF1:Frm (fun k=>k=g∨k=bb∨k=h) w (w.drewN nq):=(Frm.refl _ w).drewN nq
  have hr1:=hr.frm (S:=fun k=>k=g∨k=bb∨k=h) hF1 (fun k hk e=>e.elim (hA k hk).2.1 (fun e=>e.elim (hA k hk).2.2.1 (hA k hk).1))
  clear c0 c1 c2 c3 f3 hg hb hp hr
  generalize w.drewN nq=w1 at*
  go_loopw [2] (fun i wx=>i= .int .i64 100∧wx=w1) (fun _ _=>0)
  case atStart=>exact⟨rfl,rfl⟩
  case round=>
   obtain⟨rfl,hwx⟩:=hrel
   subst hwx
   have c0:=hg1.cell 0 _ rfl
   have c1:=hg1.cell 1 _ rfl
   have c3:=hg1.cell 3 _ rfl
   have hw4:(n1:Int)≤4096:=by omega
   have hn5: ¬4096=n1:=by omega
   have hgS: ¬(g=h∨g=bb):=by omega
   go_wp2
   have hm:=m238_Read ⟨h,0,none⟩
   go_region_held3 (fun ww=>ww.cell? ⟨g,0,none⟩=some (.slice (some ⟨bb,0,none⟩) 4096 4096)∧ww.cell? ⟨g,1,none⟩=some (.iface 238 (.pointer (some ⟨h,0,none⟩)))∧ww.cell? ⟨g,3,none⟩=some (.int .i64 n1))
    (first|go_keep|(exact⟨frC hF2 (p:=⟨g,0,none⟩) c0 hgS,frC hF2 (p:=⟨g,1,none⟩) c1 hgS,frC hF2 (p:=⟨g,3,none⟩) c3 hgS⟩))
    (first|(go_at_call 267;refine(bytRead_m h bb n1 (4096-n1) (4096-n1) s i m p (byts cs) A sc _ (hr1.frm (S:=fun k=>k=h∨k=bb) (Frm.drew (Frm.refl _ _)) hrA) hrA HM hp1.drew hb1.drew hi hsl (by omega) (by omega) (by rw [byL];omega) hhb).mono ?_;rintro e w2 ⟨rfl,hp2,hb2,hF2⟩))
   have hg2:=hg1.drew.frm hF2 hgS
   have hr2:=hr1.frm (Frm.drew (Frm.refl _ _)) (S:=fun k=>k=h∨k=bb) hrA
   have hr3:=hr2.frm hF2 hrA
   have hFw:=(hF1.drew).after hF2 (fun k _ e=>e.elim (fun e=> .inr (.inr e)) (fun e=> .inr (.inl e)))
   have hM:=HM.out
   have hcs:(cs.take n1++(s.drop i).take (4096-n1)++cs.drop (n1+m)).length=4096∧(cs.take n1++(s.drop i).take (4096-n1)++cs.drop (n1+m)).take (n1+m)=cs.take n1++(s.drop i).take m:=by
    have h1:(cs.take n1).length=n1:=by simp;omega
    have h2:((s.drop i).take (4096-n1))=(s.drop i).take m:=by rw [←hM,List.length_take,List.take_eq_take_min]
    refine⟨by simp only [List.length_append,List.length_drop,h1,hM];omega,?_⟩
    rw [List.take_append_of_le_length (by simp only [List.length_append,h1,hM];omega),List.take_of_length_le (by simp only [List.length_append,h1,hM];omega),h2]
   have hb3:Blk w2 bb 5 (byts (cs.take n1++(s.drop i).take (4096-n1)++cs.drop (n1+m))):=by simpa [byts]using hb2
   have Hcs:=Lib.hid hcs;clear hcs hb2 hg1 hb1 hp1 hF1 hF2 c0 c1 c3 hm
   have Hm1:=Lib.hid hm1
   have hmI:(0:Int)<(m:Int):=by omega
   have hmI2:(m:Int)≤4096:=by omega
   have hmI3:(n1:Int)+(m:Int)≤4096:=by omega
   clear hM hm1
   have c3:=hg2.cell 3 _ rfl
   have f3:=hg2.frozen 3
   go_wp2
   go_end0
   have hgf:=hg2.set 3 (.int .i64 ((n1:Int)+(m:Int)))
   have hFf:=hFw.setCell ⟨g,3,none⟩ (.int .i64 ((n1:Int)+(m:Int))) (fun _=> .inl rfl)
   have hb4:=hb3.far (p:=⟨g,3,none⟩) hgb.symm (.int .i64 ((n1:Int)+(m:Int)))
   have hp4:=hp2.far (p:=⟨g,3,none⟩) hhg (.int .i64 ((n1:Int)+(m:Int)))
   have hl1:(cs.take n1).length=n1:=by simp;omega
   refine⟨rfl,m,_,lb,lr,Hm1.out.1,Hm1.out.2.1,by rw [hl1];exact Hm1.out.2.2,?_,hb4,Hcs.out.1,by rw [hl1];exact Hcs.out.2, .inr ⟨rfl,_,A,sc,hr3.frm (S:=(· =g)) (Frm.setCell (Frm.refl _ _) ⟨g,3,none⟩ _ (fun _=>rfl)) (fun k hk e=>(hA k hk).2.1 e),hA,hp4⟩,hFf⟩
   rw [hl1]
   simpa [bioCells]using hgf
theorem blk_rd {w:World} {g:Nat} {l:BS} (h:Blk w g 5 (byts l))(c:Nat)(hc:l.length≤c):Rd w (.slice (some ⟨g,0,none⟩) l.length c) (byts l):=
 ⟨_,c,by rw [byL],by rw [byL];exact hc, .inr ⟨g,0,rfl,h.lt,fun j u hu=>by rw [Nat.zero_add];exact h.cell j u hu⟩⟩
theorem run_slide {w:World} {bb:Nat} {cs:BS} (hb:Blk w bb 5 (byts cs))(hcl:cs.length=4096)(r n0:Nat)(hrn:r≤n0)(hw0:n0≤4096):
 (Builtin.copy_ #[22,22] 3 #[.slice (some ⟨bb,0,none⟩) 4096 4096, .slice (if 4096=r then some ⟨bb,0,none⟩else some ⟨bb,r,none⟩) (n0-r) (4096-r)]).run Tryz.prog w=
   .ok (.int .i64 (n0-r:Nat)) (w.setRow bb (byts ((cs.take n0).drop r++cs.drop (n0-r))).toArray):=by
 have h0:=blk_rd hb 4096 (by omega)
 rw [hcl]at h0
 have h1:=h0.sliced r n0 hrn hw0
 have e1:((byts cs).drop r).take (n0-r)=byts ((cs.take n0).drop r):=by
  unfold byts;rw [←List.map_drop,←List.map_take,List.drop_take]
 have e2:Go.sliced (some ⟨bb,0,none⟩) r n0 4096 1= .slice (if 4096=r then some ⟨bb,0,none⟩else some ⟨bb,r,none⟩) (n0-r) (4096-r):=by
  unfold Go.sliced;simp only [Nat.mul_one,Option.map_some,add_at,Nat.zero_add]
 rw [e1,e2]at h1
 have h2:=Cpy.rd h1 4096
 rw [List.take_of_length_le (by simp;omega)]at h2
 have hl:((cs.take n0).drop r).length=n0-r:=by simp;omega
 have h3:=run_copy_blk hb 22 3 0 4096 4096 _ _ h2 (by rw [byL,byL];omega)
 rw [h3]
 simp only [byL,hl,List.take_zero,List.nil_append,Nat.zero_add]
 have e3:byts ((cs.take n0).drop r++cs.drop (n0-r))=byts ((cs.take n0).drop r)++(byts cs).drop (n0-r):=by
  rw [byts_append];simp only [byts,List.map_drop]
 rw [e3]
theorem fill_slide (g bb h:Nat)(rd:Value)(s:BS)(i r n0:Nat)(lb lr:Int)(cs:BS)(w:World)(hg:Blk w g 263 (bioCells bb rd r n0 lb lr))(hb:Blk w bb 5 (byts cs))(hcl:cs.length=4096)(hr0:0<r)(hrn:r≤n0)(hw0:n0≤4096)
 (hs:SrcAt w rd h s i g bb)(hi:i<s.length)(hsl:s.length≤1099511627776)(hgb:g≠bb)(hhg:h≠g)(hhb:h≠bb):
 Calls Tryz.prog 168 #[.pointer (some ⟨g,0,none⟩)] w (FillPost w g bb h rd s i ((cs.take n0).drop r)):=by
 have hw:n0-r<4096:=by omega
 obtain⟨cs1,Hcs1⟩: ∃cs1:BS,Hid (cs1=(cs.take n0).drop r++cs.drop (n0-r)):=⟨_,Lib.hid rfl⟩
 have hcl1:cs1.length=4096:=by rw [Hcs1.out];simp;omega
 have hd1:cs1.take (n0-r)=(cs.take n0).drop r:=by rw [Hcs1.out,List.take_append_of_le_length (by simp;omega),List.take_of_length_le (by simp;omega)]
 have Hd1:=Lib.hid hd1;clear hd1
 have c0:=hg.cell 0 _ rfl
 have c1:=hg.cell 1 _ rfl
 have c2:=hg.cell 2 _ rfl
 have c3:=hg.cell 3 _ rfl
 have f3:=hg.frozen 3
 have hr0I:(0:Int)<(r:Int):=by omega
 have hrnI:(r:Int)≤(n0:Int):=by omega
 have hr00:(0:Int)≤(r:Int):=by omega
 have hn0I:(n0:Int)≤4096:=by omega
 have hr4:(r:Int)≤4096:=by omega
 obtain⟨m,HM⟩: ∃m,Hid (((s.drop i).take (4096-(n0-r))).length=m):=⟨_,Lib.hid rfl⟩
 have hm1:0<m∧i+m≤s.length∧(n0-r)+m≤4096:=by have hM:=HM.out;rw [List.length_take,List.length_drop]at hM;omega
 have hrun:=run_slide hb.drew hcl r n0 hrn hw0
 rw [←Hcs1.out]at hrun
 have Hrun:=Lib.hid hrun;clear hrun
 rw [←Hd1.out]
 rcases hs with⟨rfl,p,hp⟩|⟨rfl,p,A,sc,hr,hA,hp⟩
 ·go_enter Tryz.func168,Tryz.ntmps168
  go_wp2
  go_still_tail 17,(by kernel_rfl)
  change wpList _ _ _ _ _ w.drew
  refine Lib.wpList_copy_run _ rfl (.tmp 13) (.tmp 26) 22 22 rfl _ _ rfl rfl Hrun.out ?_
  generalize(if 4096=r then(some ⟨bb,0,none⟩:Option Addr)else some ⟨bb,r,none⟩)=adr at*
  have hb0:=hb.drew.setRow (byts cs1)
  have hgr:=gsR w.drew bb (byts cs1).toArray
  have hg0:=hg.drew.grown hgr (fun e=>hgb (by injection e))
  have hp0:=hp.drew.grown hgr (fun e=>hhb (by injection e))
  have hF0:Frm (fun k=>k=g∨k=bb∨k=h) w (w.drew.setRow bb (byts cs1).toArray):=(Frm.drew (Frm.refl _ w)).after (Frm.of_grown hgr) (fun k _ e=> .inr (.inl (by injection e)))
  clear c0 c1 c2 c3 f3 hg hb hp hgr
  generalize w.drew.setRow bb (byts cs1).toArray=wb at*
  have c0:=hg0.cell 0 _ rfl
  have c2:=hg0.cell 2 _ rfl
  have c3:=hg0.cell 3 _ rfl
  have f3:=hg0.frozen 3
  go_wp2
  go_still_tail 11,(by kernel_rfl)
  change wpList _ _ _ _ _ wb.drew
  have hg0':=hg0.drew
  have hb0':=hb0.drew
  have hp0':=hp0.drew
  have hF0':=hF0.drew
  clear hg0 hb0 hp0 hF0 c0 c2 c3 f3
  generalize wb.drew=wc at*
  have c3:=hg0'.cell 3 _ rfl
  have f3:=hg0'.frozen 3
  have c2:=hg0'.cell 2 _ rfl
  have f2:=hg0'.frozen 2
  have c0:=hg0'.cell 0 _ rfl
  go_wp2
  go_quiet (fail)
  go_wp2
  have hg1:=((hg0'.set 3 (.int .i64 ((n0:Int)-(r:Int)))).set 2 (.int .i64 0)).drewN nq
  have hb1:=((hb0'.far (p:=⟨g,3,none⟩) hgb.symm (.int .i64 ((n0:Int)-(r:Int)))).far (p:=⟨g,2,none⟩) hgb.symm (.int .i64 0)).drewN nq
  have hp1:=((hp0'.far (p:=⟨g,3,none⟩) hhg (.int .i64 ((n0:Int)-(r:Int)))).far (p:=⟨g,2,none⟩) hhg (.int .i64 0)).drewN nq
  have hF1:=((hF0'.setCell ⟨g,3,none⟩ (.int .i64 ((n0:Int)-(r:Int))) (fun _=> .inl rfl)).setCell ⟨g,2,none⟩ (.int .i64 0) (fun _=> .inl rfl)).drewN nq
  have hq:(n0:Int)-(r:Int)=((n0-r:Nat):Int):=by omega
  rw [hq]at hg1 hb1 hp1 hF1⊢
  generalize hn1e:n0-r=n1 at*
  change Blk _ g 263 (bioCells bb (.iface 76 (.pointer (some ⟨h,0,none⟩))) 0 n1 lb lr)at hg1
  clear c0 c2 c3 f3 f2 hg0' hb0' hp0' hF0'
  generalize(World.setCell (World.setCell wc ⟨g,3,none⟩ (.int .i64 (n1:Int))) ⟨g,2,none⟩ (.int .i64 0)).drewN nq=w1 at*
  clear hq Hrun hn1e hrn hr0 hw0 hrnI hr0I hr00 hn0I hr4
  have hwI:(n1:Int)<4096:=by omega
  have hw0:(0:Int)≤(n1:Int):=by omega
  go_loopw [2] (fun i wx=>i= .int .i64 100∧wx=w1) (fun _ _=>0)
  case atStart=>exact⟨rfl,rfl⟩
  case round=>
   obtain⟨rfl,hwx⟩:=hrel
   subst hwx
   have c0:=hg1.cell 0 _ rfl
   have c1:=hg1.cell 1 _ rfl
   have c3:=hg1.cell 3 _ rfl
   have hw4:(n1:Int)≤4096:=by omega
   have hn5: ¬4096=n1:=by omega
   have hgS: ¬(g=h∨g=bb):=by omega
   go_wp2
   have hm:=m76_Read ⟨h,0,none⟩
   go_region_held3 (fun ww=>ww.cell? ⟨g,0,none⟩=some (.slice (some ⟨bb,0,none⟩) 4096 4096)∧ww.cell? ⟨g,1,none⟩=some (.iface 76 (.pointer (some ⟨h,0,none⟩)))∧ww.cell? ⟨g,3,none⟩=some (.int .i64 n1))
    (first|go_keep|(exact⟨frC hF2 (p:=⟨g,0,none⟩) c0 hgS,frC hF2 (p:=⟨g,1,none⟩) c1 hgS,frC hF2 (p:=⟨g,3,none⟩) c3 hgS⟩))
    (first|(go_at_call 234;refine(strRead_m h bb n1 (4096-n1) (4096-n1) s i m p (byts cs1) _ HM hp1.drew hb1.drew hi hsl (by omega) (by omega) (by rw [byL];omega) hhb).mono ?_;rintro e w2 ⟨rfl,hp2,hb2,hF2⟩))
   have hg2:=hg1.drew.frm hF2 hgS
   have hFw:=(hF1.drew).after hF2 (fun k _ e=>e.elim (fun e=> .inr (.inr e)) (fun e=> .inr (.inl e)))
   have hM:=HM.out
   have hcs:(cs1.take n1++(s.drop i).take (4096-n1)++cs1.drop (n1+m)).length=4096∧(cs1.take n1++(s.drop i).take (4096-n1)++cs1.drop (n1+m)).take (n1+m)=cs1.take n1++(s.drop i).take m:=by
    have h1:(cs1.take n1).length=n1:=by simp;omega
    have h2:((s.drop i).take (4096-n1))=(s.drop i).take m:=by rw [←hM,List.length_take,List.take_eq_take_min]
    refine⟨by simp only [List.length_append,List.length_drop,h1,hM];omega,?_⟩
    rw [List.take_append_of_le_length (by simp only [List.length_append,h1,hM];omega),List.take_of_length_le (by simp only [List.length_append,h1,hM];omega),h2]
   have hb3:Blk w2 bb 5 (byts (cs1.take n1++(s.drop i).take (4096-n1)++cs1.drop (n1+m))):=by simpa [byts]using hb2
   have Hcs:=Lib.hid hcs;clear hcs hb2 hg1 hb1 hp1 hF1 hF2 c0 c1 c3 hm
   have Hm1:=Lib.hid hm1
   have hmI:(0:Int)<(m:Int):=by omega
   have hmI2:(m:Int)≤4096:=by omega
   have hmI3:(n1:Int)+(m:Int)≤4096:=by omega
   clear hM hm1
   have c3:=hg2.cell 3 _ rfl
   have f3:=hg2.frozen 3
   go_wp2
   go_end0
   have hgf:=hg2.set 3 (.int .i64 ((n1:Int)+(m:Int)))
   have hFf:=hFw.setCell ⟨g,3,none⟩ (.int .i64 ((n1:Int)+(m:Int))) (fun _=> .inl rfl)
   have hb4:=hb3.far (p:=⟨g,3,none⟩) hgb.symm (.int .i64 ((n1:Int)+(m:Int)))
   have hp4:=hp2.far (p:=⟨g,3,none⟩) hhg (.int .i64 ((n1:Int)+(m:Int)))
   have hl1:(cs1.take n1).length=n1:=by simp;omega
   refine⟨rfl,m,_,lb,lr,Hm1.out.1,Hm1.out.2.1,by rw [hl1];exact Hm1.out.2.2,?_,hb4,Hcs.out.1,by rw [hl1];exact Hcs.out.2, .inl ⟨rfl,_,hp4⟩,hFf⟩
   rw [hl1]
   simpa [bioCells]using hgf
 ·have hrA: ∀k,(Value.slice A s.length sc).ownBlock=some k→¬(k=h∨k=bb):=fun k hk e=>e.elim (hA k hk).1 (hA k hk).2.2.1
  go_enter Tryz.func168,Tryz.ntmps168
  go_wp2
  go_still_tail 17,(by kernel_rfl)
  change wpList _ _ _ _ _ w.drew
  refine Lib.wpList_copy_run _ rfl (.tmp 13) (.tmp 26) 22 22 rfl _ _ rfl rfl Hrun.out ?_
  generalize(if 4096=r then(some ⟨bb,0,none⟩:Option Addr)else some ⟨bb,r,none⟩)=adr at*
  have hb0:=hb.drew.setRow (byts cs1)
  have hgr:=gsR w.drew bb (byts cs1).toArray
  have hg0:=hg.drew.grown hgr (fun e=>hgb (by injection e))
  have hp0:=hp.drew.grown hgr (fun e=>hhb (by injection e))
  have hF0:Frm (fun k=>k=g∨k=bb∨k=h) w (w.drew.setRow bb (byts cs1).toArray):=(Frm.drew (Frm.refl _ w)).after (Frm.of_grown hgr) (fun k _ e=> .inr (.inl (by injection e)))
  have hr0':=hr.frm hF0 (fun k hk e=>e.elim (hA k hk).2.1 (fun e=>e.elim (hA k hk).2.2.1 (hA k hk).1))
  clear c0 c1 c2 c3 f3 hg hb hp hgr
  generalize w.drew.setRow bb (byts cs1).toArray=wb at*
  have c0:=hg0.cell 0 _ rfl
  have c2:=hg0.cell 2 _ rfl
  have c3:=hg0.cell 3 _ rfl
  have f3:=hg0.frozen 3
  go_wp2
  go_still_tail 11,(by kernel_rfl)
  change wpList _ _ _ _ _ wb.drew
  have hg0':=hg0.drew
  have hb0':=hb0.drew
  have hp0':=hp0.drew
  have hF0':=hF0.drew
  clear hg0 hb0 hp0 hF0 c0 c2 c3 f3
  generalize wb.drew=wc at*
  have c3:=hg0'.cell 3 _ rfl
  have f3:=hg0'.frozen 3
  have c2:=hg0'.cell 2 _ rfl
  have f2:=hg0'.frozen 2
  have c0:=hg0'.cell 0 _ rfl
  go_wp2
  go_quiet (fail)
  go_wp2
  have hg1:=((hg0'.set 3 (.int .i64 ((n0:Int)-(r:Int)))).set 2 (.int .i64 0)).drewN nq
  have hb1:=((hb0'.far (p:=⟨g,3,none⟩) hgb.symm (.int .i64 ((n0:Int)-(r:Int)))).far (p:=⟨g,2,none⟩) hgb.symm (.int .i64 0)).drewN nq
  have hp1:=((hp0'.far (p:=⟨g,3,none⟩) hhg (.int .i64 ((n0:Int)-(r:Int)))).far (p:=⟨g,2,none⟩) hhg (.int .i64 0)).drewN nq
  have hF1:=((hF0'.setCell ⟨g,3,none⟩ (.int .i64 ((n0:Int)-(r:Int))) (fun _=> .inl rfl)).setCell ⟨g,2,none⟩ (.int .i64 0) (fun _=> .inl rfl)).drewN nq
  have hr1:=hr.frm (S:=fun k=>k=g∨k=bb∨k=h) hF1 (fun k hk e=>e.elim (hA k hk).2.1 (fun e=>e.elim (hA k hk).2.2.1 (hA k hk).1))
  clear hr0' hr
  have hq:(n0:Int)-(r:Int)=((n0-r:Nat):Int):=by omega
  rw [hq]at hr1 hg1 hb1 hp1 hF1⊢
  generalize hn1e:n0-r=n1 at*
  change Blk _ g 263 (bioCells bb (.iface 238 (.pointer (some ⟨h,0,none⟩))) 0 n1 lb lr)at hg1
  clear c0 c2 c3 f3 f2 hg0' hb0' hp0' hF0'
  generalize(World.setCell (World.setCell wc ⟨g,3,none⟩ (.int .i64 (n1:Int))) ⟨g,2,none⟩ (.int .i64 0)).drewN nq=w1 at*
  clear hq Hrun hn1e hrn hr0 hw0 hrnI hr0I hr00 hn0I hr4
  have hwI:(n1:Int)<4096:=by omega
  have hw0:(0:Int)≤(n1:Int):=by omega
  go_loopw [2] (fun i wx=>i= .int .i64 100∧wx=w1) (fun _ _=>0)
  case atStart=>exact⟨rfl,rfl⟩
  case round=>
   obtain⟨rfl,hwx⟩:=hrel
   subst hwx
   have c0:=hg1.cell 0 _ rfl
   have c1:=hg1.cell 1 _ rfl
   have c3:=hg1.cell 3 _ rfl
   have hw4:(n1:Int)≤4096:=by omega
   have hn5: ¬4096=n1:=by omega
   have hgS: ¬(g=h∨g=bb):=by omega
   go_wp2
   have hm:=m238_Read ⟨h,0,none⟩
   go_region_held3 (fun ww=>ww.cell? ⟨g,0,none⟩=some (.slice (some ⟨bb,0,none⟩) 4096 4096)∧ww.cell? ⟨g,1,none⟩=some (.iface 238 (.pointer (some ⟨h,0,none⟩)))∧ww.cell? ⟨g,3,none⟩=some (.int .i64 n1))
    (first|go_keep|(exact⟨frC hF2 (p:=⟨g,0,none⟩) c0 hgS,frC hF2 (p:=⟨g,1,none⟩) c1 hgS,frC hF2 (p:=⟨g,3,none⟩) c3 hgS⟩))
    (first|(go_at_call 267;refine(bytRead_m h bb n1 (4096-n1) (4096-n1) s i m p (byts cs1) A sc _ (hr1.frm (S:=fun k=>k=h∨k=bb) (Frm.drew (Frm.refl _ _)) hrA) hrA HM hp1.drew hb1.drew hi hsl (by omega) (by omega) (by rw [byL];omega) hhb).mono ?_;rintro e w2 ⟨rfl,hp2,hb2,hF2⟩))
   have hg2:=hg1.drew.frm hF2 hgS
   have hr2:=hr1.frm (Frm.drew (Frm.refl _ _)) (S:=fun k=>k=h∨k=bb) hrA
   have hr3:=hr2.frm hF2 hrA
   have hFw:=(hF1.drew).after hF2 (fun k _ e=>e.elim (fun e=> .inr (.inr e)) (fun e=> .inr (.inl e)))
   have hM:=HM.out
   have hcs:(cs1.take n1++(s.drop i).take (4096-n1)++cs1.drop (n1+m)).length=4096∧(cs1.take n1++(s.drop i).take (4096-n1)++cs1.drop (n1+m)).take (n1+m)=cs1.take n1++(s.drop i).take m:=by
    have h1:(cs1.take n1).length=n1:=by simp;omega
    have h2:((s.drop i).take (4096-n1))=(s.drop i).take m:=by rw [←hM,List.length_take,List.take_eq_take_min]
    refine⟨by simp only [List.length_append,List.length_drop,h1,hM];omega,?_⟩
    rw [List.take_append_of_le_length (by simp only [List.length_append,h1,hM];omega),List.take_of_length_le (by simp only [List.length_append,h1,hM];omega),h2]
   have hb3:Blk w2 bb 5 (byts (cs1.take n1++(s.drop i).take (4096-n1)++cs1.drop (n1+m))):=by simpa [byts]using hb2
   have Hcs:=Lib.hid hcs;clear hcs hb2 hg1 hb1 hp1 hF1 hF2 c0 c1 c3 hm
   have Hm1:=Lib.hid hm1
   have hmI:(0:Int)<(m:Int):=by omega
   have hmI2:(m:Int)≤4096:=by omega
   have hmI3:(n1:Int)+(m:Int)≤4096:=by omega
   clear hM hm1
   have c3:=hg2.cell 3 _ rfl
   have f3:=hg2.frozen 3
   go_wp2
   go_end0
   have hgf:=hg2.set 3 (.int .i64 ((n1:Int)+(m:Int)))
   have hFf:=hFw.setCell ⟨g,3,none⟩ (.int .i64 ((n1:Int)+(m:Int))) (fun _=> .inl rfl)
   have hb4:=hb3.far (p:=⟨g,3,none⟩) hgb.symm (.int .i64 ((n1:Int)+(m:Int)))
   have hp4:=hp2.far (p:=⟨g,3,none⟩) hhg (.int .i64 ((n1:Int)+(m:Int)))
   have hl1:(cs1.take n1).length=n1:=by simp;omega
   refine⟨rfl,m,_,lb,lr,Hm1.out.1,Hm1.out.2.1,by rw [hl1];exact Hm1.out.2.2,?_,hb4,Hcs.out.1,by rw [hl1];exact Hcs.out.2, .inr ⟨rfl,_,A,sc,hr3.frm (S:=(· =g)) (Frm.setCell (Frm.refl _ _) ⟨g,3,none⟩ _ (fun _=>rfl)) (fun k hk e=>(hA k hk).2.1 e),hA,hp4⟩,hFf⟩
   rw [hl1]
   simpa [bioCells]using hgf
theorem fill_any (g bb h:Nat)(rd:Value)(s:BS)(i r n0:Nat)(lb lr:Int)(cs:BS)(w:World)(hg:Blk w g 263 (bioCells bb rd r n0 lb lr))(hb:Blk w bb 5 (byts cs))(hcl:cs.length=4096)(hrn:r≤n0)(hn0:n0≤4096)(hroom:n0-r<4096)
 (hs:SrcAt w rd h s i g bb)(hi:i<s.length)(hsl:s.length≤1099511627776)(hgb:g≠bb)(hhg:h≠g)(hhb:h≠bb):
 Calls Tryz.prog 168 #[.pointer (some ⟨g,0,none⟩)] w (FillPost w g bb h rd s i ((cs.take n0).drop r)):=by
 by_cases h0:r=0
 ·subst h0
  rw [List.drop_zero]
  exact fill_zero g bb h rd s i n0 lb lr cs w hg hb hcl (by omega) hs hi hsl hgb hhg hhb
 ·exact fill_slide g bb h rd s i r n0 lb lr cs w hg hb hcl (by omega) hrn hn0 hs hi hsl hgb hhg hhb
end Go.Proofs.YtgilnagajcfkpaaGreatDoor
