import Derived.Test.YtgilnagajcfkpaaGreatDoorQ08
set_option maxHeartbeats 4000000
set_option maxRecDepth 1000000
set_option linter.all false
namespace Go.Proofs.YtgilnagajcfkpaaGreatDoor
open Go.RowKit
theorem zzEncode_any (l:BS)(v:Value)(w:World)(hv:Rd w v (byts l))(hs:l.length≤2147483648):
 Calls Tryz.prog 60 #[v] w fun e w'=>e= .returned (Str (enc64 l))∧Below w.heap.size w w':=by
 go_enter Tryz.func60,Tryz.ntmps60
 go_wp2
 go_loopw [0,3,4] (fun p v _ wr=> ∃(x out:BS),x.length≤l.length∧out.length+2*x.length≤8589934592∧Hid (Rd w p (byts x))∧Hid (enc64 l=out++enc64 x)∧OwnAt wr w.heap.size 5 v (byts out)∧Below w.heap.size w wr) (fun p _ _ _=>match p with| .slice _ n _=>n|_=>0)
 case atStart=>exact⟨l,[],Nat.le_refl _,by simp;omega,hv,rfl,OwnAt.nil _ _ _,Below.refl _ _⟩
 case round=>
  obtain⟨x,out,hx,hol,hp,H,ho,hb⟩:=hrel
  clear hv
  obtain⟨A,cc,rfl,hcc,hpc⟩:=hp.out
  have Hpc:=Lib.hid hpc;clear hpc
  rw [byL]at*
  by_cases h3:3≤x.length
  ·obtain⟨a,b,c,r,rfl⟩: ∃a b c r,x=a::b::c::r:=by
    match x,h3 with
    |a::b::c::r,_=>exact⟨a,b,c,r,rfl⟩
   obtain⟨g,off,rfl,hgp,hc⟩:=Hpc.out.resolve_left (by intro h;simp [byts]at h)
   have p0:=(hb.cell (p:=⟨g,off+0,none⟩) hgp).trans (hc 0 (.int .u8 a.toNat) rfl)
   have p1:=(hb.cell (p:=⟨g,off+1,none⟩) hgp).trans (hc 1 (.int .u8 b.toNat) rfl)
   have p2:=(hb.cell (p:=⟨g,off+2,none⟩) hgp).trans (hc 2 (.int .u8 c.toNat) rfl)
   rw [Nat.add_zero]at p0
   have h3':(3:Int)≤((a::b::c::r).length:Int):=by omega
   have h30:(0:Int)<((a::b::c::r).length:Int):=by omega
   have h31:(1:Int)<((a::b::c::r).length:Int):=by omega
   have h32:(2:Int)<((a::b::c::r).length:Int):=by omega
   clear hc Hpc
   have hp3:Hid (Rd w (.slice (if cc=3 then some ⟨g,off,none⟩else some ⟨g,off+3,none⟩) ((a::b::c::r).length-3) (cc-3)) (byts r)):=by
    have:=hp.out.sliced 3 (a::b::c::r).length h3 (Nat.le_refl _)
    rw [List.take_of_length_le (by simp [byL])]at this
    simpa [Hid,Go.sliced,add_at,byts]using this
   generalize hln:(a::b::c::r).length=n at*
   have Hln:=Lib.hid hln;clear hln
   have hlt:=num3_lt a b c
   have b1:0≤V (num3 a b c/262144)∧V (num3 a b c/262144)<64:=by unfold V;omega
   have b2:0≤V (num3 a b c/4096%64)∧V (num3 a b c/4096%64)<64:=by unfold V;omega
   have b3:0≤V (num3 a b c/64%64)∧V (num3 a b c/64%64)<64:=by unfold V;omega
   have b4:0≤V (num3 a b c%64)∧V (num3 a b c%64)<64:=by unfold V;omega
   have e2:bits .and .u64 (V (num3 a b c/4096)) 63=V (num3 a b c/4096%64):=u64_and63 _ (by omega)
   have e3:bits .and .u64 (V (num3 a b c/64)) 63=V (num3 a b c/64%64):=u64_and63 _ (by omega)
   have e4:bits .and .u64 (V (num3 a b c)) 63=V (num3 a b c%64):=u64_and63 _ (by omega)
   obtain⟨b1,b1'⟩:=b1;obtain⟨b2,b2'⟩:=b2;obtain⟨b3,b3'⟩:=b3;obtain⟨b4,b4'⟩:=b4
   have eo:=v_or3 a b c
   have He:Hid (enc64 (a::b::c::r)=dig (num3 a b c/262144)::dig (num3 a b c/4096%64)::dig (num3 a b c/64%64)::dig (num3 a b c%64)::enc64 r):=by show _=_;rw [enc64]
   go_wp2
   go_quiet (fail)
   generalize num3 a b c=m at*
   have ho':=ho.drewN nq
   have hb':=bdN hb nq
   clear p0 p1 p2
   generalize wr.drewN nq=wd at*
   go_wp2_with fail
   have tok:True:=trivial
   go_region_held3 (fun _=>True) (trivial) ((refine step_appBs [dig (m/262144),dig (m/4096%64),dig (m/64%64),dig (m%64)] (by rfl) (.tmp 26) (.tmp 41) (by rfl) out (by rfl) ho'.drew _ _ _ (by rfl) (by rfl) (by rfl) (by rfl) (by simp only [List.length_cons,List.length_nil];omega) (bdw hb') (Nat.le_refl _) ?_;intro v1 w1 ho1 _ hb1))
   all_goals
    go_wp2
    go_roundw
    case rel=>exact⟨r,_,by have:=Hln.out;simp only [List.length_cons]at this;omega,by have:=Hln.out;simp only [List.length_append,List.length_cons,List.length_nil]at this⊢;omega,hp3,by rw [H.out,He.out];simp only [Hid,List.append_assoc,List.cons_append,List.nil_append],ho1,hb1⟩
    case measure=>simp only [];omega
  ·have h3': ¬(3:Int)≤(x.length:Int):=by omega
   rcases x with _|⟨a,_|⟨b,_|⟨c,r⟩⟩⟩
   ·have hcv:=cvB ho.rd
    have He:Hid (enc64 l=out):=by show _=_;rw [H.out,enc64,List.append_nil]
    go_wp2
    go_ret
    exact⟨by rw [He.out];rfl,hb⟩
   ·obtain⟨g,off,rfl,hgp,hc⟩:=Hpc.out.resolve_left (by intro h;simp [byts]at h)
    have p0:=(hb.cell (p:=⟨g,off+0,none⟩) hgp).trans (hc 0 (.int .u8 a.toNat) rfl)
    rw [Nat.add_zero]at p0
    clear hc Hpc
    have hlt:=num3_lt a 0 0
    have b1:0≤V (num3 a 0 0/262144)∧V (num3 a 0 0/262144)<64:=by unfold V;omega
    have b2:0≤V (num3 a 0 0/4096%64)∧V (num3 a 0 0/4096%64)<64:=by unfold V;omega
    have e2:bits .and .u64 (V (num3 a 0 0/4096)) 63=V (num3 a 0 0/4096%64):=u64_and63 _ (by omega)
    obtain⟨b1,b1'⟩:=b1;obtain⟨b2,b2'⟩:=b2
    have eo:=v_or1 a
    have He:Hid (enc64 l=out++ [dig (num3 a 0 0/262144),dig (num3 a 0 0/4096%64),61,61]):=by show _=_;rw [H.out,enc64]
    go_wp2
    generalize num3 a 0 0=m at*
    go_region_held3 (fun _=>True) (trivial) ((refine step_appBs [dig (m/262144),dig (m/4096%64),61,61] (by rfl) (.tmp 54) (.tmp 62) (by rfl) out (by rfl) ho.drew _ _ _ (by rfl) (by rfl) (by rfl) (by rfl) (by simp only [List.length_cons,List.length_nil];omega) (bdw hb) (Nat.le_refl _) ?_;intro v1 w1 ho1 _ hb1))
    all_goals
     have hcv:=cvB ho1.rd
     go_wp2
     go_ret
     exact⟨by rw [He.out];rfl,hb1⟩
   ·obtain⟨g,off,rfl,hgp,hc⟩:=Hpc.out.resolve_left (by intro h;simp [byts]at h)
    have p0:=(hb.cell (p:=⟨g,off+0,none⟩) hgp).trans (hc 0 (.int .u8 a.toNat) rfl)
    have p1:=(hb.cell (p:=⟨g,off+1,none⟩) hgp).trans (hc 1 (.int .u8 b.toNat) rfl)
    rw [Nat.add_zero]at p0
    clear hc Hpc
    have hlt:=num3_lt a b 0
    have b1:0≤V (num3 a b 0/262144)∧V (num3 a b 0/262144)<64:=by unfold V;omega
    have b2:0≤V (num3 a b 0/4096%64)∧V (num3 a b 0/4096%64)<64:=by unfold V;omega
    have b3:0≤V (num3 a b 0/64%64)∧V (num3 a b 0/64%64)<64:=by unfold V;omega
    have e2:bits .and .u64 (V (num3 a b 0/4096)) 63=V (num3 a b 0/4096%64):=u64_and63 _ (by omega)
    have e3:bits .and .u64 (V (num3 a b 0/64)) 63=V (num3 a b 0/64%64):=u64_and63 _ (by omega)
    obtain⟨b1,b1'⟩:=b1;obtain⟨b2,b2'⟩:=b2;obtain⟨b3,b3'⟩:=b3
    have eo:=v_or2 a b
    have He:Hid (enc64 l=out++ [dig (num3 a b 0/262144),dig (num3 a b 0/4096%64),dig (num3 a b 0/64%64),61]):=by show _=_;rw [H.out,enc64]
    go_wp2
    go_quiet (fail)
    generalize num3 a b 0=m at*
    have ho':=ho.drewN nq
    have hb':=bdN hb nq
    clear p0 p1
    generalize wr.drewN nq=wd at*
    go_wp2_with fail
    go_region_held3 (fun _=>True) (trivial) ((refine step_appBs [dig (m/262144),dig (m/4096%64),dig (m/64%64),61] (by rfl) (.tmp 77) (.tmp 89) (by rfl) out (by rfl) ho'.drew _ _ _ (by rfl) (by rfl) (by rfl) (by rfl) (by simp only [List.length_cons,List.length_nil];omega) (bdw hb') (Nat.le_refl _) ?_;intro v1 w1 ho1 _ hb1))
    all_goals
     have hcv:=cvB ho1.rd
     go_wp2
     go_ret
     exact⟨by rw [He.out];rfl,hb1⟩
   ·simp at h3
end Go.Proofs.YtgilnagajcfkpaaGreatDoor
