import Derived.Test.YtgilnagajcfkpaaGreatDoorQ16
import Derived.Test.YtgilnagajcfkpaaGreatDoorQ22
set_option maxHeartbeats 4000000
set_option maxRecDepth 1000000
set_option linter.all false
namespace Go.Proofs.YtgilnagajcfkpaaGreatDoor
open Go.RowKit
def primeTo (p:UInt64):Nat→UInt64→Bool→Bool
 |0,_,b=>b
 |n+1,q,b=>if(q*q).toNat≤p.toNat then primeTo p n (q+1) (b&&decide (p%q≠0))else b
def isPrime (p:UInt64):Bool:=primeTo p 20 2 true
def rootsTo (many d:Nat):Nat→UInt64→List UInt32→List UInt32
 |0,_,l=>l
 |n+1,p,l=>if l.length<many then rootsTo many d n (p+1) (if isPrime p then l++ [rootOf p d]else l)else l
def primesTo (many:Nat):Nat→UInt64→List UInt64→List UInt64
 |0,_,l=>l
 |n+1,p,l=>if l.length<many then primesTo many n (p+1) (if isPrime p then l++ [p]else l)else l
theorem rootsTo_primes (many d:Nat): ∀(n:Nat)(p:UInt64)(l:List UInt64),rootsTo many d n p (l.map (rootOf · d))=(primesTo many n p l).map (rootOf · d)
 |0,_,_=>rfl
 |n+1,p,l=>by
  simp only [rootsTo,primesTo,List.length_map]
  split
  ·rw [←rootsTo_primes many d n]
   congr 1
   split<;>simp
  ·rfl
theorem r3_2:rootOf 2 3=1116352408:=by decide+kernel
theorem r3_3:rootOf 3 3=1899447441:=by decide+kernel
theorem r3_5:rootOf 5 3=3049323471:=by decide+kernel
theorem r3_7:rootOf 7 3=3921009573:=by decide+kernel
theorem r3_11:rootOf 11 3=961987163:=by decide+kernel
theorem r3_13:rootOf 13 3=1508970993:=by decide+kernel
theorem r3_17:rootOf 17 3=2453635748:=by decide+kernel
theorem r3_19:rootOf 19 3=2870763221:=by decide+kernel
theorem r3_23:rootOf 23 3=3624381080:=by decide+kernel
theorem r3_29:rootOf 29 3=310598401:=by decide+kernel
theorem r3_31:rootOf 31 3=607225278:=by decide+kernel
theorem r3_37:rootOf 37 3=1426881987:=by decide+kernel
theorem r3_41:rootOf 41 3=1925078388:=by decide+kernel
theorem r3_43:rootOf 43 3=2162078206:=by decide+kernel
theorem r3_47:rootOf 47 3=2614888103:=by decide+kernel
theorem r3_53:rootOf 53 3=3248222580:=by decide+kernel
theorem r3_59:rootOf 59 3=3835390401:=by decide+kernel
theorem r3_61:rootOf 61 3=4022224774:=by decide+kernel
theorem r3_67:rootOf 67 3=264347078:=by decide+kernel
theorem r3_71:rootOf 71 3=604807628:=by decide+kernel
theorem r3_73:rootOf 73 3=770255983:=by decide+kernel
theorem r3_79:rootOf 79 3=1249150122:=by decide+kernel
theorem r3_83:rootOf 83 3=1555081692:=by decide+kernel
theorem r3_89:rootOf 89 3=1996064986:=by decide+kernel
theorem r3_97:rootOf 97 3=2554220882:=by decide+kernel
theorem r3_101:rootOf 101 3=2821834349:=by decide+kernel
theorem r3_103:rootOf 103 3=2952996808:=by decide+kernel
theorem r3_107:rootOf 107 3=3210313671:=by decide+kernel
theorem r3_109:rootOf 109 3=3336571891:=by decide+kernel
theorem r3_113:rootOf 113 3=3584528711:=by decide+kernel
theorem r3_127:rootOf 127 3=113926993:=by decide+kernel
theorem r3_131:rootOf 131 3=338241895:=by decide+kernel
theorem r3_137:rootOf 137 3=666307205:=by decide+kernel
theorem r3_139:rootOf 139 3=773529912:=by decide+kernel
theorem r3_149:rootOf 149 3=1294757372:=by decide+kernel
theorem r3_151:rootOf 151 3=1396182291:=by decide+kernel
theorem r3_157:rootOf 157 3=1695183700:=by decide+kernel
theorem r3_163:rootOf 163 3=1986661051:=by decide+kernel
theorem r3_167:rootOf 167 3=2177026350:=by decide+kernel
theorem r3_173:rootOf 173 3=2456956037:=by decide+kernel
theorem r3_179:rootOf 179 3=2730485921:=by decide+kernel
theorem r3_181:rootOf 181 3=2820302411:=by decide+kernel
theorem r3_191:rootOf 191 3=3259730800:=by decide+kernel
theorem r3_193:rootOf 193 3=3345764771:=by decide+kernel
theorem r3_197:rootOf 197 3=3516065817:=by decide+kernel
theorem r3_199:rootOf 199 3=3600352804:=by decide+kernel
theorem r3_211:rootOf 211 3=4094571909:=by decide+kernel
theorem r3_223:rootOf 223 3=275423344:=by decide+kernel
theorem r3_227:rootOf 227 3=430227734:=by decide+kernel
theorem r3_229:rootOf 229 3=506948616:=by decide+kernel
theorem r3_233:rootOf 233 3=659060556:=by decide+kernel
theorem r3_239:rootOf 239 3=883997877:=by decide+kernel
theorem r3_241:rootOf 241 3=958139571:=by decide+kernel
theorem r3_251:rootOf 251 3=1322822218:=by decide+kernel
theorem r3_257:rootOf 257 3=1537002063:=by decide+kernel
theorem r3_263:rootOf 263 3=1747873779:=by decide+kernel
theorem r3_269:rootOf 269 3=1955562222:=by decide+kernel
theorem r3_271:rootOf 271 3=2024104815:=by decide+kernel
theorem r3_277:rootOf 277 3=2227730452:=by decide+kernel
theorem r3_281:rootOf 281 3=2361852424:=by decide+kernel
theorem r3_283:rootOf 283 3=2428436474:=by decide+kernel
theorem r3_293:rootOf 293 3=2756734187:=by decide+kernel
theorem r3_307:rootOf 307 3=3204031479:=by decide+kernel
theorem r3_311:rootOf 311 3=3329325298:=by decide+kernel
theorem r2_2:rootOf 2 2=1779033703:=by decide+kernel
theorem r2_3:rootOf 3 2=3144134277:=by decide+kernel
theorem r2_5:rootOf 5 2=1013904242:=by decide+kernel
theorem r2_7:rootOf 7 2=2773480762:=by decide+kernel
theorem r2_11:rootOf 11 2=1359893119:=by decide+kernel
theorem r2_13:rootOf 13 2=2600822924:=by decide+kernel
theorem r2_17:rootOf 17 2=528734635:=by decide+kernel
theorem r2_19:rootOf 19 2=1541459225:=by decide+kernel
theorem primes64:primesTo 64 400 2 []= [2,3,5,7,11,13,17,19,23,29,31,37,41,43,47,53,59,61,67,71,73,79,83,89,97,101,103,107,109,113,127,131,137,139,149,151,157,163,167,173,179,181,191,193,197,199,211,223,227,229,233,239,241,251,257,263,269,271,277,281,283,293,307,311]:=by decide+kernel
theorem primes8:primesTo 8 400 2 []= [2,3,5,7,11,13,17,19]:=by decide+kernel
theorem roots3:rootsTo 64 3 400 2 []=kTab:=by
 have h:=rootsTo_primes 64 3 400 2 []
 rw [List.map_nil]at h
 rw [h,primes64]
 simp only [List.map_cons,List.map_nil,r3_2,r3_3,r3_5,r3_7,r3_11,r3_13,r3_17,r3_19,r3_23,r3_29,r3_31,r3_37,r3_41,r3_43,r3_47,r3_53,r3_59,r3_61,r3_67,r3_71,r3_73,r3_79,r3_83,r3_89,r3_97,r3_101,r3_103,r3_107,r3_109,r3_113,r3_127,r3_131,r3_137,r3_139,r3_149,r3_151,r3_157,r3_163,r3_167,r3_173,r3_179,r3_181,r3_191,r3_193,r3_197,r3_199,r3_211,r3_223,r3_227,r3_229,r3_233,r3_239,r3_241,r3_251,r3_257,r3_263,r3_269,r3_271,r3_277,r3_281,r3_283,r3_293,r3_307,r3_311]
 rfl
theorem roots2:rootsTo 8 2 400 2 []= [1779033703,3144134277,1013904242,2773480762,1359893119,2600822924,528734635,1541459225]:=by
 have h:=rootsTo_primes 8 2 400 2 []
 rw [List.map_nil]at h
 rw [h,primes8]
 simp only [List.map_cons,List.map_nil,r2_2,r2_3,r2_5,r2_7,r2_11,r2_13,r2_17,r2_19]
@[go_sem] theorem q_mod (a b:UInt64):IntKind.u64.wrap ((Q a).tmod (Q b))=Q (a%b):=by
  have:=Q_lt a
  have h:=Q_lt b
  rw [wrap64,Int.tmod_eq_emod_of_nonneg this.1]
  have h2:=Q_lt (a%b)
  have e:Q (a%b)=Q a%Q b:=by unfold Q;rw [UInt64.toNat_mod];rfl
  rw [←e];omega
@[go_sem] theorem q_tmod (a b:UInt64):(Q a).tmod (Q b)=Q (a%b):=by
  rw [Int.tmod_eq_emod_of_nonneg (Q_lt a).1];unfold Q;rw [UInt64.toNat_mod];rfl
theorem q_zero (a:UInt64):(Q a==0)=decide (a=0):=by
 rw [Bool.eq_iff_iff,beq_iff_eq,decide_eq_true_eq,←UInt64.toNat_inj];unfold Q;have:(0:UInt64).toNat=0:=rfl;omega
@[go_sem] theorem q_succ (a:UInt64):IntKind.u64.wrap (Q a+(1:Int))=Q (a+1):=by
  rw [←q_add];rfl
theorem wrds_length (l:List UInt32):(wrds l).length=l.length:=by simp [wrds]
theorem wrds_snoc (l:List UInt32)(x:UInt32):wrds (l++ [x])=wrds l++ [.int .u32 (W x)]:=by simp [wrds]
theorem dRoots_any (many d:Nat)(hd:d<6)(hm:many≤64)(w:World)(hR:(rootsTo many d 400 2 []).length=many):
 Calls Tryz.prog 104 #[.int .i64 many, .int .i64 d] w fun e w'=> ∃v,e= .returned v∧OwnAt w' w.heap.size 198 v (wrds (rootsTo many d 400 2 []))∧Below w.heap.size w w':=by
 obtain⟨R,HR⟩: ∃R,Hid (R=rootsTo many d 400 2 []):=⟨_,rfl⟩
 rw [←HR.out]at hR⊢
 have HRl:=Lib.hid hR;clear hR
 have Q2:Hid ((2:Int)=Q 2):=rfl
 go_enter Tryz.func104,Tryz.ntmps104
 go_wp2
 go_loopw [5,6,7,8] (fun v pv _ _ wr=> ∃(n:Nat) (p:UInt64) (l:List UInt32),pv= .int .u64 (Q p)∧Hid (R=rootsTo many d n p l)∧Hid (p.toNat+n=402)∧l.length≤64∧OwnAt wr w.heap.size 198 v (wrds l)∧Below w.heap.size w wr) (fun _ pv _ _ _=>402-(intOf pv).toNat)
 case atStart=>exact⟨400,2,[],by rw [Q2.out],HR,rfl,Nat.zero_le _,OwnAt.nil _ _ _,Below.refl _ _⟩
 case round=>
  obtain⟨n,p,l,rfl,H,Hp,hl,ho,hb⟩:=hrel
  have hol:=ho
  obtain⟨A,cc,rfl,_,_⟩:=hol.rd
  rw [wrds_length]at*
  by_cases hlt:l.length<many
  ·obtain⟨m,rfl⟩: ∃m,n=m+1:=by
    cases n with
    |zero=>exfalso;have:=H.out;rw [rootsTo]at this;have h2:=HRl.out;rw [this]at h2;omega
    |succ m=>exact⟨m,rfl⟩
   obtain⟨b,Hbq⟩: ∃b,Hid (isPrime p=b):=⟨_,rfl⟩
   obtain⟨wo,rfl⟩: ∃wo:World,wo=wr:=⟨_,rfl⟩
   go_wp2
   go_loopw [7,8] (fun bv qv wx=> ∃(k:Nat) (q:UInt64) (c:Bool),bv= .bool c∧qv= .int .u64 (Q q)∧Hid (primeTo p k q c=b)∧Hid (q.toNat+k=22∧2≤q.toNat)∧wx=wo) (fun _ qv _=>22-(intOf qv).toNat)
   case atStart=>exact⟨20,2,true,rfl,by rw [Q2.out],Hbq,⟨rfl,by decide⟩,rfl⟩
   case round=>
    obtain⟨k,q,c,rfl,rfl,Hq,Hk,rfl⟩:=hrel
    by_cases hqq:Q (q*q)≤Q p
    ·have hk0:=Hk.out
     have hp0:=Hp.out
     have hqp:(q*q).toNat≤p.toNat:=by unfold Q at hqq;omega
     obtain⟨j,rfl⟩: ∃j,k=j+1:=by
      cases k with
      |zero=>
       exfalso
       have e:(q*q).toNat=484:=by rw [UInt64.toNat_mul,show q.toNat=22 by omega]
       omega
      |succ j=>exact⟨j,rfl⟩
     have hq2:Hid (primeTo p j (q+1) (c&&decide (p%q≠0))=b):=by
      have:=Hq.out
      rw [primeTo,if_pos hqp]at this
      exact this
     have hqn:(q+1).toNat=q.toNat+1:=by rw [UInt64.toNat_add];have:(1:UInt64).toNat=1:=rfl;omega
     have Hk2:Hid ((q+1).toNat+j=22∧2≤(q+1).toNat):=by show _∧_;omega
     have Hm:Hid (22-(q+1).toNat<22-q.toNat):=by show _<_;omega
     have hq0:Q q≠0:=by unfold Q;omega
     clear hk0 hp0 hqp hqn
     cases c with
     |false=>
      go_wp2_with fail
      go_roundw
      case rel=>exact⟨j,q+1,false,rfl,rfl,hq2,Hk2,trivial⟩
      case measure=>simp only [intOf];exact Hm.out
     |true=>
      cases hz:(Q (p%q)==0)with
      |true=>
       have e:decide (p%q≠0)=false:=by rw [q_zero]at hz;simpa using hz
       rw [e]at hq2
       have hz2:=bneT hz
       go_wp2_with fail
       go_roundw
       case rel=>exact⟨j,q+1,false,rfl,rfl,hq2,Hk2,trivial⟩
       case measure=>simp only [intOf];exact Hm.out
      |false=>
       have e:decide (p%q≠0)=true:=by rw [q_zero]at hz;simpa using hz
       rw [e]at hq2
       have hz2:=bneF hz
       go_wp2_with fail
       go_roundw
       case rel=>exact⟨j,q+1,true,rfl,rfl,hq2,Hk2,trivial⟩
       case measure=>simp only [intOf];exact Hm.out
    ·have hqp: ¬(q*q).toNat≤p.toNat:=by unfold Q at hqq;omega
     have hcb:c=b:=by
      have:=Hq.out
      cases k with
      |zero=>exact this
      |succ k=>rw [primeTo,if_neg hqp]at this;exact this
     subst hcb
     clear Hq
     cases c with
     |true=>
      have H2:Hid (R=rootsTo many d m (p+1) (l++ [rootOf p d])):=by
       have:=H.out
       rw [rootsTo,if_pos hlt,Hbq.out]at this
       exact this
      have Hp2:Hid ((p+1).toNat+m=402∧402-(p+1).toNat<402-p.toNat):=by
       have:=Hp.out
       have e:(p+1).toNat=p.toNat+1:=by rw [UInt64.toNat_add];have:(1:UInt64).toNat=1:=rfl;omega
       show _∧_;omega
      clear hqp
      go_wp2_with (first|(go_at_call 138;refine(dRoot_any _ _ hd _).mono ?_;rintro e w1 ⟨rfl,hb1⟩)|(at_builtin;refine appE1 Tryz.underlying196 Tryz.info198 rfl _ rfl (.tmp 30) (.tmp 34) rfl (wrds l) (.int .u32 (W (rootOf p d))) rfl rfl (ho.below hb1) _ rfl rfl ?hn ?hm2 (hb.trans (hb1.mono hb.size)) (Nat.le_refl _) ?_;(case hn=>rw [wrds_length];omega);(case hm2=>rw [wrds_length];omega);intro v8 w8 ho8 hg8 hb8))
      go_roundw
      case rel=>exact⟨m,p+1,l++ [rootOf p d],rfl,H2,Hp2.out.1,by simp only [List.length_append,List.length_cons,List.length_nil];omega,by rw [wrds_snoc];exact ho8,hb8⟩
      case measure=>simp only [intOf];exact Hp2.out.2
     |false=>
      have H2:Hid (R=rootsTo many d m (p+1) l):=by
       have:=H.out
       rw [rootsTo,if_pos hlt,Hbq.out]at this
       exact this
      have Hp2:Hid ((p+1).toNat+m=402∧402-(p+1).toNat<402-p.toNat):=by
       have:=Hp.out
       have e:(p+1).toNat=p.toNat+1:=by rw [UInt64.toNat_add];have:(1:UInt64).toNat=1:=rfl;omega
       show _∧_;omega
      clear hqp
      go_wp2_with fail
      go_roundw
      case rel=>exact⟨m,p+1,l,rfl,H2,Hp2.out.1,hl,ho,hb⟩
      case measure=>simp only [intOf];exact Hp2.out.2
  ·have hE:Hid (R=l):=by
    have:=H.out
    cases n with
    |zero=>exact this
    |succ n=>rw [rootsTo,if_neg hlt]at this;exact this
   go_wp2
   go_ret
   exact⟨_,rfl,by rw [hE.out];exact ho,hb⟩
end Go.Proofs.YtgilnagajcfkpaaGreatDoor
