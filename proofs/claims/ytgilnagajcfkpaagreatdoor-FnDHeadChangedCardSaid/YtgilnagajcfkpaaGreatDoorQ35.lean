import Derived.Test.YtgilnagajcfkpaaGreatDoorQ28
import Derived.Test.YtgilnagajcfkpaaGreatDoorQ32
set_option maxHeartbeats 4000000
set_option maxRecDepth 1000000
set_option linter.all false
namespace Go.Proofs.YtgilnagajcfkpaaGreatDoor
open Go.RowKit
def _root_.Go.Proofs.YtgilnagajcfkpaaGreatDoor.St8.lst (s:St8):List UInt32:= [s.a,s.b,s.c,s.d,s.e,s.f,s.g,s.h]
def h0l:List UInt32:=St8.lst h0
@[go_sem] theorem w_shl8m (x:UInt32):W x*(256:Int)%(4294967296:Int)=W (x<<<8):=by have:=w_shl x 8 8 rfl (by decide);unfold W;omega
@[go_sem] theorem w_bytem (b:UInt8):(b.toNat:Int)%(4294967296:Int)=W b.toUInt32:=by
  have h2:=b.toNat_lt;unfold W;rw [UInt8.toNat_toUInt32];omega
def turn (k:Int)(x:UInt32):UInt32:=rotr x (UInt32.ofNat k.toNat)
def TurnOk (k:Int):Bool:=decide (0<k∧k<32)
theorem turnQ (x:UInt32)(k:Int)(w:World)(hk:TurnOk k=true):Calls Tryz.prog 105 #[.int .u32 (W x), .int .i64 k] w fun e w'=>e= .returned (.int .u32 (W (turn k x)))∧∃m,w'=w.drewN m:=by
 obtain⟨hk0,hk1⟩:0<k∧k<32:=by unfold TurnOk at hk;simpa using hk
 obtain⟨n,rfl⟩: ∃n:Nat,k=n:=⟨k.toNat,by omega⟩
 have hn:(UInt32.ofNat n).toNat=n:=by rw [UInt32.toNat_ofNat'];omega
 have F1:Hid (W x/(2:Int)^n=W (x>>>UInt32.ofNat n)):=w_shrv x n _ hn (by omega)
 have F2:Hid (W x*(2:Int)^(32-n)%4294967296=W (x<<<(32-UInt32.ofNat n))):=w_shlv x (32-n) (32-UInt32.ofNat n) (by rw [UInt32.toNat_sub,hn];have:(32:UInt32).toNat=32:=rfl;omega) (by omega)
 have hx:=W_lt x
 have h0:(0:Int)≤(n:Int):=by omega
 have h1:(0:Int)≤32-(n:Int):=by omega
 have h2:(n:Int)<32:=by omega
 have h3:(32:Int)-(n:Int)<32:=by omega
 have h4:IntKind.i64.wrap (32-(n:Int))=32-(n:Int):=by rw [IntKind.wrap_i64];omega
 clear hk hk0 hk1 hn
 go_enter Tryz.func105,Tryz.ntmps105
 go_wp2
 go_quiet (fail)
 go_wp2
 go_ret
 refine⟨?_,_,rfl⟩
 show Ending.returned (.int .u32 (bits .or .u32 (W x/(2:Int)^n) (W x*(2:Int)^(32-n)%4294967296)))=_
 rw [F1.out,F2.out,w_or]
 rfl
theorem wrds_one (l:List UInt32): ∀u∈wrds l,u.oneCell'=true:=by simp [wrds,Value.oneCell']
theorem appWd {ops:Array Oper} {rest:List Oper} {o:Oper} {a:Act} {Q:Exit→Act→World→Prop} {w:World} {B:Nat} {v xv:Value} (hgd:o.guard=none)(s x:Operand)(ho:o.op= .call { callee:= .builtin .append,args:= #[s,x],argTypes:= #[196,196] })
 (l news:List UInt32)(hs:a.eval s=v)(hown:OwnAt w B 198 v (wrds l))(hxv:a.eval x=xv)(hx:Src Tryz.prog w xv (wrds news))(hn:l.length+news.length≤8796093022208)(hB:B≤w.heap.size)
 (h: ∀v' w',OwnAt w' B 198 v' (wrds (l++news))→w.grownBy w' v.ownBlock→Below B w w'→(v'.ownBlock=v.ownBlock∨v'.ownBlock=some w.heap.size)→wpList Tryz.prog ops Q rest (a.put o.dst v') w'):wpList Tryz.prog ops Q (o::rest) a w:=by
 obtain⟨i,hi,hz,hs1,hb⟩:=info_parts Tryz.info198
 refine wpList_plain hgd fun K hK=>wp_app s x 196 196 ho B 198 i _ 4 Tryz.underlying196 (.inr ⟨_,Tryz.underlying196⟩) hi hz hs1 hb rfl v _ hs hown xv _ hxv hx ?_ ?_ hB fun v' w' h2 h3 h4=>hK _ _ (h v' w' (by simpa [wrds]using h2) h3 (grown_below hown h3 hB) h4)
 ·simp only [wrds_length,maxLen];omega
 ·simp only [wrds_length];omega
theorem getD_rep (n i:Nat):(List.replicate n (0:UInt32)).getD i 0=0:=by
 rw [List.getD_eq_getElem?_getD,List.getElem?_replicate];split<;>rfl
theorem zeros64 (blk:BS):(List.replicate 64 (0:UInt32)).length=64∧(List.replicate 64 (0:UInt32)).take 0=words blk 0∧∀i,0≤i→i<16→(List.replicate 64 (0:UInt32)).getD i 0=0:=
 ⟨List.length_replicate,rfl,fun i _ _=>getD_rep 64 i⟩
def part (blk:BS)(k:Nat):Nat→UInt32
 |0=>0
 |j+1=>part blk k j<<<8|||(blk.getD (4*k+j) 0).toUInt32
theorem shl_or4 (a b c d:UInt32):(((a<<<8|||b)<<<8|||c)<<<8)|||d=a<<<24|||b<<<16|||c<<<8|||d:=by
 apply UInt32.eq_of_toBitVec_eq
 simp only [UInt32.toBitVec_or,UInt32.toBitVec_shiftLeft]
 simp only [BitVec.shiftLeft_eq',BitVec.shiftLeft_or_distrib]
 simp [←BitVec.shiftLeft_add,BitVec.or_assoc]
theorem part_four (blk:BS)(k:Nat):part blk k 4=word (blk.getD (4*k) 0) (blk.getD (4*k+1) 0) (blk.getD (4*k+2) 0) (blk.getD (4*k+3) 0):=by
 simp only [part,word]
 rw [←shl_or4]
 simp
theorem turn_bs1 (x:UInt32):turn 6 x^^^turn 11 x^^^turn 25 x=bs1 x:=rfl
theorem turn_bs0 (x:UInt32):turn 2 x^^^turn 13 x^^^turn 22 x=bs0 x:=rfl
def half (s t:St8)(i:Nat):List UInt32:=(plus s t).lst.take i++s.lst.drop i
theorem half_len (s t:St8)(i:Nat):(half s t i).length=8:=by
 have h1:(plus s t).lst.length=8:=rfl
 have h2:s.lst.length=8:=rfl
 unfold half;rw [List.length_append,List.length_take,List.length_drop];omega
theorem half_at (s t:St8)(i:Nat)(hi:i<8):(wrds (half s t i))[i]?=some (.int .u32 (W (s.lst.getD i 0))):=by
 obtain rfl|rfl|rfl|rfl|rfl|rfl|rfl|rfl:i=0∨i=1∨i=2∨i=3∨i=4∨i=5∨i=6∨i=7:=by omega
 all_goals rfl
theorem half_set (s t:St8)(i:Nat)(hi:i<8):(wrds (half s t i)).set i (.int .u32 (W (s.lst.getD i 0+t.lst.getD i 0)))=wrds (half s t (i+1)):=by
 obtain rfl|rfl|rfl|rfl|rfl|rfl|rfl|rfl:i=0∨i=1∨i=2∨i=3∨i=4∨i=5∨i=6∨i=7:=by omega
 all_goals rfl
def outB (s:St8)(i:Nat):BS:=((s.lst.take i).map bytesOf).flatten
theorem outB_len (s:St8)(i:Nat)(hi:i≤8):(outB s i).length=4*i:=by
 obtain rfl|rfl|rfl|rfl|rfl|rfl|rfl|rfl|rfl:i=0∨i=1∨i=2∨i=3∨i=4∨i=5∨i=6∨i=7∨i=8:=by omega
 all_goals rfl
theorem outB_snoc (s:St8)(i:Nat)(hi:i<8):outB s (i+1)=outB s i++ [(s.lst.getD i 0>>>24).toUInt8,(s.lst.getD i 0>>>16).toUInt8,(s.lst.getD i 0>>>8).toUInt8,(s.lst.getD i 0).toUInt8]:=by
 obtain rfl|rfl|rfl|rfl|rfl|rfl|rfl|rfl:i=0∨i=1∨i=2∨i=3∨i=4∨i=5∨i=6∨i=7:=by omega
 all_goals rfl
noncomputable def block80:Code:=inn (hd (tl 1 (inn (inn (tl 1 (hd (tl 5 (Tryz.f80.body.getD .skip))))))))
noncomputable def sched80:Code:=inn (tl 1 (hd (tl 2 block80)))
noncomputable def rounds80:Code:=inn (tl 1 (hd (tl 4 block80)))
end Go.Proofs.YtgilnagajcfkpaaGreatDoor
