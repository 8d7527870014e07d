import Derived.Test.YtgilnagajcfkpaaGreatDoorQ35
set_option maxHeartbeats 4000000
set_option maxRecDepth 1000000
set_option linter.all false
namespace Go.Proofs.YtgilnagajcfkpaaGreatDoor
open Go.RowKit
theorem rounds_loop (st:St8)(blk:BS)(vs:List UInt32)(gw g4 o4 c64:Nat)(v5:Value)(w5:World)(hr5:Hid (OwnAt w5 gw 198 v5 (wrds st.lst)))(hw5:Blk w5 gw 199 (wrds vs))(hws:Hid (vs=words blk 64))
 (Hkt:Hid (∀k,k<64→w5.cell? ⟨g4,o4+k,none⟩=some (.int .u32 (W (kTab.getD k 0))))) {AA AB AC AD AE AF AG AH AI AJ AK AL AM AN AO AP AQ AR AS AT AU AV AW AX AY AZ Aa Ab Ac Ad Ae Af Ag Ah Ai Aj Ak Al Am An Ao Ap Aq Ar As At Au Av Aw Ax Ay Az A0 A1 A2 A3 A4 A5 A6 A7 A8 A9 BA BB BC BD BE BF BG BH BI BJ BK BL BM BN BO BP BQ BR BT BU BV BW BX BY BZ Ba Bb Bc Bd Be Bf Bg Bh Bi Bj Bk Bl Bm Bn Bo Bp Bq Br Bs Bt Bu Bv Bw Bx By Bz B0 B1 B2 B3 B4 B5 B6 B7 B8 B9 CA CB CC CD CE CF CG CH CI CJ CK CL CM CN CO CP CQ CR CS CT CU CV CW CX CY CZ Ca Cb Cc Cd Ce Cf Cg Ch Ci Cj Ck Cl Cm Cn Co Cp Cq Cr Cs Ct Cu Cv Cw Cx Cy Cz C0 C1 C2 C3 C4 C5 C6 C7 C8 C9 DA DB DC DD DE DF DG DH DI DJ DK DL DM DN DO DP DQ DR DS DT DU DV DW DX DY DZ Da Db Dc Dd De Df Dg Dh Di Dj Dk Dl Dm Dn Do Dp Dq Dr Ds Dt Du Dv Dw Dx Dy Dz D0 D1 D2 D3 D4 D5 D6 D7 D8 D9 EA EB EC ED EE EF EG EH EI EJ EK EL EM EN EO EP EQ ER ES ET:Value} (Q:Exit→Act→World→Prop)
 (hexit: ∀(x16 x17 x18 x19 x126 x127 x128 x129 x130 x131 x132 x133 x134 x135 x136 x137 x138 x139 x140 x141 x142 x143 x144 x145 x146 x147 x148 x149 x150 x151 x152 x153 x154 x155 x156 x157 x158 x159 x160 x161 x162 x163 x164 x165 x166 x167 x168 x169 x170 x171 x172 x173 x174 x175 x176 x177 x178 x179 x180 x181 x182 x183 x184 x185 x186 x187 x188 x189 x190 x191 x192 x193 x194 x195 x196 x197 x198 x199 x200 x201 x202 x203 x204 x205 x206 x207 x208 x209 x210 x211 x212 x213 x214 x215 x216 x217 x218 x219 x220 x221 x222 x223 x224:Value)(gv ov cv:Nat)(t:St8)(wx:World),Hid (rounds blk st 64=t)→Hid (OwnAt wx gw 198 (.slice (some ⟨gv,ov,none⟩) 8 cv) (wrds t.lst))→Below w5.heap.size w5 wx→Q (.exit 12) ⟨(AA::AB::AC::AD:: .slice (some ⟨g4,o4,none⟩) 64 c64::AE::AF::AG:: .pointer (some ⟨gw,0,none⟩)::AH::AI::AJ::AK::AL:: .slice (some ⟨gv,ov,none⟩) 8 cv:: .int .i64 64::x16::x17::x18::x19::AQ::AR::AS::AT::AU::AV::AW::AX::AY::AZ::Aa::Ab::Ac::Ad::Ae::Af::Ag::Ah::Ai::Aj::Ak::Al::Am::An::Ao::Ap::Aq::Ar::As::At::Au::Av::Aw::Ax::Ay::Az::A0::A1::A2::A3::A4::A5::A6::A7::A8::A9::BA::BB::BC::BD::BE::BF::BG::BH::BI::BJ::BK::BL::BM::BN::BO::BP::BQ::BR::BT::BU::BV::BW::BX::BY::BZ::Ba::Bb::Bc::Bd::Be::Bf::Bg::Bh::Bi::Bj::Bk::Bl::Bm::Bn::Bo::Bp::Bq::Br::Bs::Bt::Bu::Bv::Bw::Bx::By::Bz::B0::B1::B2::B3::B4::B5::B6::B7::B8::x126::x127::x128::x129::x130::x131::x132::x133::x134::x135::x136::x137::x138::x139::x140::x141::x142::x143::x144::x145::x146::x147::x148::x149::x150::x151::x152::x153::x154::x155::x156::x157::x158::x159::x160::x161::x162::x163::x164::x165::x166::x167::x168::x169::x170::x171::x172::x173::x174::x175::x176::x177::x178::x179::x180::x181::x182::x183::x184::x185::x186::x187::x188::x189::x190::x191::x192::x193::x194::x195::x196::x197::x198::x199::x200::x201::x202::x203::x204::x205::x206::x207::x208::x209::x210::x211::x212::x213::x214::x215::x216::x217::x218::x219::x220::x221::x222::x223::x224::Dk::Dl::Dm::Dn::Do::Dp::Dq::Dr::Ds::Dt::Du::Dv::Dw::Dx::Dy::Dz::D0::D1::D2::D3::D4::D5::D6::D7::D8::D9::EA::EB::EC::ED::EE::EF::EG::EH::EI::EJ::EK::EL::EM::EN::EO::EP::EQ::ER::ES::ET:: []).toArray,[]⟩ wx):
 Code.wp Tryz.prog rounds80 Q ⟨(AA::AB::AC::AD:: .slice (some ⟨g4,o4,none⟩) 64 c64::AE::AF::AG:: .pointer (some ⟨gw,0,none⟩)::AH::AI::AJ::AK::AL::v5:: .int .i64 0::AM::AN::AO::AP::AQ::AR::AS::AT::AU::AV::AW::AX::AY::AZ::Aa::Ab::Ac::Ad::Ae::Af::Ag::Ah::Ai::Aj::Ak::Al::Am::An::Ao::Ap::Aq::Ar::As::At::Au::Av::Aw::Ax::Ay::Az::A0::A1::A2::A3::A4::A5::A6::A7::A8::A9::BA::BB::BC::BD::BE::BF::BG::BH::BI::BJ::BK::BL::BM::BN::BO::BP::BQ::BR::BT::BU::BV::BW::BX::BY::BZ::Ba::Bb::Bc::Bd::Be::Bf::Bg::Bh::Bi::Bj::Bk::Bl::Bm::Bn::Bo::Bp::Bq::Br::Bs::Bt::Bu::Bv::Bw::Bx::By::Bz::B0::B1::B2::B3::B4::B5::B6::B7::B8::B9::CA::CB::CC::CD::CE::CF::CG::CH::CI::CJ::CK::CL::CM::CN::CO::CP::CQ::CR::CS::CT::CU::CV::CW::CX::CY::CZ::Ca::Cb::Cc::Cd::Ce::Cf::Cg::Ch::Ci::Cj::Ck::Cl::Cm::Cn::Co::Cp::Cq::Cr::Cs::Ct::Cu::Cv::Cw::Cx::Cy::Cz::C0::C1::C2::C3::C4::C5::C6::C7::C8::C9::DA::DB::DC::DD::DE::DF::DG::DH::DI::DJ::DK::DL::DM::DN::DO::DP::DQ::DR::DS::DT::DU::DV::DW::DX::DY::DZ::Da::Db::Dc::Dd::De::Df::Dg::Dh::Di::Dj::Dk::Dl::Dm::Dn::Do::Dp::Dq::Dr::Ds::Dt::Du::Dv::Dw::Dx::Dy::Dz::D0::D1::D2::D3::D4::D5::D6::D7::D8::D9::EA::EB::EC::ED::EE::EF::EG::EH::EI::EJ::EK::EL::EM::EN::EO::EP::EQ::ER::ES::ET:: []).toArray,[]⟩ w5:=by
 conv=>arg 2;whnf
 have HR0:Hid (rounds blk st 0=st):=rfl
 have hb5r:Below w5.heap.size w5 w5:=Below.refl _ _
 obtain⟨ws,hwse⟩: ∃x,Hid (x=words blk 64):=⟨_,rfl⟩
 have Hexit:=Lib.hid hexit
 clear hexit
 go_loopw [14,15] (fun v14 v15 wx=> ∃(k:Nat) (t:St8),k≤64∧v15= .int .i64 k∧Hid (OwnAt wx gw 198 v14 (wrds t.lst))∧Hid (rounds blk st k=t)∧Below w5.heap.size w5 wx) (fun _ v15 _=>64-(intOf v15).toNat)
 case atStart=>exact⟨0,st,Nat.zero_le _,rfl,hr5,HR0,hb5r⟩
 case round=>
  obtain⟨k,t,hk64,rfl,hrv,HR,hb⟩:=hrel
  obtain⟨gv,ov,cv,rfl⟩:=hrv.out.form_some (by simp [wrds,St8.lst])
  rw [show(wrds t.lst).length=8 from rfl]at hrv⊢
  have hcv: ∀j u,(wrds t.lst)[j]?=some u→wr.cell? ⟨gv,ov+j,none⟩=some u:=fun j u hu=>(hrv.out.cell_at j u hu).1
  have hgvl:=(hrv.out.lt gv rfl).1
  clear hb5r HR0 hr5
  by_cases hk:k<64
  ·have hk0:(0:Int)≤(k:Int):=by omega
   have hk1:(k:Int)<64:=by omega
   have p0:wr.cell? ⟨gv,ov+0,none⟩=some (.int .u32 (W t.a)):=hcv 0 _ rfl
   have p1:wr.cell? ⟨gv,ov+1,none⟩=some (.int .u32 (W t.b)):=hcv 1 _ rfl
   have p2:wr.cell? ⟨gv,ov+2,none⟩=some (.int .u32 (W t.c)):=hcv 2 _ rfl
   have p3:wr.cell? ⟨gv,ov+3,none⟩=some (.int .u32 (W t.d)):=hcv 3 _ rfl
   have p4:wr.cell? ⟨gv,ov+4,none⟩=some (.int .u32 (W t.e)):=hcv 4 _ rfl
   have p5:wr.cell? ⟨gv,ov+5,none⟩=some (.int .u32 (W t.f)):=hcv 5 _ rfl
   have p6:wr.cell? ⟨gv,ov+6,none⟩=some (.int .u32 (W t.g)):=hcv 6 _ rfl
   have p7:wr.cell? ⟨gv,ov+7,none⟩=some (.int .u32 (W t.h)):=hcv 7 _ rfl
   rw [Nat.add_zero]at p0
   obtain⟨kk,hkk⟩: ∃y,Hid (y=kTab.getD k 0):=⟨_,rfl⟩
   obtain⟨xx,hxx⟩: ∃y,Hid (y=vs.getD k 0):=⟨_,rfl⟩
   have pk:wr.cell? ⟨g4,o4+k,none⟩=some (.int .u32 (W kk)):=by rw [hkk.out];exact bcell hb (Hkt.out k hk)
   have px:wr.cell? ⟨gw,k,none⟩=some (.int .u32 (W xx)):=(hw5.below hb hw5.lt).cell k _ (by rw [hxx.out,hws.out];simp [wrds,words_length,hk])
   have HX:Hid (xx=nextW blk (words blk k)):=by show _=_;rw [hxx.out,hws.out,words_get _ _ _ hk]
   clear hcv
   go_wp2_with fail
   go_quiet (fail)
   generalize hwd:wr.drewN nq=wd
   have p0d:wd.cell? ⟨gv,ov,none⟩=some (.int .u32 (W t.a)):=by rw [←hwd];exact p0
   have p1d:wd.cell? ⟨gv,ov+1,none⟩=some (.int .u32 (W t.b)):=by rw [←hwd];exact p1
   have p2d:wd.cell? ⟨gv,ov+2,none⟩=some (.int .u32 (W t.c)):=by rw [←hwd];exact p2
   have p3d:wd.cell? ⟨gv,ov+3,none⟩=some (.int .u32 (W t.d)):=by rw [←hwd];exact p3
   have p4d:wd.cell? ⟨gv,ov+4,none⟩=some (.int .u32 (W t.e)):=by rw [←hwd];exact p4
   have p5d:wd.cell? ⟨gv,ov+5,none⟩=some (.int .u32 (W t.f)):=by rw [←hwd];exact p5
   have p6d:wd.cell? ⟨gv,ov+6,none⟩=some (.int .u32 (W t.g)):=by rw [←hwd];exact p6
   have p7d:wd.cell? ⟨gv,ov+7,none⟩=some (.int .u32 (W t.h)):=by rw [←hwd];exact p7
   have pkd:wd.cell? ⟨g4,o4+k,none⟩=some (.int .u32 (W kk)):=by rw [←hwd];exact pk
   have pxd:wd.cell? ⟨gw,k,none⟩=some (.int .u32 (W xx)):=by rw [←hwd];exact px
   have hbd:Below w5.heap.size w5 wd:=by rw [←hwd];exact bdN hb _
   clear p0 p1 p2 p3 p4 p5 p6 p7 pk px hwd
   go_wp2_with fail
   go_quiet ((go_at_call 105;refine Calls.quiet_of (turnQ _ _ _ ?_);decide))
   generalize hwe:wd.drewN nq=we
   have p0e:we.cell? ⟨gv,ov,none⟩=some (.int .u32 (W t.a)):=by rw [←hwe];exact p0d
   have p1e:we.cell? ⟨gv,ov+1,none⟩=some (.int .u32 (W t.b)):=by rw [←hwe];exact p1d
   have p2e:we.cell? ⟨gv,ov+2,none⟩=some (.int .u32 (W t.c)):=by rw [←hwe];exact p2d
   have p3e:we.cell? ⟨gv,ov+3,none⟩=some (.int .u32 (W t.d)):=by rw [←hwe];exact p3d
   have p4e:we.cell? ⟨gv,ov+4,none⟩=some (.int .u32 (W t.e)):=by rw [←hwe];exact p4d
   have p5e:we.cell? ⟨gv,ov+5,none⟩=some (.int .u32 (W t.f)):=by rw [←hwe];exact p5d
   have p6e:we.cell? ⟨gv,ov+6,none⟩=some (.int .u32 (W t.g)):=by rw [←hwe];exact p6d
   have hbe:Below w5.heap.size w5 we:=by rw [←hwe];exact bdN hbd _
   clear p0d p1d p2d p3d p4d p5d p6d p7d pkd pxd hbd hwe
   go_wp2_with fail
   go_quiet ((go_at_call 105;refine Calls.quiet_of (turnQ _ _ _ ?_);decide))
   generalize hwf:we.drewN nq=wf
   have p0f:wf.cell? ⟨gv,ov,none⟩=some (.int .u32 (W t.a)):=by rw [←hwf];exact p0e
   have p1f:wf.cell? ⟨gv,ov+1,none⟩=some (.int .u32 (W t.b)):=by rw [←hwf];exact p1e
   have p2f:wf.cell? ⟨gv,ov+2,none⟩=some (.int .u32 (W t.c)):=by rw [←hwf];exact p2e
   have p3f:wf.cell? ⟨gv,ov+3,none⟩=some (.int .u32 (W t.d)):=by rw [←hwf];exact p3e
   have p4f:wf.cell? ⟨gv,ov+4,none⟩=some (.int .u32 (W t.e)):=by rw [←hwf];exact p4e
   have p5f:wf.cell? ⟨gv,ov+5,none⟩=some (.int .u32 (W t.f)):=by rw [←hwf];exact p5e
   have p6f:wf.cell? ⟨gv,ov+6,none⟩=some (.int .u32 (W t.g)):=by rw [←hwf];exact p6e
   have hbf:Below w5.heap.size w5 wf:=by rw [←hwf];exact bdN hbe _
   clear p0e p1e p2e p3e p4e p5e p6e hbe hwf
   go_wp2_with fail
   go_still_tail 26,(by kernel_rfl)
   change wpList _ _ _ _ _ wf.drew
   rw [turn_bs1,turn_bs0]
   go_wp2_with fail
   have hgf:gw≤wf.heap.size:=Nat.le_trans (Nat.le_of_lt hw5.lt) hbf.size
   have HO:Hid (OwnAt (wf.alloc (.cells (wrds (rnd t kk xx).lst).toArray 198)).drew gw 198 (.slice (some ⟨wf.heap.size,0,none⟩) 8 8) (wrds (rnd t kk xx).lst)):=(OwnAt.lit wf gw 198 (wrds (rnd t kk xx).lst) hgf (by simp [wrds,St8.lst,maxLen])).drew
   have HR2:Hid (rounds blk st (k+1)=rnd t kk xx):=by show _=_;rw [rounds,HR.out,hkk.out,hxx.out,hws.out]
   have hbf3:=bdw (hbf.alloc hbf.size (.cells (wrds (rnd t kk xx).lst).toArray 198))
   go_roundw
   case rel=>first|exact⟨k+1,rnd t kk xx,by omega,by go_num,HO,HR2,hbf3⟩|((repeat apply Exists.intro);exact⟨⟨k+1,rnd t kk xx,by omega,by go_num,HO,HR2,hbf3⟩,rfl⟩)
   case measure=>simp [intOf];omega
  ·obtain rfl:k=64:=by omega
   clear hcv hk hk64
   go_wp2_with fail
   exact Hexit.out _ _ _ _ _ _ _ _ _ _ _ _ _ _ _ _ _ _ _ _ _ _ _ _ _ _ _ _ _ _ _ _ _ _ _ _ _ _ _ _ _ _ _ _ _ _ _ _ _ _ _ _ _ _ _ _ _ _ _ _ _ _ _ _ _ _ _ _ _ _ _ _ _ _ _ _ _ _ _ _ _ _ _ _ _ _ _ _ _ _ _ _ _ _ _ _ _ _ _ _ _ _ _ _ _ _ _ _ HR hrv hb
theorem sched_loop (blk:BS)(vs:List UInt32)(gw:Nat)(w0 wr:World)(hw1:Blk wr gw 199 (wrds vs))(HV16:Hid (vs.length=64∧vs.take 16=words blk 16))(hb1:Below gw w0 wr)(z0 z1 z2 z3 z4 z5 z6 z7 z9 z10 z12 z13 z14 z15 z16 z17 z18 z19 z20 z21 z22 z23 z24 z25 z26 z27 z28 z29 z30 z31 z32 z33 z34 z35 z36 z37 z38 z39 z40 z41 z42 z43 z44 z45 z46 z47 z48 z49 z50 z51 z52 z53 z54 z55 z56 z57 z58 z59 z60 z61 z62 z63 z64 z65 z66 z67 z68 z69 z70 z71 z72 z73 z74 z75 z76 z77 z78 z79 z80 z81 z82 z83 z84 z85 z86 z87 z88 z89 z90 z91 z92 z93 z94 z95 z96 z97 z98 z99 z100 z101 z102 z103 z104 z105 z106 z107 z108 z109 z110 z111 z112 z113 z114 z115 z116 z117 z118 z119 z120 z121 z122 z123 z124 z125 z126 z127 z128 z129 z130 z131 z132 z133 z134 z135 z136 z137 z138 z139 z140 z141 z142 z143 z144 z145 z146 z147 z148 z149 z150 z151 z152 z153 z154 z155 z156 z157 z158 z159 z160 z161 z162 z163 z164 z165 z166 z167 z168 z169 z170 z171 z172 z173 z174 z175 z176 z177 z178 z179 z180 z181 z182 z183 z184 z185 z186 z187 z188 z189 z190 z191 z192 z193 z194 z195 z196 z197 z198 z199 z200 z201 z202 z203 z204 z205 z206 z207 z208 z209 z210 z211 z212 z213 z214 z215 z216 z217 z218 z219 z220 z221 z222 z223 z224 z225 z226 z227 z228 z229 z230 z231 z232 z233 z234 z235 z236 z237 z238 z239 z240 z241 z242 z243 z244 z245 z246 z247 z248 z249 z250 z251 z252 z253 z254 z255 z256 z257 z258 z259 z260 z261 z262 z263 z264 z265 z266 z267 z268 z269 z270:Value)(Q:Exit→Act→World→Prop)
 (hexit: ∀(y12 y13 y82 y83 y84 y85 y86 y87 y88 y89 y90 y91 y92 y93 y94 y95 y96 y97 y98 y99 y100 y101 y102 y103 y104 y105 y106 y107 y108 y109 y110 y111 y112 y113 y114 y115 y116 y117 y118 y119 y120 y121 y122:Value)(vs:List UInt32)(wx:World),Hid (vs.length=64∧vs.take 64=words blk 64)→Blk wx gw 199 (wrds vs)→Below gw w0 wx→Q (.exit 10) ⟨(z0::z1::z2::z3::z4::z5::z6::z7:: .pointer (some ⟨gw,0,none⟩)::z9::z10:: .int .i64 64::y12::y13::z14::z15::z16::z17::z18::z19::z20::z21::z22::z23::z24::z25::z26::z27::z28::z29::z30::z31::z32::z33::z34::z35::z36::z37::z38::z39::z40::z41::z42::z43::z44::z45::z46::z47::z48::z49::z50::z51::z52::z53::z54::z55::z56::z57::z58::z59::z60::z61::z62::z63::z64::z65::z66::z67::z68::z69::z70::z71::z72::z73::z74::z75::z76::z77::z78::z79::z80::z81::y82::y83::y84::y85::y86::y87::y88::y89::y90::y91::y92::y93::y94::y95::y96::y97::y98::y99::y100::y101::y102::y103::y104::y105::y106::y107::y108::y109::y110::y111::y112::y113::y114::y115::y116::y117::y118::y119::y120::y121::y122::z123::z124::z125::z126::z127::z128::z129::z130::z131::z132::z133::z134::z135::z136::z137::z138::z139::z140::z141::z142::z143::z144::z145::z146::z147::z148::z149::z150::z151::z152::z153::z154::z155::z156::z157::z158::z159::z160::z161::z162::z163::z164::z165::z166::z167::z168::z169::z170::z171::z172::z173::z174::z175::z176::z177::z178::z179::z180::z181::z182::z183::z184::z185::z186::z187::z188::z189::z190::z191::z192::z193::z194::z195::z196::z197::z198::z199::z200::z201::z202::z203::z204::z205::z206::z207::z208::z209::z210::z211::z212::z213::z214::z215::z216::z217::z218::z219::z220::z221::z222::z223::z224::z225::z226::z227::z228::z229::z230::z231::z232::z233::z234::z235::z236::z237::z238::z239::z240::z241::z242::z243::z244::z245::z246::z247::z248::z249::z250::z251::z252::z253::z254::z255::z256::z257::z258::z259::z260::z261::z262::z263::z264::z265::z266::z267::z268::z269::z270:: []).toArray,[]⟩ wx):
 Code.wp Tryz.prog sched80 Q ⟨(z0::z1::z2::z3::z4::z5::z6::z7:: .pointer (some ⟨gw,0,none⟩)::z9::z10:: .int .i64 16::z12::z13::z14::z15::z16::z17::z18::z19::z20::z21::z22::z23::z24::z25::z26::z27::z28::z29::z30::z31::z32::z33::z34::z35::z36::z37::z38::z39::z40::z41::z42::z43::z44::z45::z46::z47::z48::z49::z50::z51::z52::z53::z54::z55::z56::z57::z58::z59::z60::z61::z62::z63::z64::z65::z66::z67::z68::z69::z70::z71::z72::z73::z74::z75::z76::z77::z78::z79::z80::z81::z82::z83::z84::z85::z86::z87::z88::z89::z90::z91::z92::z93::z94::z95::z96::z97::z98::z99::z100::z101::z102::z103::z104::z105::z106::z107::z108::z109::z110::z111::z112::z113::z114::z115::z116::z117::z118::z119::z120::z121::z122::z123::z124::z125::z126::z127::z128::z129::z130::z131::z132::z133::z134::z135::z136::z137::z138::z139::z140::z141::z142::z143::z144::z145::z146::z147::z148::z149::z150::z151::z152::z153::z154::z155::z156::z157::z158::z159::z160::z161::z162::z163::z164::z165::z166::z167::z168::z169::z170::z171::z172::z173::z174::z175::z176::z177::z178::z179::z180::z181::z182::z183::z184::z185::z186::z187::z188::z189::z190::z191::z192::z193::z194::z195::z196::z197::z198::z199::z200::z201::z202::z203::z204::z205::z206::z207::z208::z209::z210::z211::z212::z213::z214::z215::z216::z217::z218::z219::z220::z221::z222::z223::z224::z225::z226::z227::z228::z229::z230::z231::z232::z233::z234::z235::z236::z237::z238::z239::z240::z241::z242::z243::z244::z245::z246::z247::z248::z249::z250::z251::z252::z253::z254::z255::z256::z257::z258::z259::z260::z261::z262::z263::z264::z265::z266::z267::z268::z269::z270:: []).toArray,[]⟩ wr:=by
 conv=>arg 2;whnf
 have Hexit:=Lib.hid hexit
 clear hexit
 go_loopw [11] (fun v11 wx=> ∃(k:Nat) (vs:List UInt32),16≤k∧k≤64∧v11= .int .i64 k∧Blk wx gw 199 (wrds vs)∧Hid (vs.length=64∧vs.take k=words blk k)∧Below gw w0 wx) (fun v11 _=>64-(intOf v11).toNat)
 case atStart=>exact⟨16,vs,Nat.le_refl _,by omega,rfl,hw1,HV16,hb1⟩
 case round=>
  obtain⟨k,vs,hk16,hk64,rfl,hw2,HV,hb2⟩:=hrel
  clear hw1 HV16 hb1
  by_cases hk:k<64
  ·have hk0:(0:Int)≤(k:Int):=by omega
   have hk1:(k:Int)<64:=by omega
   have hk16':(16:Int)≤(k:Int):=by omega
   have hvl:=HV.out.1
   obtain⟨x2,hx2⟩: ∃y,Hid (y=vs.getD (k-2) 0):=⟨_,rfl⟩
   obtain⟨x15,hx15⟩: ∃y,Hid (y=vs.getD (k-15) 0):=⟨_,rfl⟩
   obtain⟨x7,hx7⟩: ∃y,Hid (y=vs.getD (k-7) 0):=⟨_,rfl⟩
   obtain⟨x16,hx16⟩: ∃y,Hid (y=vs.getD (k-16) 0):=⟨_,rfl⟩
   have c2:=hw2.cell (k-2) (.int .u32 (W x2)) (by rw [hx2.out];simp [wrds,show k-2<vs.length by omega])
   have c15:=hw2.cell (k-15) (.int .u32 (W x15)) (by rw [hx15.out];simp [wrds,show k-15<vs.length by omega])
   have c7:=hw2.cell (k-7) (.int .u32 (W x7)) (by rw [hx7.out];simp [wrds,show k-7<vs.length by omega])
   have c16:=hw2.cell (k-16) (.int .u32 (W x16)) (by rw [hx16.out];simp [wrds,show k-16<vs.length by omega])
   have ck:=hw2.cell k (.int .u32 (W (vs.getD k 0))) (by simp [wrds,show k<vs.length by omega])
   have fw:=hw2.frozen k
   have t2:((k:Int)-2).toNat=k-2:=by omega
   have t15:((k:Int)-15).toNat=k-15:=by omega
   have t7:((k:Int)-7).toNat=k-7:=by omega
   have t16:((k:Int)-16).toNat=k-16:=by omega
   clear hvl
   have h20:(0:Int)≤(k:Int)-2:=by omega
   have h21:(k:Int)-2<64:=by omega
   have h150:(0:Int)≤(k:Int)-15:=by omega
   have h151:(k:Int)-15<64:=by omega
   have h70:(0:Int)≤(k:Int)-7:=by omega
   have h71:(k:Int)-7<64:=by omega
   have h160:(0:Int)≤(k:Int)-16:=by omega
   have h161:(k:Int)-16<64:=by omega
   have w2:IntKind.i64.wrap ((k:Int)-2)=(k:Int)-2:=by rw [IntKind.wrap_i64];omega
   have w15:IntKind.i64.wrap ((k:Int)-15)=(k:Int)-15:=by rw [IntKind.wrap_i64];omega
   have w7:IntKind.i64.wrap ((k:Int)-7)=(k:Int)-7:=by rw [IntKind.wrap_i64];omega
   have w16:IntKind.i64.wrap ((k:Int)-16)=(k:Int)-16:=by rw [IntKind.wrap_i64];omega
   have q7:(7:Int)≤(k:Int):=by omega
   have q2:(2:Int)≤(k:Int):=by omega
   have q15:(15:Int)≤(k:Int):=by omega
   have q71:(k:Int)<64+7:=by omega
   have q73:(k:Int)<64+2:=by omega
   have q74:(k:Int)<64+15:=by omega
   have q72:(k:Int)<71:=by omega
   have q75:(k:Int)<66:=by omega
   have q76:(k:Int)<79:=by omega
   have q16:(k:Int)<64+16:=by omega
   have q17:(k:Int)<80:=by omega
   have u7:((k:Int)-7).toNat=k-7:=by omega
   have u16:((k:Int)-16).toNat=k-16:=by omega
   have u2:((k:Int)-2).toNat=k-2:=by omega
   have u15:((k:Int)-15).toNat=k-15:=by omega
   have c7':=c7;have c16':=c16;have c2':=c2;have c15':=c15
   rw [←u7]at c7';rw [←u16]at c16';rw [←u2]at c2';rw [←u15]at c15'
   clear u7 u16 u2 u15
   go_wp2_with fail
   go_quiet (fail)
   have c7d:(wr.drewN nq).cell? ⟨gw,k-7,none⟩=some (.int .u32 (W x7)):=c7
   have c16d:(wr.drewN nq).cell? ⟨gw,k-16,none⟩=some (.int .u32 (W x16)):=c16
   have ckd:(wr.drewN nq).cell? ⟨gw,k,none⟩=some (.int .u32 (W (vs.getD k 0))):=ck
   have fwd:(wr.drewN nq).frozen? ⟨gw,k,none⟩=false:=fw
   have hw2d:Blk (wr.drewN nq) gw 199 (wrds vs):=hw2
   have hb2d:=bdN hb2 nq
   clear c2 c15 c7 c16 c7' c16' c2' c15' ck fw hw2 hb2
   generalize wr.drewN nq=wd at*
   go_wp2_with fail
   have e16: ∀v:Value,((wrds vs).set k v)[k-16]?=some (.int .u32 (W x16)):=by
    intro v
    have:=HV.out.1
    rw [List.getElem?_set_ne (by omega),hx16.out];simp [wrds,show k-16<vs.length by omega]
   have e7: ∀v:Value,((wrds vs).set k v)[k-7]?=some (.int .u32 (W x7)):=by
    intro v
    have:=HV.out.1
    rw [List.getElem?_set_ne (by omega),hx7.out];simp [wrds,show k-7<vs.length by omega]
   have HB: ∀(n:Nat) (v:UInt32),Blk ((wd.drewN n).setCell ⟨gw,k,none⟩ (.int .u32 (W v))) gw 199 (wrds (vs.set k v)):=by
    intro n v
    have h:=(hw2d.drewN n).set k (.int .u32 (W v))
    have e:(wrds vs).set k (.int .u32 (W v))=wrds (vs.set k v):=by simp only [wrds,←List.map_set]
    rw [e]at h;exact h
   have Hbb: ∀(n:Nat) (v:Value),Below gw w0 ((wd.drewN n).setCell ⟨gw,k,none⟩ v):=fun n v=>(bdN hb2d n).setCell (p:=⟨gw,k,none⟩) (Nat.le_refl _) v
   have HN:Hid (x16+(turn 7 x15^^^turn 18 x15^^^x15>>>3)+x7+(turn 17 x2^^^turn 19 x2^^^x2>>>10)=nextW blk (words blk k)):=by
    show _=_
    have hv:=HV.out.2
    have hl:=HV.out.1
    have hg: ∀j,j<k→vs.getD j 0=(words blk k).getD j 0:=fun j hj=>by
     rw [←hv]
     simp [List.getD_eq_getElem?_getD,List.getElem?_take,hj]
    unfold nextW
    rw [words_length,if_neg (by omega),←hg _ (by omega),←hg _ (by omega),←hg _ (by omega),←hg _ (by omega),←hx2.out,←hx7.out,←hx15.out,←hx16.out]
    show x16+sg0 x15+x7+sg1 x2=sg1 x2+x7+sg0 x15+x16
    ac_rfl
   have HV':Hid ((vs.set k (x16+(turn 7 x15^^^turn 18 x15^^^x15>>>3)+x7+(turn 17 x2^^^turn 19 x2^^^x2>>>10))).length=64∧(vs.set k (x16+(turn 7 x15^^^turn 18 x15^^^x15>>>3)+x7+(turn 17 x2^^^turn 19 x2^^^x2>>>10))).take (k+1)=words blk (k+1)):=by
    have h:=HV.out
    exact⟨by rw [List.length_set];exact h.1,by rw [take_set _ _ _ (by omega),h.2,words,←HN.out]⟩
   go_region_held3 (fun x=>x.cell? ⟨gw,k-16,none⟩=some (.int .u32 (W x16))∧x.cell? ⟨gw,k-7,none⟩=some (.int .u32 (W x7)))
    (first|exact⟨c16d,c7d⟩|exact⟨(HB _ _).cell (k-16) _ (by simpa only [wrds,List.map_set]using e16 _),(HB _ _).cell (k-7) _ (by simpa only [wrds,List.map_set]using e7 _)⟩)
    (first|(go_at_call 105;refine(turnQ _ _ _ ?hq).mono ?_;(case hq=>decide);rintro e w3 ⟨rfl,m,rfl⟩)|fail)
   all_goals
    go_wp2_with fail
    go_roundw
    case rel=>
     exact⟨k+1,_,by omega,by omega,by go_num,HB _ _,HV',Hbb _ _⟩
    case measure=>simp [intOf];omega
  ·obtain rfl:k=64:=by omega
   clear hk hk64 hk16
   go_wp2_with fail
   exact Hexit.out _ _ _ _ _ _ _ _ _ _ _ _ _ _ _ _ _ _ _ _ _ _ _ _ _ _ _ _ _ _ _ _ _ _ _ _ _ _ _ _ _ _ _ _ _ HV hw2 hb2
end Go.Proofs.YtgilnagajcfkpaaGreatDoor
