/- A part of the proof of the tied card of FnTimes: Fi1. -/
import Derived.Test.YtcogfofgmbndjaaGreatDoorProg
import Derived.WalkKit
import Derived.WalkSpells
import Derived.WalkLawsBesides
import Derived.Outline
import Derived.StillTailTactics
import Derived.Test.YtcogfofgmbndjaaGreatDoorTAe
set_option maxRecDepth 100000
set_option maxHeartbeats 40000000
namespace Go.Proofs.Ed
open Go.RowKit
theorem fromM_c {bv ov bx ox:Nat} {a0 a1 a2 a3:Int} {w:World} (u0:U64 a0) (u1:U64 a1) (u2:U64 a2) (u3:U64 a3) (RM:Room w bv ov 4) (X:Has w bx ox [.int .u64 a0,.int .u64 a1,.int .u64 a2,.int .u64 a3]) :
  Calls Tryz.prog 133 #[Ptr bv ov,Ptr bx ox] w (fun e w'=>e = .returned (.tuple #[])∧Chg (Rg bv ov 4) w w'∧∃ m,(∃ k,m * 115792089237316195423570985008687907853269984665640564039457584007913129639936 = v4 a0 a1 a2 a3 + LL * k)∧MW w' bv ov m):=by
 have c0:=(X 0 (by simp)).1
 have c1:=(X 1 (by simp)).1
 have c2:=(X 2 (by simp)).1
 have c3:=(X 3 (by simp)).1
 simp at c0 c1 c2 c3
 clear X
 go_enter Tryz.func133,Tryz.ntmps133
 obtain ⟨z1_0,x2,qz1_0,qx2,mx2⟩:=M64.ex u0 ka
 go_wp2_with fail
 refine mul_go u0 ka qz1_0 qx2 ?_
 dsimp only
 go_step
 refine oG (Fr 428 [(0,Ptr bv ov),(1,Ptr bx ox),(99,.tuple #[.int .u64 z1_0,.int .u64 x2])] [(4,a0)]) (by refine ⟨hd rfl,?_⟩;simp only [Fx,Fu];and_intros<;>first | rfl | trivial) ?_
 clear qz1_0 qx2
 rintro T ⟨hT,⟨t0,t1,t99,-⟩,t4,-⟩
 obtain ⟨s97,s100,s101,s5,s6,s7,s103,s104,-⟩:=sz hT [97,100,101,5,6,7,103,104] rfl
 obtain ⟨x5,x4,qx5,qx4,mx4⟩:=M64.ex mx2.l kb
 go_wp2_with fail
 refine mul_go mx2.l kb qx5 qx4 ?_
 dsimp only
 go_step
 refine oG (Fr 428 [(0,Ptr bv ov),(1,Ptr bx ox),(104,.tuple #[.int .u64 x5,.int .u64 x4])] [(4,a0),(5,x2)]) (by refine ⟨hd (by simp [hT.out]),?_⟩;simp [Fx,Fu, *]) ?_
 clear hT t0 t1 t99 t4 qx5 qx4 s97 s100 s101 s5 s6 s7 s103 s104
 rintro T ⟨hT,⟨t0,t1,t104,-⟩,t4,t5,-⟩
 obtain ⟨s102,s105,s106,s7,s6,s8,s9,s108,s109,-⟩:=sz hT [102,105,106,7,6,8,9,108,109] rfl
 obtain ⟨x7,x6,qx7,qx6,mx6⟩:=M64.ex mx2.l kc
 go_wp2_with fail
 refine mul_go mx2.l kc qx7 qx6 ?_
 dsimp only
 go_step
 refine oG (Fr 428 [(0,Ptr bv ov),(1,Ptr bx ox),(109,.tuple #[.int .u64 x7,.int .u64 x6])] [(4,a0),(5,x2),(6,x4),(7,x5)]) (by refine ⟨hd (by simp [hT.out]),?_⟩;simp [Fx,Fu, *]) ?_
 clear hT t0 t1 t104 t4 t5 qx7 qx6 s102 s105 s106 s7 s6 s8 s9 s108 s109
 rintro T ⟨hT,⟨t0,t1,t109,-⟩,t4,t5,t6,t7,-⟩
 obtain ⟨s107,s110,s111,s9,s8,s10,s11,s113,s114,-⟩:=sz hT [107,110,111,9,8,10,11,113,114] rfl
 obtain ⟨x9,x8,qx9,qx8,mx8⟩:=M64.ex mx2.l kd
 go_wp2_with fail
 refine mul_go mx2.l kd qx9 qx8 ?_
 dsimp only
 go_step
 refine oG (Fr 428 [(0,Ptr bv ov),(1,Ptr bx ox),(114,.tuple #[.int .u64 x9,.int .u64 x8])] [(4,a0),(6,x4),(7,x5),(8,x6),(9,x7)]) (by refine ⟨hd (by simp [hT.out]),?_⟩;simp [Fx,Fu, *]) ?_
 clear hT t0 t1 t109 t4 t5 t6 t7 qx9 qx8 s107 s110 s111 s9 s8 s10 s11 s113 s114
 rintro T ⟨hT,⟨t0,t1,t114,-⟩,t4,t6,t7,t8,t9,-⟩
 obtain ⟨s112,s115,s116,s11,s10,s12,s13,s118,s119,s120,s117,s121,s122,s14,-⟩:=sz hT [112,115,116,11,10,12,13,118,119,120,117,121,122,14] rfl
 obtain ⟨x10,x11,mx11,rx11⟩:=A64.ex mx8.h mx6.l k0
 repeat ((fail_if_success with_reducible show wpList _ _ _ (⟨some 124,_,_,_,_,_⟩ :: _) _ _);(first | go_values | go_skip | go_guarded | go_step | go_upon))
 refine oG (Fr 428 [(0,Ptr bv ov),(1,Ptr bx ox)] [(4,a0),(6,x4),(7,x5),(9,x7),(10,x8),(12,x10),(13,x11)]) (by refine ⟨hd (by simp [hT.out]),?_⟩;simp [Fx,Fu, *]) ?_
 clear hT t0 t1 t114 t4 t6 t7 t8 t9 rx11 s112 s115 s116 s11 s10 s12 s13 s118 s119 s120 s117 s121 s122 s14
 rintro T ⟨hT,⟨t0,t1,-⟩,t4,t6,t7,t9,t10,t12,t13,-⟩
 obtain ⟨s124,s125,s126,s123,s127,s128,s14,s15,s16,s130,s131,s132,s129,s133,s134,s17,s18,-⟩:=sz hT [124,125,126,123,127,128,14,15,16,130,131,132,129,133,134,17,18] rfl
 obtain ⟨z6_0,x13,mx13,rx13⟩:=A64.ex u0 mx8.l k0
 obtain ⟨x14,x15,mx15,rx15⟩:=A64.ex kz mx11.s mx13.d
 repeat ((fail_if_success with_reducible show wpList _ _ _ (⟨some 136,_,_,_,_,_⟩ :: _) _ _);(first | go_values | go_skip | go_guarded | go_step | go_upon))
 refine oG (Fr 428 [(0,Ptr bv ov),(1,Ptr bx ox)] [(6,x4),(7,x5),(9,x7),(13,x11),(15,x14),(16,x15)]) (by refine ⟨hd (by simp [hT.out]),?_⟩;simp [Fx,Fu, *]) ?_
 clear hT t0 t1 t4 t6 t7 t9 t10 t12 t13 rx13 rx15 s124 s125 s126 s123 s127 s128 s14 s15 s16 s130 s131 s132 s129 s133 s134 s17 s18
 rintro T ⟨hT,⟨t0,t1,-⟩,t6,t7,t9,t13,t15,t16,-⟩
 obtain ⟨s136,s137,s138,s139,s140,s141,s135,s142,s143,s17,s18,s19,s145,s146,-⟩:=sz hT [136,137,138,139,140,141,135,142,143,17,18,19,145,146] rfl
 obtain ⟨x16,x17,mx17,rx17⟩:=A64.ex mx15.s u1 k0
 obtain ⟨z9_0,x18,qz9_0,qx18,mx18⟩:=M64.ex mx17.s ka
 go_wp2_with fail
 refine mul_go mx17.s ka qz9_0 qx18 ?_
 dsimp only
 go_step
 refine oG (Fr 428 [(0,Ptr bv ov),(1,Ptr bx ox),(146,.tuple #[.int .u64 z9_0,.int .u64 x18])] [(6,x4),(7,x5),(9,x7),(13,x11),(16,x15),(17,x16),(18,x17)]) (by refine ⟨hd (by simp [hT.out]),?_⟩;simp [Fx,Fu, *]) ?_
 clear hT t0 t1 t6 t7 t9 t13 t15 t16 rx17 qz9_0 qx18 s136 s137 s138 s139 s140 s141 s135 s142 s143 s17 s18 s19 s145 s146
 rintro T ⟨hT,⟨t0,t1,t146,-⟩,t6,t7,t9,t13,t16,t17,t18,-⟩
 obtain ⟨s144,s147,s148,s19,s20,s21,s150,s151,-⟩:=sz hT [144,147,148,19,20,21,150,151] rfl
 obtain ⟨x21,x20,qx21,qx20,mx20⟩:=M64.ex mx18.l kb
 go_wp2_with fail
 refine mul_go mx18.l kb qx21 qx20 ?_
 dsimp only
 go_step
 refine oG (Fr 428 [(0,Ptr bv ov),(1,Ptr bx ox),(151,.tuple #[.int .u64 x21,.int .u64 x20])] [(6,x4),(7,x5),(9,x7),(13,x11),(16,x15),(17,x16),(18,x17),(19,x18)]) (by refine ⟨hd (by simp [hT.out]),?_⟩;simp [Fx,Fu, *]) ?_
 clear hT t0 t1 t146 t6 t7 t9 t13 t16 t17 t18 qx21 qx20 s144 s147 s148 s19 s20 s21 s150 s151
 rintro T ⟨hT,⟨t0,t1,t151,-⟩,t6,t7,t9,t13,t16,t17,t18,t19,-⟩
 obtain ⟨s149,s152,s153,s21,s20,s22,s23,s155,s156,-⟩:=sz hT [149,152,153,21,20,22,23,155,156] rfl
 obtain ⟨x23,x22,qx23,qx22,mx22⟩:=M64.ex mx18.l kc
 go_wp2_with fail
 refine mul_go mx18.l kc qx23 qx22 ?_
 dsimp only
 go_step
 refine oG (Fr 428 [(0,Ptr bv ov),(1,Ptr bx ox),(156,.tuple #[.int .u64 x23,.int .u64 x22])] [(6,x4),(7,x5),(9,x7),(13,x11),(16,x15),(17,x16),(18,x17),(19,x18),(20,x20),(21,x21)]) (by refine ⟨hd (by simp [hT.out]),?_⟩;simp [Fx,Fu, *]) ?_
 clear hT t0 t1 t151 t6 t7 t9 t13 t16 t17 t18 t19 qx23 qx22 s149 s152 s153 s21 s20 s22 s23 s155 s156
 rintro T ⟨hT,⟨t0,t1,t156,-⟩,t6,t7,t9,t13,t16,t17,t18,t19,t20,t21,-⟩
 obtain ⟨s154,s157,s158,s23,s22,s24,s25,s160,s161,-⟩:=sz hT [154,157,158,23,22,24,25,160,161] rfl
 obtain ⟨x25,x24,qx25,qx24,mx24⟩:=M64.ex mx18.l kd
 go_wp2_with fail
 refine mul_go mx18.l kd qx25 qx24 ?_
 dsimp only
 go_step
 refine oG (Fr 428 [(0,Ptr bv ov),(1,Ptr bx ox),(161,.tuple #[.int .u64 x25,.int .u64 x24])] [(6,x4),(7,x5),(9,x7),(13,x11),(16,x15),(17,x16),(18,x17),(20,x20),(21,x21),(22,x22),(23,x23)]) (by refine ⟨hd (by simp [hT.out]),?_⟩;simp [Fx,Fu, *]) ?_
 clear hT t0 t1 t156 t6 t7 t9 t13 t16 t17 t18 t19 t20 t21 qx25 qx24 s154 s157 s158 s23 s22 s24 s25 s160 s161
 rintro T ⟨hT,⟨t0,t1,t161,-⟩,t6,t7,t9,t13,t16,t17,t18,t20,t21,t22,t23,-⟩
 obtain ⟨s159,s162,s163,s25,s24,s26,s27,s165,s166,s167,s164,s168,s169,s28,-⟩:=sz hT [159,162,163,25,24,26,27,165,166,167,164,168,169,28] rfl
 obtain ⟨x26,x27,mx27,rx27⟩:=A64.ex mx24.h mx22.l k0
 repeat ((fail_if_success with_reducible show wpList _ _ _ (⟨some 171,_,_,_,_,_⟩ :: _) _ _);(first | go_values | go_skip | go_guarded | go_step | go_upon))
 refine oG (Fr 428 [(0,Ptr bv ov),(1,Ptr bx ox)] [(6,x4),(7,x5),(9,x7),(13,x11),(16,x15),(17,x16),(18,x17),(20,x20),(21,x21),(23,x23),(24,x24),(26,x26),(27,x27)]) (by refine ⟨hd (by simp [hT.out]),?_⟩;simp [Fx,Fu, *]) ?_
 clear hT t0 t1 t161 t6 t7 t9 t13 t16 t17 t18 t20 t21 t22 t23 rx27 s159 s162 s163 s25 s24 s26 s27 s165 s166 s167 s164 s168 s169 s28
 rintro T ⟨hT,⟨t0,t1,-⟩,t6,t7,t9,t13,t16,t17,t18,t20,t21,t23,t24,t26,t27,-⟩
 obtain ⟨s171,s172,s173,s170,s174,s175,s28,s29,s30,s177,s178,s179,s180,s181,s182,s183,s184,s185,s186,s176,s187,s188,s31,s32,-⟩:=sz hT [171,172,173,170,174,175,28,29,30,177,178,179,180,181,182,183,184,185,186,176,187,188,31,32] rfl
 obtain ⟨z14_0,x29,mx29,rx29⟩:=A64.ex mx17.s mx24.l k0
 obtain ⟨y181,wy181,ey181⟩:=W64.ex x11 x7
 obtain ⟨y182,wy182,ey182⟩:=W64.ex x15 y181
 obtain ⟨y183,wy183,ey183⟩:=W64.ex x17 y182
 obtain ⟨x30,x31,mx31,rx31⟩:=A64.ex wy183.u mx27.s mx29.d
 repeat ((fail_if_success with_reducible show wpList _ _ _ (⟨some 190,_,_,_,_,_⟩ :: _) _ _);(first | go_values | go_skip | go_guarded | go_step | go_upon))
 refine oG (Fr 428 [(0,Ptr bv ov),(1,Ptr bx ox)] [(6,x4),(7,x5),(20,x20),(21,x21),(23,x23),(27,x27),(29,x30),(30,x31)]) (by refine ⟨hd (by simp [hT.out]),?_⟩;simp [Fx,Fu, *]) ?_
 clear hT t0 t1 t6 t7 t9 t13 t16 t17 t18 t20 t21 t23 t24 t26 t27 rx29 ey181 ey182 ey183 rx31 s171 s172 s173 s170 s174 s175 s28 s29 s30 s177 s178 s179 s180 s181 s182 s183 s184 s185 s186 s176 s187 s188 s31 s32
 rintro T ⟨hT,⟨t0,t1,-⟩,t6,t7,t20,t21,t23,t27,t29,t30,-⟩
 obtain ⟨s190,s191,s192,s193,s194,s195,s189,s196,s197,s31,s32,s33,s34,-⟩:=sz hT [190,191,192,193,194,195,189,196,197,31,32,33,34] rfl
 obtain ⟨y193,wy193,ey193⟩:=W64.ex x27 x23
 obtain ⟨x32,x33,mx33,rx33⟩:=A64.ex mx4.l wy193.u mx31.d
 repeat ((fail_if_success with_reducible show wpList _ _ _ (⟨some 199,_,_,_,_,_⟩ :: _) _ _);(first | go_values | go_skip | go_guarded | go_step | go_upon))
 refine oG (Fr 428 [(0,Ptr bv ov),(1,Ptr bx ox)] [(7,x5),(20,x20),(21,x21),(29,x30),(31,x32),(32,x33)]) (by refine ⟨hd (by simp [hT.out]),?_⟩;simp [Fx,Fu, *]) ?_
 clear hT t0 t1 t6 t7 t20 t21 t23 t27 t29 t30 ey193 rx33 s190 s191 s192 s193 s194 s195 s189 s196 s197 s31 s32 s33 s34
 rintro T ⟨hT,⟨t0,t1,-⟩,t7,t20,t21,t29,t31,t32,-⟩
 obtain ⟨s199,s200,s201,s202,s198,s203,s204,s33,s34,s35,s36,s206,s207,s208,s209,s210,s211,s205,s212,s213,s37,s38,-⟩:=sz hT [199,200,201,202,198,203,204,33,34,35,36,206,207,208,209,210,211,205,212,213,37,38] rfl
 obtain ⟨x34,x35,mx35,rx35⟩:=A64.ex mx4.h mx20.l mx33.d
 obtain ⟨x36,x37,mx37,rx37⟩:=A64.ex mx31.s u2 k0
 repeat ((fail_if_success with_reducible show wpList _ _ _ (⟨some 215,_,_,_,_,_⟩ :: _) _ _);(first | go_values | go_skip | go_guarded | go_step | go_upon))
 refine oG (Fr 428 [(0,Ptr bv ov),(1,Ptr bx ox)] [(21,x21),(31,x32),(33,x34),(34,x35),(35,x36),(36,x37)]) (by refine ⟨hd (by simp [hT.out]),?_⟩;simp [Fx,Fu, *]) ?_
 clear hT t0 t1 t7 t20 t21 t29 t31 t32 rx35 rx37 s199 s200 s201 s202 s198 s203 s204 s33 s34 s35 s36 s206 s207 s208 s209 s210 s211 s205 s212 s213 s37 s38
 rintro T ⟨hT,⟨t0,t1,-⟩,t21,t31,t33,t34,t35,t36,-⟩
 obtain ⟨s215,s216,s217,s214,s218,s219,s37,s38,s39,s40,s221,s222,s223,s220,s224,s225,s41,-⟩:=sz hT [215,216,217,214,218,219,37,38,39,40,221,222,223,220,224,225,41] rfl
 obtain ⟨x38,x39,mx39,rx39⟩:=A64.ex mx33.s kz mx37.d
 obtain ⟨x40,x41,mx41,rx41⟩:=A64.ex mx35.s kz mx39.d
 repeat ((fail_if_success with_reducible show wpList _ _ _ (⟨some 227,_,_,_,_,_⟩ :: _) _ _);(first | go_values | go_skip | go_guarded | go_step | go_upon))
 refine oG (Fr 428 [(0,Ptr bv ov),(1,Ptr bx ox)] [(21,x21),(34,x35),(35,x36),(37,x38),(39,x40),(40,x41)]) (by refine ⟨hd (by simp [hT.out]),?_⟩;simp [Fx,Fu, *]) ?_
 clear hT t0 t1 t21 t31 t33 t34 t35 t36 rx39 rx41 s215 s216 s217 s214 s218 s219 s37 s38 s39 s40 s221 s222 s223 s220 s224 s225 s41
 rintro T ⟨hT,⟨t0,t1,-⟩,t21,t34,t35,t37,t39,t40,-⟩
 obtain ⟨s227,s228,-⟩:=sz hT [227,228] rfl
 obtain ⟨z21_0,x42,qz21_0,qx42,mx42⟩:=M64.ex mx37.s ka
 go_wp2_with fail
 refine mul_go mx37.s ka qz21_0 qx42 ?_
 dsimp only
 go_step
 refine oG (Fr 428 [(0,Ptr bv ov),(1,Ptr bx ox),(228,.tuple #[.int .u64 z21_0,.int .u64 x42])] [(21,x21),(34,x35),(35,x36),(37,x38),(39,x40),(40,x41)]) (by refine ⟨hd (by simp [hT.out]),?_⟩;simp [Fx,Fu, *]) ?_
 clear hT t0 t1 t21 t34 t35 t37 t39 t40 qz21_0 qx42 s227 s228
 rintro T ⟨hT,⟨t0,t1,t228,-⟩,t21,t34,t35,t37,t39,t40,-⟩
 obtain ⟨s226,s229,s230,s41,s42,s43,s232,s233,-⟩:=sz hT [226,229,230,41,42,43,232,233] rfl
 obtain ⟨x45,x44,qx45,qx44,mx44⟩:=M64.ex mx42.l kb
 go_wp2_with fail
 refine mul_go mx42.l kb qx45 qx44 ?_
 dsimp only
 go_step
 refine oG (Fr 428 [(0,Ptr bv ov),(1,Ptr bx ox),(233,.tuple #[.int .u64 x45,.int .u64 x44])] [(21,x21),(34,x35),(35,x36),(37,x38),(39,x40),(40,x41),(41,x42)]) (by refine ⟨hd (by simp [hT.out]),?_⟩;simp [Fx,Fu, *]) ?_
 clear hT t0 t1 t228 t21 t34 t35 t37 t39 t40 qx45 qx44 s226 s229 s230 s41 s42 s43 s232 s233
 rintro T ⟨hT,⟨t0,t1,t233,-⟩,t21,t34,t35,t37,t39,t40,t41,-⟩
 obtain ⟨s231,s234,s235,s43,s42,s44,s45,s237,s238,-⟩:=sz hT [231,234,235,43,42,44,45,237,238] rfl
 obtain ⟨x47,x46,qx47,qx46,mx46⟩:=M64.ex mx42.l kc
 go_wp2_with fail
 refine mul_go mx42.l kc qx47 qx46 ?_
 dsimp only
 go_step
 refine oG (Fr 428 [(0,Ptr bv ov),(1,Ptr bx ox),(238,.tuple #[.int .u64 x47,.int .u64 x46])] [(21,x21),(34,x35),(35,x36),(37,x38),(39,x40),(40,x41),(41,x42),(42,x44),(43,x45)]) (by refine ⟨hd (by simp [hT.out]),?_⟩;simp [Fx,Fu, *]) ?_
 clear hT t0 t1 t233 t21 t34 t35 t37 t39 t40 t41 qx47 qx46 s231 s234 s235 s43 s42 s44 s45 s237 s238
 rintro T ⟨hT,⟨t0,t1,t238,-⟩,t21,t34,t35,t37,t39,t40,t41,t42,t43,-⟩
 obtain ⟨s236,s239,s240,s45,s44,s46,s47,s242,s243,-⟩:=sz hT [236,239,240,45,44,46,47,242,243] rfl
 obtain ⟨x49,x48,qx49,qx48,mx48⟩:=M64.ex mx42.l kd
 go_wp2_with fail
 refine mul_go mx42.l kd qx49 qx48 ?_
 dsimp only
 go_step
 refine oG (Fr 428 [(0,Ptr bv ov),(1,Ptr bx ox),(243,.tuple #[.int .u64 x49,.int .u64 x48])] [(21,x21),(34,x35),(35,x36),(37,x38),(39,x40),(40,x41),(42,x44),(43,x45),(44,x46),(45,x47)]) (by refine ⟨hd (by simp [hT.out]),?_⟩;simp [Fx,Fu, *]) ?_
 clear hT t0 t1 t238 t21 t34 t35 t37 t39 t40 t41 t42 t43 qx49 qx48 s236 s239 s240 s45 s44 s46 s47 s242 s243
 rintro T ⟨hT,⟨t0,t1,t243,-⟩,t21,t34,t35,t37,t39,t40,t42,t43,t44,t45,-⟩
 obtain ⟨s241,s244,s245,s47,s46,s48,s49,s247,s248,s249,s246,s250,s251,s50,-⟩:=sz hT [241,244,245,47,46,48,49,247,248,249,246,250,251,50] rfl
 obtain ⟨x50,x51,mx51,rx51⟩:=A64.ex mx48.h mx46.l k0
 repeat ((fail_if_success with_reducible show wpList _ _ _ (⟨some 253,_,_,_,_,_⟩ :: _) _ _);(first | go_values | go_skip | go_guarded | go_step | go_upon))
 refine oG (Fr 428 [(0,Ptr bv ov),(1,Ptr bx ox)] [(21,x21),(34,x35),(35,x36),(37,x38),(39,x40),(40,x41),(42,x44),(43,x45),(45,x47),(46,x48),(48,x50),(49,x51)]) (by refine ⟨hd (by simp [hT.out]),?_⟩;simp [Fx,Fu, *]) ?_
 clear hT t0 t1 t243 t21 t34 t35 t37 t39 t40 t42 t43 t44 t45 rx51 s241 s244 s245 s47 s46 s48 s49 s247 s248 s249 s246 s250 s251 s50
 rintro T ⟨hT,⟨t0,t1,-⟩,t21,t34,t35,t37,t39,t40,t42,t43,t45,t46,t48,t49,-⟩
 obtain ⟨s253,s254,s255,s252,s256,s257,s50,s51,s52,s259,s260,s261,s262,s258,s263,s264,s53,s54,-⟩:=sz hT [253,254,255,252,256,257,50,51,52,259,260,261,262,258,263,264,53,54] rfl
 obtain ⟨z26_0,x53,mx53,rx53⟩:=A64.ex mx37.s mx48.l k0
 obtain ⟨x54,x55,mx55,rx55⟩:=A64.ex mx39.s mx51.s mx53.d
 repeat ((fail_if_success with_reducible show wpList _ _ _ (⟨some 266,_,_,_,_,_⟩ :: _) _ _);(first | go_values | go_skip | go_guarded | go_step | go_upon))
 refine oG (Fr 428 [(0,Ptr bv ov),(1,Ptr bx ox)] [(21,x21),(34,x35),(39,x40),(40,x41),(42,x44),(43,x45),(45,x47),(49,x51),(51,x54),(52,x55)]) (by refine ⟨hd (by simp [hT.out]),?_⟩;simp [Fx,Fu, *]) ?_
 clear hT t0 t1 t21 t34 t35 t37 t39 t40 t42 t43 t45 t46 t48 t49 rx53 rx55 s253 s254 s255 s252 s256 s257 s50 s51 s52 s259 s260 s261 s262 s258 s263 s264 s53 s54
 rintro T ⟨hT,⟨t0,t1,-⟩,t21,t34,t39,t40,t42,t43,t45,t49,t51,t52,-⟩
 obtain ⟨s266,s267,s268,s269,s270,s271,s265,s272,s273,s53,s54,s55,s56,-⟩:=sz hT [266,267,268,269,270,271,265,272,273,53,54,55,56] rfl
 obtain ⟨y269,wy269,ey269⟩:=W64.ex x51 x47
 obtain ⟨x56,x57,mx57,rx57⟩:=A64.ex mx41.s wy269.u mx55.d
 repeat ((fail_if_success with_reducible show wpList _ _ _ (⟨some 275,_,_,_,_,_⟩ :: _) _ _);(first | go_values | go_skip | go_guarded | go_step | go_upon))
 refine oG (Fr 428 [(0,Ptr bv ov),(1,Ptr bx ox)] [(21,x21),(34,x35),(40,x41),(42,x44),(43,x45),(51,x54),(53,x56),(54,x57)]) (by refine ⟨hd (by simp [hT.out]),?_⟩;simp [Fx,Fu, *]) ?_
 clear hT t0 t1 t21 t34 t39 t40 t42 t43 t45 t49 t51 t52 ey269 rx57 s266 s267 s268 s269 s270 s271 s265 s272 s273 s53 s54 s55 s56
 rintro T ⟨hT,⟨t0,t1,-⟩,t21,t34,t40,t42,t43,t51,t53,t54,-⟩
 obtain ⟨s275,s276,s277,s278,s279,s280,s281,s282,s274,s283,s284,s55,s56,s57,s58,-⟩:=sz hT [275,276,277,278,279,280,281,282,274,283,284,55,56,57,58] rfl
 obtain ⟨y278,wy278,ey278⟩:=W64.ex x35 x21
 obtain ⟨y279,wy279,ey279⟩:=W64.ex x41 y278
 obtain ⟨x58,x59,mx59,rx59⟩:=A64.ex wy279.u mx44.l mx57.d
 repeat ((fail_if_success with_reducible show wpList _ _ _ (⟨some 286,_,_,_,_,_⟩ :: _) _ _);(first | go_values | go_skip | go_guarded | go_step | go_upon))
 refine oG (Fr 428 [(0,Ptr bv ov),(1,Ptr bx ox)] [(43,x45),(51,x54),(53,x56),(55,x58),(56,x59)]) (by refine ⟨hd (by simp [hT.out]),?_⟩;simp [Fx,Fu, *]) ?_
 clear hT t0 t1 t21 t34 t40 t42 t43 t51 t53 t54 ey278 ey279 rx59 s275 s276 s277 s278 s279 s280 s281 s282 s274 s283 s284 s55 s56 s57 s58
 rintro T ⟨hT,⟨t0,t1,-⟩,t43,t51,t53,t55,t56,-⟩
 obtain ⟨s286,s287,s288,s289,s290,s291,s285,s292,s293,s57,s58,s59,s60,-⟩:=sz hT [286,287,288,289,290,291,285,292,293,57,58,59,60] rfl
 obtain ⟨x60,x61,mx61,rx61⟩:=A64.ex mx55.s u3 k0
 repeat ((fail_if_success with_reducible show wpList _ _ _ (⟨some 295,_,_,_,_,_⟩ :: _) _ _);(first | go_values | go_skip | go_guarded | go_step | go_upon))
 refine oG (Fr 428 [(0,Ptr bv ov),(1,Ptr bx ox)] [(43,x45),(53,x56),(55,x58),(56,x59),(57,x60),(58,x61)]) (by refine ⟨hd (by simp [hT.out]),?_⟩;simp [Fx,Fu, *]) ?_
 clear hT t0 t1 t43 t51 t53 t55 t56 rx61 s286 s287 s288 s289 s290 s291 s285 s292 s293 s57 s58 s59 s60
 rintro T ⟨hT,⟨t0,t1,-⟩,t43,t53,t55,t56,t57,t58,-⟩
 obtain ⟨s295,s296,s297,s294,s298,s299,s59,s60,s61,s62,s301,s302,s303,s300,s304,s305,s63,-⟩:=sz hT [295,296,297,294,298,299,59,60,61,62,301,302,303,300,304,305,63] rfl
 obtain ⟨x62,x63,mx63,rx63⟩:=A64.ex mx57.s kz mx61.d
 obtain ⟨x64,x65,mx65,rx65⟩:=A64.ex mx59.s kz mx63.d
 repeat ((fail_if_success with_reducible show wpList _ _ _ (⟨some 307,_,_,_,_,_⟩ :: _) _ _);(first | go_values | go_skip | go_guarded | go_step | go_upon))
 refine oG (Fr 428 [(0,Ptr bv ov),(1,Ptr bx ox)] [(43,x45),(56,x59),(57,x60),(59,x62),(61,x64),(62,x65)]) (by refine ⟨hd (by simp [hT.out]),?_⟩;simp [Fx,Fu, *]) ?_
 clear hT t0 t1 t43 t53 t55 t56 t57 t58 rx63 rx65 s295 s296 s297 s294 s298 s299 s59 s60 s61 s62 s301 s302 s303 s300 s304 s305 s63
 rintro T ⟨hT,⟨t0,t1,-⟩,t43,t56,t57,t59,t61,t62,-⟩
 obtain ⟨s307,s308,-⟩:=sz hT [307,308] rfl
 obtain ⟨z33_0,x66,qz33_0,qx66,mx66⟩:=M64.ex mx61.s ka
 go_wp2_with fail
 refine mul_go mx61.s ka qz33_0 qx66 ?_
 dsimp only
 go_step
 refine oG (Fr 428 [(0,Ptr bv ov),(1,Ptr bx ox),(308,.tuple #[.int .u64 z33_0,.int .u64 x66])] [(43,x45),(56,x59),(57,x60),(59,x62),(61,x64),(62,x65)]) (by refine ⟨hd (by simp [hT.out]),?_⟩;simp [Fx,Fu, *]) ?_
 clear hT t0 t1 t43 t56 t57 t59 t61 t62 qz33_0 qx66 s307 s308
 rintro T ⟨hT,⟨t0,t1,t308,-⟩,t43,t56,t57,t59,t61,t62,-⟩
 obtain ⟨s306,s309,s310,s63,s64,s65,s312,s313,-⟩:=sz hT [306,309,310,63,64,65,312,313] rfl
 obtain ⟨x69,x68,qx69,qx68,mx68⟩:=M64.ex mx66.l kb
 go_wp2_with fail
 refine mul_go mx66.l kb qx69 qx68 ?_
 dsimp only
 go_step
 refine oG (Fr 428 [(0,Ptr bv ov),(1,Ptr bx ox),(313,.tuple #[.int .u64 x69,.int .u64 x68])] [(43,x45),(56,x59),(57,x60),(59,x62),(61,x64),(62,x65),(63,x66)]) (by refine ⟨hd (by simp [hT.out]),?_⟩;simp [Fx,Fu, *]) ?_
 clear hT t0 t1 t308 t43 t56 t57 t59 t61 t62 qx69 qx68 s306 s309 s310 s63 s64 s65 s312 s313
 rintro T ⟨hT,⟨t0,t1,t313,-⟩,t43,t56,t57,t59,t61,t62,t63,-⟩
 obtain ⟨s311,s314,s315,s65,s64,s66,s67,s317,s318,-⟩:=sz hT [311,314,315,65,64,66,67,317,318] rfl
 obtain ⟨x71,x70,qx71,qx70,mx70⟩:=M64.ex mx66.l kc
 go_wp2_with fail
 refine mul_go mx66.l kc qx71 qx70 ?_
 dsimp only
 go_step
 refine oG (Fr 428 [(0,Ptr bv ov),(1,Ptr bx ox),(318,.tuple #[.int .u64 x71,.int .u64 x70])] [(43,x45),(56,x59),(57,x60),(59,x62),(61,x64),(62,x65),(63,x66),(64,x68),(65,x69)]) (by refine ⟨hd (by simp [hT.out]),?_⟩;simp [Fx,Fu, *]) ?_
 clear hT t0 t1 t313 t43 t56 t57 t59 t61 t62 t63 qx71 qx70 s311 s314 s315 s65 s64 s66 s67 s317 s318
 rintro T ⟨hT,⟨t0,t1,t318,-⟩,t43,t56,t57,t59,t61,t62,t63,t64,t65,-⟩
 obtain ⟨s316,s319,s320,s67,s66,s68,s69,s322,s323,-⟩:=sz hT [316,319,320,67,66,68,69,322,323] rfl
 obtain ⟨x73,x72,qx73,qx72,mx72⟩:=M64.ex mx66.l kd
 go_wp2_with fail
 refine mul_go mx66.l kd qx73 qx72 ?_
 dsimp only
 go_step
 refine oG (Fr 428 [(0,Ptr bv ov),(1,Ptr bx ox),(323,.tuple #[.int .u64 x73,.int .u64 x72])] [(43,x45),(56,x59),(57,x60),(59,x62),(61,x64),(62,x65),(64,x68),(65,x69),(66,x70),(67,x71)]) (by refine ⟨hd (by simp [hT.out]),?_⟩;simp [Fx,Fu, *]) ?_
 clear hT t0 t1 t318 t43 t56 t57 t59 t61 t62 t63 t64 t65 qx73 qx72 s316 s319 s320 s67 s66 s68 s69 s322 s323
 rintro T ⟨hT,⟨t0,t1,t323,-⟩,t43,t56,t57,t59,t61,t62,t64,t65,t66,t67,-⟩
 obtain ⟨s321,s324,s325,s69,s68,s70,s71,s327,s328,s329,s326,s330,s331,s72,-⟩:=sz hT [321,324,325,69,68,70,71,327,328,329,326,330,331,72] rfl
 obtain ⟨x74,x75,mx75,rx75⟩:=A64.ex mx72.h mx70.l k0
 repeat ((fail_if_success with_reducible show wpList _ _ _ (⟨some 333,_,_,_,_,_⟩ :: _) _ _);(first | go_values | go_skip | go_guarded | go_step | go_upon))
 refine oG (Fr 428 [(0,Ptr bv ov),(1,Ptr bx ox)] [(43,x45),(56,x59),(57,x60),(59,x62),(61,x64),(62,x65),(64,x68),(65,x69),(67,x71),(68,x72),(70,x74),(71,x75)]) (by refine ⟨hd (by simp [hT.out]),?_⟩;simp [Fx,Fu, *]) ?_
 clear hT t0 t1 t323 t43 t56 t57 t59 t61 t62 t64 t65 t66 t67 rx75 s321 s324 s325 s69 s68 s70 s71 s327 s328 s329 s326 s330 s331 s72
 rintro T ⟨hT,⟨t0,t1,-⟩,t43,t56,t57,t59,t61,t62,t64,t65,t67,t68,t70,t71,-⟩
 obtain ⟨s333,s334,s335,s332,s336,s337,s72,s73,s74,s339,s340,s341,s342,s338,s343,s344,s75,s76,-⟩:=sz hT [333,334,335,332,336,337,72,73,74,339,340,341,342,338,343,344,75,76] rfl
 obtain ⟨z38_0,x77,mx77,rx77⟩:=A64.ex mx61.s mx72.l k0
 obtain ⟨x78,x79,mx79,rx79⟩:=A64.ex mx63.s mx75.s mx77.d
 repeat ((fail_if_success with_reducible show wpList _ _ _ (⟨some 346,_,_,_,_,_⟩ :: _) _ _);(first | go_values | go_skip | go_guarded | go_step | go_upon))
 refine oG (Fr 428 [(0,Ptr bv ov),(1,Ptr bx ox)] [(43,x45),(56,x59),(61,x64),(62,x65),(64,x68),(65,x69),(67,x71),(71,x75),(73,x78),(74,x79)]) (by refine ⟨hd (by simp [hT.out]),?_⟩;simp [Fx,Fu, *]) ?_
 clear hT t0 t1 t43 t56 t57 t59 t61 t62 t64 t65 t67 t68 t70 t71 rx77 rx79 s333 s334 s335 s332 s336 s337 s72 s73 s74 s339 s340 s341 s342 s338 s343 s344 s75 s76
 rintro T ⟨hT,⟨t0,t1,-⟩,t43,t56,t61,t62,t64,t65,t67,t71,t73,t74,-⟩
 obtain ⟨s346,s347,s348,s349,s350,s351,s345,s352,s353,s75,s76,s77,s78,-⟩:=sz hT [346,347,348,349,350,351,345,352,353,75,76,77,78] rfl
 obtain ⟨y349,wy349,ey349⟩:=W64.ex x75 x71
 obtain ⟨x80,x81,mx81,rx81⟩:=A64.ex mx65.s wy349.u mx79.d
 repeat ((fail_if_success with_reducible show wpList _ _ _ (⟨some 355,_,_,_,_,_⟩ :: _) _ _);(first | go_values | go_skip | go_guarded | go_step | go_upon))
 refine oG (Fr 428 [(0,Ptr bv ov),(1,Ptr bx ox)] [(43,x45),(56,x59),(62,x65),(64,x68),(65,x69),(73,x78),(75,x80),(76,x81)]) (by refine ⟨hd (by simp [hT.out]),?_⟩;simp [Fx,Fu, *]) ?_
 clear hT t0 t1 t43 t56 t61 t62 t64 t65 t67 t71 t73 t74 ey349 rx81 s346 s347 s348 s349 s350 s351 s345 s352 s353 s75 s76 s77 s78
 rintro T ⟨hT,⟨t0,t1,-⟩,t43,t56,t62,t64,t65,t73,t75,t76,-⟩
 obtain ⟨s355,s356,s357,s358,s359,s360,s361,s362,s354,s363,s364,s77,s78,-⟩:=sz hT [355,356,357,358,359,360,361,362,354,363,364,77,78] rfl
 obtain ⟨y358,wy358,ey358⟩:=W64.ex x59 x45
 obtain ⟨y359,wy359,ey359⟩:=W64.ex x65 y358
 obtain ⟨x82,x83,mx83,rx83⟩:=A64.ex wy359.u mx68.l mx81.d
 repeat ((fail_if_success with_reducible show wpList _ _ _ (⟨some 365,_,_,_,_,_⟩ :: _) _ _);(first | go_values | go_skip | go_guarded | go_step | go_upon))
 refine oG (Fr 428 [(0,Ptr bv ov),(1,Ptr bx ox)] [(65,x69),(73,x78),(75,x80),(77,x82),(78,x83)]) (by refine ⟨hd (by simp [hT.out]),?_⟩;simp [Fx,Fu, *]) ?_
 clear hT t0 t1 t43 t56 t62 t64 t65 t73 t75 t76 ey358 ey359 rx83 s355 s356 s357 s358 s359 s360 s361 s362 s354 s363 s364 s77 s78
 rintro T ⟨hT,⟨t0,t1,-⟩,t65,t73,t75,t77,t78,-⟩
 obtain ⟨s365,s366,s367,s79,s80,s81,s369,s370,s368,s371,s372,s82,s83,-⟩:=sz hT [365,366,367,79,80,81,369,370,368,371,372,82,83] rfl
 obtain ⟨y367,wy367,ey367⟩:=W64.ex x83 x69
 obtain ⟨x85,x86,mx86,rx86⟩:=S64.ex mx79.s kd k0
 repeat ((fail_if_success with_reducible show wpList _ _ _ (⟨some 374,_,_,_,_,_⟩ :: _) _ _);(first | go_values | go_skip | go_guarded | go_step | go_upon))
 refine oG (Fr 428 [(0,Ptr bv ov),(1,Ptr bx ox)] [(73,x78),(75,x80),(77,x82),(79,y367),(80,x85),(81,x86)]) (by refine ⟨hd (by simp [hT.out]),?_⟩;simp [Fx,Fu, *]) ?_
 clear hT t0 t1 t65 t73 t75 t77 t78 ey367 rx86 s365 s366 s367 s79 s80 s81 s369 s370 s368 s371 s372 s82 s83
 rintro T ⟨hT,⟨t0,t1,-⟩,t73,t75,t77,t79,t80,t81,-⟩
 obtain ⟨s374,s375,s376,s373,s377,s378,s82,s83,s84,s85,s380,s381,s382,s379,s383,s384,s86,s87,-⟩:=sz hT [374,375,376,373,377,378,82,83,84,85,380,381,382,379,383,384,86,87] rfl
 obtain ⟨x87,x88,mx88,rx88⟩:=S64.ex mx81.s kc mx86.d
 obtain ⟨x89,x90,mx90,rx90⟩:=S64.ex mx83.s kz mx88.d
 repeat ((fail_if_success with_reducible show wpList _ _ _ (⟨some 386,_,_,_,_,_⟩ :: _) _ _);(first | go_values | go_skip | go_guarded | go_step | go_upon))
 refine oG (Fr 428 [(0,Ptr bv ov),(1,Ptr bx ox)] [(73,x78),(75,x80),(77,x82),(79,y367),(80,x85),(82,x87),(84,x89),(85,x90)]) (by refine ⟨hd (by simp [hT.out]),?_⟩;simp [Fx,Fu, *]) ?_
 clear hT t0 t1 t73 t75 t77 t79 t80 t81 rx88 rx90 s374 s375 s376 s373 s377 s378 s82 s83 s84 s85 s380 s381 s382 s379 s383 s384 s86 s87
 rintro T ⟨hT,⟨t0,t1,-⟩,t73,t75,t77,t79,t80,t82,t84,t85,-⟩
 obtain ⟨s386,s387,s388,s385,s389,s390,s86,s87,s88,s392,s393,s391,s394,s395,-⟩:=sz hT [386,387,388,385,389,390,86,87,88,392,393,391,394,395] rfl
 obtain ⟨x91,x92,mx92,rx92⟩:=S64.ex wy367.u kb mx90.d
 obtain ⟨z46_0,x94,mx94,rx94⟩:=S64.ex kz kz mx92.d
 repeat ((fail_if_success with_reducible show wpList _ _ _ (⟨some 89,_,_,_,_,_⟩ :: _) _ _);(first | go_values | go_skip | go_guarded | go_step | go_upon))
 refine oG (Fr 428 [(0,Ptr bv ov),(1,Ptr bx ox)] [(73,x78),(75,x80),(77,x82),(79,y367),(80,x85),(82,x87),(84,x89),(86,x91),(88,x94)]) (by refine ⟨hd (by simp [hT.out]),?_⟩;simp [Fx,Fu, *]) ?_
 clear hT t0 t1 t73 t75 t77 t79 t80 t82 t84 t85 rx92 rx94 s386 s387 s388 s385 s389 s390 s86 s87 s88 s392 s393 s391 s394 s395
 rintro T ⟨hT,⟨t0,t1,-⟩,t73,t75,t77,t79,t80,t82,t84,t86,t88,-⟩
 obtain ⟨s89,s396,s397,s398,s399,-⟩:=sz hT [89,396,397,398,399] rfl
 have R1:=from_first u0 mx2 mx4 mx6 mx8 mx11 mx13 mx15 mx17 wy181 wy182 wy183
 have R2:=from_row mx17.s mx18 mx20 mx22 mx24 mx27 mx29 mx31 wy193 mx33 mx35 mx37 mx39 mx41 wy278 wy279
 have R3:=from_row mx37.s mx42 mx44 mx46 mx48 mx51 mx53 mx55 wy269 mx57 mx59 mx61 mx63 mx65 wy358 wy359
 have R4:=from_last mx61.s mx66 mx68 mx70 mx72 mx75 mx77 mx79 wy349 mx81 mx83 wy367
 obtain ⟨m,hk,hO⟩:=last_sel mx79.s mx81.s mx83.s wy367.u mx86 mx88 mx90 mx92 mx94 (from_all u0 u1 u2 u3 mx2.l mx18.l mx42.l mx66.l R1 R2 R3 R4) rfl
 clear R1 R2 R3 R4
 have hsel:x94 = 0∨x94 = 1:=by have:=mx94.d;omega
 obtain ⟨r0,qr0⟩:∃ g:Int,g = if x94 = 0 then x85 else x78:=⟨_,rfl⟩
 rw [←qr0] at hO
 replace qr0:=hd qr0
 obtain ⟨r1,qr1⟩:∃ g:Int,g = if x94 = 0 then x87 else x80:=⟨_,rfl⟩
 rw [←qr1] at hO
 replace qr1:=hd qr1
 obtain ⟨r2,qr2⟩:∃ g:Int,g = if x94 = 0 then x89 else x82:=⟨_,rfl⟩
 rw [←qr2] at hO
 replace qr2:=hd qr2
 obtain ⟨r3,qr3⟩:∃ g:Int,g = if x94 = 0 then x91 else y367:=⟨_,rfl⟩
 rw [←qr3] at hO
 replace qr3:=hd qr3
 replace hO:=hd hO
 have C:Chg (Rg bv ov 4) w w:=.refl _ _
 go_wp2_with fail
 obtain ⟨n0,ln0⟩:∃ n,w.heap.size = n:=⟨_,rfl⟩
 rw [ln0]
 have hb:=bA w (Obj.cells #[.int .u64 0] 71)
 have K:=(Has.new w [.int .u64 0] 71).room (n:=1) rfl
 rw [ln0] at K
 have zn0:w.heap.size ≤ n0:=ln0 ▸ C.size
 have yn0:bv < n0:=ln0 ▸ RM.lt (by decide)
 replace C:=C.trans (Chg.of_below hb)
 replace RM:=RM.later hb
 refine cG (fun W=>Chg (Rg bv ov 4) w W∧Room W bv ov 4∧Room W n0 0 1) ⟨C,RM,K⟩ ?_
 clear C RM K hb ln0
 rintro W ⟨C,RM,K⟩
 refine (cmov_c hsel mx86.s mx79.s K qr0).mono ?_
 rintro e W ⟨rfl,hc,E0⟩
 replace C:=C.loc2 hc (by omega)
 replace RM:=hc.room RM
 clear hc K
 dsimp only
 go_step
 refine oG (Fr 428 [(0,Ptr bv ov),(89,Ptr n0 0)] [(88,x94),(82,x87),(75,x80),(84,x89),(77,x82),(86,x91),(79,y367)]) (by refine ⟨hd (by simp [hT.out]),?_⟩;simp [Fx,Fu, *]) ?_
 clear hT t0 t1 t73 t75 t77 t79 t80 t82 t84 t86 t88 s89 s396 s397 s398 s399
 rintro T ⟨hT,⟨t0,t89,-⟩,t88,t82,t75,t84,t77,t86,t79,-⟩
 obtain ⟨s90,s400,s401,s402,s403,-⟩:=sz hT [90,400,401,402,403] rfl
 go_wp2_with fail
 obtain ⟨n1,ln1⟩:∃ n,W.heap.size = n:=⟨_,rfl⟩
 rw [ln1]
 have hb:=bA W (Obj.cells #[.int .u64 0] 71)
 have K:=(Has.new W [.int .u64 0] 71).room (n:=1) rfl
 rw [ln1] at K
 have zn1:w.heap.size ≤ n1:=ln1 ▸ C.size
 have yn1:bv < n1:=ln1 ▸ RM.lt (by decide)
 have yn1_0:n0 < n1:=ln1 ▸ E0.lt (by simp)
 replace C:=C.trans (Chg.of_below hb)
 replace RM:=RM.later hb
 replace E0:=E0.later hb
 refine cG (fun W=>Chg (Rg bv ov 4) w W∧Room W bv ov 4∧Room W n1 0 1∧Has W n0 0 [.int .u64 r0]) ⟨C,RM,K,E0⟩ ?_
 clear C RM K E0 hb ln1
 rintro W ⟨C,RM,K,E0⟩
 refine (cmov_c hsel mx88.s mx81.s K qr1).mono ?_
 rintro e W ⟨rfl,hc,E1⟩
 replace C:=C.loc2 hc (by omega)
 replace RM:=hc.room RM
 replace E0:=E0.keep hc (fun i hi h=>by obtain ⟨h1,h2,h3⟩:=h;omega)
 clear hc K
 dsimp only
 go_step
 refine oG (Fr 428 [(0,Ptr bv ov),(89,Ptr n0 0),(90,Ptr n1 0)] [(88,x94),(84,x89),(77,x82),(86,x91),(79,y367)]) (by refine ⟨hd (by simp [hT.out]),?_⟩;simp [Fx,Fu, *]) ?_
 clear hT t0 t89 t88 t82 t75 t84 t77 t86 t79 s90 s400 s401 s402 s403
 rintro T ⟨hT,⟨t0,t89,t90,-⟩,t88,t84,t77,t86,t79,-⟩
 obtain ⟨s91,s404,s405,s406,s407,-⟩:=sz hT [91,404,405,406,407] rfl
 go_wp2_with fail
 obtain ⟨n2,ln2⟩:∃ n,W.heap.size = n:=⟨_,rfl⟩
 rw [ln2]
 have hb:=bA W (Obj.cells #[.int .u64 0] 71)
 have K:=(Has.new W [.int .u64 0] 71).room (n:=1) rfl
 rw [ln2] at K
 have zn2:w.heap.size ≤ n2:=ln2 ▸ C.size
 have yn2:bv < n2:=ln2 ▸ RM.lt (by decide)
 have yn2_0:n0 < n2:=ln2 ▸ E0.lt (by simp)
 have yn2_1:n1 < n2:=ln2 ▸ E1.lt (by simp)
 replace C:=C.trans (Chg.of_below hb)
 replace RM:=RM.later hb
 replace E0:=E0.later hb
 replace E1:=E1.later hb
 refine cG (fun W=>Chg (Rg bv ov 4) w W∧Room W bv ov 4∧Room W n2 0 1∧Has W n0 0 [.int .u64 r0]∧Has W n1 0 [.int .u64 r1]) ⟨C,RM,K,E0,E1⟩ ?_
 clear C RM K E0 E1 hb ln2
 rintro W ⟨C,RM,K,E0,E1⟩
 refine (cmov_c hsel mx90.s mx83.s K qr2).mono ?_
 rintro e W ⟨rfl,hc,E2⟩
 replace C:=C.loc2 hc (by omega)
 replace RM:=hc.room RM
 replace E0:=E0.keep hc (fun i hi h=>by obtain ⟨h1,h2,h3⟩:=h;omega)
 replace E1:=E1.keep hc (fun i hi h=>by obtain ⟨h1,h2,h3⟩:=h;omega)
 clear hc K
 dsimp only
 go_step
 refine oG (Fr 428 [(0,Ptr bv ov),(89,Ptr n0 0),(90,Ptr n1 0),(91,Ptr n2 0)] [(88,x94),(86,x91),(79,y367)]) (by refine ⟨hd (by simp [hT.out]),?_⟩;simp [Fx,Fu, *]) ?_
 clear hT t0 t89 t90 t88 t84 t77 t86 t79 s91 s404 s405 s406 s407
 rintro T ⟨hT,⟨t0,t89,t90,t91,-⟩,t88,t86,t79,-⟩
 obtain ⟨s92,s408,s409,s410,s411,-⟩:=sz hT [92,408,409,410,411] rfl
 go_wp2_with fail
 obtain ⟨n3,ln3⟩:∃ n,W.heap.size = n:=⟨_,rfl⟩
 rw [ln3]
 have hb:=bA W (Obj.cells #[.int .u64 0] 71)
 have K:=(Has.new W [.int .u64 0] 71).room (n:=1) rfl
 rw [ln3] at K
 have zn3:w.heap.size ≤ n3:=ln3 ▸ C.size
 have yn3:bv < n3:=ln3 ▸ RM.lt (by decide)
 have yn3_0:n0 < n3:=ln3 ▸ E0.lt (by simp)
 have yn3_1:n1 < n3:=ln3 ▸ E1.lt (by simp)
 have yn3_2:n2 < n3:=ln3 ▸ E2.lt (by simp)
 replace C:=C.trans (Chg.of_below hb)
 replace RM:=RM.later hb
 replace E0:=E0.later hb
 replace E1:=E1.later hb
 replace E2:=E2.later hb
 refine cG (fun W=>Chg (Rg bv ov 4) w W∧Room W bv ov 4∧Room W n3 0 1∧Has W n0 0 [.int .u64 r0]∧Has W n1 0 [.int .u64 r1]∧Has W n2 0 [.int .u64 r2]) ⟨C,RM,K,E0,E1,E2⟩ ?_
 clear C RM K E0 E1 E2 hb ln3
 rintro W ⟨C,RM,K,E0,E1,E2⟩
 refine (cmov_c hsel mx92.s wy367.u K qr3).mono ?_
 rintro e W ⟨rfl,hc,E3⟩
 replace C:=C.loc2 hc (by omega)
 replace RM:=hc.room RM
 replace E0:=E0.keep hc (fun i hi h=>by obtain ⟨h1,h2,h3⟩:=h;omega)
 replace E1:=E1.keep hc (fun i hi h=>by obtain ⟨h1,h2,h3⟩:=h;omega)
 replace E2:=E2.keep hc (fun i hi h=>by obtain ⟨h1,h2,h3⟩:=h;omega)
 clear hc K
 dsimp only
 go_step
 refine oG (Fr 428 [(0,Ptr bv ov),(89,Ptr n0 0),(90,Ptr n1 0),(91,Ptr n2 0),(92,Ptr n3 0)] []) (by refine ⟨hd (by simp [hT.out]),?_⟩;simp [Fx,Fu, *]) ?_
 clear hT t0 t89 t90 t91 t88 t86 t79 s92 s408 s409 s410 s411
 rintro T ⟨hT,⟨t0,t89,t90,t91,t92,-⟩,-⟩
 obtain ⟨s412,s413,s414,s415,-⟩:=sz hT [412,413,414,415] rfl
 obtain ⟨v0,v1,v2,v3,H⟩:=RM.four
 clear RM
 obtain ⟨⟨e0,e1,e2,e3⟩,f0,f1,f2,f3⟩:=H.four
 have g:=(E0 0 (by simp)).1
 simp at g
 go_wp2_with fail
 go_still_tail 4,(by kernel_rfl)
 go_wp2_with fail
 refine wp_gen (fun W=>Chg (Rg bv ov 4) w W∧Has W bv ov [.int .u64 r0,v1,v2,v3]∧Has W n0 0 [.int .u64 r0]∧Has W n1 0 [.int .u64 r1]∧Has W n2 0 [.int .u64 r2]∧Has W n3 0 [.int .u64 r3]) ⟨(C.setCell _ (fun _=>⟨rfl,by omega,by omega⟩)).drew,(H.set 0 rfl _).drew,(E0.off _ (fun e=>by omega)).drew,(E1.off _ (fun e=>by omega)).drew,(E2.off _ (fun e=>by omega)).drew,(E3.off _ (fun e=>by omega)).drew⟩ ?_
 clear C H E0 E1 E2 E3 g e0 e1 e2 e3 f0 f1 f2 f3
 rintro W ⟨C,H,E0,E1,E2,E3⟩
 refine act_gen (Fr 428 [(0,Ptr bv ov),(89,Ptr n0 0),(90,Ptr n1 0),(91,Ptr n2 0),(92,Ptr n3 0)] []) (by refine ⟨hd (by simp [hT.out]),?_⟩;simp [Fx,Fu, *]) ?_
 clear hT t0 t89 t90 t91 t92 s412 s413 s414 s415
 rintro T ⟨hT,⟨t0,t89,t90,t91,t92,-⟩,-⟩
 obtain ⟨s416,s417,s418,s419,-⟩:=sz hT [416,417,418,419] rfl
 obtain ⟨⟨e0,e1,e2,e3⟩,f0,f1,f2,f3⟩:=H.four
 have g:=(E1 0 (by simp)).1
 simp at g
 skip
 go_still_tail 4,(by kernel_rfl)
 go_wp2_with fail
 refine wp_gen (fun W=>Chg (Rg bv ov 4) w W∧Has W bv ov [.int .u64 r0,.int .u64 r1,v2,v3]∧Has W n0 0 [.int .u64 r0]∧Has W n1 0 [.int .u64 r1]∧Has W n2 0 [.int .u64 r2]∧Has W n3 0 [.int .u64 r3]) ⟨(C.setCell _ (fun _=>⟨rfl,by omega,by omega⟩)).drew,(H.set 1 rfl _).drew,(E0.off _ (fun e=>by omega)).drew,(E1.off _ (fun e=>by omega)).drew,(E2.off _ (fun e=>by omega)).drew,(E3.off _ (fun e=>by omega)).drew⟩ ?_
 clear C H E0 E1 E2 E3 g e0 e1 e2 e3 f0 f1 f2 f3
 rintro W ⟨C,H,E0,E1,E2,E3⟩
 refine act_gen (Fr 428 [(0,Ptr bv ov),(89,Ptr n0 0),(90,Ptr n1 0),(91,Ptr n2 0),(92,Ptr n3 0)] []) (by refine ⟨hd (by simp [hT.out]),?_⟩;simp [Fx,Fu, *]) ?_
 clear hT t0 t89 t90 t91 t92 s416 s417 s418 s419
 rintro T ⟨hT,⟨t0,t89,t90,t91,t92,-⟩,-⟩
 obtain ⟨s420,s421,s422,s423,-⟩:=sz hT [420,421,422,423] rfl
 obtain ⟨⟨e0,e1,e2,e3⟩,f0,f1,f2,f3⟩:=H.four
 have g:=(E2 0 (by simp)).1
 simp at g
 skip
 go_still_tail 4,(by kernel_rfl)
 go_wp2_with fail
 refine wp_gen (fun W=>Chg (Rg bv ov 4) w W∧Has W bv ov [.int .u64 r0,.int .u64 r1,.int .u64 r2,v3]∧Has W n0 0 [.int .u64 r0]∧Has W n1 0 [.int .u64 r1]∧Has W n2 0 [.int .u64 r2]∧Has W n3 0 [.int .u64 r3]) ⟨(C.setCell _ (fun _=>⟨rfl,by omega,by omega⟩)).drew,(H.set 2 rfl _).drew,(E0.off _ (fun e=>by omega)).drew,(E1.off _ (fun e=>by omega)).drew,(E2.off _ (fun e=>by omega)).drew,(E3.off _ (fun e=>by omega)).drew⟩ ?_
 clear C H E0 E1 E2 E3 g e0 e1 e2 e3 f0 f1 f2 f3
 rintro W ⟨C,H,E0,E1,E2,E3⟩
 refine act_gen (Fr 428 [(0,Ptr bv ov),(89,Ptr n0 0),(90,Ptr n1 0),(91,Ptr n2 0),(92,Ptr n3 0)] []) (by refine ⟨hd (by simp [hT.out]),?_⟩;simp [Fx,Fu, *]) ?_
 clear hT t0 t89 t90 t91 t92 s420 s421 s422 s423
 rintro T ⟨hT,⟨t0,t89,t90,t91,t92,-⟩,-⟩
 obtain ⟨s424,s425,s426,s427,-⟩:=sz hT [424,425,426,427] rfl
 obtain ⟨⟨e0,e1,e2,e3⟩,f0,f1,f2,f3⟩:=H.four
 have g:=(E3 0 (by simp)).1
 simp at g
 skip
 go_still_tail 4,(by kernel_rfl)
 go_wp2_with fail
 go_end0
 obtain ⟨hb,em,o0,o1,o2,o3⟩:=hO.out
 refine ⟨rfl,?_,m,hk,hb,r0,r1,r2,r3,em,⟨o0,o1,o2,o3⟩,?_⟩
 ·first | exact (C.setCell (b:=bv) (o:=ov + 3) _ (fun _=>⟨rfl,by omega,by omega⟩)).drew | exact C.setCell (b:=bv) (o:=ov + 3) _ (fun _=>⟨rfl,by omega,by omega⟩)
 ·exact H.set 3 rfl _
end Go.Proofs.Ed
