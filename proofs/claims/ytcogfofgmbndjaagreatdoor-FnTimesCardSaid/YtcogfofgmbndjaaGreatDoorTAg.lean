/- A part of the proof of the tied card of FnTimes: Fi2. -/
import Derived.Test.YtcogfofgmbndjaaGreatDoorProg
import Derived.WalkKit
import Derived.WalkSpells
import Derived.WalkLawsBesides
import Derived.Outline
import Derived.StillTailTactics
import Derived.Test.YtcogfofgmbndjaaGreatDoorTAe
set_option maxRecDepth 100000
set_option maxHeartbeats 40000000
namespace Go.Proofs.Ed
open Go.RowKit
theorem toM_c {bv ov bx ox:Nat} {a0 a1 a2 a3:Int} {w:World} (u0:U64 a0) (u1:U64 a1) (u2:U64 a2) (u3:U64 a3) (RM:Room w bv ov 4) (X:Has w bx ox [.int .u64 a0,.int .u64 a1,.int .u64 a2,.int .u64 a3]) :
  Calls Tryz.prog 89 #[Ptr bv ov,Ptr bx ox] w (fun e w'=>e = .returned (.tuple #[])∧Chg (Rg bv ov 4) w w'∧∃ m,(∃ k,m * 115792089237316195423570985008687907853269984665640564039457584007913129639936 = v4 a0 a1 a2 a3 * 1627715501170711445284395025044413883736156588369414752970002579683115011841 + LL * k)∧MW w' bv ov m):=by
 have c0:=(X 0 (by simp)).1
 have c1:=(X 1 (by simp)).1
 have c2:=(X 2 (by simp)).1
 have c3:=(X 3 (by simp)).1
 simp at c0 c1 c2 c3
 clear X
 go_enter Tryz.func89,Tryz.ntmps89
 repeat ((fail_if_success with_reducible show wpList _ _ _ (⟨some 178,_,_,_,_,_⟩ :: _) _ _);(first | go_values | go_skip | go_guarded | go_step | go_upon))
 refine oG (Fr 734 [(0,Ptr bv ov),(1,Ptr bx ox)] [(4,a1),(5,a2),(6,a3)]) (by refine ⟨hd rfl,?_⟩;simp only [Fx,Fu];and_intros<;>first | rfl | trivial) ?_
 rintro T ⟨hT,⟨t0,t1,-⟩,t4,t5,t6,-⟩
 obtain ⟨s178,s179,s180,s181,s7,s8,s9,s183,s184,-⟩:=sz hT [178,179,180,181,7,8,9,183,184] rfl
 obtain ⟨x6,x5,qx6,qx5,mx5⟩:=M64.ex u0 ke
 go_wp2_with fail
 refine mul_go u0 ke qx6 qx5 ?_
 dsimp only
 go_step
 refine oG (Fr 734 [(0,Ptr bv ov),(1,Ptr bx ox),(184,.tuple #[.int .u64 x6,.int .u64 x5])] [(4,a1),(5,a2),(6,a3),(7,a0)]) (by refine ⟨hd (by simp [hT.out]),?_⟩;simp [Fx,Fu, *]) ?_
 clear hT t0 t1 t4 t5 t6 qx6 qx5 s178 s179 s180 s181 s7 s8 s9 s183 s184
 rintro T ⟨hT,⟨t0,t1,t184,-⟩,t4,t5,t6,t7,-⟩
 obtain ⟨s182,s185,s186,s9,s8,s10,s11,s188,s189,-⟩:=sz hT [182,185,186,9,8,10,11,188,189] rfl
 obtain ⟨x8,x7,qx8,qx7,mx7⟩:=M64.ex u0 kf
 go_wp2_with fail
 refine mul_go u0 kf qx8 qx7 ?_
 dsimp only
 go_step
 refine oG (Fr 734 [(0,Ptr bv ov),(1,Ptr bx ox),(189,.tuple #[.int .u64 x8,.int .u64 x7])] [(4,a1),(5,a2),(6,a3),(7,a0),(8,x5),(9,x6)]) (by refine ⟨hd (by simp [hT.out]),?_⟩;simp [Fx,Fu, *]) ?_
 clear hT t0 t1 t184 t4 t5 t6 t7 qx8 qx7 s182 s185 s186 s9 s8 s10 s11 s188 s189
 rintro T ⟨hT,⟨t0,t1,t189,-⟩,t4,t5,t6,t7,t8,t9,-⟩
 obtain ⟨s187,s190,s191,s11,s10,s12,s13,s193,s194,-⟩:=sz hT [187,190,191,11,10,12,13,193,194] rfl
 obtain ⟨x10,x9,qx10,qx9,mx9⟩:=M64.ex u0 kg
 go_wp2_with fail
 refine mul_go u0 kg qx10 qx9 ?_
 dsimp only
 go_step
 refine oG (Fr 734 [(0,Ptr bv ov),(1,Ptr bx ox),(194,.tuple #[.int .u64 x10,.int .u64 x9])] [(4,a1),(5,a2),(6,a3),(7,a0),(8,x5),(9,x6),(10,x7),(11,x8)]) (by refine ⟨hd (by simp [hT.out]),?_⟩;simp [Fx,Fu, *]) ?_
 clear hT t0 t1 t189 t4 t5 t6 t7 t8 t9 qx10 qx9 s187 s190 s191 s11 s10 s12 s13 s193 s194
 rintro T ⟨hT,⟨t0,t1,t194,-⟩,t4,t5,t6,t7,t8,t9,t10,t11,-⟩
 obtain ⟨s192,s195,s196,s13,s12,s14,s15,s198,s199,-⟩:=sz hT [192,195,196,13,12,14,15,198,199] rfl
 obtain ⟨x12,x11,qx12,qx11,mx11⟩:=M64.ex u0 kh
 go_wp2_with fail
 refine mul_go u0 kh qx12 qx11 ?_
 dsimp only
 go_step
 refine oG (Fr 734 [(0,Ptr bv ov),(1,Ptr bx ox),(199,.tuple #[.int .u64 x12,.int .u64 x11])] [(4,a1),(5,a2),(6,a3),(8,x5),(9,x6),(10,x7),(11,x8),(12,x9),(13,x10)]) (by refine ⟨hd (by simp [hT.out]),?_⟩;simp [Fx,Fu, *]) ?_
 clear hT t0 t1 t194 t4 t5 t6 t7 t8 t9 t10 t11 qx12 qx11 s192 s195 s196 s13 s12 s14 s15 s198 s199
 rintro T ⟨hT,⟨t0,t1,t199,-⟩,t4,t5,t6,t8,t9,t10,t11,t12,t13,-⟩
 obtain ⟨s197,s200,s201,s15,s14,s16,s17,s203,s204,s205,s202,s206,s207,s18,s19,-⟩:=sz hT [197,200,201,15,14,16,17,203,204,205,202,206,207,18,19] rfl
 obtain ⟨x13,x14,mx14,rx14⟩:=A64.ex mx11.h mx9.l k0
 repeat ((fail_if_success with_reducible show wpList _ _ _ (⟨some 209,_,_,_,_,_⟩ :: _) _ _);(first | go_values | go_skip | go_guarded | go_step | go_upon))
 refine oG (Fr 734 [(0,Ptr bv ov),(1,Ptr bx ox)] [(4,a1),(5,a2),(6,a3),(8,x5),(9,x6),(10,x7),(11,x8),(13,x10),(14,x11),(16,x13),(17,x14)]) (by refine ⟨hd (by simp [hT.out]),?_⟩;simp [Fx,Fu, *]) ?_
 clear hT t0 t1 t199 t4 t5 t6 t8 t9 t10 t11 t12 t13 rx14 s197 s200 s201 s15 s14 s16 s17 s203 s204 s205 s202 s206 s207 s18 s19
 rintro T ⟨hT,⟨t0,t1,-⟩,t4,t5,t6,t8,t9,t10,t11,t13,t14,t16,t17,-⟩
 obtain ⟨s209,s210,s211,s212,s208,s213,s214,s18,s19,s20,s21,s216,s217,s218,s219,s215,s220,s221,s22,-⟩:=sz hT [209,210,211,212,208,213,214,18,19,20,21,216,217,218,219,215,220,221,22] rfl
 obtain ⟨x15,x16,mx16,rx16⟩:=A64.ex mx9.h mx7.l mx14.d
 obtain ⟨x17,x18,mx18,rx18⟩:=A64.ex mx7.h mx5.l mx16.d
 repeat ((fail_if_success with_reducible show wpList _ _ _ (⟨some 223,_,_,_,_,_⟩ :: _) _ _);(first | go_values | go_skip | go_guarded | go_step | go_upon))
 refine oG (Fr 734 [(0,Ptr bv ov),(1,Ptr bx ox)] [(4,a1),(5,a2),(6,a3),(9,x6),(14,x11),(16,x13),(18,x15),(20,x17),(21,x18)]) (by refine ⟨hd (by simp [hT.out]),?_⟩;simp [Fx,Fu, *]) ?_
 clear hT t0 t1 t4 t5 t6 t8 t9 t10 t11 t13 t14 t16 t17 rx16 rx18 s209 s210 s211 s212 s208 s213 s214 s18 s19 s20 s21 s216 s217 s218 s219 s215 s220 s221 s22
 rintro T ⟨hT,⟨t0,t1,-⟩,t4,t5,t6,t9,t14,t16,t18,t20,t21,-⟩
 obtain ⟨s223,s224,-⟩:=sz hT [223,224] rfl
 obtain ⟨z8_0,x19,qz8_0,qx19,mx19⟩:=M64.ex mx11.l ka
 go_wp2_with fail
 refine mul_go mx11.l ka qz8_0 qx19 ?_
 dsimp only
 go_step
 refine oG (Fr 734 [(0,Ptr bv ov),(1,Ptr bx ox),(224,.tuple #[.int .u64 z8_0,.int .u64 x19])] [(4,a1),(5,a2),(6,a3),(9,x6),(14,x11),(16,x13),(18,x15),(20,x17),(21,x18)]) (by refine ⟨hd (by simp [hT.out]),?_⟩;simp [Fx,Fu, *]) ?_
 clear hT t0 t1 t4 t5 t6 t9 t14 t16 t18 t20 t21 qz8_0 qx19 s223 s224
 rintro T ⟨hT,⟨t0,t1,t224,-⟩,t4,t5,t6,t9,t14,t16,t18,t20,t21,-⟩
 obtain ⟨s222,s225,s226,s22,s23,s24,s228,s229,-⟩:=sz hT [222,225,226,22,23,24,228,229] rfl
 obtain ⟨x22,x21,qx22,qx21,mx21⟩:=M64.ex mx19.l kb
 go_wp2_with fail
 refine mul_go mx19.l kb qx22 qx21 ?_
 dsimp only
 go_step
 refine oG (Fr 734 [(0,Ptr bv ov),(1,Ptr bx ox),(229,.tuple #[.int .u64 x22,.int .u64 x21])] [(4,a1),(5,a2),(6,a3),(9,x6),(14,x11),(16,x13),(18,x15),(20,x17),(21,x18),(22,x19)]) (by refine ⟨hd (by simp [hT.out]),?_⟩;simp [Fx,Fu, *]) ?_
 clear hT t0 t1 t224 t4 t5 t6 t9 t14 t16 t18 t20 t21 qx22 qx21 s222 s225 s226 s22 s23 s24 s228 s229
 rintro T ⟨hT,⟨t0,t1,t229,-⟩,t4,t5,t6,t9,t14,t16,t18,t20,t21,t22,-⟩
 obtain ⟨s227,s230,s231,s24,s23,s25,s26,s233,s234,-⟩:=sz hT [227,230,231,24,23,25,26,233,234] rfl
 obtain ⟨x24,x23,qx24,qx23,mx23⟩:=M64.ex mx19.l kc
 go_wp2_with fail
 refine mul_go mx19.l kc qx24 qx23 ?_
 dsimp only
 go_step
 refine oG (Fr 734 [(0,Ptr bv ov),(1,Ptr bx ox),(234,.tuple #[.int .u64 x24,.int .u64 x23])] [(4,a1),(5,a2),(6,a3),(9,x6),(14,x11),(16,x13),(18,x15),(20,x17),(21,x18),(22,x19),(23,x21),(24,x22)]) (by refine ⟨hd (by simp [hT.out]),?_⟩;simp [Fx,Fu, *]) ?_
 clear hT t0 t1 t229 t4 t5 t6 t9 t14 t16 t18 t20 t21 t22 qx24 qx23 s227 s230 s231 s24 s23 s25 s26 s233 s234
 rintro T ⟨hT,⟨t0,t1,t234,-⟩,t4,t5,t6,t9,t14,t16,t18,t20,t21,t22,t23,t24,-⟩
 obtain ⟨s232,s235,s236,s26,s25,s27,s28,s238,s239,-⟩:=sz hT [232,235,236,26,25,27,28,238,239] rfl
 obtain ⟨x26,x25,qx26,qx25,mx25⟩:=M64.ex mx19.l kd
 go_wp2_with fail
 refine mul_go mx19.l kd qx26 qx25 ?_
 dsimp only
 go_step
 refine oG (Fr 734 [(0,Ptr bv ov),(1,Ptr bx ox),(239,.tuple #[.int .u64 x26,.int .u64 x25])] [(4,a1),(5,a2),(6,a3),(9,x6),(14,x11),(16,x13),(18,x15),(20,x17),(21,x18),(23,x21),(24,x22),(25,x23),(26,x24)]) (by refine ⟨hd (by simp [hT.out]),?_⟩;simp [Fx,Fu, *]) ?_
 clear hT t0 t1 t234 t4 t5 t6 t9 t14 t16 t18 t20 t21 t22 t23 t24 qx26 qx25 s232 s235 s236 s26 s25 s27 s28 s238 s239
 rintro T ⟨hT,⟨t0,t1,t239,-⟩,t4,t5,t6,t9,t14,t16,t18,t20,t21,t23,t24,t25,t26,-⟩
 obtain ⟨s237,s240,s241,s28,s27,s29,s30,s243,s244,s245,s242,s246,s247,s31,-⟩:=sz hT [237,240,241,28,27,29,30,243,244,245,242,246,247,31] rfl
 obtain ⟨x27,x28,mx28,rx28⟩:=A64.ex mx25.h mx23.l k0
 repeat ((fail_if_success with_reducible show wpList _ _ _ (⟨some 249,_,_,_,_,_⟩ :: _) _ _);(first | go_values | go_skip | go_guarded | go_step | go_upon))
 refine oG (Fr 734 [(0,Ptr bv ov),(1,Ptr bx ox)] [(4,a1),(5,a2),(6,a3),(9,x6),(14,x11),(16,x13),(18,x15),(20,x17),(21,x18),(23,x21),(24,x22),(26,x24),(27,x25),(29,x27),(30,x28)]) (by refine ⟨hd (by simp [hT.out]),?_⟩;simp [Fx,Fu, *]) ?_
 clear hT t0 t1 t239 t4 t5 t6 t9 t14 t16 t18 t20 t21 t23 t24 t25 t26 rx28 s237 s240 s241 s28 s27 s29 s30 s243 s244 s245 s242 s246 s247 s31
 rintro T ⟨hT,⟨t0,t1,-⟩,t4,t5,t6,t9,t14,t16,t18,t20,t21,t23,t24,t26,t27,t29,t30,-⟩
 obtain ⟨s249,s250,s251,s248,s252,s253,s31,s32,s33,s255,s256,s257,s258,s254,s259,s260,s34,s35,-⟩:=sz hT [249,250,251,248,252,253,31,32,33,255,256,257,258,254,259,260,34,35] rfl
 obtain ⟨z13_0,x30,mx30,rx30⟩:=A64.ex mx11.l mx25.l k0
 obtain ⟨x31,x32,mx32,rx32⟩:=A64.ex mx14.s mx28.s mx30.d
 repeat ((fail_if_success with_reducible show wpList _ _ _ (⟨some 262,_,_,_,_,_⟩ :: _) _ _);(first | go_values | go_skip | go_guarded | go_step | go_upon))
 refine oG (Fr 734 [(0,Ptr bv ov),(1,Ptr bx ox)] [(4,a1),(5,a2),(6,a3),(9,x6),(18,x15),(20,x17),(21,x18),(23,x21),(24,x22),(26,x24),(30,x28),(32,x31),(33,x32)]) (by refine ⟨hd (by simp [hT.out]),?_⟩;simp [Fx,Fu, *]) ?_
 clear hT t0 t1 t4 t5 t6 t9 t14 t16 t18 t20 t21 t23 t24 t26 t27 t29 t30 rx30 rx32 s249 s250 s251 s248 s252 s253 s31 s32 s33 s255 s256 s257 s258 s254 s259 s260 s34 s35
 rintro T ⟨hT,⟨t0,t1,-⟩,t4,t5,t6,t9,t18,t20,t21,t23,t24,t26,t30,t32,t33,-⟩
 obtain ⟨s262,s263,s264,s265,s266,s267,s261,s268,s269,s34,s35,s36,s37,-⟩:=sz hT [262,263,264,265,266,267,261,268,269,34,35,36,37] rfl
 obtain ⟨y265,wy265,ey265⟩:=W64.ex x28 x24
 obtain ⟨x33,x34,mx34,rx34⟩:=A64.ex mx16.s wy265.u mx32.d
 repeat ((fail_if_success with_reducible show wpList _ _ _ (⟨some 271,_,_,_,_,_⟩ :: _) _ _);(first | go_values | go_skip | go_guarded | go_step | go_upon))
 refine oG (Fr 734 [(0,Ptr bv ov),(1,Ptr bx ox)] [(4,a1),(5,a2),(6,a3),(9,x6),(20,x17),(21,x18),(23,x21),(24,x22),(32,x31),(34,x33),(35,x34)]) (by refine ⟨hd (by simp [hT.out]),?_⟩;simp [Fx,Fu, *]) ?_
 clear hT t0 t1 t4 t5 t6 t9 t18 t20 t21 t23 t24 t26 t30 t32 t33 ey265 rx34 s262 s263 s264 s265 s266 s267 s261 s268 s269 s34 s35 s36 s37
 rintro T ⟨hT,⟨t0,t1,-⟩,t4,t5,t6,t9,t20,t21,t23,t24,t32,t34,t35,-⟩
 obtain ⟨s271,s272,s273,s274,s270,s275,s276,s36,s37,s38,s39,s278,s279,-⟩:=sz hT [271,272,273,274,270,275,276,36,37,38,39,278,279] rfl
 obtain ⟨x35,x36,mx36,rx36⟩:=A64.ex mx18.s mx21.l mx34.d
 obtain ⟨x38,x37,qx38,qx37,mx37⟩:=M64.ex u1 ke
 go_wp2_with fail
 refine mul_go u1 ke qx38 qx37 ?_
 dsimp only
 go_step
 refine oG (Fr 734 [(0,Ptr bv ov),(1,Ptr bx ox),(279,.tuple #[.int .u64 x38,.int .u64 x37])] [(4,a1),(5,a2),(6,a3),(9,x6),(21,x18),(24,x22),(32,x31),(34,x33),(36,x35),(37,x36)]) (by refine ⟨hd (by simp [hT.out]),?_⟩;simp [Fx,Fu, *]) ?_
 clear hT t0 t1 t4 t5 t6 t9 t20 t21 t23 t24 t32 t34 t35 rx36 qx38 qx37 s271 s272 s273 s274 s270 s275 s276 s36 s37 s38 s39 s278 s279
 rintro T ⟨hT,⟨t0,t1,t279,-⟩,t4,t5,t6,t9,t21,t24,t32,t34,t36,t37,-⟩
 obtain ⟨s277,s280,s281,s39,s38,s40,s41,s283,s284,-⟩:=sz hT [277,280,281,39,38,40,41,283,284] rfl
 obtain ⟨x40,x39,qx40,qx39,mx39⟩:=M64.ex u1 kf
 go_wp2_with fail
 refine mul_go u1 kf qx40 qx39 ?_
 dsimp only
 go_step
 refine oG (Fr 734 [(0,Ptr bv ov),(1,Ptr bx ox),(284,.tuple #[.int .u64 x40,.int .u64 x39])] [(4,a1),(5,a2),(6,a3),(9,x6),(21,x18),(24,x22),(32,x31),(34,x33),(36,x35),(37,x36),(38,x37),(39,x38)]) (by refine ⟨hd (by simp [hT.out]),?_⟩;simp [Fx,Fu, *]) ?_
 clear hT t0 t1 t279 t4 t5 t6 t9 t21 t24 t32 t34 t36 t37 qx40 qx39 s277 s280 s281 s39 s38 s40 s41 s283 s284
 rintro T ⟨hT,⟨t0,t1,t284,-⟩,t4,t5,t6,t9,t21,t24,t32,t34,t36,t37,t38,t39,-⟩
 obtain ⟨s282,s285,s286,s41,s40,s42,s43,s288,s289,-⟩:=sz hT [282,285,286,41,40,42,43,288,289] rfl
 obtain ⟨x42,x41,qx42,qx41,mx41⟩:=M64.ex u1 kg
 go_wp2_with fail
 refine mul_go u1 kg qx42 qx41 ?_
 dsimp only
 go_step
 refine oG (Fr 734 [(0,Ptr bv ov),(1,Ptr bx ox),(289,.tuple #[.int .u64 x42,.int .u64 x41])] [(4,a1),(5,a2),(6,a3),(9,x6),(21,x18),(24,x22),(32,x31),(34,x33),(36,x35),(37,x36),(38,x37),(39,x38),(40,x39),(41,x40)]) (by refine ⟨hd (by simp [hT.out]),?_⟩;simp [Fx,Fu, *]) ?_
 clear hT t0 t1 t284 t4 t5 t6 t9 t21 t24 t32 t34 t36 t37 t38 t39 qx42 qx41 s282 s285 s286 s41 s40 s42 s43 s288 s289
 rintro T ⟨hT,⟨t0,t1,t289,-⟩,t4,t5,t6,t9,t21,t24,t32,t34,t36,t37,t38,t39,t40,t41,-⟩
 obtain ⟨s287,s290,s291,s43,s42,s44,s45,s293,s294,-⟩:=sz hT [287,290,291,43,42,44,45,293,294] rfl
 obtain ⟨x44,x43,qx44,qx43,mx43⟩:=M64.ex u1 kh
 go_wp2_with fail
 refine mul_go u1 kh qx44 qx43 ?_
 dsimp only
 go_step
 refine oG (Fr 734 [(0,Ptr bv ov),(1,Ptr bx ox),(294,.tuple #[.int .u64 x44,.int .u64 x43])] [(5,a2),(6,a3),(9,x6),(21,x18),(24,x22),(32,x31),(34,x33),(36,x35),(37,x36),(38,x37),(39,x38),(40,x39),(41,x40),(42,x41),(43,x42)]) (by refine ⟨hd (by simp [hT.out]),?_⟩;simp [Fx,Fu, *]) ?_
 clear hT t0 t1 t289 t4 t5 t6 t9 t21 t24 t32 t34 t36 t37 t38 t39 t40 t41 qx44 qx43 s287 s290 s291 s43 s42 s44 s45 s293 s294
 rintro T ⟨hT,⟨t0,t1,t294,-⟩,t5,t6,t9,t21,t24,t32,t34,t36,t37,t38,t39,t40,t41,t42,t43,-⟩
 obtain ⟨s292,s295,s296,s45,s44,s46,s47,s298,s299,s300,s297,s301,s302,s48,s49,-⟩:=sz hT [292,295,296,45,44,46,47,298,299,300,297,301,302,48,49] rfl
 obtain ⟨x45,x46,mx46,rx46⟩:=A64.ex mx43.h mx41.l k0
 repeat ((fail_if_success with_reducible show wpList _ _ _ (⟨some 304,_,_,_,_,_⟩ :: _) _ _);(first | go_values | go_skip | go_guarded | go_step | go_upon))
 refine oG (Fr 734 [(0,Ptr bv ov),(1,Ptr bx ox)] [(5,a2),(6,a3),(9,x6),(21,x18),(24,x22),(32,x31),(34,x33),(36,x35),(37,x36),(38,x37),(39,x38),(40,x39),(41,x40),(43,x42),(44,x43),(46,x45),(47,x46)]) (by refine ⟨hd (by simp [hT.out]),?_⟩;simp [Fx,Fu, *]) ?_
 clear hT t0 t1 t294 t5 t6 t9 t21 t24 t32 t34 t36 t37 t38 t39 t40 t41 t42 t43 rx46 s292 s295 s296 s45 s44 s46 s47 s298 s299 s300 s297 s301 s302 s48 s49
 rintro T ⟨hT,⟨t0,t1,-⟩,t5,t6,t9,t21,t24,t32,t34,t36,t37,t38,t39,t40,t41,t43,t44,t46,t47,-⟩
 obtain ⟨s304,s305,s306,s307,s303,s308,s309,s48,s49,s50,s51,s311,s312,s313,s314,s310,s315,s316,s52,s53,-⟩:=sz hT [304,305,306,307,303,308,309,48,49,50,51,311,312,313,314,310,315,316,52,53] rfl
 obtain ⟨x47,x48,mx48,rx48⟩:=A64.ex mx41.h mx39.l mx46.d
 obtain ⟨x49,x50,mx50,rx50⟩:=A64.ex mx39.h mx37.l mx48.d
 repeat ((fail_if_success with_reducible show wpList _ _ _ (⟨some 318,_,_,_,_,_⟩ :: _) _ _);(first | go_values | go_skip | go_guarded | go_step | go_upon))
 refine oG (Fr 734 [(0,Ptr bv ov),(1,Ptr bx ox)] [(5,a2),(6,a3),(9,x6),(21,x18),(24,x22),(32,x31),(34,x33),(36,x35),(37,x36),(39,x38),(44,x43),(46,x45),(48,x47),(50,x49),(51,x50)]) (by refine ⟨hd (by simp [hT.out]),?_⟩;simp [Fx,Fu, *]) ?_
 clear hT t0 t1 t5 t6 t9 t21 t24 t32 t34 t36 t37 t38 t39 t40 t41 t43 t44 t46 t47 rx48 rx50 s304 s305 s306 s307 s303 s308 s309 s48 s49 s50 s51 s311 s312 s313 s314 s310 s315 s316 s52 s53
 rintro T ⟨hT,⟨t0,t1,-⟩,t5,t6,t9,t21,t24,t32,t34,t36,t37,t39,t44,t46,t48,t50,t51,-⟩
 obtain ⟨s318,s319,s320,s317,s321,s322,s52,s53,s54,s55,s324,s325,s326,s327,s323,s328,s329,s56,s57,-⟩:=sz hT [318,319,320,317,321,322,52,53,54,55,324,325,326,327,323,328,329,56,57] rfl
 obtain ⟨x51,x52,mx52,rx52⟩:=A64.ex mx32.s mx43.l k0
 obtain ⟨x53,x54,mx54,rx54⟩:=A64.ex mx34.s mx46.s mx52.d
 repeat ((fail_if_success with_reducible show wpList _ _ _ (⟨some 331,_,_,_,_,_⟩ :: _) _ _);(first | go_values | go_skip | go_guarded | go_step | go_upon))
 refine oG (Fr 734 [(0,Ptr bv ov),(1,Ptr bx ox)] [(5,a2),(6,a3),(9,x6),(21,x18),(24,x22),(36,x35),(37,x36),(39,x38),(48,x47),(50,x49),(51,x50),(52,x51),(54,x53),(55,x54)]) (by refine ⟨hd (by simp [hT.out]),?_⟩;simp [Fx,Fu, *]) ?_
 clear hT t0 t1 t5 t6 t9 t21 t24 t32 t34 t36 t37 t39 t44 t46 t48 t50 t51 rx52 rx54 s318 s319 s320 s317 s321 s322 s52 s53 s54 s55 s324 s325 s326 s327 s323 s328 s329 s56 s57
 rintro T ⟨hT,⟨t0,t1,-⟩,t5,t6,t9,t21,t24,t36,t37,t39,t48,t50,t51,t52,t54,t55,-⟩
 obtain ⟨s331,s332,s333,s334,s330,s335,s336,s56,s57,s58,s59,s338,s339,s340,s341,s342,s343,s344,s345,s346,s347,s337,s348,s349,s60,-⟩:=sz hT [331,332,333,334,330,335,336,56,57,58,59,338,339,340,341,342,343,344,345,346,347,337,348,349,60] rfl
 obtain ⟨x55,x56,mx56,rx56⟩:=A64.ex mx36.s mx48.s mx54.d
 obtain ⟨y341,wy341,ey341⟩:=W64.ex x18 x6
 obtain ⟨y342,wy342,ey342⟩:=W64.ex x36 y341
 obtain ⟨y344,wy344,ey344⟩:=W64.ex y342 x22
 obtain ⟨x57,x58,mx58,rx58⟩:=A64.ex wy344.u mx50.s mx56.d
 repeat ((fail_if_success with_reducible show wpList _ _ _ (⟨some 351,_,_,_,_,_⟩ :: _) _ _);(first | go_values | go_skip | go_guarded | go_step | go_upon))
 refine oG (Fr 734 [(0,Ptr bv ov),(1,Ptr bx ox)] [(5,a2),(6,a3),(39,x38),(51,x50),(52,x51),(54,x53),(56,x55),(58,x57),(59,x58)]) (by refine ⟨hd (by simp [hT.out]),?_⟩;simp [Fx,Fu, *]) ?_
 clear hT t0 t1 t5 t6 t9 t21 t24 t36 t37 t39 t48 t50 t51 t52 t54 t55 rx56 ey341 ey342 ey344 rx58 s331 s332 s333 s334 s330 s335 s336 s56 s57 s58 s59 s338 s339 s340 s341 s342 s343 s344 s345 s346 s347 s337 s348 s349 s60
 rintro T ⟨hT,⟨t0,t1,-⟩,t5,t6,t39,t51,t52,t54,t56,t58,t59,-⟩
 obtain ⟨s351,s352,-⟩:=sz hT [351,352] rfl
 obtain ⟨z28_0,x59,qz28_0,qx59,mx59⟩:=M64.ex mx52.s ka
 go_wp2_with fail
 refine mul_go mx52.s ka qz28_0 qx59 ?_
 dsimp only
 go_step
 refine oG (Fr 734 [(0,Ptr bv ov),(1,Ptr bx ox),(352,.tuple #[.int .u64 z28_0,.int .u64 x59])] [(5,a2),(6,a3),(39,x38),(51,x50),(52,x51),(54,x53),(56,x55),(58,x57),(59,x58)]) (by refine ⟨hd (by simp [hT.out]),?_⟩;simp [Fx,Fu, *]) ?_
 clear hT t0 t1 t5 t6 t39 t51 t52 t54 t56 t58 t59 qz28_0 qx59 s351 s352
 rintro T ⟨hT,⟨t0,t1,t352,-⟩,t5,t6,t39,t51,t52,t54,t56,t58,t59,-⟩
 obtain ⟨s350,s353,s354,s60,s61,s62,s356,s357,-⟩:=sz hT [350,353,354,60,61,62,356,357] rfl
 obtain ⟨x62,x61,qx62,qx61,mx61⟩:=M64.ex mx59.l kb
 go_wp2_with fail
 refine mul_go mx59.l kb qx62 qx61 ?_
 dsimp only
 go_step
 refine oG (Fr 734 [(0,Ptr bv ov),(1,Ptr bx ox),(357,.tuple #[.int .u64 x62,.int .u64 x61])] [(5,a2),(6,a3),(39,x38),(51,x50),(52,x51),(54,x53),(56,x55),(58,x57),(59,x58),(60,x59)]) (by refine ⟨hd (by simp [hT.out]),?_⟩;simp [Fx,Fu, *]) ?_
 clear hT t0 t1 t352 t5 t6 t39 t51 t52 t54 t56 t58 t59 qx62 qx61 s350 s353 s354 s60 s61 s62 s356 s357
 rintro T ⟨hT,⟨t0,t1,t357,-⟩,t5,t6,t39,t51,t52,t54,t56,t58,t59,t60,-⟩
 obtain ⟨s355,s358,s359,s62,s61,s63,s64,s361,s362,-⟩:=sz hT [355,358,359,62,61,63,64,361,362] rfl
 obtain ⟨x64,x63,qx64,qx63,mx63⟩:=M64.ex mx59.l kc
 go_wp2_with fail
 refine mul_go mx59.l kc qx64 qx63 ?_
 dsimp only
 go_step
 refine oG (Fr 734 [(0,Ptr bv ov),(1,Ptr bx ox),(362,.tuple #[.int .u64 x64,.int .u64 x63])] [(5,a2),(6,a3),(39,x38),(51,x50),(52,x51),(54,x53),(56,x55),(58,x57),(59,x58),(60,x59),(61,x61),(62,x62)]) (by refine ⟨hd (by simp [hT.out]),?_⟩;simp [Fx,Fu, *]) ?_
 clear hT t0 t1 t357 t5 t6 t39 t51 t52 t54 t56 t58 t59 t60 qx64 qx63 s355 s358 s359 s62 s61 s63 s64 s361 s362
 rintro T ⟨hT,⟨t0,t1,t362,-⟩,t5,t6,t39,t51,t52,t54,t56,t58,t59,t60,t61,t62,-⟩
 obtain ⟨s360,s363,s364,s64,s63,s65,s66,s366,s367,-⟩:=sz hT [360,363,364,64,63,65,66,366,367] rfl
 obtain ⟨x66,x65,qx66,qx65,mx65⟩:=M64.ex mx59.l kd
 go_wp2_with fail
 refine mul_go mx59.l kd qx66 qx65 ?_
 dsimp only
 go_step
 refine oG (Fr 734 [(0,Ptr bv ov),(1,Ptr bx ox),(367,.tuple #[.int .u64 x66,.int .u64 x65])] [(5,a2),(6,a3),(39,x38),(51,x50),(52,x51),(54,x53),(56,x55),(58,x57),(59,x58),(61,x61),(62,x62),(63,x63),(64,x64)]) (by refine ⟨hd (by simp [hT.out]),?_⟩;simp [Fx,Fu, *]) ?_
 clear hT t0 t1 t362 t5 t6 t39 t51 t52 t54 t56 t58 t59 t60 t61 t62 qx66 qx65 s360 s363 s364 s64 s63 s65 s66 s366 s367
 rintro T ⟨hT,⟨t0,t1,t367,-⟩,t5,t6,t39,t51,t52,t54,t56,t58,t59,t61,t62,t63,t64,-⟩
 obtain ⟨s365,s368,s369,s66,s65,s67,s68,s371,s372,s373,s370,s374,s375,s69,-⟩:=sz hT [365,368,369,66,65,67,68,371,372,373,370,374,375,69] rfl
 obtain ⟨x67,x68,mx68,rx68⟩:=A64.ex mx65.h mx63.l k0
 repeat ((fail_if_success with_reducible show wpList _ _ _ (⟨some 377,_,_,_,_,_⟩ :: _) _ _);(first | go_values | go_skip | go_guarded | go_step | go_upon))
 refine oG (Fr 734 [(0,Ptr bv ov),(1,Ptr bx ox)] [(5,a2),(6,a3),(39,x38),(51,x50),(52,x51),(54,x53),(56,x55),(58,x57),(59,x58),(61,x61),(62,x62),(64,x64),(65,x65),(67,x67),(68,x68)]) (by refine ⟨hd (by simp [hT.out]),?_⟩;simp [Fx,Fu, *]) ?_
 clear hT t0 t1 t367 t5 t6 t39 t51 t52 t54 t56 t58 t59 t61 t62 t63 t64 rx68 s365 s368 s369 s66 s65 s67 s68 s371 s372 s373 s370 s374 s375 s69
 rintro T ⟨hT,⟨t0,t1,-⟩,t5,t6,t39,t51,t52,t54,t56,t58,t59,t61,t62,t64,t65,t67,t68,-⟩
 obtain ⟨s377,s378,s379,s376,s380,s381,s69,s70,s71,s383,s384,s385,s386,s382,s387,s388,s72,s73,-⟩:=sz hT [377,378,379,376,380,381,69,70,71,383,384,385,386,382,387,388,72,73] rfl
 obtain ⟨z33_0,x70,mx70,rx70⟩:=A64.ex mx52.s mx65.l k0
 obtain ⟨x71,x72,mx72,rx72⟩:=A64.ex mx54.s mx68.s mx70.d
 repeat ((fail_if_success with_reducible show wpList _ _ _ (⟨some 390,_,_,_,_,_⟩ :: _) _ _);(first | go_values | go_skip | go_guarded | go_step | go_upon))
 refine oG (Fr 734 [(0,Ptr bv ov),(1,Ptr bx ox)] [(5,a2),(6,a3),(39,x38),(51,x50),(56,x55),(58,x57),(59,x58),(61,x61),(62,x62),(64,x64),(68,x68),(70,x71),(71,x72)]) (by refine ⟨hd (by simp [hT.out]),?_⟩;simp [Fx,Fu, *]) ?_
 clear hT t0 t1 t5 t6 t39 t51 t52 t54 t56 t58 t59 t61 t62 t64 t65 t67 t68 rx70 rx72 s377 s378 s379 s376 s380 s381 s69 s70 s71 s383 s384 s385 s386 s382 s387 s388 s72 s73
 rintro T ⟨hT,⟨t0,t1,-⟩,t5,t6,t39,t51,t56,t58,t59,t61,t62,t64,t68,t70,t71,-⟩
 obtain ⟨s390,s391,s392,s393,s394,s395,s389,s396,s397,s72,s73,s74,s75,-⟩:=sz hT [390,391,392,393,394,395,389,396,397,72,73,74,75] rfl
 obtain ⟨y393,wy393,ey393⟩:=W64.ex x68 x64
 obtain ⟨x73,x74,mx74,rx74⟩:=A64.ex mx56.s wy393.u mx72.d
 repeat ((fail_if_success with_reducible show wpList _ _ _ (⟨some 399,_,_,_,_,_⟩ :: _) _ _);(first | go_values | go_skip | go_guarded | go_step | go_upon))
 refine oG (Fr 734 [(0,Ptr bv ov),(1,Ptr bx ox)] [(5,a2),(6,a3),(39,x38),(51,x50),(58,x57),(59,x58),(61,x61),(62,x62),(70,x71),(72,x73),(73,x74)]) (by refine ⟨hd (by simp [hT.out]),?_⟩;simp [Fx,Fu, *]) ?_
 clear hT t0 t1 t5 t6 t39 t51 t56 t58 t59 t61 t62 t64 t68 t70 t71 ey393 rx74 s390 s391 s392 s393 s394 s395 s389 s396 s397 s72 s73 s74 s75
 rintro T ⟨hT,⟨t0,t1,-⟩,t5,t6,t39,t51,t58,t59,t61,t62,t70,t72,t73,-⟩
 obtain ⟨s399,s400,s401,s402,s398,s403,s404,s74,s75,s76,s77,s406,s407,-⟩:=sz hT [399,400,401,402,398,403,404,74,75,76,77,406,407] rfl
 obtain ⟨x75,x76,mx76,rx76⟩:=A64.ex mx58.s mx61.l mx74.d
 obtain ⟨x78,x77,qx78,qx77,mx77⟩:=M64.ex u2 ke
 go_wp2_with fail
 refine mul_go u2 ke qx78 qx77 ?_
 dsimp only
 go_step
 refine oG (Fr 734 [(0,Ptr bv ov),(1,Ptr bx ox),(407,.tuple #[.int .u64 x78,.int .u64 x77])] [(5,a2),(6,a3),(39,x38),(51,x50),(59,x58),(62,x62),(70,x71),(72,x73),(74,x75),(75,x76)]) (by refine ⟨hd (by simp [hT.out]),?_⟩;simp [Fx,Fu, *]) ?_
 clear hT t0 t1 t5 t6 t39 t51 t58 t59 t61 t62 t70 t72 t73 rx76 qx78 qx77 s399 s400 s401 s402 s398 s403 s404 s74 s75 s76 s77 s406 s407
 rintro T ⟨hT,⟨t0,t1,t407,-⟩,t5,t6,t39,t51,t59,t62,t70,t72,t74,t75,-⟩
 obtain ⟨s405,s408,s409,s77,s76,s78,s79,s411,s412,-⟩:=sz hT [405,408,409,77,76,78,79,411,412] rfl
 obtain ⟨x80,x79,qx80,qx79,mx79⟩:=M64.ex u2 kf
 go_wp2_with fail
 refine mul_go u2 kf qx80 qx79 ?_
 dsimp only
 go_step
 refine oG (Fr 734 [(0,Ptr bv ov),(1,Ptr bx ox),(412,.tuple #[.int .u64 x80,.int .u64 x79])] [(5,a2),(6,a3),(39,x38),(51,x50),(59,x58),(62,x62),(70,x71),(72,x73),(74,x75),(75,x76),(76,x77),(77,x78)]) (by refine ⟨hd (by simp [hT.out]),?_⟩;simp [Fx,Fu, *]) ?_
 clear hT t0 t1 t407 t5 t6 t39 t51 t59 t62 t70 t72 t74 t75 qx80 qx79 s405 s408 s409 s77 s76 s78 s79 s411 s412
 rintro T ⟨hT,⟨t0,t1,t412,-⟩,t5,t6,t39,t51,t59,t62,t70,t72,t74,t75,t76,t77,-⟩
 obtain ⟨s410,s413,s414,s79,s78,s80,s81,s416,s417,-⟩:=sz hT [410,413,414,79,78,80,81,416,417] rfl
 obtain ⟨x82,x81,qx82,qx81,mx81⟩:=M64.ex u2 kg
 go_wp2_with fail
 refine mul_go u2 kg qx82 qx81 ?_
 dsimp only
 go_step
 refine oG (Fr 734 [(0,Ptr bv ov),(1,Ptr bx ox),(417,.tuple #[.int .u64 x82,.int .u64 x81])] [(5,a2),(6,a3),(39,x38),(51,x50),(59,x58),(62,x62),(70,x71),(72,x73),(74,x75),(75,x76),(76,x77),(77,x78),(78,x79),(79,x80)]) (by refine ⟨hd (by simp [hT.out]),?_⟩;simp [Fx,Fu, *]) ?_
 clear hT t0 t1 t412 t5 t6 t39 t51 t59 t62 t70 t72 t74 t75 t76 t77 qx82 qx81 s410 s413 s414 s79 s78 s80 s81 s416 s417
 rintro T ⟨hT,⟨t0,t1,t417,-⟩,t5,t6,t39,t51,t59,t62,t70,t72,t74,t75,t76,t77,t78,t79,-⟩
 obtain ⟨s415,s418,s419,s81,s80,s82,s83,s421,s422,-⟩:=sz hT [415,418,419,81,80,82,83,421,422] rfl
 obtain ⟨x84,x83,qx84,qx83,mx83⟩:=M64.ex u2 kh
 go_wp2_with fail
 refine mul_go u2 kh qx84 qx83 ?_
 dsimp only
 go_step
 refine oG (Fr 734 [(0,Ptr bv ov),(1,Ptr bx ox),(422,.tuple #[.int .u64 x84,.int .u64 x83])] [(6,a3),(39,x38),(51,x50),(59,x58),(62,x62),(70,x71),(72,x73),(74,x75),(75,x76),(76,x77),(77,x78),(78,x79),(79,x80),(80,x81),(81,x82)]) (by refine ⟨hd (by simp [hT.out]),?_⟩;simp [Fx,Fu, *]) ?_
 clear hT t0 t1 t417 t5 t6 t39 t51 t59 t62 t70 t72 t74 t75 t76 t77 t78 t79 qx84 qx83 s415 s418 s419 s81 s80 s82 s83 s421 s422
 rintro T ⟨hT,⟨t0,t1,t422,-⟩,t6,t39,t51,t59,t62,t70,t72,t74,t75,t76,t77,t78,t79,t80,t81,-⟩
 obtain ⟨s420,s423,s424,s83,s82,s84,s85,s426,s427,s428,s425,s429,s430,s86,s87,-⟩:=sz hT [420,423,424,83,82,84,85,426,427,428,425,429,430,86,87] rfl
 obtain ⟨x85,x86,mx86,rx86⟩:=A64.ex mx83.h mx81.l k0
 repeat ((fail_if_success with_reducible show wpList _ _ _ (⟨some 432,_,_,_,_,_⟩ :: _) _ _);(first | go_values | go_skip | go_guarded | go_step | go_upon))
 refine oG (Fr 734 [(0,Ptr bv ov),(1,Ptr bx ox)] [(6,a3),(39,x38),(51,x50),(59,x58),(62,x62),(70,x71),(72,x73),(74,x75),(75,x76),(76,x77),(77,x78),(78,x79),(79,x80),(81,x82),(82,x83),(84,x85),(85,x86)]) (by refine ⟨hd (by simp [hT.out]),?_⟩;simp [Fx,Fu, *]) ?_
 clear hT t0 t1 t422 t6 t39 t51 t59 t62 t70 t72 t74 t75 t76 t77 t78 t79 t80 t81 rx86 s420 s423 s424 s83 s82 s84 s85 s426 s427 s428 s425 s429 s430 s86 s87
 rintro T ⟨hT,⟨t0,t1,-⟩,t6,t39,t51,t59,t62,t70,t72,t74,t75,t76,t77,t78,t79,t81,t82,t84,t85,-⟩
 obtain ⟨s432,s433,s434,s435,s431,s436,s437,s86,s87,s88,s89,s439,s440,s441,s442,s438,s443,s444,s90,s91,-⟩:=sz hT [432,433,434,435,431,436,437,86,87,88,89,439,440,441,442,438,443,444,90,91] rfl
 obtain ⟨x87,x88,mx88,rx88⟩:=A64.ex mx81.h mx79.l mx86.d
 obtain ⟨x89,x90,mx90,rx90⟩:=A64.ex mx79.h mx77.l mx88.d
 repeat ((fail_if_success with_reducible show wpList _ _ _ (⟨some 446,_,_,_,_,_⟩ :: _) _ _);(first | go_values | go_skip | go_guarded | go_step | go_upon))
 refine oG (Fr 734 [(0,Ptr bv ov),(1,Ptr bx ox)] [(6,a3),(39,x38),(51,x50),(59,x58),(62,x62),(70,x71),(72,x73),(74,x75),(75,x76),(77,x78),(82,x83),(84,x85),(86,x87),(88,x89),(89,x90)]) (by refine ⟨hd (by simp [hT.out]),?_⟩;simp [Fx,Fu, *]) ?_
 clear hT t0 t1 t6 t39 t51 t59 t62 t70 t72 t74 t75 t76 t77 t78 t79 t81 t82 t84 t85 rx88 rx90 s432 s433 s434 s435 s431 s436 s437 s86 s87 s88 s89 s439 s440 s441 s442 s438 s443 s444 s90 s91
 rintro T ⟨hT,⟨t0,t1,-⟩,t6,t39,t51,t59,t62,t70,t72,t74,t75,t77,t82,t84,t86,t88,t89,-⟩
 obtain ⟨s446,s447,s448,s445,s449,s450,s90,s91,s92,s93,s452,s453,s454,s455,s451,s456,s457,s94,s95,-⟩:=sz hT [446,447,448,445,449,450,90,91,92,93,452,453,454,455,451,456,457,94,95] rfl
 obtain ⟨x91,x92,mx92,rx92⟩:=A64.ex mx72.s mx83.l k0
 obtain ⟨x93,x94,mx94,rx94⟩:=A64.ex mx74.s mx86.s mx92.d
 repeat ((fail_if_success with_reducible show wpList _ _ _ (⟨some 459,_,_,_,_,_⟩ :: _) _ _);(first | go_values | go_skip | go_guarded | go_step | go_upon))
 refine oG (Fr 734 [(0,Ptr bv ov),(1,Ptr bx ox)] [(6,a3),(39,x38),(51,x50),(59,x58),(62,x62),(74,x75),(75,x76),(77,x78),(86,x87),(88,x89),(89,x90),(90,x91),(92,x93),(93,x94)]) (by refine ⟨hd (by simp [hT.out]),?_⟩;simp [Fx,Fu, *]) ?_
 clear hT t0 t1 t6 t39 t51 t59 t62 t70 t72 t74 t75 t77 t82 t84 t86 t88 t89 rx92 rx94 s446 s447 s448 s445 s449 s450 s90 s91 s92 s93 s452 s453 s454 s455 s451 s456 s457 s94 s95
 rintro T ⟨hT,⟨t0,t1,-⟩,t6,t39,t51,t59,t62,t74,t75,t77,t86,t88,t89,t90,t92,t93,-⟩
 obtain ⟨s459,s460,s461,s462,s458,s463,s464,s94,s95,s96,s97,s466,s467,s468,s469,s470,s471,s472,s473,s474,s475,s476,s477,s465,s478,s479,s98,-⟩:=sz hT [459,460,461,462,458,463,464,94,95,96,97,466,467,468,469,470,471,472,473,474,475,476,477,465,478,479,98] rfl
 obtain ⟨x95,x96,mx96,rx96⟩:=A64.ex mx76.s mx88.s mx94.d
 obtain ⟨y470,wy470,ey470⟩:=W64.ex x50 x38
 obtain ⟨y471,wy471,ey471⟩:=W64.ex x58 y470
 obtain ⟨y472,wy472,ey472⟩:=W64.ex x76 y471
 obtain ⟨y474,wy474,ey474⟩:=W64.ex y472 x62
 obtain ⟨x97,x98,mx98,rx98⟩:=A64.ex wy474.u mx90.s mx96.d
 repeat ((fail_if_success with_reducible show wpList _ _ _ (⟨some 481,_,_,_,_,_⟩ :: _) _ _);(first | go_values | go_skip | go_guarded | go_step | go_upon))
 refine oG (Fr 734 [(0,Ptr bv ov),(1,Ptr bx ox)] [(6,a3),(77,x78),(89,x90),(90,x91),(92,x93),(94,x95),(96,x97),(97,x98)]) (by refine ⟨hd (by simp [hT.out]),?_⟩;simp [Fx,Fu, *]) ?_
 clear hT t0 t1 t6 t39 t51 t59 t62 t74 t75 t77 t86 t88 t89 t90 t92 t93 rx96 ey470 ey471 ey472 ey474 rx98 s459 s460 s461 s462 s458 s463 s464 s94 s95 s96 s97 s466 s467 s468 s469 s470 s471 s472 s473 s474 s475 s476 s477 s465 s478 s479 s98
 rintro T ⟨hT,⟨t0,t1,-⟩,t6,t77,t89,t90,t92,t94,t96,t97,-⟩
 obtain ⟨s481,s482,-⟩:=sz hT [481,482] rfl
 obtain ⟨z48_0,x99,qz48_0,qx99,mx99⟩:=M64.ex mx92.s ka
 go_wp2_with fail
 refine mul_go mx92.s ka qz48_0 qx99 ?_
 dsimp only
 go_step
 refine oG (Fr 734 [(0,Ptr bv ov),(1,Ptr bx ox),(482,.tuple #[.int .u64 z48_0,.int .u64 x99])] [(6,a3),(77,x78),(89,x90),(90,x91),(92,x93),(94,x95),(96,x97),(97,x98)]) (by refine ⟨hd (by simp [hT.out]),?_⟩;simp [Fx,Fu, *]) ?_
 clear hT t0 t1 t6 t77 t89 t90 t92 t94 t96 t97 qz48_0 qx99 s481 s482
 rintro T ⟨hT,⟨t0,t1,t482,-⟩,t6,t77,t89,t90,t92,t94,t96,t97,-⟩
 obtain ⟨s480,s483,s484,s98,s99,s100,s486,s487,-⟩:=sz hT [480,483,484,98,99,100,486,487] rfl
 obtain ⟨x102,x101,qx102,qx101,mx101⟩:=M64.ex mx99.l kb
 go_wp2_with fail
 refine mul_go mx99.l kb qx102 qx101 ?_
 dsimp only
 go_step
 refine oG (Fr 734 [(0,Ptr bv ov),(1,Ptr bx ox),(487,.tuple #[.int .u64 x102,.int .u64 x101])] [(6,a3),(77,x78),(89,x90),(90,x91),(92,x93),(94,x95),(96,x97),(97,x98),(98,x99)]) (by refine ⟨hd (by simp [hT.out]),?_⟩;simp [Fx,Fu, *]) ?_
 clear hT t0 t1 t482 t6 t77 t89 t90 t92 t94 t96 t97 qx102 qx101 s480 s483 s484 s98 s99 s100 s486 s487
 rintro T ⟨hT,⟨t0,t1,t487,-⟩,t6,t77,t89,t90,t92,t94,t96,t97,t98,-⟩
 obtain ⟨s485,s488,s489,s100,s99,s101,s102,s491,s492,-⟩:=sz hT [485,488,489,100,99,101,102,491,492] rfl
 obtain ⟨x104,x103,qx104,qx103,mx103⟩:=M64.ex mx99.l kc
 go_wp2_with fail
 refine mul_go mx99.l kc qx104 qx103 ?_
 dsimp only
 go_step
 refine oG (Fr 734 [(0,Ptr bv ov),(1,Ptr bx ox),(492,.tuple #[.int .u64 x104,.int .u64 x103])] [(6,a3),(77,x78),(89,x90),(90,x91),(92,x93),(94,x95),(96,x97),(97,x98),(98,x99),(99,x101),(100,x102)]) (by refine ⟨hd (by simp [hT.out]),?_⟩;simp [Fx,Fu, *]) ?_
 clear hT t0 t1 t487 t6 t77 t89 t90 t92 t94 t96 t97 t98 qx104 qx103 s485 s488 s489 s100 s99 s101 s102 s491 s492
 rintro T ⟨hT,⟨t0,t1,t492,-⟩,t6,t77,t89,t90,t92,t94,t96,t97,t98,t99,t100,-⟩
 obtain ⟨s490,s493,s494,s102,s101,s103,s104,s496,s497,-⟩:=sz hT [490,493,494,102,101,103,104,496,497] rfl
 obtain ⟨x106,x105,qx106,qx105,mx105⟩:=M64.ex mx99.l kd
 go_wp2_with fail
 refine mul_go mx99.l kd qx106 qx105 ?_
 dsimp only
 go_step
 refine oG (Fr 734 [(0,Ptr bv ov),(1,Ptr bx ox),(497,.tuple #[.int .u64 x106,.int .u64 x105])] [(6,a3),(77,x78),(89,x90),(90,x91),(92,x93),(94,x95),(96,x97),(97,x98),(99,x101),(100,x102),(101,x103),(102,x104)]) (by refine ⟨hd (by simp [hT.out]),?_⟩;simp [Fx,Fu, *]) ?_
 clear hT t0 t1 t492 t6 t77 t89 t90 t92 t94 t96 t97 t98 t99 t100 qx106 qx105 s490 s493 s494 s102 s101 s103 s104 s496 s497
 rintro T ⟨hT,⟨t0,t1,t497,-⟩,t6,t77,t89,t90,t92,t94,t96,t97,t99,t100,t101,t102,-⟩
 obtain ⟨s495,s498,s499,s104,s103,s105,s106,s501,s502,s503,s500,s504,s505,s107,-⟩:=sz hT [495,498,499,104,103,105,106,501,502,503,500,504,505,107] rfl
 obtain ⟨x107,x108,mx108,rx108⟩:=A64.ex mx105.h mx103.l k0
 repeat ((fail_if_success with_reducible show wpList _ _ _ (⟨some 507,_,_,_,_,_⟩ :: _) _ _);(first | go_values | go_skip | go_guarded | go_step | go_upon))
 refine oG (Fr 734 [(0,Ptr bv ov),(1,Ptr bx ox)] [(6,a3),(77,x78),(89,x90),(90,x91),(92,x93),(94,x95),(96,x97),(97,x98),(99,x101),(100,x102),(102,x104),(103,x105),(105,x107),(106,x108)]) (by refine ⟨hd (by simp [hT.out]),?_⟩;simp [Fx,Fu, *]) ?_
 clear hT t0 t1 t497 t6 t77 t89 t90 t92 t94 t96 t97 t99 t100 t101 t102 rx108 s495 s498 s499 s104 s103 s105 s106 s501 s502 s503 s500 s504 s505 s107
 rintro T ⟨hT,⟨t0,t1,-⟩,t6,t77,t89,t90,t92,t94,t96,t97,t99,t100,t102,t103,t105,t106,-⟩
 obtain ⟨s507,s508,s509,s506,s510,s511,s107,s108,s109,s513,s514,s515,s516,s512,s517,s518,s110,s111,-⟩:=sz hT [507,508,509,506,510,511,107,108,109,513,514,515,516,512,517,518,110,111] rfl
 obtain ⟨z53_0,x110,mx110,rx110⟩:=A64.ex mx92.s mx105.l k0
 obtain ⟨x111,x112,mx112,rx112⟩:=A64.ex mx94.s mx108.s mx110.d
 repeat ((fail_if_success with_reducible show wpList _ _ _ (⟨some 520,_,_,_,_,_⟩ :: _) _ _);(first | go_values | go_skip | go_guarded | go_step | go_upon))
 refine oG (Fr 734 [(0,Ptr bv ov),(1,Ptr bx ox)] [(6,a3),(77,x78),(89,x90),(94,x95),(96,x97),(97,x98),(99,x101),(100,x102),(102,x104),(106,x108),(108,x111),(109,x112)]) (by refine ⟨hd (by simp [hT.out]),?_⟩;simp [Fx,Fu, *]) ?_
 clear hT t0 t1 t6 t77 t89 t90 t92 t94 t96 t97 t99 t100 t102 t103 t105 t106 rx110 rx112 s507 s508 s509 s506 s510 s511 s107 s108 s109 s513 s514 s515 s516 s512 s517 s518 s110 s111
 rintro T ⟨hT,⟨t0,t1,-⟩,t6,t77,t89,t94,t96,t97,t99,t100,t102,t106,t108,t109,-⟩
 obtain ⟨s520,s521,s522,s523,s524,s525,s519,s526,s527,s110,s111,s112,s113,-⟩:=sz hT [520,521,522,523,524,525,519,526,527,110,111,112,113] rfl
 obtain ⟨y523,wy523,ey523⟩:=W64.ex x108 x104
 obtain ⟨x113,x114,mx114,rx114⟩:=A64.ex mx96.s wy523.u mx112.d
 repeat ((fail_if_success with_reducible show wpList _ _ _ (⟨some 529,_,_,_,_,_⟩ :: _) _ _);(first | go_values | go_skip | go_guarded | go_step | go_upon))
 refine oG (Fr 734 [(0,Ptr bv ov),(1,Ptr bx ox)] [(6,a3),(77,x78),(89,x90),(96,x97),(97,x98),(99,x101),(100,x102),(108,x111),(110,x113),(111,x114)]) (by refine ⟨hd (by simp [hT.out]),?_⟩;simp [Fx,Fu, *]) ?_
 clear hT t0 t1 t6 t77 t89 t94 t96 t97 t99 t100 t102 t106 t108 t109 ey523 rx114 s520 s521 s522 s523 s524 s525 s519 s526 s527 s110 s111 s112 s113
 rintro T ⟨hT,⟨t0,t1,-⟩,t6,t77,t89,t96,t97,t99,t100,t108,t110,t111,-⟩
 obtain ⟨s529,s530,s531,s532,s528,s533,s534,s112,s113,s114,s115,s536,s537,-⟩:=sz hT [529,530,531,532,528,533,534,112,113,114,115,536,537] rfl
 obtain ⟨x115,x116,mx116,rx116⟩:=A64.ex mx98.s mx101.l mx114.d
 obtain ⟨x118,x117,qx118,qx117,mx117⟩:=M64.ex u3 ke
 go_wp2_with fail
 refine mul_go u3 ke qx118 qx117 ?_
 dsimp only
 go_step
 refine oG (Fr 734 [(0,Ptr bv ov),(1,Ptr bx ox),(537,.tuple #[.int .u64 x118,.int .u64 x117])] [(6,a3),(77,x78),(89,x90),(97,x98),(100,x102),(108,x111),(110,x113),(112,x115),(113,x116)]) (by refine ⟨hd (by simp [hT.out]),?_⟩;simp [Fx,Fu, *]) ?_
 clear hT t0 t1 t6 t77 t89 t96 t97 t99 t100 t108 t110 t111 rx116 qx118 qx117 s529 s530 s531 s532 s528 s533 s534 s112 s113 s114 s115 s536 s537
 rintro T ⟨hT,⟨t0,t1,t537,-⟩,t6,t77,t89,t97,t100,t108,t110,t112,t113,-⟩
 obtain ⟨s535,s538,s539,s115,s114,s116,s117,s541,s542,-⟩:=sz hT [535,538,539,115,114,116,117,541,542] rfl
 obtain ⟨x120,x119,qx120,qx119,mx119⟩:=M64.ex u3 kf
 go_wp2_with fail
 refine mul_go u3 kf qx120 qx119 ?_
 dsimp only
 go_step
 refine oG (Fr 734 [(0,Ptr bv ov),(1,Ptr bx ox),(542,.tuple #[.int .u64 x120,.int .u64 x119])] [(6,a3),(77,x78),(89,x90),(97,x98),(100,x102),(108,x111),(110,x113),(112,x115),(113,x116),(114,x117),(115,x118)]) (by refine ⟨hd (by simp [hT.out]),?_⟩;simp [Fx,Fu, *]) ?_
 clear hT t0 t1 t537 t6 t77 t89 t97 t100 t108 t110 t112 t113 qx120 qx119 s535 s538 s539 s115 s114 s116 s117 s541 s542
 rintro T ⟨hT,⟨t0,t1,t542,-⟩,t6,t77,t89,t97,t100,t108,t110,t112,t113,t114,t115,-⟩
 obtain ⟨s540,s543,s544,s117,s116,s118,s119,s546,s547,-⟩:=sz hT [540,543,544,117,116,118,119,546,547] rfl
 obtain ⟨x122,x121,qx122,qx121,mx121⟩:=M64.ex u3 kg
 go_wp2_with fail
 refine mul_go u3 kg qx122 qx121 ?_
 dsimp only
 go_step
 refine oG (Fr 734 [(0,Ptr bv ov),(1,Ptr bx ox),(547,.tuple #[.int .u64 x122,.int .u64 x121])] [(6,a3),(77,x78),(89,x90),(97,x98),(100,x102),(108,x111),(110,x113),(112,x115),(113,x116),(114,x117),(115,x118),(116,x119),(117,x120)]) (by refine ⟨hd (by simp [hT.out]),?_⟩;simp [Fx,Fu, *]) ?_
 clear hT t0 t1 t542 t6 t77 t89 t97 t100 t108 t110 t112 t113 t114 t115 qx122 qx121 s540 s543 s544 s117 s116 s118 s119 s546 s547
 rintro T ⟨hT,⟨t0,t1,t547,-⟩,t6,t77,t89,t97,t100,t108,t110,t112,t113,t114,t115,t116,t117,-⟩
 obtain ⟨s545,s548,s549,s119,s118,s120,s121,s551,s552,-⟩:=sz hT [545,548,549,119,118,120,121,551,552] rfl
 obtain ⟨x124,x123,qx124,qx123,mx123⟩:=M64.ex u3 kh
 go_wp2_with fail
 refine mul_go u3 kh qx124 qx123 ?_
 dsimp only
 go_step
 refine oG (Fr 734 [(0,Ptr bv ov),(1,Ptr bx ox),(552,.tuple #[.int .u64 x124,.int .u64 x123])] [(77,x78),(89,x90),(97,x98),(100,x102),(108,x111),(110,x113),(112,x115),(113,x116),(114,x117),(115,x118),(116,x119),(117,x120),(118,x121),(119,x122)]) (by refine ⟨hd (by simp [hT.out]),?_⟩;simp [Fx,Fu, *]) ?_
 clear hT t0 t1 t547 t6 t77 t89 t97 t100 t108 t110 t112 t113 t114 t115 t116 t117 qx124 qx123 s545 s548 s549 s119 s118 s120 s121 s551 s552
 rintro T ⟨hT,⟨t0,t1,t552,-⟩,t77,t89,t97,t100,t108,t110,t112,t113,t114,t115,t116,t117,t118,t119,-⟩
 obtain ⟨s550,s553,s554,s121,s120,s122,s123,s556,s557,s558,s555,s559,s560,s124,s125,-⟩:=sz hT [550,553,554,121,120,122,123,556,557,558,555,559,560,124,125] rfl
 obtain ⟨x125,x126,mx126,rx126⟩:=A64.ex mx123.h mx121.l k0
 repeat ((fail_if_success with_reducible show wpList _ _ _ (⟨some 562,_,_,_,_,_⟩ :: _) _ _);(first | go_values | go_skip | go_guarded | go_step | go_upon))
 refine oG (Fr 734 [(0,Ptr bv ov),(1,Ptr bx ox)] [(77,x78),(89,x90),(97,x98),(100,x102),(108,x111),(110,x113),(112,x115),(113,x116),(114,x117),(115,x118),(116,x119),(117,x120),(119,x122),(120,x123),(122,x125),(123,x126)]) (by refine ⟨hd (by simp [hT.out]),?_⟩;simp [Fx,Fu, *]) ?_
 clear hT t0 t1 t552 t77 t89 t97 t100 t108 t110 t112 t113 t114 t115 t116 t117 t118 t119 rx126 s550 s553 s554 s121 s120 s122 s123 s556 s557 s558 s555 s559 s560 s124 s125
 rintro T ⟨hT,⟨t0,t1,-⟩,t77,t89,t97,t100,t108,t110,t112,t113,t114,t115,t116,t117,t119,t120,t122,t123,-⟩
 obtain ⟨s562,s563,s564,s565,s561,s566,s567,s124,s125,s126,s127,s569,s570,s571,s572,s568,s573,s574,s128,s129,-⟩:=sz hT [562,563,564,565,561,566,567,124,125,126,127,569,570,571,572,568,573,574,128,129] rfl
 obtain ⟨x127,x128,mx128,rx128⟩:=A64.ex mx121.h mx119.l mx126.d
 obtain ⟨x129,x130,mx130,rx130⟩:=A64.ex mx119.h mx117.l mx128.d
 repeat ((fail_if_success with_reducible show wpList _ _ _ (⟨some 576,_,_,_,_,_⟩ :: _) _ _);(first | go_values | go_skip | go_guarded | go_step | go_upon))
 refine oG (Fr 734 [(0,Ptr bv ov),(1,Ptr bx ox)] [(77,x78),(89,x90),(97,x98),(100,x102),(108,x111),(110,x113),(112,x115),(113,x116),(115,x118),(120,x123),(122,x125),(124,x127),(126,x129),(127,x130)]) (by refine ⟨hd (by simp [hT.out]),?_⟩;simp [Fx,Fu, *]) ?_
 clear hT t0 t1 t77 t89 t97 t100 t108 t110 t112 t113 t114 t115 t116 t117 t119 t120 t122 t123 rx128 rx130 s562 s563 s564 s565 s561 s566 s567 s124 s125 s126 s127 s569 s570 s571 s572 s568 s573 s574 s128 s129
 rintro T ⟨hT,⟨t0,t1,-⟩,t77,t89,t97,t100,t108,t110,t112,t113,t115,t120,t122,t124,t126,t127,-⟩
 obtain ⟨s576,s577,s578,s575,s579,s580,s128,s129,s130,s131,s582,s583,s584,s585,s581,s586,s587,s132,s133,-⟩:=sz hT [576,577,578,575,579,580,128,129,130,131,582,583,584,585,581,586,587,132,133] rfl
 obtain ⟨x131,x132,mx132,rx132⟩:=A64.ex mx112.s mx123.l k0
 obtain ⟨x133,x134,mx134,rx134⟩:=A64.ex mx114.s mx126.s mx132.d
 repeat ((fail_if_success with_reducible show wpList _ _ _ (⟨some 589,_,_,_,_,_⟩ :: _) _ _);(first | go_values | go_skip | go_guarded | go_step | go_upon))
 refine oG (Fr 734 [(0,Ptr bv ov),(1,Ptr bx ox)] [(77,x78),(89,x90),(97,x98),(100,x102),(112,x115),(113,x116),(115,x118),(124,x127),(126,x129),(127,x130),(128,x131),(130,x133),(131,x134)]) (by refine ⟨hd (by simp [hT.out]),?_⟩;simp [Fx,Fu, *]) ?_
 clear hT t0 t1 t77 t89 t97 t100 t108 t110 t112 t113 t115 t120 t122 t124 t126 t127 rx132 rx134 s576 s577 s578 s575 s579 s580 s128 s129 s130 s131 s582 s583 s584 s585 s581 s586 s587 s132 s133
 rintro T ⟨hT,⟨t0,t1,-⟩,t77,t89,t97,t100,t112,t113,t115,t124,t126,t127,t128,t130,t131,-⟩
 obtain ⟨s589,s590,s591,s592,s588,s593,s594,s132,s133,s134,s135,s596,s597,s598,s599,s600,s601,s602,s603,s604,s605,s606,s607,s595,s608,s609,s136,-⟩:=sz hT [589,590,591,592,588,593,594,132,133,134,135,596,597,598,599,600,601,602,603,604,605,606,607,595,608,609,136] rfl
 obtain ⟨x135,x136,mx136,rx136⟩:=A64.ex mx116.s mx128.s mx134.d
 obtain ⟨y600,wy600,ey600⟩:=W64.ex x90 x78
 obtain ⟨y601,wy601,ey601⟩:=W64.ex x98 y600
 obtain ⟨y602,wy602,ey602⟩:=W64.ex x116 y601
 obtain ⟨y604,wy604,ey604⟩:=W64.ex y602 x102
 obtain ⟨x137,x138,mx138,rx138⟩:=A64.ex wy604.u mx130.s mx136.d
 repeat ((fail_if_success with_reducible show wpList _ _ _ (⟨some 611,_,_,_,_,_⟩ :: _) _ _);(first | go_values | go_skip | go_guarded | go_step | go_upon))
 refine oG (Fr 734 [(0,Ptr bv ov),(1,Ptr bx ox)] [(115,x118),(127,x130),(128,x131),(130,x133),(132,x135),(134,x137),(135,x138)]) (by refine ⟨hd (by simp [hT.out]),?_⟩;simp [Fx,Fu, *]) ?_
 clear hT t0 t1 t77 t89 t97 t100 t112 t113 t115 t124 t126 t127 t128 t130 t131 rx136 ey600 ey601 ey602 ey604 rx138 s589 s590 s591 s592 s588 s593 s594 s132 s133 s134 s135 s596 s597 s598 s599 s600 s601 s602 s603 s604 s605 s606 s607 s595 s608 s609 s136
 rintro T ⟨hT,⟨t0,t1,-⟩,t115,t127,t128,t130,t132,t134,t135,-⟩
 obtain ⟨s611,s612,-⟩:=sz hT [611,612] rfl
 obtain ⟨z68_0,x139,qz68_0,qx139,mx139⟩:=M64.ex mx132.s ka
 go_wp2_with fail
 refine mul_go mx132.s ka qz68_0 qx139 ?_
 dsimp only
 go_step
 refine oG (Fr 734 [(0,Ptr bv ov),(1,Ptr bx ox),(612,.tuple #[.int .u64 z68_0,.int .u64 x139])] [(115,x118),(127,x130),(128,x131),(130,x133),(132,x135),(134,x137),(135,x138)]) (by refine ⟨hd (by simp [hT.out]),?_⟩;simp [Fx,Fu, *]) ?_
 clear hT t0 t1 t115 t127 t128 t130 t132 t134 t135 qz68_0 qx139 s611 s612
 rintro T ⟨hT,⟨t0,t1,t612,-⟩,t115,t127,t128,t130,t132,t134,t135,-⟩
 obtain ⟨s610,s613,s614,s136,s137,s138,s616,s617,-⟩:=sz hT [610,613,614,136,137,138,616,617] rfl
 obtain ⟨x142,x141,qx142,qx141,mx141⟩:=M64.ex mx139.l kb
 go_wp2_with fail
 refine mul_go mx139.l kb qx142 qx141 ?_
 dsimp only
 go_step
 refine oG (Fr 734 [(0,Ptr bv ov),(1,Ptr bx ox),(617,.tuple #[.int .u64 x142,.int .u64 x141])] [(115,x118),(127,x130),(128,x131),(130,x133),(132,x135),(134,x137),(135,x138),(136,x139)]) (by refine ⟨hd (by simp [hT.out]),?_⟩;simp [Fx,Fu, *]) ?_
 clear hT t0 t1 t612 t115 t127 t128 t130 t132 t134 t135 qx142 qx141 s610 s613 s614 s136 s137 s138 s616 s617
 rintro T ⟨hT,⟨t0,t1,t617,-⟩,t115,t127,t128,t130,t132,t134,t135,t136,-⟩
 obtain ⟨s615,s618,s619,s138,s137,s139,s140,s621,s622,-⟩:=sz hT [615,618,619,138,137,139,140,621,622] rfl
 obtain ⟨x144,x143,qx144,qx143,mx143⟩:=M64.ex mx139.l kc
 go_wp2_with fail
 refine mul_go mx139.l kc qx144 qx143 ?_
 dsimp only
 go_step
 refine oG (Fr 734 [(0,Ptr bv ov),(1,Ptr bx ox),(622,.tuple #[.int .u64 x144,.int .u64 x143])] [(115,x118),(127,x130),(128,x131),(130,x133),(132,x135),(134,x137),(135,x138),(136,x139),(137,x141),(138,x142)]) (by refine ⟨hd (by simp [hT.out]),?_⟩;simp [Fx,Fu, *]) ?_
 clear hT t0 t1 t617 t115 t127 t128 t130 t132 t134 t135 t136 qx144 qx143 s615 s618 s619 s138 s137 s139 s140 s621 s622
 rintro T ⟨hT,⟨t0,t1,t622,-⟩,t115,t127,t128,t130,t132,t134,t135,t136,t137,t138,-⟩
 obtain ⟨s620,s623,s624,s140,s139,s141,s142,s626,s627,-⟩:=sz hT [620,623,624,140,139,141,142,626,627] rfl
 obtain ⟨x146,x145,qx146,qx145,mx145⟩:=M64.ex mx139.l kd
 go_wp2_with fail
 refine mul_go mx139.l kd qx146 qx145 ?_
 dsimp only
 go_step
 refine oG (Fr 734 [(0,Ptr bv ov),(1,Ptr bx ox),(627,.tuple #[.int .u64 x146,.int .u64 x145])] [(115,x118),(127,x130),(128,x131),(130,x133),(132,x135),(134,x137),(135,x138),(137,x141),(138,x142),(139,x143),(140,x144)]) (by refine ⟨hd (by simp [hT.out]),?_⟩;simp [Fx,Fu, *]) ?_
 clear hT t0 t1 t622 t115 t127 t128 t130 t132 t134 t135 t136 t137 t138 qx146 qx145 s620 s623 s624 s140 s139 s141 s142 s626 s627
 rintro T ⟨hT,⟨t0,t1,t627,-⟩,t115,t127,t128,t130,t132,t134,t135,t137,t138,t139,t140,-⟩
 obtain ⟨s625,s628,s629,s142,s141,s143,s144,s631,s632,s633,s630,s634,s635,s145,-⟩:=sz hT [625,628,629,142,141,143,144,631,632,633,630,634,635,145] rfl
 obtain ⟨x147,x148,mx148,rx148⟩:=A64.ex mx145.h mx143.l k0
 repeat ((fail_if_success with_reducible show wpList _ _ _ (⟨some 637,_,_,_,_,_⟩ :: _) _ _);(first | go_values | go_skip | go_guarded | go_step | go_upon))
 refine oG (Fr 734 [(0,Ptr bv ov),(1,Ptr bx ox)] [(115,x118),(127,x130),(128,x131),(130,x133),(132,x135),(134,x137),(135,x138),(137,x141),(138,x142),(140,x144),(141,x145),(143,x147),(144,x148)]) (by refine ⟨hd (by simp [hT.out]),?_⟩;simp [Fx,Fu, *]) ?_
 clear hT t0 t1 t627 t115 t127 t128 t130 t132 t134 t135 t137 t138 t139 t140 rx148 s625 s628 s629 s142 s141 s143 s144 s631 s632 s633 s630 s634 s635 s145
 rintro T ⟨hT,⟨t0,t1,-⟩,t115,t127,t128,t130,t132,t134,t135,t137,t138,t140,t141,t143,t144,-⟩
 obtain ⟨s637,s638,s639,s636,s640,s641,s145,s146,s147,s643,s644,s645,s646,s642,s647,s648,s148,s149,-⟩:=sz hT [637,638,639,636,640,641,145,146,147,643,644,645,646,642,647,648,148,149] rfl
 obtain ⟨z73_0,x150,mx150,rx150⟩:=A64.ex mx132.s mx145.l k0
 obtain ⟨x151,x152,mx152,rx152⟩:=A64.ex mx134.s mx148.s mx150.d
 repeat ((fail_if_success with_reducible show wpList _ _ _ (⟨some 650,_,_,_,_,_⟩ :: _) _ _);(first | go_values | go_skip | go_guarded | go_step | go_upon))
 refine oG (Fr 734 [(0,Ptr bv ov),(1,Ptr bx ox)] [(115,x118),(127,x130),(132,x135),(134,x137),(135,x138),(137,x141),(138,x142),(140,x144),(144,x148),(146,x151),(147,x152)]) (by refine ⟨hd (by simp [hT.out]),?_⟩;simp [Fx,Fu, *]) ?_
 clear hT t0 t1 t115 t127 t128 t130 t132 t134 t135 t137 t138 t140 t141 t143 t144 rx150 rx152 s637 s638 s639 s636 s640 s641 s145 s146 s147 s643 s644 s645 s646 s642 s647 s648 s148 s149
 rintro T ⟨hT,⟨t0,t1,-⟩,t115,t127,t132,t134,t135,t137,t138,t140,t144,t146,t147,-⟩
 obtain ⟨s650,s651,s652,s653,s654,s655,s649,s656,s657,s148,s149,s150,s151,-⟩:=sz hT [650,651,652,653,654,655,649,656,657,148,149,150,151] rfl
 obtain ⟨y653,wy653,ey653⟩:=W64.ex x148 x144
 obtain ⟨x153,x154,mx154,rx154⟩:=A64.ex mx136.s wy653.u mx152.d
 repeat ((fail_if_success with_reducible show wpList _ _ _ (⟨some 659,_,_,_,_,_⟩ :: _) _ _);(first | go_values | go_skip | go_guarded | go_step | go_upon))
 refine oG (Fr 734 [(0,Ptr bv ov),(1,Ptr bx ox)] [(115,x118),(127,x130),(134,x137),(135,x138),(137,x141),(138,x142),(146,x151),(148,x153),(149,x154)]) (by refine ⟨hd (by simp [hT.out]),?_⟩;simp [Fx,Fu, *]) ?_
 clear hT t0 t1 t115 t127 t132 t134 t135 t137 t138 t140 t144 t146 t147 ey653 rx154 s650 s651 s652 s653 s654 s655 s649 s656 s657 s148 s149 s150 s151
 rintro T ⟨hT,⟨t0,t1,-⟩,t115,t127,t134,t135,t137,t138,t146,t148,t149,-⟩
 obtain ⟨s659,s660,s661,s662,s658,s663,s664,s150,s151,s665,s666,s667,s668,s669,s670,s671,s672,s673,s152,s153,s154,-⟩:=sz hT [659,660,661,662,658,663,664,150,151,665,666,667,668,669,670,671,672,673,152,153,154] rfl
 obtain ⟨x155,x156,mx156,rx156⟩:=A64.ex mx138.s mx141.l mx154.d
 obtain ⟨y669,wy669,ey669⟩:=W64.ex x130 x118
 obtain ⟨y670,wy670,ey670⟩:=W64.ex x138 y669
 obtain ⟨y671,wy671,ey671⟩:=W64.ex x156 y670
 obtain ⟨y673,wy673,ey673⟩:=W64.ex y671 x142
 repeat ((fail_if_success with_reducible show wpList _ _ _ (⟨some 675,_,_,_,_,_⟩ :: _) _ _);(first | go_values | go_skip | go_guarded | go_step | go_upon))
 refine oG (Fr 734 [(0,Ptr bv ov),(1,Ptr bx ox)] [(146,x151),(148,x153),(150,x155),(152,y673)]) (by refine ⟨hd (by simp [hT.out]),?_⟩;simp [Fx,Fu, *]) ?_
 clear hT t0 t1 t115 t127 t134 t135 t137 t138 t146 t148 t149 rx156 ey669 ey670 ey671 ey673 s659 s660 s661 s662 s658 s663 s664 s150 s151 s665 s666 s667 s668 s669 s670 s671 s672 s673 s152 s153 s154
 rintro T ⟨hT,⟨t0,t1,-⟩,t146,t148,t150,t152,-⟩
 obtain ⟨s675,s676,s674,s677,s678,s153,s154,s155,s156,s680,s681,s682,s679,s683,s684,s157,s158,-⟩:=sz hT [675,676,674,677,678,153,154,155,156,680,681,682,679,683,684,157,158] rfl
 obtain ⟨x158,x159,mx159,rx159⟩:=S64.ex mx152.s kd k0
 obtain ⟨x160,x161,mx161,rx161⟩:=S64.ex mx154.s kc mx159.d
 repeat ((fail_if_success with_reducible show wpList _ _ _ (⟨some 686,_,_,_,_,_⟩ :: _) _ _);(first | go_values | go_skip | go_guarded | go_step | go_upon))
 refine oG (Fr 734 [(0,Ptr bv ov),(1,Ptr bx ox)] [(146,x151),(148,x153),(150,x155),(152,y673),(153,x158),(155,x160),(156,x161)]) (by refine ⟨hd (by simp [hT.out]),?_⟩;simp [Fx,Fu, *]) ?_
 clear hT t0 t1 t146 t148 t150 t152 rx159 rx161 s675 s676 s674 s677 s678 s153 s154 s155 s156 s680 s681 s682 s679 s683 s684 s157 s158
 rintro T ⟨hT,⟨t0,t1,-⟩,t146,t148,t150,t152,t153,t155,t156,-⟩
 obtain ⟨s686,s687,s688,s685,s689,s690,s157,s158,s159,s160,s692,s693,s694,s691,s695,s696,s161,-⟩:=sz hT [686,687,688,685,689,690,157,158,159,160,692,693,694,691,695,696,161] rfl
 obtain ⟨x162,x163,mx163,rx163⟩:=S64.ex mx156.s kz mx161.d
 obtain ⟨x164,x165,mx165,rx165⟩:=S64.ex wy673.u kb mx163.d
 repeat ((fail_if_success with_reducible show wpList _ _ _ (⟨some 698,_,_,_,_,_⟩ :: _) _ _);(first | go_values | go_skip | go_guarded | go_step | go_upon))
 refine oG (Fr 734 [(0,Ptr bv ov),(1,Ptr bx ox)] [(146,x151),(148,x153),(150,x155),(152,y673),(153,x158),(155,x160),(157,x162),(159,x164),(160,x165)]) (by refine ⟨hd (by simp [hT.out]),?_⟩;simp [Fx,Fu, *]) ?_
 clear hT t0 t1 t146 t148 t150 t152 t153 t155 t156 rx163 rx165 s686 s687 s688 s685 s689 s690 s157 s158 s159 s160 s692 s693 s694 s691 s695 s696 s161
 rintro T ⟨hT,⟨t0,t1,-⟩,t146,t148,t150,t152,t153,t155,t157,t159,t160,-⟩
 obtain ⟨s698,s699,s697,s700,s701,s161,s162,s702,s703,s704,s705,-⟩:=sz hT [698,699,697,700,701,161,162,702,703,704,705] rfl
 obtain ⟨z81_0,x167,mx167,rx167⟩:=S64.ex kz kz mx165.d
 have R1:=to_first u0 mx5 mx7 mx9 mx11 mx14 mx16 mx18 mx19 mx21 mx23 mx25 mx28 mx30 mx32 wy265 mx34 mx36 wy341 wy342 wy344
 have R2:=to_row u1 mx37 mx39 mx41 mx43 mx46 mx48 mx50 mx52 mx54 mx56 mx58 mx59 mx61 mx63 mx65 mx68 mx70 mx72 wy393 mx74 mx76 wy470 wy471 wy472 wy474
 have R3:=to_row u2 mx77 mx79 mx81 mx83 mx86 mx88 mx90 mx92 mx94 mx96 mx98 mx99 mx101 mx103 mx105 mx108 mx110 mx112 wy523 mx114 mx116 wy600 wy601 wy602 wy604
 have R4:=to_row u3 mx117 mx119 mx121 mx123 mx126 mx128 mx130 mx132 mx134 mx136 mx138 mx139 mx141 mx143 mx145 mx148 mx150 mx152 wy653 mx154 mx156 wy669 wy670 wy671 wy673
 obtain ⟨m,hk,hO⟩:=last_sel mx152.s mx154.s mx156.s wy673.u mx159 mx161 mx163 mx165 mx167 (to_all u0 u1 u2 u3 mx19.l mx59.l mx99.l mx139.l R1 R2 R3 R4) rfl
 clear R1 R2 R3 R4
 have hsel:x167 = 0∨x167 = 1:=by have:=mx167.d;omega
 obtain ⟨r0,qr0⟩:∃ g:Int,g = if x167 = 0 then x158 else x151:=⟨_,rfl⟩
 rw [←qr0] at hO
 replace qr0:=hd qr0
 obtain ⟨r1,qr1⟩:∃ g:Int,g = if x167 = 0 then x160 else x153:=⟨_,rfl⟩
 rw [←qr1] at hO
 replace qr1:=hd qr1
 obtain ⟨r2,qr2⟩:∃ g:Int,g = if x167 = 0 then x162 else x155:=⟨_,rfl⟩
 rw [←qr2] at hO
 replace qr2:=hd qr2
 obtain ⟨r3,qr3⟩:∃ g:Int,g = if x167 = 0 then x164 else y673:=⟨_,rfl⟩
 rw [←qr3] at hO
 replace qr3:=hd qr3
 replace hO:=hd hO
 have C:Chg (Rg bv ov 4) w w:=.refl _ _
 go_wp2_with fail
 obtain ⟨n0,ln0⟩:∃ n,w.heap.size = n:=⟨_,rfl⟩
 rw [ln0]
 have hb:=bA w (Obj.cells #[.int .u64 0] 71)
 have K:=(Has.new w [.int .u64 0] 71).room (n:=1) rfl
 rw [ln0] at K
 have zn0:w.heap.size ≤ n0:=ln0 ▸ C.size
 have yn0:bv < n0:=ln0 ▸ RM.lt (by decide)
 replace C:=C.trans (Chg.of_below hb)
 replace RM:=RM.later hb
 refine cG (fun W=>Chg (Rg bv ov 4) w W∧Room W bv ov 4∧Room W n0 0 1) ⟨C,RM,K⟩ ?_
 clear C RM K hb ln0
 rintro W ⟨C,RM,K⟩
 refine (cmov_c hsel mx159.s mx152.s K qr0).mono ?_
 rintro e W ⟨rfl,hc,E0⟩
 replace C:=C.loc2 hc (by omega)
 replace RM:=hc.room RM
 clear hc K
 dsimp only
 go_step
 refine oG (Fr 734 [(0,Ptr bv ov),(162,Ptr n0 0)] [(161,x167),(155,x160),(148,x153),(157,x162),(150,x155),(159,x164),(152,y673)]) (by refine ⟨hd (by simp [hT.out]),?_⟩;simp [Fx,Fu, *]) ?_
 clear hT t0 t1 t146 t148 t150 t152 t153 t155 t157 t159 t160 rx167 s698 s699 s697 s700 s701 s161 s162 s702 s703 s704 s705
 rintro T ⟨hT,⟨t0,t162,-⟩,t161,t155,t148,t157,t150,t159,t152,-⟩
 obtain ⟨s163,s706,s707,s708,s709,-⟩:=sz hT [163,706,707,708,709] rfl
 go_wp2_with fail
 obtain ⟨n1,ln1⟩:∃ n,W.heap.size = n:=⟨_,rfl⟩
 rw [ln1]
 have hb:=bA W (Obj.cells #[.int .u64 0] 71)
 have K:=(Has.new W [.int .u64 0] 71).room (n:=1) rfl
 rw [ln1] at K
 have zn1:w.heap.size ≤ n1:=ln1 ▸ C.size
 have yn1:bv < n1:=ln1 ▸ RM.lt (by decide)
 have yn1_0:n0 < n1:=ln1 ▸ E0.lt (by simp)
 replace C:=C.trans (Chg.of_below hb)
 replace RM:=RM.later hb
 replace E0:=E0.later hb
 refine cG (fun W=>Chg (Rg bv ov 4) w W∧Room W bv ov 4∧Room W n1 0 1∧Has W n0 0 [.int .u64 r0]) ⟨C,RM,K,E0⟩ ?_
 clear C RM K E0 hb ln1
 rintro W ⟨C,RM,K,E0⟩
 refine (cmov_c hsel mx161.s mx154.s K qr1).mono ?_
 rintro e W ⟨rfl,hc,E1⟩
 replace C:=C.loc2 hc (by omega)
 replace RM:=hc.room RM
 replace E0:=E0.keep hc (fun i hi h=>by obtain ⟨h1,h2,h3⟩:=h;omega)
 clear hc K
 dsimp only
 go_step
 refine oG (Fr 734 [(0,Ptr bv ov),(162,Ptr n0 0),(163,Ptr n1 0)] [(161,x167),(157,x162),(150,x155),(159,x164),(152,y673)]) (by refine ⟨hd (by simp [hT.out]),?_⟩;simp [Fx,Fu, *]) ?_
 clear hT t0 t162 t161 t155 t148 t157 t150 t159 t152 s163 s706 s707 s708 s709
 rintro T ⟨hT,⟨t0,t162,t163,-⟩,t161,t157,t150,t159,t152,-⟩
 obtain ⟨s164,s710,s711,s712,s713,-⟩:=sz hT [164,710,711,712,713] rfl
 go_wp2_with fail
 obtain ⟨n2,ln2⟩:∃ n,W.heap.size = n:=⟨_,rfl⟩
 rw [ln2]
 have hb:=bA W (Obj.cells #[.int .u64 0] 71)
 have K:=(Has.new W [.int .u64 0] 71).room (n:=1) rfl
 rw [ln2] at K
 have zn2:w.heap.size ≤ n2:=ln2 ▸ C.size
 have yn2:bv < n2:=ln2 ▸ RM.lt (by decide)
 have yn2_0:n0 < n2:=ln2 ▸ E0.lt (by simp)
 have yn2_1:n1 < n2:=ln2 ▸ E1.lt (by simp)
 replace C:=C.trans (Chg.of_below hb)
 replace RM:=RM.later hb
 replace E0:=E0.later hb
 replace E1:=E1.later hb
 refine cG (fun W=>Chg (Rg bv ov 4) w W∧Room W bv ov 4∧Room W n2 0 1∧Has W n0 0 [.int .u64 r0]∧Has W n1 0 [.int .u64 r1]) ⟨C,RM,K,E0,E1⟩ ?_
 clear C RM K E0 E1 hb ln2
 rintro W ⟨C,RM,K,E0,E1⟩
 refine (cmov_c hsel mx163.s mx156.s K qr2).mono ?_
 rintro e W ⟨rfl,hc,E2⟩
 replace C:=C.loc2 hc (by omega)
 replace RM:=hc.room RM
 replace E0:=E0.keep hc (fun i hi h=>by obtain ⟨h1,h2,h3⟩:=h;omega)
 replace E1:=E1.keep hc (fun i hi h=>by obtain ⟨h1,h2,h3⟩:=h;omega)
 clear hc K
 dsimp only
 go_step
 refine oG (Fr 734 [(0,Ptr bv ov),(162,Ptr n0 0),(163,Ptr n1 0),(164,Ptr n2 0)] [(161,x167),(159,x164),(152,y673)]) (by refine ⟨hd (by simp [hT.out]),?_⟩;simp [Fx,Fu, *]) ?_
 clear hT t0 t162 t163 t161 t157 t150 t159 t152 s164 s710 s711 s712 s713
 rintro T ⟨hT,⟨t0,t162,t163,t164,-⟩,t161,t159,t152,-⟩
 obtain ⟨s165,s714,s715,s716,s717,-⟩:=sz hT [165,714,715,716,717] rfl
 go_wp2_with fail
 obtain ⟨n3,ln3⟩:∃ n,W.heap.size = n:=⟨_,rfl⟩
 rw [ln3]
 have hb:=bA W (Obj.cells #[.int .u64 0] 71)
 have K:=(Has.new W [.int .u64 0] 71).room (n:=1) rfl
 rw [ln3] at K
 have zn3:w.heap.size ≤ n3:=ln3 ▸ C.size
 have yn3:bv < n3:=ln3 ▸ RM.lt (by decide)
 have yn3_0:n0 < n3:=ln3 ▸ E0.lt (by simp)
 have yn3_1:n1 < n3:=ln3 ▸ E1.lt (by simp)
 have yn3_2:n2 < n3:=ln3 ▸ E2.lt (by simp)
 replace C:=C.trans (Chg.of_below hb)
 replace RM:=RM.later hb
 replace E0:=E0.later hb
 replace E1:=E1.later hb
 replace E2:=E2.later hb
 refine cG (fun W=>Chg (Rg bv ov 4) w W∧Room W bv ov 4∧Room W n3 0 1∧Has W n0 0 [.int .u64 r0]∧Has W n1 0 [.int .u64 r1]∧Has W n2 0 [.int .u64 r2]) ⟨C,RM,K,E0,E1,E2⟩ ?_
 clear C RM K E0 E1 E2 hb ln3
 rintro W ⟨C,RM,K,E0,E1,E2⟩
 refine (cmov_c hsel mx165.s wy673.u K qr3).mono ?_
 rintro e W ⟨rfl,hc,E3⟩
 replace C:=C.loc2 hc (by omega)
 replace RM:=hc.room RM
 replace E0:=E0.keep hc (fun i hi h=>by obtain ⟨h1,h2,h3⟩:=h;omega)
 replace E1:=E1.keep hc (fun i hi h=>by obtain ⟨h1,h2,h3⟩:=h;omega)
 replace E2:=E2.keep hc (fun i hi h=>by obtain ⟨h1,h2,h3⟩:=h;omega)
 clear hc K
 dsimp only
 go_step
 refine oG (Fr 734 [(0,Ptr bv ov),(162,Ptr n0 0),(163,Ptr n1 0),(164,Ptr n2 0),(165,Ptr n3 0)] []) (by refine ⟨hd (by simp [hT.out]),?_⟩;simp [Fx,Fu, *]) ?_
 clear hT t0 t162 t163 t164 t161 t159 t152 s165 s714 s715 s716 s717
 rintro T ⟨hT,⟨t0,t162,t163,t164,t165,-⟩,-⟩
 obtain ⟨s718,s719,s720,s721,-⟩:=sz hT [718,719,720,721] rfl
 obtain ⟨v0,v1,v2,v3,H⟩:=RM.four
 clear RM
 obtain ⟨⟨e0,e1,e2,e3⟩,f0,f1,f2,f3⟩:=H.four
 have g:=(E0 0 (by simp)).1
 simp at g
 go_wp2_with fail
 go_still_tail 4,(by kernel_rfl)
 go_wp2_with fail
 refine wp_gen (fun W=>Chg (Rg bv ov 4) w W∧Has W bv ov [.int .u64 r0,v1,v2,v3]∧Has W n0 0 [.int .u64 r0]∧Has W n1 0 [.int .u64 r1]∧Has W n2 0 [.int .u64 r2]∧Has W n3 0 [.int .u64 r3]) ⟨(C.setCell _ (fun _=>⟨rfl,by omega,by omega⟩)).drew,(H.set 0 rfl _).drew,(E0.off _ (fun e=>by omega)).drew,(E1.off _ (fun e=>by omega)).drew,(E2.off _ (fun e=>by omega)).drew,(E3.off _ (fun e=>by omega)).drew⟩ ?_
 clear C H E0 E1 E2 E3 g e0 e1 e2 e3 f0 f1 f2 f3
 rintro W ⟨C,H,E0,E1,E2,E3⟩
 refine act_gen (Fr 734 [(0,Ptr bv ov),(162,Ptr n0 0),(163,Ptr n1 0),(164,Ptr n2 0),(165,Ptr n3 0)] []) (by refine ⟨hd (by simp [hT.out]),?_⟩;simp [Fx,Fu, *]) ?_
 clear hT t0 t162 t163 t164 t165 s718 s719 s720 s721
 rintro T ⟨hT,⟨t0,t162,t163,t164,t165,-⟩,-⟩
 obtain ⟨s722,s723,s724,s725,-⟩:=sz hT [722,723,724,725] rfl
 obtain ⟨⟨e0,e1,e2,e3⟩,f0,f1,f2,f3⟩:=H.four
 have g:=(E1 0 (by simp)).1
 simp at g
 skip
 go_still_tail 4,(by kernel_rfl)
 go_wp2_with fail
 refine wp_gen (fun W=>Chg (Rg bv ov 4) w W∧Has W bv ov [.int .u64 r0,.int .u64 r1,v2,v3]∧Has W n0 0 [.int .u64 r0]∧Has W n1 0 [.int .u64 r1]∧Has W n2 0 [.int .u64 r2]∧Has W n3 0 [.int .u64 r3]) ⟨(C.setCell _ (fun _=>⟨rfl,by omega,by omega⟩)).drew,(H.set 1 rfl _).drew,(E0.off _ (fun e=>by omega)).drew,(E1.off _ (fun e=>by omega)).drew,(E2.off _ (fun e=>by omega)).drew,(E3.off _ (fun e=>by omega)).drew⟩ ?_
 clear C H E0 E1 E2 E3 g e0 e1 e2 e3 f0 f1 f2 f3
 rintro W ⟨C,H,E0,E1,E2,E3⟩
 refine act_gen (Fr 734 [(0,Ptr bv ov),(162,Ptr n0 0),(163,Ptr n1 0),(164,Ptr n2 0),(165,Ptr n3 0)] []) (by refine ⟨hd (by simp [hT.out]),?_⟩;simp [Fx,Fu, *]) ?_
 clear hT t0 t162 t163 t164 t165 s722 s723 s724 s725
 rintro T ⟨hT,⟨t0,t162,t163,t164,t165,-⟩,-⟩
 obtain ⟨s726,s727,s728,s729,-⟩:=sz hT [726,727,728,729] rfl
 obtain ⟨⟨e0,e1,e2,e3⟩,f0,f1,f2,f3⟩:=H.four
 have g:=(E2 0 (by simp)).1
 simp at g
 skip
 go_still_tail 4,(by kernel_rfl)
 go_wp2_with fail
 refine wp_gen (fun W=>Chg (Rg bv ov 4) w W∧Has W bv ov [.int .u64 r0,.int .u64 r1,.int .u64 r2,v3]∧Has W n0 0 [.int .u64 r0]∧Has W n1 0 [.int .u64 r1]∧Has W n2 0 [.int .u64 r2]∧Has W n3 0 [.int .u64 r3]) ⟨(C.setCell _ (fun _=>⟨rfl,by omega,by omega⟩)).drew,(H.set 2 rfl _).drew,(E0.off _ (fun e=>by omega)).drew,(E1.off _ (fun e=>by omega)).drew,(E2.off _ (fun e=>by omega)).drew,(E3.off _ (fun e=>by omega)).drew⟩ ?_
 clear C H E0 E1 E2 E3 g e0 e1 e2 e3 f0 f1 f2 f3
 rintro W ⟨C,H,E0,E1,E2,E3⟩
 refine act_gen (Fr 734 [(0,Ptr bv ov),(162,Ptr n0 0),(163,Ptr n1 0),(164,Ptr n2 0),(165,Ptr n3 0)] []) (by refine ⟨hd (by simp [hT.out]),?_⟩;simp [Fx,Fu, *]) ?_
 clear hT t0 t162 t163 t164 t165 s726 s727 s728 s729
 rintro T ⟨hT,⟨t0,t162,t163,t164,t165,-⟩,-⟩
 obtain ⟨s730,s731,s732,s733,-⟩:=sz hT [730,731,732,733] rfl
 obtain ⟨⟨e0,e1,e2,e3⟩,f0,f1,f2,f3⟩:=H.four
 have g:=(E3 0 (by simp)).1
 simp at g
 skip
 go_still_tail 4,(by kernel_rfl)
 go_wp2_with fail
 go_end0
 obtain ⟨hb,em,o0,o1,o2,o3⟩:=hO.out
 refine ⟨rfl,?_,m,hk,hb,r0,r1,r2,r3,em,⟨o0,o1,o2,o3⟩,?_⟩
 ·first | exact (C.setCell (b:=bv) (o:=ov + 3) _ (fun _=>⟨rfl,by omega,by omega⟩)).drew | exact C.setCell (b:=bv) (o:=ov + 3) _ (fun _=>⟨rfl,by omega,by omega⟩)
 ·exact H.set 3 rfl _
end Go.Proofs.Ed
