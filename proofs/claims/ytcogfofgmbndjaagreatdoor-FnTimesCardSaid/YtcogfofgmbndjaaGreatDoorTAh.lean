/- A part of the proof of the tied card of FnTimes: Fs1. -/
import Derived.Test.YtcogfofgmbndjaaGreatDoorProg
import Derived.WalkKit
import Derived.WalkSpells
import Derived.WalkLawsBesides
import Derived.Outline
import Derived.StillTailTactics
import Derived.Test.YtcogfofgmbndjaaGreatDoorTAe
set_option maxRecDepth 100000
set_option maxHeartbeats 40000000
namespace Go.Proofs.Ed
open Go.RowKit
def Byt (x:Int):Prop:=0 ≤ x∧x < 256
def w8 (b0 b1 b2 b3 b4 b5 b6 b7:Int):Int:=b7 * 72057594037927936 + (b6 * 281474976710656 + (b5 * 1099511627776 + (b4 * 4294967296 + (b3 * 16777216 + (b2 * 65536 + (b1 * 256 + b0))))))
theorem sFrom_c {bv ov bx ox:Nat} {b0 b1 b2 b3 b4 b5 b6 b7 b8 b9 b10 b11 b12 b13 b14 b15 b16 b17 b18 b19 b20 b21 b22 b23 b24 b25 b26 b27 b28 b29 b30 b31:Int} {w:World} (z0:Byt b0) (z1:Byt b1) (z2:Byt b2) (z3:Byt b3) (z4:Byt b4) (z5:Byt b5) (z6:Byt b6) (z7:Byt b7) (z8:Byt b8) (z9:Byt b9) (z10:Byt b10) (z11:Byt b11) (z12:Byt b12) (z13:Byt b13) (z14:Byt b14) (z15:Byt b15) (z16:Byt b16) (z17:Byt b17) (z18:Byt b18) (z19:Byt b19) (z20:Byt b20) (z21:Byt b21) (z22:Byt b22) (z23:Byt b23) (z24:Byt b24) (z25:Byt b25) (z26:Byt b26) (z27:Byt b27) (z28:Byt b28) (z29:Byt b29) (z30:Byt b30) (z31:Byt b31) (RM:Room w bv ov 4) (X:Has w bx ox [.int .u8 b0,.int .u8 b1,.int .u8 b2,.int .u8 b3,.int .u8 b4,.int .u8 b5,.int .u8 b6,.int .u8 b7,.int .u8 b8,.int .u8 b9,.int .u8 b10,.int .u8 b11,.int .u8 b12,.int .u8 b13,.int .u8 b14,.int .u8 b15,.int .u8 b16,.int .u8 b17,.int .u8 b18,.int .u8 b19,.int .u8 b20,.int .u8 b21,.int .u8 b22,.int .u8 b23,.int .u8 b24,.int .u8 b25,.int .u8 b26,.int .u8 b27,.int .u8 b28,.int .u8 b29,.int .u8 b30,.int .u8 b31]) :
  Calls Tryz.prog 88 #[Ptr bv ov,Ptr bx ox] w (fun e w'=>e = .returned (.tuple #[])∧Chg (Rg bv ov 4) w w'∧Has w' bv ov [.int .u64 (w8 b0 b1 b2 b3 b4 b5 b6 b7),.int .u64 (w8 b8 b9 b10 b11 b12 b13 b14 b15),.int .u64 (w8 b16 b17 b18 b19 b20 b21 b22 b23),.int .u64 (w8 b24 b25 b26 b27 b28 b29 b30 b31)]):=by
 have c0:=(X 0 (by simp)).1
 have c1:=(X 1 (by simp)).1
 have c2:=(X 2 (by simp)).1
 have c3:=(X 3 (by simp)).1
 have c4:=(X 4 (by simp)).1
 have c5:=(X 5 (by simp)).1
 have c6:=(X 6 (by simp)).1
 have c7:=(X 7 (by simp)).1
 have c8:=(X 8 (by simp)).1
 have c9:=(X 9 (by simp)).1
 have c10:=(X 10 (by simp)).1
 have c11:=(X 11 (by simp)).1
 have c12:=(X 12 (by simp)).1
 have c13:=(X 13 (by simp)).1
 have c14:=(X 14 (by simp)).1
 have c15:=(X 15 (by simp)).1
 have c16:=(X 16 (by simp)).1
 have c17:=(X 17 (by simp)).1
 have c18:=(X 18 (by simp)).1
 have c19:=(X 19 (by simp)).1
 have c20:=(X 20 (by simp)).1
 have c21:=(X 21 (by simp)).1
 have c22:=(X 22 (by simp)).1
 have c23:=(X 23 (by simp)).1
 have c24:=(X 24 (by simp)).1
 have c25:=(X 25 (by simp)).1
 have c26:=(X 26 (by simp)).1
 have c27:=(X 27 (by simp)).1
 have c28:=(X 28 (by simp)).1
 have c29:=(X 29 (by simp)).1
 have c30:=(X 30 (by simp)).1
 have c31:=(X 31 (by simp)).1
 simp at c0 c1 c2 c3 c4 c5 c6 c7 c8 c9 c10 c11 c12 c13 c14 c15 c16 c17 c18 c19 c20 c21 c22 c23 c24 c25 c26 c27 c28 c29 c30 c31
 obtain ⟨y0,z0⟩:=z0
 obtain ⟨y1,z1⟩:=z1
 obtain ⟨y2,z2⟩:=z2
 obtain ⟨y3,z3⟩:=z3
 obtain ⟨y4,z4⟩:=z4
 obtain ⟨y5,z5⟩:=z5
 obtain ⟨y6,z6⟩:=z6
 obtain ⟨y7,z7⟩:=z7
 obtain ⟨y8,z8⟩:=z8
 obtain ⟨y9,z9⟩:=z9
 obtain ⟨y10,z10⟩:=z10
 obtain ⟨y11,z11⟩:=z11
 obtain ⟨y12,z12⟩:=z12
 obtain ⟨y13,z13⟩:=z13
 obtain ⟨y14,z14⟩:=z14
 obtain ⟨y15,z15⟩:=z15
 obtain ⟨y16,z16⟩:=z16
 obtain ⟨y17,z17⟩:=z17
 obtain ⟨y18,z18⟩:=z18
 obtain ⟨y19,z19⟩:=z19
 obtain ⟨y20,z20⟩:=z20
 obtain ⟨y21,z21⟩:=z21
 obtain ⟨y22,z22⟩:=z22
 obtain ⟨y23,z23⟩:=z23
 obtain ⟨y24,z24⟩:=z24
 obtain ⟨y25,z25⟩:=z25
 obtain ⟨y26,z26⟩:=z26
 obtain ⟨y27,z27⟩:=z27
 obtain ⟨y28,z28⟩:=z28
 obtain ⟨y29,z29⟩:=z29
 obtain ⟨y30,z30⟩:=z30
 obtain ⟨y31,z31⟩:=z31
 clear X
 obtain ⟨v0,v1,v2,v3,H⟩:=RM.four
 obtain ⟨⟨e0,e1,e2,e3⟩,f0,f1,f2,f3⟩:=H.four
 go_enter Tryz.func88,Tryz.ntmps88
 repeat ((fail_if_success with_reducible show wpList _ _ _ (⟨some 76,_,_,_,_,_⟩ :: _) _ _);(first | go_values | go_skip | go_guarded | go_step | go_upon | dsimp only))
 refine oG (Fr 352 [(0,Ptr bv ov),(1,Ptr bx ox)] [(4,(b31 * 72057594037927936)),(5,(b30 * 281474976710656))]) (by refine ⟨hd rfl,?_⟩;simp only [Fx,Fu];and_intros<;>first | rfl | trivial) ?_
 rintro T ⟨hT,⟨t0,t1,-⟩,t4,t5,-⟩
 obtain ⟨s76,s77,s78,s79,s80,s81,s6,s82,s83,s84,s85,s86,s87,s7,-⟩:=sz hT [76,77,78,79,80,81,6,82,83,84,85,86,87,7] rfl
 repeat ((fail_if_success with_reducible show wpList _ _ _ (⟨some 88,_,_,_,_,_⟩ :: _) _ _);(first | go_values | go_skip | go_guarded | go_step | go_upon | dsimp only))
 refine oG (Fr 352 [(0,Ptr bv ov),(1,Ptr bx ox)] [(4,(b31 * 72057594037927936)),(5,(b30 * 281474976710656)),(6,(b29 * 1099511627776)),(7,(b28 * 4294967296))]) (by refine ⟨hd (by simp [hT.out]),?_⟩;simp [Fx,Fu, *]<;>omega) ?_
 clear hT t0 t1 t4 t5 s76 s77 s78 s79 s80 s81 s6 s82 s83 s84 s85 s86 s87 s7
 rintro T ⟨hT,⟨t0,t1,-⟩,t4,t5,t6,t7,-⟩
 obtain ⟨s88,s89,s90,s91,s92,s93,s8,s94,s95,s96,s97,s98,s99,s9,-⟩:=sz hT [88,89,90,91,92,93,8,94,95,96,97,98,99,9] rfl
 repeat ((fail_if_success with_reducible show wpList _ _ _ (⟨some 100,_,_,_,_,_⟩ :: _) _ _);(first | go_values | go_skip | go_guarded | go_step | go_upon | dsimp only))
 refine oG (Fr 352 [(0,Ptr bv ov),(1,Ptr bx ox)] [(4,(b31 * 72057594037927936)),(5,(b30 * 281474976710656)),(6,(b29 * 1099511627776)),(7,(b28 * 4294967296)),(8,(b27 * 16777216)),(9,(b26 * 65536))]) (by refine ⟨hd (by simp [hT.out]),?_⟩;simp [Fx,Fu, *]<;>omega) ?_
 clear hT t0 t1 t4 t5 t6 t7 s88 s89 s90 s91 s92 s93 s8 s94 s95 s96 s97 s98 s99 s9
 rintro T ⟨hT,⟨t0,t1,-⟩,t4,t5,t6,t7,t8,t9,-⟩
 obtain ⟨s100,s101,s102,s103,s104,s105,s10,s106,s107,s108,s109,s11,-⟩:=sz hT [100,101,102,103,104,105,10,106,107,108,109,11] rfl
 repeat ((fail_if_success with_reducible show wpList _ _ _ (⟨some 110,_,_,_,_,_⟩ :: _) _ _);(first | go_values | go_skip | go_guarded | go_step | go_upon | dsimp only))
 refine oG (Fr 352 [(0,Ptr bv ov),(1,Ptr bx ox),(11,.int .u8 b24)] [(4,(b31 * 72057594037927936)),(5,(b30 * 281474976710656)),(6,(b29 * 1099511627776)),(7,(b28 * 4294967296)),(8,(b27 * 16777216)),(9,(b26 * 65536)),(10,(b25 * 256))]) (by refine ⟨hd (by simp [hT.out]),?_⟩;simp [Fx,Fu, *]<;>omega) ?_
 clear hT t0 t1 t4 t5 t6 t7 t8 t9 s100 s101 s102 s103 s104 s105 s10 s106 s107 s108 s109 s11
 rintro T ⟨hT,⟨t0,t1,t11,-⟩,t4,t5,t6,t7,t8,t9,t10,-⟩
 obtain ⟨s110,s111,s112,s113,s114,s115,s12,s116,s117,s118,s119,s120,s121,s13,-⟩:=sz hT [110,111,112,113,114,115,12,116,117,118,119,120,121,13] rfl
 repeat ((fail_if_success with_reducible show wpList _ _ _ (⟨some 122,_,_,_,_,_⟩ :: _) _ _);(first | go_values | go_skip | go_guarded | go_step | go_upon | dsimp only))
 refine oG (Fr 352 [(0,Ptr bv ov),(1,Ptr bx ox),(11,.int .u8 b24)] [(4,(b31 * 72057594037927936)),(5,(b30 * 281474976710656)),(6,(b29 * 1099511627776)),(7,(b28 * 4294967296)),(8,(b27 * 16777216)),(9,(b26 * 65536)),(10,(b25 * 256)),(12,(b23 * 72057594037927936)),(13,(b22 * 281474976710656))]) (by refine ⟨hd (by simp [hT.out]),?_⟩;simp [Fx,Fu, *]<;>omega) ?_
 clear hT t0 t1 t11 t4 t5 t6 t7 t8 t9 t10 s110 s111 s112 s113 s114 s115 s12 s116 s117 s118 s119 s120 s121 s13
 rintro T ⟨hT,⟨t0,t1,t11,-⟩,t4,t5,t6,t7,t8,t9,t10,t12,t13,-⟩
 obtain ⟨s122,s123,s124,s125,s126,s127,s14,s128,s129,s130,s131,s132,s133,s15,-⟩:=sz hT [122,123,124,125,126,127,14,128,129,130,131,132,133,15] rfl
 repeat ((fail_if_success with_reducible show wpList _ _ _ (⟨some 134,_,_,_,_,_⟩ :: _) _ _);(first | go_values | go_skip | go_guarded | go_step | go_upon | dsimp only))
 refine oG (Fr 352 [(0,Ptr bv ov),(1,Ptr bx ox),(11,.int .u8 b24)] [(4,(b31 * 72057594037927936)),(5,(b30 * 281474976710656)),(6,(b29 * 1099511627776)),(7,(b28 * 4294967296)),(8,(b27 * 16777216)),(9,(b26 * 65536)),(10,(b25 * 256)),(12,(b23 * 72057594037927936)),(13,(b22 * 281474976710656)),(14,(b21 * 1099511627776)),(15,(b20 * 4294967296))]) (by refine ⟨hd (by simp [hT.out]),?_⟩;simp [Fx,Fu, *]<;>omega) ?_
 clear hT t0 t1 t11 t4 t5 t6 t7 t8 t9 t10 t12 t13 s122 s123 s124 s125 s126 s127 s14 s128 s129 s130 s131 s132 s133 s15
 rintro T ⟨hT,⟨t0,t1,t11,-⟩,t4,t5,t6,t7,t8,t9,t10,t12,t13,t14,t15,-⟩
 obtain ⟨s134,s135,s136,s137,s138,s139,s16,s140,s141,s142,s143,s144,s145,s17,-⟩:=sz hT [134,135,136,137,138,139,16,140,141,142,143,144,145,17] rfl
 repeat ((fail_if_success with_reducible show wpList _ _ _ (⟨some 146,_,_,_,_,_⟩ :: _) _ _);(first | go_values | go_skip | go_guarded | go_step | go_upon | dsimp only))
 refine oG (Fr 352 [(0,Ptr bv ov),(1,Ptr bx ox),(11,.int .u8 b24)] [(4,(b31 * 72057594037927936)),(5,(b30 * 281474976710656)),(6,(b29 * 1099511627776)),(7,(b28 * 4294967296)),(8,(b27 * 16777216)),(9,(b26 * 65536)),(10,(b25 * 256)),(12,(b23 * 72057594037927936)),(13,(b22 * 281474976710656)),(14,(b21 * 1099511627776)),(15,(b20 * 4294967296)),(16,(b19 * 16777216)),(17,(b18 * 65536))]) (by refine ⟨hd (by simp [hT.out]),?_⟩;simp [Fx,Fu, *]<;>omega) ?_
 clear hT t0 t1 t11 t4 t5 t6 t7 t8 t9 t10 t12 t13 t14 t15 s134 s135 s136 s137 s138 s139 s16 s140 s141 s142 s143 s144 s145 s17
 rintro T ⟨hT,⟨t0,t1,t11,-⟩,t4,t5,t6,t7,t8,t9,t10,t12,t13,t14,t15,t16,t17,-⟩
 obtain ⟨s146,s147,s148,s149,s150,s151,s18,s152,s153,s154,s155,s19,-⟩:=sz hT [146,147,148,149,150,151,18,152,153,154,155,19] rfl
 repeat ((fail_if_success with_reducible show wpList _ _ _ (⟨some 156,_,_,_,_,_⟩ :: _) _ _);(first | go_values | go_skip | go_guarded | go_step | go_upon | dsimp only))
 refine oG (Fr 352 [(0,Ptr bv ov),(1,Ptr bx ox),(11,.int .u8 b24),(19,.int .u8 b16)] [(4,(b31 * 72057594037927936)),(5,(b30 * 281474976710656)),(6,(b29 * 1099511627776)),(7,(b28 * 4294967296)),(8,(b27 * 16777216)),(9,(b26 * 65536)),(10,(b25 * 256)),(12,(b23 * 72057594037927936)),(13,(b22 * 281474976710656)),(14,(b21 * 1099511627776)),(15,(b20 * 4294967296)),(16,(b19 * 16777216)),(17,(b18 * 65536)),(18,(b17 * 256))]) (by refine ⟨hd (by simp [hT.out]),?_⟩;simp [Fx,Fu, *]<;>omega) ?_
 clear hT t0 t1 t11 t4 t5 t6 t7 t8 t9 t10 t12 t13 t14 t15 t16 t17 s146 s147 s148 s149 s150 s151 s18 s152 s153 s154 s155 s19
 rintro T ⟨hT,⟨t0,t1,t11,t19,-⟩,t4,t5,t6,t7,t8,t9,t10,t12,t13,t14,t15,t16,t17,t18,-⟩
 obtain ⟨s156,s157,s158,s159,s160,s161,s20,s162,s163,s164,s165,s166,s167,s21,-⟩:=sz hT [156,157,158,159,160,161,20,162,163,164,165,166,167,21] rfl
 repeat ((fail_if_success with_reducible show wpList _ _ _ (⟨some 168,_,_,_,_,_⟩ :: _) _ _);(first | go_values | go_skip | go_guarded | go_step | go_upon | dsimp only))
 refine oG (Fr 352 [(0,Ptr bv ov),(1,Ptr bx ox),(11,.int .u8 b24),(19,.int .u8 b16)] [(4,(b31 * 72057594037927936)),(5,(b30 * 281474976710656)),(6,(b29 * 1099511627776)),(7,(b28 * 4294967296)),(8,(b27 * 16777216)),(9,(b26 * 65536)),(10,(b25 * 256)),(12,(b23 * 72057594037927936)),(13,(b22 * 281474976710656)),(14,(b21 * 1099511627776)),(15,(b20 * 4294967296)),(16,(b19 * 16777216)),(17,(b18 * 65536)),(18,(b17 * 256)),(20,(b15 * 72057594037927936)),(21,(b14 * 281474976710656))]) (by refine ⟨hd (by simp [hT.out]),?_⟩;simp [Fx,Fu, *]<;>omega) ?_
 clear hT t0 t1 t11 t19 t4 t5 t6 t7 t8 t9 t10 t12 t13 t14 t15 t16 t17 t18 s156 s157 s158 s159 s160 s161 s20 s162 s163 s164 s165 s166 s167 s21
 rintro T ⟨hT,⟨t0,t1,t11,t19,-⟩,t4,t5,t6,t7,t8,t9,t10,t12,t13,t14,t15,t16,t17,t18,t20,t21,-⟩
 obtain ⟨s168,s169,s170,s171,s172,s173,s22,s174,s175,s176,s177,s178,s179,s23,-⟩:=sz hT [168,169,170,171,172,173,22,174,175,176,177,178,179,23] rfl
 repeat ((fail_if_success with_reducible show wpList _ _ _ (⟨some 180,_,_,_,_,_⟩ :: _) _ _);(first | go_values | go_skip | go_guarded | go_step | go_upon | dsimp only))
 refine oG (Fr 352 [(0,Ptr bv ov),(1,Ptr bx ox),(11,.int .u8 b24),(19,.int .u8 b16)] [(4,(b31 * 72057594037927936)),(5,(b30 * 281474976710656)),(6,(b29 * 1099511627776)),(7,(b28 * 4294967296)),(8,(b27 * 16777216)),(9,(b26 * 65536)),(10,(b25 * 256)),(12,(b23 * 72057594037927936)),(13,(b22 * 281474976710656)),(14,(b21 * 1099511627776)),(15,(b20 * 4294967296)),(16,(b19 * 16777216)),(17,(b18 * 65536)),(18,(b17 * 256)),(20,(b15 * 72057594037927936)),(21,(b14 * 281474976710656)),(22,(b13 * 1099511627776)),(23,(b12 * 4294967296))]) (by refine ⟨hd (by simp [hT.out]),?_⟩;simp [Fx,Fu, *]<;>omega) ?_
 clear hT t0 t1 t11 t19 t4 t5 t6 t7 t8 t9 t10 t12 t13 t14 t15 t16 t17 t18 t20 t21 s168 s169 s170 s171 s172 s173 s22 s174 s175 s176 s177 s178 s179 s23
 rintro T ⟨hT,⟨t0,t1,t11,t19,-⟩,t4,t5,t6,t7,t8,t9,t10,t12,t13,t14,t15,t16,t17,t18,t20,t21,t22,t23,-⟩
 obtain ⟨s180,s181,s182,s183,s184,s185,s24,s186,s187,s188,s189,s190,s191,s25,-⟩:=sz hT [180,181,182,183,184,185,24,186,187,188,189,190,191,25] rfl
 repeat ((fail_if_success with_reducible show wpList _ _ _ (⟨some 192,_,_,_,_,_⟩ :: _) _ _);(first | go_values | go_skip | go_guarded | go_step | go_upon | dsimp only))
 refine oG (Fr 352 [(0,Ptr bv ov),(1,Ptr bx ox),(11,.int .u8 b24),(19,.int .u8 b16)] [(4,(b31 * 72057594037927936)),(5,(b30 * 281474976710656)),(6,(b29 * 1099511627776)),(7,(b28 * 4294967296)),(8,(b27 * 16777216)),(9,(b26 * 65536)),(10,(b25 * 256)),(12,(b23 * 72057594037927936)),(13,(b22 * 281474976710656)),(14,(b21 * 1099511627776)),(15,(b20 * 4294967296)),(16,(b19 * 16777216)),(17,(b18 * 65536)),(18,(b17 * 256)),(20,(b15 * 72057594037927936)),(21,(b14 * 281474976710656)),(22,(b13 * 1099511627776)),(23,(b12 * 4294967296)),(24,(b11 * 16777216)),(25,(b10 * 65536))]) (by refine ⟨hd (by simp [hT.out]),?_⟩;simp [Fx,Fu, *]<;>omega) ?_
 clear hT t0 t1 t11 t19 t4 t5 t6 t7 t8 t9 t10 t12 t13 t14 t15 t16 t17 t18 t20 t21 t22 t23 s180 s181 s182 s183 s184 s185 s24 s186 s187 s188 s189 s190 s191 s25
 rintro T ⟨hT,⟨t0,t1,t11,t19,-⟩,t4,t5,t6,t7,t8,t9,t10,t12,t13,t14,t15,t16,t17,t18,t20,t21,t22,t23,t24,t25,-⟩
 obtain ⟨s192,s193,s194,s195,s196,s197,s26,s198,s199,s200,s201,s27,-⟩:=sz hT [192,193,194,195,196,197,26,198,199,200,201,27] rfl
 repeat ((fail_if_success with_reducible show wpList _ _ _ (⟨some 202,_,_,_,_,_⟩ :: _) _ _);(first | go_values | go_skip | go_guarded | go_step | go_upon | dsimp only))
 refine oG (Fr 352 [(0,Ptr bv ov),(1,Ptr bx ox),(11,.int .u8 b24),(19,.int .u8 b16),(27,.int .u8 b8)] [(4,(b31 * 72057594037927936)),(5,(b30 * 281474976710656)),(6,(b29 * 1099511627776)),(7,(b28 * 4294967296)),(8,(b27 * 16777216)),(9,(b26 * 65536)),(10,(b25 * 256)),(12,(b23 * 72057594037927936)),(13,(b22 * 281474976710656)),(14,(b21 * 1099511627776)),(15,(b20 * 4294967296)),(16,(b19 * 16777216)),(17,(b18 * 65536)),(18,(b17 * 256)),(20,(b15 * 72057594037927936)),(21,(b14 * 281474976710656)),(22,(b13 * 1099511627776)),(23,(b12 * 4294967296)),(24,(b11 * 16777216)),(25,(b10 * 65536)),(26,(b9 * 256))]) (by refine ⟨hd (by simp [hT.out]),?_⟩;simp [Fx,Fu, *]<;>omega) ?_
 clear hT t0 t1 t11 t19 t4 t5 t6 t7 t8 t9 t10 t12 t13 t14 t15 t16 t17 t18 t20 t21 t22 t23 t24 t25 s192 s193 s194 s195 s196 s197 s26 s198 s199 s200 s201 s27
 rintro T ⟨hT,⟨t0,t1,t11,t19,t27,-⟩,t4,t5,t6,t7,t8,t9,t10,t12,t13,t14,t15,t16,t17,t18,t20,t21,t22,t23,t24,t25,t26,-⟩
 obtain ⟨s202,s203,s204,s205,s206,s207,s28,s208,s209,s210,s211,s212,s213,s29,-⟩:=sz hT [202,203,204,205,206,207,28,208,209,210,211,212,213,29] rfl
 repeat ((fail_if_success with_reducible show wpList _ _ _ (⟨some 214,_,_,_,_,_⟩ :: _) _ _);(first | go_values | go_skip | go_guarded | go_step | go_upon | dsimp only))
 refine oG (Fr 352 [(0,Ptr bv ov),(1,Ptr bx ox),(11,.int .u8 b24),(19,.int .u8 b16),(27,.int .u8 b8)] [(4,(b31 * 72057594037927936)),(5,(b30 * 281474976710656)),(6,(b29 * 1099511627776)),(7,(b28 * 4294967296)),(8,(b27 * 16777216)),(9,(b26 * 65536)),(10,(b25 * 256)),(12,(b23 * 72057594037927936)),(13,(b22 * 281474976710656)),(14,(b21 * 1099511627776)),(15,(b20 * 4294967296)),(16,(b19 * 16777216)),(17,(b18 * 65536)),(18,(b17 * 256)),(20,(b15 * 72057594037927936)),(21,(b14 * 281474976710656)),(22,(b13 * 1099511627776)),(23,(b12 * 4294967296)),(24,(b11 * 16777216)),(25,(b10 * 65536)),(26,(b9 * 256)),(28,(b7 * 72057594037927936)),(29,(b6 * 281474976710656))]) (by refine ⟨hd (by simp [hT.out]),?_⟩;simp [Fx,Fu, *]<;>omega) ?_
 clear hT t0 t1 t11 t19 t27 t4 t5 t6 t7 t8 t9 t10 t12 t13 t14 t15 t16 t17 t18 t20 t21 t22 t23 t24 t25 t26 s202 s203 s204 s205 s206 s207 s28 s208 s209 s210 s211 s212 s213 s29
 rintro T ⟨hT,⟨t0,t1,t11,t19,t27,-⟩,t4,t5,t6,t7,t8,t9,t10,t12,t13,t14,t15,t16,t17,t18,t20,t21,t22,t23,t24,t25,t26,t28,t29,-⟩
 obtain ⟨s214,s215,s216,s217,s218,s219,s30,s220,s221,s222,s223,s224,s225,s31,-⟩:=sz hT [214,215,216,217,218,219,30,220,221,222,223,224,225,31] rfl
 repeat ((fail_if_success with_reducible show wpList _ _ _ (⟨some 226,_,_,_,_,_⟩ :: _) _ _);(first | go_values | go_skip | go_guarded | go_step | go_upon | dsimp only))
 refine oG (Fr 352 [(0,Ptr bv ov),(1,Ptr bx ox),(11,.int .u8 b24),(19,.int .u8 b16),(27,.int .u8 b8)] [(4,(b31 * 72057594037927936)),(5,(b30 * 281474976710656)),(6,(b29 * 1099511627776)),(7,(b28 * 4294967296)),(8,(b27 * 16777216)),(9,(b26 * 65536)),(10,(b25 * 256)),(12,(b23 * 72057594037927936)),(13,(b22 * 281474976710656)),(14,(b21 * 1099511627776)),(15,(b20 * 4294967296)),(16,(b19 * 16777216)),(17,(b18 * 65536)),(18,(b17 * 256)),(20,(b15 * 72057594037927936)),(21,(b14 * 281474976710656)),(22,(b13 * 1099511627776)),(23,(b12 * 4294967296)),(24,(b11 * 16777216)),(25,(b10 * 65536)),(26,(b9 * 256)),(28,(b7 * 72057594037927936)),(29,(b6 * 281474976710656)),(30,(b5 * 1099511627776)),(31,(b4 * 4294967296))]) (by refine ⟨hd (by simp [hT.out]),?_⟩;simp [Fx,Fu, *]<;>omega) ?_
 clear hT t0 t1 t11 t19 t27 t4 t5 t6 t7 t8 t9 t10 t12 t13 t14 t15 t16 t17 t18 t20 t21 t22 t23 t24 t25 t26 t28 t29 s214 s215 s216 s217 s218 s219 s30 s220 s221 s222 s223 s224 s225 s31
 rintro T ⟨hT,⟨t0,t1,t11,t19,t27,-⟩,t4,t5,t6,t7,t8,t9,t10,t12,t13,t14,t15,t16,t17,t18,t20,t21,t22,t23,t24,t25,t26,t28,t29,t30,t31,-⟩
 obtain ⟨s226,s227,s228,s229,s230,s231,s32,s232,s233,s234,s235,s236,s237,s33,-⟩:=sz hT [226,227,228,229,230,231,32,232,233,234,235,236,237,33] rfl
 repeat ((fail_if_success with_reducible show wpList _ _ _ (⟨some 238,_,_,_,_,_⟩ :: _) _ _);(first | go_values | go_skip | go_guarded | go_step | go_upon | dsimp only))
 refine oG (Fr 352 [(0,Ptr bv ov),(1,Ptr bx ox),(11,.int .u8 b24),(19,.int .u8 b16),(27,.int .u8 b8)] [(4,(b31 * 72057594037927936)),(5,(b30 * 281474976710656)),(6,(b29 * 1099511627776)),(7,(b28 * 4294967296)),(8,(b27 * 16777216)),(9,(b26 * 65536)),(10,(b25 * 256)),(12,(b23 * 72057594037927936)),(13,(b22 * 281474976710656)),(14,(b21 * 1099511627776)),(15,(b20 * 4294967296)),(16,(b19 * 16777216)),(17,(b18 * 65536)),(18,(b17 * 256)),(20,(b15 * 72057594037927936)),(21,(b14 * 281474976710656)),(22,(b13 * 1099511627776)),(23,(b12 * 4294967296)),(24,(b11 * 16777216)),(25,(b10 * 65536)),(26,(b9 * 256)),(28,(b7 * 72057594037927936)),(29,(b6 * 281474976710656)),(30,(b5 * 1099511627776)),(31,(b4 * 4294967296)),(32,(b3 * 16777216)),(33,(b2 * 65536))]) (by refine ⟨hd (by simp [hT.out]),?_⟩;simp [Fx,Fu, *]<;>omega) ?_
 clear hT t0 t1 t11 t19 t27 t4 t5 t6 t7 t8 t9 t10 t12 t13 t14 t15 t16 t17 t18 t20 t21 t22 t23 t24 t25 t26 t28 t29 t30 t31 s226 s227 s228 s229 s230 s231 s32 s232 s233 s234 s235 s236 s237 s33
 rintro T ⟨hT,⟨t0,t1,t11,t19,t27,-⟩,t4,t5,t6,t7,t8,t9,t10,t12,t13,t14,t15,t16,t17,t18,t20,t21,t22,t23,t24,t25,t26,t28,t29,t30,t31,t32,t33,-⟩
 obtain ⟨s238,s239,s240,s241,s242,s243,s34,s244,s245,s246,s247,s35,-⟩:=sz hT [238,239,240,241,242,243,34,244,245,246,247,35] rfl
 repeat ((fail_if_success with_reducible show wpList _ _ _ (⟨some 248,_,_,_,_,_⟩ :: _) _ _);(first | go_values | go_skip | go_guarded | go_step | go_upon | dsimp only))
 refine oG (Fr 352 [(0,Ptr bv ov),(11,.int .u8 b24),(19,.int .u8 b16),(27,.int .u8 b8),(35,.int .u8 b0)] [(4,(b31 * 72057594037927936)),(5,(b30 * 281474976710656)),(6,(b29 * 1099511627776)),(7,(b28 * 4294967296)),(8,(b27 * 16777216)),(9,(b26 * 65536)),(10,(b25 * 256)),(12,(b23 * 72057594037927936)),(13,(b22 * 281474976710656)),(14,(b21 * 1099511627776)),(15,(b20 * 4294967296)),(16,(b19 * 16777216)),(17,(b18 * 65536)),(18,(b17 * 256)),(20,(b15 * 72057594037927936)),(21,(b14 * 281474976710656)),(22,(b13 * 1099511627776)),(23,(b12 * 4294967296)),(24,(b11 * 16777216)),(25,(b10 * 65536)),(26,(b9 * 256)),(28,(b7 * 72057594037927936)),(29,(b6 * 281474976710656)),(30,(b5 * 1099511627776)),(31,(b4 * 4294967296)),(32,(b3 * 16777216)),(33,(b2 * 65536)),(34,(b1 * 256))]) (by refine ⟨hd (by simp [hT.out]),?_⟩;simp [Fx,Fu, *]<;>omega) ?_
 clear hT t0 t1 t11 t19 t27 t4 t5 t6 t7 t8 t9 t10 t12 t13 t14 t15 t16 t17 t18 t20 t21 t22 t23 t24 t25 t26 t28 t29 t30 t31 t32 t33 s238 s239 s240 s241 s242 s243 s34 s244 s245 s246 s247 s35
 rintro T ⟨hT,⟨t0,t11,t19,t27,t35,-⟩,t4,t5,t6,t7,t8,t9,t10,t12,t13,t14,t15,t16,t17,t18,t20,t21,t22,t23,t24,t25,t26,t28,t29,t30,t31,t32,t33,t34,-⟩
 obtain ⟨s248,s249,s250,s251,s36,s252,s253,s254,s37,s255,s256,s257,s38,-⟩:=sz hT [248,249,250,251,36,252,253,254,37,255,256,257,38] rfl
 repeat ((fail_if_success with_reducible show wpList _ _ _ (⟨some 258,_,_,_,_,_⟩ :: _) _ _);(first | go_values | go_skip | go_guarded | go_step | go_upon | dsimp only))
 refine oG (Fr 352 [(0,Ptr bv ov),(11,.int .u8 b24),(19,.int .u8 b16),(27,.int .u8 b8)] [(4,(b31 * 72057594037927936)),(5,(b30 * 281474976710656)),(6,(b29 * 1099511627776)),(7,(b28 * 4294967296)),(8,(b27 * 16777216)),(9,(b26 * 65536)),(10,(b25 * 256)),(12,(b23 * 72057594037927936)),(13,(b22 * 281474976710656)),(14,(b21 * 1099511627776)),(15,(b20 * 4294967296)),(16,(b19 * 16777216)),(17,(b18 * 65536)),(18,(b17 * 256)),(20,(b15 * 72057594037927936)),(21,(b14 * 281474976710656)),(22,(b13 * 1099511627776)),(23,(b12 * 4294967296)),(24,(b11 * 16777216)),(25,(b10 * 65536)),(26,(b9 * 256)),(28,(b7 * 72057594037927936)),(29,(b6 * 281474976710656)),(30,(b5 * 1099511627776)),(31,(b4 * 4294967296)),(38,(b3 * 16777216 + (b2 * 65536 + (b1 * 256 + b0))))]) (by refine ⟨hd (by simp [hT.out]),?_⟩;simp [Fx,Fu, *]<;>omega) ?_
 clear hT t0 t11 t19 t27 t35 t4 t5 t6 t7 t8 t9 t10 t12 t13 t14 t15 t16 t17 t18 t20 t21 t22 t23 t24 t25 t26 t28 t29 t30 t31 t32 t33 t34 s248 s249 s250 s251 s36 s252 s253 s254 s37 s255 s256 s257 s38
 rintro T ⟨hT,⟨t0,t11,t19,t27,-⟩,t4,t5,t6,t7,t8,t9,t10,t12,t13,t14,t15,t16,t17,t18,t20,t21,t22,t23,t24,t25,t26,t28,t29,t30,t31,t38,-⟩
 obtain ⟨s258,s259,s260,s39,s261,s262,s263,s40,s264,s265,s266,s41,-⟩:=sz hT [258,259,260,39,261,262,263,40,264,265,266,41] rfl
 repeat ((fail_if_success with_reducible show wpList _ _ _ (⟨some 267,_,_,_,_,_⟩ :: _) _ _);(first | go_values | go_skip | go_guarded | go_step | go_upon | dsimp only))
 refine oG (Fr 352 [(0,Ptr bv ov),(11,.int .u8 b24),(19,.int .u8 b16),(27,.int .u8 b8)] [(4,(b31 * 72057594037927936)),(5,(b30 * 281474976710656)),(6,(b29 * 1099511627776)),(7,(b28 * 4294967296)),(8,(b27 * 16777216)),(9,(b26 * 65536)),(10,(b25 * 256)),(12,(b23 * 72057594037927936)),(13,(b22 * 281474976710656)),(14,(b21 * 1099511627776)),(15,(b20 * 4294967296)),(16,(b19 * 16777216)),(17,(b18 * 65536)),(18,(b17 * 256)),(20,(b15 * 72057594037927936)),(21,(b14 * 281474976710656)),(22,(b13 * 1099511627776)),(23,(b12 * 4294967296)),(24,(b11 * 16777216)),(25,(b10 * 65536)),(26,(b9 * 256)),(28,(b7 * 72057594037927936)),(41,(b6 * 281474976710656 + (b5 * 1099511627776 + (b4 * 4294967296 + (b3 * 16777216 + (b2 * 65536 + (b1 * 256 + b0)))))))]) (by refine ⟨hd (by simp [hT.out]),?_⟩;simp [Fx,Fu, *]<;>omega) ?_
 clear hT t0 t11 t19 t27 t4 t5 t6 t7 t8 t9 t10 t12 t13 t14 t15 t16 t17 t18 t20 t21 t22 t23 t24 t25 t26 t28 t29 t30 t31 t38 s258 s259 s260 s39 s261 s262 s263 s40 s264 s265 s266 s41
 rintro T ⟨hT,⟨t0,t11,t19,t27,-⟩,t4,t5,t6,t7,t8,t9,t10,t12,t13,t14,t15,t16,t17,t18,t20,t21,t22,t23,t24,t25,t26,t28,t41,-⟩
 obtain ⟨s267,s268,s269,s42,s270,s271,s272,s273,s43,s274,s275,s276,s44,-⟩:=sz hT [267,268,269,42,270,271,272,273,43,274,275,276,44] rfl
 repeat ((fail_if_success with_reducible show wpList _ _ _ (⟨some 277,_,_,_,_,_⟩ :: _) _ _);(first | go_values | go_skip | go_guarded | go_step | go_upon | dsimp only))
 refine oG (Fr 352 [(0,Ptr bv ov),(11,.int .u8 b24),(19,.int .u8 b16)] [(4,(b31 * 72057594037927936)),(5,(b30 * 281474976710656)),(6,(b29 * 1099511627776)),(7,(b28 * 4294967296)),(8,(b27 * 16777216)),(9,(b26 * 65536)),(10,(b25 * 256)),(12,(b23 * 72057594037927936)),(13,(b22 * 281474976710656)),(14,(b21 * 1099511627776)),(15,(b20 * 4294967296)),(16,(b19 * 16777216)),(17,(b18 * 65536)),(18,(b17 * 256)),(20,(b15 * 72057594037927936)),(21,(b14 * 281474976710656)),(22,(b13 * 1099511627776)),(23,(b12 * 4294967296)),(24,(b11 * 16777216)),(42,(b7 * 72057594037927936 + (b6 * 281474976710656 + (b5 * 1099511627776 + (b4 * 4294967296 + (b3 * 16777216 + (b2 * 65536 + (b1 * 256 + b0)))))))),(44,(b10 * 65536 + (b9 * 256 + b8)))]) (by refine ⟨hd (by simp [hT.out]),?_⟩;simp [Fx,Fu, *]<;>omega) ?_
 clear hT t0 t11 t19 t27 t4 t5 t6 t7 t8 t9 t10 t12 t13 t14 t15 t16 t17 t18 t20 t21 t22 t23 t24 t25 t26 t28 t41 s267 s268 s269 s42 s270 s271 s272 s273 s43 s274 s275 s276 s44
 rintro T ⟨hT,⟨t0,t11,t19,-⟩,t4,t5,t6,t7,t8,t9,t10,t12,t13,t14,t15,t16,t17,t18,t20,t21,t22,t23,t24,t42,t44,-⟩
 obtain ⟨s277,s278,s279,s45,s280,s281,s282,s46,s283,s284,s285,s47,-⟩:=sz hT [277,278,279,45,280,281,282,46,283,284,285,47] rfl
 repeat ((fail_if_success with_reducible show wpList _ _ _ (⟨some 286,_,_,_,_,_⟩ :: _) _ _);(first | go_values | go_skip | go_guarded | go_step | go_upon | dsimp only))
 refine oG (Fr 352 [(0,Ptr bv ov),(11,.int .u8 b24),(19,.int .u8 b16)] [(4,(b31 * 72057594037927936)),(5,(b30 * 281474976710656)),(6,(b29 * 1099511627776)),(7,(b28 * 4294967296)),(8,(b27 * 16777216)),(9,(b26 * 65536)),(10,(b25 * 256)),(12,(b23 * 72057594037927936)),(13,(b22 * 281474976710656)),(14,(b21 * 1099511627776)),(15,(b20 * 4294967296)),(16,(b19 * 16777216)),(17,(b18 * 65536)),(18,(b17 * 256)),(20,(b15 * 72057594037927936)),(21,(b14 * 281474976710656)),(42,(b7 * 72057594037927936 + (b6 * 281474976710656 + (b5 * 1099511627776 + (b4 * 4294967296 + (b3 * 16777216 + (b2 * 65536 + (b1 * 256 + b0)))))))),(47,(b13 * 1099511627776 + (b12 * 4294967296 + (b11 * 16777216 + (b10 * 65536 + (b9 * 256 + b8))))))]) (by refine ⟨hd (by simp [hT.out]),?_⟩;simp [Fx,Fu, *]<;>omega) ?_
 clear hT t0 t11 t19 t4 t5 t6 t7 t8 t9 t10 t12 t13 t14 t15 t16 t17 t18 t20 t21 t22 t23 t24 t42 t44 s277 s278 s279 s45 s280 s281 s282 s46 s283 s284 s285 s47
 rintro T ⟨hT,⟨t0,t11,t19,-⟩,t4,t5,t6,t7,t8,t9,t10,t12,t13,t14,t15,t16,t17,t18,t20,t21,t42,t47,-⟩
 obtain ⟨s286,s287,s288,s48,s289,s290,s291,s49,s292,s293,s294,s295,s50,-⟩:=sz hT [286,287,288,48,289,290,291,49,292,293,294,295,50] rfl
 repeat ((fail_if_success with_reducible show wpList _ _ _ (⟨some 296,_,_,_,_,_⟩ :: _) _ _);(first | go_values | go_skip | go_guarded | go_step | go_upon | dsimp only))
 refine oG (Fr 352 [(0,Ptr bv ov),(11,.int .u8 b24)] [(4,(b31 * 72057594037927936)),(5,(b30 * 281474976710656)),(6,(b29 * 1099511627776)),(7,(b28 * 4294967296)),(8,(b27 * 16777216)),(9,(b26 * 65536)),(10,(b25 * 256)),(12,(b23 * 72057594037927936)),(13,(b22 * 281474976710656)),(14,(b21 * 1099511627776)),(15,(b20 * 4294967296)),(16,(b19 * 16777216)),(17,(b18 * 65536)),(42,(b7 * 72057594037927936 + (b6 * 281474976710656 + (b5 * 1099511627776 + (b4 * 4294967296 + (b3 * 16777216 + (b2 * 65536 + (b1 * 256 + b0)))))))),(49,(b15 * 72057594037927936 + (b14 * 281474976710656 + (b13 * 1099511627776 + (b12 * 4294967296 + (b11 * 16777216 + (b10 * 65536 + (b9 * 256 + b8)))))))),(50,(b17 * 256 + b16))]) (by refine ⟨hd (by simp [hT.out]),?_⟩;simp [Fx,Fu, *]<;>omega) ?_
 clear hT t0 t11 t19 t4 t5 t6 t7 t8 t9 t10 t12 t13 t14 t15 t16 t17 t18 t20 t21 t42 t47 s286 s287 s288 s48 s289 s290 s291 s49 s292 s293 s294 s295 s50
 rintro T ⟨hT,⟨t0,t11,-⟩,t4,t5,t6,t7,t8,t9,t10,t12,t13,t14,t15,t16,t17,t42,t49,t50,-⟩
 obtain ⟨s296,s297,s298,s51,s299,s300,s301,s52,s302,s303,s304,s53,-⟩:=sz hT [296,297,298,51,299,300,301,52,302,303,304,53] rfl
 repeat ((fail_if_success with_reducible show wpList _ _ _ (⟨some 305,_,_,_,_,_⟩ :: _) _ _);(first | go_values | go_skip | go_guarded | go_step | go_upon | dsimp only))
 refine oG (Fr 352 [(0,Ptr bv ov),(11,.int .u8 b24)] [(4,(b31 * 72057594037927936)),(5,(b30 * 281474976710656)),(6,(b29 * 1099511627776)),(7,(b28 * 4294967296)),(8,(b27 * 16777216)),(9,(b26 * 65536)),(10,(b25 * 256)),(12,(b23 * 72057594037927936)),(13,(b22 * 281474976710656)),(14,(b21 * 1099511627776)),(42,(b7 * 72057594037927936 + (b6 * 281474976710656 + (b5 * 1099511627776 + (b4 * 4294967296 + (b3 * 16777216 + (b2 * 65536 + (b1 * 256 + b0)))))))),(49,(b15 * 72057594037927936 + (b14 * 281474976710656 + (b13 * 1099511627776 + (b12 * 4294967296 + (b11 * 16777216 + (b10 * 65536 + (b9 * 256 + b8)))))))),(53,(b20 * 4294967296 + (b19 * 16777216 + (b18 * 65536 + (b17 * 256 + b16)))))]) (by refine ⟨hd (by simp [hT.out]),?_⟩;simp [Fx,Fu, *]<;>omega) ?_
 clear hT t0 t11 t4 t5 t6 t7 t8 t9 t10 t12 t13 t14 t15 t16 t17 t42 t49 t50 s296 s297 s298 s51 s299 s300 s301 s52 s302 s303 s304 s53
 rintro T ⟨hT,⟨t0,t11,-⟩,t4,t5,t6,t7,t8,t9,t10,t12,t13,t14,t42,t49,t53,-⟩
 obtain ⟨s305,s306,s307,s54,s308,s309,s310,s55,s311,s312,s313,s56,-⟩:=sz hT [305,306,307,54,308,309,310,55,311,312,313,56] rfl
 repeat ((fail_if_success with_reducible show wpList _ _ _ (⟨some 314,_,_,_,_,_⟩ :: _) _ _);(first | go_values | go_skip | go_guarded | go_step | go_upon | dsimp only))
 refine oG (Fr 352 [(0,Ptr bv ov),(11,.int .u8 b24)] [(4,(b31 * 72057594037927936)),(5,(b30 * 281474976710656)),(6,(b29 * 1099511627776)),(7,(b28 * 4294967296)),(8,(b27 * 16777216)),(9,(b26 * 65536)),(10,(b25 * 256)),(42,(b7 * 72057594037927936 + (b6 * 281474976710656 + (b5 * 1099511627776 + (b4 * 4294967296 + (b3 * 16777216 + (b2 * 65536 + (b1 * 256 + b0)))))))),(49,(b15 * 72057594037927936 + (b14 * 281474976710656 + (b13 * 1099511627776 + (b12 * 4294967296 + (b11 * 16777216 + (b10 * 65536 + (b9 * 256 + b8)))))))),(56,(b23 * 72057594037927936 + (b22 * 281474976710656 + (b21 * 1099511627776 + (b20 * 4294967296 + (b19 * 16777216 + (b18 * 65536 + (b17 * 256 + b16))))))))]) (by refine ⟨hd (by simp [hT.out]),?_⟩;simp [Fx,Fu, *]<;>omega) ?_
 clear hT t0 t11 t4 t5 t6 t7 t8 t9 t10 t12 t13 t14 t42 t49 t53 s305 s306 s307 s54 s308 s309 s310 s55 s311 s312 s313 s56
 rintro T ⟨hT,⟨t0,t11,-⟩,t4,t5,t6,t7,t8,t9,t10,t42,t49,t56,-⟩
 obtain ⟨s314,s315,s316,s317,s57,s318,s319,s320,s58,s321,s322,s323,s59,-⟩:=sz hT [314,315,316,317,57,318,319,320,58,321,322,323,59] rfl
 repeat ((fail_if_success with_reducible show wpList _ _ _ (⟨some 324,_,_,_,_,_⟩ :: _) _ _);(first | go_values | go_skip | go_guarded | go_step | go_upon | dsimp only))
 refine oG (Fr 352 [(0,Ptr bv ov)] [(4,(b31 * 72057594037927936)),(5,(b30 * 281474976710656)),(6,(b29 * 1099511627776)),(7,(b28 * 4294967296)),(42,(b7 * 72057594037927936 + (b6 * 281474976710656 + (b5 * 1099511627776 + (b4 * 4294967296 + (b3 * 16777216 + (b2 * 65536 + (b1 * 256 + b0)))))))),(49,(b15 * 72057594037927936 + (b14 * 281474976710656 + (b13 * 1099511627776 + (b12 * 4294967296 + (b11 * 16777216 + (b10 * 65536 + (b9 * 256 + b8)))))))),(56,(b23 * 72057594037927936 + (b22 * 281474976710656 + (b21 * 1099511627776 + (b20 * 4294967296 + (b19 * 16777216 + (b18 * 65536 + (b17 * 256 + b16)))))))),(59,(b27 * 16777216 + (b26 * 65536 + (b25 * 256 + b24))))]) (by refine ⟨hd (by simp [hT.out]),?_⟩;simp [Fx,Fu, *]<;>omega) ?_
 clear hT t0 t11 t4 t5 t6 t7 t8 t9 t10 t42 t49 t56 s314 s315 s316 s317 s57 s318 s319 s320 s58 s321 s322 s323 s59
 rintro T ⟨hT,⟨t0,-⟩,t4,t5,t6,t7,t42,t49,t56,t59,-⟩
 obtain ⟨s324,s325,s326,s60,s327,s328,s329,s61,s330,s331,s332,s62,-⟩:=sz hT [324,325,326,60,327,328,329,61,330,331,332,62] rfl
 repeat ((fail_if_success with_reducible show wpList _ _ _ (⟨some 333,_,_,_,_,_⟩ :: _) _ _);(first | go_values | go_skip | go_guarded | go_step | go_upon | dsimp only))
 refine oG (Fr 352 [(0,Ptr bv ov)] [(4,(b31 * 72057594037927936)),(42,(b7 * 72057594037927936 + (b6 * 281474976710656 + (b5 * 1099511627776 + (b4 * 4294967296 + (b3 * 16777216 + (b2 * 65536 + (b1 * 256 + b0)))))))),(49,(b15 * 72057594037927936 + (b14 * 281474976710656 + (b13 * 1099511627776 + (b12 * 4294967296 + (b11 * 16777216 + (b10 * 65536 + (b9 * 256 + b8)))))))),(56,(b23 * 72057594037927936 + (b22 * 281474976710656 + (b21 * 1099511627776 + (b20 * 4294967296 + (b19 * 16777216 + (b18 * 65536 + (b17 * 256 + b16)))))))),(62,(b30 * 281474976710656 + (b29 * 1099511627776 + (b28 * 4294967296 + (b27 * 16777216 + (b26 * 65536 + (b25 * 256 + b24)))))))]) (by refine ⟨hd (by simp [hT.out]),?_⟩;simp [Fx,Fu, *]<;>omega) ?_
 clear hT t0 t4 t5 t6 t7 t42 t49 t56 t59 s324 s325 s326 s60 s327 s328 s329 s61 s330 s331 s332 s62
 rintro T ⟨hT,⟨t0,-⟩,t4,t42,t49,t56,t62,-⟩
 obtain ⟨s333,s334,s335,s63,s336,s337,s338,s339,s340,s341,s342,s343,-⟩:=sz hT [333,334,335,63,336,337,338,339,340,341,342,343] rfl
 repeat ((fail_if_success with_reducible show wpList _ _ _ (⟨some 344,_,_,_,_,_⟩ :: _) _ _);(first | go_values | go_skip | go_guarded | go_step | go_upon | dsimp only))
 refine oG (Fr 352 [(0,Ptr bv ov)] [(56,(b23 * 72057594037927936 + (b22 * 281474976710656 + (b21 * 1099511627776 + (b20 * 4294967296 + (b19 * 16777216 + (b18 * 65536 + (b17 * 256 + b16)))))))),(63,(b31 * 72057594037927936 + (b30 * 281474976710656 + (b29 * 1099511627776 + (b28 * 4294967296 + (b27 * 16777216 + (b26 * 65536 + (b25 * 256 + b24))))))))]) (by refine ⟨hd (by simp [hT.out]),?_⟩;simp [Fx,Fu, *]<;>omega) ?_
 clear hT t0 t4 t42 t49 t56 t62 s333 s334 s335 s63 s336 s337 s338 s339 s340 s341 s342 s343
 rintro T ⟨hT,⟨t0,-⟩,t56,t63,-⟩
 obtain ⟨s344,s345,s346,s347,s348,s349,s350,s351,-⟩:=sz hT [344,345,346,347,348,349,350,351] rfl
 go_wp2_with fail
 go_end0
 have C:Chg (Rg bv ov 4) w w:=.refl _ _
 exact ⟨rfl,(((C.setCell _ (fun _=>⟨rfl,by omega,by omega⟩)).setCell _ (fun _=>⟨rfl,by omega,by omega⟩)).setCell _ (fun _=>⟨rfl,by omega,by omega⟩)).setCell _ (fun _=>⟨rfl,by omega,by omega⟩),(((H.set 0 rfl _).set 1 rfl _).set 2 rfl _).set 3 rfl _⟩
end Go.Proofs.Ed
