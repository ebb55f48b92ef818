/- A part of the proof of the tied card of FnTimes: Fs2. -/
import Derived.Test.YtcogfofgmbndjaaGreatDoorProg
import Derived.WalkKit
import Derived.WalkSpells
import Derived.WalkLawsBesides
import Derived.Outline
import Derived.StillTailTactics
import Derived.Test.YtcogfofgmbndjaaGreatDoorTAe
set_option maxRecDepth 100000
set_option maxHeartbeats 40000000
namespace Go.Proofs.Ed
open Go.RowKit
theorem Room.vals {w:World} {b o n:Nat} (h:Room w b o n):∃ v:Nat→Value,Has w b o ((List.range n).map v):=by
 refine ⟨fun i=>(w.cell? ⟨b,o + i,none⟩).getD undef,fun i hi=>?_⟩
 rw [List.length_map,List.length_range] at hi
 obtain ⟨⟨v,hv⟩,hf⟩:=h i hi
 exact ⟨by simp [hv,List.getElem?_range hi],hf⟩
theorem and255 {x:Int} (h:0 ≤ x % 256):bits BinOp.and IntKind.u8 (x % 256) 255 = x % 256:=by
 obtain ⟨n,e⟩:=Int.eq_ofNat_of_zero_le h
 have hn:n < 256:=by omega
 rw [e]
 have:∀ m:Fin 256,bits BinOp.and IntKind.u8 (m.val:Int) 255 = (m.val:Int):=by decide +kernel
 exact this ⟨n,hn⟩
theorem sTo_c {bv ov bx ox:Nat} {x0 x1 x2 x3:Int} {w:World} (u0:U64 x0) (u1:U64 x1) (u2:U64 x2) (u3:U64 x3) (RM:Room w bv ov 32) (X:Has w bx ox [.int .u64 x0,.int .u64 x1,.int .u64 x2,.int .u64 x3]) :
  Calls Tryz.prog 134 #[Ptr bv ov,Ptr bx ox] w (fun e w'=>e = .returned (.tuple #[])∧Chg (Rg bv ov 32) w w'∧Has w' bv ov [.int .u8 (x0 % 256),.int .u8 (x0 / 256 % 256),.int .u8 (x0 / 256 / 256 % 256),.int .u8 (x0 / 256 / 256 / 256 % 256),.int .u8 (x0 / 256 / 256 / 256 / 256 % 256),.int .u8 (x0 / 256 / 256 / 256 / 256 / 256 % 256),.int .u8 (x0 / 256 / 256 / 256 / 256 / 256 / 256 % 256),.int .u8 (x0 / 256 / 256 / 256 / 256 / 256 / 256 / 256 % 256),.int .u8 (x1 % 256),.int .u8 (x1 / 256 % 256),.int .u8 (x1 / 256 / 256 % 256),.int .u8 (x1 / 256 / 256 / 256 % 256),.int .u8 (x1 / 256 / 256 / 256 / 256 % 256),.int .u8 (x1 / 256 / 256 / 256 / 256 / 256 % 256),.int .u8 (x1 / 256 / 256 / 256 / 256 / 256 / 256 % 256),.int .u8 (x1 / 256 / 256 / 256 / 256 / 256 / 256 / 256 % 256),.int .u8 (x2 % 256),.int .u8 (x2 / 256 % 256),.int .u8 (x2 / 256 / 256 % 256),.int .u8 (x2 / 256 / 256 / 256 % 256),.int .u8 (x2 / 256 / 256 / 256 / 256 % 256),.int .u8 (x2 / 256 / 256 / 256 / 256 / 256 % 256),.int .u8 (x2 / 256 / 256 / 256 / 256 / 256 / 256 % 256),.int .u8 (x2 / 256 / 256 / 256 / 256 / 256 / 256 / 256 % 256),.int .u8 (x3 % 256),.int .u8 (x3 / 256 % 256),.int .u8 (x3 / 256 / 256 % 256),.int .u8 (x3 / 256 / 256 / 256 % 256),.int .u8 (x3 / 256 / 256 / 256 / 256 % 256),.int .u8 (x3 / 256 / 256 / 256 / 256 / 256 % 256),.int .u8 (x3 / 256 / 256 / 256 / 256 / 256 / 256 % 256),.int .u8 (x3 / 256 / 256 / 256 / 256 / 256 / 256 / 256 % 256)]):=by
 obtain ⟨⟨c0,c1,c2,c3⟩,-⟩:=X.four
 obtain ⟨y0,u0⟩:=u0
 obtain ⟨y1,u1⟩:=u1
 obtain ⟨y2,u2⟩:=u2
 obtain ⟨y3,u3⟩:=u3
 clear X
 obtain ⟨v,H⟩:=RM.vals
 replace H:Has w bv ov [v 0,v 1,v 2,v 3,v 4,v 5,v 6,v 7,v 8,v 9,v 10,v 11,v 12,v 13,v 14,v 15,v 16,v 17,v 18,v 19,v 20,v 21,v 22,v 23,v 24,v 25,v 26,v 27,v 28,v 29,v 30,v 31]:=H
 clear RM
 have C:Chg (Rg bv ov 32) w w:=.refl _ _
 go_enter Tryz.func134,Tryz.ntmps134
 repeat ((fail_if_success with_reducible show wpList _ _ _ (⟨some 76,_,_,_,_,_⟩ :: _) _ _);(first | go_values | go_skip | go_guarded | go_step | go_upon | dsimp only))
 refine oG (Fr 352 [(0,Ptr bv ov),(1,Ptr bx ox)] [(4,x3),(5,x2),(6,x1)]) (by refine ⟨hd rfl,?_⟩;simp only [Fx,Fu];and_intros<;>first | rfl | trivial) ?_
 rintro T ⟨hT,⟨t0,t1,-⟩,t4,t5,t6,-⟩
 obtain ⟨s76,s77,s78,s79,s7,s80,s81,s82,s8,s83,s84,s9,-⟩:=sz hT [76,77,78,79,7,80,81,82,8,83,84,9] rfl
 have a82:=and255 (x:=x0) (by omega)
 repeat ((fail_if_success with_reducible show wpList _ _ _ (⟨some 85,_,_,_,_,_⟩ :: _) _ _);(first | go_values | go_skip | go_guarded | go_step | go_upon | dsimp only))
 refine oG (Fr 352 [(0,Ptr bv ov),(8,.int .u8 (x0 % 256))] [(4,x3),(5,x2),(6,x1),(9,(x0 / 256))]) (by refine ⟨hd (by simp [hT.out]),?_⟩;simp [Fx,Fu, *]<;>omega) ?_
 clear hT t0 t1 t4 t5 t6 a82 s76 s77 s78 s79 s7 s80 s81 s82 s8 s83 s84 s9
 rintro T ⟨hT,⟨t0,t8,-⟩,t4,t5,t6,t9,-⟩
 obtain ⟨s85,s86,s87,s10,s88,s89,s11,s90,s91,s92,s12,s93,s94,s13,-⟩:=sz hT [85,86,87,10,88,89,11,90,91,92,12,93,94,13] rfl
 have a87:=and255 (x:=x0 / 256) (by omega)
 have a92:=and255 (x:=x0 / 256 / 256) (by omega)
 repeat ((fail_if_success with_reducible show wpList _ _ _ (⟨some 95,_,_,_,_,_⟩ :: _) _ _);(first | go_values | go_skip | go_guarded | go_step | go_upon | dsimp only))
 refine oG (Fr 352 [(0,Ptr bv ov),(8,.int .u8 (x0 % 256)),(10,.int .u8 (x0 / 256 % 256)),(12,.int .u8 (x0 / 256 / 256 % 256))] [(4,x3),(5,x2),(6,x1),(13,(x0 / 256 / 256 / 256))]) (by refine ⟨hd (by simp [hT.out]),?_⟩;simp [Fx,Fu, *]<;>omega) ?_
 clear hT t0 t8 t4 t5 t6 t9 a87 a92 s85 s86 s87 s10 s88 s89 s11 s90 s91 s92 s12 s93 s94 s13
 rintro T ⟨hT,⟨t0,t8,t10,t12,-⟩,t4,t5,t6,t13,-⟩
 obtain ⟨s95,s96,s97,s14,s98,s99,s15,s100,s101,s102,s16,s103,s104,s17,-⟩:=sz hT [95,96,97,14,98,99,15,100,101,102,16,103,104,17] rfl
 have a97:=and255 (x:=x0 / 256 / 256 / 256) (by omega)
 have a102:=and255 (x:=x0 / 256 / 256 / 256 / 256) (by omega)
 repeat ((fail_if_success with_reducible show wpList _ _ _ (⟨some 105,_,_,_,_,_⟩ :: _) _ _);(first | go_values | go_skip | go_guarded | go_step | go_upon | dsimp only))
 refine oG (Fr 352 [(0,Ptr bv ov),(8,.int .u8 (x0 % 256)),(10,.int .u8 (x0 / 256 % 256)),(12,.int .u8 (x0 / 256 / 256 % 256)),(14,.int .u8 (x0 / 256 / 256 / 256 % 256)),(16,.int .u8 (x0 / 256 / 256 / 256 / 256 % 256))] [(4,x3),(5,x2),(6,x1),(17,(x0 / 256 / 256 / 256 / 256 / 256))]) (by refine ⟨hd (by simp [hT.out]),?_⟩;simp [Fx,Fu, *]<;>omega) ?_
 clear hT t0 t8 t10 t12 t4 t5 t6 t13 a97 a102 s95 s96 s97 s14 s98 s99 s15 s100 s101 s102 s16 s103 s104 s17
 rintro T ⟨hT,⟨t0,t8,t10,t12,t14,t16,-⟩,t4,t5,t6,t17,-⟩
 obtain ⟨s105,s106,s107,s18,s108,s109,s19,s110,s111,s112,s20,s113,s114,s115,s21,-⟩:=sz hT [105,106,107,18,108,109,19,110,111,112,20,113,114,115,21] rfl
 have a107:=and255 (x:=x0 / 256 / 256 / 256 / 256 / 256) (by omega)
 have a112:=and255 (x:=x0 / 256 / 256 / 256 / 256 / 256 / 256) (by omega)
 repeat ((fail_if_success with_reducible show wpList _ _ _ (⟨some 116,_,_,_,_,_⟩ :: _) _ _);(first | go_values | go_skip | go_guarded | go_step | go_upon | dsimp only))
 refine oG (Fr 352 [(0,Ptr bv ov),(8,.int .u8 (x0 % 256)),(10,.int .u8 (x0 / 256 % 256)),(12,.int .u8 (x0 / 256 / 256 % 256)),(14,.int .u8 (x0 / 256 / 256 / 256 % 256)),(16,.int .u8 (x0 / 256 / 256 / 256 / 256 % 256)),(18,.int .u8 (x0 / 256 / 256 / 256 / 256 / 256 % 256)),(20,.int .u8 (x0 / 256 / 256 / 256 / 256 / 256 / 256 % 256)),(21,.int .u8 (x0 / 256 / 256 / 256 / 256 / 256 / 256 / 256 % 256))] [(4,x3),(5,x2),(6,x1)]) (by refine ⟨hd (by simp [hT.out]),?_⟩;simp [Fx,Fu, *]<;>omega) ?_
 clear hT t0 t8 t10 t12 t14 t16 t4 t5 t6 t17 a107 a112 s105 s106 s107 s18 s108 s109 s19 s110 s111 s112 s20 s113 s114 s115 s21
 rintro T ⟨hT,⟨t0,t8,t10,t12,t14,t16,t18,t20,t21,-⟩,t4,t5,t6,-⟩
 obtain ⟨s116,s117,s118,s22,s119,s120,s23,s121,s122,s123,s24,s124,s125,s25,-⟩:=sz hT [116,117,118,22,119,120,23,121,122,123,24,124,125,25] rfl
 have a118:=and255 (x:=x1) (by omega)
 have a123:=and255 (x:=x1 / 256) (by omega)
 repeat ((fail_if_success with_reducible show wpList _ _ _ (⟨some 126,_,_,_,_,_⟩ :: _) _ _);(first | go_values | go_skip | go_guarded | go_step | go_upon | dsimp only))
 refine oG (Fr 352 [(0,Ptr bv ov),(8,.int .u8 (x0 % 256)),(10,.int .u8 (x0 / 256 % 256)),(12,.int .u8 (x0 / 256 / 256 % 256)),(14,.int .u8 (x0 / 256 / 256 / 256 % 256)),(16,.int .u8 (x0 / 256 / 256 / 256 / 256 % 256)),(18,.int .u8 (x0 / 256 / 256 / 256 / 256 / 256 % 256)),(20,.int .u8 (x0 / 256 / 256 / 256 / 256 / 256 / 256 % 256)),(21,.int .u8 (x0 / 256 / 256 / 256 / 256 / 256 / 256 / 256 % 256)),(22,.int .u8 (x1 % 256)),(24,.int .u8 (x1 / 256 % 256))] [(4,x3),(5,x2),(25,(x1 / 256 / 256))]) (by refine ⟨hd (by simp [hT.out]),?_⟩;simp [Fx,Fu, *]<;>omega) ?_
 clear hT t0 t8 t10 t12 t14 t16 t18 t20 t21 t4 t5 t6 a118 a123 s116 s117 s118 s22 s119 s120 s23 s121 s122 s123 s24 s124 s125 s25
 rintro T ⟨hT,⟨t0,t8,t10,t12,t14,t16,t18,t20,t21,t22,t24,-⟩,t4,t5,t25,-⟩
 obtain ⟨s126,s127,s128,s26,s129,s130,s27,s131,s132,s133,s28,s134,s135,s29,-⟩:=sz hT [126,127,128,26,129,130,27,131,132,133,28,134,135,29] rfl
 have a128:=and255 (x:=x1 / 256 / 256) (by omega)
 have a133:=and255 (x:=x1 / 256 / 256 / 256) (by omega)
 repeat ((fail_if_success with_reducible show wpList _ _ _ (⟨some 136,_,_,_,_,_⟩ :: _) _ _);(first | go_values | go_skip | go_guarded | go_step | go_upon | dsimp only))
 refine oG (Fr 352 [(0,Ptr bv ov),(8,.int .u8 (x0 % 256)),(10,.int .u8 (x0 / 256 % 256)),(12,.int .u8 (x0 / 256 / 256 % 256)),(14,.int .u8 (x0 / 256 / 256 / 256 % 256)),(16,.int .u8 (x0 / 256 / 256 / 256 / 256 % 256)),(18,.int .u8 (x0 / 256 / 256 / 256 / 256 / 256 % 256)),(20,.int .u8 (x0 / 256 / 256 / 256 / 256 / 256 / 256 % 256)),(21,.int .u8 (x0 / 256 / 256 / 256 / 256 / 256 / 256 / 256 % 256)),(22,.int .u8 (x1 % 256)),(24,.int .u8 (x1 / 256 % 256)),(26,.int .u8 (x1 / 256 / 256 % 256)),(28,.int .u8 (x1 / 256 / 256 / 256 % 256))] [(4,x3),(5,x2),(29,(x1 / 256 / 256 / 256 / 256))]) (by refine ⟨hd (by simp [hT.out]),?_⟩;simp [Fx,Fu, *]<;>omega) ?_
 clear hT t0 t8 t10 t12 t14 t16 t18 t20 t21 t22 t24 t4 t5 t25 a128 a133 s126 s127 s128 s26 s129 s130 s27 s131 s132 s133 s28 s134 s135 s29
 rintro T ⟨hT,⟨t0,t8,t10,t12,t14,t16,t18,t20,t21,t22,t24,t26,t28,-⟩,t4,t5,t29,-⟩
 obtain ⟨s136,s137,s138,s30,s139,s140,s31,s141,s142,s143,s32,s144,s145,s33,-⟩:=sz hT [136,137,138,30,139,140,31,141,142,143,32,144,145,33] rfl
 have a138:=and255 (x:=x1 / 256 / 256 / 256 / 256) (by omega)
 have a143:=and255 (x:=x1 / 256 / 256 / 256 / 256 / 256) (by omega)
 repeat ((fail_if_success with_reducible show wpList _ _ _ (⟨some 146,_,_,_,_,_⟩ :: _) _ _);(first | go_values | go_skip | go_guarded | go_step | go_upon | dsimp only))
 refine oG (Fr 352 [(0,Ptr bv ov),(8,.int .u8 (x0 % 256)),(10,.int .u8 (x0 / 256 % 256)),(12,.int .u8 (x0 / 256 / 256 % 256)),(14,.int .u8 (x0 / 256 / 256 / 256 % 256)),(16,.int .u8 (x0 / 256 / 256 / 256 / 256 % 256)),(18,.int .u8 (x0 / 256 / 256 / 256 / 256 / 256 % 256)),(20,.int .u8 (x0 / 256 / 256 / 256 / 256 / 256 / 256 % 256)),(21,.int .u8 (x0 / 256 / 256 / 256 / 256 / 256 / 256 / 256 % 256)),(22,.int .u8 (x1 % 256)),(24,.int .u8 (x1 / 256 % 256)),(26,.int .u8 (x1 / 256 / 256 % 256)),(28,.int .u8 (x1 / 256 / 256 / 256 % 256)),(30,.int .u8 (x1 / 256 / 256 / 256 / 256 % 256)),(32,.int .u8 (x1 / 256 / 256 / 256 / 256 / 256 % 256))] [(4,x3),(5,x2),(33,(x1 / 256 / 256 / 256 / 256 / 256 / 256))]) (by refine ⟨hd (by simp [hT.out]),?_⟩;simp [Fx,Fu, *]<;>omega) ?_
 clear hT t0 t8 t10 t12 t14 t16 t18 t20 t21 t22 t24 t26 t28 t4 t5 t29 a138 a143 s136 s137 s138 s30 s139 s140 s31 s141 s142 s143 s32 s144 s145 s33
 rintro T ⟨hT,⟨t0,t8,t10,t12,t14,t16,t18,t20,t21,t22,t24,t26,t28,t30,t32,-⟩,t4,t5,t33,-⟩
 obtain ⟨s146,s147,s148,s34,s149,s150,s151,s35,s152,s153,s154,s36,-⟩:=sz hT [146,147,148,34,149,150,151,35,152,153,154,36] rfl
 have a148:=and255 (x:=x1 / 256 / 256 / 256 / 256 / 256 / 256) (by omega)
 have a154:=and255 (x:=x2) (by omega)
 repeat ((fail_if_success with_reducible show wpList _ _ _ (⟨some 155,_,_,_,_,_⟩ :: _) _ _);(first | go_values | go_skip | go_guarded | go_step | go_upon | dsimp only))
 refine oG (Fr 352 [(0,Ptr bv ov),(8,.int .u8 (x0 % 256)),(10,.int .u8 (x0 / 256 % 256)),(12,.int .u8 (x0 / 256 / 256 % 256)),(14,.int .u8 (x0 / 256 / 256 / 256 % 256)),(16,.int .u8 (x0 / 256 / 256 / 256 / 256 % 256)),(18,.int .u8 (x0 / 256 / 256 / 256 / 256 / 256 % 256)),(20,.int .u8 (x0 / 256 / 256 / 256 / 256 / 256 / 256 % 256)),(21,.int .u8 (x0 / 256 / 256 / 256 / 256 / 256 / 256 / 256 % 256)),(22,.int .u8 (x1 % 256)),(24,.int .u8 (x1 / 256 % 256)),(26,.int .u8 (x1 / 256 / 256 % 256)),(28,.int .u8 (x1 / 256 / 256 / 256 % 256)),(30,.int .u8 (x1 / 256 / 256 / 256 / 256 % 256)),(32,.int .u8 (x1 / 256 / 256 / 256 / 256 / 256 % 256)),(34,.int .u8 (x1 / 256 / 256 / 256 / 256 / 256 / 256 % 256)),(35,.int .u8 (x1 / 256 / 256 / 256 / 256 / 256 / 256 / 256 % 256)),(36,.int .u8 (x2 % 256))] [(4,x3),(5,x2)]) (by refine ⟨hd (by simp [hT.out]),?_⟩;simp [Fx,Fu, *]<;>omega) ?_
 clear hT t0 t8 t10 t12 t14 t16 t18 t20 t21 t22 t24 t26 t28 t30 t32 t4 t5 t33 a148 a154 s146 s147 s148 s34 s149 s150 s151 s35 s152 s153 s154 s36
 rintro T ⟨hT,⟨t0,t8,t10,t12,t14,t16,t18,t20,t21,t22,t24,t26,t28,t30,t32,t34,t35,t36,-⟩,t4,t5,-⟩
 obtain ⟨s155,s156,s37,s157,s158,s159,s38,s160,s161,s39,s162,s163,s164,s40,-⟩:=sz hT [155,156,37,157,158,159,38,160,161,39,162,163,164,40] rfl
 have a159:=and255 (x:=x2 / 256) (by omega)
 have a164:=and255 (x:=x2 / 256 / 256) (by omega)
 repeat ((fail_if_success with_reducible show wpList _ _ _ (⟨some 165,_,_,_,_,_⟩ :: _) _ _);(first | go_values | go_skip | go_guarded | go_step | go_upon | dsimp only))
 refine oG (Fr 352 [(0,Ptr bv ov),(8,.int .u8 (x0 % 256)),(10,.int .u8 (x0 / 256 % 256)),(12,.int .u8 (x0 / 256 / 256 % 256)),(14,.int .u8 (x0 / 256 / 256 / 256 % 256)),(16,.int .u8 (x0 / 256 / 256 / 256 / 256 % 256)),(18,.int .u8 (x0 / 256 / 256 / 256 / 256 / 256 % 256)),(20,.int .u8 (x0 / 256 / 256 / 256 / 256 / 256 / 256 % 256)),(21,.int .u8 (x0 / 256 / 256 / 256 / 256 / 256 / 256 / 256 % 256)),(22,.int .u8 (x1 % 256)),(24,.int .u8 (x1 / 256 % 256)),(26,.int .u8 (x1 / 256 / 256 % 256)),(28,.int .u8 (x1 / 256 / 256 / 256 % 256)),(30,.int .u8 (x1 / 256 / 256 / 256 / 256 % 256)),(32,.int .u8 (x1 / 256 / 256 / 256 / 256 / 256 % 256)),(34,.int .u8 (x1 / 256 / 256 / 256 / 256 / 256 / 256 % 256)),(35,.int .u8 (x1 / 256 / 256 / 256 / 256 / 256 / 256 / 256 % 256)),(36,.int .u8 (x2 % 256)),(38,.int .u8 (x2 / 256 % 256)),(40,.int .u8 (x2 / 256 / 256 % 256))] [(4,x3),(39,(x2 / 256 / 256))]) (by refine ⟨hd (by simp [hT.out]),?_⟩;simp [Fx,Fu, *]<;>omega) ?_
 clear hT t0 t8 t10 t12 t14 t16 t18 t20 t21 t22 t24 t26 t28 t30 t32 t34 t35 t36 t4 t5 a159 a164 s155 s156 s37 s157 s158 s159 s38 s160 s161 s39 s162 s163 s164 s40
 rintro T ⟨hT,⟨t0,t8,t10,t12,t14,t16,t18,t20,t21,t22,t24,t26,t28,t30,t32,t34,t35,t36,t38,t40,-⟩,t4,t39,-⟩
 obtain ⟨s165,s166,s41,s167,s168,s169,s42,s170,s171,s43,s172,s173,s174,s44,-⟩:=sz hT [165,166,41,167,168,169,42,170,171,43,172,173,174,44] rfl
 have a169:=and255 (x:=x2 / 256 / 256 / 256) (by omega)
 have a174:=and255 (x:=x2 / 256 / 256 / 256 / 256) (by omega)
 repeat ((fail_if_success with_reducible show wpList _ _ _ (⟨some 175,_,_,_,_,_⟩ :: _) _ _);(first | go_values | go_skip | go_guarded | go_step | go_upon | dsimp only))
 refine oG (Fr 352 [(0,Ptr bv ov),(8,.int .u8 (x0 % 256)),(10,.int .u8 (x0 / 256 % 256)),(12,.int .u8 (x0 / 256 / 256 % 256)),(14,.int .u8 (x0 / 256 / 256 / 256 % 256)),(16,.int .u8 (x0 / 256 / 256 / 256 / 256 % 256)),(18,.int .u8 (x0 / 256 / 256 / 256 / 256 / 256 % 256)),(20,.int .u8 (x0 / 256 / 256 / 256 / 256 / 256 / 256 % 256)),(21,.int .u8 (x0 / 256 / 256 / 256 / 256 / 256 / 256 / 256 % 256)),(22,.int .u8 (x1 % 256)),(24,.int .u8 (x1 / 256 % 256)),(26,.int .u8 (x1 / 256 / 256 % 256)),(28,.int .u8 (x1 / 256 / 256 / 256 % 256)),(30,.int .u8 (x1 / 256 / 256 / 256 / 256 % 256)),(32,.int .u8 (x1 / 256 / 256 / 256 / 256 / 256 % 256)),(34,.int .u8 (x1 / 256 / 256 / 256 / 256 / 256 / 256 % 256)),(35,.int .u8 (x1 / 256 / 256 / 256 / 256 / 256 / 256 / 256 % 256)),(36,.int .u8 (x2 % 256)),(38,.int .u8 (x2 / 256 % 256)),(40,.int .u8 (x2 / 256 / 256 % 256)),(42,.int .u8 (x2 / 256 / 256 / 256 % 256)),(44,.int .u8 (x2 / 256 / 256 / 256 / 256 % 256))] [(4,x3),(43,(x2 / 256 / 256 / 256 / 256))]) (by refine ⟨hd (by simp [hT.out]),?_⟩;simp [Fx,Fu, *]<;>omega) ?_
 clear hT t0 t8 t10 t12 t14 t16 t18 t20 t21 t22 t24 t26 t28 t30 t32 t34 t35 t36 t38 t40 t4 t39 a169 a174 s165 s166 s41 s167 s168 s169 s42 s170 s171 s43 s172 s173 s174 s44
 rintro T ⟨hT,⟨t0,t8,t10,t12,t14,t16,t18,t20,t21,t22,t24,t26,t28,t30,t32,t34,t35,t36,t38,t40,t42,t44,-⟩,t4,t43,-⟩
 obtain ⟨s175,s176,s45,s177,s178,s179,s46,s180,s181,s47,s182,s183,s184,s48,-⟩:=sz hT [175,176,45,177,178,179,46,180,181,47,182,183,184,48] rfl
 have a179:=and255 (x:=x2 / 256 / 256 / 256 / 256 / 256) (by omega)
 have a184:=and255 (x:=x2 / 256 / 256 / 256 / 256 / 256 / 256) (by omega)
 repeat ((fail_if_success with_reducible show wpList _ _ _ (⟨some 185,_,_,_,_,_⟩ :: _) _ _);(first | go_values | go_skip | go_guarded | go_step | go_upon | dsimp only))
 refine oG (Fr 352 [(0,Ptr bv ov),(8,.int .u8 (x0 % 256)),(10,.int .u8 (x0 / 256 % 256)),(12,.int .u8 (x0 / 256 / 256 % 256)),(14,.int .u8 (x0 / 256 / 256 / 256 % 256)),(16,.int .u8 (x0 / 256 / 256 / 256 / 256 % 256)),(18,.int .u8 (x0 / 256 / 256 / 256 / 256 / 256 % 256)),(20,.int .u8 (x0 / 256 / 256 / 256 / 256 / 256 / 256 % 256)),(21,.int .u8 (x0 / 256 / 256 / 256 / 256 / 256 / 256 / 256 % 256)),(22,.int .u8 (x1 % 256)),(24,.int .u8 (x1 / 256 % 256)),(26,.int .u8 (x1 / 256 / 256 % 256)),(28,.int .u8 (x1 / 256 / 256 / 256 % 256)),(30,.int .u8 (x1 / 256 / 256 / 256 / 256 % 256)),(32,.int .u8 (x1 / 256 / 256 / 256 / 256 / 256 % 256)),(34,.int .u8 (x1 / 256 / 256 / 256 / 256 / 256 / 256 % 256)),(35,.int .u8 (x1 / 256 / 256 / 256 / 256 / 256 / 256 / 256 % 256)),(36,.int .u8 (x2 % 256)),(38,.int .u8 (x2 / 256 % 256)),(40,.int .u8 (x2 / 256 / 256 % 256)),(42,.int .u8 (x2 / 256 / 256 / 256 % 256)),(44,.int .u8 (x2 / 256 / 256 / 256 / 256 % 256)),(46,.int .u8 (x2 / 256 / 256 / 256 / 256 / 256 % 256)),(48,.int .u8 (x2 / 256 / 256 / 256 / 256 / 256 / 256 % 256))] [(4,x3),(47,(x2 / 256 / 256 / 256 / 256 / 256 / 256))]) (by refine ⟨hd (by simp [hT.out]),?_⟩;simp [Fx,Fu, *]<;>omega) ?_
 clear hT t0 t8 t10 t12 t14 t16 t18 t20 t21 t22 t24 t26 t28 t30 t32 t34 t35 t36 t38 t40 t42 t44 t4 t43 a179 a184 s175 s176 s45 s177 s178 s179 s46 s180 s181 s47 s182 s183 s184 s48
 rintro T ⟨hT,⟨t0,t8,t10,t12,t14,t16,t18,t20,t21,t22,t24,t26,t28,t30,t32,t34,t35,t36,t38,t40,t42,t44,t46,t48,-⟩,t4,t47,-⟩
 obtain ⟨s185,s186,s187,s49,s188,s189,s190,s50,s191,s192,s51,s193,s194,s195,s52,-⟩:=sz hT [185,186,187,49,188,189,190,50,191,192,51,193,194,195,52] rfl
 have a190:=and255 (x:=x3) (by omega)
 have a195:=and255 (x:=x3 / 256) (by omega)
 repeat ((fail_if_success with_reducible show wpList _ _ _ (⟨some 196,_,_,_,_,_⟩ :: _) _ _);(first | go_values | go_skip | go_guarded | go_step | go_upon | dsimp only))
 refine oG (Fr 352 [(0,Ptr bv ov),(8,.int .u8 (x0 % 256)),(10,.int .u8 (x0 / 256 % 256)),(12,.int .u8 (x0 / 256 / 256 % 256)),(14,.int .u8 (x0 / 256 / 256 / 256 % 256)),(16,.int .u8 (x0 / 256 / 256 / 256 / 256 % 256)),(18,.int .u8 (x0 / 256 / 256 / 256 / 256 / 256 % 256)),(20,.int .u8 (x0 / 256 / 256 / 256 / 256 / 256 / 256 % 256)),(21,.int .u8 (x0 / 256 / 256 / 256 / 256 / 256 / 256 / 256 % 256)),(22,.int .u8 (x1 % 256)),(24,.int .u8 (x1 / 256 % 256)),(26,.int .u8 (x1 / 256 / 256 % 256)),(28,.int .u8 (x1 / 256 / 256 / 256 % 256)),(30,.int .u8 (x1 / 256 / 256 / 256 / 256 % 256)),(32,.int .u8 (x1 / 256 / 256 / 256 / 256 / 256 % 256)),(34,.int .u8 (x1 / 256 / 256 / 256 / 256 / 256 / 256 % 256)),(35,.int .u8 (x1 / 256 / 256 / 256 / 256 / 256 / 256 / 256 % 256)),(36,.int .u8 (x2 % 256)),(38,.int .u8 (x2 / 256 % 256)),(40,.int .u8 (x2 / 256 / 256 % 256)),(42,.int .u8 (x2 / 256 / 256 / 256 % 256)),(44,.int .u8 (x2 / 256 / 256 / 256 / 256 % 256)),(46,.int .u8 (x2 / 256 / 256 / 256 / 256 / 256 % 256)),(48,.int .u8 (x2 / 256 / 256 / 256 / 256 / 256 / 256 % 256)),(49,.int .u8 (x2 / 256 / 256 / 256 / 256 / 256 / 256 / 256 % 256)),(50,.int .u8 (x3 % 256)),(52,.int .u8 (x3 / 256 % 256))] [(51,(x3 / 256))]) (by refine ⟨hd (by simp [hT.out]),?_⟩;simp [Fx,Fu, *]<;>omega) ?_
 clear hT t0 t8 t10 t12 t14 t16 t18 t20 t21 t22 t24 t26 t28 t30 t32 t34 t35 t36 t38 t40 t42 t44 t46 t48 t4 t47 a190 a195 s185 s186 s187 s49 s188 s189 s190 s50 s191 s192 s51 s193 s194 s195 s52
 rintro T ⟨hT,⟨t0,t8,t10,t12,t14,t16,t18,t20,t21,t22,t24,t26,t28,t30,t32,t34,t35,t36,t38,t40,t42,t44,t46,t48,t49,t50,t52,-⟩,t51,-⟩
 obtain ⟨s196,s197,s53,s198,s199,s200,s54,s201,s202,s55,s203,s204,s205,s56,-⟩:=sz hT [196,197,53,198,199,200,54,201,202,55,203,204,205,56] rfl
 have a200:=and255 (x:=x3 / 256 / 256) (by omega)
 have a205:=and255 (x:=x3 / 256 / 256 / 256) (by omega)
 repeat ((fail_if_success with_reducible show wpList _ _ _ (⟨some 206,_,_,_,_,_⟩ :: _) _ _);(first | go_values | go_skip | go_guarded | go_step | go_upon | dsimp only))
 refine oG (Fr 352 [(0,Ptr bv ov),(8,.int .u8 (x0 % 256)),(10,.int .u8 (x0 / 256 % 256)),(12,.int .u8 (x0 / 256 / 256 % 256)),(14,.int .u8 (x0 / 256 / 256 / 256 % 256)),(16,.int .u8 (x0 / 256 / 256 / 256 / 256 % 256)),(18,.int .u8 (x0 / 256 / 256 / 256 / 256 / 256 % 256)),(20,.int .u8 (x0 / 256 / 256 / 256 / 256 / 256 / 256 % 256)),(21,.int .u8 (x0 / 256 / 256 / 256 / 256 / 256 / 256 / 256 % 256)),(22,.int .u8 (x1 % 256)),(24,.int .u8 (x1 / 256 % 256)),(26,.int .u8 (x1 / 256 / 256 % 256)),(28,.int .u8 (x1 / 256 / 256 / 256 % 256)),(30,.int .u8 (x1 / 256 / 256 / 256 / 256 % 256)),(32,.int .u8 (x1 / 256 / 256 / 256 / 256 / 256 % 256)),(34,.int .u8 (x1 / 256 / 256 / 256 / 256 / 256 / 256 % 256)),(35,.int .u8 (x1 / 256 / 256 / 256 / 256 / 256 / 256 / 256 % 256)),(36,.int .u8 (x2 % 256)),(38,.int .u8 (x2 / 256 % 256)),(40,.int .u8 (x2 / 256 / 256 % 256)),(42,.int .u8 (x2 / 256 / 256 / 256 % 256)),(44,.int .u8 (x2 / 256 / 256 / 256 / 256 % 256)),(46,.int .u8 (x2 / 256 / 256 / 256 / 256 / 256 % 256)),(48,.int .u8 (x2 / 256 / 256 / 256 / 256 / 256 / 256 % 256)),(49,.int .u8 (x2 / 256 / 256 / 256 / 256 / 256 / 256 / 256 % 256)),(50,.int .u8 (x3 % 256)),(52,.int .u8 (x3 / 256 % 256)),(54,.int .u8 (x3 / 256 / 256 % 256)),(56,.int .u8 (x3 / 256 / 256 / 256 % 256))] [(55,(x3 / 256 / 256 / 256))]) (by refine ⟨hd (by simp [hT.out]),?_⟩;simp [Fx,Fu, *]<;>omega) ?_
 clear hT t0 t8 t10 t12 t14 t16 t18 t20 t21 t22 t24 t26 t28 t30 t32 t34 t35 t36 t38 t40 t42 t44 t46 t48 t49 t50 t52 t51 a200 a205 s196 s197 s53 s198 s199 s200 s54 s201 s202 s55 s203 s204 s205 s56
 rintro T ⟨hT,⟨t0,t8,t10,t12,t14,t16,t18,t20,t21,t22,t24,t26,t28,t30,t32,t34,t35,t36,t38,t40,t42,t44,t46,t48,t49,t50,t52,t54,t56,-⟩,t55,-⟩
 obtain ⟨s206,s207,s57,s208,s209,s210,s58,s211,s212,s59,s213,s214,s215,s60,-⟩:=sz hT [206,207,57,208,209,210,58,211,212,59,213,214,215,60] rfl
 have a210:=and255 (x:=x3 / 256 / 256 / 256 / 256) (by omega)
 have a215:=and255 (x:=x3 / 256 / 256 / 256 / 256 / 256) (by omega)
 repeat ((fail_if_success with_reducible show wpList _ _ _ (⟨some 216,_,_,_,_,_⟩ :: _) _ _);(first | go_values | go_skip | go_guarded | go_step | go_upon | dsimp only))
 refine oG (Fr 352 [(0,Ptr bv ov),(8,.int .u8 (x0 % 256)),(10,.int .u8 (x0 / 256 % 256)),(12,.int .u8 (x0 / 256 / 256 % 256)),(14,.int .u8 (x0 / 256 / 256 / 256 % 256)),(16,.int .u8 (x0 / 256 / 256 / 256 / 256 % 256)),(18,.int .u8 (x0 / 256 / 256 / 256 / 256 / 256 % 256)),(20,.int .u8 (x0 / 256 / 256 / 256 / 256 / 256 / 256 % 256)),(21,.int .u8 (x0 / 256 / 256 / 256 / 256 / 256 / 256 / 256 % 256)),(22,.int .u8 (x1 % 256)),(24,.int .u8 (x1 / 256 % 256)),(26,.int .u8 (x1 / 256 / 256 % 256)),(28,.int .u8 (x1 / 256 / 256 / 256 % 256)),(30,.int .u8 (x1 / 256 / 256 / 256 / 256 % 256)),(32,.int .u8 (x1 / 256 / 256 / 256 / 256 / 256 % 256)),(34,.int .u8 (x1 / 256 / 256 / 256 / 256 / 256 / 256 % 256)),(35,.int .u8 (x1 / 256 / 256 / 256 / 256 / 256 / 256 / 256 % 256)),(36,.int .u8 (x2 % 256)),(38,.int .u8 (x2 / 256 % 256)),(40,.int .u8 (x2 / 256 / 256 % 256)),(42,.int .u8 (x2 / 256 / 256 / 256 % 256)),(44,.int .u8 (x2 / 256 / 256 / 256 / 256 % 256)),(46,.int .u8 (x2 / 256 / 256 / 256 / 256 / 256 % 256)),(48,.int .u8 (x2 / 256 / 256 / 256 / 256 / 256 / 256 % 256)),(49,.int .u8 (x2 / 256 / 256 / 256 / 256 / 256 / 256 / 256 % 256)),(50,.int .u8 (x3 % 256)),(52,.int .u8 (x3 / 256 % 256)),(54,.int .u8 (x3 / 256 / 256 % 256)),(56,.int .u8 (x3 / 256 / 256 / 256 % 256)),(58,.int .u8 (x3 / 256 / 256 / 256 / 256 % 256)),(60,.int .u8 (x3 / 256 / 256 / 256 / 256 / 256 % 256))] [(59,(x3 / 256 / 256 / 256 / 256 / 256))]) (by refine ⟨hd (by simp [hT.out]),?_⟩;simp [Fx,Fu, *]<;>omega) ?_
 clear hT t0 t8 t10 t12 t14 t16 t18 t20 t21 t22 t24 t26 t28 t30 t32 t34 t35 t36 t38 t40 t42 t44 t46 t48 t49 t50 t52 t54 t56 t55 a210 a215 s206 s207 s57 s208 s209 s210 s58 s211 s212 s59 s213 s214 s215 s60
 rintro T ⟨hT,⟨t0,t8,t10,t12,t14,t16,t18,t20,t21,t22,t24,t26,t28,t30,t32,t34,t35,t36,t38,t40,t42,t44,t46,t48,t49,t50,t52,t54,t56,t58,t60,-⟩,t59,-⟩
 obtain ⟨s216,s217,s61,s218,s219,s220,s62,s221,s222,s223,s63,s224,s225,s226,s227,-⟩:=sz hT [216,217,61,218,219,220,62,221,222,223,63,224,225,226,227] rfl
 have e0:=(H 0 (by simp)).1
 have f0:=(H 0 (by simp)).2
 simp at e0 f0
 have a220:=and255 (x:=x3 / 256 / 256 / 256 / 256 / 256 / 256) (by omega)
 repeat ((fail_if_success with_reducible show wpList _ _ _ (⟨some 228,_,_,_,_,_⟩ :: _) _ _);(first | go_values | go_skip | go_guarded | go_step | go_upon | dsimp only))
 refine oG (Fr 352 [(0,Ptr bv ov),(10,.int .u8 (x0 / 256 % 256)),(12,.int .u8 (x0 / 256 / 256 % 256)),(14,.int .u8 (x0 / 256 / 256 / 256 % 256)),(16,.int .u8 (x0 / 256 / 256 / 256 / 256 % 256)),(18,.int .u8 (x0 / 256 / 256 / 256 / 256 / 256 % 256)),(20,.int .u8 (x0 / 256 / 256 / 256 / 256 / 256 / 256 % 256)),(21,.int .u8 (x0 / 256 / 256 / 256 / 256 / 256 / 256 / 256 % 256)),(22,.int .u8 (x1 % 256)),(24,.int .u8 (x1 / 256 % 256)),(26,.int .u8 (x1 / 256 / 256 % 256)),(28,.int .u8 (x1 / 256 / 256 / 256 % 256)),(30,.int .u8 (x1 / 256 / 256 / 256 / 256 % 256)),(32,.int .u8 (x1 / 256 / 256 / 256 / 256 / 256 % 256)),(34,.int .u8 (x1 / 256 / 256 / 256 / 256 / 256 / 256 % 256)),(35,.int .u8 (x1 / 256 / 256 / 256 / 256 / 256 / 256 / 256 % 256)),(36,.int .u8 (x2 % 256)),(38,.int .u8 (x2 / 256 % 256)),(40,.int .u8 (x2 / 256 / 256 % 256)),(42,.int .u8 (x2 / 256 / 256 / 256 % 256)),(44,.int .u8 (x2 / 256 / 256 / 256 / 256 % 256)),(46,.int .u8 (x2 / 256 / 256 / 256 / 256 / 256 % 256)),(48,.int .u8 (x2 / 256 / 256 / 256 / 256 / 256 / 256 % 256)),(49,.int .u8 (x2 / 256 / 256 / 256 / 256 / 256 / 256 / 256 % 256)),(50,.int .u8 (x3 % 256)),(52,.int .u8 (x3 / 256 % 256)),(54,.int .u8 (x3 / 256 / 256 % 256)),(56,.int .u8 (x3 / 256 / 256 / 256 % 256)),(58,.int .u8 (x3 / 256 / 256 / 256 / 256 % 256)),(60,.int .u8 (x3 / 256 / 256 / 256 / 256 / 256 % 256)),(62,.int .u8 (x3 / 256 / 256 / 256 / 256 / 256 / 256 % 256)),(63,.int .u8 (x3 / 256 / 256 / 256 / 256 / 256 / 256 / 256 % 256))] []) (by refine ⟨hd (by simp [hT.out]),?_⟩;simp [Fx,Fu, *]<;>omega) ?_
 clear hT t0 t8 t10 t12 t14 t16 t18 t20 t21 t22 t24 t26 t28 t30 t32 t34 t35 t36 t38 t40 t42 t44 t46 t48 t49 t50 t52 t54 t56 t58 t60 t59 a220 s216 s217 s61 s218 s219 s220 s62 s221 s222 s223 s63 s224 s225 s226 s227
 rintro T ⟨hT,⟨t0,t10,t12,t14,t16,t18,t20,t21,t22,t24,t26,t28,t30,t32,t34,t35,t36,t38,t40,t42,t44,t46,t48,t49,t50,t52,t54,t56,t58,t60,t62,t63,-⟩,-⟩
 refine pG (fun W=>Chg (Rg bv ov 32) w W∧Has W bv ov [.int .u8 (x0 % 256),v 1,v 2,v 3,v 4,v 5,v 6,v 7,v 8,v 9,v 10,v 11,v 12,v 13,v 14,v 15,v 16,v 17,v 18,v 19,v 20,v 21,v 22,v 23,v 24,v 25,v 26,v 27,v 28,v 29,v 30,v 31]) ⟨(C.setCell _ (fun _=>⟨rfl,by omega,by omega⟩)),(H.set 0 rfl _)⟩ ?_
 clear C H e0 f0
 rintro W ⟨C,H⟩
 have e1:=(H 1 (by simp)).1
 have f1:=(H 1 (by simp)).2
 simp at e1 f1
 have e2:=(H 2 (by simp)).1
 have f2:=(H 2 (by simp)).2
 simp at e2 f2
 have e3:=(H 3 (by simp)).1
 have f3:=(H 3 (by simp)).2
 simp at e3 f3
 obtain ⟨s228,s229,s230,s231,s232,s233,s234,s235,s236,s237,s238,s239,-⟩:=sz hT [228,229,230,231,232,233,234,235,236,237,238,239] rfl
 repeat ((fail_if_success with_reducible show wpList _ _ _ (⟨some 240,_,_,_,_,_⟩ :: _) _ _);(first | go_values | go_skip | go_guarded | go_step | go_upon | dsimp only))
 refine oG (Fr 352 [(0,Ptr bv ov),(16,.int .u8 (x0 / 256 / 256 / 256 / 256 % 256)),(18,.int .u8 (x0 / 256 / 256 / 256 / 256 / 256 % 256)),(20,.int .u8 (x0 / 256 / 256 / 256 / 256 / 256 / 256 % 256)),(21,.int .u8 (x0 / 256 / 256 / 256 / 256 / 256 / 256 / 256 % 256)),(22,.int .u8 (x1 % 256)),(24,.int .u8 (x1 / 256 % 256)),(26,.int .u8 (x1 / 256 / 256 % 256)),(28,.int .u8 (x1 / 256 / 256 / 256 % 256)),(30,.int .u8 (x1 / 256 / 256 / 256 / 256 % 256)),(32,.int .u8 (x1 / 256 / 256 / 256 / 256 / 256 % 256)),(34,.int .u8 (x1 / 256 / 256 / 256 / 256 / 256 / 256 % 256)),(35,.int .u8 (x1 / 256 / 256 / 256 / 256 / 256 / 256 / 256 % 256)),(36,.int .u8 (x2 % 256)),(38,.int .u8 (x2 / 256 % 256)),(40,.int .u8 (x2 / 256 / 256 % 256)),(42,.int .u8 (x2 / 256 / 256 / 256 % 256)),(44,.int .u8 (x2 / 256 / 256 / 256 / 256 % 256)),(46,.int .u8 (x2 / 256 / 256 / 256 / 256 / 256 % 256)),(48,.int .u8 (x2 / 256 / 256 / 256 / 256 / 256 / 256 % 256)),(49,.int .u8 (x2 / 256 / 256 / 256 / 256 / 256 / 256 / 256 % 256)),(50,.int .u8 (x3 % 256)),(52,.int .u8 (x3 / 256 % 256)),(54,.int .u8 (x3 / 256 / 256 % 256)),(56,.int .u8 (x3 / 256 / 256 / 256 % 256)),(58,.int .u8 (x3 / 256 / 256 / 256 / 256 % 256)),(60,.int .u8 (x3 / 256 / 256 / 256 / 256 / 256 % 256)),(62,.int .u8 (x3 / 256 / 256 / 256 / 256 / 256 / 256 % 256)),(63,.int .u8 (x3 / 256 / 256 / 256 / 256 / 256 / 256 / 256 % 256))] []) (by refine ⟨hd (by simp [hT.out]),?_⟩;simp [Fx,Fu, *]<;>omega) ?_
 clear hT t0 t10 t12 t14 t16 t18 t20 t21 t22 t24 t26 t28 t30 t32 t34 t35 t36 t38 t40 t42 t44 t46 t48 t49 t50 t52 t54 t56 t58 t60 t62 t63 s228 s229 s230 s231 s232 s233 s234 s235 s236 s237 s238 s239
 rintro T ⟨hT,⟨t0,t16,t18,t20,t21,t22,t24,t26,t28,t30,t32,t34,t35,t36,t38,t40,t42,t44,t46,t48,t49,t50,t52,t54,t56,t58,t60,t62,t63,-⟩,-⟩
 refine pG (fun W=>Chg (Rg bv ov 32) w W∧Has W bv ov [.int .u8 (x0 % 256),.int .u8 (x0 / 256 % 256),.int .u8 (x0 / 256 / 256 % 256),.int .u8 (x0 / 256 / 256 / 256 % 256),v 4,v 5,v 6,v 7,v 8,v 9,v 10,v 11,v 12,v 13,v 14,v 15,v 16,v 17,v 18,v 19,v 20,v 21,v 22,v 23,v 24,v 25,v 26,v 27,v 28,v 29,v 30,v 31]) ⟨(((C.setCell _ (fun _=>⟨rfl,by omega,by omega⟩)).setCell _ (fun _=>⟨rfl,by omega,by omega⟩)).setCell _ (fun _=>⟨rfl,by omega,by omega⟩)),(((H.set 1 rfl _).set 2 rfl _).set 3 rfl _)⟩ ?_
 clear C H e1 f1 e2 f2 e3 f3
 rintro W ⟨C,H⟩
 have e4:=(H 4 (by simp)).1
 have f4:=(H 4 (by simp)).2
 simp at e4 f4
 have e5:=(H 5 (by simp)).1
 have f5:=(H 5 (by simp)).2
 simp at e5 f5
 have e6:=(H 6 (by simp)).1
 have f6:=(H 6 (by simp)).2
 simp at e6 f6
 obtain ⟨s240,s241,s242,s243,s244,s245,s246,s247,s248,s249,s250,s251,-⟩:=sz hT [240,241,242,243,244,245,246,247,248,249,250,251] rfl
 repeat ((fail_if_success with_reducible show wpList _ _ _ (⟨some 252,_,_,_,_,_⟩ :: _) _ _);(first | go_values | go_skip | go_guarded | go_step | go_upon | dsimp only))
 refine oG (Fr 352 [(0,Ptr bv ov),(21,.int .u8 (x0 / 256 / 256 / 256 / 256 / 256 / 256 / 256 % 256)),(22,.int .u8 (x1 % 256)),(24,.int .u8 (x1 / 256 % 256)),(26,.int .u8 (x1 / 256 / 256 % 256)),(28,.int .u8 (x1 / 256 / 256 / 256 % 256)),(30,.int .u8 (x1 / 256 / 256 / 256 / 256 % 256)),(32,.int .u8 (x1 / 256 / 256 / 256 / 256 / 256 % 256)),(34,.int .u8 (x1 / 256 / 256 / 256 / 256 / 256 / 256 % 256)),(35,.int .u8 (x1 / 256 / 256 / 256 / 256 / 256 / 256 / 256 % 256)),(36,.int .u8 (x2 % 256)),(38,.int .u8 (x2 / 256 % 256)),(40,.int .u8 (x2 / 256 / 256 % 256)),(42,.int .u8 (x2 / 256 / 256 / 256 % 256)),(44,.int .u8 (x2 / 256 / 256 / 256 / 256 % 256)),(46,.int .u8 (x2 / 256 / 256 / 256 / 256 / 256 % 256)),(48,.int .u8 (x2 / 256 / 256 / 256 / 256 / 256 / 256 % 256)),(49,.int .u8 (x2 / 256 / 256 / 256 / 256 / 256 / 256 / 256 % 256)),(50,.int .u8 (x3 % 256)),(52,.int .u8 (x3 / 256 % 256)),(54,.int .u8 (x3 / 256 / 256 % 256)),(56,.int .u8 (x3 / 256 / 256 / 256 % 256)),(58,.int .u8 (x3 / 256 / 256 / 256 / 256 % 256)),(60,.int .u8 (x3 / 256 / 256 / 256 / 256 / 256 % 256)),(62,.int .u8 (x3 / 256 / 256 / 256 / 256 / 256 / 256 % 256)),(63,.int .u8 (x3 / 256 / 256 / 256 / 256 / 256 / 256 / 256 % 256))] []) (by refine ⟨hd (by simp [hT.out]),?_⟩;simp [Fx,Fu, *]<;>omega) ?_
 clear hT t0 t16 t18 t20 t21 t22 t24 t26 t28 t30 t32 t34 t35 t36 t38 t40 t42 t44 t46 t48 t49 t50 t52 t54 t56 t58 t60 t62 t63 s240 s241 s242 s243 s244 s245 s246 s247 s248 s249 s250 s251
 rintro T ⟨hT,⟨t0,t21,t22,t24,t26,t28,t30,t32,t34,t35,t36,t38,t40,t42,t44,t46,t48,t49,t50,t52,t54,t56,t58,t60,t62,t63,-⟩,-⟩
 refine pG (fun W=>Chg (Rg bv ov 32) w W∧Has W bv ov [.int .u8 (x0 % 256),.int .u8 (x0 / 256 % 256),.int .u8 (x0 / 256 / 256 % 256),.int .u8 (x0 / 256 / 256 / 256 % 256),.int .u8 (x0 / 256 / 256 / 256 / 256 % 256),.int .u8 (x0 / 256 / 256 / 256 / 256 / 256 % 256),.int .u8 (x0 / 256 / 256 / 256 / 256 / 256 / 256 % 256),v 7,v 8,v 9,v 10,v 11,v 12,v 13,v 14,v 15,v 16,v 17,v 18,v 19,v 20,v 21,v 22,v 23,v 24,v 25,v 26,v 27,v 28,v 29,v 30,v 31]) ⟨(((C.setCell _ (fun _=>⟨rfl,by omega,by omega⟩)).setCell _ (fun _=>⟨rfl,by omega,by omega⟩)).setCell _ (fun _=>⟨rfl,by omega,by omega⟩)),(((H.set 4 rfl _).set 5 rfl _).set 6 rfl _)⟩ ?_
 clear C H e4 f4 e5 f5 e6 f6
 rintro W ⟨C,H⟩
 have e7:=(H 7 (by simp)).1
 have f7:=(H 7 (by simp)).2
 simp at e7 f7
 have e8:=(H 8 (by simp)).1
 have f8:=(H 8 (by simp)).2
 simp at e8 f8
 have e9:=(H 9 (by simp)).1
 have f9:=(H 9 (by simp)).2
 simp at e9 f9
 obtain ⟨s252,s253,s254,s255,s256,s257,s258,s259,s260,s261,s262,s263,-⟩:=sz hT [252,253,254,255,256,257,258,259,260,261,262,263] rfl
 repeat ((fail_if_success with_reducible show wpList _ _ _ (⟨some 264,_,_,_,_,_⟩ :: _) _ _);(first | go_values | go_skip | go_guarded | go_step | go_upon | dsimp only))
 refine oG (Fr 352 [(0,Ptr bv ov),(26,.int .u8 (x1 / 256 / 256 % 256)),(28,.int .u8 (x1 / 256 / 256 / 256 % 256)),(30,.int .u8 (x1 / 256 / 256 / 256 / 256 % 256)),(32,.int .u8 (x1 / 256 / 256 / 256 / 256 / 256 % 256)),(34,.int .u8 (x1 / 256 / 256 / 256 / 256 / 256 / 256 % 256)),(35,.int .u8 (x1 / 256 / 256 / 256 / 256 / 256 / 256 / 256 % 256)),(36,.int .u8 (x2 % 256)),(38,.int .u8 (x2 / 256 % 256)),(40,.int .u8 (x2 / 256 / 256 % 256)),(42,.int .u8 (x2 / 256 / 256 / 256 % 256)),(44,.int .u8 (x2 / 256 / 256 / 256 / 256 % 256)),(46,.int .u8 (x2 / 256 / 256 / 256 / 256 / 256 % 256)),(48,.int .u8 (x2 / 256 / 256 / 256 / 256 / 256 / 256 % 256)),(49,.int .u8 (x2 / 256 / 256 / 256 / 256 / 256 / 256 / 256 % 256)),(50,.int .u8 (x3 % 256)),(52,.int .u8 (x3 / 256 % 256)),(54,.int .u8 (x3 / 256 / 256 % 256)),(56,.int .u8 (x3 / 256 / 256 / 256 % 256)),(58,.int .u8 (x3 / 256 / 256 / 256 / 256 % 256)),(60,.int .u8 (x3 / 256 / 256 / 256 / 256 / 256 % 256)),(62,.int .u8 (x3 / 256 / 256 / 256 / 256 / 256 / 256 % 256)),(63,.int .u8 (x3 / 256 / 256 / 256 / 256 / 256 / 256 / 256 % 256))] []) (by refine ⟨hd (by simp [hT.out]),?_⟩;simp [Fx,Fu, *]<;>omega) ?_
 clear hT t0 t21 t22 t24 t26 t28 t30 t32 t34 t35 t36 t38 t40 t42 t44 t46 t48 t49 t50 t52 t54 t56 t58 t60 t62 t63 s252 s253 s254 s255 s256 s257 s258 s259 s260 s261 s262 s263
 rintro T ⟨hT,⟨t0,t26,t28,t30,t32,t34,t35,t36,t38,t40,t42,t44,t46,t48,t49,t50,t52,t54,t56,t58,t60,t62,t63,-⟩,-⟩
 refine pG (fun W=>Chg (Rg bv ov 32) w W∧Has W bv ov [.int .u8 (x0 % 256),.int .u8 (x0 / 256 % 256),.int .u8 (x0 / 256 / 256 % 256),.int .u8 (x0 / 256 / 256 / 256 % 256),.int .u8 (x0 / 256 / 256 / 256 / 256 % 256),.int .u8 (x0 / 256 / 256 / 256 / 256 / 256 % 256),.int .u8 (x0 / 256 / 256 / 256 / 256 / 256 / 256 % 256),.int .u8 (x0 / 256 / 256 / 256 / 256 / 256 / 256 / 256 % 256),.int .u8 (x1 % 256),.int .u8 (x1 / 256 % 256),v 10,v 11,v 12,v 13,v 14,v 15,v 16,v 17,v 18,v 19,v 20,v 21,v 22,v 23,v 24,v 25,v 26,v 27,v 28,v 29,v 30,v 31]) ⟨(((C.setCell _ (fun _=>⟨rfl,by omega,by omega⟩)).setCell _ (fun _=>⟨rfl,by omega,by omega⟩)).setCell _ (fun _=>⟨rfl,by omega,by omega⟩)),(((H.set 7 rfl _).set 8 rfl _).set 9 rfl _)⟩ ?_
 clear C H e7 f7 e8 f8 e9 f9
 rintro W ⟨C,H⟩
 have e10:=(H 10 (by simp)).1
 have f10:=(H 10 (by simp)).2
 simp at e10 f10
 have e11:=(H 11 (by simp)).1
 have f11:=(H 11 (by simp)).2
 simp at e11 f11
 have e12:=(H 12 (by simp)).1
 have f12:=(H 12 (by simp)).2
 simp at e12 f12
 obtain ⟨s264,s265,s266,s267,s268,s269,s270,s271,s272,s273,s274,s275,-⟩:=sz hT [264,265,266,267,268,269,270,271,272,273,274,275] rfl
 repeat ((fail_if_success with_reducible show wpList _ _ _ (⟨some 276,_,_,_,_,_⟩ :: _) _ _);(first | go_values | go_skip | go_guarded | go_step | go_upon | dsimp only))
 refine oG (Fr 352 [(0,Ptr bv ov),(32,.int .u8 (x1 / 256 / 256 / 256 / 256 / 256 % 256)),(34,.int .u8 (x1 / 256 / 256 / 256 / 256 / 256 / 256 % 256)),(35,.int .u8 (x1 / 256 / 256 / 256 / 256 / 256 / 256 / 256 % 256)),(36,.int .u8 (x2 % 256)),(38,.int .u8 (x2 / 256 % 256)),(40,.int .u8 (x2 / 256 / 256 % 256)),(42,.int .u8 (x2 / 256 / 256 / 256 % 256)),(44,.int .u8 (x2 / 256 / 256 / 256 / 256 % 256)),(46,.int .u8 (x2 / 256 / 256 / 256 / 256 / 256 % 256)),(48,.int .u8 (x2 / 256 / 256 / 256 / 256 / 256 / 256 % 256)),(49,.int .u8 (x2 / 256 / 256 / 256 / 256 / 256 / 256 / 256 % 256)),(50,.int .u8 (x3 % 256)),(52,.int .u8 (x3 / 256 % 256)),(54,.int .u8 (x3 / 256 / 256 % 256)),(56,.int .u8 (x3 / 256 / 256 / 256 % 256)),(58,.int .u8 (x3 / 256 / 256 / 256 / 256 % 256)),(60,.int .u8 (x3 / 256 / 256 / 256 / 256 / 256 % 256)),(62,.int .u8 (x3 / 256 / 256 / 256 / 256 / 256 / 256 % 256)),(63,.int .u8 (x3 / 256 / 256 / 256 / 256 / 256 / 256 / 256 % 256))] []) (by refine ⟨hd (by simp [hT.out]),?_⟩;simp [Fx,Fu, *]<;>omega) ?_
 clear hT t0 t26 t28 t30 t32 t34 t35 t36 t38 t40 t42 t44 t46 t48 t49 t50 t52 t54 t56 t58 t60 t62 t63 s264 s265 s266 s267 s268 s269 s270 s271 s272 s273 s274 s275
 rintro T ⟨hT,⟨t0,t32,t34,t35,t36,t38,t40,t42,t44,t46,t48,t49,t50,t52,t54,t56,t58,t60,t62,t63,-⟩,-⟩
 refine pG (fun W=>Chg (Rg bv ov 32) w W∧Has W bv ov [.int .u8 (x0 % 256),.int .u8 (x0 / 256 % 256),.int .u8 (x0 / 256 / 256 % 256),.int .u8 (x0 / 256 / 256 / 256 % 256),.int .u8 (x0 / 256 / 256 / 256 / 256 % 256),.int .u8 (x0 / 256 / 256 / 256 / 256 / 256 % 256),.int .u8 (x0 / 256 / 256 / 256 / 256 / 256 / 256 % 256),.int .u8 (x0 / 256 / 256 / 256 / 256 / 256 / 256 / 256 % 256),.int .u8 (x1 % 256),.int .u8 (x1 / 256 % 256),.int .u8 (x1 / 256 / 256 % 256),.int .u8 (x1 / 256 / 256 / 256 % 256),.int .u8 (x1 / 256 / 256 / 256 / 256 % 256),v 13,v 14,v 15,v 16,v 17,v 18,v 19,v 20,v 21,v 22,v 23,v 24,v 25,v 26,v 27,v 28,v 29,v 30,v 31]) ⟨(((C.setCell _ (fun _=>⟨rfl,by omega,by omega⟩)).setCell _ (fun _=>⟨rfl,by omega,by omega⟩)).setCell _ (fun _=>⟨rfl,by omega,by omega⟩)),(((H.set 10 rfl _).set 11 rfl _).set 12 rfl _)⟩ ?_
 clear C H e10 f10 e11 f11 e12 f12
 rintro W ⟨C,H⟩
 have e13:=(H 13 (by simp)).1
 have f13:=(H 13 (by simp)).2
 simp at e13 f13
 have e14:=(H 14 (by simp)).1
 have f14:=(H 14 (by simp)).2
 simp at e14 f14
 have e15:=(H 15 (by simp)).1
 have f15:=(H 15 (by simp)).2
 simp at e15 f15
 obtain ⟨s276,s277,s278,s279,s280,s281,s282,s283,s284,s285,s286,s287,-⟩:=sz hT [276,277,278,279,280,281,282,283,284,285,286,287] rfl
 repeat ((fail_if_success with_reducible show wpList _ _ _ (⟨some 288,_,_,_,_,_⟩ :: _) _ _);(first | go_values | go_skip | go_guarded | go_step | go_upon | dsimp only))
 refine oG (Fr 352 [(0,Ptr bv ov),(36,.int .u8 (x2 % 256)),(38,.int .u8 (x2 / 256 % 256)),(40,.int .u8 (x2 / 256 / 256 % 256)),(42,.int .u8 (x2 / 256 / 256 / 256 % 256)),(44,.int .u8 (x2 / 256 / 256 / 256 / 256 % 256)),(46,.int .u8 (x2 / 256 / 256 / 256 / 256 / 256 % 256)),(48,.int .u8 (x2 / 256 / 256 / 256 / 256 / 256 / 256 % 256)),(49,.int .u8 (x2 / 256 / 256 / 256 / 256 / 256 / 256 / 256 % 256)),(50,.int .u8 (x3 % 256)),(52,.int .u8 (x3 / 256 % 256)),(54,.int .u8 (x3 / 256 / 256 % 256)),(56,.int .u8 (x3 / 256 / 256 / 256 % 256)),(58,.int .u8 (x3 / 256 / 256 / 256 / 256 % 256)),(60,.int .u8 (x3 / 256 / 256 / 256 / 256 / 256 % 256)),(62,.int .u8 (x3 / 256 / 256 / 256 / 256 / 256 / 256 % 256)),(63,.int .u8 (x3 / 256 / 256 / 256 / 256 / 256 / 256 / 256 % 256))] []) (by refine ⟨hd (by simp [hT.out]),?_⟩;simp [Fx,Fu, *]<;>omega) ?_
 clear hT t0 t32 t34 t35 t36 t38 t40 t42 t44 t46 t48 t49 t50 t52 t54 t56 t58 t60 t62 t63 s276 s277 s278 s279 s280 s281 s282 s283 s284 s285 s286 s287
 rintro T ⟨hT,⟨t0,t36,t38,t40,t42,t44,t46,t48,t49,t50,t52,t54,t56,t58,t60,t62,t63,-⟩,-⟩
 refine pG (fun W=>Chg (Rg bv ov 32) w W∧Has W bv ov [.int .u8 (x0 % 256),.int .u8 (x0 / 256 % 256),.int .u8 (x0 / 256 / 256 % 256),.int .u8 (x0 / 256 / 256 / 256 % 256),.int .u8 (x0 / 256 / 256 / 256 / 256 % 256),.int .u8 (x0 / 256 / 256 / 256 / 256 / 256 % 256),.int .u8 (x0 / 256 / 256 / 256 / 256 / 256 / 256 % 256),.int .u8 (x0 / 256 / 256 / 256 / 256 / 256 / 256 / 256 % 256),.int .u8 (x1 % 256),.int .u8 (x1 / 256 % 256),.int .u8 (x1 / 256 / 256 % 256),.int .u8 (x1 / 256 / 256 / 256 % 256),.int .u8 (x1 / 256 / 256 / 256 / 256 % 256),.int .u8 (x1 / 256 / 256 / 256 / 256 / 256 % 256),.int .u8 (x1 / 256 / 256 / 256 / 256 / 256 / 256 % 256),.int .u8 (x1 / 256 / 256 / 256 / 256 / 256 / 256 / 256 % 256),v 16,v 17,v 18,v 19,v 20,v 21,v 22,v 23,v 24,v 25,v 26,v 27,v 28,v 29,v 30,v 31]) ⟨(((C.setCell _ (fun _=>⟨rfl,by omega,by omega⟩)).setCell _ (fun _=>⟨rfl,by omega,by omega⟩)).setCell _ (fun _=>⟨rfl,by omega,by omega⟩)),(((H.set 13 rfl _).set 14 rfl _).set 15 rfl _)⟩ ?_
 clear C H e13 f13 e14 f14 e15 f15
 rintro W ⟨C,H⟩
 have e16:=(H 16 (by simp)).1
 have f16:=(H 16 (by simp)).2
 simp at e16 f16
 have e17:=(H 17 (by simp)).1
 have f17:=(H 17 (by simp)).2
 simp at e17 f17
 have e18:=(H 18 (by simp)).1
 have f18:=(H 18 (by simp)).2
 simp at e18 f18
 obtain ⟨s288,s289,s290,s291,s292,s293,s294,s295,s296,s297,s298,s299,-⟩:=sz hT [288,289,290,291,292,293,294,295,296,297,298,299] rfl
 repeat ((fail_if_success with_reducible show wpList _ _ _ (⟨some 300,_,_,_,_,_⟩ :: _) _ _);(first | go_values | go_skip | go_guarded | go_step | go_upon | dsimp only))
 refine oG (Fr 352 [(0,Ptr bv ov),(42,.int .u8 (x2 / 256 / 256 / 256 % 256)),(44,.int .u8 (x2 / 256 / 256 / 256 / 256 % 256)),(46,.int .u8 (x2 / 256 / 256 / 256 / 256 / 256 % 256)),(48,.int .u8 (x2 / 256 / 256 / 256 / 256 / 256 / 256 % 256)),(49,.int .u8 (x2 / 256 / 256 / 256 / 256 / 256 / 256 / 256 % 256)),(50,.int .u8 (x3 % 256)),(52,.int .u8 (x3 / 256 % 256)),(54,.int .u8 (x3 / 256 / 256 % 256)),(56,.int .u8 (x3 / 256 / 256 / 256 % 256)),(58,.int .u8 (x3 / 256 / 256 / 256 / 256 % 256)),(60,.int .u8 (x3 / 256 / 256 / 256 / 256 / 256 % 256)),(62,.int .u8 (x3 / 256 / 256 / 256 / 256 / 256 / 256 % 256)),(63,.int .u8 (x3 / 256 / 256 / 256 / 256 / 256 / 256 / 256 % 256))] []) (by refine ⟨hd (by simp [hT.out]),?_⟩;simp [Fx,Fu, *]<;>omega) ?_
 clear hT t0 t36 t38 t40 t42 t44 t46 t48 t49 t50 t52 t54 t56 t58 t60 t62 t63 s288 s289 s290 s291 s292 s293 s294 s295 s296 s297 s298 s299
 rintro T ⟨hT,⟨t0,t42,t44,t46,t48,t49,t50,t52,t54,t56,t58,t60,t62,t63,-⟩,-⟩
 refine pG (fun W=>Chg (Rg bv ov 32) w W∧Has W bv ov [.int .u8 (x0 % 256),.int .u8 (x0 / 256 % 256),.int .u8 (x0 / 256 / 256 % 256),.int .u8 (x0 / 256 / 256 / 256 % 256),.int .u8 (x0 / 256 / 256 / 256 / 256 % 256),.int .u8 (x0 / 256 / 256 / 256 / 256 / 256 % 256),.int .u8 (x0 / 256 / 256 / 256 / 256 / 256 / 256 % 256),.int .u8 (x0 / 256 / 256 / 256 / 256 / 256 / 256 / 256 % 256),.int .u8 (x1 % 256),.int .u8 (x1 / 256 % 256),.int .u8 (x1 / 256 / 256 % 256),.int .u8 (x1 / 256 / 256 / 256 % 256),.int .u8 (x1 / 256 / 256 / 256 / 256 % 256),.int .u8 (x1 / 256 / 256 / 256 / 256 / 256 % 256),.int .u8 (x1 / 256 / 256 / 256 / 256 / 256 / 256 % 256),.int .u8 (x1 / 256 / 256 / 256 / 256 / 256 / 256 / 256 % 256),.int .u8 (x2 % 256),.int .u8 (x2 / 256 % 256),.int .u8 (x2 / 256 / 256 % 256),v 19,v 20,v 21,v 22,v 23,v 24,v 25,v 26,v 27,v 28,v 29,v 30,v 31]) ⟨(((C.setCell _ (fun _=>⟨rfl,by omega,by omega⟩)).setCell _ (fun _=>⟨rfl,by omega,by omega⟩)).setCell _ (fun _=>⟨rfl,by omega,by omega⟩)),(((H.set 16 rfl _).set 17 rfl _).set 18 rfl _)⟩ ?_
 clear C H e16 f16 e17 f17 e18 f18
 rintro W ⟨C,H⟩
 have e19:=(H 19 (by simp)).1
 have f19:=(H 19 (by simp)).2
 simp at e19 f19
 have e20:=(H 20 (by simp)).1
 have f20:=(H 20 (by simp)).2
 simp at e20 f20
 have e21:=(H 21 (by simp)).1
 have f21:=(H 21 (by simp)).2
 simp at e21 f21
 obtain ⟨s300,s301,s302,s303,s304,s305,s306,s307,s308,s309,s310,s311,-⟩:=sz hT [300,301,302,303,304,305,306,307,308,309,310,311] rfl
 repeat ((fail_if_success with_reducible show wpList _ _ _ (⟨some 312,_,_,_,_,_⟩ :: _) _ _);(first | go_values | go_skip | go_guarded | go_step | go_upon | dsimp only))
 refine oG (Fr 352 [(0,Ptr bv ov),(48,.int .u8 (x2 / 256 / 256 / 256 / 256 / 256 / 256 % 256)),(49,.int .u8 (x2 / 256 / 256 / 256 / 256 / 256 / 256 / 256 % 256)),(50,.int .u8 (x3 % 256)),(52,.int .u8 (x3 / 256 % 256)),(54,.int .u8 (x3 / 256 / 256 % 256)),(56,.int .u8 (x3 / 256 / 256 / 256 % 256)),(58,.int .u8 (x3 / 256 / 256 / 256 / 256 % 256)),(60,.int .u8 (x3 / 256 / 256 / 256 / 256 / 256 % 256)),(62,.int .u8 (x3 / 256 / 256 / 256 / 256 / 256 / 256 % 256)),(63,.int .u8 (x3 / 256 / 256 / 256 / 256 / 256 / 256 / 256 % 256))] []) (by refine ⟨hd (by simp [hT.out]),?_⟩;simp [Fx,Fu, *]<;>omega) ?_
 clear hT t0 t42 t44 t46 t48 t49 t50 t52 t54 t56 t58 t60 t62 t63 s300 s301 s302 s303 s304 s305 s306 s307 s308 s309 s310 s311
 rintro T ⟨hT,⟨t0,t48,t49,t50,t52,t54,t56,t58,t60,t62,t63,-⟩,-⟩
 refine pG (fun W=>Chg (Rg bv ov 32) w W∧Has W bv ov [.int .u8 (x0 % 256),.int .u8 (x0 / 256 % 256),.int .u8 (x0 / 256 / 256 % 256),.int .u8 (x0 / 256 / 256 / 256 % 256),.int .u8 (x0 / 256 / 256 / 256 / 256 % 256),.int .u8 (x0 / 256 / 256 / 256 / 256 / 256 % 256),.int .u8 (x0 / 256 / 256 / 256 / 256 / 256 / 256 % 256),.int .u8 (x0 / 256 / 256 / 256 / 256 / 256 / 256 / 256 % 256),.int .u8 (x1 % 256),.int .u8 (x1 / 256 % 256),.int .u8 (x1 / 256 / 256 % 256),.int .u8 (x1 / 256 / 256 / 256 % 256),.int .u8 (x1 / 256 / 256 / 256 / 256 % 256),.int .u8 (x1 / 256 / 256 / 256 / 256 / 256 % 256),.int .u8 (x1 / 256 / 256 / 256 / 256 / 256 / 256 % 256),.int .u8 (x1 / 256 / 256 / 256 / 256 / 256 / 256 / 256 % 256),.int .u8 (x2 % 256),.int .u8 (x2 / 256 % 256),.int .u8 (x2 / 256 / 256 % 256),.int .u8 (x2 / 256 / 256 / 256 % 256),.int .u8 (x2 / 256 / 256 / 256 / 256 % 256),.int .u8 (x2 / 256 / 256 / 256 / 256 / 256 % 256),v 22,v 23,v 24,v 25,v 26,v 27,v 28,v 29,v 30,v 31]) ⟨(((C.setCell _ (fun _=>⟨rfl,by omega,by omega⟩)).setCell _ (fun _=>⟨rfl,by omega,by omega⟩)).setCell _ (fun _=>⟨rfl,by omega,by omega⟩)),(((H.set 19 rfl _).set 20 rfl _).set 21 rfl _)⟩ ?_
 clear C H e19 f19 e20 f20 e21 f21
 rintro W ⟨C,H⟩
 have e22:=(H 22 (by simp)).1
 have f22:=(H 22 (by simp)).2
 simp at e22 f22
 have e23:=(H 23 (by simp)).1
 have f23:=(H 23 (by simp)).2
 simp at e23 f23
 have e24:=(H 24 (by simp)).1
 have f24:=(H 24 (by simp)).2
 simp at e24 f24
 obtain ⟨s312,s313,s314,s315,s316,s317,s318,s319,s320,s321,s322,s323,-⟩:=sz hT [312,313,314,315,316,317,318,319,320,321,322,323] rfl
 repeat ((fail_if_success with_reducible show wpList _ _ _ (⟨some 324,_,_,_,_,_⟩ :: _) _ _);(first | go_values | go_skip | go_guarded | go_step | go_upon | dsimp only))
 refine oG (Fr 352 [(0,Ptr bv ov),(52,.int .u8 (x3 / 256 % 256)),(54,.int .u8 (x3 / 256 / 256 % 256)),(56,.int .u8 (x3 / 256 / 256 / 256 % 256)),(58,.int .u8 (x3 / 256 / 256 / 256 / 256 % 256)),(60,.int .u8 (x3 / 256 / 256 / 256 / 256 / 256 % 256)),(62,.int .u8 (x3 / 256 / 256 / 256 / 256 / 256 / 256 % 256)),(63,.int .u8 (x3 / 256 / 256 / 256 / 256 / 256 / 256 / 256 % 256))] []) (by refine ⟨hd (by simp [hT.out]),?_⟩;simp [Fx,Fu, *]<;>omega) ?_
 clear hT t0 t48 t49 t50 t52 t54 t56 t58 t60 t62 t63 s312 s313 s314 s315 s316 s317 s318 s319 s320 s321 s322 s323
 rintro T ⟨hT,⟨t0,t52,t54,t56,t58,t60,t62,t63,-⟩,-⟩
 refine pG (fun W=>Chg (Rg bv ov 32) w W∧Has W bv ov [.int .u8 (x0 % 256),.int .u8 (x0 / 256 % 256),.int .u8 (x0 / 256 / 256 % 256),.int .u8 (x0 / 256 / 256 / 256 % 256),.int .u8 (x0 / 256 / 256 / 256 / 256 % 256),.int .u8 (x0 / 256 / 256 / 256 / 256 / 256 % 256),.int .u8 (x0 / 256 / 256 / 256 / 256 / 256 / 256 % 256),.int .u8 (x0 / 256 / 256 / 256 / 256 / 256 / 256 / 256 % 256),.int .u8 (x1 % 256),.int .u8 (x1 / 256 % 256),.int .u8 (x1 / 256 / 256 % 256),.int .u8 (x1 / 256 / 256 / 256 % 256),.int .u8 (x1 / 256 / 256 / 256 / 256 % 256),.int .u8 (x1 / 256 / 256 / 256 / 256 / 256 % 256),.int .u8 (x1 / 256 / 256 / 256 / 256 / 256 / 256 % 256),.int .u8 (x1 / 256 / 256 / 256 / 256 / 256 / 256 / 256 % 256),.int .u8 (x2 % 256),.int .u8 (x2 / 256 % 256),.int .u8 (x2 / 256 / 256 % 256),.int .u8 (x2 / 256 / 256 / 256 % 256),.int .u8 (x2 / 256 / 256 / 256 / 256 % 256),.int .u8 (x2 / 256 / 256 / 256 / 256 / 256 % 256),.int .u8 (x2 / 256 / 256 / 256 / 256 / 256 / 256 % 256),.int .u8 (x2 / 256 / 256 / 256 / 256 / 256 / 256 / 256 % 256),.int .u8 (x3 % 256),v 25,v 26,v 27,v 28,v 29,v 30,v 31]) ⟨(((C.setCell _ (fun _=>⟨rfl,by omega,by omega⟩)).setCell _ (fun _=>⟨rfl,by omega,by omega⟩)).setCell _ (fun _=>⟨rfl,by omega,by omega⟩)),(((H.set 22 rfl _).set 23 rfl _).set 24 rfl _)⟩ ?_
 clear C H e22 f22 e23 f23 e24 f24
 rintro W ⟨C,H⟩
 have e25:=(H 25 (by simp)).1
 have f25:=(H 25 (by simp)).2
 simp at e25 f25
 have e26:=(H 26 (by simp)).1
 have f26:=(H 26 (by simp)).2
 simp at e26 f26
 have e27:=(H 27 (by simp)).1
 have f27:=(H 27 (by simp)).2
 simp at e27 f27
 obtain ⟨s324,s325,s326,s327,s328,s329,s330,s331,s332,s333,s334,s335,-⟩:=sz hT [324,325,326,327,328,329,330,331,332,333,334,335] rfl
 repeat ((fail_if_success with_reducible show wpList _ _ _ (⟨some 336,_,_,_,_,_⟩ :: _) _ _);(first | go_values | go_skip | go_guarded | go_step | go_upon | dsimp only))
 refine oG (Fr 352 [(0,Ptr bv ov),(58,.int .u8 (x3 / 256 / 256 / 256 / 256 % 256)),(60,.int .u8 (x3 / 256 / 256 / 256 / 256 / 256 % 256)),(62,.int .u8 (x3 / 256 / 256 / 256 / 256 / 256 / 256 % 256)),(63,.int .u8 (x3 / 256 / 256 / 256 / 256 / 256 / 256 / 256 % 256))] []) (by refine ⟨hd (by simp [hT.out]),?_⟩;simp [Fx,Fu, *]<;>omega) ?_
 clear hT t0 t52 t54 t56 t58 t60 t62 t63 s324 s325 s326 s327 s328 s329 s330 s331 s332 s333 s334 s335
 rintro T ⟨hT,⟨t0,t58,t60,t62,t63,-⟩,-⟩
 refine pG (fun W=>Chg (Rg bv ov 32) w W∧Has W bv ov [.int .u8 (x0 % 256),.int .u8 (x0 / 256 % 256),.int .u8 (x0 / 256 / 256 % 256),.int .u8 (x0 / 256 / 256 / 256 % 256),.int .u8 (x0 / 256 / 256 / 256 / 256 % 256),.int .u8 (x0 / 256 / 256 / 256 / 256 / 256 % 256),.int .u8 (x0 / 256 / 256 / 256 / 256 / 256 / 256 % 256),.int .u8 (x0 / 256 / 256 / 256 / 256 / 256 / 256 / 256 % 256),.int .u8 (x1 % 256),.int .u8 (x1 / 256 % 256),.int .u8 (x1 / 256 / 256 % 256),.int .u8 (x1 / 256 / 256 / 256 % 256),.int .u8 (x1 / 256 / 256 / 256 / 256 % 256),.int .u8 (x1 / 256 / 256 / 256 / 256 / 256 % 256),.int .u8 (x1 / 256 / 256 / 256 / 256 / 256 / 256 % 256),.int .u8 (x1 / 256 / 256 / 256 / 256 / 256 / 256 / 256 % 256),.int .u8 (x2 % 256),.int .u8 (x2 / 256 % 256),.int .u8 (x2 / 256 / 256 % 256),.int .u8 (x2 / 256 / 256 / 256 % 256),.int .u8 (x2 / 256 / 256 / 256 / 256 % 256),.int .u8 (x2 / 256 / 256 / 256 / 256 / 256 % 256),.int .u8 (x2 / 256 / 256 / 256 / 256 / 256 / 256 % 256),.int .u8 (x2 / 256 / 256 / 256 / 256 / 256 / 256 / 256 % 256),.int .u8 (x3 % 256),.int .u8 (x3 / 256 % 256),.int .u8 (x3 / 256 / 256 % 256),.int .u8 (x3 / 256 / 256 / 256 % 256),v 28,v 29,v 30,v 31]) ⟨(((C.setCell _ (fun _=>⟨rfl,by omega,by omega⟩)).setCell _ (fun _=>⟨rfl,by omega,by omega⟩)).setCell _ (fun _=>⟨rfl,by omega,by omega⟩)),(((H.set 25 rfl _).set 26 rfl _).set 27 rfl _)⟩ ?_
 clear C H e25 f25 e26 f26 e27 f27
 rintro W ⟨C,H⟩
 have e28:=(H 28 (by simp)).1
 have f28:=(H 28 (by simp)).2
 simp at e28 f28
 have e29:=(H 29 (by simp)).1
 have f29:=(H 29 (by simp)).2
 simp at e29 f29
 have e30:=(H 30 (by simp)).1
 have f30:=(H 30 (by simp)).2
 simp at e30 f30
 obtain ⟨s336,s337,s338,s339,s340,s341,s342,s343,s344,s345,s346,s347,-⟩:=sz hT [336,337,338,339,340,341,342,343,344,345,346,347] rfl
 repeat ((fail_if_success with_reducible show wpList _ _ _ (⟨some 348,_,_,_,_,_⟩ :: _) _ _);(first | go_values | go_skip | go_guarded | go_step | go_upon | dsimp only))
 refine oG (Fr 352 [(0,Ptr bv ov),(63,.int .u8 (x3 / 256 / 256 / 256 / 256 / 256 / 256 / 256 % 256))] []) (by refine ⟨hd (by simp [hT.out]),?_⟩;simp [Fx,Fu, *]<;>omega) ?_
 clear hT t0 t58 t60 t62 t63 s336 s337 s338 s339 s340 s341 s342 s343 s344 s345 s346 s347
 rintro T ⟨hT,⟨t0,t63,-⟩,-⟩
 refine pG (fun W=>Chg (Rg bv ov 32) w W∧Has W bv ov [.int .u8 (x0 % 256),.int .u8 (x0 / 256 % 256),.int .u8 (x0 / 256 / 256 % 256),.int .u8 (x0 / 256 / 256 / 256 % 256),.int .u8 (x0 / 256 / 256 / 256 / 256 % 256),.int .u8 (x0 / 256 / 256 / 256 / 256 / 256 % 256),.int .u8 (x0 / 256 / 256 / 256 / 256 / 256 / 256 % 256),.int .u8 (x0 / 256 / 256 / 256 / 256 / 256 / 256 / 256 % 256),.int .u8 (x1 % 256),.int .u8 (x1 / 256 % 256),.int .u8 (x1 / 256 / 256 % 256),.int .u8 (x1 / 256 / 256 / 256 % 256),.int .u8 (x1 / 256 / 256 / 256 / 256 % 256),.int .u8 (x1 / 256 / 256 / 256 / 256 / 256 % 256),.int .u8 (x1 / 256 / 256 / 256 / 256 / 256 / 256 % 256),.int .u8 (x1 / 256 / 256 / 256 / 256 / 256 / 256 / 256 % 256),.int .u8 (x2 % 256),.int .u8 (x2 / 256 % 256),.int .u8 (x2 / 256 / 256 % 256),.int .u8 (x2 / 256 / 256 / 256 % 256),.int .u8 (x2 / 256 / 256 / 256 / 256 % 256),.int .u8 (x2 / 256 / 256 / 256 / 256 / 256 % 256),.int .u8 (x2 / 256 / 256 / 256 / 256 / 256 / 256 % 256),.int .u8 (x2 / 256 / 256 / 256 / 256 / 256 / 256 / 256 % 256),.int .u8 (x3 % 256),.int .u8 (x3 / 256 % 256),.int .u8 (x3 / 256 / 256 % 256),.int .u8 (x3 / 256 / 256 / 256 % 256),.int .u8 (x3 / 256 / 256 / 256 / 256 % 256),.int .u8 (x3 / 256 / 256 / 256 / 256 / 256 % 256),.int .u8 (x3 / 256 / 256 / 256 / 256 / 256 / 256 % 256),v 31]) ⟨(((C.setCell _ (fun _=>⟨rfl,by omega,by omega⟩)).setCell _ (fun _=>⟨rfl,by omega,by omega⟩)).setCell _ (fun _=>⟨rfl,by omega,by omega⟩)),(((H.set 28 rfl _).set 29 rfl _).set 30 rfl _)⟩ ?_
 clear C H e28 f28 e29 f29 e30 f30
 rintro W ⟨C,H⟩
 have e31:=(H 31 (by simp)).1
 have f31:=(H 31 (by simp)).2
 simp at e31 f31
 obtain ⟨s348,s349,s350,s351,-⟩:=sz hT [348,349,350,351] rfl
 go_wp2_with fail
 go_end0
 exact ⟨rfl,(C.setCell _ (fun _=>⟨rfl,by omega,by omega⟩)),(H.set 31 rfl _)⟩
end Go.Proofs.Ed
