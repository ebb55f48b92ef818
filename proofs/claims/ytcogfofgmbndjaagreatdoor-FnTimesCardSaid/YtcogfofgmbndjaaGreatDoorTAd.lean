/- A part of the proof of the tied card of FnTimes: Fe3. -/
import Derived.Test.YtcogfofgmbndjaaGreatDoorProg
import Derived.WalkKit
import Derived.WalkSpells
import Derived.WalkLawsBesides
import Derived.Outline
import Derived.StillTailTactics
import Derived.Test.YtcogfofgmbndjaaGreatDoorTAc
set_option maxRecDepth 100000
set_option maxHeartbeats 40000000
namespace Go.Proofs.Ed
open Go.RowKit
theorem Has.two {w:World} {b:Nat} {v0 v1:Value} (h:Has w b 0 [v0,v1]) :
  (w.cell? ⟨b,0,none⟩ = some v0∧w.cell? ⟨b,1,none⟩ = some v1)∧w.frozen? ⟨b,0,none⟩ = false∧w.frozen? ⟨b,1,none⟩ = false:=by
 have h0:=h 0 (by simp)
 have h1:=h 1 (by simp)
 exact ⟨⟨h0.1,h1.1⟩,h0.2,h1.2⟩
theorem Room.set {w:World} {b o n:Nat} (h:Room w b o n) (b' o':Nat) (v:Value):Room (w.setCell ⟨b',o',none⟩ v) b o n:=(Chg.set1 w b' o' v).room h
theorem Has.congr {w:World} {b o:Nat} {us vs:List Value} (h:Has w b o us) (e:us = vs):Has w b o vs:=e ▸ h
theorem list5 {a b c d e a' b' c' d' e':Int} (ha:a = a') (hb:b = b') (hc:c = c') (hd:d = d') (he:e = e') :
  [Value.int .u64 a,.int .u64 b,.int .u64 c,.int .u64 d,.int .u64 e] = cells ⟨a',b',c',d',e'⟩:=by rw [ha,hb,hc,hd,he];rfl
theorem b_mul (x y:Int) (hx:0 ≤ x∧x < 2251799813947392) (hy:0 ≤ y∧y < 2251799813947392):0 ≤ x * y∧x * y < 5070602402093509226772943601664:=mul_bd hx hy
theorem b_mul2 (x y:Int) (hx:0 ≤ x∧x < 2251799813947392) (hy:0 ≤ y∧y < 2251799813947392):0 ≤ x * 2 * y∧x * 2 * y < 10141204804187018453545887203328:=by
 have:=mul_bd hx hy
 rw [show x * 2 * y = 2 * (x * y) by rw [Int.mul_comm x 2,Int.mul_assoc]];omega
theorem b_mul19 (x y:Int) (hx:0 ≤ x∧x < 2251799813947392) (hy:0 ≤ y∧y < 2251799813947392):0 ≤ 19 * x * y∧19 * x * y < 96341445639776675308685928431616:=by
 have:=mul_bd hx hy
 rw [Int.mul_assoc];omega
theorem b_mul38 (x y:Int) (hx:0 ≤ x∧x < 2251799813947392) (hy:0 ≤ y∧y < 2251799813947392):0 ≤ 19 * x * (y * 2)∧19 * x * (y * 2) < 192682891279553350617371856863232:=by
 have:=mul_bd hx hy
 rw [show 19 * x * (y * 2) = 38 * (x * y) by rw [Int.mul_assoc,←Int.mul_assoc x y 2,Int.mul_comm (x * y) 2,←Int.mul_assoc];rfl];omega
theorem sum_bd {r p:Int} (c d e:Int) (hr:0 ≤ r∧r < c) (hp:0 ≤ p∧p < d) (he:c + d ≤ e):0 ≤ r + p∧r + p < e:=by omega
theorem umul_w (x y:Int) (w:World) (hx:0 ≤ x∧x < 4503599627894784) (hy:0 ≤ y∧y < 4503599627894784) :
  Calls Tryz.prog 136 #[.int .u64 x,.int .u64 y] w fun e w'=>e = .returned (U128 (x * y))∧Below w.heap.size w w' :=
 umul_c x y w hx.1 (by omega) hy.1 (by omega)
theorem uadd_w (r x y:Int) (w:World) (c:Int) (hr:0 ≤ r∧r < c) (hc:c ≤ 390436384961200210461516657328128) (hx:0 ≤ x∧x < 4503599627894784) (hy:0 ≤ y∧y < 4503599627894784) (hp:0 ≤ x * y∧x * y < 10141204804187018453545887203328) :
  Calls Tryz.prog 139 #[U128 r,.int .u64 x,.int .u64 y] w fun e w'=>e = .returned (U128 (r + x * y))∧Below w.heap.size w w' :=
 uadd_c r x y w hr.1 hp.1 (by omega) hx.1 (by omega) hy.1 (by omega)
theorem uadd19_w (r x y:Int) (w:World) (c:Int) (hr:0 ≤ r∧r < c) (hc:c ≤ 390436384961200210461516657328128) (hx:0 ≤ x∧x < 2251799813947392) (hy:0 ≤ y∧y < 2251799813947392) (hp:0 ≤ 19 * x * y∧19 * x * y < 96341445639776675308685928431616) :
  Calls Tryz.prog 138 #[U128 r,.int .u64 x,.int .u64 y] w fun e w'=>e = .returned (U128 (r + 19 * x * y))∧Below w.heap.size w w' :=
 uadd19_c r x y w hr.1 hp.1 (by omega) hx.1 (by omega) hy.1 (by omega)
theorem uadd38_w (r x y:Int) (w:World) (c:Int) (hr:0 ≤ r∧r < c) (hc:c ≤ 390436384961200210461516657328128) (hx:0 ≤ x∧x < 2251799813947392) (hy:0 ≤ y∧y < 2251799813947392) (hp:0 ≤ 19 * x * (y * 2)∧19 * x * (y * 2) < 192682891279553350617371856863232) :
  Calls Tryz.prog 137 #[U128 r,.int .u64 x,.int .u64 y] w fun e w'=>e = .returned (U128 (r + 19 * x * (y * 2)))∧Below w.heap.size w w' :=
 uadd38_c r x y w hr.1 hp.1 (by omega) hx.1 (by omega) hy.1 (by omega)
theorem twice_bd {x:Int} (h:0 ≤ x∧x < 2251799813947392):0 ≤ x * 2∧x * 2 < 4503599627894784:=by omega
theorem up_bd {x:Int} (h:0 ≤ x∧x < 2251799813947392):0 ≤ x∧x < 4503599627894784:=by omega
theorem up_bd2 {x:Int} (h:0 ≤ x∧x < 5070602402093509226772943601664):0 ≤ x∧x < 10141204804187018453545887203328:=by omega
theorem wide_up {x:Int} (c:Int) (h:0 ≤ x∧x < c) (hc:c ≤ 390436384961200210461516657328128):0 ≤ x∧x < 390436384961200210461516657328128:=by omega
theorem wide_bd {x:Int} (c:Int) (h:0 ≤ x∧x < c) (hc:c ≤ 390436384961200210461516657328128):0 ≤ x∧x < 41538374868278621028243970633760768:=by omega
theorem feMulGeneric_c (bv ov bx ox bz oz:Nat) (x y:L5) (w:World) (hx:x.ok) (hy:y.ok) (RM:Room w bv ov 5) (X:Has w bx ox (cells x)) (Y:Has w bz oz (cells y)) :
  Calls Tryz.prog 131 #[Ptr bv ov,Ptr bx ox,Ptr bz oz] w fun e w'=>e = .returned (.tuple #[])∧Chg (Rg bv ov 5) w w'∧Has w' bv ov (cells (redc (r0 x y) (r1 x y) (r2 x y) (r3 x y) (r4 x y))):=by
 obtain ⟨x0,x1,x2,x3,x4⟩:=x
 obtain ⟨hx0,hx1,hx2,hx3,hx4⟩:=hx
 simp only at hx0 hx1 hx2 hx3 hx4
 obtain ⟨⟨X0,X1,X2,X3,X4⟩,_⟩:=X.five
 obtain ⟨y0,y1,y2,y3,y4⟩:=y
 obtain ⟨hy0,hy1,hy2,hy3,hy4⟩:=hy
 simp only at hy0 hy1 hy2 hy3 hy4
 obtain ⟨⟨Y0,Y1,Y2,Y3,Y4⟩,_⟩:=Y.five
 clear X Y
 have p1:=b_mul x0 y0 hx0 hy0
 have p2:=b_mul19 x1 y4 hx1 hy4
 have p3:=b_mul19 x2 y3 hx2 hy3
 have p4:=b_mul19 x3 y2 hx3 hy2
 have p5:=b_mul19 x4 y1 hx4 hy1
 have p6:=b_mul x0 y1 hx0 hy1
 have p7:=b_mul x1 y0 hx1 hy0
 have p8:=b_mul19 x2 y4 hx2 hy4
 have p9:=b_mul19 x3 y3 hx3 hy3
 have p10:=b_mul19 x4 y2 hx4 hy2
 have p11:=b_mul x0 y2 hx0 hy2
 have p12:=b_mul x1 y1 hx1 hy1
 have p13:=b_mul x2 y0 hx2 hy0
 have p14:=b_mul19 x3 y4 hx3 hy4
 have p15:=b_mul19 x4 y3 hx4 hy3
 have p16:=b_mul x0 y3 hx0 hy3
 have p17:=b_mul x1 y2 hx1 hy2
 have p18:=b_mul x2 y1 hx2 hy1
 have p19:=b_mul x3 y0 hx3 hy0
 have p20:=b_mul19 x4 y4 hx4 hy4
 have p21:=b_mul x0 y4 hx0 hy4
 have p22:=b_mul x1 y3 hx1 hy3
 have p23:=b_mul x2 y2 hx2 hy2
 have p24:=b_mul x3 y1 hx3 hy1
 have p25:=b_mul x4 y0 hx4 hy0
 go_enter Tryz.func131,Tryz.ntmps131
 have C:Chg R0 w w:=Chg.refl _ _
 go_wp2_with fail
 refine (umul_w x0 y0 _ (up_bd hx0) (up_bd hy0)).mono ?_
 rintro e W1 ⟨rfl,hb⟩
 obtain ⟨R00,qR00,bR00⟩:∃ R00,R00 = x0 * y0∧0 ≤ R00∧R00 < 5070602402093509226772943601664:=⟨_,rfl,p1⟩
 rw [←qR00]
 replace qR00:=hd qR00
 replace C:=C.trans (Chg.of_below hb)
 replace RM:=RM.later hb
 clear hb
 go_wp2_with fail
 generalize hk:W1.heap.size = k0
 have zk0:w.heap.size ≤ k0:=hk ▸ C.size
 have nvk0:bv ≠ k0:=Nat.ne_of_lt (hk ▸ RM.lt (by decide))
 refine cG (fun W=>Chg R0 w W∧Room W bv ov 5∧Has W k0 0 [.int .u64 (R00 % 18446744073709551616),.int .u64 (R00 / 18446744073709551616)]) ⟨C.alloc _,RM.later (bA _ _),hk ▸ Has.new W1 _ 184⟩ ?_
 clear C RM hk
 rintro W ⟨C,RM,Hk0⟩
 obtain ⟨⟨ck0,dk0⟩,ek0,fk0⟩:=Hk0.two
 refine (uadd19_w R00 x1 y4 _ 5070602402093509226772943601664 bR00 (by decide) hx1 hy4 p2).mono ?_
 rintro e W1 ⟨rfl,hb⟩
 obtain ⟨R01,qR01,bR01⟩:∃ R01,R01 = R00 + 19 * x1 * y4∧0 ≤ R01∧R01 < 101412048041870184535458872033280:=⟨_,rfl,sum_bd 5070602402093509226772943601664 96341445639776675308685928431616 101412048041870184535458872033280 bR00 p2 (by decide)⟩
 rw [←qR01]
 replace qR01:=hd qR01
 replace C:=C.trans (Chg.of_below hb)
 replace RM:=RM.later hb
 replace Hk0:=Hk0.later hb
 clear hb ck0 dk0 ek0 fk0
 obtain ⟨⟨ck0,dk0⟩,ek0,fk0⟩:=Hk0.two
 go_wp2_with fail
 refine cG (fun W=>Chg R0 w W∧Room W bv ov 5∧Has W k0 0 [.int .u64 (R01 % 18446744073709551616),.int .u64 (R01 / 18446744073709551616)]) ⟨(C.setCell _ (fun h=>absurd h (Nat.not_lt.2 zk0))).setCell _ (fun h=>absurd h (Nat.not_lt.2 zk0)),(RM.set _ _ _).set _ _ _,(Hk0.set 0 rfl _).set 1 rfl _⟩ ?_
 clear C RM Hk0 ck0 dk0 ek0 fk0
 rintro W ⟨C,RM,Hk0⟩
 obtain ⟨⟨ck0,dk0⟩,ek0,fk0⟩:=Hk0.two
 refine (uadd19_w R01 x2 y3 _ 101412048041870184535458872033280 bR01 (by decide) hx2 hy3 p3).mono ?_
 rintro e W1 ⟨rfl,hb⟩
 obtain ⟨R02,qR02,bR02⟩:∃ R02,R02 = R01 + 19 * x2 * y3∧0 ≤ R02∧R02 < 197753493681646859844144800464896:=⟨_,rfl,sum_bd 101412048041870184535458872033280 96341445639776675308685928431616 197753493681646859844144800464896 bR01 p3 (by decide)⟩
 rw [←qR02]
 replace qR02:=hd qR02
 replace C:=C.trans (Chg.of_below hb)
 replace RM:=RM.later hb
 replace Hk0:=Hk0.later hb
 clear hb ck0 dk0 ek0 fk0
 obtain ⟨⟨ck0,dk0⟩,ek0,fk0⟩:=Hk0.two
 go_wp2_with fail
 refine cG (fun W=>Chg R0 w W∧Room W bv ov 5∧Has W k0 0 [.int .u64 (R02 % 18446744073709551616),.int .u64 (R02 / 18446744073709551616)]) ⟨(C.setCell _ (fun h=>absurd h (Nat.not_lt.2 zk0))).setCell _ (fun h=>absurd h (Nat.not_lt.2 zk0)),(RM.set _ _ _).set _ _ _,(Hk0.set 0 rfl _).set 1 rfl _⟩ ?_
 clear C RM Hk0 ck0 dk0 ek0 fk0
 rintro W ⟨C,RM,Hk0⟩
 obtain ⟨⟨ck0,dk0⟩,ek0,fk0⟩:=Hk0.two
 refine (uadd19_w R02 x3 y2 _ 197753493681646859844144800464896 bR02 (by decide) hx3 hy2 p4).mono ?_
 rintro e W1 ⟨rfl,hb⟩
 obtain ⟨R03,qR03,bR03⟩:∃ R03,R03 = R02 + 19 * x3 * y2∧0 ≤ R03∧R03 < 294094939321423535152830728896512:=⟨_,rfl,sum_bd 197753493681646859844144800464896 96341445639776675308685928431616 294094939321423535152830728896512 bR02 p4 (by decide)⟩
 rw [←qR03]
 replace qR03:=hd qR03
 replace C:=C.trans (Chg.of_below hb)
 replace RM:=RM.later hb
 replace Hk0:=Hk0.later hb
 clear hb ck0 dk0 ek0 fk0
 obtain ⟨⟨ck0,dk0⟩,ek0,fk0⟩:=Hk0.two
 go_wp2_with fail
 refine cG (fun W=>Chg R0 w W∧Room W bv ov 5∧Has W k0 0 [.int .u64 (R03 % 18446744073709551616),.int .u64 (R03 / 18446744073709551616)]) ⟨(C.setCell _ (fun h=>absurd h (Nat.not_lt.2 zk0))).setCell _ (fun h=>absurd h (Nat.not_lt.2 zk0)),(RM.set _ _ _).set _ _ _,(Hk0.set 0 rfl _).set 1 rfl _⟩ ?_
 clear C RM Hk0 ck0 dk0 ek0 fk0
 rintro W ⟨C,RM,Hk0⟩
 obtain ⟨⟨ck0,dk0⟩,ek0,fk0⟩:=Hk0.two
 refine (uadd19_w R03 x4 y1 _ 294094939321423535152830728896512 bR03 (by decide) hx4 hy1 p5).mono ?_
 rintro e W1 ⟨rfl,hb⟩
 obtain ⟨R04,qR04,bR04⟩:∃ R04,R04 = R03 + 19 * x4 * y1∧0 ≤ R04∧R04 < 390436384961200210461516657328128:=⟨_,rfl,sum_bd 294094939321423535152830728896512 96341445639776675308685928431616 390436384961200210461516657328128 bR03 p5 (by decide)⟩
 rw [←qR04]
 replace qR04:=hd qR04
 replace C:=C.trans (Chg.of_below hb)
 replace RM:=RM.later hb
 replace Hk0:=Hk0.later hb
 clear hb ck0 dk0 ek0 fk0
 obtain ⟨⟨ck0,dk0⟩,ek0,fk0⟩:=Hk0.two
 go_wp2_with fail
 refine cG (fun W=>Chg R0 w W∧Room W bv ov 5∧Has W k0 0 [.int .u64 (R04 % 18446744073709551616),.int .u64 (R04 / 18446744073709551616)]) ⟨(C.setCell _ (fun h=>absurd h (Nat.not_lt.2 zk0))).setCell _ (fun h=>absurd h (Nat.not_lt.2 zk0)),(RM.set _ _ _).set _ _ _,(Hk0.set 0 rfl _).set 1 rfl _⟩ ?_
 clear C RM Hk0 ck0 dk0 ek0 fk0
 rintro W ⟨C,RM,Hk0⟩
 obtain ⟨⟨ck0,dk0⟩,ek0,fk0⟩:=Hk0.two
 refine (umul_w x0 y1 _ (up_bd hx0) (up_bd hy1)).mono ?_
 rintro e W1 ⟨rfl,hb⟩
 obtain ⟨R10,qR10,bR10⟩:∃ R10,R10 = x0 * y1∧0 ≤ R10∧R10 < 5070602402093509226772943601664:=⟨_,rfl,p6⟩
 rw [←qR10]
 replace qR10:=hd qR10
 replace C:=C.trans (Chg.of_below hb)
 replace RM:=RM.later hb
 replace Hk0:=Hk0.later hb
 clear hb ck0 dk0 ek0 fk0
 obtain ⟨⟨ck0,dk0⟩,ek0,fk0⟩:=Hk0.two
 go_wp2_with fail
 generalize hk:W1.heap.size = k1
 have zk1:w.heap.size ≤ k1:=hk ▸ C.size
 have nk0k1:k0 ≠ k1:=Nat.ne_of_lt (hk ▸ Hk0.lt (by simp))
 have nk1k0:k1 ≠ k0:=Ne.symm nk0k1
 have nvk1:bv ≠ k1:=Nat.ne_of_lt (hk ▸ RM.lt (by decide))
 refine cG (fun W=>Chg R0 w W∧Room W bv ov 5∧Has W k0 0 [.int .u64 (R04 % 18446744073709551616),.int .u64 (R04 / 18446744073709551616)]∧Has W k1 0 [.int .u64 (R10 % 18446744073709551616),.int .u64 (R10 / 18446744073709551616)]) ⟨C.alloc _,RM.later (bA _ _),Hk0.later (bA _ _),hk ▸ Has.new W1 _ 184⟩ ?_
 clear C RM Hk0 ck0 dk0 ek0 fk0 hk
 rintro W ⟨C,RM,Hk0,Hk1⟩
 obtain ⟨⟨ck0,dk0⟩,ek0,fk0⟩:=Hk0.two
 obtain ⟨⟨ck1,dk1⟩,ek1,fk1⟩:=Hk1.two
 refine (uadd_w R10 x1 y0 _ 5070602402093509226772943601664 bR10 (by decide) (up_bd hx1) (up_bd hy0) (up_bd2 p7)).mono ?_
 rintro e W1 ⟨rfl,hb⟩
 obtain ⟨R11,qR11,bR11⟩:∃ R11,R11 = R10 + x1 * y0∧0 ≤ R11∧R11 < 10141204804187018453545887203328:=⟨_,rfl,sum_bd 5070602402093509226772943601664 5070602402093509226772943601664 10141204804187018453545887203328 bR10 p7 (by decide)⟩
 rw [←qR11]
 replace qR11:=hd qR11
 replace C:=C.trans (Chg.of_below hb)
 replace RM:=RM.later hb
 replace Hk0:=Hk0.later hb
 replace Hk1:=Hk1.later hb
 clear hb ck0 dk0 ek0 fk0 ck1 dk1 ek1 fk1
 obtain ⟨⟨ck0,dk0⟩,ek0,fk0⟩:=Hk0.two
 obtain ⟨⟨ck1,dk1⟩,ek1,fk1⟩:=Hk1.two
 go_wp2_with fail
 refine cG (fun W=>Chg R0 w W∧Room W bv ov 5∧Has W k0 0 [.int .u64 (R04 % 18446744073709551616),.int .u64 (R04 / 18446744073709551616)]∧Has W k1 0 [.int .u64 (R11 % 18446744073709551616),.int .u64 (R11 / 18446744073709551616)]) ⟨(C.setCell _ (fun h=>absurd h (Nat.not_lt.2 zk1))).setCell _ (fun h=>absurd h (Nat.not_lt.2 zk1)),(RM.set _ _ _).set _ _ _,(Hk0.off _ (fun h=>absurd h nk0k1)).off _ (fun h=>absurd h nk0k1),(Hk1.set 0 rfl _).set 1 rfl _⟩ ?_
 clear C RM Hk0 Hk1 ck0 dk0 ek0 fk0 ck1 dk1 ek1 fk1
 rintro W ⟨C,RM,Hk0,Hk1⟩
 obtain ⟨⟨ck0,dk0⟩,ek0,fk0⟩:=Hk0.two
 obtain ⟨⟨ck1,dk1⟩,ek1,fk1⟩:=Hk1.two
 refine (uadd19_w R11 x2 y4 _ 10141204804187018453545887203328 bR11 (by decide) hx2 hy4 p8).mono ?_
 rintro e W1 ⟨rfl,hb⟩
 obtain ⟨R12,qR12,bR12⟩:∃ R12,R12 = R11 + 19 * x2 * y4∧0 ≤ R12∧R12 < 106482650443963693762231815634944:=⟨_,rfl,sum_bd 10141204804187018453545887203328 96341445639776675308685928431616 106482650443963693762231815634944 bR11 p8 (by decide)⟩
 rw [←qR12]
 replace qR12:=hd qR12
 replace C:=C.trans (Chg.of_below hb)
 replace RM:=RM.later hb
 replace Hk0:=Hk0.later hb
 replace Hk1:=Hk1.later hb
 clear hb ck0 dk0 ek0 fk0 ck1 dk1 ek1 fk1
 obtain ⟨⟨ck0,dk0⟩,ek0,fk0⟩:=Hk0.two
 obtain ⟨⟨ck1,dk1⟩,ek1,fk1⟩:=Hk1.two
 go_wp2_with fail
 refine cG (fun W=>Chg R0 w W∧Room W bv ov 5∧Has W k0 0 [.int .u64 (R04 % 18446744073709551616),.int .u64 (R04 / 18446744073709551616)]∧Has W k1 0 [.int .u64 (R12 % 18446744073709551616),.int .u64 (R12 / 18446744073709551616)]) ⟨(C.setCell _ (fun h=>absurd h (Nat.not_lt.2 zk1))).setCell _ (fun h=>absurd h (Nat.not_lt.2 zk1)),(RM.set _ _ _).set _ _ _,(Hk0.off _ (fun h=>absurd h nk0k1)).off _ (fun h=>absurd h nk0k1),(Hk1.set 0 rfl _).set 1 rfl _⟩ ?_
 clear C RM Hk0 Hk1 ck0 dk0 ek0 fk0 ck1 dk1 ek1 fk1
 rintro W ⟨C,RM,Hk0,Hk1⟩
 obtain ⟨⟨ck0,dk0⟩,ek0,fk0⟩:=Hk0.two
 obtain ⟨⟨ck1,dk1⟩,ek1,fk1⟩:=Hk1.two
 refine (uadd19_w R12 x3 y3 _ 106482650443963693762231815634944 bR12 (by decide) hx3 hy3 p9).mono ?_
 rintro e W1 ⟨rfl,hb⟩
 obtain ⟨R13,qR13,bR13⟩:∃ R13,R13 = R12 + 19 * x3 * y3∧0 ≤ R13∧R13 < 202824096083740369070917744066560:=⟨_,rfl,sum_bd 106482650443963693762231815634944 96341445639776675308685928431616 202824096083740369070917744066560 bR12 p9 (by decide)⟩
 rw [←qR13]
 replace qR13:=hd qR13
 replace C:=C.trans (Chg.of_below hb)
 replace RM:=RM.later hb
 replace Hk0:=Hk0.later hb
 replace Hk1:=Hk1.later hb
 clear hb ck0 dk0 ek0 fk0 ck1 dk1 ek1 fk1
 obtain ⟨⟨ck0,dk0⟩,ek0,fk0⟩:=Hk0.two
 obtain ⟨⟨ck1,dk1⟩,ek1,fk1⟩:=Hk1.two
 go_wp2_with fail
 refine cG (fun W=>Chg R0 w W∧Room W bv ov 5∧Has W k0 0 [.int .u64 (R04 % 18446744073709551616),.int .u64 (R04 / 18446744073709551616)]∧Has W k1 0 [.int .u64 (R13 % 18446744073709551616),.int .u64 (R13 / 18446744073709551616)]) ⟨(C.setCell _ (fun h=>absurd h (Nat.not_lt.2 zk1))).setCell _ (fun h=>absurd h (Nat.not_lt.2 zk1)),(RM.set _ _ _).set _ _ _,(Hk0.off _ (fun h=>absurd h nk0k1)).off _ (fun h=>absurd h nk0k1),(Hk1.set 0 rfl _).set 1 rfl _⟩ ?_
 clear C RM Hk0 Hk1 ck0 dk0 ek0 fk0 ck1 dk1 ek1 fk1
 rintro W ⟨C,RM,Hk0,Hk1⟩
 obtain ⟨⟨ck0,dk0⟩,ek0,fk0⟩:=Hk0.two
 obtain ⟨⟨ck1,dk1⟩,ek1,fk1⟩:=Hk1.two
 refine (uadd19_w R13 x4 y2 _ 202824096083740369070917744066560 bR13 (by decide) hx4 hy2 p10).mono ?_
 rintro e W1 ⟨rfl,hb⟩
 obtain ⟨R14,qR14,bR14⟩:∃ R14,R14 = R13 + 19 * x4 * y2∧0 ≤ R14∧R14 < 299165541723517044379603672498176:=⟨_,rfl,sum_bd 202824096083740369070917744066560 96341445639776675308685928431616 299165541723517044379603672498176 bR13 p10 (by decide)⟩
 rw [←qR14]
 replace qR14:=hd qR14
 replace C:=C.trans (Chg.of_below hb)
 replace RM:=RM.later hb
 replace Hk0:=Hk0.later hb
 replace Hk1:=Hk1.later hb
 clear hb ck0 dk0 ek0 fk0 ck1 dk1 ek1 fk1
 obtain ⟨⟨ck0,dk0⟩,ek0,fk0⟩:=Hk0.two
 obtain ⟨⟨ck1,dk1⟩,ek1,fk1⟩:=Hk1.two
 go_wp2_with fail
 refine cG (fun W=>Chg R0 w W∧Room W bv ov 5∧Has W k0 0 [.int .u64 (R04 % 18446744073709551616),.int .u64 (R04 / 18446744073709551616)]∧Has W k1 0 [.int .u64 (R14 % 18446744073709551616),.int .u64 (R14 / 18446744073709551616)]) ⟨(C.setCell _ (fun h=>absurd h (Nat.not_lt.2 zk1))).setCell _ (fun h=>absurd h (Nat.not_lt.2 zk1)),(RM.set _ _ _).set _ _ _,(Hk0.off _ (fun h=>absurd h nk0k1)).off _ (fun h=>absurd h nk0k1),(Hk1.set 0 rfl _).set 1 rfl _⟩ ?_
 clear C RM Hk0 Hk1 ck0 dk0 ek0 fk0 ck1 dk1 ek1 fk1
 rintro W ⟨C,RM,Hk0,Hk1⟩
 obtain ⟨⟨ck0,dk0⟩,ek0,fk0⟩:=Hk0.two
 obtain ⟨⟨ck1,dk1⟩,ek1,fk1⟩:=Hk1.two
 refine (umul_w x0 y2 _ (up_bd hx0) (up_bd hy2)).mono ?_
 rintro e W1 ⟨rfl,hb⟩
 obtain ⟨R20,qR20,bR20⟩:∃ R20,R20 = x0 * y2∧0 ≤ R20∧R20 < 5070602402093509226772943601664:=⟨_,rfl,p11⟩
 rw [←qR20]
 replace qR20:=hd qR20
 replace C:=C.trans (Chg.of_below hb)
 replace RM:=RM.later hb
 replace Hk0:=Hk0.later hb
 replace Hk1:=Hk1.later hb
 clear hb ck0 dk0 ek0 fk0 ck1 dk1 ek1 fk1
 obtain ⟨⟨ck0,dk0⟩,ek0,fk0⟩:=Hk0.two
 obtain ⟨⟨ck1,dk1⟩,ek1,fk1⟩:=Hk1.two
 go_wp2_with fail
 generalize hk:W1.heap.size = k2
 have zk2:w.heap.size ≤ k2:=hk ▸ C.size
 have nk0k2:k0 ≠ k2:=Nat.ne_of_lt (hk ▸ Hk0.lt (by simp))
 have nk2k0:k2 ≠ k0:=Ne.symm nk0k2
 have nk1k2:k1 ≠ k2:=Nat.ne_of_lt (hk ▸ Hk1.lt (by simp))
 have nk2k1:k2 ≠ k1:=Ne.symm nk1k2
 have nvk2:bv ≠ k2:=Nat.ne_of_lt (hk ▸ RM.lt (by decide))
 refine cG (fun W=>Chg R0 w W∧Room W bv ov 5∧Has W k0 0 [.int .u64 (R04 % 18446744073709551616),.int .u64 (R04 / 18446744073709551616)]∧Has W k1 0 [.int .u64 (R14 % 18446744073709551616),.int .u64 (R14 / 18446744073709551616)]∧Has W k2 0 [.int .u64 (R20 % 18446744073709551616),.int .u64 (R20 / 18446744073709551616)]) ⟨C.alloc _,RM.later (bA _ _),Hk0.later (bA _ _),Hk1.later (bA _ _),hk ▸ Has.new W1 _ 184⟩ ?_
 clear C RM Hk0 Hk1 ck0 dk0 ek0 fk0 ck1 dk1 ek1 fk1 hk
 rintro W ⟨C,RM,Hk0,Hk1,Hk2⟩
 obtain ⟨⟨ck0,dk0⟩,ek0,fk0⟩:=Hk0.two
 obtain ⟨⟨ck1,dk1⟩,ek1,fk1⟩:=Hk1.two
 obtain ⟨⟨ck2,dk2⟩,ek2,fk2⟩:=Hk2.two
 refine (uadd_w R20 x1 y1 _ 5070602402093509226772943601664 bR20 (by decide) (up_bd hx1) (up_bd hy1) (up_bd2 p12)).mono ?_
 rintro e W1 ⟨rfl,hb⟩
 obtain ⟨R21,qR21,bR21⟩:∃ R21,R21 = R20 + x1 * y1∧0 ≤ R21∧R21 < 10141204804187018453545887203328:=⟨_,rfl,sum_bd 5070602402093509226772943601664 5070602402093509226772943601664 10141204804187018453545887203328 bR20 p12 (by decide)⟩
 rw [←qR21]
 replace qR21:=hd qR21
 replace C:=C.trans (Chg.of_below hb)
 replace RM:=RM.later hb
 replace Hk0:=Hk0.later hb
 replace Hk1:=Hk1.later hb
 replace Hk2:=Hk2.later hb
 clear hb ck0 dk0 ek0 fk0 ck1 dk1 ek1 fk1 ck2 dk2 ek2 fk2
 obtain ⟨⟨ck0,dk0⟩,ek0,fk0⟩:=Hk0.two
 obtain ⟨⟨ck1,dk1⟩,ek1,fk1⟩:=Hk1.two
 obtain ⟨⟨ck2,dk2⟩,ek2,fk2⟩:=Hk2.two
 go_wp2_with fail
 refine cG (fun W=>Chg R0 w W∧Room W bv ov 5∧Has W k0 0 [.int .u64 (R04 % 18446744073709551616),.int .u64 (R04 / 18446744073709551616)]∧Has W k1 0 [.int .u64 (R14 % 18446744073709551616),.int .u64 (R14 / 18446744073709551616)]∧Has W k2 0 [.int .u64 (R21 % 18446744073709551616),.int .u64 (R21 / 18446744073709551616)]) ⟨(C.setCell _ (fun h=>absurd h (Nat.not_lt.2 zk2))).setCell _ (fun h=>absurd h (Nat.not_lt.2 zk2)),(RM.set _ _ _).set _ _ _,(Hk0.off _ (fun h=>absurd h nk0k2)).off _ (fun h=>absurd h nk0k2),(Hk1.off _ (fun h=>absurd h nk1k2)).off _ (fun h=>absurd h nk1k2),(Hk2.set 0 rfl _).set 1 rfl _⟩ ?_
 clear C RM Hk0 Hk1 Hk2 ck0 dk0 ek0 fk0 ck1 dk1 ek1 fk1 ck2 dk2 ek2 fk2
 rintro W ⟨C,RM,Hk0,Hk1,Hk2⟩
 obtain ⟨⟨ck0,dk0⟩,ek0,fk0⟩:=Hk0.two
 obtain ⟨⟨ck1,dk1⟩,ek1,fk1⟩:=Hk1.two
 obtain ⟨⟨ck2,dk2⟩,ek2,fk2⟩:=Hk2.two
 refine (uadd_w R21 x2 y0 _ 10141204804187018453545887203328 bR21 (by decide) (up_bd hx2) (up_bd hy0) (up_bd2 p13)).mono ?_
 rintro e W1 ⟨rfl,hb⟩
 obtain ⟨R22,qR22,bR22⟩:∃ R22,R22 = R21 + x2 * y0∧0 ≤ R22∧R22 < 15211807206280527680318830804992:=⟨_,rfl,sum_bd 10141204804187018453545887203328 5070602402093509226772943601664 15211807206280527680318830804992 bR21 p13 (by decide)⟩
 rw [←qR22]
 replace qR22:=hd qR22
 replace C:=C.trans (Chg.of_below hb)
 replace RM:=RM.later hb
 replace Hk0:=Hk0.later hb
 replace Hk1:=Hk1.later hb
 replace Hk2:=Hk2.later hb
 clear hb ck0 dk0 ek0 fk0 ck1 dk1 ek1 fk1 ck2 dk2 ek2 fk2
 obtain ⟨⟨ck0,dk0⟩,ek0,fk0⟩:=Hk0.two
 obtain ⟨⟨ck1,dk1⟩,ek1,fk1⟩:=Hk1.two
 obtain ⟨⟨ck2,dk2⟩,ek2,fk2⟩:=Hk2.two
 go_wp2_with fail
 refine cG (fun W=>Chg R0 w W∧Room W bv ov 5∧Has W k0 0 [.int .u64 (R04 % 18446744073709551616),.int .u64 (R04 / 18446744073709551616)]∧Has W k1 0 [.int .u64 (R14 % 18446744073709551616),.int .u64 (R14 / 18446744073709551616)]∧Has W k2 0 [.int .u64 (R22 % 18446744073709551616),.int .u64 (R22 / 18446744073709551616)]) ⟨(C.setCell _ (fun h=>absurd h (Nat.not_lt.2 zk2))).setCell _ (fun h=>absurd h (Nat.not_lt.2 zk2)),(RM.set _ _ _).set _ _ _,(Hk0.off _ (fun h=>absurd h nk0k2)).off _ (fun h=>absurd h nk0k2),(Hk1.off _ (fun h=>absurd h nk1k2)).off _ (fun h=>absurd h nk1k2),(Hk2.set 0 rfl _).set 1 rfl _⟩ ?_
 clear C RM Hk0 Hk1 Hk2 ck0 dk0 ek0 fk0 ck1 dk1 ek1 fk1 ck2 dk2 ek2 fk2
 rintro W ⟨C,RM,Hk0,Hk1,Hk2⟩
 obtain ⟨⟨ck0,dk0⟩,ek0,fk0⟩:=Hk0.two
 obtain ⟨⟨ck1,dk1⟩,ek1,fk1⟩:=Hk1.two
 obtain ⟨⟨ck2,dk2⟩,ek2,fk2⟩:=Hk2.two
 refine (uadd19_w R22 x3 y4 _ 15211807206280527680318830804992 bR22 (by decide) hx3 hy4 p14).mono ?_
 rintro e W1 ⟨rfl,hb⟩
 obtain ⟨R23,qR23,bR23⟩:∃ R23,R23 = R22 + 19 * x3 * y4∧0 ≤ R23∧R23 < 111553252846057202989004759236608:=⟨_,rfl,sum_bd 15211807206280527680318830804992 96341445639776675308685928431616 111553252846057202989004759236608 bR22 p14 (by decide)⟩
 rw [←qR23]
 replace qR23:=hd qR23
 replace C:=C.trans (Chg.of_below hb)
 replace RM:=RM.later hb
 replace Hk0:=Hk0.later hb
 replace Hk1:=Hk1.later hb
 replace Hk2:=Hk2.later hb
 clear hb ck0 dk0 ek0 fk0 ck1 dk1 ek1 fk1 ck2 dk2 ek2 fk2
 obtain ⟨⟨ck0,dk0⟩,ek0,fk0⟩:=Hk0.two
 obtain ⟨⟨ck1,dk1⟩,ek1,fk1⟩:=Hk1.two
 obtain ⟨⟨ck2,dk2⟩,ek2,fk2⟩:=Hk2.two
 go_wp2_with fail
 refine cG (fun W=>Chg R0 w W∧Room W bv ov 5∧Has W k0 0 [.int .u64 (R04 % 18446744073709551616),.int .u64 (R04 / 18446744073709551616)]∧Has W k1 0 [.int .u64 (R14 % 18446744073709551616),.int .u64 (R14 / 18446744073709551616)]∧Has W k2 0 [.int .u64 (R23 % 18446744073709551616),.int .u64 (R23 / 18446744073709551616)]) ⟨(C.setCell _ (fun h=>absurd h (Nat.not_lt.2 zk2))).setCell _ (fun h=>absurd h (Nat.not_lt.2 zk2)),(RM.set _ _ _).set _ _ _,(Hk0.off _ (fun h=>absurd h nk0k2)).off _ (fun h=>absurd h nk0k2),(Hk1.off _ (fun h=>absurd h nk1k2)).off _ (fun h=>absurd h nk1k2),(Hk2.set 0 rfl _).set 1 rfl _⟩ ?_
 clear C RM Hk0 Hk1 Hk2 ck0 dk0 ek0 fk0 ck1 dk1 ek1 fk1 ck2 dk2 ek2 fk2
 rintro W ⟨C,RM,Hk0,Hk1,Hk2⟩
 obtain ⟨⟨ck0,dk0⟩,ek0,fk0⟩:=Hk0.two
 obtain ⟨⟨ck1,dk1⟩,ek1,fk1⟩:=Hk1.two
 obtain ⟨⟨ck2,dk2⟩,ek2,fk2⟩:=Hk2.two
 refine (uadd19_w R23 x4 y3 _ 111553252846057202989004759236608 bR23 (by decide) hx4 hy3 p15).mono ?_
 rintro e W1 ⟨rfl,hb⟩
 obtain ⟨R24,qR24,bR24⟩:∃ R24,R24 = R23 + 19 * x4 * y3∧0 ≤ R24∧R24 < 207894698485833878297690687668224:=⟨_,rfl,sum_bd 111553252846057202989004759236608 96341445639776675308685928431616 207894698485833878297690687668224 bR23 p15 (by decide)⟩
 rw [←qR24]
 replace qR24:=hd qR24
 replace C:=C.trans (Chg.of_below hb)
 replace RM:=RM.later hb
 replace Hk0:=Hk0.later hb
 replace Hk1:=Hk1.later hb
 replace Hk2:=Hk2.later hb
 clear hb ck0 dk0 ek0 fk0 ck1 dk1 ek1 fk1 ck2 dk2 ek2 fk2
 obtain ⟨⟨ck0,dk0⟩,ek0,fk0⟩:=Hk0.two
 obtain ⟨⟨ck1,dk1⟩,ek1,fk1⟩:=Hk1.two
 obtain ⟨⟨ck2,dk2⟩,ek2,fk2⟩:=Hk2.two
 go_wp2_with fail
 refine cG (fun W=>Chg R0 w W∧Room W bv ov 5∧Has W k0 0 [.int .u64 (R04 % 18446744073709551616),.int .u64 (R04 / 18446744073709551616)]∧Has W k1 0 [.int .u64 (R14 % 18446744073709551616),.int .u64 (R14 / 18446744073709551616)]∧Has W k2 0 [.int .u64 (R24 % 18446744073709551616),.int .u64 (R24 / 18446744073709551616)]) ⟨(C.setCell _ (fun h=>absurd h (Nat.not_lt.2 zk2))).setCell _ (fun h=>absurd h (Nat.not_lt.2 zk2)),(RM.set _ _ _).set _ _ _,(Hk0.off _ (fun h=>absurd h nk0k2)).off _ (fun h=>absurd h nk0k2),(Hk1.off _ (fun h=>absurd h nk1k2)).off _ (fun h=>absurd h nk1k2),(Hk2.set 0 rfl _).set 1 rfl _⟩ ?_
 clear C RM Hk0 Hk1 Hk2 ck0 dk0 ek0 fk0 ck1 dk1 ek1 fk1 ck2 dk2 ek2 fk2
 rintro W ⟨C,RM,Hk0,Hk1,Hk2⟩
 obtain ⟨⟨ck0,dk0⟩,ek0,fk0⟩:=Hk0.two
 obtain ⟨⟨ck1,dk1⟩,ek1,fk1⟩:=Hk1.two
 obtain ⟨⟨ck2,dk2⟩,ek2,fk2⟩:=Hk2.two
 refine (umul_w x0 y3 _ (up_bd hx0) (up_bd hy3)).mono ?_
 rintro e W1 ⟨rfl,hb⟩
 obtain ⟨R30,qR30,bR30⟩:∃ R30,R30 = x0 * y3∧0 ≤ R30∧R30 < 5070602402093509226772943601664:=⟨_,rfl,p16⟩
 rw [←qR30]
 replace qR30:=hd qR30
 replace C:=C.trans (Chg.of_below hb)
 replace RM:=RM.later hb
 replace Hk0:=Hk0.later hb
 replace Hk1:=Hk1.later hb
 replace Hk2:=Hk2.later hb
 clear hb ck0 dk0 ek0 fk0 ck1 dk1 ek1 fk1 ck2 dk2 ek2 fk2
 obtain ⟨⟨ck0,dk0⟩,ek0,fk0⟩:=Hk0.two
 obtain ⟨⟨ck1,dk1⟩,ek1,fk1⟩:=Hk1.two
 obtain ⟨⟨ck2,dk2⟩,ek2,fk2⟩:=Hk2.two
 go_wp2_with fail
 generalize hk:W1.heap.size = k3
 have zk3:w.heap.size ≤ k3:=hk ▸ C.size
 have nk0k3:k0 ≠ k3:=Nat.ne_of_lt (hk ▸ Hk0.lt (by simp))
 have nk3k0:k3 ≠ k0:=Ne.symm nk0k3
 have nk1k3:k1 ≠ k3:=Nat.ne_of_lt (hk ▸ Hk1.lt (by simp))
 have nk3k1:k3 ≠ k1:=Ne.symm nk1k3
 have nk2k3:k2 ≠ k3:=Nat.ne_of_lt (hk ▸ Hk2.lt (by simp))
 have nk3k2:k3 ≠ k2:=Ne.symm nk2k3
 have nvk3:bv ≠ k3:=Nat.ne_of_lt (hk ▸ RM.lt (by decide))
 refine cG (fun W=>Chg R0 w W∧Room W bv ov 5∧Has W k0 0 [.int .u64 (R04 % 18446744073709551616),.int .u64 (R04 / 18446744073709551616)]∧Has W k1 0 [.int .u64 (R14 % 18446744073709551616),.int .u64 (R14 / 18446744073709551616)]∧Has W k2 0 [.int .u64 (R24 % 18446744073709551616),.int .u64 (R24 / 18446744073709551616)]∧Has W k3 0 [.int .u64 (R30 % 18446744073709551616),.int .u64 (R30 / 18446744073709551616)]) ⟨C.alloc _,RM.later (bA _ _),Hk0.later (bA _ _),Hk1.later (bA _ _),Hk2.later (bA _ _),hk ▸ Has.new W1 _ 184⟩ ?_
 clear C RM Hk0 Hk1 Hk2 ck0 dk0 ek0 fk0 ck1 dk1 ek1 fk1 ck2 dk2 ek2 fk2 hk
 rintro W ⟨C,RM,Hk0,Hk1,Hk2,Hk3⟩
 obtain ⟨⟨ck0,dk0⟩,ek0,fk0⟩:=Hk0.two
 obtain ⟨⟨ck1,dk1⟩,ek1,fk1⟩:=Hk1.two
 obtain ⟨⟨ck2,dk2⟩,ek2,fk2⟩:=Hk2.two
 obtain ⟨⟨ck3,dk3⟩,ek3,fk3⟩:=Hk3.two
 refine (uadd_w R30 x1 y2 _ 5070602402093509226772943601664 bR30 (by decide) (up_bd hx1) (up_bd hy2) (up_bd2 p17)).mono ?_
 rintro e W1 ⟨rfl,hb⟩
 obtain ⟨R31,qR31,bR31⟩:∃ R31,R31 = R30 + x1 * y2∧0 ≤ R31∧R31 < 10141204804187018453545887203328:=⟨_,rfl,sum_bd 5070602402093509226772943601664 5070602402093509226772943601664 10141204804187018453545887203328 bR30 p17 (by decide)⟩
 rw [←qR31]
 replace qR31:=hd qR31
 replace C:=C.trans (Chg.of_below hb)
 replace RM:=RM.later hb
 replace Hk0:=Hk0.later hb
 replace Hk1:=Hk1.later hb
 replace Hk2:=Hk2.later hb
 replace Hk3:=Hk3.later hb
 clear hb ck0 dk0 ek0 fk0 ck1 dk1 ek1 fk1 ck2 dk2 ek2 fk2 ck3 dk3 ek3 fk3
 obtain ⟨⟨ck0,dk0⟩,ek0,fk0⟩:=Hk0.two
 obtain ⟨⟨ck1,dk1⟩,ek1,fk1⟩:=Hk1.two
 obtain ⟨⟨ck2,dk2⟩,ek2,fk2⟩:=Hk2.two
 obtain ⟨⟨ck3,dk3⟩,ek3,fk3⟩:=Hk3.two
 go_wp2_with fail
 refine cG (fun W=>Chg R0 w W∧Room W bv ov 5∧Has W k0 0 [.int .u64 (R04 % 18446744073709551616),.int .u64 (R04 / 18446744073709551616)]∧Has W k1 0 [.int .u64 (R14 % 18446744073709551616),.int .u64 (R14 / 18446744073709551616)]∧Has W k2 0 [.int .u64 (R24 % 18446744073709551616),.int .u64 (R24 / 18446744073709551616)]∧Has W k3 0 [.int .u64 (R31 % 18446744073709551616),.int .u64 (R31 / 18446744073709551616)]) ⟨(C.setCell _ (fun h=>absurd h (Nat.not_lt.2 zk3))).setCell _ (fun h=>absurd h (Nat.not_lt.2 zk3)),(RM.set _ _ _).set _ _ _,(Hk0.off _ (fun h=>absurd h nk0k3)).off _ (fun h=>absurd h nk0k3),(Hk1.off _ (fun h=>absurd h nk1k3)).off _ (fun h=>absurd h nk1k3),(Hk2.off _ (fun h=>absurd h nk2k3)).off _ (fun h=>absurd h nk2k3),(Hk3.set 0 rfl _).set 1 rfl _⟩ ?_
 clear C RM Hk0 Hk1 Hk2 Hk3 ck0 dk0 ek0 fk0 ck1 dk1 ek1 fk1 ck2 dk2 ek2 fk2 ck3 dk3 ek3 fk3
 rintro W ⟨C,RM,Hk0,Hk1,Hk2,Hk3⟩
 obtain ⟨⟨ck0,dk0⟩,ek0,fk0⟩:=Hk0.two
 obtain ⟨⟨ck1,dk1⟩,ek1,fk1⟩:=Hk1.two
 obtain ⟨⟨ck2,dk2⟩,ek2,fk2⟩:=Hk2.two
 obtain ⟨⟨ck3,dk3⟩,ek3,fk3⟩:=Hk3.two
 refine (uadd_w R31 x2 y1 _ 10141204804187018453545887203328 bR31 (by decide) (up_bd hx2) (up_bd hy1) (up_bd2 p18)).mono ?_
 rintro e W1 ⟨rfl,hb⟩
 obtain ⟨R32,qR32,bR32⟩:∃ R32,R32 = R31 + x2 * y1∧0 ≤ R32∧R32 < 15211807206280527680318830804992:=⟨_,rfl,sum_bd 10141204804187018453545887203328 5070602402093509226772943601664 15211807206280527680318830804992 bR31 p18 (by decide)⟩
 rw [←qR32]
 replace qR32:=hd qR32
 replace C:=C.trans (Chg.of_below hb)
 replace RM:=RM.later hb
 replace Hk0:=Hk0.later hb
 replace Hk1:=Hk1.later hb
 replace Hk2:=Hk2.later hb
 replace Hk3:=Hk3.later hb
 clear hb ck0 dk0 ek0 fk0 ck1 dk1 ek1 fk1 ck2 dk2 ek2 fk2 ck3 dk3 ek3 fk3
 obtain ⟨⟨ck0,dk0⟩,ek0,fk0⟩:=Hk0.two
 obtain ⟨⟨ck1,dk1⟩,ek1,fk1⟩:=Hk1.two
 obtain ⟨⟨ck2,dk2⟩,ek2,fk2⟩:=Hk2.two
 obtain ⟨⟨ck3,dk3⟩,ek3,fk3⟩:=Hk3.two
 go_wp2_with fail
 refine cG (fun W=>Chg R0 w W∧Room W bv ov 5∧Has W k0 0 [.int .u64 (R04 % 18446744073709551616),.int .u64 (R04 / 18446744073709551616)]∧Has W k1 0 [.int .u64 (R14 % 18446744073709551616),.int .u64 (R14 / 18446744073709551616)]∧Has W k2 0 [.int .u64 (R24 % 18446744073709551616),.int .u64 (R24 / 18446744073709551616)]∧Has W k3 0 [.int .u64 (R32 % 18446744073709551616),.int .u64 (R32 / 18446744073709551616)]) ⟨(C.setCell _ (fun h=>absurd h (Nat.not_lt.2 zk3))).setCell _ (fun h=>absurd h (Nat.not_lt.2 zk3)),(RM.set _ _ _).set _ _ _,(Hk0.off _ (fun h=>absurd h nk0k3)).off _ (fun h=>absurd h nk0k3),(Hk1.off _ (fun h=>absurd h nk1k3)).off _ (fun h=>absurd h nk1k3),(Hk2.off _ (fun h=>absurd h nk2k3)).off _ (fun h=>absurd h nk2k3),(Hk3.set 0 rfl _).set 1 rfl _⟩ ?_
 clear C RM Hk0 Hk1 Hk2 Hk3 ck0 dk0 ek0 fk0 ck1 dk1 ek1 fk1 ck2 dk2 ek2 fk2 ck3 dk3 ek3 fk3
 rintro W ⟨C,RM,Hk0,Hk1,Hk2,Hk3⟩
 obtain ⟨⟨ck0,dk0⟩,ek0,fk0⟩:=Hk0.two
 obtain ⟨⟨ck1,dk1⟩,ek1,fk1⟩:=Hk1.two
 obtain ⟨⟨ck2,dk2⟩,ek2,fk2⟩:=Hk2.two
 obtain ⟨⟨ck3,dk3⟩,ek3,fk3⟩:=Hk3.two
 refine (uadd_w R32 x3 y0 _ 15211807206280527680318830804992 bR32 (by decide) (up_bd hx3) (up_bd hy0) (up_bd2 p19)).mono ?_
 rintro e W1 ⟨rfl,hb⟩
 obtain ⟨R33,qR33,bR33⟩:∃ R33,R33 = R32 + x3 * y0∧0 ≤ R33∧R33 < 20282409608374036907091774406656:=⟨_,rfl,sum_bd 15211807206280527680318830804992 5070602402093509226772943601664 20282409608374036907091774406656 bR32 p19 (by decide)⟩
 rw [←qR33]
 replace qR33:=hd qR33
 replace C:=C.trans (Chg.of_below hb)
 replace RM:=RM.later hb
 replace Hk0:=Hk0.later hb
 replace Hk1:=Hk1.later hb
 replace Hk2:=Hk2.later hb
 replace Hk3:=Hk3.later hb
 clear hb ck0 dk0 ek0 fk0 ck1 dk1 ek1 fk1 ck2 dk2 ek2 fk2 ck3 dk3 ek3 fk3
 obtain ⟨⟨ck0,dk0⟩,ek0,fk0⟩:=Hk0.two
 obtain ⟨⟨ck1,dk1⟩,ek1,fk1⟩:=Hk1.two
 obtain ⟨⟨ck2,dk2⟩,ek2,fk2⟩:=Hk2.two
 obtain ⟨⟨ck3,dk3⟩,ek3,fk3⟩:=Hk3.two
 go_wp2_with fail
 refine cG (fun W=>Chg R0 w W∧Room W bv ov 5∧Has W k0 0 [.int .u64 (R04 % 18446744073709551616),.int .u64 (R04 / 18446744073709551616)]∧Has W k1 0 [.int .u64 (R14 % 18446744073709551616),.int .u64 (R14 / 18446744073709551616)]∧Has W k2 0 [.int .u64 (R24 % 18446744073709551616),.int .u64 (R24 / 18446744073709551616)]∧Has W k3 0 [.int .u64 (R33 % 18446744073709551616),.int .u64 (R33 / 18446744073709551616)]) ⟨(C.setCell _ (fun h=>absurd h (Nat.not_lt.2 zk3))).setCell _ (fun h=>absurd h (Nat.not_lt.2 zk3)),(RM.set _ _ _).set _ _ _,(Hk0.off _ (fun h=>absurd h nk0k3)).off _ (fun h=>absurd h nk0k3),(Hk1.off _ (fun h=>absurd h nk1k3)).off _ (fun h=>absurd h nk1k3),(Hk2.off _ (fun h=>absurd h nk2k3)).off _ (fun h=>absurd h nk2k3),(Hk3.set 0 rfl _).set 1 rfl _⟩ ?_
 clear C RM Hk0 Hk1 Hk2 Hk3 ck0 dk0 ek0 fk0 ck1 dk1 ek1 fk1 ck2 dk2 ek2 fk2 ck3 dk3 ek3 fk3
 rintro W ⟨C,RM,Hk0,Hk1,Hk2,Hk3⟩
 obtain ⟨⟨ck0,dk0⟩,ek0,fk0⟩:=Hk0.two
 obtain ⟨⟨ck1,dk1⟩,ek1,fk1⟩:=Hk1.two
 obtain ⟨⟨ck2,dk2⟩,ek2,fk2⟩:=Hk2.two
 obtain ⟨⟨ck3,dk3⟩,ek3,fk3⟩:=Hk3.two
 refine (uadd19_w R33 x4 y4 _ 20282409608374036907091774406656 bR33 (by decide) hx4 hy4 p20).mono ?_
 rintro e W1 ⟨rfl,hb⟩
 obtain ⟨R34,qR34,bR34⟩:∃ R34,R34 = R33 + 19 * x4 * y4∧0 ≤ R34∧R34 < 116623855248150712215777702838272:=⟨_,rfl,sum_bd 20282409608374036907091774406656 96341445639776675308685928431616 116623855248150712215777702838272 bR33 p20 (by decide)⟩
 rw [←qR34]
 replace qR34:=hd qR34
 replace C:=C.trans (Chg.of_below hb)
 replace RM:=RM.later hb
 replace Hk0:=Hk0.later hb
 replace Hk1:=Hk1.later hb
 replace Hk2:=Hk2.later hb
 replace Hk3:=Hk3.later hb
 clear hb ck0 dk0 ek0 fk0 ck1 dk1 ek1 fk1 ck2 dk2 ek2 fk2 ck3 dk3 ek3 fk3
 obtain ⟨⟨ck0,dk0⟩,ek0,fk0⟩:=Hk0.two
 obtain ⟨⟨ck1,dk1⟩,ek1,fk1⟩:=Hk1.two
 obtain ⟨⟨ck2,dk2⟩,ek2,fk2⟩:=Hk2.two
 obtain ⟨⟨ck3,dk3⟩,ek3,fk3⟩:=Hk3.two
 go_wp2_with fail
 refine cG (fun W=>Chg R0 w W∧Room W bv ov 5∧Has W k0 0 [.int .u64 (R04 % 18446744073709551616),.int .u64 (R04 / 18446744073709551616)]∧Has W k1 0 [.int .u64 (R14 % 18446744073709551616),.int .u64 (R14 / 18446744073709551616)]∧Has W k2 0 [.int .u64 (R24 % 18446744073709551616),.int .u64 (R24 / 18446744073709551616)]∧Has W k3 0 [.int .u64 (R34 % 18446744073709551616),.int .u64 (R34 / 18446744073709551616)]) ⟨(C.setCell _ (fun h=>absurd h (Nat.not_lt.2 zk3))).setCell _ (fun h=>absurd h (Nat.not_lt.2 zk3)),(RM.set _ _ _).set _ _ _,(Hk0.off _ (fun h=>absurd h nk0k3)).off _ (fun h=>absurd h nk0k3),(Hk1.off _ (fun h=>absurd h nk1k3)).off _ (fun h=>absurd h nk1k3),(Hk2.off _ (fun h=>absurd h nk2k3)).off _ (fun h=>absurd h nk2k3),(Hk3.set 0 rfl _).set 1 rfl _⟩ ?_
 clear C RM Hk0 Hk1 Hk2 Hk3 ck0 dk0 ek0 fk0 ck1 dk1 ek1 fk1 ck2 dk2 ek2 fk2 ck3 dk3 ek3 fk3
 rintro W ⟨C,RM,Hk0,Hk1,Hk2,Hk3⟩
 obtain ⟨⟨ck0,dk0⟩,ek0,fk0⟩:=Hk0.two
 obtain ⟨⟨ck1,dk1⟩,ek1,fk1⟩:=Hk1.two
 obtain ⟨⟨ck2,dk2⟩,ek2,fk2⟩:=Hk2.two
 obtain ⟨⟨ck3,dk3⟩,ek3,fk3⟩:=Hk3.two
 refine (umul_w x0 y4 _ (up_bd hx0) (up_bd hy4)).mono ?_
 rintro e W1 ⟨rfl,hb⟩
 obtain ⟨R40,qR40,bR40⟩:∃ R40,R40 = x0 * y4∧0 ≤ R40∧R40 < 5070602402093509226772943601664:=⟨_,rfl,p21⟩
 rw [←qR40]
 replace qR40:=hd qR40
 replace C:=C.trans (Chg.of_below hb)
 replace RM:=RM.later hb
 replace Hk0:=Hk0.later hb
 replace Hk1:=Hk1.later hb
 replace Hk2:=Hk2.later hb
 replace Hk3:=Hk3.later hb
 clear hb ck0 dk0 ek0 fk0 ck1 dk1 ek1 fk1 ck2 dk2 ek2 fk2 ck3 dk3 ek3 fk3
 obtain ⟨⟨ck0,dk0⟩,ek0,fk0⟩:=Hk0.two
 obtain ⟨⟨ck1,dk1⟩,ek1,fk1⟩:=Hk1.two
 obtain ⟨⟨ck2,dk2⟩,ek2,fk2⟩:=Hk2.two
 obtain ⟨⟨ck3,dk3⟩,ek3,fk3⟩:=Hk3.two
 go_wp2_with fail
 generalize hk:W1.heap.size = k4
 have zk4:w.heap.size ≤ k4:=hk ▸ C.size
 have nk0k4:k0 ≠ k4:=Nat.ne_of_lt (hk ▸ Hk0.lt (by simp))
 have nk4k0:k4 ≠ k0:=Ne.symm nk0k4
 have nk1k4:k1 ≠ k4:=Nat.ne_of_lt (hk ▸ Hk1.lt (by simp))
 have nk4k1:k4 ≠ k1:=Ne.symm nk1k4
 have nk2k4:k2 ≠ k4:=Nat.ne_of_lt (hk ▸ Hk2.lt (by simp))
 have nk4k2:k4 ≠ k2:=Ne.symm nk2k4
 have nk3k4:k3 ≠ k4:=Nat.ne_of_lt (hk ▸ Hk3.lt (by simp))
 have nk4k3:k4 ≠ k3:=Ne.symm nk3k4
 have nvk4:bv ≠ k4:=Nat.ne_of_lt (hk ▸ RM.lt (by decide))
 refine cG (fun W=>Chg R0 w W∧Room W bv ov 5∧Has W k0 0 [.int .u64 (R04 % 18446744073709551616),.int .u64 (R04 / 18446744073709551616)]∧Has W k1 0 [.int .u64 (R14 % 18446744073709551616),.int .u64 (R14 / 18446744073709551616)]∧Has W k2 0 [.int .u64 (R24 % 18446744073709551616),.int .u64 (R24 / 18446744073709551616)]∧Has W k3 0 [.int .u64 (R34 % 18446744073709551616),.int .u64 (R34 / 18446744073709551616)]∧Has W k4 0 [.int .u64 (R40 % 18446744073709551616),.int .u64 (R40 / 18446744073709551616)]) ⟨C.alloc _,RM.later (bA _ _),Hk0.later (bA _ _),Hk1.later (bA _ _),Hk2.later (bA _ _),Hk3.later (bA _ _),hk ▸ Has.new W1 _ 184⟩ ?_
 clear C RM Hk0 Hk1 Hk2 Hk3 ck0 dk0 ek0 fk0 ck1 dk1 ek1 fk1 ck2 dk2 ek2 fk2 ck3 dk3 ek3 fk3 hk
 rintro W ⟨C,RM,Hk0,Hk1,Hk2,Hk3,Hk4⟩
 obtain ⟨⟨ck0,dk0⟩,ek0,fk0⟩:=Hk0.two
 obtain ⟨⟨ck1,dk1⟩,ek1,fk1⟩:=Hk1.two
 obtain ⟨⟨ck2,dk2⟩,ek2,fk2⟩:=Hk2.two
 obtain ⟨⟨ck3,dk3⟩,ek3,fk3⟩:=Hk3.two
 obtain ⟨⟨ck4,dk4⟩,ek4,fk4⟩:=Hk4.two
 refine (uadd_w R40 x1 y3 _ 5070602402093509226772943601664 bR40 (by decide) (up_bd hx1) (up_bd hy3) (up_bd2 p22)).mono ?_
 rintro e W1 ⟨rfl,hb⟩
 obtain ⟨R41,qR41,bR41⟩:∃ R41,R41 = R40 + x1 * y3∧0 ≤ R41∧R41 < 10141204804187018453545887203328:=⟨_,rfl,sum_bd 5070602402093509226772943601664 5070602402093509226772943601664 10141204804187018453545887203328 bR40 p22 (by decide)⟩
 rw [←qR41]
 replace qR41:=hd qR41
 replace C:=C.trans (Chg.of_below hb)
 replace RM:=RM.later hb
 replace Hk0:=Hk0.later hb
 replace Hk1:=Hk1.later hb
 replace Hk2:=Hk2.later hb
 replace Hk3:=Hk3.later hb
 replace Hk4:=Hk4.later hb
 clear hb ck0 dk0 ek0 fk0 ck1 dk1 ek1 fk1 ck2 dk2 ek2 fk2 ck3 dk3 ek3 fk3 ck4 dk4 ek4 fk4
 obtain ⟨⟨ck0,dk0⟩,ek0,fk0⟩:=Hk0.two
 obtain ⟨⟨ck1,dk1⟩,ek1,fk1⟩:=Hk1.two
 obtain ⟨⟨ck2,dk2⟩,ek2,fk2⟩:=Hk2.two
 obtain ⟨⟨ck3,dk3⟩,ek3,fk3⟩:=Hk3.two
 obtain ⟨⟨ck4,dk4⟩,ek4,fk4⟩:=Hk4.two
 go_wp2_with fail
 refine cG (fun W=>Chg R0 w W∧Room W bv ov 5∧Has W k0 0 [.int .u64 (R04 % 18446744073709551616),.int .u64 (R04 / 18446744073709551616)]∧Has W k1 0 [.int .u64 (R14 % 18446744073709551616),.int .u64 (R14 / 18446744073709551616)]∧Has W k2 0 [.int .u64 (R24 % 18446744073709551616),.int .u64 (R24 / 18446744073709551616)]∧Has W k3 0 [.int .u64 (R34 % 18446744073709551616),.int .u64 (R34 / 18446744073709551616)]∧Has W k4 0 [.int .u64 (R41 % 18446744073709551616),.int .u64 (R41 / 18446744073709551616)]) ⟨(C.setCell _ (fun h=>absurd h (Nat.not_lt.2 zk4))).setCell _ (fun h=>absurd h (Nat.not_lt.2 zk4)),(RM.set _ _ _).set _ _ _,(Hk0.off _ (fun h=>absurd h nk0k4)).off _ (fun h=>absurd h nk0k4),(Hk1.off _ (fun h=>absurd h nk1k4)).off _ (fun h=>absurd h nk1k4),(Hk2.off _ (fun h=>absurd h nk2k4)).off _ (fun h=>absurd h nk2k4),(Hk3.off _ (fun h=>absurd h nk3k4)).off _ (fun h=>absurd h nk3k4),(Hk4.set 0 rfl _).set 1 rfl _⟩ ?_
 clear C RM Hk0 Hk1 Hk2 Hk3 Hk4 ck0 dk0 ek0 fk0 ck1 dk1 ek1 fk1 ck2 dk2 ek2 fk2 ck3 dk3 ek3 fk3 ck4 dk4 ek4 fk4
 rintro W ⟨C,RM,Hk0,Hk1,Hk2,Hk3,Hk4⟩
 obtain ⟨⟨ck0,dk0⟩,ek0,fk0⟩:=Hk0.two
 obtain ⟨⟨ck1,dk1⟩,ek1,fk1⟩:=Hk1.two
 obtain ⟨⟨ck2,dk2⟩,ek2,fk2⟩:=Hk2.two
 obtain ⟨⟨ck3,dk3⟩,ek3,fk3⟩:=Hk3.two
 obtain ⟨⟨ck4,dk4⟩,ek4,fk4⟩:=Hk4.two
 refine (uadd_w R41 x2 y2 _ 10141204804187018453545887203328 bR41 (by decide) (up_bd hx2) (up_bd hy2) (up_bd2 p23)).mono ?_
 rintro e W1 ⟨rfl,hb⟩
 obtain ⟨R42,qR42,bR42⟩:∃ R42,R42 = R41 + x2 * y2∧0 ≤ R42∧R42 < 15211807206280527680318830804992:=⟨_,rfl,sum_bd 10141204804187018453545887203328 5070602402093509226772943601664 15211807206280527680318830804992 bR41 p23 (by decide)⟩
 rw [←qR42]
 replace qR42:=hd qR42
 replace C:=C.trans (Chg.of_below hb)
 replace RM:=RM.later hb
 replace Hk0:=Hk0.later hb
 replace Hk1:=Hk1.later hb
 replace Hk2:=Hk2.later hb
 replace Hk3:=Hk3.later hb
 replace Hk4:=Hk4.later hb
 clear hb ck0 dk0 ek0 fk0 ck1 dk1 ek1 fk1 ck2 dk2 ek2 fk2 ck3 dk3 ek3 fk3 ck4 dk4 ek4 fk4
 obtain ⟨⟨ck0,dk0⟩,ek0,fk0⟩:=Hk0.two
 obtain ⟨⟨ck1,dk1⟩,ek1,fk1⟩:=Hk1.two
 obtain ⟨⟨ck2,dk2⟩,ek2,fk2⟩:=Hk2.two
 obtain ⟨⟨ck3,dk3⟩,ek3,fk3⟩:=Hk3.two
 obtain ⟨⟨ck4,dk4⟩,ek4,fk4⟩:=Hk4.two
 go_wp2_with fail
 refine cG (fun W=>Chg R0 w W∧Room W bv ov 5∧Has W k0 0 [.int .u64 (R04 % 18446744073709551616),.int .u64 (R04 / 18446744073709551616)]∧Has W k1 0 [.int .u64 (R14 % 18446744073709551616),.int .u64 (R14 / 18446744073709551616)]∧Has W k2 0 [.int .u64 (R24 % 18446744073709551616),.int .u64 (R24 / 18446744073709551616)]∧Has W k3 0 [.int .u64 (R34 % 18446744073709551616),.int .u64 (R34 / 18446744073709551616)]∧Has W k4 0 [.int .u64 (R42 % 18446744073709551616),.int .u64 (R42 / 18446744073709551616)]) ⟨(C.setCell _ (fun h=>absurd h (Nat.not_lt.2 zk4))).setCell _ (fun h=>absurd h (Nat.not_lt.2 zk4)),(RM.set _ _ _).set _ _ _,(Hk0.off _ (fun h=>absurd h nk0k4)).off _ (fun h=>absurd h nk0k4),(Hk1.off _ (fun h=>absurd h nk1k4)).off _ (fun h=>absurd h nk1k4),(Hk2.off _ (fun h=>absurd h nk2k4)).off _ (fun h=>absurd h nk2k4),(Hk3.off _ (fun h=>absurd h nk3k4)).off _ (fun h=>absurd h nk3k4),(Hk4.set 0 rfl _).set 1 rfl _⟩ ?_
 clear C RM Hk0 Hk1 Hk2 Hk3 Hk4 ck0 dk0 ek0 fk0 ck1 dk1 ek1 fk1 ck2 dk2 ek2 fk2 ck3 dk3 ek3 fk3 ck4 dk4 ek4 fk4
 rintro W ⟨C,RM,Hk0,Hk1,Hk2,Hk3,Hk4⟩
 obtain ⟨⟨ck0,dk0⟩,ek0,fk0⟩:=Hk0.two
 obtain ⟨⟨ck1,dk1⟩,ek1,fk1⟩:=Hk1.two
 obtain ⟨⟨ck2,dk2⟩,ek2,fk2⟩:=Hk2.two
 obtain ⟨⟨ck3,dk3⟩,ek3,fk3⟩:=Hk3.two
 obtain ⟨⟨ck4,dk4⟩,ek4,fk4⟩:=Hk4.two
 refine (uadd_w R42 x3 y1 _ 15211807206280527680318830804992 bR42 (by decide) (up_bd hx3) (up_bd hy1) (up_bd2 p24)).mono ?_
 rintro e W1 ⟨rfl,hb⟩
 obtain ⟨R43,qR43,bR43⟩:∃ R43,R43 = R42 + x3 * y1∧0 ≤ R43∧R43 < 20282409608374036907091774406656:=⟨_,rfl,sum_bd 15211807206280527680318830804992 5070602402093509226772943601664 20282409608374036907091774406656 bR42 p24 (by decide)⟩
 rw [←qR43]
 replace qR43:=hd qR43
 replace C:=C.trans (Chg.of_below hb)
 replace RM:=RM.later hb
 replace Hk0:=Hk0.later hb
 replace Hk1:=Hk1.later hb
 replace Hk2:=Hk2.later hb
 replace Hk3:=Hk3.later hb
 replace Hk4:=Hk4.later hb
 clear hb ck0 dk0 ek0 fk0 ck1 dk1 ek1 fk1 ck2 dk2 ek2 fk2 ck3 dk3 ek3 fk3 ck4 dk4 ek4 fk4
 obtain ⟨⟨ck0,dk0⟩,ek0,fk0⟩:=Hk0.two
 obtain ⟨⟨ck1,dk1⟩,ek1,fk1⟩:=Hk1.two
 obtain ⟨⟨ck2,dk2⟩,ek2,fk2⟩:=Hk2.two
 obtain ⟨⟨ck3,dk3⟩,ek3,fk3⟩:=Hk3.two
 obtain ⟨⟨ck4,dk4⟩,ek4,fk4⟩:=Hk4.two
 go_wp2_with fail
 refine cG (fun W=>Chg R0 w W∧Room W bv ov 5∧Has W k0 0 [.int .u64 (R04 % 18446744073709551616),.int .u64 (R04 / 18446744073709551616)]∧Has W k1 0 [.int .u64 (R14 % 18446744073709551616),.int .u64 (R14 / 18446744073709551616)]∧Has W k2 0 [.int .u64 (R24 % 18446744073709551616),.int .u64 (R24 / 18446744073709551616)]∧Has W k3 0 [.int .u64 (R34 % 18446744073709551616),.int .u64 (R34 / 18446744073709551616)]∧Has W k4 0 [.int .u64 (R43 % 18446744073709551616),.int .u64 (R43 / 18446744073709551616)]) ⟨(C.setCell _ (fun h=>absurd h (Nat.not_lt.2 zk4))).setCell _ (fun h=>absurd h (Nat.not_lt.2 zk4)),(RM.set _ _ _).set _ _ _,(Hk0.off _ (fun h=>absurd h nk0k4)).off _ (fun h=>absurd h nk0k4),(Hk1.off _ (fun h=>absurd h nk1k4)).off _ (fun h=>absurd h nk1k4),(Hk2.off _ (fun h=>absurd h nk2k4)).off _ (fun h=>absurd h nk2k4),(Hk3.off _ (fun h=>absurd h nk3k4)).off _ (fun h=>absurd h nk3k4),(Hk4.set 0 rfl _).set 1 rfl _⟩ ?_
 clear C RM Hk0 Hk1 Hk2 Hk3 Hk4 ck0 dk0 ek0 fk0 ck1 dk1 ek1 fk1 ck2 dk2 ek2 fk2 ck3 dk3 ek3 fk3 ck4 dk4 ek4 fk4
 rintro W ⟨C,RM,Hk0,Hk1,Hk2,Hk3,Hk4⟩
 obtain ⟨⟨ck0,dk0⟩,ek0,fk0⟩:=Hk0.two
 obtain ⟨⟨ck1,dk1⟩,ek1,fk1⟩:=Hk1.two
 obtain ⟨⟨ck2,dk2⟩,ek2,fk2⟩:=Hk2.two
 obtain ⟨⟨ck3,dk3⟩,ek3,fk3⟩:=Hk3.two
 obtain ⟨⟨ck4,dk4⟩,ek4,fk4⟩:=Hk4.two
 refine (uadd_w R43 x4 y0 _ 20282409608374036907091774406656 bR43 (by decide) (up_bd hx4) (up_bd hy0) (up_bd2 p25)).mono ?_
 rintro e W1 ⟨rfl,hb⟩
 obtain ⟨R44,qR44,bR44⟩:∃ R44,R44 = R43 + x4 * y0∧0 ≤ R44∧R44 < 25353012010467546133864718008320:=⟨_,rfl,sum_bd 20282409608374036907091774406656 5070602402093509226772943601664 25353012010467546133864718008320 bR43 p25 (by decide)⟩
 rw [←qR44]
 replace qR44:=hd qR44
 replace C:=C.trans (Chg.of_below hb)
 replace RM:=RM.later hb
 replace Hk0:=Hk0.later hb
 replace Hk1:=Hk1.later hb
 replace Hk2:=Hk2.later hb
 replace Hk3:=Hk3.later hb
 replace Hk4:=Hk4.later hb
 clear hb ck0 dk0 ek0 fk0 ck1 dk1 ek1 fk1 ck2 dk2 ek2 fk2 ck3 dk3 ek3 fk3 ck4 dk4 ek4 fk4
 obtain ⟨⟨ck0,dk0⟩,ek0,fk0⟩:=Hk0.two
 obtain ⟨⟨ck1,dk1⟩,ek1,fk1⟩:=Hk1.two
 obtain ⟨⟨ck2,dk2⟩,ek2,fk2⟩:=Hk2.two
 obtain ⟨⟨ck3,dk3⟩,ek3,fk3⟩:=Hk3.two
 obtain ⟨⟨ck4,dk4⟩,ek4,fk4⟩:=Hk4.two
 go_wp2_with fail
 refine cG (fun W=>Chg R0 w W∧Room W bv ov 5∧Has W k0 0 [.int .u64 (R04 % 18446744073709551616),.int .u64 (R04 / 18446744073709551616)]∧Has W k1 0 [.int .u64 (R14 % 18446744073709551616),.int .u64 (R14 / 18446744073709551616)]∧Has W k2 0 [.int .u64 (R24 % 18446744073709551616),.int .u64 (R24 / 18446744073709551616)]∧Has W k3 0 [.int .u64 (R34 % 18446744073709551616),.int .u64 (R34 / 18446744073709551616)]∧Has W k4 0 [.int .u64 (R44 % 18446744073709551616),.int .u64 (R44 / 18446744073709551616)]) ⟨(C.setCell _ (fun h=>absurd h (Nat.not_lt.2 zk4))).setCell _ (fun h=>absurd h (Nat.not_lt.2 zk4)),(RM.set _ _ _).set _ _ _,(Hk0.off _ (fun h=>absurd h nk0k4)).off _ (fun h=>absurd h nk0k4),(Hk1.off _ (fun h=>absurd h nk1k4)).off _ (fun h=>absurd h nk1k4),(Hk2.off _ (fun h=>absurd h nk2k4)).off _ (fun h=>absurd h nk2k4),(Hk3.off _ (fun h=>absurd h nk3k4)).off _ (fun h=>absurd h nk3k4),(Hk4.set 0 rfl _).set 1 rfl _⟩ ?_
 clear C RM Hk0 Hk1 Hk2 Hk3 Hk4 ck0 dk0 ek0 fk0 ck1 dk1 ek1 fk1 ck2 dk2 ek2 fk2 ck3 dk3 ek3 fk3 ck4 dk4 ek4 fk4
 rintro W ⟨C,RM,Hk0,Hk1,Hk2,Hk3,Hk4⟩
 obtain ⟨⟨ck0,dk0⟩,ek0,fk0⟩:=Hk0.two
 obtain ⟨⟨ck1,dk1⟩,ek1,fk1⟩:=Hk1.two
 obtain ⟨⟨ck2,dk2⟩,ek2,fk2⟩:=Hk2.two
 obtain ⟨⟨ck3,dk3⟩,ek3,fk3⟩:=Hk3.two
 obtain ⟨⟨ck4,dk4⟩,ek4,fk4⟩:=Hk4.two
 have v0:=wide_bd 390436384961200210461516657328128 bR04 (by decide)
 have v1:=wide_bd 299165541723517044379603672498176 bR14 (by decide)
 have v2:=wide_bd 207894698485833878297690687668224 bR24 (by decide)
 have v3:=wide_bd 116623855248150712215777702838272 bR34 (by decide)
 have v4:=wide_bd 25353012010467546133864718008320 bR44 (by decide)
 refine (shr51_c R04 _ v0.1 v0.2).mono ?_
 rintro e W1 ⟨rfl,hb⟩
 replace C:=C.trans (Chg.of_below hb)
 replace RM:=RM.later hb
 replace Hk0:=Hk0.later hb
 replace Hk1:=Hk1.later hb
 replace Hk2:=Hk2.later hb
 replace Hk3:=Hk3.later hb
 replace Hk4:=Hk4.later hb
 clear hb ck0 dk0 ek0 fk0 ck1 dk1 ek1 fk1 ck2 dk2 ek2 fk2 ck3 dk3 ek3 fk3 ck4 dk4 ek4 fk4
 obtain ⟨⟨ck0,dk0⟩,ek0,fk0⟩:=Hk0.two
 obtain ⟨⟨ck1,dk1⟩,ek1,fk1⟩:=Hk1.two
 obtain ⟨⟨ck2,dk2⟩,ek2,fk2⟩:=Hk2.two
 obtain ⟨⟨ck3,dk3⟩,ek3,fk3⟩:=Hk3.two
 obtain ⟨⟨ck4,dk4⟩,ek4,fk4⟩:=Hk4.two
 go_wp2_with fail
 refine (shr51_c R14 _ v1.1 v1.2).mono ?_
 rintro e W1 ⟨rfl,hb⟩
 replace C:=C.trans (Chg.of_below hb)
 replace RM:=RM.later hb
 replace Hk0:=Hk0.later hb
 replace Hk1:=Hk1.later hb
 replace Hk2:=Hk2.later hb
 replace Hk3:=Hk3.later hb
 replace Hk4:=Hk4.later hb
 clear hb ck0 dk0 ek0 fk0 ck1 dk1 ek1 fk1 ck2 dk2 ek2 fk2 ck3 dk3 ek3 fk3 ck4 dk4 ek4 fk4
 obtain ⟨⟨ck0,dk0⟩,ek0,fk0⟩:=Hk0.two
 obtain ⟨⟨ck1,dk1⟩,ek1,fk1⟩:=Hk1.two
 obtain ⟨⟨ck2,dk2⟩,ek2,fk2⟩:=Hk2.two
 obtain ⟨⟨ck3,dk3⟩,ek3,fk3⟩:=Hk3.two
 obtain ⟨⟨ck4,dk4⟩,ek4,fk4⟩:=Hk4.two
 go_wp2_with fail
 refine (shr51_c R24 _ v2.1 v2.2).mono ?_
 rintro e W1 ⟨rfl,hb⟩
 replace C:=C.trans (Chg.of_below hb)
 replace RM:=RM.later hb
 replace Hk0:=Hk0.later hb
 replace Hk1:=Hk1.later hb
 replace Hk2:=Hk2.later hb
 replace Hk3:=Hk3.later hb
 replace Hk4:=Hk4.later hb
 clear hb ck0 dk0 ek0 fk0 ck1 dk1 ek1 fk1 ck2 dk2 ek2 fk2 ck3 dk3 ek3 fk3 ck4 dk4 ek4 fk4
 obtain ⟨⟨ck0,dk0⟩,ek0,fk0⟩:=Hk0.two
 obtain ⟨⟨ck1,dk1⟩,ek1,fk1⟩:=Hk1.two
 obtain ⟨⟨ck2,dk2⟩,ek2,fk2⟩:=Hk2.two
 obtain ⟨⟨ck3,dk3⟩,ek3,fk3⟩:=Hk3.two
 obtain ⟨⟨ck4,dk4⟩,ek4,fk4⟩:=Hk4.two
 go_wp2_with fail
 refine (shr51_c R34 _ v3.1 v3.2).mono ?_
 rintro e W1 ⟨rfl,hb⟩
 replace C:=C.trans (Chg.of_below hb)
 replace RM:=RM.later hb
 replace Hk0:=Hk0.later hb
 replace Hk1:=Hk1.later hb
 replace Hk2:=Hk2.later hb
 replace Hk3:=Hk3.later hb
 replace Hk4:=Hk4.later hb
 clear hb ck0 dk0 ek0 fk0 ck1 dk1 ek1 fk1 ck2 dk2 ek2 fk2 ck3 dk3 ek3 fk3 ck4 dk4 ek4 fk4
 obtain ⟨⟨ck0,dk0⟩,ek0,fk0⟩:=Hk0.two
 obtain ⟨⟨ck1,dk1⟩,ek1,fk1⟩:=Hk1.two
 obtain ⟨⟨ck2,dk2⟩,ek2,fk2⟩:=Hk2.two
 obtain ⟨⟨ck3,dk3⟩,ek3,fk3⟩:=Hk3.two
 obtain ⟨⟨ck4,dk4⟩,ek4,fk4⟩:=Hk4.two
 go_wp2_with fail
 refine (shr51_c R44 _ v4.1 v4.2).mono ?_
 rintro e W1 ⟨rfl,hb⟩
 replace C:=C.trans (Chg.of_below hb)
 replace RM:=RM.later hb
 replace Hk0:=Hk0.later hb
 replace Hk1:=Hk1.later hb
 replace Hk2:=Hk2.later hb
 replace Hk3:=Hk3.later hb
 replace Hk4:=Hk4.later hb
 clear hb ck0 dk0 ek0 fk0 ck1 dk1 ek1 fk1 ck2 dk2 ek2 fk2 ck3 dk3 ek3 fk3 ck4 dk4 ek4 fk4
 obtain ⟨⟨ck0,dk0⟩,ek0,fk0⟩:=Hk0.two
 obtain ⟨⟨ck1,dk1⟩,ek1,fk1⟩:=Hk1.two
 obtain ⟨⟨ck2,dk2⟩,ek2,fk2⟩:=Hk2.two
 obtain ⟨⟨ck3,dk3⟩,ek3,fk3⟩:=Hk3.two
 obtain ⟨⟨ck4,dk4⟩,ek4,fk4⟩:=Hk4.two
 have u0:0 ≤ R04∧R04 < 390436384961200210461516657328128:=wide_up 390436384961200210461516657328128 bR04 (by decide)
 have u1:0 ≤ R14∧R14 < 390436384961200210461516657328128:=wide_up 299165541723517044379603672498176 bR14 (by decide)
 have u2:0 ≤ R24∧R24 < 390436384961200210461516657328128:=wide_up 207894698485833878297690687668224 bR24 (by decide)
 have u3:0 ≤ R34∧R34 < 390436384961200210461516657328128:=wide_up 116623855248150712215777702838272 bR34 (by decide)
 have u4:0 ≤ R44∧R44 < 390436384961200210461516657328128:=wide_up 25353012010467546133864718008320 bR44 (by decide)
 clear v0 v1 v2 v3 v4
 have m0:=and51 (R04 % 18446744073709551616) (by omega) (by omega)
 have m1:=and51 (R14 % 18446744073709551616) (by omega) (by omega)
 have m2:=and51 (R24 % 18446744073709551616) (by omega) (by omega)
 have m3:=and51 (R34 % 18446744073709551616) (by omega) (by omega)
 have m4:=and51 (R44 % 18446744073709551616) (by omega) (by omega)
 have l0:=and51 (R04 % 2251799813685248 + 19 * (R44 / 2251799813685248)) (by omega) (by omega)
 have l1:=and51 (R14 % 2251799813685248 + R04 / 2251799813685248) (by omega) (by omega)
 have l2:=and51 (R24 % 2251799813685248 + R14 / 2251799813685248) (by omega) (by omega)
 have l3:=and51 (R34 % 2251799813685248 + R24 / 2251799813685248) (by omega) (by omega)
 have l4:=and51 (R44 % 2251799813685248 + R34 / 2251799813685248) (by omega) (by omega)
 clear p1 p2 p3 p4 p5 p6 p7 p8 p9 p10 p11 p12 p13 p14 p15 p16 p17 p18 p19 p20 p21 p22 p23 p24 p25 hx0 X0 hx1 X1 hx2 X2 hx3 X3 hx4 X4 hy0 Y0 hy1 Y1 hy2 Y2 hy3 Y3 hy4 Y4
 clear nk0k1 nk0k2 nk0k3 nk0k4 nk1k0 nk1k2 nk1k3 nk1k4 nk2k0 nk2k1 nk2k3 nk2k4 nk3k0 nk3k1 nk3k2 nk3k4 nk4k0 nk4k1 nk4k2 nk4k3 zk0 nvk0 zk1 nvk1 zk2 nvk2 zk3 nvk3 zk4 nvk4 bR00 bR01 bR02 bR03 bR04 bR10 bR11 bR12 bR13 bR14 bR20 bR21 bR22 bR23 bR24 bR30 bR31 bR32 bR33 bR34 bR40 bR41 bR42 bR43 bR44
 replace RM:=hd RM
 replace C:=hd C
 replace Hk0:=hd Hk0
 replace Hk1:=hd Hk1
 replace Hk2:=hd Hk2
 replace Hk3:=hd Hk3
 replace Hk4:=hd Hk4
 go_wp2_with fail
 refine wp_region_still_lit (by kernel_rfl) (by kernel_rfl) ?_
 repeat still_step
 still_call (mul19_c _ _ (by omega) (by omega))
 repeat still_step
 refine wpStill_nil ?_
 go_wp2_with fail
 obtain ⟨o0,o1,o2,o3,o4,hv⟩:=RM.out.five
 have C':Chg (Rg bv ov 5) w W1:=C.out.mono (fun _ _ _ h=>h.elim)
 refine cG (fun W=>Chg (Rg bv ov 5) w W∧Has W bv ov [o0,o1,o2,o3,o4]) ⟨C'.drew,hv.drew⟩ ?_
 clear C C' hv RM Hk0 Hk1 Hk2 Hk3 Hk4 ck0 dk0 ek0 fk0 ck1 dk1 ek1 fk1 ck2 dk2 ek2 fk2 ck3 dk3 ek3 fk3 ck4 dk4 ek4 fk4
 rintro W ⟨C,V⟩
 obtain ⟨⟨g0,g1,g2,g3,g4⟩,i0,i1,i2,i3,i4⟩:=V.five
 refine (mul19_c _ _ (by omega) (by omega)).mono ?_
 rintro e w' ⟨rfl,rfl⟩
 go_wp2_with fail
 go_end0
 have S:=fun a b c d e=>((((V.set 0 rfl a).set 1 rfl b).set 2 rfl c).set 3 rfl d).set 4 rfl e
 have D:=fun a b c d e=>((((C.setCell a (o:=ov) (b:=bv) (fun _=>⟨rfl,by omega,by omega⟩)).setCell b (o:=ov + 1) (b:=bv) (fun _=>⟨rfl,by omega,by omega⟩)).setCell c (o:=ov + 2) (b:=bv) (fun _=>⟨rfl,by omega,by omega⟩)).setCell d (o:=ov + 3) (b:=bv) (fun _=>⟨rfl,by omega,by omega⟩)).setCell e (o:=ov + 4) (b:=bv) (fun _=>⟨rfl,by omega,by omega⟩)
 refine ⟨rfl,D _ _ _ _ _,?_⟩
 have E0:r0 ⟨x0,x1,x2,x3,x4⟩ ⟨y0,y1,y2,y3,y4⟩ = R04:=by
  rw [qR04.out,qR03.out,qR02.out,qR01.out,qR00.out];simp only [r0]<;>grind
 have E1:r1 ⟨x0,x1,x2,x3,x4⟩ ⟨y0,y1,y2,y3,y4⟩ = R14:=by
  rw [qR14.out,qR13.out,qR12.out,qR11.out,qR10.out];simp only [r1]<;>grind
 have E2:r2 ⟨x0,x1,x2,x3,x4⟩ ⟨y0,y1,y2,y3,y4⟩ = R24:=by
  rw [qR24.out,qR23.out,qR22.out,qR21.out,qR20.out];simp only [r2]<;>grind
 have E3:r3 ⟨x0,x1,x2,x3,x4⟩ ⟨y0,y1,y2,y3,y4⟩ = R34:=by
  rw [qR34.out,qR33.out,qR32.out,qR31.out,qR30.out];simp only [r3]<;>grind
 have E4:r4 ⟨x0,x1,x2,x3,x4⟩ ⟨y0,y1,y2,y3,y4⟩ = R44:=by
  rw [qR44.out,qR43.out,qR42.out,qR41.out,qR40.out];simp only [r4]<;>grind
 rw [E0,E1,E2,E3,E4]
 clear E0 E1 E2 E3 E4 m0 m1 m2 m3 m4 l0 l1 l2 l3 l4 D C
 refine Has.congr (S _ _ _ _ _) (list5 ?_ ?_ ?_ ?_ ?_)<;>(dsimp only;omega)
theorem feSquareGeneric_c (bv ov bx ox:Nat) (x:L5) (w:World) (hx:x.ok) (RM:Room w bv ov 5) (X:Has w bx ox (cells x)) :
  Calls Tryz.prog 129 #[Ptr bv ov,Ptr bx ox] w fun e w'=>e = .returned (.tuple #[])∧Chg (Rg bv ov 5) w w'∧Has w' bv ov (cells (redc (r0 x x) (r1 x x) (r2 x x) (r3 x x) (r4 x x))):=by
 obtain ⟨x0,x1,x2,x3,x4⟩:=x
 obtain ⟨hx0,hx1,hx2,hx3,hx4⟩:=hx
 simp only at hx0 hx1 hx2 hx3 hx4
 obtain ⟨⟨X0,X1,X2,X3,X4⟩,_⟩:=X.five
 clear X
 have p1:=b_mul x0 x0 hx0 hx0
 have p2:=b_mul38 x1 x4 hx1 hx4
 have p3:=b_mul38 x2 x3 hx2 hx3
 have p4:=b_mul2 x0 x1 hx0 hx1
 have p5:=b_mul38 x2 x4 hx2 hx4
 have p6:=b_mul19 x3 x3 hx3 hx3
 have p7:=b_mul2 x0 x2 hx0 hx2
 have p8:=b_mul x1 x1 hx1 hx1
 have p9:=b_mul38 x3 x4 hx3 hx4
 have p10:=b_mul2 x0 x3 hx0 hx3
 have p11:=b_mul2 x1 x2 hx1 hx2
 have p12:=b_mul19 x4 x4 hx4 hx4
 have p13:=b_mul2 x0 x4 hx0 hx4
 have p14:=b_mul2 x1 x3 hx1 hx3
 have p15:=b_mul x2 x2 hx2 hx2
 go_enter Tryz.func129,Tryz.ntmps129
 have C:Chg R0 w w:=Chg.refl _ _
 go_wp2_with fail
 refine (umul_w x0 x0 _ (up_bd hx0) (up_bd hx0)).mono ?_
 rintro e W1 ⟨rfl,hb⟩
 obtain ⟨R00,qR00,bR00⟩:∃ R00,R00 = x0 * x0∧0 ≤ R00∧R00 < 5070602402093509226772943601664:=⟨_,rfl,p1⟩
 rw [←qR00]
 replace qR00:=hd qR00
 replace C:=C.trans (Chg.of_below hb)
 replace RM:=RM.later hb
 clear hb
 go_wp2_with fail
 generalize hk:W1.heap.size = k0
 have zk0:w.heap.size ≤ k0:=hk ▸ C.size
 have nvk0:bv ≠ k0:=Nat.ne_of_lt (hk ▸ RM.lt (by decide))
 refine cG (fun W=>Chg R0 w W∧Room W bv ov 5∧Has W k0 0 [.int .u64 (R00 % 18446744073709551616),.int .u64 (R00 / 18446744073709551616)]) ⟨C.alloc _,RM.later (bA _ _),hk ▸ Has.new W1 _ 184⟩ ?_
 clear C RM hk
 rintro W ⟨C,RM,Hk0⟩
 obtain ⟨⟨ck0,dk0⟩,ek0,fk0⟩:=Hk0.two
 refine (uadd38_w R00 x1 x4 _ 5070602402093509226772943601664 bR00 (by decide) hx1 hx4 p2).mono ?_
 rintro e W1 ⟨rfl,hb⟩
 obtain ⟨R01,qR01,bR01⟩:∃ R01,R01 = R00 + 19 * x1 * (x4 * 2)∧0 ≤ R01∧R01 < 197753493681646859844144800464896:=⟨_,rfl,sum_bd 5070602402093509226772943601664 192682891279553350617371856863232 197753493681646859844144800464896 bR00 p2 (by decide)⟩
 rw [←qR01]
 replace qR01:=hd qR01
 replace C:=C.trans (Chg.of_below hb)
 replace RM:=RM.later hb
 replace Hk0:=Hk0.later hb
 clear hb ck0 dk0 ek0 fk0
 obtain ⟨⟨ck0,dk0⟩,ek0,fk0⟩:=Hk0.two
 go_wp2_with fail
 refine cG (fun W=>Chg R0 w W∧Room W bv ov 5∧Has W k0 0 [.int .u64 (R01 % 18446744073709551616),.int .u64 (R01 / 18446744073709551616)]) ⟨(C.setCell _ (fun h=>absurd h (Nat.not_lt.2 zk0))).setCell _ (fun h=>absurd h (Nat.not_lt.2 zk0)),(RM.set _ _ _).set _ _ _,(Hk0.set 0 rfl _).set 1 rfl _⟩ ?_
 clear C RM Hk0 ck0 dk0 ek0 fk0
 rintro W ⟨C,RM,Hk0⟩
 obtain ⟨⟨ck0,dk0⟩,ek0,fk0⟩:=Hk0.two
 refine (uadd38_w R01 x2 x3 _ 197753493681646859844144800464896 bR01 (by decide) hx2 hx3 p3).mono ?_
 rintro e W1 ⟨rfl,hb⟩
 obtain ⟨R02,qR02,bR02⟩:∃ R02,R02 = R01 + 19 * x2 * (x3 * 2)∧0 ≤ R02∧R02 < 390436384961200210461516657328128:=⟨_,rfl,sum_bd 197753493681646859844144800464896 192682891279553350617371856863232 390436384961200210461516657328128 bR01 p3 (by decide)⟩
 rw [←qR02]
 replace qR02:=hd qR02
 replace C:=C.trans (Chg.of_below hb)
 replace RM:=RM.later hb
 replace Hk0:=Hk0.later hb
 clear hb ck0 dk0 ek0 fk0
 obtain ⟨⟨ck0,dk0⟩,ek0,fk0⟩:=Hk0.two
 go_wp2_with fail
 refine cG (fun W=>Chg R0 w W∧Room W bv ov 5∧Has W k0 0 [.int .u64 (R02 % 18446744073709551616),.int .u64 (R02 / 18446744073709551616)]) ⟨(C.setCell _ (fun h=>absurd h (Nat.not_lt.2 zk0))).setCell _ (fun h=>absurd h (Nat.not_lt.2 zk0)),(RM.set _ _ _).set _ _ _,(Hk0.set 0 rfl _).set 1 rfl _⟩ ?_
 clear C RM Hk0 ck0 dk0 ek0 fk0
 rintro W ⟨C,RM,Hk0⟩
 obtain ⟨⟨ck0,dk0⟩,ek0,fk0⟩:=Hk0.two
 refine (umul_w (x0 * 2) x1 _ (twice_bd hx0) (up_bd hx1)).mono ?_
 rintro e W1 ⟨rfl,hb⟩
 obtain ⟨R10,qR10,bR10⟩:∃ R10,R10 = (x0 * 2) * x1∧0 ≤ R10∧R10 < 10141204804187018453545887203328:=⟨_,rfl,p4⟩
 rw [←qR10]
 replace qR10:=hd qR10
 replace C:=C.trans (Chg.of_below hb)
 replace RM:=RM.later hb
 replace Hk0:=Hk0.later hb
 clear hb ck0 dk0 ek0 fk0
 obtain ⟨⟨ck0,dk0⟩,ek0,fk0⟩:=Hk0.two
 go_wp2_with fail
 generalize hk:W1.heap.size = k1
 have zk1:w.heap.size ≤ k1:=hk ▸ C.size
 have nk0k1:k0 ≠ k1:=Nat.ne_of_lt (hk ▸ Hk0.lt (by simp))
 have nk1k0:k1 ≠ k0:=Ne.symm nk0k1
 have nvk1:bv ≠ k1:=Nat.ne_of_lt (hk ▸ RM.lt (by decide))
 refine cG (fun W=>Chg R0 w W∧Room W bv ov 5∧Has W k0 0 [.int .u64 (R02 % 18446744073709551616),.int .u64 (R02 / 18446744073709551616)]∧Has W k1 0 [.int .u64 (R10 % 18446744073709551616),.int .u64 (R10 / 18446744073709551616)]) ⟨C.alloc _,RM.later (bA _ _),Hk0.later (bA _ _),hk ▸ Has.new W1 _ 184⟩ ?_
 clear C RM Hk0 ck0 dk0 ek0 fk0 hk
 rintro W ⟨C,RM,Hk0,Hk1⟩
 obtain ⟨⟨ck0,dk0⟩,ek0,fk0⟩:=Hk0.two
 obtain ⟨⟨ck1,dk1⟩,ek1,fk1⟩:=Hk1.two
 refine (uadd38_w R10 x2 x4 _ 10141204804187018453545887203328 bR10 (by decide) hx2 hx4 p5).mono ?_
 rintro e W1 ⟨rfl,hb⟩
 obtain ⟨R11,qR11,bR11⟩:∃ R11,R11 = R10 + 19 * x2 * (x4 * 2)∧0 ≤ R11∧R11 < 202824096083740369070917744066560:=⟨_,rfl,sum_bd 10141204804187018453545887203328 192682891279553350617371856863232 202824096083740369070917744066560 bR10 p5 (by decide)⟩
 rw [←qR11]
 replace qR11:=hd qR11
 replace C:=C.trans (Chg.of_below hb)
 replace RM:=RM.later hb
 replace Hk0:=Hk0.later hb
 replace Hk1:=Hk1.later hb
 clear hb ck0 dk0 ek0 fk0 ck1 dk1 ek1 fk1
 obtain ⟨⟨ck0,dk0⟩,ek0,fk0⟩:=Hk0.two
 obtain ⟨⟨ck1,dk1⟩,ek1,fk1⟩:=Hk1.two
 go_wp2_with fail
 refine cG (fun W=>Chg R0 w W∧Room W bv ov 5∧Has W k0 0 [.int .u64 (R02 % 18446744073709551616),.int .u64 (R02 / 18446744073709551616)]∧Has W k1 0 [.int .u64 (R11 % 18446744073709551616),.int .u64 (R11 / 18446744073709551616)]) ⟨(C.setCell _ (fun h=>absurd h (Nat.not_lt.2 zk1))).setCell _ (fun h=>absurd h (Nat.not_lt.2 zk1)),(RM.set _ _ _).set _ _ _,(Hk0.off _ (fun h=>absurd h nk0k1)).off _ (fun h=>absurd h nk0k1),(Hk1.set 0 rfl _).set 1 rfl _⟩ ?_
 clear C RM Hk0 Hk1 ck0 dk0 ek0 fk0 ck1 dk1 ek1 fk1
 rintro W ⟨C,RM,Hk0,Hk1⟩
 obtain ⟨⟨ck0,dk0⟩,ek0,fk0⟩:=Hk0.two
 obtain ⟨⟨ck1,dk1⟩,ek1,fk1⟩:=Hk1.two
 refine (uadd19_w R11 x3 x3 _ 202824096083740369070917744066560 bR11 (by decide) hx3 hx3 p6).mono ?_
 rintro e W1 ⟨rfl,hb⟩
 obtain ⟨R12,qR12,bR12⟩:∃ R12,R12 = R11 + 19 * x3 * x3∧0 ≤ R12∧R12 < 299165541723517044379603672498176:=⟨_,rfl,sum_bd 202824096083740369070917744066560 96341445639776675308685928431616 299165541723517044379603672498176 bR11 p6 (by decide)⟩
 rw [←qR12]
 replace qR12:=hd qR12
 replace C:=C.trans (Chg.of_below hb)
 replace RM:=RM.later hb
 replace Hk0:=Hk0.later hb
 replace Hk1:=Hk1.later hb
 clear hb ck0 dk0 ek0 fk0 ck1 dk1 ek1 fk1
 obtain ⟨⟨ck0,dk0⟩,ek0,fk0⟩:=Hk0.two
 obtain ⟨⟨ck1,dk1⟩,ek1,fk1⟩:=Hk1.two
 go_wp2_with fail
 refine cG (fun W=>Chg R0 w W∧Room W bv ov 5∧Has W k0 0 [.int .u64 (R02 % 18446744073709551616),.int .u64 (R02 / 18446744073709551616)]∧Has W k1 0 [.int .u64 (R12 % 18446744073709551616),.int .u64 (R12 / 18446744073709551616)]) ⟨(C.setCell _ (fun h=>absurd h (Nat.not_lt.2 zk1))).setCell _ (fun h=>absurd h (Nat.not_lt.2 zk1)),(RM.set _ _ _).set _ _ _,(Hk0.off _ (fun h=>absurd h nk0k1)).off _ (fun h=>absurd h nk0k1),(Hk1.set 0 rfl _).set 1 rfl _⟩ ?_
 clear C RM Hk0 Hk1 ck0 dk0 ek0 fk0 ck1 dk1 ek1 fk1
 rintro W ⟨C,RM,Hk0,Hk1⟩
 obtain ⟨⟨ck0,dk0⟩,ek0,fk0⟩:=Hk0.two
 obtain ⟨⟨ck1,dk1⟩,ek1,fk1⟩:=Hk1.two
 refine (umul_w (x0 * 2) x2 _ (twice_bd hx0) (up_bd hx2)).mono ?_
 rintro e W1 ⟨rfl,hb⟩
 obtain ⟨R20,qR20,bR20⟩:∃ R20,R20 = (x0 * 2) * x2∧0 ≤ R20∧R20 < 10141204804187018453545887203328:=⟨_,rfl,p7⟩
 rw [←qR20]
 replace qR20:=hd qR20
 replace C:=C.trans (Chg.of_below hb)
 replace RM:=RM.later hb
 replace Hk0:=Hk0.later hb
 replace Hk1:=Hk1.later hb
 clear hb ck0 dk0 ek0 fk0 ck1 dk1 ek1 fk1
 obtain ⟨⟨ck0,dk0⟩,ek0,fk0⟩:=Hk0.two
 obtain ⟨⟨ck1,dk1⟩,ek1,fk1⟩:=Hk1.two
 go_wp2_with fail
 generalize hk:W1.heap.size = k2
 have zk2:w.heap.size ≤ k2:=hk ▸ C.size
 have nk0k2:k0 ≠ k2:=Nat.ne_of_lt (hk ▸ Hk0.lt (by simp))
 have nk2k0:k2 ≠ k0:=Ne.symm nk0k2
 have nk1k2:k1 ≠ k2:=Nat.ne_of_lt (hk ▸ Hk1.lt (by simp))
 have nk2k1:k2 ≠ k1:=Ne.symm nk1k2
 have nvk2:bv ≠ k2:=Nat.ne_of_lt (hk ▸ RM.lt (by decide))
 refine cG (fun W=>Chg R0 w W∧Room W bv ov 5∧Has W k0 0 [.int .u64 (R02 % 18446744073709551616),.int .u64 (R02 / 18446744073709551616)]∧Has W k1 0 [.int .u64 (R12 % 18446744073709551616),.int .u64 (R12 / 18446744073709551616)]∧Has W k2 0 [.int .u64 (R20 % 18446744073709551616),.int .u64 (R20 / 18446744073709551616)]) ⟨C.alloc _,RM.later (bA _ _),Hk0.later (bA _ _),Hk1.later (bA _ _),hk ▸ Has.new W1 _ 184⟩ ?_
 clear C RM Hk0 Hk1 ck0 dk0 ek0 fk0 ck1 dk1 ek1 fk1 hk
 rintro W ⟨C,RM,Hk0,Hk1,Hk2⟩
 obtain ⟨⟨ck0,dk0⟩,ek0,fk0⟩:=Hk0.two
 obtain ⟨⟨ck1,dk1⟩,ek1,fk1⟩:=Hk1.two
 obtain ⟨⟨ck2,dk2⟩,ek2,fk2⟩:=Hk2.two
 refine (uadd_w R20 x1 x1 _ 10141204804187018453545887203328 bR20 (by decide) (up_bd hx1) (up_bd hx1) (up_bd2 p8)).mono ?_
 rintro e W1 ⟨rfl,hb⟩
 obtain ⟨R21,qR21,bR21⟩:∃ R21,R21 = R20 + x1 * x1∧0 ≤ R21∧R21 < 15211807206280527680318830804992:=⟨_,rfl,sum_bd 10141204804187018453545887203328 5070602402093509226772943601664 15211807206280527680318830804992 bR20 p8 (by decide)⟩
 rw [←qR21]
 replace qR21:=hd qR21
 replace C:=C.trans (Chg.of_below hb)
 replace RM:=RM.later hb
 replace Hk0:=Hk0.later hb
 replace Hk1:=Hk1.later hb
 replace Hk2:=Hk2.later hb
 clear hb ck0 dk0 ek0 fk0 ck1 dk1 ek1 fk1 ck2 dk2 ek2 fk2
 obtain ⟨⟨ck0,dk0⟩,ek0,fk0⟩:=Hk0.two
 obtain ⟨⟨ck1,dk1⟩,ek1,fk1⟩:=Hk1.two
 obtain ⟨⟨ck2,dk2⟩,ek2,fk2⟩:=Hk2.two
 go_wp2_with fail
 refine cG (fun W=>Chg R0 w W∧Room W bv ov 5∧Has W k0 0 [.int .u64 (R02 % 18446744073709551616),.int .u64 (R02 / 18446744073709551616)]∧Has W k1 0 [.int .u64 (R12 % 18446744073709551616),.int .u64 (R12 / 18446744073709551616)]∧Has W k2 0 [.int .u64 (R21 % 18446744073709551616),.int .u64 (R21 / 18446744073709551616)]) ⟨(C.setCell _ (fun h=>absurd h (Nat.not_lt.2 zk2))).setCell _ (fun h=>absurd h (Nat.not_lt.2 zk2)),(RM.set _ _ _).set _ _ _,(Hk0.off _ (fun h=>absurd h nk0k2)).off _ (fun h=>absurd h nk0k2),(Hk1.off _ (fun h=>absurd h nk1k2)).off _ (fun h=>absurd h nk1k2),(Hk2.set 0 rfl _).set 1 rfl _⟩ ?_
 clear C RM Hk0 Hk1 Hk2 ck0 dk0 ek0 fk0 ck1 dk1 ek1 fk1 ck2 dk2 ek2 fk2
 rintro W ⟨C,RM,Hk0,Hk1,Hk2⟩
 obtain ⟨⟨ck0,dk0⟩,ek0,fk0⟩:=Hk0.two
 obtain ⟨⟨ck1,dk1⟩,ek1,fk1⟩:=Hk1.two
 obtain ⟨⟨ck2,dk2⟩,ek2,fk2⟩:=Hk2.two
 refine (uadd38_w R21 x3 x4 _ 15211807206280527680318830804992 bR21 (by decide) hx3 hx4 p9).mono ?_
 rintro e W1 ⟨rfl,hb⟩
 obtain ⟨R22,qR22,bR22⟩:∃ R22,R22 = R21 + 19 * x3 * (x4 * 2)∧0 ≤ R22∧R22 < 207894698485833878297690687668224:=⟨_,rfl,sum_bd 15211807206280527680318830804992 192682891279553350617371856863232 207894698485833878297690687668224 bR21 p9 (by decide)⟩
 rw [←qR22]
 replace qR22:=hd qR22
 replace C:=C.trans (Chg.of_below hb)
 replace RM:=RM.later hb
 replace Hk0:=Hk0.later hb
 replace Hk1:=Hk1.later hb
 replace Hk2:=Hk2.later hb
 clear hb ck0 dk0 ek0 fk0 ck1 dk1 ek1 fk1 ck2 dk2 ek2 fk2
 obtain ⟨⟨ck0,dk0⟩,ek0,fk0⟩:=Hk0.two
 obtain ⟨⟨ck1,dk1⟩,ek1,fk1⟩:=Hk1.two
 obtain ⟨⟨ck2,dk2⟩,ek2,fk2⟩:=Hk2.two
 go_wp2_with fail
 refine cG (fun W=>Chg R0 w W∧Room W bv ov 5∧Has W k0 0 [.int .u64 (R02 % 18446744073709551616),.int .u64 (R02 / 18446744073709551616)]∧Has W k1 0 [.int .u64 (R12 % 18446744073709551616),.int .u64 (R12 / 18446744073709551616)]∧Has W k2 0 [.int .u64 (R22 % 18446744073709551616),.int .u64 (R22 / 18446744073709551616)]) ⟨(C.setCell _ (fun h=>absurd h (Nat.not_lt.2 zk2))).setCell _ (fun h=>absurd h (Nat.not_lt.2 zk2)),(RM.set _ _ _).set _ _ _,(Hk0.off _ (fun h=>absurd h nk0k2)).off _ (fun h=>absurd h nk0k2),(Hk1.off _ (fun h=>absurd h nk1k2)).off _ (fun h=>absurd h nk1k2),(Hk2.set 0 rfl _).set 1 rfl _⟩ ?_
 clear C RM Hk0 Hk1 Hk2 ck0 dk0 ek0 fk0 ck1 dk1 ek1 fk1 ck2 dk2 ek2 fk2
 rintro W ⟨C,RM,Hk0,Hk1,Hk2⟩
 obtain ⟨⟨ck0,dk0⟩,ek0,fk0⟩:=Hk0.two
 obtain ⟨⟨ck1,dk1⟩,ek1,fk1⟩:=Hk1.two
 obtain ⟨⟨ck2,dk2⟩,ek2,fk2⟩:=Hk2.two
 refine (umul_w (x0 * 2) x3 _ (twice_bd hx0) (up_bd hx3)).mono ?_
 rintro e W1 ⟨rfl,hb⟩
 obtain ⟨R30,qR30,bR30⟩:∃ R30,R30 = (x0 * 2) * x3∧0 ≤ R30∧R30 < 10141204804187018453545887203328:=⟨_,rfl,p10⟩
 rw [←qR30]
 replace qR30:=hd qR30
 replace C:=C.trans (Chg.of_below hb)
 replace RM:=RM.later hb
 replace Hk0:=Hk0.later hb
 replace Hk1:=Hk1.later hb
 replace Hk2:=Hk2.later hb
 clear hb ck0 dk0 ek0 fk0 ck1 dk1 ek1 fk1 ck2 dk2 ek2 fk2
 obtain ⟨⟨ck0,dk0⟩,ek0,fk0⟩:=Hk0.two
 obtain ⟨⟨ck1,dk1⟩,ek1,fk1⟩:=Hk1.two
 obtain ⟨⟨ck2,dk2⟩,ek2,fk2⟩:=Hk2.two
 go_wp2_with fail
 generalize hk:W1.heap.size = k3
 have zk3:w.heap.size ≤ k3:=hk ▸ C.size
 have nk0k3:k0 ≠ k3:=Nat.ne_of_lt (hk ▸ Hk0.lt (by simp))
 have nk3k0:k3 ≠ k0:=Ne.symm nk0k3
 have nk1k3:k1 ≠ k3:=Nat.ne_of_lt (hk ▸ Hk1.lt (by simp))
 have nk3k1:k3 ≠ k1:=Ne.symm nk1k3
 have nk2k3:k2 ≠ k3:=Nat.ne_of_lt (hk ▸ Hk2.lt (by simp))
 have nk3k2:k3 ≠ k2:=Ne.symm nk2k3
 have nvk3:bv ≠ k3:=Nat.ne_of_lt (hk ▸ RM.lt (by decide))
 refine cG (fun W=>Chg R0 w W∧Room W bv ov 5∧Has W k0 0 [.int .u64 (R02 % 18446744073709551616),.int .u64 (R02 / 18446744073709551616)]∧Has W k1 0 [.int .u64 (R12 % 18446744073709551616),.int .u64 (R12 / 18446744073709551616)]∧Has W k2 0 [.int .u64 (R22 % 18446744073709551616),.int .u64 (R22 / 18446744073709551616)]∧Has W k3 0 [.int .u64 (R30 % 18446744073709551616),.int .u64 (R30 / 18446744073709551616)]) ⟨C.alloc _,RM.later (bA _ _),Hk0.later (bA _ _),Hk1.later (bA _ _),Hk2.later (bA _ _),hk ▸ Has.new W1 _ 184⟩ ?_
 clear C RM Hk0 Hk1 Hk2 ck0 dk0 ek0 fk0 ck1 dk1 ek1 fk1 ck2 dk2 ek2 fk2 hk
 rintro W ⟨C,RM,Hk0,Hk1,Hk2,Hk3⟩
 obtain ⟨⟨ck0,dk0⟩,ek0,fk0⟩:=Hk0.two
 obtain ⟨⟨ck1,dk1⟩,ek1,fk1⟩:=Hk1.two
 obtain ⟨⟨ck2,dk2⟩,ek2,fk2⟩:=Hk2.two
 obtain ⟨⟨ck3,dk3⟩,ek3,fk3⟩:=Hk3.two
 refine (uadd_w R30 (x1 * 2) x2 _ 10141204804187018453545887203328 bR30 (by decide) (twice_bd hx1) (up_bd hx2) p11).mono ?_
 rintro e W1 ⟨rfl,hb⟩
 obtain ⟨R31,qR31,bR31⟩:∃ R31,R31 = R30 + (x1 * 2) * x2∧0 ≤ R31∧R31 < 20282409608374036907091774406656:=⟨_,rfl,sum_bd 10141204804187018453545887203328 10141204804187018453545887203328 20282409608374036907091774406656 bR30 p11 (by decide)⟩
 rw [←qR31]
 replace qR31:=hd qR31
 replace C:=C.trans (Chg.of_below hb)
 replace RM:=RM.later hb
 replace Hk0:=Hk0.later hb
 replace Hk1:=Hk1.later hb
 replace Hk2:=Hk2.later hb
 replace Hk3:=Hk3.later hb
 clear hb ck0 dk0 ek0 fk0 ck1 dk1 ek1 fk1 ck2 dk2 ek2 fk2 ck3 dk3 ek3 fk3
 obtain ⟨⟨ck0,dk0⟩,ek0,fk0⟩:=Hk0.two
 obtain ⟨⟨ck1,dk1⟩,ek1,fk1⟩:=Hk1.two
 obtain ⟨⟨ck2,dk2⟩,ek2,fk2⟩:=Hk2.two
 obtain ⟨⟨ck3,dk3⟩,ek3,fk3⟩:=Hk3.two
 go_wp2_with fail
 refine cG (fun W=>Chg R0 w W∧Room W bv ov 5∧Has W k0 0 [.int .u64 (R02 % 18446744073709551616),.int .u64 (R02 / 18446744073709551616)]∧Has W k1 0 [.int .u64 (R12 % 18446744073709551616),.int .u64 (R12 / 18446744073709551616)]∧Has W k2 0 [.int .u64 (R22 % 18446744073709551616),.int .u64 (R22 / 18446744073709551616)]∧Has W k3 0 [.int .u64 (R31 % 18446744073709551616),.int .u64 (R31 / 18446744073709551616)]) ⟨(C.setCell _ (fun h=>absurd h (Nat.not_lt.2 zk3))).setCell _ (fun h=>absurd h (Nat.not_lt.2 zk3)),(RM.set _ _ _).set _ _ _,(Hk0.off _ (fun h=>absurd h nk0k3)).off _ (fun h=>absurd h nk0k3),(Hk1.off _ (fun h=>absurd h nk1k3)).off _ (fun h=>absurd h nk1k3),(Hk2.off _ (fun h=>absurd h nk2k3)).off _ (fun h=>absurd h nk2k3),(Hk3.set 0 rfl _).set 1 rfl _⟩ ?_
 clear C RM Hk0 Hk1 Hk2 Hk3 ck0 dk0 ek0 fk0 ck1 dk1 ek1 fk1 ck2 dk2 ek2 fk2 ck3 dk3 ek3 fk3
 rintro W ⟨C,RM,Hk0,Hk1,Hk2,Hk3⟩
 obtain ⟨⟨ck0,dk0⟩,ek0,fk0⟩:=Hk0.two
 obtain ⟨⟨ck1,dk1⟩,ek1,fk1⟩:=Hk1.two
 obtain ⟨⟨ck2,dk2⟩,ek2,fk2⟩:=Hk2.two
 obtain ⟨⟨ck3,dk3⟩,ek3,fk3⟩:=Hk3.two
 refine (uadd19_w R31 x4 x4 _ 20282409608374036907091774406656 bR31 (by decide) hx4 hx4 p12).mono ?_
 rintro e W1 ⟨rfl,hb⟩
 obtain ⟨R32,qR32,bR32⟩:∃ R32,R32 = R31 + 19 * x4 * x4∧0 ≤ R32∧R32 < 116623855248150712215777702838272:=⟨_,rfl,sum_bd 20282409608374036907091774406656 96341445639776675308685928431616 116623855248150712215777702838272 bR31 p12 (by decide)⟩
 rw [←qR32]
 replace qR32:=hd qR32
 replace C:=C.trans (Chg.of_below hb)
 replace RM:=RM.later hb
 replace Hk0:=Hk0.later hb
 replace Hk1:=Hk1.later hb
 replace Hk2:=Hk2.later hb
 replace Hk3:=Hk3.later hb
 clear hb ck0 dk0 ek0 fk0 ck1 dk1 ek1 fk1 ck2 dk2 ek2 fk2 ck3 dk3 ek3 fk3
 obtain ⟨⟨ck0,dk0⟩,ek0,fk0⟩:=Hk0.two
 obtain ⟨⟨ck1,dk1⟩,ek1,fk1⟩:=Hk1.two
 obtain ⟨⟨ck2,dk2⟩,ek2,fk2⟩:=Hk2.two
 obtain ⟨⟨ck3,dk3⟩,ek3,fk3⟩:=Hk3.two
 go_wp2_with fail
 refine cG (fun W=>Chg R0 w W∧Room W bv ov 5∧Has W k0 0 [.int .u64 (R02 % 18446744073709551616),.int .u64 (R02 / 18446744073709551616)]∧Has W k1 0 [.int .u64 (R12 % 18446744073709551616),.int .u64 (R12 / 18446744073709551616)]∧Has W k2 0 [.int .u64 (R22 % 18446744073709551616),.int .u64 (R22 / 18446744073709551616)]∧Has W k3 0 [.int .u64 (R32 % 18446744073709551616),.int .u64 (R32 / 18446744073709551616)]) ⟨(C.setCell _ (fun h=>absurd h (Nat.not_lt.2 zk3))).setCell _ (fun h=>absurd h (Nat.not_lt.2 zk3)),(RM.set _ _ _).set _ _ _,(Hk0.off _ (fun h=>absurd h nk0k3)).off _ (fun h=>absurd h nk0k3),(Hk1.off _ (fun h=>absurd h nk1k3)).off _ (fun h=>absurd h nk1k3),(Hk2.off _ (fun h=>absurd h nk2k3)).off _ (fun h=>absurd h nk2k3),(Hk3.set 0 rfl _).set 1 rfl _⟩ ?_
 clear C RM Hk0 Hk1 Hk2 Hk3 ck0 dk0 ek0 fk0 ck1 dk1 ek1 fk1 ck2 dk2 ek2 fk2 ck3 dk3 ek3 fk3
 rintro W ⟨C,RM,Hk0,Hk1,Hk2,Hk3⟩
 obtain ⟨⟨ck0,dk0⟩,ek0,fk0⟩:=Hk0.two
 obtain ⟨⟨ck1,dk1⟩,ek1,fk1⟩:=Hk1.two
 obtain ⟨⟨ck2,dk2⟩,ek2,fk2⟩:=Hk2.two
 obtain ⟨⟨ck3,dk3⟩,ek3,fk3⟩:=Hk3.two
 refine (umul_w (x0 * 2) x4 _ (twice_bd hx0) (up_bd hx4)).mono ?_
 rintro e W1 ⟨rfl,hb⟩
 obtain ⟨R40,qR40,bR40⟩:∃ R40,R40 = (x0 * 2) * x4∧0 ≤ R40∧R40 < 10141204804187018453545887203328:=⟨_,rfl,p13⟩
 rw [←qR40]
 replace qR40:=hd qR40
 replace C:=C.trans (Chg.of_below hb)
 replace RM:=RM.later hb
 replace Hk0:=Hk0.later hb
 replace Hk1:=Hk1.later hb
 replace Hk2:=Hk2.later hb
 replace Hk3:=Hk3.later hb
 clear hb ck0 dk0 ek0 fk0 ck1 dk1 ek1 fk1 ck2 dk2 ek2 fk2 ck3 dk3 ek3 fk3
 obtain ⟨⟨ck0,dk0⟩,ek0,fk0⟩:=Hk0.two
 obtain ⟨⟨ck1,dk1⟩,ek1,fk1⟩:=Hk1.two
 obtain ⟨⟨ck2,dk2⟩,ek2,fk2⟩:=Hk2.two
 obtain ⟨⟨ck3,dk3⟩,ek3,fk3⟩:=Hk3.two
 go_wp2_with fail
 generalize hk:W1.heap.size = k4
 have zk4:w.heap.size ≤ k4:=hk ▸ C.size
 have nk0k4:k0 ≠ k4:=Nat.ne_of_lt (hk ▸ Hk0.lt (by simp))
 have nk4k0:k4 ≠ k0:=Ne.symm nk0k4
 have nk1k4:k1 ≠ k4:=Nat.ne_of_lt (hk ▸ Hk1.lt (by simp))
 have nk4k1:k4 ≠ k1:=Ne.symm nk1k4
 have nk2k4:k2 ≠ k4:=Nat.ne_of_lt (hk ▸ Hk2.lt (by simp))
 have nk4k2:k4 ≠ k2:=Ne.symm nk2k4
 have nk3k4:k3 ≠ k4:=Nat.ne_of_lt (hk ▸ Hk3.lt (by simp))
 have nk4k3:k4 ≠ k3:=Ne.symm nk3k4
 have nvk4:bv ≠ k4:=Nat.ne_of_lt (hk ▸ RM.lt (by decide))
 refine cG (fun W=>Chg R0 w W∧Room W bv ov 5∧Has W k0 0 [.int .u64 (R02 % 18446744073709551616),.int .u64 (R02 / 18446744073709551616)]∧Has W k1 0 [.int .u64 (R12 % 18446744073709551616),.int .u64 (R12 / 18446744073709551616)]∧Has W k2 0 [.int .u64 (R22 % 18446744073709551616),.int .u64 (R22 / 18446744073709551616)]∧Has W k3 0 [.int .u64 (R32 % 18446744073709551616),.int .u64 (R32 / 18446744073709551616)]∧Has W k4 0 [.int .u64 (R40 % 18446744073709551616),.int .u64 (R40 / 18446744073709551616)]) ⟨C.alloc _,RM.later (bA _ _),Hk0.later (bA _ _),Hk1.later (bA _ _),Hk2.later (bA _ _),Hk3.later (bA _ _),hk ▸ Has.new W1 _ 184⟩ ?_
 clear C RM Hk0 Hk1 Hk2 Hk3 ck0 dk0 ek0 fk0 ck1 dk1 ek1 fk1 ck2 dk2 ek2 fk2 ck3 dk3 ek3 fk3 hk
 rintro W ⟨C,RM,Hk0,Hk1,Hk2,Hk3,Hk4⟩
 obtain ⟨⟨ck0,dk0⟩,ek0,fk0⟩:=Hk0.two
 obtain ⟨⟨ck1,dk1⟩,ek1,fk1⟩:=Hk1.two
 obtain ⟨⟨ck2,dk2⟩,ek2,fk2⟩:=Hk2.two
 obtain ⟨⟨ck3,dk3⟩,ek3,fk3⟩:=Hk3.two
 obtain ⟨⟨ck4,dk4⟩,ek4,fk4⟩:=Hk4.two
 refine (uadd_w R40 (x1 * 2) x3 _ 10141204804187018453545887203328 bR40 (by decide) (twice_bd hx1) (up_bd hx3) p14).mono ?_
 rintro e W1 ⟨rfl,hb⟩
 obtain ⟨R41,qR41,bR41⟩:∃ R41,R41 = R40 + (x1 * 2) * x3∧0 ≤ R41∧R41 < 20282409608374036907091774406656:=⟨_,rfl,sum_bd 10141204804187018453545887203328 10141204804187018453545887203328 20282409608374036907091774406656 bR40 p14 (by decide)⟩
 rw [←qR41]
 replace qR41:=hd qR41
 replace C:=C.trans (Chg.of_below hb)
 replace RM:=RM.later hb
 replace Hk0:=Hk0.later hb
 replace Hk1:=Hk1.later hb
 replace Hk2:=Hk2.later hb
 replace Hk3:=Hk3.later hb
 replace Hk4:=Hk4.later hb
 clear hb ck0 dk0 ek0 fk0 ck1 dk1 ek1 fk1 ck2 dk2 ek2 fk2 ck3 dk3 ek3 fk3 ck4 dk4 ek4 fk4
 obtain ⟨⟨ck0,dk0⟩,ek0,fk0⟩:=Hk0.two
 obtain ⟨⟨ck1,dk1⟩,ek1,fk1⟩:=Hk1.two
 obtain ⟨⟨ck2,dk2⟩,ek2,fk2⟩:=Hk2.two
 obtain ⟨⟨ck3,dk3⟩,ek3,fk3⟩:=Hk3.two
 obtain ⟨⟨ck4,dk4⟩,ek4,fk4⟩:=Hk4.two
 go_wp2_with fail
 refine cG (fun W=>Chg R0 w W∧Room W bv ov 5∧Has W k0 0 [.int .u64 (R02 % 18446744073709551616),.int .u64 (R02 / 18446744073709551616)]∧Has W k1 0 [.int .u64 (R12 % 18446744073709551616),.int .u64 (R12 / 18446744073709551616)]∧Has W k2 0 [.int .u64 (R22 % 18446744073709551616),.int .u64 (R22 / 18446744073709551616)]∧Has W k3 0 [.int .u64 (R32 % 18446744073709551616),.int .u64 (R32 / 18446744073709551616)]∧Has W k4 0 [.int .u64 (R41 % 18446744073709551616),.int .u64 (R41 / 18446744073709551616)]) ⟨(C.setCell _ (fun h=>absurd h (Nat.not_lt.2 zk4))).setCell _ (fun h=>absurd h (Nat.not_lt.2 zk4)),(RM.set _ _ _).set _ _ _,(Hk0.off _ (fun h=>absurd h nk0k4)).off _ (fun h=>absurd h nk0k4),(Hk1.off _ (fun h=>absurd h nk1k4)).off _ (fun h=>absurd h nk1k4),(Hk2.off _ (fun h=>absurd h nk2k4)).off _ (fun h=>absurd h nk2k4),(Hk3.off _ (fun h=>absurd h nk3k4)).off _ (fun h=>absurd h nk3k4),(Hk4.set 0 rfl _).set 1 rfl _⟩ ?_
 clear C RM Hk0 Hk1 Hk2 Hk3 Hk4 ck0 dk0 ek0 fk0 ck1 dk1 ek1 fk1 ck2 dk2 ek2 fk2 ck3 dk3 ek3 fk3 ck4 dk4 ek4 fk4
 rintro W ⟨C,RM,Hk0,Hk1,Hk2,Hk3,Hk4⟩
 obtain ⟨⟨ck0,dk0⟩,ek0,fk0⟩:=Hk0.two
 obtain ⟨⟨ck1,dk1⟩,ek1,fk1⟩:=Hk1.two
 obtain ⟨⟨ck2,dk2⟩,ek2,fk2⟩:=Hk2.two
 obtain ⟨⟨ck3,dk3⟩,ek3,fk3⟩:=Hk3.two
 obtain ⟨⟨ck4,dk4⟩,ek4,fk4⟩:=Hk4.two
 refine (uadd_w R41 x2 x2 _ 20282409608374036907091774406656 bR41 (by decide) (up_bd hx2) (up_bd hx2) (up_bd2 p15)).mono ?_
 rintro e W1 ⟨rfl,hb⟩
 obtain ⟨R42,qR42,bR42⟩:∃ R42,R42 = R41 + x2 * x2∧0 ≤ R42∧R42 < 25353012010467546133864718008320:=⟨_,rfl,sum_bd 20282409608374036907091774406656 5070602402093509226772943601664 25353012010467546133864718008320 bR41 p15 (by decide)⟩
 rw [←qR42]
 replace qR42:=hd qR42
 replace C:=C.trans (Chg.of_below hb)
 replace RM:=RM.later hb
 replace Hk0:=Hk0.later hb
 replace Hk1:=Hk1.later hb
 replace Hk2:=Hk2.later hb
 replace Hk3:=Hk3.later hb
 replace Hk4:=Hk4.later hb
 clear hb ck0 dk0 ek0 fk0 ck1 dk1 ek1 fk1 ck2 dk2 ek2 fk2 ck3 dk3 ek3 fk3 ck4 dk4 ek4 fk4
 obtain ⟨⟨ck0,dk0⟩,ek0,fk0⟩:=Hk0.two
 obtain ⟨⟨ck1,dk1⟩,ek1,fk1⟩:=Hk1.two
 obtain ⟨⟨ck2,dk2⟩,ek2,fk2⟩:=Hk2.two
 obtain ⟨⟨ck3,dk3⟩,ek3,fk3⟩:=Hk3.two
 obtain ⟨⟨ck4,dk4⟩,ek4,fk4⟩:=Hk4.two
 go_wp2_with fail
 refine cG (fun W=>Chg R0 w W∧Room W bv ov 5∧Has W k0 0 [.int .u64 (R02 % 18446744073709551616),.int .u64 (R02 / 18446744073709551616)]∧Has W k1 0 [.int .u64 (R12 % 18446744073709551616),.int .u64 (R12 / 18446744073709551616)]∧Has W k2 0 [.int .u64 (R22 % 18446744073709551616),.int .u64 (R22 / 18446744073709551616)]∧Has W k3 0 [.int .u64 (R32 % 18446744073709551616),.int .u64 (R32 / 18446744073709551616)]∧Has W k4 0 [.int .u64 (R42 % 18446744073709551616),.int .u64 (R42 / 18446744073709551616)]) ⟨(C.setCell _ (fun h=>absurd h (Nat.not_lt.2 zk4))).setCell _ (fun h=>absurd h (Nat.not_lt.2 zk4)),(RM.set _ _ _).set _ _ _,(Hk0.off _ (fun h=>absurd h nk0k4)).off _ (fun h=>absurd h nk0k4),(Hk1.off _ (fun h=>absurd h nk1k4)).off _ (fun h=>absurd h nk1k4),(Hk2.off _ (fun h=>absurd h nk2k4)).off _ (fun h=>absurd h nk2k4),(Hk3.off _ (fun h=>absurd h nk3k4)).off _ (fun h=>absurd h nk3k4),(Hk4.set 0 rfl _).set 1 rfl _⟩ ?_
 clear C RM Hk0 Hk1 Hk2 Hk3 Hk4 ck0 dk0 ek0 fk0 ck1 dk1 ek1 fk1 ck2 dk2 ek2 fk2 ck3 dk3 ek3 fk3 ck4 dk4 ek4 fk4
 rintro W ⟨C,RM,Hk0,Hk1,Hk2,Hk3,Hk4⟩
 obtain ⟨⟨ck0,dk0⟩,ek0,fk0⟩:=Hk0.two
 obtain ⟨⟨ck1,dk1⟩,ek1,fk1⟩:=Hk1.two
 obtain ⟨⟨ck2,dk2⟩,ek2,fk2⟩:=Hk2.two
 obtain ⟨⟨ck3,dk3⟩,ek3,fk3⟩:=Hk3.two
 obtain ⟨⟨ck4,dk4⟩,ek4,fk4⟩:=Hk4.two
 have v0:=wide_bd 390436384961200210461516657328128 bR02 (by decide)
 have v1:=wide_bd 299165541723517044379603672498176 bR12 (by decide)
 have v2:=wide_bd 207894698485833878297690687668224 bR22 (by decide)
 have v3:=wide_bd 116623855248150712215777702838272 bR32 (by decide)
 have v4:=wide_bd 25353012010467546133864718008320 bR42 (by decide)
 refine (shr51_c R02 _ v0.1 v0.2).mono ?_
 rintro e W1 ⟨rfl,hb⟩
 replace C:=C.trans (Chg.of_below hb)
 replace RM:=RM.later hb
 replace Hk0:=Hk0.later hb
 replace Hk1:=Hk1.later hb
 replace Hk2:=Hk2.later hb
 replace Hk3:=Hk3.later hb
 replace Hk4:=Hk4.later hb
 clear hb ck0 dk0 ek0 fk0 ck1 dk1 ek1 fk1 ck2 dk2 ek2 fk2 ck3 dk3 ek3 fk3 ck4 dk4 ek4 fk4
 obtain ⟨⟨ck0,dk0⟩,ek0,fk0⟩:=Hk0.two
 obtain ⟨⟨ck1,dk1⟩,ek1,fk1⟩:=Hk1.two
 obtain ⟨⟨ck2,dk2⟩,ek2,fk2⟩:=Hk2.two
 obtain ⟨⟨ck3,dk3⟩,ek3,fk3⟩:=Hk3.two
 obtain ⟨⟨ck4,dk4⟩,ek4,fk4⟩:=Hk4.two
 go_wp2_with fail
 refine (shr51_c R12 _ v1.1 v1.2).mono ?_
 rintro e W1 ⟨rfl,hb⟩
 replace C:=C.trans (Chg.of_below hb)
 replace RM:=RM.later hb
 replace Hk0:=Hk0.later hb
 replace Hk1:=Hk1.later hb
 replace Hk2:=Hk2.later hb
 replace Hk3:=Hk3.later hb
 replace Hk4:=Hk4.later hb
 clear hb ck0 dk0 ek0 fk0 ck1 dk1 ek1 fk1 ck2 dk2 ek2 fk2 ck3 dk3 ek3 fk3 ck4 dk4 ek4 fk4
 obtain ⟨⟨ck0,dk0⟩,ek0,fk0⟩:=Hk0.two
 obtain ⟨⟨ck1,dk1⟩,ek1,fk1⟩:=Hk1.two
 obtain ⟨⟨ck2,dk2⟩,ek2,fk2⟩:=Hk2.two
 obtain ⟨⟨ck3,dk3⟩,ek3,fk3⟩:=Hk3.two
 obtain ⟨⟨ck4,dk4⟩,ek4,fk4⟩:=Hk4.two
 go_wp2_with fail
 refine (shr51_c R22 _ v2.1 v2.2).mono ?_
 rintro e W1 ⟨rfl,hb⟩
 replace C:=C.trans (Chg.of_below hb)
 replace RM:=RM.later hb
 replace Hk0:=Hk0.later hb
 replace Hk1:=Hk1.later hb
 replace Hk2:=Hk2.later hb
 replace Hk3:=Hk3.later hb
 replace Hk4:=Hk4.later hb
 clear hb ck0 dk0 ek0 fk0 ck1 dk1 ek1 fk1 ck2 dk2 ek2 fk2 ck3 dk3 ek3 fk3 ck4 dk4 ek4 fk4
 obtain ⟨⟨ck0,dk0⟩,ek0,fk0⟩:=Hk0.two
 obtain ⟨⟨ck1,dk1⟩,ek1,fk1⟩:=Hk1.two
 obtain ⟨⟨ck2,dk2⟩,ek2,fk2⟩:=Hk2.two
 obtain ⟨⟨ck3,dk3⟩,ek3,fk3⟩:=Hk3.two
 obtain ⟨⟨ck4,dk4⟩,ek4,fk4⟩:=Hk4.two
 go_wp2_with fail
 refine (shr51_c R32 _ v3.1 v3.2).mono ?_
 rintro e W1 ⟨rfl,hb⟩
 replace C:=C.trans (Chg.of_below hb)
 replace RM:=RM.later hb
 replace Hk0:=Hk0.later hb
 replace Hk1:=Hk1.later hb
 replace Hk2:=Hk2.later hb
 replace Hk3:=Hk3.later hb
 replace Hk4:=Hk4.later hb
 clear hb ck0 dk0 ek0 fk0 ck1 dk1 ek1 fk1 ck2 dk2 ek2 fk2 ck3 dk3 ek3 fk3 ck4 dk4 ek4 fk4
 obtain ⟨⟨ck0,dk0⟩,ek0,fk0⟩:=Hk0.two
 obtain ⟨⟨ck1,dk1⟩,ek1,fk1⟩:=Hk1.two
 obtain ⟨⟨ck2,dk2⟩,ek2,fk2⟩:=Hk2.two
 obtain ⟨⟨ck3,dk3⟩,ek3,fk3⟩:=Hk3.two
 obtain ⟨⟨ck4,dk4⟩,ek4,fk4⟩:=Hk4.two
 go_wp2_with fail
 refine (shr51_c R42 _ v4.1 v4.2).mono ?_
 rintro e W1 ⟨rfl,hb⟩
 replace C:=C.trans (Chg.of_below hb)
 replace RM:=RM.later hb
 replace Hk0:=Hk0.later hb
 replace Hk1:=Hk1.later hb
 replace Hk2:=Hk2.later hb
 replace Hk3:=Hk3.later hb
 replace Hk4:=Hk4.later hb
 clear hb ck0 dk0 ek0 fk0 ck1 dk1 ek1 fk1 ck2 dk2 ek2 fk2 ck3 dk3 ek3 fk3 ck4 dk4 ek4 fk4
 obtain ⟨⟨ck0,dk0⟩,ek0,fk0⟩:=Hk0.two
 obtain ⟨⟨ck1,dk1⟩,ek1,fk1⟩:=Hk1.two
 obtain ⟨⟨ck2,dk2⟩,ek2,fk2⟩:=Hk2.two
 obtain ⟨⟨ck3,dk3⟩,ek3,fk3⟩:=Hk3.two
 obtain ⟨⟨ck4,dk4⟩,ek4,fk4⟩:=Hk4.two
 have u0:0 ≤ R02∧R02 < 390436384961200210461516657328128:=wide_up 390436384961200210461516657328128 bR02 (by decide)
 have u1:0 ≤ R12∧R12 < 390436384961200210461516657328128:=wide_up 299165541723517044379603672498176 bR12 (by decide)
 have u2:0 ≤ R22∧R22 < 390436384961200210461516657328128:=wide_up 207894698485833878297690687668224 bR22 (by decide)
 have u3:0 ≤ R32∧R32 < 390436384961200210461516657328128:=wide_up 116623855248150712215777702838272 bR32 (by decide)
 have u4:0 ≤ R42∧R42 < 390436384961200210461516657328128:=wide_up 25353012010467546133864718008320 bR42 (by decide)
 clear v0 v1 v2 v3 v4
 have m0:=and51 (R02 % 18446744073709551616) (by omega) (by omega)
 have m1:=and51 (R12 % 18446744073709551616) (by omega) (by omega)
 have m2:=and51 (R22 % 18446744073709551616) (by omega) (by omega)
 have m3:=and51 (R32 % 18446744073709551616) (by omega) (by omega)
 have m4:=and51 (R42 % 18446744073709551616) (by omega) (by omega)
 have l0:=and51 (R02 % 2251799813685248 + 19 * (R42 / 2251799813685248)) (by omega) (by omega)
 have l1:=and51 (R12 % 2251799813685248 + R02 / 2251799813685248) (by omega) (by omega)
 have l2:=and51 (R22 % 2251799813685248 + R12 / 2251799813685248) (by omega) (by omega)
 have l3:=and51 (R32 % 2251799813685248 + R22 / 2251799813685248) (by omega) (by omega)
 have l4:=and51 (R42 % 2251799813685248 + R32 / 2251799813685248) (by omega) (by omega)
 clear p1 p2 p3 p4 p5 p6 p7 p8 p9 p10 p11 p12 p13 p14 p15 hx0 X0 hx1 X1 hx2 X2 hx3 X3 hx4 X4
 clear nk0k1 nk0k2 nk0k3 nk0k4 nk1k0 nk1k2 nk1k3 nk1k4 nk2k0 nk2k1 nk2k3 nk2k4 nk3k0 nk3k1 nk3k2 nk3k4 nk4k0 nk4k1 nk4k2 nk4k3 zk0 nvk0 zk1 nvk1 zk2 nvk2 zk3 nvk3 zk4 nvk4 bR00 bR01 bR02 bR10 bR11 bR12 bR20 bR21 bR22 bR30 bR31 bR32 bR40 bR41 bR42
 replace RM:=hd RM
 replace C:=hd C
 replace Hk0:=hd Hk0
 replace Hk1:=hd Hk1
 replace Hk2:=hd Hk2
 replace Hk3:=hd Hk3
 replace Hk4:=hd Hk4
 go_wp2_with fail
 refine wp_region_still_lit (by kernel_rfl) (by kernel_rfl) ?_
 repeat still_step
 still_call (mul19_c _ _ (by omega) (by omega))
 repeat still_step
 refine wpStill_nil ?_
 go_wp2_with fail
 obtain ⟨o0,o1,o2,o3,o4,hv⟩:=RM.out.five
 have C':Chg (Rg bv ov 5) w W1:=C.out.mono (fun _ _ _ h=>h.elim)
 refine cG (fun W=>Chg (Rg bv ov 5) w W∧Has W bv ov [o0,o1,o2,o3,o4]) ⟨C'.drew,hv.drew⟩ ?_
 clear C C' hv RM Hk0 Hk1 Hk2 Hk3 Hk4 ck0 dk0 ek0 fk0 ck1 dk1 ek1 fk1 ck2 dk2 ek2 fk2 ck3 dk3 ek3 fk3 ck4 dk4 ek4 fk4
 rintro W ⟨C,V⟩
 obtain ⟨⟨g0,g1,g2,g3,g4⟩,i0,i1,i2,i3,i4⟩:=V.five
 refine (mul19_c _ _ (by omega) (by omega)).mono ?_
 rintro e w' ⟨rfl,rfl⟩
 go_wp2_with fail
 go_end0
 have S:=fun a b c d e=>((((V.set 0 rfl a).set 1 rfl b).set 2 rfl c).set 3 rfl d).set 4 rfl e
 have D:=fun a b c d e=>((((C.setCell a (o:=ov) (b:=bv) (fun _=>⟨rfl,by omega,by omega⟩)).setCell b (o:=ov + 1) (b:=bv) (fun _=>⟨rfl,by omega,by omega⟩)).setCell c (o:=ov + 2) (b:=bv) (fun _=>⟨rfl,by omega,by omega⟩)).setCell d (o:=ov + 3) (b:=bv) (fun _=>⟨rfl,by omega,by omega⟩)).setCell e (o:=ov + 4) (b:=bv) (fun _=>⟨rfl,by omega,by omega⟩)
 refine ⟨rfl,D _ _ _ _ _,?_⟩
 have E0:r0 ⟨x0,x1,x2,x3,x4⟩ ⟨x0,x1,x2,x3,x4⟩ = R02:=by
  rw [qR02.out,qR01.out,qR00.out];simp only [r0]<;>grind
 have E1:r1 ⟨x0,x1,x2,x3,x4⟩ ⟨x0,x1,x2,x3,x4⟩ = R12:=by
  rw [qR12.out,qR11.out,qR10.out];simp only [r1]<;>grind
 have E2:r2 ⟨x0,x1,x2,x3,x4⟩ ⟨x0,x1,x2,x3,x4⟩ = R22:=by
  rw [qR22.out,qR21.out,qR20.out];simp only [r2]<;>grind
 have E3:r3 ⟨x0,x1,x2,x3,x4⟩ ⟨x0,x1,x2,x3,x4⟩ = R32:=by
  rw [qR32.out,qR31.out,qR30.out];simp only [r3]<;>grind
 have E4:r4 ⟨x0,x1,x2,x3,x4⟩ ⟨x0,x1,x2,x3,x4⟩ = R42:=by
  rw [qR42.out,qR41.out,qR40.out];simp only [r4]<;>grind
 rw [E0,E1,E2,E3,E4]
 clear E0 E1 E2 E3 E4 m0 m1 m2 m3 m4 l0 l1 l2 l3 l4 D C
 refine Has.congr (S _ _ _ _ _) (list5 ?_ ?_ ?_ ?_ ?_)<;>(dsimp only;omega)
end Go.Proofs.Ed
