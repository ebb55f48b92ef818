/- A part of the proof of the tied card of FnTimes: Vt, Reg, Red. -/
import Derived.Test.YtcogfofgmbndjaaGreatDoorProg
import Derived.WalkKit
import Derived.WalkSpells
import Derived.WalkLawsBesides
import Derived.Outline
import Derived.StillTailTactics
import Derived.Test.YtcogfofgmbndjaaGreatDoorTAm
import Derived.Test.YtcogfofgmbndjaaGreatDoorTAb
set_option maxRecDepth 100000
set_option maxHeartbeats 40000000
namespace Go.Proofs.Ed
open Go.RowKit
def uk (S X d b k:Nat):Nat:=S % (X * 2 ^ (32 * k)) + X * d * (b % 2 ^ (32 * k))
theorem uk_zero (S X d b:Nat):uk S X d b 0 = S % X:=by simp [uk,Nat.mod_one]
theorem uk_carry {S X d b k:Nat} (hX:0 < X) (hd:d < 4294967296):uk S X d b k / (X * 2 ^ (32 * k)) < 4294967296:=by
 unfold uk
 have hp:0 < 2 ^ (32 * k):=Nat.pow_pos (by decide)
 generalize 2 ^ (32 * k) = Z at *
 have h1:=Nat.mod_lt S (Nat.mul_pos hX hp)
 have h2:=Nat.mod_lt b hp
 apply Nat.div_lt_of_lt_mul
 have h3:X * d * (b % Z) ≤ X * 4294967295 * (b % Z):=Nat.mul_le_mul_right _ (Nat.mul_le_mul_left _ (by omega))
 have h4:X * 4294967295 * (b % Z) ≤ X * 4294967295 * Z:=Nat.mul_le_mul_left _ (by omega)
 rw [show X * 4294967295 * Z = X * Z * 4294967295 by rw [Nat.mul_assoc,Nat.mul_comm 4294967295 Z,Nat.mul_assoc]] at h4
 omega
theorem uk_succ (S X d b k i:Nat) (hX:X = 2 ^ (32 * i)):uk S X d b (k + 1) = uk S X d b k + X * 2 ^ (32 * k) * (dig S (i + k) + d * dig b k):=by
 unfold uk
 rw [mod2,show 32 * (k + 1) = 32 * k + 32 by omega,Nat.pow_add,←Nat.mul_assoc X,Nat.mod_mul]
 have e:S / (X * 2 ^ (32 * k)) % 2 ^ 32 = dig S (i + k):=by
  unfold dig
  rw [hX,←Nat.pow_add,show 32 * i + 32 * k = 32 * (i + k) by omega]
 rw [e]
 generalize 2 ^ (32 * k) = Z
 generalize dig S (i + k) = s
 generalize dig b k = t
 grind
theorem dig_add_high {n m j k:Nat} (h:j < k):dig (n + 2 ^ (32 * k) * m) j = dig n j:=by
 unfold dig
 obtain ⟨t,ht⟩:∃ t,32 * k = 32 * j + (32 + t):=⟨32 * k - 32 * j - 32,by omega⟩
 have hp:0 < 2 ^ (32 * j):=Nat.pow_pos (by decide)
 rw [ht,Nat.pow_add,Nat.mul_assoc,Nat.add_mul_div_left _ _ hp,Nat.pow_add,show 4294967296 = 2 ^ 32 by decide,Nat.mul_assoc,Nat.add_mul_mod_self_left]
theorem dig_mod {S j k:Nat} (h:j < k):dig (S % 2 ^ (32 * k)) j = dig S j:=by
 have h1:=Nat.div_add_mod S (2 ^ (32 * k))
 have h2:=dig_add_high (n:=S % 2 ^ (32 * k)) (m:=S / 2 ^ (32 * k)) h
 rw [←h2,Nat.add_comm,h1]
theorem dig_big {n j:Nat} (h:n < 2 ^ (32 * j)):dig n j = 0:=by
 unfold dig
 rw [Nat.div_eq_of_lt h]
def rowN (S T i k:Nat):Nat→Nat:=fun j=>if j < i + k then dig T j else dig S j
theorem uk_dig {S d b k i j:Nat} (h:j < i + k):dig (uk S (2 ^ (32 * i)) d b (k + 1)) j = dig (uk S (2 ^ (32 * i)) d b k) j:=by
 rw [uk_succ S _ d b k i rfl,←Nat.pow_add,show 32 * i + 32 * k = 32 * (i + k) by omega]
 exact dig_add_high h
theorem uk_new {S d b k i:Nat}:dig (uk S (2 ^ (32 * i)) d b (k + 1)) (i + k) = (uk S (2 ^ (32 * i)) d b k / (2 ^ (32 * i) * 2 ^ (32 * k)) + (dig S (i + k) + d * dig b k)) % 4294967296:=by
 rw [uk_succ S _ d b k i rfl]
 unfold dig
 have hp:0 < 2 ^ (32 * (i + k)):=Nat.pow_pos (by decide)
 rw [←Nat.pow_add,show 32 * i + 32 * k = 32 * (i + k) by omega,Nat.add_mul_div_left _ _ hp]
theorem uk_next {S d b k i:Nat}:uk S (2 ^ (32 * i)) d b (k + 1) / (2 ^ (32 * i) * 2 ^ (32 * (k + 1))) = (uk S (2 ^ (32 * i)) d b k / (2 ^ (32 * i) * 2 ^ (32 * k)) + (dig S (i + k) + d * dig b k)) / 4294967296:=by
 rw [uk_succ S _ d b k i rfl,show 32 * (k + 1) = 32 * k + 32 by omega,Nat.pow_add,←Nat.mul_assoc]
 have hp:0 < 2 ^ (32 * i) * 2 ^ (32 * k):=Nat.mul_pos (Nat.pow_pos (by decide)) (Nat.pow_pos (by decide))
 generalize 2 ^ (32 * i) * 2 ^ (32 * k) = Y at *
 rw [←Nat.div_div_eq_div_mul,Nat.add_mul_div_left _ _ hp]
theorem rowN_step (S d b k i:Nat) {v:Nat} (hv:v = dig (uk S (2 ^ (32 * i)) d b (k + 1)) (i + k)) :
  (lst (rowN S (uk S (2 ^ (32 * i)) d b k) i k)).set (i + k) (.int .u32 (v:Nat)) = lst (rowN S (uk S (2 ^ (32 * i)) d b (k + 1)) i (k + 1)):=by
 rw [lst_set]
 apply lst_congr
 intro j _
 unfold updN rowN
 by_cases h:j = i + k
 ·rw [if_pos h,if_pos (by omega),h,hv]
 ·rw [if_neg h]
  by_cases h2:j < i + k
  ·rw [if_pos h2,if_pos (by omega),uk_dig h2]
  ·rw [if_neg h2,if_neg (by omega)]
theorem rowN_start (S d b i:Nat):lst (dig S) = lst (rowN S (uk S (2 ^ (32 * i)) d b 0) i 0):=by
 apply lst_congr
 intro j _
 unfold rowN
 split
 ·rw [uk_zero,dig_mod (by omega)]
 ·rfl
theorem uk_all {S d b i:Nat} (hS:S < 2 ^ (32 * (i + 8))) (hb:b < 2 ^ (32 * 8)):uk S (2 ^ (32 * i)) d b 8 = S + 2 ^ (32 * i) * d * b:=by
 unfold uk
 rw [←Nat.pow_add,show 32 * i + 32 * 8 = 32 * (i + 8) by omega,Nat.mod_eq_of_lt hS,Nat.mod_eq_of_lt hb]
theorem rowN_end {S T i:Nat} (hS:S < 2 ^ (32 * (i + 8))) (hT:T < 2 ^ (32 * (i + 9))) {v:Nat} (hv:v = T / 2 ^ (32 * (i + 8))) :
  (lst (rowN S T i 8)).set (i + 8) (.int .u32 (v:Nat)) = nl T:=by
 rw [lst_set]
 unfold nl
 apply lst_congr
 intro j _
 unfold updN rowN
 by_cases h:j = i + 8
 ·subst h
  rw [if_pos rfl,hv]
  unfold dig
  rw [Nat.mod_eq_of_lt]
  apply Nat.div_lt_of_lt_mul
  rw [show 4294967296 = 2 ^ 32 by decide,←Nat.pow_add,show 32 * (i + 8) + 32 = 32 * (i + 9) by omega]
  exact hT
 ·rw [if_neg h]
  by_cases h2:j < i + 8
  ·rw [if_pos h2]
  ·rw [if_neg h2,dig_big (Nat.lt_of_lt_of_le hS (Nat.pow_le_pow_right (by decide) (by omega))),dig_big (Nat.lt_of_lt_of_le hT (Nat.pow_le_pow_right (by decide) (by omega)))]
theorem part_bd {a b i:Nat} (hb:b < 2 ^ (32 * 8)):a % 2 ^ (32 * i) * b < 2 ^ (32 * (i + 8)):=by
 have hp:0 < 2 ^ (32 * i):=Nat.pow_pos (by decide)
 have h1:=Nat.mod_lt a hp
 rw [show 32 * (i + 8) = 32 * i + 32 * 8 by omega,Nat.pow_add]
 have h2:a % 2 ^ (32 * i) * b ≤ a % 2 ^ (32 * i) * 2 ^ (32 * 8):=Nat.mul_le_mul_left _ (Nat.le_of_lt hb)
 have h3:a % 2 ^ (32 * i) * 2 ^ (32 * 8) < 2 ^ (32 * i) * 2 ^ (32 * 8):=Nat.mul_lt_mul_of_pos_right h1 (Nat.pow_pos (by decide))
 omega
theorem part_step (a b i:Nat):a % 2 ^ (32 * (i + 1)) * b = a % 2 ^ (32 * i) * b + 2 ^ (32 * i) * dig a i * b:=by
 rw [mod2,Nat.add_mul]
theorem mul_word {x y:Nat} (hx:x < 4294967296) (hy:y < 4294967296):x * y ≤ 18446744065119617025:=by
 have h1:x * y ≤ 4294967295 * 4294967295:=Nat.mul_le_mul (by omega) (by omega)
 exact h1
theorem mul_wordI {x y:Nat} (hx:x < 4294967296) (hy:y < 4294967296):(x:Int) * y ≤ 18446744065119617025:=by
 have:=mul_word hx hy
 rw [←Int.natCast_mul];omega
theorem mac_cast (g d y s:Nat):((g:Int) + ((d:Int) * y + s)) = ((g + (s + d * y):Nat):Int):=by
 rw [Int.natCast_add,Int.natCast_add,Int.natCast_mul,Int.add_comm (s:Int)]
theorem mac_mod (g d y s:Nat):((g:Int) + ((d:Int) * y + s)) % 4294967296 = (((g + (s + d * y)) % 4294967296:Nat):Int):=by rw [mac_cast];omega
theorem mac_div (g d y s:Nat):((g:Int) + ((d:Int) * y + s)) / 4294967296 = (((g + (s + d * y)) / 4294967296:Nat):Int):=by rw [mac_cast];omega
theorem nl_zero:nl 0 = z16:=by kernel_rfl
def tPart (a b i:Nat):Nat:=a % 2 ^ (32 * i) * b
def tCar (S d b i j:Nat):Nat:=uk S (2 ^ (32 * i)) d b j / (2 ^ (32 * i) * 2 ^ (32 * j))
def tRow (S d b i j:Nat):List Value:=lst (rowN S (uk S (2 ^ (32 * i)) d b j) i j)
theorem tPart_zero (a b:Nat):tPart a b 0 = 0:=by unfold tPart;simp [Nat.mod_one]
theorem tCar_zero (S d b i:Nat):tCar S d b i 0 = 0:=by
 unfold tCar
 rw [uk_zero]
 apply Nat.div_eq_of_lt
 rw [show 32 * 0 = 0 from rfl,Nat.pow_zero,Nat.mul_one]
 exact Nat.mod_lt _ (Nat.pow_pos (by decide))
theorem tRow_zero (S d b i:Nat):nl S = tRow S d b i 0:=by unfold nl tRow;exact rowN_start S d b i
theorem tCar_lt {S d b i j:Nat} (hd:d < 4294967296):tCar S d b i j < 4294967296:=uk_carry (Nat.pow_pos (by decide)) hd
theorem tCar_next (S d b i k:Nat):tCar S d b i (k + 1) = (tCar S d b i k + (dig S (i + k) + d * dig b k)) / 4294967296:=uk_next
theorem tRow_get {S d b i k:Nat} (h:i + k < 16) {w:World} {bl:Nat} (H:Has w bl 0 (tRow S d b i k)):w.cell? ⟨bl,i + k,none⟩ = some (.int .u32 (dig S (i + k):Nat))∧w.frozen? ⟨bl,i + k,none⟩ = false:=by
 have:=Has.cellN H h
 rw [Nat.zero_add,show rowN S (uk S (2 ^ (32 * i)) d b k) i k (i + k) = dig S (i + k) by unfold rowN;rw [if_neg (by omega)]] at this
 exact this
theorem tRow_step {S d b i k v:Nat} (hv:v = (tCar S d b i k + (dig S (i + k) + d * dig b k)) % 4294967296):(tRow S d b i k).set (i + k) (.int .u32 (v:Nat)) = tRow S d b i (k + 1) :=
 rowN_step S d b k i (hv.trans uk_new.symm)
theorem tRow_cell8 {S d b i:Nat} (h:i < 8) {w:World} {bl:Nat} (H:Has w bl 0 (tRow S d b i 8)):(∃ v,w.cell? ⟨bl,i + 8,none⟩ = some v)∧w.frozen? ⟨bl,i + 8,none⟩ = false:=by
 have:=tRow_get (k:=8) (by omega) H
 exact ⟨⟨_,this.1⟩,this.2⟩
theorem tRow_end {a b i:Nat} (hb:b < 2 ^ (32 * 8)):(tRow (tPart a b i) (dig a i) b i 8).set (i + 8) (.int .u32 (tCar (tPart a b i) (dig a i) b i 8:Nat)) = nl (tPart a b (i + 1)):=by
 have hS:tPart a b i < _:=part_bd (a:=a) (i:=i) hb
 have hT:tPart a b (i + 1) < _:=part_bd (a:=a) (i:=i + 1) hb
 have hE:tPart a b (i + 1) = tPart a b i + _:=part_step a b i
 rw [show i + 1 + 8 = i + 9 by omega] at hT
 have e:uk (tPart a b i) (2 ^ (32 * i)) (dig a i) b 8 = tPart a b (i + 1):=by
  rw [uk_all hS hb];exact hE.symm
 unfold tRow tCar
 rw [e]
 exact rowN_end hS hT (by rw [←Nat.pow_add,show 32 * i + 32 * 8 = 32 * (i + 8) by omega])
theorem tPart_all {a b:Nat} (ha:a < 2 ^ (32 * 8)):tPart a b 8 = a * b:=by unfold tPart;rw [Nat.mod_eq_of_lt ha]
attribute [irreducible] tPart tCar tRow
theorem times_v {a b:Nat} {w:World} (ha:a < 2 ^ (32 * 8)) (hb:b < 2 ^ (32 * 8)):Calls Tryz.prog 69 #[.agg (nl a).toArray,.agg (nl b).toArray] w (fun e w'=>e = .returned (.agg (nl (a * b)).toArray)∧Below w.heap.size w w'):=by
 replace ha:=hd ha
 replace hb:=hd hb
 go_enter Tryz.func69,Tryz.ntmps69
 go_wp2_with fail
 have C:Chg R0 w w:=.refl _ _
 obtain ⟨n1,l1⟩:∃ n,w.heap.size = n:=⟨_,rfl⟩
 rw [l1]
 have z1:w.heap.size ≤ n1:=l1 ▸ Nat.le_refl _
 have hb:=aB [Obj.cells (nl a).toArray 25,Obj.cells (nl b).toArray 25,Obj.cells (z16).toArray 25,Obj.cells (z16).toArray 25] w
 have H0:=aH [Obj.cells (nl a).toArray 25,Obj.cells (nl b).toArray 25,Obj.cells (z16).toArray 25,Obj.cells (z16).toArray 25] w 0 _ _ rfl
 rw [l1] at H0
 have H1:=aH [Obj.cells (nl a).toArray 25,Obj.cells (nl b).toArray 25,Obj.cells (z16).toArray 25,Obj.cells (z16).toArray 25] w 1 _ _ rfl
 rw [l1] at H1
 have H2:=(aH [Obj.cells (nl a).toArray 25,Obj.cells (nl b).toArray 25,Obj.cells (z16).toArray 25,Obj.cells (z16).toArray 25] w 2 _ _ rfl).room (n:=16) rfl
 rw [l1] at H2
 have H3:=aH [Obj.cells (nl a).toArray 25,Obj.cells (nl b).toArray 25,Obj.cells (z16).toArray 25,Obj.cells (z16).toArray 25] w 3 _ _ rfl
 rw [l1] at H3
 refine wp_gen (fun W=>Chg R0 w W∧Has W n1 0 (nl a)∧Has W (n1 + 1) 0 (nl b)∧Room W (n1 + 1 + 1) 0 16∧Has W (n1 + 1 + 1 + 1) 0 (z16)) ⟨C.trans (Chg.of_below hb),H0,H1,H2,H3⟩ ?_
 clear C hb l1 H0 H1 H2 H3
 rintro W ⟨C,H0,H1,H2,H3⟩
 replace H3:Has W (n1 + 1 + 1 + 1) 0 (nl (tPart a b 0)):=by rw [tPart_zero,nl_zero];exact H3
 go_loopw [9] (fun i W=>∃ k:Nat,k ≤ 8∧i = .int .i64 k∧Chg R0 w W∧Has W n1 0 (nl a)∧Has W (n1 + 1) 0 (nl b)∧Room W (n1 + 1 + 1) 0 16∧Has W (n1 + 1 + 1 + 1) 0 (nl (tPart a b k))) (fun i _=>8 - (intOf i).toNat)
 case atStart=>exact ⟨0,by omega,rfl,C,H0,H1,H2,H3⟩
 case round =>
  clear C H0 H1 H2 H3
  obtain ⟨i,hi,rfl,C,H0,H1,H2,H3⟩:=hrel
  by_cases hlt:i < 8
  ·have cA:=(H0.cellD (i:=i) (by omega)).1
   rw [Nat.zero_add] at cA
   have dA:=dig_lt a i
   have hE:=tRow_end (a:=a) (i:=i) hb.out
   obtain ⟨S,qS⟩:∃ S,tPart a b i = S:=⟨_,rfl⟩
   obtain ⟨d,qd⟩:∃ d,dig a i = d:=⟨_,rfl⟩
   rw [qS] at H3 hE
   rw [qd] at cA dA hE
   replace hE:=hd hE
   clear qS
   replace qd:=hd qd
   rw [tRow_zero S d b i] at H3
   go_wp2_with fail
   rw [show decide ((i:Int) < 8) = true by rw [decide_eq_true_iff];omega]
   go_loopw [7,12] (fun c k W=>∃ j:Nat,j ≤ 8∧k = .int .i64 j∧c = .int .u64 (tCar S d b i j:Nat)∧Chg R0 w W∧Has W n1 0 (nl a)∧Has W (n1 + 1) 0 (nl b)∧Room W (n1 + 1 + 1) 0 16∧Has W (n1 + 1 + 1 + 1) 0 (tRow S d b i j)) (fun _ k _=>8 - (intOf k).toNat)
   case atStart=>exact ⟨0,by omega,rfl,by rw [tCar_zero];rfl,C,H0,H1,H2,H3⟩
   case round =>
    clear C H0 H1 H2 H3 cA
    obtain ⟨j,hj,rfl,rfl,C,H0,H1,H2,H3⟩:=hrel
    have gl:=tCar_lt (S:=S) (b:=b) (i:=i) (j:=j) dA
    by_cases hjt:j < 8
    ·have cA:=H0.cellD (i:=i) (by omega)
     have cB:=H1.cellD (i:=j) (by omega)
     have cO:=tRow_get (by omega) H3
     rw [Nat.zero_add] at cA cB
     rw [qd.out] at cA
     have dB:=dig_lt b j
     have dO:=dig_lt S (i + j)
     have eN:=tCar_next S d b i j
     have eS:=fun v=>@tRow_step S d b i j v
     obtain ⟨y,qy⟩:∃ y,dig b j = y:=⟨_,rfl⟩
     obtain ⟨s,qs⟩:∃ s,dig S (i + j) = s:=⟨_,rfl⟩
     obtain ⟨g,qg⟩:∃ g,tCar S d b i j = g:=⟨_,rfl⟩
     rw [qy] at cB dB eN eS
     rw [qs] at cO dO eN eS
     rw [qg] at gl eN eS
     rw [qg]
     have m0:0 ≤ (d:Int) * y:=Int.mul_nonneg (by omega) (by omega)
     have m1:(d:Int) * y ≤ 18446744065119617025:=mul_wordI dA dB
     replace eN:=hd eN
     replace eS:=hd eS
     clear qy qs qg
     have k16:(i:Int) + j < 16:=by omega
     have kj:(j:Int) < 8:=by omega
     have ki:(i:Int) < 16:=by omega
     have kj16:(j:Int) < 16:=by omega
     have ksum:0 ≤ (i:Int) + j:=by omega
     have kt:((i:Int) + j).toNat = i + j:=by omega
     have kw:IntKind.i64.wrap ((i:Int) + j) = (i:Int) + j:=i64_word _ (by omega)
     go_wp2_with fail
     go_still_tail 18,(by kernel_rfl)
     go_wp2_with fail
     rw [mac_mod,mac_div]
     have h3:=H3.set (i + j) (by omega:i + j = 0 + (i + j)) (.int .u32 (((g + (s + d * y)) % 4294967296:Nat):Int))
     rw [eS.out _ rfl] at h3
     exact ⟨⟨j + 1,by omega,by push_cast;rfl,by rw [eN.out],(C.setCell _ (fun h=>absurd h (Nat.not_lt.2 (by omega)))).drew,H0.off _ (fun e=>by omega),H1.off _ (fun e=>by omega),(Chg.set1 _ _ _ _).room H2,h3⟩,by simp [intOf];omega⟩
    ·obtain rfl:j = 8:=by omega
     have cO:=tRow_cell8 hlt H3
     obtain ⟨⟨u,cO⟩,fO⟩:=cO
     have kt:((i:Int) + 8).toNat = i + 8:=by omega
     have k16:(i:Int) + 8 < 16:=by omega
     have k0:0 ≤ (i:Int) + 8:=by omega
     have h3:=H3.set (i + 8) (by omega:i + 8 = 0 + (i + 8)) (.int .u32 ((tCar S d b i 8:Nat):Int))
     rw [hE.out] at h3
     replace h3:=hd h3
     clear H3
     go_wp2_with fail
     exact ⟨⟨i + 1,by omega,by push_cast;rfl,C.setCell _ (fun h=>absurd h (Nat.not_lt.2 (by omega))),H0.off _ (fun e=>by omega),H1.off _ (fun e=>by omega),(Chg.set1 _ _ _ _).room H2,h3.out⟩,by simp [intOf];omega⟩
  ·obtain rfl:i = 8:=by omega
   rw [tPart_all ha.out] at H3
   repeat ((fail_if_success with_reducible refine sl 25 ?_);first | go_step | dsimp only)
   refine wL (b:=n1 + 1 + 1 + 1) (o:=0) rfl H3 (nL _) agg25 size25 ?_
   simp only [Act.put,iA,iB,iC]
   repeat ((fail_if_success with_reducible refine ss 25 ?_);first | go_step | dsimp only)
   refine wS (b:=n1 + 1 + 1) (o:=0) rfl rfl H2 (nL _) (nl_one _) size25 ?_
   simp only [Act.put]
   have hc:Chg (Rg (n1 + 1 + 1) 0 16) wr (World.setCells wr (n1 + 1 + 1) 0 (nl (a * b))):=by have:=putL_chg (w:=wr) (b:=n1 + 1 + 1) (o:=0) (vs:=nl (a * b));rwa [show (nl (a * b)).length = 16 from (nL _)] at this
   have HR:=putL_has (w:=wr) (b:=n1 + 1 + 1) (o:=0) (vs:=nl (a * b)) (by rw [show (nl (a * b)).length = 16 from (nL _)];exact H2)
   replace C:=C.loc hc (by omega)
   clear hc H0 H1 H2 H3
   go_wp2_with fail
   exact ret_cell (b:=n1 + 1 + 1) (o:=0) Tryz.results69 rfl HR (nL _) agg25 size25 rfl ⟨rfl,C.r0⟩
open Go.RowKit
section
variable {P : Program} {ops : Array Oper} {Q : Exit → Act → World → Prop}
theorem region_fresh0 {id:Nat} {l:List Oper} {T:List Value} {w:World} (n:Nat) (fr:List Nat) (hm:P.follows .mixedOrders = true) (hp:plainOps l T.length = true) (htl:tailOk l n = true)
  (R:World→World→Prop) (hr:∀ w,R w w) (ht:∀ a b c,R a b→R b c→R a c) (hsz0:∀ a b,R a b→a.heap.size ≤ b.heap.size)
  (φ:Nat→Value→World→Prop) (hφ:∀ i v w w',φ i v w→R w w'→φ i v w')
  (hop:∀ (i:Nat) (o:Oper),i < n→l[i]? = some o→∀ (a:Act) (W:World),R w.drew W →
   (∀ s:Nat,(∀ o ∈ l,o.dst ≠ some s)→a.tmps.getD s undef = T.toArray.getD s undef) →
   (∀ e ∈ o.after.toList,Region.binds .any e = true→φ e.on (slotOf l.toArray a e.on) W) →
   o.wp P a W (fun a' W'=>∃ v,a' = a.put o.dst v∧R W W'∧φ i (if o.dst.isSome then v else undef) W'∧(i ∈ fr→v = .pointer (some ⟨W.heap.size,0,none⟩)∧W.heap.size < W'.heap.size∧o.dst.isSome = true)) Q)
  (hend:∀ (vs:Nat→Value) (W:World),R w.drew W→(∀ (i:Nat) (o:Oper),i < n→l[i]? = some o→φ i (if o.dst.isSome then vs i else undef) W)→(∀ i j,i ∈ fr→j ∈ fr→i < n→j < n→i ≠ j→vs i ≠ vs j)→wpList P l.toArray Q (l.drop n) (finL vs (l.take n) 0 ⟨T.toArray,[]⟩) W) :
  (Code.region id l.toArray true).wp P Q ⟨T.toArray,[]⟩ w:=by
 simp only [tailOk,Bool.and_eq_true,decide_eq_true_eq] at htl
 obtain ⟨⟨⟨hn,hsink⟩,hchain⟩,hseq⟩:=htl
 simp only [plainOps,Bool.and_eq_true,List.all_eq_true,List.mem_range,Bool.or_eq_true,beq_iff_eq] at hp
 obtain ⟨⟨⟨hg,hdist⟩,hin⟩,haft⟩:=hp
 have hdist':∀ (i j:Nat) (oi oj:Oper) (d:Tmp),l[i]? = some oi→l[j]? = some oj→oi.dst = some d→oj.dst = some d→i = j:=by
  intro i j oi oj d hi hj hd1 hd2
  have h1:=(List.getElem?_eq_some_iff.1 hi).1
  have h2:=(List.getElem?_eq_some_iff.1 hj).1
  rcases hdist i h1 j h2 with h | h
  ·exact h
  ·rw [hi,hj] at h
   simp [hd1,hd2] at h
 have main:∀ (c:Nat) (listed:Array Bool) (a:Act) (W:World),HeadInv .any l.toArray n listed→(listed.toList.countP (fun b=>!b) = c + (l.length - n))→R w.drew W→a.defers = []→a.tmps.size = T.length →
   (∀ s:Nat,(∀ o ∈ l.take n,o.dst ≠ some s)→a.tmps.getD s undef = T.toArray.getD s undef) →
   (∀ i,listed.getD i false = true→φ i (slotOf l.toArray a i) W)→(∀ i,i ∈ fr→listed.getD i false = true→∃ k,slotOf l.toArray a i = .pointer (some ⟨k,0,none⟩)∧k < W.heap.size) →
   (∀ i j,i ∈ fr→j ∈ fr→i ≠ j→listed.getD i false = true→listed.getD j false = true→slotOf l.toArray a i ≠ slotOf l.toArray a j)→wpAny P .any l.toArray Q (c + (l.length - n)) listed a W:=by
  intro c
  induction c with
  | zero =>
   intro listed a W inv hc hR hdf hts hun hl hf1 hf2
   have hsz:listed.size = l.length:=by simpa using inv.size
   have hall:∀ i,i < n→listed.getD i false = true:=by
    intro i hi
    cases hlist:listed.getD i false with
    | true=>rfl
    | false =>
     exfalso
     have h1:listed.toList[i]? = some false:=by
      rw [Array.getElem?_toList]
      rw [Array.getD_eq_getD_getElem?,Array.getElem?_eq_getElem (by omega)] at hlist
      rw [Array.getElem?_eq_getElem (by omega)]
      simpa using hlist
     have h2:=count_set _ _ h1
     have h3:l.length - n ≤ (listed.toList.set i true).countP (fun b=>!b):=by
      have h4:((listed.toList.set i true).drop n).countP (fun b=>!b) = l.length - n:=by
       rw [List.countP_eq_length.2]
       ·simp [hsz]
       ·intro b hb
        obtain ⟨j,hj,hje⟩:=List.getElem_of_mem hb
        rw [List.getElem_drop,List.getElem_set] at hje
        rw [if_neg (by omega)] at hje
        have hj':n + j < listed.size:=by simp at hj;omega
        have h5:=inv.tail (n + j) (by omega) (by simpa [hsz] using hj')
        rw [Array.getD_eq_getD_getElem?,Array.getElem?_eq_getElem hj'] at h5
        simp only [Option.getD_some] at h5
        rw [←hje]
        simp [h5]
      have h5:=List.countP_append (p:=fun b=>!b) (l₁:=(listed.toList.set i true).take n) (l₂:=(listed.toList.set i true).drop n)
      rw [List.take_append_drop] at h5
      omega
     omega
   have hcan:listed = canon n l.length:=canon_of hsz (by omega) hall (fun i h1 h2=>inv.tail i h1 (by simpa using h2))
   have e:=finL_eq (slotOf l.toArray a) a (l.take n) 0 ⟨T.toArray,[]⟩ (by simpa using hts) hdf hun (fun j o d hj hd=>by
    rw [Nat.zero_add];unfold slotOf
    have:l[j]? = some o:=by
     rw [List.getElem?_take] at hj
     split at hj
     ·exact hj
     ·cases hj
    simp [this,hd])
   have hend':=hend (slotOf l.toArray a) W hR (fun i o hi ho=>by
    have h1:=hl i (hall i hi)
    have e2:(if o.dst.isSome then slotOf l.toArray a i else undef) = slotOf l.toArray a i:=by
     split
     ·rfl
     ·rename_i hn
      have hnone:o.dst = none:=by simpa using hn
      unfold slotOf;simp [ho,hnone]
    rw [e2];exact h1) (fun i j h1 h2 h3 h4 h5=>hf2 i j h1 h2 h5 (hall i h3) (hall j h4))
   rw [←e] at hend'
   have:=wpAny_of_seq (md:=.any) (Q':=Q) (l.drop n) n listed a W (fun j=>by simp [List.getElem?_drop]) (by rw [List.length_drop,hcan];exact hseq) hend'
   rw [List.length_drop] at this
   rwa [Nat.zero_add]
  | succ c ih =>
   intro listed a W inv hc hR hdf hts hun hl hf1 hf2
   have hsz:listed.size = l.length:=by simpa using inv.size
   have hex:∃ i,i < n∧listed.getD i true = false:=by
    apply Classical.byContradiction
    intro hno
    have hall:∀ i,i < n→listed.getD i false = true:=by
     intro i hi
     cases h:listed.getD i true with
     | false=>exact absurd ⟨i,hi,h⟩ hno
     | true =>
      rw [Array.getD_eq_getD_getElem?,Array.getElem?_eq_getElem (by omega)] at h ⊢
      exact h
    have hcan:listed = canon n l.length:=canon_of hsz (by omega) hall (fun i h1 h2=>inv.tail i h1 (by simpa using h2))
    rw [hcan] at hc
    simp [canon,List.countP_append,List.countP_replicate] at hc
   have hready:∃ i,i ∈ Region.ready .any l.toArray listed:=by
    obtain ⟨i,hi,hun'⟩:=hex
    induction i using Nat.strongRecOn with
    | _ i ihi =>
     by_cases hd:∀ e ∈ (l[i]'(by omega)).after,Region.binds .any e = true→listed.getD e.on false = true
     ·exact ⟨i,mem_ready.2 ⟨hun',l[i],by simp [show i < l.length by omega],hd⟩⟩
     ·have hd':=Classical.not_forall.1 hd
      obtain ⟨e,he⟩:=hd'
      have he1:=Classical.not_imp.1 he
      have he2:=Classical.not_imp.1 he1.2
      have h4:=haft i (by omega)
      rw [List.getElem?_eq_getElem (show i < l.length by omega)] at h4
      have h5:=List.all_eq_true.1 h4 e (by simpa using he1.1)
      simp only [Bool.or_eq_true,decide_eq_true_eq,he2.1,Bool.not_true,Bool.false_eq_true,or_false] at h5
      refine ihi e.on h5 (by omega) ?_
      have h6:=he2.2
      rw [Array.getD_eq_getD_getElem?,Array.getElem?_eq_getElem (by omega)] at h6 ⊢
      simpa using h6
   rw [show c + 1 + (l.length - n) = (c + (l.length - n)) + 1 by omega]
   refine ⟨fun h0=>(by obtain ⟨i,hi⟩:=hready;rw [h0] at hi;cases hi),fun i hi=>?_⟩
   have hin':i < n:=by
    obtain ⟨k,hk,hkun⟩:=hex
    rcases Nat.lt_or_ge i n with h | h
    ·exact h
    ·exact absurd hi (tail_waits hsink hchain (by simpa using hn) inv _ k rfl hk hkun i h)
   obtain ⟨hfalse,o,ho,hdeps⟩:=mem_ready.1 hi
   have ho':l[i]? = some o:=by simpa using ho
   have hom:o ∈ l:=List.mem_of_getElem? ho'
   have homn:o ∈ l.take n:=by
    apply List.mem_of_getElem? (i:=i)
    rw [List.getElem?_take,if_pos hin'];exact ho'
   have hgn:o.guard = none:=by have:=hg o hom;simpa using this
   simp only [wpOp,ho]
   rw [if_pos (by simp [Region.wanted,hgn])]
   refine .inl (Oper.wp_mono ?_ (hop i o hin' ho' a W hR (fun s hs=>hun s (fun o' ho'=>hs o' (List.mem_of_mem_take ho'))) (fun e he hb=>hl _ (hdeps e (by simpa using he) hb))))
   rintro a' W' ⟨v,rfl,hRW,hφi,hfi⟩
   have sl:∀ j,i ≠ j→slotOf l.toArray (a.put o.dst v) j = slotOf l.toArray a j:=by
    intro j hij
    unfold slotOf
    cases hoj:(l.toArray[j]?).bind (·.dst) with
    | none=>rfl
    | some d =>
     simp only
     apply put_other
     intro e
     obtain ⟨oj,hoj1,hoj2⟩:=Option.bind_eq_some_iff.1 hoj
     exact hij (hdist' i j o oj d ho' (by simpa using hoj1) e hoj2)
   have li:∀ j,i ≠ j→(listed.setIfInBounds i true).getD j false = true→listed.getD j false = true:=by
    intro j hij hj
    rw [Array.getD_eq_getD_getElem?] at hj ⊢
    rw [Array.getElem?_setIfInBounds,if_neg hij] at hj
    exact hj
   have si:o.dst.isSome = true→slotOf l.toArray (a.put o.dst v) i = v:=by
    intro hs
    unfold slotOf
    rw [ho]
    cases hdst:o.dst with
    | none=>rw [hdst] at hs;cases hs
    | some d =>
     have:=hin o hom
     rw [hdst] at this
     simp only [decide_eq_true_eq] at this
     simp only [Option.bind_some,hdst]
     exact put_same _ _ _ (by rw [hts];exact this)
   refine ih _ _ _ (inv.set hi hin') ?_ (ht _ _ _ hR hRW) (by rw [put_defers];exact hdf) (by rw [put_size];exact hts) (fun s hs=>by rw [put_other _ _ _ _ (hs o homn)];exact hun s hs) (fun j hj=>?_) (fun j hjf hj=>?_) (fun j k hjf hkf hjk hj hk=>?_)
   ·have:=count_set _ _ (getD_false hfalse)
    rw [Array.toList_setIfInBounds]
    omega
   by_cases hij:i = j
   ·subst hij
    have hd:slotOf l.toArray (a.put o.dst v) i = if o.dst.isSome then v else undef:=by
     unfold slotOf
     rw [ho]
     cases hdst:o.dst with
     | none=>simp [hdst]
     | some d =>
      have:=hin o hom
      rw [hdst] at this
      simp only [decide_eq_true_eq] at this
      simp only [Option.bind_some,hdst,Option.isSome_some,if_true]
      exact put_same _ _ _ (by rw [hts];exact this)
    rw [hd];exact hφi
   ·have hj':listed.getD j false = true:=by
     rw [Array.getD_eq_getD_getElem?] at hj ⊢
     rw [Array.getElem?_setIfInBounds,if_neg hij] at hj
     exact hj
    have:=hφ _ _ _ _ (hl j hj') hRW
    have e:slotOf l.toArray (a.put o.dst v) j = slotOf l.toArray a j:=by
     unfold slotOf
     cases hoj:(l.toArray[j]?).bind (·.dst) with
     | none=>rfl
     | some d =>
      simp only
      apply put_other
      intro e
      obtain ⟨oj,hoj1,hoj2⟩:=Option.bind_eq_some_iff.1 hoj
      exact hij (hdist' i j o oj d ho' (by simpa using hoj1) e hoj2)
    rw [e];exact this
   ·by_cases hij:i = j
    ·subst hij
     obtain ⟨h1,h2,h3⟩:=hfi hjf
     exact ⟨W.heap.size,by rw [si h3,h1],h2⟩
    ·obtain ⟨k,h1,h2⟩:=hf1 j hjf (li j hij hj)
     exact ⟨k,by rw [sl j hij,h1],Nat.lt_of_lt_of_le h2 (hsz0 _ _ hRW)⟩
   ·by_cases hij:i = j
    ·subst hij
     obtain ⟨h1,h2,h3⟩:=hfi hjf
     obtain ⟨q,h4,h5⟩:=hf1 k hkf (li k hjk hk)
     rw [si h3,sl k hjk,h1,h4]
     intro e
     simp only [Value.pointer.injEq,Option.some.injEq,Addr.mk.injEq] at e
     omega
    ·by_cases hik:i = k
     ·subst hik
      obtain ⟨h1,h2,h3⟩:=hfi hkf
      obtain ⟨q,h4,h5⟩:=hf1 j hjf (li j hij hj)
      rw [si h3,sl j hij,h1,h4]
      intro e
      simp only [Value.pointer.injEq,Option.some.injEq,Addr.mk.injEq] at e
      omega
     ·rw [sl j hij,sl k hik]
      exact hf2 j k hjf hkf hjk (li j hij hj) (li k hik hk)
 refine wp_region_any hm ?_
 have:=main n (Array.replicate l.toArray.size false) ⟨T.toArray,[]⟩ w.drew
  ⟨by simp,fun j oj _ hl=>(by rw [getD_replicate_false] at hl;cases hl),fun t _ ht=>getD_in (by simpa using ht) (getD_replicate_false _ _)⟩
  (by simp [List.countP_replicate];omega) (hr _) rfl (by simp) (fun _ _=>rfl) (fun i hi=>by rw [getD_replicate_false] at hi;cases hi) (fun i _ hi=>by rw [getD_replicate_false] at hi;cases hi) (fun i j _ _ _ hi=>by rw [getD_replicate_false] at hi;cases hi)
 rw [show n + (l.length - n) = l.toArray.size by simp;omega] at this
 exact this
theorem region_fresh {id:Nat} {l:List Oper} {T:List Value} {w:World} (n:Nat) (fr:List Nat) (hm:P.follows .mixedOrders = true) (hp:plainOps l T.length = true) (htl:tailOk l n = true)
  (φ:Nat→Value→World→Prop) (hφ:∀ i v w w',φ i v w→Later w w'→φ i v w')
  (hop:heads (l.take n) 0 (fun i o=>∀ (a:Act) (W:World),Later w.drew W →
   (∀ s:Nat,(∀ o ∈ l,o.dst ≠ some s)→a.tmps.getD s undef = T.toArray.getD s undef) →
   (∀ e ∈ o.after.toList,Region.binds .any e = true→φ e.on (slotOf l.toArray a e.on) W) →
   o.wp P a W (fun a' W'=>∃ v,a' = a.put o.dst v∧Later W W'∧φ i (if o.dst.isSome then v else undef) W'∧(i ∈ fr→v = .pointer (some ⟨W.heap.size,0,none⟩)∧W.heap.size < W'.heap.size∧o.dst.isSome = true)) Q))
  (hend:∀ (vs:Nat→Value) (W:World),Later w.drew W→heads (l.take n) 0 (fun i o=>φ i (if o.dst.isSome then vs i else undef) W)→(∀ i j,i ∈ fr→j ∈ fr→i < n→j < n→i ≠ j→vs i ≠ vs j)→wpList P l.toArray Q (l.drop n) (finL vs (l.take n) 0 ⟨T.toArray,[]⟩) W) :
  (Code.region id l.toArray true).wp P Q ⟨T.toArray,[]⟩ w:=by
 have tk:∀ (i:Nat) (o:Oper),i < n→l[i]? = some o→(l.take n)[i]? = some o:=fun i o hi ho=>by rw [List.getElem?_take,if_pos hi];exact ho
 refine region_fresh0 n fr hm hp htl Later (fun _=>.refl _ _) (fun _ _ _ h k=>Below.trans h (Below.mono k h.size)) (fun _ _ h=>h.size) φ hφ
  (fun i o hi ho=>by have:=heads_at hop i o (tk i o hi ho);rwa [Nat.zero_add] at this)
  (fun vs W hR h=>hend vs W hR (heads_of fun j o hj=>by
   rw [Nat.zero_add]
   rw [List.getElem?_take] at hj
   split at hj
   ·exact h j o (by assumption) hj
   ·cases hj))
end
theorem reduce_v {m0 m1 m2 m3 m4 c0 c1 c2 c3 c4 q0 q1 q2 q3:Int} (hm:L5.ok ⟨m0,m1,m2,m3,m4⟩)
  (h0:(m0 + 19) / 2251799813685248 = c0) (h1:(m1 + c0) / 2251799813685248 = c1) (h2:(m2 + c1) / 2251799813685248 = c2) (h3:(m3 + c2) / 2251799813685248 = c3) (h4:(m4 + c3) / 2251799813685248 = c4)
  (g0:(m0 + 19 * c4) / 2251799813685248 = q0) (g1:(m1 + q0) / 2251799813685248 = q1) (g2:(m2 + q1) / 2251799813685248 = q2) (g3:(m3 + q2) / 2251799813685248 = q3) :
  L5.v ⟨(m0 + 19 * c4) % 2251799813685248,(m1 + q0) % 2251799813685248,(m2 + q1) % 2251799813685248,(m3 + q2) % 2251799813685248,(m4 + q3) % 2251799813685248⟩ = L5.v ⟨m0,m1,m2,m3,m4⟩ % 57896044618658097711785492504343953926634992332820282019728792003956564819949:=by
 obtain ⟨b0,b1,b2,b3,b4⟩:=hm
 simp only [L5.v] at *
 have hc:c4 = 0∨c4 = 1:=by omega
 have k4:0 ≤ m0 + m1 * 2251799813685248 + m2 * 5070602400912917605986812821504 + m3 * 11417981541647679048466287755595961091061972992 + m4 * 25711008708143844408671393477458601640355247900524685364822016 + 19 - 57896044618658097711785492504343953926634992332820282019728792003956564819968 * c4:=by omega
 have k5:m0 + m1 * 2251799813685248 + m2 * 5070602400912917605986812821504 + m3 * 11417981541647679048466287755595961091061972992 + m4 * 25711008708143844408671393477458601640355247900524685364822016 + 19 - 57896044618658097711785492504343953926634992332820282019728792003956564819968 * c4 < 57896044618658097711785492504343953926634992332820282019728792003956564819968:=by omega
 have e4:(m4 + q3) / 2251799813685248 = c4:=by
  rcases hc with rfl | rfl<;>omega
 have hs:(m0 + 19 * c4) % 2251799813685248 + (m1 + q0) % 2251799813685248 * 2251799813685248 + (m2 + q1) % 2251799813685248 * 5070602400912917605986812821504 + (m3 + q2) % 2251799813685248 * 11417981541647679048466287755595961091061972992 + (m4 + q3) % 2251799813685248 * 25711008708143844408671393477458601640355247900524685364822016
   = m0 + m1 * 2251799813685248 + m2 * 5070602400912917605986812821504 + m3 * 11417981541647679048466287755595961091061972992 + m4 * 25711008708143844408671393477458601640355247900524685364822016 - 57896044618658097711785492504343953926634992332820282019728792003956564819949 * c4:=by
  omega
 have n0:0 ≤ m0 + m1 * 2251799813685248 + m2 * 5070602400912917605986812821504 + m3 * 11417981541647679048466287755595961091061972992 + m4 * 25711008708143844408671393477458601640355247900524685364822016:=by omega
 have n1:m0 + m1 * 2251799813685248 + m2 * 5070602400912917605986812821504 + m3 * 11417981541647679048466287755595961091061972992 + m4 * 25711008708143844408671393477458601640355247900524685364822016 < 115792089237316195423570985008687907853269984665640564039457584007913129639898:=by omega
 rw [hs]
 generalize m0 + m1 * 2251799813685248 + m2 * 5070602400912917605986812821504 + m3 * 11417981541647679048466287755595961091061972992 + m4 * 25711008708143844408671393477458601640355247900524685364822016 = M at *
 clear hs h0 h1 h2 h3 h4 g0 g1 g2 g3 e4 b0 b1 b2 b3 b4
 rcases hc with rfl | rfl<;>omega
end Go.Proofs.Ed
