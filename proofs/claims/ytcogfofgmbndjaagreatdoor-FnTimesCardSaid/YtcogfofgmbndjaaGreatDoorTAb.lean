/- A part of the proof of the tied card of FnTimes: Mul, Lim, Elt, Bulk, AnyOrd. -/
import Derived.Test.YtcogfofgmbndjaaGreatDoorProg
import Derived.WalkKit
import Derived.WalkSpells
import Derived.WalkLawsBesides
import Derived.Outline
import Derived.StillTailTactics
import Derived.Laws.IdiomCopy
import Derived.StillTail
import Derived.Test.YtcogfofgmbndjaaGreatDoorTAa
set_option maxRecDepth 100000
set_option maxHeartbeats 40000000
namespace Go.Proofs.Ed
def smul:Nat→Pt→Pt
 | 0,_=>0
 | n + 1,p=>smul n p + p
theorem smul_zero (p:Pt):smul 0 p = 0:=rfl
theorem smul_succ (n:Nat) (p:Pt):smul (n + 1) p = smul n p + p:=rfl
theorem smul_one (p:Pt):smul 1 p = p:=by rw [smul_succ,smul_zero,zero_add]
theorem smul_add (m n:Nat) (p:Pt):smul (m + n) p = smul m p + smul n p:=by
 induction n with
 | zero=>rw [smul_zero,add_zero];rfl
 | succ n ih=>rw [←Nat.add_assoc,smul_succ,smul_succ,ih,add_assoc]
theorem smul_two (p:Pt):smul 2 p = p + p:=by rw [smul_succ,smul_one]
theorem smul_of_zero (n:Nat):smul n 0 = 0:=by
 induction n with
 | zero=>rfl
 | succ n ih=>rw [smul_succ,ih,add_zero]
theorem add_swap (a b c d:Pt):a + b + (c + d) = a + c + (b + d):=by
 rw [add_assoc,←add_assoc b,add_comm b c,add_assoc c,←add_assoc a]
theorem smul_padd (n:Nat) (p q:Pt):smul n (p + q) = smul n p + smul n q:=by
 induction n with
 | zero=>rw [smul_zero,smul_zero,smul_zero,add_zero]
 | succ n ih=>rw [smul_succ,smul_succ,smul_succ,ih,add_swap]
theorem smul_mul (m n:Nat) (p:Pt):smul (m * n) p = smul m (smul n p):=by
 induction m with
 | zero=>rw [Nat.zero_mul,smul_zero,smul_zero]
 | succ m ih=>rw [Nat.succ_mul,smul_add,ih,smul_succ]
theorem neg_neg (p:Pt):-(-p) = p:=Pt.ext' (by rw [neg_x,neg_x];grind) (by rw [neg_y,neg_y])
theorem eq_neg_of_add {p q:Pt} (h:p + q = 0):q = -p:=by
 have:-p + (p + q) = -p + 0:=by rw [h]
 rwa [←add_assoc,neg_add,zero_add,add_zero] at this
theorem neg_padd (p q:Pt):-(p + q) = -p + -q:=by
 symm;apply eq_neg_of_add
 rw [add_swap,add_neg,add_neg,add_zero]
theorem neg_zero:-(0:Pt) = 0:=by
 have:=add_neg 0
 rwa [zero_add] at this
theorem smul_neg (n:Nat) (p:Pt):smul n (-p) = -smul n p:=by
 induction n with
 | zero=>rw [smul_zero,smul_zero,neg_zero]
 | succ n ih=>rw [smul_succ,smul_succ,ih,neg_padd]
def zmul (n:Int) (p:Pt):Pt:=if 0 ≤ n then smul n.toNat p else -smul (-n).toNat p
theorem zmul_nat (n:Nat) (p:Pt):zmul n p = smul n p:=by
 unfold zmul;rw [if_pos (by omega)];congr 1
theorem zmul_neg_nat (n:Nat) (p:Pt):zmul (-n) p = -smul n p:=by
 unfold zmul
 split
 ·have:n = 0:=by omega
  subst this;rw [show (-((0:Nat):Int)).toNat = 0 by rfl,smul_zero,neg_zero]
 ·congr 2;omega
theorem zmul_zero (p:Pt):zmul 0 p = 0:=zmul_nat 0 p
theorem zmul_one (p:Pt):zmul 1 p = p:=(zmul_nat 1 p).trans (smul_one p)
theorem zmul_succ (n:Int) (p:Pt):zmul (n + 1) p = zmul n p + p:=by
 rcases Int.lt_or_le n 0 with h | h
 ·obtain ⟨m,rfl⟩:∃ m:Nat,n = -((m + 1:Nat):Int):=⟨(-n - 1).toNat,by omega⟩
  rw [show -((m + 1:Nat):Int) + 1 = -(m:Int) by omega,zmul_neg_nat,zmul_neg_nat,smul_succ,neg_padd,add_assoc,neg_add,add_zero]
 ·obtain ⟨m,rfl⟩:=Int.eq_ofNat_of_zero_le h
  rw [show ((m:Int) + 1) = ((m + 1:Nat):Int) by omega,zmul_nat,zmul_nat,smul_succ]
theorem zmul_pred (n:Int) (p:Pt):zmul (n - 1) p = zmul n p + -p:=by
 have:=zmul_succ (n - 1) p
 rw [Int.sub_add_cancel] at this
 rw [this,add_assoc,add_neg,add_zero]
theorem zmul_add (m n:Int) (p:Pt):zmul (m + n) p = zmul m p + zmul n p:=by
 rcases Int.le_total 0 n with h | h
 ·obtain ⟨k,rfl⟩:=Int.eq_ofNat_of_zero_le h
  clear h
  induction k with
  | zero=>rw [show ((0:Nat):Int) = 0 by rfl,Int.add_zero,zmul_zero,add_zero]
  | succ k ih=>rw [show m + ((k + 1:Nat):Int) = m + k + 1 by omega,show ((k + 1:Nat):Int) = (k:Int) + 1 by omega,zmul_succ,zmul_succ,ih,add_assoc]
 ·obtain ⟨k,rfl⟩:∃ k:Nat,n = -(k:Int):=⟨(-n).toNat,by omega⟩
  clear h
  induction k with
  | zero=>rw [show -((0:Nat):Int) = 0 by rfl,Int.add_zero,zmul_zero,add_zero]
  | succ k ih=>rw [show m + -((k + 1:Nat):Int) = m + -(k:Int) - 1 by omega,show -((k + 1:Nat):Int) = -(k:Int) - 1 by omega,zmul_pred,zmul_pred,ih,add_assoc]
theorem zmul_neg (n:Int) (p:Pt):zmul (-n) p = -zmul n p:=by
 have:=zmul_add n (-n) p
 rw [Int.add_right_neg,zmul_zero] at this
 exact eq_neg_of_add this.symm
theorem zmul_padd (n:Int) (p q:Pt):zmul n (p + q) = zmul n p + zmul n q:=by
 rcases Int.le_total 0 n with h | h
 ·obtain ⟨k,rfl⟩:=Int.eq_ofNat_of_zero_le h
  rw [zmul_nat,zmul_nat,zmul_nat,smul_padd]
 ·obtain ⟨k,rfl⟩:∃ k:Nat,n = -(k:Int):=⟨(-n).toNat,by omega⟩
  rw [zmul_neg_nat,zmul_neg_nat,zmul_neg_nat,smul_padd,neg_padd]
theorem zmul_mul_nat (m:Nat) (n:Int) (p:Pt):zmul (m * n) p = smul m (zmul n p):=by
 induction m with
 | zero=>rw [show ((0:Nat):Int) * n = 0 by simp,zmul_zero];rfl
 | succ m ih=>rw [smul_succ,←ih,←zmul_add];congr 1;push_cast;rw [Int.add_mul,Int.one_mul]
def Pj (X Y Z:F) (p:Pt):Prop:=Z ≠ 0∧X = p.x * Z∧Y = p.y * Z
def Ex (X Y Z T:F) (p:Pt):Prop:=Z ≠ 0∧X = p.x * Z∧Y = p.y * Z∧T = p.x * p.y * Z
def Cm (X Y Z T:F) (p:Pt):Prop:=Z ≠ 0∧T ≠ 0∧X = p.x * Z∧Y = p.y * T
def Ca (A B Z T:F) (p:Pt):Prop:=Z ≠ 0∧A = (p.y + p.x) * Z∧B = (p.y - p.x) * Z∧T = 2 * cd * p.x * p.y * Z
def Af (A B T:F) (p:Pt):Prop:=A = p.y + p.x∧B = p.y - p.x∧T = 2 * cd * p.x * p.y
theorem Ex.pj {X Y Z T:F} {p:Pt} (h:Ex X Y Z T p):Pj X Y Z p:=⟨h.1,h.2.1,h.2.2.1⟩
theorem Ca.of_af {A B T:F} {p:Pt} (h:Af A B T p):Ca A B 1 T p:=by
 obtain ⟨h1,h2,h3⟩:=h
 exact ⟨one_ne_zero,by rw [h1];grind,by rw [h2];grind,by rw [h3];grind⟩
theorem Cm.pj {X Y Z T:F} {p:Pt} (h:Cm X Y Z T p):Pj (X * T) (Y * Z) (Z * T) p:=by
 obtain ⟨h1,h2,h3,h4⟩:=h
 exact ⟨mul_ne_zero h1 h2,by rw [h3];grind,by rw [h4];grind⟩
theorem Cm.ex {X Y Z T:F} {p:Pt} (h:Cm X Y Z T p):Ex (X * T) (Y * Z) (Z * T) (X * Y) p:=by
 obtain ⟨h1,h2,h3⟩:=h.pj
 obtain ⟨_,_,h6,h7⟩:=h
 exact ⟨h1,h2,h3,by rw [h6,h7];grind⟩
theorem Pj.ex {X Y Z:F} {p:Pt} (h:Pj X Y Z p):Ex (X * Z) (Y * Z) (Z * Z) (X * Y) p:=by
 obtain ⟨h1,h2,h3⟩:=h
 exact ⟨mul_ne_zero h1 h1,by rw [h2];grind,by rw [h3];grind,by rw [h2,h3];grind⟩
theorem Ex.ca {X Y Z T D:F} {p:Pt} (h:Ex X Y Z T p) (hD:D = 2 * cd):Ca (Y + X) (Y - X) Z (T * D) p:=by
 obtain ⟨h1,h2,h3,h4⟩:=h
 exact ⟨h1,by rw [h2,h3];grind,by rw [h2,h3];grind,by rw [h4,hD];grind⟩
theorem Ex.af {X Y Z T D:F} {p:Pt} (h:Ex X Y Z T p) (hD:D = 2 * cd):Af ((Y + X) * inv Z) ((Y - X) * inv Z) (T * D * inv Z) p:=by
 obtain ⟨h1,h2,h3,h4⟩:=h
 have:=mul_inv h1
 exact ⟨by rw [h2,h3];grind,by rw [h2,h3];grind,by rw [h4,hD];grind⟩
theorem four_ne:(4:F) ≠ 0:=by decide
theorem Ex.add {X Y Z T A B W U:F} {p q:Pt} (h:Ex X Y Z T p) (k:Ca A B W U q) :
  Cm ((Y + X) * A - (Y - X) * B) ((Y + X) * A + (Y - X) * B) (Z * W + Z * W + T * U) (Z * W + Z * W - T * U) (p + q):=by
 obtain ⟨h1,h2,h3,h4⟩:=h
 obtain ⟨k1,k2,k3,k4⟩:=k
 have ax:=add_x' p q
 have ay:=add_y' p q
 have dp:=den_p p.on q.on
 have dm:=den_m p.on q.on
 have hz:=mul_ne_zero two_ne_zero (mul_ne_zero h1 k1)
 have e1:Z * W + Z * W + T * U = 2 * (Z * W) * (1 + cd * p.x * q.x * p.y * q.y):=by rw [h4,k4];grind
 have e2:Z * W + Z * W - T * U = 2 * (Z * W) * (1 - cd * p.x * q.x * p.y * q.y):=by rw [h4,k4];grind
 refine ⟨by rw [e1];exact mul_ne_zero hz dp,by rw [e2];exact mul_ne_zero hz dm,?_,?_⟩
 ·rw [e1,h2,h3,k2,k3]
  rw [show (p + q).x * (2 * (Z * W) * (1 + cd * p.x * q.x * p.y * q.y)) = 2 * (Z * W) * ((p + q).x * (1 + cd * p.x * q.x * p.y * q.y)) by grind,ax]
  grind
 ·rw [e2,h2,h3,k2,k3]
  rw [show (p + q).y * (2 * (Z * W) * (1 - cd * p.x * q.x * p.y * q.y)) = 2 * (Z * W) * ((p + q).y * (1 - cd * p.x * q.x * p.y * q.y)) by grind,ay]
  grind
theorem Ca.neg {A B W U:F} {q:Pt} (k:Ca A B W U q):Ca B A W (-U) (-q):=by
 obtain ⟨k1,k2,k3,k4⟩:=k
 exact ⟨k1,by rw [k3,neg_x,neg_y];grind,by rw [k2,neg_x,neg_y];grind,by rw [k4,neg_x,neg_y];grind⟩
theorem Af.neg {A B U:F} {q:Pt} (k:Af A B U q):Af B A (-U) (-q):=by
 obtain ⟨k2,k3,k4⟩:=k
 exact ⟨by rw [k3,neg_x,neg_y];grind,by rw [k2,neg_x,neg_y];grind,by rw [k4,neg_x,neg_y];grind⟩
theorem Ex.sub {X Y Z T A B W U:F} {p q:Pt} (h:Ex X Y Z T p) (k:Ca A B W U q) :
  Cm ((Y + X) * B - (Y - X) * A) ((Y + X) * B + (Y - X) * A) (Z * W + Z * W - T * U) (Z * W + Z * W + T * U) (p + -q):=by
 have:=h.add k.neg
 rwa [show Z * W + Z * W + T * -U = Z * W + Z * W - T * U by grind,show Z * W + Z * W - T * -U = Z * W + Z * W + T * U by grind] at this
theorem Ex.addAf {X Y Z T A B U:F} {p q:Pt} (h:Ex X Y Z T p) (k:Af A B U q) :
  Cm ((Y + X) * A - (Y - X) * B) ((Y + X) * A + (Y - X) * B) (Z + Z + T * U) (Z + Z - T * U) (p + q):=by
 have:=h.add (Ca.of_af k)
 rwa [show Z * 1 = Z by grind] at this
theorem Ex.subAf {X Y Z T A B U:F} {p q:Pt} (h:Ex X Y Z T p) (k:Af A B U q) :
  Cm ((Y + X) * B - (Y - X) * A) ((Y + X) * B + (Y - X) * A) (Z + Z - T * U) (Z + Z + T * U) (p + -q):=by
 have:=h.sub (Ca.of_af k)
 rwa [show Z * 1 = Z by grind] at this
theorem Pj.dbl {X Y Z:F} {p:Pt} (h:Pj X Y Z p) :
  Cm ((X + Y) * (X + Y) - (Y * Y + X * X)) (Y * Y + X * X) (Y * Y - X * X) (Z * Z + Z * Z - (Y * Y - X * X)) (p + p):=by
 obtain ⟨h1,h2,h3⟩:=h
 have ax:=add_x' p p
 have ay:=add_y' p p
 have dp:=den_p p.on p.on
 have dm:=den_m p.on p.on
 have on:=p.on
 unfold On at on
 have hz:=mul_ne_zero h1 h1
 have e1:Y * Y - X * X = Z * Z * (1 + cd * p.x * p.x * p.y * p.y):=by rw [h2,h3];grind
 have e2:Z * Z + Z * Z - (Y * Y - X * X) = Z * Z * (1 - cd * p.x * p.x * p.y * p.y):=by rw [e1];grind
 refine ⟨by rw [e1];exact mul_ne_zero hz dp,by rw [e2];exact mul_ne_zero hz dm,?_,?_⟩
 ·rw [e1,h2,h3,show (p + p).x * (Z * Z * (1 + cd * p.x * p.x * p.y * p.y)) = Z * Z * ((p + p).x * (1 + cd * p.x * p.x * p.y * p.y)) by grind,ax]
  grind
 ·rw [e2,h2,h3,show (p + p).y * (Z * Z * (1 - cd * p.x * p.x * p.y * p.y)) = Z * Z * ((p + p).y * (1 - cd * p.x * p.x * p.y * p.y)) by grind,ay]
  grind
theorem Pj.plus {X Y Z A B C:F} {p q:Pt} (h:Pj X Y Z p) (k:Pj A B C q) :
  Pj (((Z * C) * ((Z * C) * (Z * C) - cd * ((X * A) * (Y * B)))) * ((X + Y) * (A + B) - X * A - Y * B))
    (((Z * C) * ((Z * C) * (Z * C) + cd * ((X * A) * (Y * B)))) * (X * A + Y * B))
    (((Z * C) * (Z * C) - cd * ((X * A) * (Y * B))) * ((Z * C) * (Z * C) + cd * ((X * A) * (Y * B)))) (p + q):=by
 obtain ⟨h1,h2,h3⟩:=h
 obtain ⟨k1,k2,k3⟩:=k
 have ax:=add_x' p q
 have ay:=add_y' p q
 have dp:=den_p p.on q.on
 have dm:=den_m p.on q.on
 have hz:=mul_ne_zero (mul_ne_zero h1 k1) (mul_ne_zero h1 k1)
 have e1:(Z * C) * (Z * C) + cd * ((X * A) * (Y * B)) = (Z * C) * (Z * C) * (1 + cd * p.x * q.x * p.y * q.y):=by rw [h2,h3,k2,k3];grind
 have e2:(Z * C) * (Z * C) - cd * ((X * A) * (Y * B)) = (Z * C) * (Z * C) * (1 - cd * p.x * q.x * p.y * q.y):=by rw [h2,h3,k2,k3];grind
 have n1:=mul_ne_zero hz dp
 have n2:=mul_ne_zero hz dm
 rw [←e1] at n1 ;rw [←e2] at n2
 refine ⟨mul_ne_zero n2 n1,?_,?_⟩
 ·rw [show (p + q).x * (((Z * C) * (Z * C) - cd * ((X * A) * (Y * B))) * ((Z * C) * (Z * C) + cd * ((X * A) * (Y * B)))) = ((Z * C) * (Z * C) - cd * ((X * A) * (Y * B))) * ((p + q).x * ((Z * C) * (Z * C) + cd * ((X * A) * (Y * B)))) by grind]
  rw [show (p + q).x * ((Z * C) * (Z * C) + cd * ((X * A) * (Y * B))) = (Z * C) * (Z * C) * ((p + q).x * (1 + cd * p.x * q.x * p.y * q.y)) by rw [e1];grind,ax]
  generalize (Z * C) * (Z * C) - cd * ((X * A) * (Y * B)) = f
  rw [h2,h3,k2,k3];grind
 ·rw [show (p + q).y * (((Z * C) * (Z * C) - cd * ((X * A) * (Y * B))) * ((Z * C) * (Z * C) + cd * ((X * A) * (Y * B)))) = ((Z * C) * (Z * C) + cd * ((X * A) * (Y * B))) * ((p + q).y * ((Z * C) * (Z * C) - cd * ((X * A) * (Y * B)))) by grind]
  rw [show (p + q).y * ((Z * C) * (Z * C) - cd * ((X * A) * (Y * B))) = (Z * C) * (Z * C) * ((p + q).y * (1 - cd * p.x * q.x * p.y * q.y)) by rw [e2];grind,ay]
  generalize (Z * C) * (Z * C) + cd * ((X * A) * (Y * B)) = f
  rw [h2,h3,k2,k3];grind
structure L5 where
 a:Int
 b:Int
 c:Int
 d:Int
 e:Int
def L5.v (l:L5):Int:=l.a + l.b * 2251799813685248 + l.c * 5070602400912917605986812821504 + l.d * 11417981541647679048466287755595961091061972992 + l.e * 25711008708143844408671393477458601640355247900524685364822016
def L5.ok (l:L5):Prop:=(0 ≤ l.a∧l.a < 2251799813947392)∧(0 ≤ l.b∧l.b < 2251799813947392)∧(0 ≤ l.c∧l.c < 2251799813947392)∧(0 ≤ l.d∧l.d < 2251799813947392)∧(0 ≤ l.e∧l.e < 2251799813947392)
def L5.word (l:L5):Prop:=(0 ≤ l.a∧l.a < 18446744073709551616)∧(0 ≤ l.b∧l.b < 18446744073709551616)∧(0 ≤ l.c∧l.c < 18446744073709551616)∧(0 ≤ l.d∧l.d < 18446744073709551616)∧(0 ≤ l.e∧l.e < 18446744073709551616)
def fe (l:L5):F:=el l.v
theorem P_int:((P:Nat):Int) = 57896044618658097711785492504343953926634992332820282019728792003956564819949:=rfl
theorem el_congr {x y:Int} (k:Int) (h:x = y + 57896044618658097711785492504343953926634992332820282019728792003956564819949 * k):el x = el y:=by
 rw [h,el_add,el_mul,←P_int,el_P];grind
def carry (l:L5):L5:=⟨l.a % 2251799813685248 + 19 * (l.e / 2251799813685248),l.b % 2251799813685248 + l.a / 2251799813685248,l.c % 2251799813685248 + l.b / 2251799813685248,l.d % 2251799813685248 + l.c / 2251799813685248,l.e % 2251799813685248 + l.d / 2251799813685248⟩
theorem carry_ok {l:L5} (h:l.word):(carry l).ok:=by
 obtain ⟨h1,h2,h3,h4,h5⟩:=h
 simp only [L5.ok,carry]
 omega
theorem carry_fe (l:L5):fe (carry l) = fe l:=by
 refine el_congr (-(l.e / 2251799813685248)) ?_
 simp only [L5.v,carry]
 omega
def addL (x y:L5):L5:=⟨x.a + y.a,x.b + y.b,x.c + y.c,x.d + y.d,x.e + y.e⟩
theorem addL_word {x y:L5} (hx:x.ok) (hy:y.ok):(addL x y).word:=by
 obtain ⟨h1,h2,h3,h4,h5⟩:=hx
 obtain ⟨k1,k2,k3,k4,k5⟩:=hy
 simp only [L5.word,addL]
 omega
theorem addL_fe (x y:L5):fe (addL x y) = fe x + fe y:=by
 unfold fe
 rw [←el_add]
 congr 1
 simp only [L5.v,addL]
 omega
def subL (x y:L5):L5:=⟨x.a + 4503599627370458 - y.a,x.b + 4503599627370494 - y.b,x.c + 4503599627370494 - y.c,x.d + 4503599627370494 - y.d,x.e + 4503599627370494 - y.e⟩
theorem subL_word {x y:L5} (hx:x.ok) (hy:y.ok):(subL x y).word:=by
 obtain ⟨h1,h2,h3,h4,h5⟩:=hx
 obtain ⟨k1,k2,k3,k4,k5⟩:=hy
 simp only [L5.word,subL]
 omega
theorem subL_fe (x y:L5):fe (subL x y) = fe x - fe y:=by
 unfold fe
 rw [←el_sub]
 refine el_congr 2 ?_
 simp only [L5.v,subL]
 omega
def r0 (x y:L5):Int:=x.a * y.a + 19 * (x.b * y.e) + 19 * (x.c * y.d) + 19 * (x.d * y.c) + 19 * (x.e * y.b)
def r1 (x y:L5):Int:=x.a * y.b + x.b * y.a + 19 * (x.c * y.e) + 19 * (x.d * y.d) + 19 * (x.e * y.c)
def r2 (x y:L5):Int:=x.a * y.c + x.b * y.b + x.c * y.a + 19 * (x.d * y.e) + 19 * (x.e * y.d)
def r3 (x y:L5):Int:=x.a * y.d + x.b * y.c + x.c * y.b + x.d * y.a + 19 * (x.e * y.e)
def r4 (x y:L5):Int:=x.a * y.e + x.b * y.d + x.c * y.c + x.d * y.b + x.e * y.a
def redc (a b c d e:Int):L5 :=
 carry ⟨a % 2251799813685248 + 19 * (e / 2251799813685248),b % 2251799813685248 + a / 2251799813685248,c % 2251799813685248 + b / 2251799813685248,d % 2251799813685248 + c / 2251799813685248,e % 2251799813685248 + d / 2251799813685248⟩
theorem redc_fe (a b c d e:Int):fe (redc a b c d e) = fe ⟨a,b,c,d,e⟩:=by
 unfold redc;rw [carry_fe];exact carry_fe ⟨a,b,c,d,e⟩
theorem mul_fe (x y:L5):fe ⟨r0 x y,r1 x y,r2 x y,r3 x y,r4 x y⟩ = fe x * fe y:=by
 unfold fe
 rw [←el_mul]
 refine el_congr (-((x.b * y.e + x.c * y.d + x.d * y.c + x.e * y.b) + (x.c * y.e + x.d * y.d + x.e * y.c) * 2251799813685248 + (x.d * y.e + x.e * y.d) * 5070602400912917605986812821504 + (x.e * y.e) * 11417981541647679048466287755595961091061972992)) ?_
 simp only [L5.v,r0,r1,r2,r3,r4]
 grind
theorem mul_bd {x y:Int} (hx:0 ≤ x∧x < 2251799813947392) (hy:0 ≤ y∧y < 2251799813947392):0 ≤ x * y∧x * y < 5070602402093509226772943601664:=by
 refine ⟨Int.mul_nonneg hx.1 hy.1,?_⟩
 have h1:x * y ≤ x * 2251799813947392:=Int.mul_le_mul_of_nonneg_left (by omega) hx.1
 have h2:x * 2251799813947392 < 2251799813947392 * 2251799813947392:=by omega
 omega
def wide (a:Int):Prop:=0 ≤ a∧a < 390436384961200210461516657328128
theorem r_wide {x y:L5} (hx:x.ok) (hy:y.ok):wide (r0 x y)∧wide (r1 x y)∧wide (r2 x y)∧wide (r3 x y)∧wide (r4 x y):=by
 obtain ⟨h1,h2,h3,h4,h5⟩:=hx
 obtain ⟨k1,k2,k3,k4,k5⟩:=hy
 have m11:=mul_bd h1 k1
 have m12:=mul_bd h1 k2
 have m13:=mul_bd h1 k3
 have m14:=mul_bd h1 k4
 have m15:=mul_bd h1 k5
 have m21:=mul_bd h2 k1
 have m22:=mul_bd h2 k2
 have m23:=mul_bd h2 k3
 have m24:=mul_bd h2 k4
 have m25:=mul_bd h2 k5
 have m31:=mul_bd h3 k1
 have m32:=mul_bd h3 k2
 have m33:=mul_bd h3 k3
 have m34:=mul_bd h3 k4
 have m35:=mul_bd h3 k5
 have m41:=mul_bd h4 k1
 have m42:=mul_bd h4 k2
 have m43:=mul_bd h4 k3
 have m44:=mul_bd h4 k4
 have m45:=mul_bd h4 k5
 have m51:=mul_bd h5 k1
 have m52:=mul_bd h5 k2
 have m53:=mul_bd h5 k3
 have m54:=mul_bd h5 k4
 have m55:=mul_bd h5 k5
 unfold wide r0 r1 r2 r3 r4
 refine ⟨?_,?_,?_,?_,?_⟩<;>omega
theorem redc_ok {a b c d e:Int} (ha:wide a) (hb:wide b) (hc:wide c) (hd:wide d) (he:wide e):(redc a b c d e).ok:=by
 unfold wide at *
 simp only [redc,L5.ok,carry]
 omega
open Go.RowKit
def cells (l:L5):List Value:=[.int .u64 l.a,.int .u64 l.b,.int .u64 l.c,.int .u64 l.d,.int .u64 l.e]
theorem cells_length (l:L5):(cells l).length = 5:=rfl
def Elt (w:World) (b o:Nat) (f:F):Prop:=∃ l:L5,l.ok∧fe l = f∧Has w b o (cells l)
theorem Elt.room {w:World} {b o:Nat} {f:F} (h:Elt w b o f):Room w b o 5:=by
 obtain ⟨l,_,_,h⟩:=h
 exact h.room rfl
theorem Elt.lt {w:World} {b o:Nat} {f:F} (h:Elt w b o f):b < w.heap.size:=h.room.lt (by omega)
def Off (R:Nat→Nat→Prop) (b o n:Nat):Prop:=∀ i,i < n→¬ R b (o + i)
theorem Elt.keep {R:Nat→Nat→Prop} {w w':World} (h:Chg R w w') {b o:Nat} {f:F} (r:Elt w b o f) (hR:Off R b o 5):Elt w' b o f:=by
 obtain ⟨l,h1,h2,h3⟩:=r
 exact ⟨l,h1,h2,h3.keep h hR⟩
theorem oq {b o n b' o' n':Nat} (h:b = b'→o + n ≤ o'∨o' + n' ≤ o):Off (Rg b' o' n') b o n:=by
 rintro i hi ⟨h1,h2,h3⟩
 have:=h h1
 omega
theorem oa {b o n b' o' n':Nat} (h:b = b'→o + n ≤ o'∨o' + n' ≤ o:=by intro e;omega):Off (Rg b' o' n') b o n:=oq h
theorem Chg.into {b o n b' o' n':Nat} {w W W1:World} (C:Chg (Rg b o n) w W) (hc:Chg (Rg b' o' n') W W1) (e:b' = b∧o ≤ o'∧o' + n' ≤ o + n:=by omega):Chg (Rg b o n) w W1 :=
 C.trans (hc.mono (fun _ _ _ h=>⟨h.1.trans e.1,Nat.le_trans e.2.1 h.2.1,Nat.lt_of_lt_of_le h.2.2 e.2.2⟩))
theorem off_ru {R R':Nat→Nat→Prop} {b o n:Nat} (h:Off R b o n) (k:Off R' b o n):Off (Ru R R') b o n:=fun i hi hh=>hh.elim (h i hi) (k i hi)
def Sep (b o b' o' n:Nat):Prop:=b = b'→o = o'∨o + n ≤ o'∨o' + n ≤ o
theorem Has.five {w:World} {b o:Nat} {v0 v1 v2 v3 v4:Value} (h:Has w b o [v0,v1,v2,v3,v4]) :
  (w.cell? ⟨b,o,none⟩ = some v0∧w.cell? ⟨b,o + 1,none⟩ = some v1∧w.cell? ⟨b,o + 2,none⟩ = some v2∧w.cell? ⟨b,o + 3,none⟩ = some v3∧w.cell? ⟨b,o + 4,none⟩ = some v4) ∧
  (w.frozen? ⟨b,o,none⟩ = false∧w.frozen? ⟨b,o + 1,none⟩ = false∧w.frozen? ⟨b,o + 2,none⟩ = false∧w.frozen? ⟨b,o + 3,none⟩ = false∧w.frozen? ⟨b,o + 4,none⟩ = false):=by
 have h0:=h 0 (by simp)
 have h1:=h 1 (by simp)
 have h2:=h 2 (by simp)
 have h3:=h 3 (by simp)
 have h4:=h 4 (by simp)
 simp only [Nat.add_zero] at h0
 exact ⟨⟨h0.1,h1.1,h2.1,h3.1,h4.1⟩,⟨h0.2,h1.2,h2.2,h3.2,h4.2⟩⟩
theorem Room.five {w:World} {b o:Nat} (h:Room w b o 5):∃ v0 v1 v2 v3 v4,Has w b o [v0,v1,v2,v3,v4]:=by
 obtain ⟨⟨v0,h0⟩,f0⟩:=h 0 (by omega)
 obtain ⟨⟨v1,h1⟩,f1⟩:=h 1 (by omega)
 obtain ⟨⟨v2,h2⟩,f2⟩:=h 2 (by omega)
 obtain ⟨⟨v3,h3⟩,f3⟩:=h 3 (by omega)
 obtain ⟨⟨v4,h4⟩,f4⟩:=h 4 (by omega)
 refine ⟨v0,v1,v2,v3,v4,fun i hi=>?_⟩
 match i,hi with
 | 0,_=>exact ⟨h0,f0⟩
 | 1,_=>exact ⟨h1,f1⟩
 | 2,_=>exact ⟨h2,f2⟩
 | 3,_=>exact ⟨h3,f3⟩
 | 4,_=>exact ⟨h4,f4⟩
theorem frozen_setCell (w:World) (b o:Nat) (v:Value) (b' o':Nat):(w.setCell ⟨b,o,none⟩ v).frozen? ⟨b',o',none⟩ = w.frozen? ⟨b',o',none⟩:=by
 by_cases hb:b' < w.heap.size
 ·exact (Chg.set1 w b o v).frozen hb
 ·have h1:w.heap[b']? = none:=Array.getElem?_eq_none (by omega)
  have h2:(w.setCell ⟨b,o,none⟩ v).heap[b']? = none:=Array.getElem?_eq_none (by rw [size_setCell];omega)
  simp [World.frozen?,h1,h2]
theorem Has.set {w:World} {b o:Nat} {vs:List Value} (h:Has w b o vs) (i:Nat) {o':Nat} (ho:o' = o + i) (v:Value):Has (w.setCell ⟨b,o',none⟩ v) b o (vs.set i v):=by
 subst ho
 intro j hj
 rw [List.length_set] at hj
 obtain ⟨h1,h2⟩:=h j hj
 refine ⟨?_,by rw [frozen_setCell];exact h2⟩
 by_cases hij:i = j
 ·subst hij
  rw [setCell_same (h1.trans (by simp [hj];rfl))]
  simp [hj]
 ·rw [(Chg.set1 w b (o + i) v).cell (h.lt (by omega)) (by rintro ⟨_,h⟩;omega),h1]
  simp [hij]
theorem Has.drew {w:World} {b o:Nat} {vs:List Value} (h:Has w b o vs):Has w.drew b o vs:=h
theorem Has.off {w:World} {b o:Nat} {vs:List Value} (h:Has w b o vs) {b' o':Nat} (v:Value) (hn:b = b'→o + vs.length ≤ o'∨o' < o):Has (w.setCell ⟨b',o',none⟩ v) b o vs :=
 h.keep (Chg.set1 w b' o' v) (by rintro i hi ⟨h1,h2⟩;have:=hn h1;omega)
theorem wp_gen {P:Program} {c:Code} {Q:Exit→Act→World→Prop} {a:Act} {W:World} (K:World→Prop) (hK:K W) (h:∀ W',K W'→Code.wp P c Q a W'):Code.wp P c Q a W:=h W hK
theorem pG {P:Program} {ops:Array Oper} {l:List Oper} {Q:Exit→Act→World→Prop} {a:Act} {W:World} (K:World→Prop) (hK:K W) (h:∀ W',K W'→wpList P ops Q l a W'):wpList P ops Q l a W:=h W hK
theorem and51 (x:Int) (h:0 ≤ x) (h2:x < 18446744073709551616):bits BinOp.and IntKind.u64 x 2251799813685247 = x % 2251799813685248:=by
 obtain ⟨n,rfl⟩:=Int.eq_ofNat_of_zero_le h
 have:=u64_and_nat n 2251799813685247 (by omega) (by omega)
 rw [show ((2251799813685247:Int)) = ((2251799813685247:Nat):Int) by rfl,this]
 have e:n &&& 2251799813685247 = n % 2251799813685248:=Nat.and_two_pow_sub_one_eq_mod n 51
 rw [e];rfl
def Hd (p:Prop):Prop:=p
theorem hd {p:Prop} (h:p):Hd p:=h
theorem Hd.out {p:Prop} (h:Hd p):p:=h
theorem ret_int {k:IntKind} {a b:Int} (h:a = b):Ending.returned (.int k a) = .returned (.int k b):=by rw [h]
theorem ret_int2 {k k':IntKind} {a b c d:Int} (h:a = b) (h':c = d):Ending.returned (.tuple #[.int k a,.int k' c]) = .returned (.tuple #[.int k b,.int k' d]):=by rw [h,h']
theorem wrap_u64 (x:Int):IntKind.u64.wrap x = x % 18446744073709551616:=by simp [IntKind.wrap,IntKind.bits,IntKind.signed]
abbrev Ptr (b o:Nat):Value:=.pointer (some ⟨b,o,none⟩)
open Go.RowKit
theorem putL_chg {b o:Nat} {vs:List Value} {w:World}:Chg (Rg b o vs.length) w (w.setCells b o vs):=by
 induction vs generalizing w o with
 | nil=>exact .refl _ _
 | cons v t ih =>
  refine ((Chg.set1 w b o v).mono ?_).trans ((ih (o:=o + 1)).mono ?_)
  ·rintro k i - ⟨rfl,rfl⟩;exact ⟨rfl,by omega,by simp⟩
  ·rintro k i - ⟨rfl,h1,h2⟩;exact ⟨rfl,by omega,by simp only [List.length_cons];omega⟩
theorem putL_has {b o:Nat} {vs:List Value} {w:World} (h:Room w b o vs.length):Has (w.setCells b o vs) b o vs:=by
 induction vs generalizing w o with
 | nil=>intro i hi;simp at hi
 | cons v t ih =>
  have h1:Has (w.setCell ⟨b,o,none⟩ v) b o [v]:=by
   obtain ⟨⟨u,hu⟩,hf⟩:=h 0 (by simp)
   intro i hi
   have:i = 0:=by simp at hi;exact hi
   subst this
   simp only [Nat.add_zero] at *
   exact ⟨setCell_same hu,by rw [frozen_setCell];exact hf⟩
  have h2:=h1.keep (putL_chg (b:=b) (o:=o + 1) (vs:=t)) (by rintro i hi ⟨-,h,-⟩;simp at hi;omega)
  have h3:=ih (w:=w.setCell ⟨b,o,none⟩ v) (o:=o + 1) (((Chg.set1 w b o v).room h).part (by omega) (by simp only [List.length_cons];omega))
  exact h2.append h3
theorem add_plain (b o i:Nat):(⟨b,o,none⟩:Addr).add i = ⟨b,o + i,none⟩:=by unfold Addr.add;split<;>simp_all
theorem load_row {P:Program} {w:World} {b o n:Nat} {vs:List Value} {T:TypeId} (h:Has w b o vs) (hn:vs.length = n) (hT:∀ w,(isAgg T).run P w = .ok true w) (hS:∀ w,(sizeOf T).run P w = .ok n w) :
  (Instr.loadAt T (Ptr b o)).run P w = .ok (.agg vs.toArray) w:=by
 have hl:=run_loadCells_list (P:=P) w ⟨b,o,none⟩ vs (fun j v hj=>by
  rw [add_plain]
  have:=(h j (List.getElem?_eq_some_iff.1 hj).1).1
  rw [this];exact hj)
 rw [hn] at hl
 simp [Instr.loadAt,loadVar,hT,hS,hl,Instr.sureAddr]
theorem store_row {P:Program} {w:World} {b o n:Nat} {vs:List Value} {T:TypeId} (h:Room w b o n) (hn:vs.length = n) (h1:∀ v ∈ vs,v.oneCell' = true) (hS:∀ w,(sizeOf T).run P w = .ok n w) :
  (Instr.storeAt T (Ptr b o) (.agg vs.toArray)).run P w = .ok () (w.setCells b o vs):=by
 have hst:=run_storeCells_cells (P:=P) b o vs 0 w (fun j hj=>by
   obtain ⟨⟨v,hv⟩,-⟩:=h j (by omega)
   rw [Nat.add_zero,hv];rfl) (fun j hj=>by rw [Nat.add_zero];exact (h j (by omega)).2) h1
 simp [Instr.storeAt,storeVar,hS,Value.cells,hn,hst,Instr.sureAddr]
theorem wL {P:Program} {ops:Array Oper} {Q:Exit→Act→World→Prop} {rest:List Oper} {a:Act} {w:World} {dst:Option Tmp} {T ty:TypeId} {x:Operand} {pos:String} {aft:Array Edge} {b o n:Nat} {vs:List Value}
  (hx:a.eval x = Ptr b o) (h:Has w b o vs) (hn:vs.length = n) (hT:∀ w,(isAgg T).run P w = .ok true w) (hS:∀ w,(sizeOf T).run P w = .ok n w)
  (hk:wpList P ops Q rest (a.put dst (.agg vs.toArray)) w):wpList P ops Q (⟨dst,.load T x,ty,pos,aft,none⟩ :: rest) a w:=by
 refine wpList_plain rfl fun K hK=>?_
 have:=load_row h hn hT hS
 unfold Oper.wp
 simp only [execOp,hx,Sem.run_bind,this,Result.andThen_ok]
 exact hK _ _ hk
theorem wS {P:Program} {ops:Array Oper} {Q:Exit→Act→World→Prop} {rest:List Oper} {a:Act} {w:World} {dst:Option Tmp} {T ty:TypeId} {x y:Operand} {pos:String} {aft:Array Edge} {b o n:Nat} {vs:List Value}
  (hx:a.eval x = Ptr b o) (hy:a.eval y = .agg vs.toArray) (h:Room w b o n) (hn:vs.length = n) (h1:∀ v ∈ vs,v.oneCell' = true) (hS:∀ w,(sizeOf T).run P w = .ok n w)
  (hk:wpList P ops Q rest (a.put dst undef) (w.setCells b o vs)):wpList P ops Q (⟨dst,.store T x y,ty,pos,aft,none⟩ :: rest) a w:=by
 refine wpList_plain rfl fun K hK=>?_
 have:=store_row h hn h1 hS
 unfold Oper.wp
 simp only [execOp,hx,hy,Sem.run_bind,this,Result.andThen_ok]
 exact hK _ _ hk
theorem sl {P:Program} {ops:Array Oper} {Q:Exit→Act→World→Prop} (T:TypeId) {d:Option Tmp} {x:Operand} {ty:TypeId} {p:String} {f:Array Edge} {g:Option (Tmp × Bool)} {l:List Oper} {a:Act} {w:World} (h:wpList P ops Q (⟨d,.load T x,ty,p,f,g⟩ :: l) a w):wpList P ops Q (⟨d,.load T x,ty,p,f,g⟩ :: l) a w:=h
theorem ss {P:Program} {ops:Array Oper} {Q:Exit→Act→World→Prop} (T:TypeId) {d:Option Tmp} {x y:Operand} {ty:TypeId} {p:String} {f:Array Edge} {g:Option (Tmp × Bool)} {l:List Oper} {a:Act} {w:World} (h:wpList P ops Q (⟨d,.store T x y,ty,p,f,g⟩ :: l) a w):wpList P ops Q (⟨d,.store T x y,ty,p,f,g⟩ :: l) a w:=h
open Go.RowKit
section
variable {P : Program} {ops : Array Oper} {Q : Exit → Act → World → Prop}
theorem count_set (l:List Bool) (i:Nat) (h:l[i]? = some false):(l.set i true).countP (fun b=>!b) + 1 = l.countP (fun b=>!b):=by
 induction l generalizing i with
 | nil=>simp at h
 | cons x t ih =>
  cases i with
  | zero=>simp at h;subst h;simp
  | succ i =>
   simp at h
   have:=ih i h
   simp only [List.set_cons_succ,List.countP_cons]
   omega
theorem getD_false {listed:Array Bool} {i:Nat} (h:listed.getD i true = false):listed.toList[i]? = some false:=by
 rw [Array.getElem?_toList]
 rw [Array.getD_eq_getD_getElem?] at h
 cases hx:listed[i]? with
 | none=>rw [hx] at h;cases h
 | some b=>rw [hx] at h;simp at h;rw [h]
theorem wpAny_J (J:Array Bool→Act→World→Prop)
  (hstep:∀ listed a w i,J listed a w→i ∈ Region.ready .any ops listed→wpOp P ops Q i (fun a' w'=>J (listed.setIfInBounds i true) a' w') a w)
  (hend:∀ listed a w,J listed a w→Region.ready .any ops listed = []→Q .normal a w) :
  ∀ (fuel:Nat) (listed:Array Bool) (a:Act) (w:World),J listed a w→listed.toList.countP (fun b=>!b) ≤ fuel→wpAny P .any ops Q fuel listed a w:=by
 intro fuel
 induction fuel with
 | zero =>
  intro listed a w h hc
  have hr:Region.ready .any ops listed = []:=by
   cases hr:Region.ready .any ops listed with
   | nil=>rfl
   | cons i t =>
    exfalso
    have hi:i ∈ Region.ready .any ops listed:=by rw [hr];simp
    have:=count_set _ _ (getD_false (mem_ready.1 hi).1)
    omega
  exact ⟨hr,hend _ _ _ h hr⟩
 | succ fuel ih =>
  intro listed a w h hc
  refine ⟨hend _ _ _ h,fun i hi=>wpOp_mono (fun a' w' h'=>ih _ _ _ h' ?_) (hstep _ _ _ _ h hi)⟩
  have:=count_set _ _ (getD_false (mem_ready.1 hi).1)
  rw [Array.toList_setIfInBounds]
  omega
def slotOf (ops:Array Oper) (a:Act) (i:Nat):Value :=
 match (ops[i]?).bind (·.dst) with
 | some d=>a.tmps.getD d undef
 | none=>undef
def finL (vs:Nat→Value):List Oper→Nat→Act→Act
 | [],_,a=>a
 | o :: t,i,a=>finL vs t (i + 1) (a.put o.dst (vs i))
theorem put_size (a:Act) (d:Option Tmp) (v:Value):(a.put d v).tmps.size = a.tmps.size:=by cases d<;>simp [Act.put]
theorem put_defers (a:Act) (d:Option Tmp) (v:Value):(a.put d v).defers = a.defers:=by cases d<;>simp [Act.put]
theorem put_same (a:Act) (d:Tmp) (v:Value) (h:d < a.tmps.size):(a.put (some d) v).tmps.getD d undef = v:=by
 simp [Act.put,Array.getD_eq_getD_getElem?,h]
theorem put_other (a:Act) (d:Option Tmp) (v:Value) (s:Nat) (h:d ≠ some s):(a.put d v).tmps.getD s undef = a.tmps.getD s undef:=by
 cases d with
 | none=>rfl
 | some d =>
  have:d ≠ s:=fun e=>h (by rw [e])
  simp [Act.put,Array.getD_eq_getD_getElem?,this]
theorem act_ext {A a:Act} (hs:A.tmps.size = a.tmps.size) (hd:A.defers = a.defers) (h:∀ s:Nat,A.tmps.getD s undef = a.tmps.getD s undef):A = a:=by
 cases A with | mk t d=>cases a with | mk t' d' =>
 simp only at hs hd h
 subst hd
 have:t = t':=by
  apply Array.ext hs
  intro i h1 h2
  have:=h i
  rw [Array.getD_eq_getD_getElem?,Array.getD_eq_getD_getElem?,Array.getElem?_eq_getElem h1,Array.getElem?_eq_getElem h2] at this
  exact this
 rw [this]
theorem finL_eq (vs:Nat→Value) (A:Act):∀ (l:List Oper) (i:Nat) (a:Act),A.tmps.size = a.tmps.size→A.defers = a.defers →
  (∀ s:Nat,(∀ o ∈ l,o.dst ≠ some s)→A.tmps.getD s undef = a.tmps.getD s undef) →
  (∀ j o d,l[j]? = some o→o.dst = some d→A.tmps.getD d undef = vs (i + j))→A = finL vs l i a:=by
 intro l
 induction l with
 | nil=>intro i a h1 h2 h3 _;exact act_ext h1 h2 (fun s=>h3 s (by simp))
 | cons o t ih =>
  intro i a h1 h2 h3 h4
  refine ih (i + 1) (a.put o.dst (vs i)) (by rw [put_size];exact h1) (by rw [put_defers];exact h2) (fun s hs=>?_) (fun j o' d hj hd=>?_)
  ·by_cases e:o.dst = some s
   ·have h5:=h4 0 o s (by simp) e
    rw [e]
    by_cases hlt:s < a.tmps.size
    ·rw [put_same _ _ _ hlt,h5];rfl
    ·have e1:A.tmps.getD s undef = undef:=by rw [Array.getD_eq_getD_getElem?,Array.getElem?_eq_none (show A.tmps.size ≤ s by omega)];rfl
     have e2:(a.put (some s) (vs i)).tmps.getD s undef = undef:=by rw [Array.getD_eq_getD_getElem?,Array.getElem?_eq_none (show (a.put (some s) (vs i)).tmps.size ≤ s by rw [put_size];omega)];rfl
     rw [e1,e2]
   ·rw [put_other _ _ _ _ e]
    exact h3 s (fun o' ho'=>by
     rcases List.mem_cons.1 ho' with rfl | ho'
     ·exact e
     ·exact hs o' ho')
  ·have:=h4 (j + 1) o' d (by simpa using hj) hd
   rw [this];congr 1;omega
def plainOps (ops:List Oper) (n:Nat):Bool :=
 (ops.all fun o=>o.guard.isNone) &&
 ((List.range ops.length).all fun i=>(List.range ops.length).all fun j=>i == j || (match (ops[i]?).bind (·.dst),(ops[j]?).bind (·.dst) with | some d,some d'=>d != d' | _,_=>true)) &&
 (ops.all fun o=>match o.dst with | some d=>decide (d < n) | none=>true) &&
 ((List.range ops.length).all fun i=>match ops[i]? with | some o=>o.after.toList.all fun e=>decide (e.on < i) || !Region.binds .any e | none=>true)
theorem region_phi {id:Nat} {l:List Oper} {T:List Value} {w:World} (hm:P.follows .mixedOrders = true) (hp:plainOps l T.length = true)
  (R:World→World→Prop) (hr:∀ w,R w w) (ht:∀ a b c,R a b→R b c→R a c)
  (φ:Nat→Value→World→Prop) (hφ:∀ i v w w',φ i v w→R w w'→φ i v w')
  (hop:∀ (i:Nat) (o:Oper),l[i]? = some o→∀ (a:Act) (W:World),R w.drew W →
   (∀ s:Nat,(∀ o ∈ l,o.dst ≠ some s)→a.tmps.getD s undef = T.toArray.getD s undef) →
   (∀ e ∈ o.after.toList,Region.binds .any e = true→φ e.on (slotOf l.toArray a e.on) W) →
   o.wp P a W (fun a' W'=>∃ v,a' = a.put o.dst v∧R W W'∧φ i (if o.dst.isSome then v else undef) W') Q)
  (hend:∀ (vs:Nat→Value) (W:World),R w.drew W→(∀ (i:Nat) (o:Oper),l[i]? = some o→φ i (if o.dst.isSome then vs i else undef) W)→Q .normal (finL vs l 0 ⟨T.toArray,[]⟩) W) :
  (Code.region id l.toArray true).wp P Q ⟨T.toArray,[]⟩ w:=by
 simp only [plainOps,Bool.and_eq_true,List.all_eq_true,List.mem_range,Bool.or_eq_true,beq_iff_eq] at hp
 obtain ⟨⟨⟨hg,hdist⟩,hin⟩,haft⟩:=hp
 have hdist':∀ (i j:Nat) (oi oj:Oper) (d:Tmp),l[i]? = some oi→l[j]? = some oj→oi.dst = some d→oj.dst = some d→i = j:=by
  intro i j oi oj d hi hj hd1 hd2
  have h1:=(List.getElem?_eq_some_iff.1 hi).1
  have h2:=(List.getElem?_eq_some_iff.1 hj).1
  rcases hdist i h1 j h2 with h | h
  ·exact h
  ·rw [hi,hj] at h
   simp [hd1,hd2] at h
 refine wp_region_any hm (wpAny_J (J:=fun listed a W=>listed.size = l.length∧R w.drew W∧a.defers = []∧a.tmps.size = T.length ∧
   (∀ s:Nat,(∀ o ∈ l,o.dst ≠ some s)→a.tmps.getD s undef = T.toArray.getD s undef) ∧
   (∀ i,listed.getD i false = true→φ i (slotOf l.toArray a i) W)) ?_ ?_ _ _ _ _ ?_ ?_)
 ·
  intro listed a W i ⟨hsz,hR,hdf,hts,hun,hl⟩ hi
  obtain ⟨hfalse,o,ho,hdeps⟩:=mem_ready.1 hi
  have ho':l[i]? = some o:=by simpa using ho
  have hom:o ∈ l:=List.mem_of_getElem? ho'
  have hgn:o.guard = none:=by have:=hg o hom;simpa using this
  simp only [wpOp,ho]
  rw [if_pos (by simp [Region.wanted,hgn])]
  refine .inl (Oper.wp_mono ?_ (hop i o ho' a W hR hun (fun e he hb=>hl _ (hdeps e (by simpa using he) hb))))
  rintro a' W' ⟨v,rfl,hRW,hφi⟩
  refine ⟨by simp [hsz],ht _ _ _ hR hRW,by rw [put_defers];exact hdf,by rw [put_size];exact hts,fun s hs=>by rw [put_other _ _ _ _ (hs o hom)];exact hun s hs,fun j hj=>?_⟩
  by_cases hij:i = j
  ·subst hij
   have hd:slotOf l.toArray (a.put o.dst v) i = if o.dst.isSome then v else undef:=by
    unfold slotOf
    rw [ho]
    cases hdst:o.dst with
    | none=>simp [hdst]
    | some d =>
     have:=hin o hom
     rw [hdst] at this
     simp only [decide_eq_true_eq] at this
     simp only [Option.bind_some,hdst,Option.isSome_some,if_true]
     exact put_same _ _ _ (by rw [hts];exact this)
   rw [hd];exact hφi
  ·have hj':listed.getD j false = true:=by
    rw [Array.getD_eq_getD_getElem?] at hj ⊢
    rw [Array.getElem?_setIfInBounds,if_neg hij] at hj
    exact hj
   have:=hφ _ _ _ _ (hl j hj') hRW
   have e:slotOf l.toArray (a.put o.dst v) j = slotOf l.toArray a j:=by
    unfold slotOf
    cases hoj:(l.toArray[j]?).bind (·.dst) with
    | none=>rfl
    | some d =>
     simp only
     apply put_other
     intro e
     obtain ⟨oj,hoj1,hoj2⟩:=Option.bind_eq_some_iff.1 hoj
     exact hij (hdist' i j o oj d ho' (by simpa using hoj1) e hoj2)
   rw [e];exact this
 ·
  intro listed a W ⟨hsz,hR,hdf,hts,hun,hl⟩ hnil
  have hall:∀ n i,i < n→i < l.length→listed.getD i false = true:=by
   intro n
   induction n with
   | zero=>intro i h;omega
   | succ n ih =>
    intro i hin' hil
    cases hlist:listed.getD i false with
    | true=>rfl
    | false =>
     exfalso
     have hrdy:i ∈ Region.ready .any l.toArray listed:=by
      refine mem_ready.2 ⟨?_,l[i],by simp [hil],fun e he hb=>?_⟩
      ·rw [Array.getD_eq_getD_getElem?] at hlist ⊢
       rw [Array.getElem?_eq_getElem (by omega)] at hlist ⊢
       exact hlist
      ·have h4:=haft i hil
       rw [List.getElem?_eq_getElem hil] at h4
       have h5:=List.all_eq_true.1 h4 e (by simpa using he)
       simp only [Bool.or_eq_true,decide_eq_true_eq,hb,Bool.not_true,Bool.false_eq_true,or_false] at h5
       exact ih e.on (by omega) (by omega)
     rw [hnil] at hrdy
     cases hrdy
  have e:=finL_eq (slotOf l.toArray a) a l 0 ⟨T.toArray,[]⟩ (by simpa using hts) hdf hun (fun j o d hj hd=>by
   rw [Nat.zero_add];unfold slotOf;simp [hj,hd])
  rw [e]
  refine hend (slotOf l.toArray a) W hR (fun i o ho=>?_)
  have h1:=(List.getElem?_eq_some_iff.1 ho).1
  have:=hl i (hall (i + 1) i (by omega) h1)
  have e2:(if o.dst.isSome then slotOf l.toArray a i else undef) = slotOf l.toArray a i:=by
   split
   ·rfl
   ·rename_i hn
    have hnone:o.dst = none:=by simpa using hn
    unfold slotOf;simp [ho,hnone]
  rw [e2];exact this
 ·refine ⟨by simp,hr _,rfl,by simp,fun _ _=>rfl,fun i hi=>?_⟩
  rw [Array.getD_eq_getD_getElem?,Array.getElem?_replicate] at hi
  split at hi<;>cases hi
 ·rw [Array.toList_replicate]
  have h:=@List.countP_le_length _ (fun b=>!b) (List.replicate l.toArray.size false)
  rwa [List.length_replicate] at h
def canon (n m:Nat):Array Bool:=((List.replicate n true) ++ (List.replicate (m - n) false)).toArray
theorem canon_of {listed:Array Bool} {n m:Nat} (hs:listed.size = m) (hn:n ≤ m) (h1:∀ i,i < n→listed.getD i false = true) (h2:∀ i,n ≤ i→i < m→listed.getD i true = false):listed = canon n m:=by
 apply Array.ext
 ·rw [hs];simp [canon];omega
 ·intro i hi hi'
  have e:(canon n m)[i] = (List.replicate n true ++ List.replicate (m - n) false)[i]'(by simpa [canon] using hi'):=rfl
  rw [e]
  rcases Nat.lt_or_ge i n with h | h
  ·have:=h1 i h
   rw [Array.getD_eq_getD_getElem?,Array.getElem?_eq_getElem hi] at this
   rw [List.getElem_append_left (by simpa using h),List.getElem_replicate]
   simpa using this
  ·have:=h2 i h (by omega)
   rw [Array.getD_eq_getD_getElem?,Array.getElem?_eq_getElem hi] at this
   rw [List.getElem_append_right (by simpa using h),List.getElem_replicate]
   simpa using this
def tailOk (l:List Oper) (n:Nat):Bool :=
 decide (n < l.length) && Region.sinkB .any l.toArray n && Region.chainB .any l.toArray n && Region.seqB .any l.toArray (l.length - n) n (canon n l.length)
theorem region_tail {id:Nat} {l:List Oper} {T:List Value} {w:World} (n:Nat) (hm:P.follows .mixedOrders = true) (hp:plainOps l T.length = true) (htl:tailOk l n = true)
  (R:World→World→Prop) (hr:∀ w,R w w) (ht:∀ a b c,R a b→R b c→R a c)
  (φ:Nat→Value→World→Prop) (hφ:∀ i v w w',φ i v w→R w w'→φ i v w')
  (hop:∀ (i:Nat) (o:Oper),i < n→l[i]? = some o→∀ (a:Act) (W:World),R w.drew W →
   (∀ s:Nat,(∀ o ∈ l,o.dst ≠ some s)→a.tmps.getD s undef = T.toArray.getD s undef) →
   (∀ e ∈ o.after.toList,Region.binds .any e = true→φ e.on (slotOf l.toArray a e.on) W) →
   o.wp P a W (fun a' W'=>∃ v,a' = a.put o.dst v∧R W W'∧φ i (if o.dst.isSome then v else undef) W') Q)
  (hend:∀ (vs:Nat→Value) (W:World),R w.drew W→(∀ (i:Nat) (o:Oper),i < n→l[i]? = some o→φ i (if o.dst.isSome then vs i else undef) W)→wpList P l.toArray Q (l.drop n) (finL vs (l.take n) 0 ⟨T.toArray,[]⟩) W) :
  (Code.region id l.toArray true).wp P Q ⟨T.toArray,[]⟩ w:=by
 simp only [tailOk,Bool.and_eq_true,decide_eq_true_eq] at htl
 obtain ⟨⟨⟨hn,hsink⟩,hchain⟩,hseq⟩:=htl
 simp only [plainOps,Bool.and_eq_true,List.all_eq_true,List.mem_range,Bool.or_eq_true,beq_iff_eq] at hp
 obtain ⟨⟨⟨hg,hdist⟩,hin⟩,haft⟩:=hp
 have hdist':∀ (i j:Nat) (oi oj:Oper) (d:Tmp),l[i]? = some oi→l[j]? = some oj→oi.dst = some d→oj.dst = some d→i = j:=by
  intro i j oi oj d hi hj hd1 hd2
  have h1:=(List.getElem?_eq_some_iff.1 hi).1
  have h2:=(List.getElem?_eq_some_iff.1 hj).1
  rcases hdist i h1 j h2 with h | h
  ·exact h
  ·rw [hi,hj] at h
   simp [hd1,hd2] at h
 have main:∀ (c:Nat) (listed:Array Bool) (a:Act) (W:World),HeadInv .any l.toArray n listed→(listed.toList.countP (fun b=>!b) = c + (l.length - n))→R w.drew W→a.defers = []→a.tmps.size = T.length →
   (∀ s:Nat,(∀ o ∈ l.take n,o.dst ≠ some s)→a.tmps.getD s undef = T.toArray.getD s undef) →
   (∀ i,listed.getD i false = true→φ i (slotOf l.toArray a i) W)→wpAny P .any l.toArray Q (c + (l.length - n)) listed a W:=by
  intro c
  induction c with
  | zero =>
   intro listed a W inv hc hR hdf hts hun hl
   have hsz:listed.size = l.length:=by simpa using inv.size
   have hall:∀ i,i < n→listed.getD i false = true:=by
    intro i hi
    cases hlist:listed.getD i false with
    | true=>rfl
    | false =>
     exfalso
     have h1:listed.toList[i]? = some false:=by
      rw [Array.getElem?_toList]
      rw [Array.getD_eq_getD_getElem?,Array.getElem?_eq_getElem (by omega)] at hlist
      rw [Array.getElem?_eq_getElem (by omega)]
      simpa using hlist
     have h2:=count_set _ _ h1
     have h3:l.length - n ≤ (listed.toList.set i true).countP (fun b=>!b):=by
      have h4:((listed.toList.set i true).drop n).countP (fun b=>!b) = l.length - n:=by
       rw [List.countP_eq_length.2]
       ·simp [hsz]
       ·intro b hb
        obtain ⟨j,hj,hje⟩:=List.getElem_of_mem hb
        rw [List.getElem_drop,List.getElem_set] at hje
        rw [if_neg (by omega)] at hje
        have hj':n + j < listed.size:=by simp at hj;omega
        have h5:=inv.tail (n + j) (by omega) (by simpa [hsz] using hj')
        rw [Array.getD_eq_getD_getElem?,Array.getElem?_eq_getElem hj'] at h5
        simp only [Option.getD_some] at h5
        rw [←hje]
        simp [h5]
      have h5:=List.countP_append (p:=fun b=>!b) (l₁:=(listed.toList.set i true).take n) (l₂:=(listed.toList.set i true).drop n)
      rw [List.take_append_drop] at h5
      omega
     omega
   have hcan:listed = canon n l.length:=canon_of hsz (by omega) hall (fun i h1 h2=>inv.tail i h1 (by simpa using h2))
   have e:=finL_eq (slotOf l.toArray a) a (l.take n) 0 ⟨T.toArray,[]⟩ (by simpa using hts) hdf hun (fun j o d hj hd=>by
    rw [Nat.zero_add];unfold slotOf
    have:l[j]? = some o:=by
     rw [List.getElem?_take] at hj
     split at hj
     ·exact hj
     ·cases hj
    simp [this,hd])
   have hend':=hend (slotOf l.toArray a) W hR (fun i o hi ho=>by
    have h1:=hl i (hall i hi)
    have e2:(if o.dst.isSome then slotOf l.toArray a i else undef) = slotOf l.toArray a i:=by
     split
     ·rfl
     ·rename_i hn
      have hnone:o.dst = none:=by simpa using hn
      unfold slotOf;simp [ho,hnone]
    rw [e2];exact h1)
   rw [←e] at hend'
   have:=wpAny_of_seq (md:=.any) (Q':=Q) (l.drop n) n listed a W (fun j=>by simp [List.getElem?_drop]) (by rw [List.length_drop,hcan];exact hseq) hend'
   rw [List.length_drop] at this
   rwa [Nat.zero_add]
  | succ c ih =>
   intro listed a W inv hc hR hdf hts hun hl
   have hsz:listed.size = l.length:=by simpa using inv.size
   have hex:∃ i,i < n∧listed.getD i true = false:=by
    apply Classical.byContradiction
    intro hno
    have hall:∀ i,i < n→listed.getD i false = true:=by
     intro i hi
     cases h:listed.getD i true with
     | false=>exact absurd ⟨i,hi,h⟩ hno
     | true =>
      rw [Array.getD_eq_getD_getElem?,Array.getElem?_eq_getElem (by omega)] at h ⊢
      exact h
    have hcan:listed = canon n l.length:=canon_of hsz (by omega) hall (fun i h1 h2=>inv.tail i h1 (by simpa using h2))
    rw [hcan] at hc
    simp [canon,List.countP_append,List.countP_replicate] at hc
   have hready:∃ i,i ∈ Region.ready .any l.toArray listed:=by
    obtain ⟨i,hi,hun'⟩:=hex
    induction i using Nat.strongRecOn with
    | _ i ihi =>
     by_cases hd:∀ e ∈ (l[i]'(by omega)).after,Region.binds .any e = true→listed.getD e.on false = true
     ·exact ⟨i,mem_ready.2 ⟨hun',l[i],by simp [show i < l.length by omega],hd⟩⟩
     ·have hd':=Classical.not_forall.1 hd
      obtain ⟨e,he⟩:=hd'
      have he1:=Classical.not_imp.1 he
      have he2:=Classical.not_imp.1 he1.2
      have h4:=haft i (by omega)
      rw [List.getElem?_eq_getElem (show i < l.length by omega)] at h4
      have h5:=List.all_eq_true.1 h4 e (by simpa using he1.1)
      simp only [Bool.or_eq_true,decide_eq_true_eq,he2.1,Bool.not_true,Bool.false_eq_true,or_false] at h5
      refine ihi e.on h5 (by omega) ?_
      have h6:=he2.2
      rw [Array.getD_eq_getD_getElem?,Array.getElem?_eq_getElem (by omega)] at h6 ⊢
      simpa using h6
   rw [show c + 1 + (l.length - n) = (c + (l.length - n)) + 1 by omega]
   refine ⟨fun h0=>(by obtain ⟨i,hi⟩:=hready;rw [h0] at hi;cases hi),fun i hi=>?_⟩
   have hin':i < n:=by
    obtain ⟨k,hk,hkun⟩:=hex
    rcases Nat.lt_or_ge i n with h | h
    ·exact h
    ·exact absurd hi (tail_waits hsink hchain (by simpa using hn) inv _ k rfl hk hkun i h)
   obtain ⟨hfalse,o,ho,hdeps⟩:=mem_ready.1 hi
   have ho':l[i]? = some o:=by simpa using ho
   have hom:o ∈ l:=List.mem_of_getElem? ho'
   have homn:o ∈ l.take n:=by
    apply List.mem_of_getElem? (i:=i)
    rw [List.getElem?_take,if_pos hin'];exact ho'
   have hgn:o.guard = none:=by have:=hg o hom;simpa using this
   simp only [wpOp,ho]
   rw [if_pos (by simp [Region.wanted,hgn])]
   refine .inl (Oper.wp_mono ?_ (hop i o hin' ho' a W hR (fun s hs=>hun s (fun o' ho'=>hs o' (List.mem_of_mem_take ho'))) (fun e he hb=>hl _ (hdeps e (by simpa using he) hb))))
   rintro a' W' ⟨v,rfl,hRW,hφi⟩
   refine ih _ _ _ (inv.set hi hin') ?_ (ht _ _ _ hR hRW) (by rw [put_defers];exact hdf) (by rw [put_size];exact hts) (fun s hs=>by rw [put_other _ _ _ _ (hs o homn)];exact hun s hs) (fun j hj=>?_)
   ·have:=count_set _ _ (getD_false hfalse)
    rw [Array.toList_setIfInBounds]
    omega
   by_cases hij:i = j
   ·subst hij
    have hd:slotOf l.toArray (a.put o.dst v) i = if o.dst.isSome then v else undef:=by
     unfold slotOf
     rw [ho]
     cases hdst:o.dst with
     | none=>simp [hdst]
     | some d =>
      have:=hin o hom
      rw [hdst] at this
      simp only [decide_eq_true_eq] at this
      simp only [Option.bind_some,hdst,Option.isSome_some,if_true]
      exact put_same _ _ _ (by rw [hts];exact this)
    rw [hd];exact hφi
   ·have hj':listed.getD j false = true:=by
     rw [Array.getD_eq_getD_getElem?] at hj ⊢
     rw [Array.getElem?_setIfInBounds,if_neg hij] at hj
     exact hj
    have:=hφ _ _ _ _ (hl j hj') hRW
    have e:slotOf l.toArray (a.put o.dst v) j = slotOf l.toArray a j:=by
     unfold slotOf
     cases hoj:(l.toArray[j]?).bind (·.dst) with
     | none=>rfl
     | some d =>
      simp only
      apply put_other
      intro e
      obtain ⟨oj,hoj1,hoj2⟩:=Option.bind_eq_some_iff.1 hoj
      exact hij (hdist' i j o oj d ho' (by simpa using hoj1) e hoj2)
    rw [e];exact this
 refine wp_region_any hm ?_
 have:=main n (Array.replicate l.toArray.size false) ⟨T.toArray,[]⟩ w.drew
  ⟨by simp,fun j oj _ hl=>(by rw [getD_replicate_false] at hl;cases hl),fun t _ ht=>getD_in (by simpa using ht) (getD_replicate_false _ _)⟩
  (by simp [List.countP_replicate];omega) (hr _) rfl (by simp) (fun _ _=>rfl) (fun i hi=>by rw [getD_replicate_false] at hi;cases hi)
 rw [show n + (l.length - n) = l.toArray.size by simp;omega] at this
 exact this
def heads:List Oper→Nat→(Nat→Oper→Prop)→Prop
 | [],_,_=>True
 | o :: t,i,X=>X i o∧heads t (i + 1) X
theorem heads_at {X:Nat→Oper→Prop}:∀ {l:List Oper} {i:Nat},heads l i X→∀ j o,l[j]? = some o→X (i + j) o
 | [],_,_,j,o,h=>by simp at h
 | o' :: t,i,h,0,o,ho=>by
  simp at ho;subst ho;exact h.1
 | o' :: t,i,h,j + 1,o,ho=>by
  have:=heads_at h.2 j o (by simpa using ho)
  rwa [show i + 1 + j = i + (j + 1) by omega] at this
theorem heads_mono {X Y:Nat→Oper→Prop} (h:∀ i o,X i o→Y i o):∀ {l:List Oper} {i:Nat},heads l i X→heads l i Y
 | [],_,_=>trivial
 | _ :: _,_,hh=>⟨h _ _ hh.1,heads_mono h hh.2⟩
theorem heads_of {X:Nat→Oper→Prop}:∀ {l:List Oper} {i:Nat},(∀ j o,l[j]? = some o→X (i + j) o)→heads l i X
 | [],_,_=>trivial
 | o :: t,i,h=>⟨h 0 o (by simp),heads_of fun j o' hj=>by
   have:=h (j + 1) o' (by simpa using hj)
   rwa [show i + (j + 1) = i + 1 + j by omega] at this⟩
def Later (w w':World):Prop:=Below w.heap.size w w'
theorem Later.rfl' (w:World):Later w w:=.refl _ _
theorem Later.off {w w':World} (h:Later w.drew w'):Below w.heap.size w w':=⟨h.os,h.tape,h.output,h.size,h.block⟩
theorem region_tail' {id:Nat} {l:List Oper} {T:List Value} {w:World} (n:Nat) (hm:P.follows .mixedOrders = true) (hp:plainOps l T.length = true) (htl:tailOk l n = true)
  (φ:Nat→Value→World→Prop) (hφ:∀ i v w w',φ i v w→Later w w'→φ i v w')
  (hop:heads (l.take n) 0 (fun i o=>∀ (a:Act) (W:World),Later w.drew W →
   (∀ s:Nat,(∀ o ∈ l,o.dst ≠ some s)→a.tmps.getD s undef = T.toArray.getD s undef) →
   (∀ e ∈ o.after.toList,Region.binds .any e = true→φ e.on (slotOf l.toArray a e.on) W) →
   o.wp P a W (fun a' W'=>∃ v,a' = a.put o.dst v∧Later W W'∧φ i (if o.dst.isSome then v else undef) W') Q))
  (hend:∀ (vs:Nat→Value) (W:World),Later w.drew W→heads (l.take n) 0 (fun i o=>φ i (if o.dst.isSome then vs i else undef) W)→wpList P l.toArray Q (l.drop n) (finL vs (l.take n) 0 ⟨T.toArray,[]⟩) W) :
  (Code.region id l.toArray true).wp P Q ⟨T.toArray,[]⟩ w:=by
 have tk:∀ (i:Nat) (o:Oper),i < n→l[i]? = some o→(l.take n)[i]? = some o:=fun i o hi ho=>by rw [List.getElem?_take,if_pos hi];exact ho
 refine region_tail n hm hp htl Later (fun _=>.refl _ _) (fun _ _ _ h k=>Below.trans h (Below.mono k h.size)) φ hφ
  (fun i o hi ho=>by have:=heads_at hop i o (tk i o hi ho);rwa [Nat.zero_add] at this)
  (fun vs W hR h=>hend vs W hR (heads_of fun j o hj=>by
   rw [Nat.zero_add]
   rw [List.getElem?_take] at hj
   split at hj
   ·exact h j o (by assumption) hj
   ·cases hj))
end
end Go.Proofs.Ed
