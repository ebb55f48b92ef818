/- A part of the proof of the tied card of FnTimes: Ve, Vd, Lw2, Vh0, Vs2, Vh. -/
import Derived.Test.YtcogfofgmbndjaaGreatDoorProg
import Derived.WalkKit
import Derived.WalkSpells
import Derived.WalkLawsBesides
import Derived.Outline
import Derived.StillTailTactics
import Derived.Test.YtcogfofgmbndjaaGreatDoorTAx
import Derived.Test.YtcogfofgmbndjaaGreatDoorTAw
set_option maxRecDepth 100000
set_option maxHeartbeats 40000000
namespace Go.Proofs.Ed
open Go.RowKit
theorem bit1_v {n i:Nat} {w:World} (hi:i < 512) (h:Hd (n / 2 ^ i % 2 = 1)):Calls Tryz.prog 28 #[.agg (nl n).toArray,.int .i64 i] w (fun e w'=>e = .returned (.int .i64 1)∧Below w.heap.size w w'):=by
 have:=bit_v (n:=n) (w:=w) hi
 rwa [h.out] at this
theorem bit0_v {n i:Nat} {w:World} (hi:i < 512) (h:Hd (n / 2 ^ i % 2 = 0)):Calls Tryz.prog 28 #[.agg (nl n).toArray,.int .i64 i] w (fun e w'=>e = .returned (.int .i64 0)∧Below w.heap.size w w'):=by
 have:=bit_v (n:=n) (w:=w) hi
 rwa [h.out] at this
theorem pw_step (e k:Nat):e / 2 ^ k = 2 * (e / 2 ^ (k + 1)) + e / 2 ^ k % 2:=by
 rw [Nat.pow_succ,←Nat.div_div_eq_div_mul];omega
theorem pow_bit1 {a f:F} {e k:Nat} (h:Hd (f = pow a (e / 2 ^ (k + 1)))) (hb:Hd (e / 2 ^ k % 2 = 1)):f * f * a = pow a (e / 2 ^ k):=by
 rw [pw_step e k,hb.out,pow_add,pow_one,Nat.two_mul,pow_add,h.out]
theorem pow_bit0 {a f:F} {e k:Nat} (h:Hd (f = pow a (e / 2 ^ (k + 1)))) (hb:Hd (e / 2 ^ k % 2 = 0)):f * f = pow a (e / 2 ^ k):=by
 rw [pw_step e k,hb.out,Nat.add_zero,Nat.two_mul,pow_add,h.out]
theorem bit_cases (e k:Nat):e / 2 ^ k % 2 = 1∨e / 2 ^ k % 2 = 0:=by omega
theorem pow_v {a c:F} {e:Nat} {w:World} (he:e < 115792089237316195423570985008687907853269984665640564039457584007913129639936) (h:Hd (c = pow a e)):Calls Tryz.prog 70 #[.agg (fl a).toArray,.agg (nl e).toArray] w (fun e w'=>e = .returned (.agg (fl c).toArray)∧Below w.heap.size w w'):=by
 have h256:Hd ((1:F) = pow a (e / 2 ^ 256)):=hd (by rw [Nat.div_eq_of_lt (Nat.lt_of_lt_of_le he (by decide)),pow_zero])
 clear he
 have C:Chg R0 w w:=.refl _ _
 go_enter Tryz.func70,Tryz.ntmps70
 go_wp2_with fail
 obtain ⟨n1,ln1⟩:∃ n,w.heap.size = n:=⟨_,rfl⟩
 rw [ln1]
 have hb:=aB [Obj.cells (fl a).toArray 25,Obj.cells (nl e).toArray 25,Obj.cells (List.replicate 16 (.int .u32 0)).toArray 25] w
 have zn1:w.heap.size ≤ n1:=ln1 ▸ C.size
 replace C:=C.trans (Chg.of_below hb)
 have H1:=aH [Obj.cells (fl a).toArray 25,Obj.cells (nl e).toArray 25,Obj.cells (List.replicate 16 (.int .u32 0)).toArray 25] w 0 _ _ rfl
 rw [ln1] at H1
 simp only [Nat.add_zero] at H1
 have H2:=aH [Obj.cells (fl a).toArray 25,Obj.cells (nl e).toArray 25,Obj.cells (List.replicate 16 (.int .u32 0)).toArray 25] w 1 _ _ rfl
 rw [ln1] at H2
 have H3:=(aH [Obj.cells (fl a).toArray 25,Obj.cells (nl e).toArray 25,Obj.cells (List.replicate 16 (.int .u32 0)).toArray 25] w 2 _ _ rfl).room (n:=16) rfl
 rw [ln1] at H3
 refine cG (fun W=>Chg R0 w W∧Has W n1 0 (fl a)∧Has W (n1 + 1) 0 (nl e)∧Room W (n1 + 2) 0 16) ⟨C,H1,H2,H3⟩ ?_
 clear C H1 H2 H3 hb ln1
 rintro W ⟨C,H1,H2,H3⟩
 refine (small_f (x:=1) (f:=1) (by omega) (by decide) (by decide +kernel)).mono ?_
 rintro e W ⟨rfl,hb⟩
 replace C:=C.trans (Chg.of_below hb)
 replace H1:=H1.later hb
 replace H2:=H2.later hb
 replace H3:=H3.later hb
 clear hb
 repeat ((fail_if_success with_reducible refine ss 25 ?_);first | go_step | dsimp only)
 obtain ⟨n2,ln2⟩:∃ n,W.heap.size = n:=⟨_,rfl⟩
 rw [ln2]
 have hb:=aB [Obj.cells (List.replicate 16 (.int .u32 0)).toArray 25] W
 have zn2:w.heap.size ≤ n2:=ln2 ▸ C.size
 have y4:n1 < n2:=ln2 ▸ H1.lt (by rw [fL];decide)
 have y5:n1 + 1 < n2:=ln2 ▸ H2.lt (by rw [nL];decide)
 have y6:n1 + 2 < n2:=ln2 ▸ H3.lt (by decide)
 replace C:=C.trans (Chg.of_below hb)
 replace H1:=H1.later hb
 replace H2:=H2.later hb
 replace H3:=H3.later hb
 have H7:=(aH [Obj.cells (List.replicate 16 (.int .u32 0)).toArray 25] W 0 _ _ rfl).room (n:=16) rfl
 rw [ln2] at H7
 simp only [Nat.add_zero] at H7
 refine pG (fun W=>Chg R0 w W∧Has W n1 0 (fl a)∧Has W (n1 + 1) 0 (nl e)∧Room W (n1 + 2) 0 16∧Room W n2 0 16) ⟨C,H1,H2,H3,H7⟩ ?_
 clear C H1 H2 H3 H7 hb ln2
 rintro W ⟨C,H1,H2,H3,H7⟩
 refine wS (b:=n2) (o:=0) (vs:=fl 1) rfl rfl H7 (fL _) (fl_one _) size25 ?_
 simp only [Act.put]
 have hc:Chg (Rg n2 0 16) W (World.setCells W n2 0 (fl 1)):=by have:=putL_chg (w:=W) (b:=n2) (o:=0) (vs:=fl 1);rwa [show (fl 1).length = 16 from (fL _)] at this
 have H8:=putL_has (w:=W) (b:=n2) (o:=0) (vs:=fl 1) (by rw [show (fl 1).length = 16 from (fL _)];exact H7)
 replace C:=C.loc hc (by omega)
 replace H1:=H1.keep hc oa
 replace H2:=H2.keep hc oa
 replace H3:=hc.room H3
 clear H7
 clear hc
 refine pG (fun W=>Chg R0 w W∧Has W n1 0 (fl a)∧Has W (n1 + 1) 0 (nl e)∧Room W (n1 + 2) 0 16∧Has W n2 0 (fl 1)) ⟨C,H1,H2,H3,H8⟩ ?_
 clear C H1 H2 H3 H8
 rintro W ⟨C,H1,H2,H3,H8⟩
 go_wp2_with fail
 go_loopw [6] (fun i W=>∃ (k:Nat) (f:F),k ≤ 256∧i = .int .i64 ((k:Int) - 1)∧Hd (f = pow a (e / 2 ^ k))∧Chg R0 w W∧Has W n1 0 (fl a)∧Has W (n1 + 1) 0 (nl e)∧Room W (n1 + 2) 0 16∧Has W n2 0 (fl f)) (fun i _=>(intOf i + 1).toNat)
 case atStart=>exact ⟨256,1,by omega,rfl,h256,C,H1,H2,H3,H8⟩
 case round =>
  clear h256 C H1 H2 H3 H8
  obtain ⟨k,f,hk,rfl,hf,C,H1,H2,H3,H8⟩:=hrel
  cases k with
  | zero =>
   repeat ((fail_if_success with_reducible refine sl 25 ?_);first | go_step | dsimp only)
   refine wL (b:=n2) (o:=0) rfl H8 (fL _) agg25 size25 ?_
   simp only [Act.put,iA,iB,iC]
   repeat ((fail_if_success with_reducible refine ss 25 ?_);first | go_step | dsimp only)
   refine wS (b:=n1 + 2) (o:=0) (vs:=fl f) rfl rfl H3 (fL _) (fl_one _) size25 ?_
   simp only [Act.put]
   have hc:Chg (Rg (n1 + 2) 0 16) wr (World.setCells wr (n1 + 2) 0 (fl f)):=by have:=putL_chg (w:=wr) (b:=n1 + 2) (o:=0) (vs:=fl f);rwa [show (fl f).length = 16 from (fL _)] at this
   have H9:=putL_has (w:=wr) (b:=n1 + 2) (o:=0) (vs:=fl f) (by rw [show (fl f).length = 16 from (fL _)];exact H3)
   replace C:=C.loc hc (by omega)
   replace H1:=H1.keep hc oa
   replace H2:=H2.keep hc oa
   clear H3
   replace H8:=H8.keep hc oa
   clear hc
   refine pG (fun W=>Chg R0 w W∧Has W n1 0 (fl a)∧Has W (n1 + 1) 0 (nl e)∧Has W n2 0 (fl f)∧Has W (n1 + 2) 0 (fl f)) ⟨C,H1,H2,H8,H9⟩ ?_
   clear C H1 H2 H8 H9
   rintro W ⟨C,H1,H2,H8,H9⟩
   go_wp2_with fail
   exact ret_cell (b:=n1 + 2) (o:=0) Tryz.results70 rfl H9 (fL _) agg25 size25 rfl ⟨by rw [h.out,show pow a e = f by rw [hf.out];simp],C.r0⟩
  | succ k =>
   rw [show (((k + 1:Nat):Int) - 1) = k by omega]
   rcases bit_cases e k with hb | hb
   ·replace hb:=hd hb
    repeat ((fail_if_success with_reducible refine sl 25 ?_);first | go_step | dsimp only)
    refine wL (b:=n2) (o:=0) rfl H8 (fL _) agg25 size25 ?_
    simp only [Act.put,iA,iB,iC]
    repeat ((fail_if_success with_reducible refine sl 25 ?_);first | go_step | dsimp only)
    refine wL (b:=n2) (o:=0) rfl H8 (fL _) agg25 size25 ?_
    simp only [Act.put,iA,iB,iC]
    obtain ⟨f1,qf1⟩:∃ g:F,g = f * f:=⟨_,rfl⟩
    replace qf1:=hd qf1
    go_wp2_with fail
    refine (mul_v qf1).mono ?_
    rintro e W ⟨rfl,hb⟩
    replace C:=C.trans (Chg.of_below hb)
    replace H1:=H1.later hb
    replace H2:=H2.later hb
    replace H3:=H3.later hb
    replace H8:=H8.later hb
    clear hb
    repeat ((fail_if_success with_reducible refine ss 25 ?_);first | go_step | dsimp only)
    refine wS (b:=n2) (o:=0) (vs:=fl f1) rfl rfl (H8.room (fL _)) (fL _) (fl_one _) size25 ?_
    simp only [Act.put]
    have hc:Chg (Rg n2 0 16) W (World.setCells W n2 0 (fl f1)):=by have:=putL_chg (w:=W) (b:=n2) (o:=0) (vs:=fl f1);rwa [show (fl f1).length = 16 from (fL _)] at this
    have H9:=putL_has (w:=W) (b:=n2) (o:=0) (vs:=fl f1) (by rw [show (fl f1).length = 16 from (fL _)];exact (H8.room (fL _)))
    replace C:=C.loc hc (by omega)
    replace H1:=H1.keep hc oa
    replace H2:=H2.keep hc oa
    replace H3:=hc.room H3
    clear H8
    clear hc
    refine pG (fun W=>Chg R0 w W∧Has W n1 0 (fl a)∧Has W (n1 + 1) 0 (nl e)∧Room W (n1 + 2) 0 16∧Has W n2 0 (fl f1)) ⟨C,H1,H2,H3,H9⟩ ?_
    clear C H1 H2 H3 H9
    rintro W ⟨C,H1,H2,H3,H9⟩
    repeat ((fail_if_success with_reducible refine sl 25 ?_);first | go_step | dsimp only)
    refine wL (b:=n1 + 1) (o:=0) rfl H2 (nL _) agg25 size25 ?_
    simp only [Act.put,iA,iB,iC]
    go_wp2_with fail
    refine (bit1_v (by omega) hb).mono ?_
    rintro e W ⟨rfl,hb⟩
    replace C:=C.trans (Chg.of_below hb)
    replace H1:=H1.later hb
    replace H2:=H2.later hb
    replace H3:=H3.later hb
    replace H9:=H9.later hb
    clear hb
    repeat ((fail_if_success with_reducible refine sl 25 ?_);first | go_step | dsimp only)
    refine wL (b:=n2) (o:=0) rfl H9 (fL _) agg25 size25 ?_
    simp only [Act.put,iA,iB,iC]
    repeat ((fail_if_success with_reducible refine sl 25 ?_);first | go_step | dsimp only)
    refine wL (b:=n1) (o:=0) rfl H1 (fL _) agg25 size25 ?_
    simp only [Act.put,iA,iB,iC]
    obtain ⟨f2,qf2⟩:∃ g:F,g = f1 * a:=⟨_,rfl⟩
    replace qf2:=hd qf2
    go_wp2_with fail
    refine (mul_v qf2).mono ?_
    rintro e W ⟨rfl,hb⟩
    replace C:=C.trans (Chg.of_below hb)
    replace H1:=H1.later hb
    replace H2:=H2.later hb
    replace H3:=H3.later hb
    replace H9:=H9.later hb
    clear hb
    repeat ((fail_if_success with_reducible refine ss 25 ?_);first | go_step | dsimp only)
    refine wS (b:=n2) (o:=0) (vs:=fl f2) rfl rfl (H9.room (fL _)) (fL _) (fl_one _) size25 ?_
    simp only [Act.put]
    have hc:Chg (Rg n2 0 16) W (World.setCells W n2 0 (fl f2)):=by have:=putL_chg (w:=W) (b:=n2) (o:=0) (vs:=fl f2);rwa [show (fl f2).length = 16 from (fL _)] at this
    have H10:=putL_has (w:=W) (b:=n2) (o:=0) (vs:=fl f2) (by rw [show (fl f2).length = 16 from (fL _)];exact (H9.room (fL _)))
    replace C:=C.loc hc (by omega)
    replace H1:=H1.keep hc oa
    replace H2:=H2.keep hc oa
    replace H3:=hc.room H3
    clear H9
    clear hc
    refine pG (fun W=>Chg R0 w W∧Has W n1 0 (fl a)∧Has W (n1 + 1) 0 (nl e)∧Room W (n1 + 2) 0 16∧Has W n2 0 (fl f2)) ⟨C,H1,H2,H3,H10⟩ ?_
    clear C H1 H2 H3 H10
    rintro W ⟨C,H1,H2,H3,H10⟩
    go_wp2_with fail
    exact ⟨⟨k,f2,by omega,rfl,hd (by rw [qf2.out,qf1.out,pow_bit1 hf hb]),C,H1,H2,H3,H10⟩,by simp [intOf]⟩
   ·replace hb:=hd hb
    repeat ((fail_if_success with_reducible refine sl 25 ?_);first | go_step | dsimp only)
    refine wL (b:=n2) (o:=0) rfl H8 (fL _) agg25 size25 ?_
    simp only [Act.put,iA,iB,iC]
    repeat ((fail_if_success with_reducible refine sl 25 ?_);first | go_step | dsimp only)
    refine wL (b:=n2) (o:=0) rfl H8 (fL _) agg25 size25 ?_
    simp only [Act.put,iA,iB,iC]
    obtain ⟨f1,qf1⟩:∃ g:F,g = f * f:=⟨_,rfl⟩
    replace qf1:=hd qf1
    go_wp2_with fail
    refine (mul_v qf1).mono ?_
    rintro e W ⟨rfl,hb⟩
    replace C:=C.trans (Chg.of_below hb)
    replace H1:=H1.later hb
    replace H2:=H2.later hb
    replace H3:=H3.later hb
    replace H8:=H8.later hb
    clear hb
    repeat ((fail_if_success with_reducible refine ss 25 ?_);first | go_step | dsimp only)
    refine wS (b:=n2) (o:=0) (vs:=fl f1) rfl rfl (H8.room (fL _)) (fL _) (fl_one _) size25 ?_
    simp only [Act.put]
    have hc:Chg (Rg n2 0 16) W (World.setCells W n2 0 (fl f1)):=by have:=putL_chg (w:=W) (b:=n2) (o:=0) (vs:=fl f1);rwa [show (fl f1).length = 16 from (fL _)] at this
    have H9:=putL_has (w:=W) (b:=n2) (o:=0) (vs:=fl f1) (by rw [show (fl f1).length = 16 from (fL _)];exact (H8.room (fL _)))
    replace C:=C.loc hc (by omega)
    replace H1:=H1.keep hc oa
    replace H2:=H2.keep hc oa
    replace H3:=hc.room H3
    clear H8
    clear hc
    refine pG (fun W=>Chg R0 w W∧Has W n1 0 (fl a)∧Has W (n1 + 1) 0 (nl e)∧Room W (n1 + 2) 0 16∧Has W n2 0 (fl f1)) ⟨C,H1,H2,H3,H9⟩ ?_
    clear C H1 H2 H3 H9
    rintro W ⟨C,H1,H2,H3,H9⟩
    repeat ((fail_if_success with_reducible refine sl 25 ?_);first | go_step | dsimp only)
    refine wL (b:=n1 + 1) (o:=0) rfl H2 (nL _) agg25 size25 ?_
    simp only [Act.put,iA,iB,iC]
    go_wp2_with fail
    refine (bit0_v (by omega) hb).mono ?_
    rintro e W ⟨rfl,hb⟩
    replace C:=C.trans (Chg.of_below hb)
    replace H1:=H1.later hb
    replace H2:=H2.later hb
    replace H3:=H3.later hb
    replace H9:=H9.later hb
    clear hb
    go_wp2_with fail
    exact ⟨⟨k,f1,by omega,rfl,hd (by rw [qf1.out,pow_bit0 hf hb]),C,H1,H2,H3,H9⟩,by simp [intOf]⟩
open Go.RowKit
theorem mod_step {a m r k b:Nat} (h:r = a / 2 ^ (k + 1) % m) (hb:a / 2 ^ k % 2 = b):(r + r + b) % m = a / 2 ^ k % m:=by
 rw [pw_step a k,hb,h]
 rw [show a / 2 ^ (k + 1) % m + a / 2 ^ (k + 1) % m + b = 2 * (a / 2 ^ (k + 1) % m) + b by omega,Nat.add_mod,Nat.mul_mod_mod,←Nat.add_mod]
theorem mod_less {x m:Nat} (h:x < m):x = x % m:=(Nat.mod_eq_of_lt h).symm
theorem mod_sub {x m:Nat} (h:¬ x < m) (h2:x < 2 * m):x - m = x % m:=by
 rw [Nat.mod_eq_sub_mod (by omega),Nat.mod_eq_of_lt (by omega)]
theorem or_bit {x b:Nat} (hb:b < 2) (hx:2 * x < 4294967296):bits BinOp.or IntKind.u32 ((2 * x:Nat):Int) (b:Int) = ((2 * x + b:Nat):Int):=by
 rw [u32_or_nat _ _ (by omega) (by omega)]
 congr 1
 have:=Nat.shiftLeft_add_eq_or_of_lt (a:=x) (b:=b) (i:=1) (by omega)
 rw [Nat.shiftLeft_eq] at this
 rw [show 2 * x = x * 2 ^ 1 by omega,←this]
theorem low_bit {r b:Nat} (hb:b < 2):(nl (r + r)).set 0 (.int .u32 ((2 * (r % 2147483648) + b:Nat):Int)) = nl (r + r + b):=by
 unfold nl
 rw [lst_set]
 apply lst_congr
 intro j _
 unfold updN
 by_cases h:j = 0
 ·subst h
  rw [if_pos rfl]
  unfold dig
  rw [show 32 * 0 = 0 from rfl,Nat.pow_zero,Nat.div_one]
  omega
 ·rw [if_neg h]
  unfold dig
  obtain ⟨t,ht⟩:∃ t,32 * j = 1 + t:=⟨32 * j - 1,by omega⟩
  rw [ht,Nat.pow_add,←Nat.div_div_eq_div_mul,←Nat.div_div_eq_div_mul,show (r + r) / 2 ^ 1 = r by omega,show (r + r + b) / 2 ^ 1 = r by omega]
theorem dig0 (r:Nat):dig (r + r) 0 = 2 * (r % 2147483648):=by
 unfold dig
 rw [show 32 * 0 = 0 from rfl,Nat.pow_zero,Nat.div_one]
 omega
theorem less_w {a b:Nat} {w:World} (ha:a < 13407807929942597099574024998205846127479365820592393377723561443721764030073546976801874298166903427690031858186486050853753882811946569946433649006084096) (hb:b < 13407807929942597099574024998205846127479365820592393377723561443721764030073546976801874298166903427690031858186486050853753882811946569946433649006084096):Calls Tryz.prog 39 #[.agg (nl a).toArray,.agg (nl b).toArray] w (fun e w'=>e = .returned (.bool (decide (a < b)))∧Below w.heap.size w w') :=
 less_v (by rw [pow_512];exact ha) (by rw [pow_512];exact hb)
theorem less_t {a b:Nat} {w:World} (ha:a < 13407807929942597099574024998205846127479365820592393377723561443721764030073546976801874298166903427690031858186486050853753882811946569946433649006084096) (hb:b < 13407807929942597099574024998205846127479365820592393377723561443721764030073546976801874298166903427690031858186486050853753882811946569946433649006084096) (h:Hd (a < b)):Calls Tryz.prog 39 #[.agg (nl a).toArray,.agg (nl b).toArray] w (fun e w'=>e = .returned (.bool true)∧Below w.heap.size w w'):=by
 have:=less_w (w:=w) ha hb
 rwa [show decide (a < b) = true by rw [decide_eq_true_iff];exact h.out] at this
theorem less_n {a b:Nat} {w:World} (ha:a < 13407807929942597099574024998205846127479365820592393377723561443721764030073546976801874298166903427690031858186486050853753882811946569946433649006084096) (hb:b < 13407807929942597099574024998205846127479365820592393377723561443721764030073546976801874298166903427690031858186486050853753882811946569946433649006084096) (h:Hd (¬ a < b)):Calls Tryz.prog 39 #[.agg (nl a).toArray,.agg (nl b).toArray] w (fun e w'=>e = .returned (.bool false)∧Below w.heap.size w w'):=by
 have:=less_w (w:=w) ha hb
 rwa [show decide (a < b) = false by rw [decide_eq_false_iff_not];exact h.out] at this
theorem mod_v {a m c:Nat} {w:World} (hm:0 < m) (hm2:m < 115792089237316195423570985008687907853269984665640564039457584007913129639936) (ha:a < 13407807929942597099574024998205846127479365820592393377723561443721764030073546976801874298166903427690031858186486050853753882811946569946433649006084096) (h:Hd (c = a % m)):Calls Tryz.prog 18 #[.agg (nl a).toArray,.agg (nl m).toArray] w (fun e w'=>e = .returned (.agg (nl c).toArray)∧Below w.heap.size w w'):=by
 have hm:=hd hm
 have hm2:=hd hm2
 have h512:Hd (0 = a / 2 ^ 512 % m):=hd (by rw [Nat.div_eq_of_lt (by rw [pow_512];exact ha),Nat.zero_mod])
 clear ha
 have C:Chg R0 w w:=.refl _ _
 go_enter Tryz.func18,Tryz.ntmps18
 go_wp2_with fail
 obtain ⟨n1,ln1⟩:∃ n,w.heap.size = n:=⟨_,rfl⟩
 rw [ln1]
 have hb:=aB [Obj.cells (nl a).toArray 25,Obj.cells (nl m).toArray 25,Obj.cells (List.replicate 16 (.int .u32 0)).toArray 25,Obj.cells (List.replicate 16 (.int .u32 0)).toArray 25] w
 have zn1:w.heap.size ≤ n1:=ln1 ▸ C.size
 replace C:=C.trans (Chg.of_below hb)
 have H1:=aH [Obj.cells (nl a).toArray 25,Obj.cells (nl m).toArray 25,Obj.cells (List.replicate 16 (.int .u32 0)).toArray 25,Obj.cells (List.replicate 16 (.int .u32 0)).toArray 25] w 0 _ _ rfl
 rw [ln1] at H1
 simp only [Nat.add_zero] at H1
 have H2:=aH [Obj.cells (nl a).toArray 25,Obj.cells (nl m).toArray 25,Obj.cells (List.replicate 16 (.int .u32 0)).toArray 25,Obj.cells (List.replicate 16 (.int .u32 0)).toArray 25] w 1 _ _ rfl
 rw [ln1] at H2
 have H3:=(aH [Obj.cells (nl a).toArray 25,Obj.cells (nl m).toArray 25,Obj.cells (List.replicate 16 (.int .u32 0)).toArray 25,Obj.cells (List.replicate 16 (.int .u32 0)).toArray 25] w 2 _ _ rfl).room (n:=16) rfl
 rw [ln1] at H3
 have H4:=aH [Obj.cells (nl a).toArray 25,Obj.cells (nl m).toArray 25,Obj.cells (List.replicate 16 (.int .u32 0)).toArray 25,Obj.cells (List.replicate 16 (.int .u32 0)).toArray 25] w 3 _ _ rfl
 rw [ln1] at H4
 refine wp_gen (fun W=>Chg R0 w W∧Has W n1 0 (nl a)∧Has W (n1 + 1) 0 (nl m)∧Room W (n1 + 2) 0 16∧Has W (n1 + 3) 0 z0) ⟨C,H1,H2,H3,H4⟩ ?_
 clear C H1 H2 H3 H4 hb ln1
 rintro W ⟨C,H1,H2,H3,H4⟩
 replace H4:Has W (n1 + 3) 0 (nl 0):=by rw [nl_zero];exact H4
 go_loopw [6] (fun i W=>∃ (k r:Nat),k ≤ 512∧i = .int .i64 ((k:Int) - 1)∧Hd (r = a / 2 ^ k % m)∧Chg R0 w W∧Has W n1 0 (nl a)∧Has W (n1 + 1) 0 (nl m)∧Room W (n1 + 2) 0 16∧Has W (n1 + 3) 0 (nl r)) (fun i _=>(intOf i + 1).toNat)
 case atStart=>exact ⟨512,0,by omega,rfl,h512,C,H1,H2,H3,H4⟩
 case round =>
  clear h512 C H1 H2 H3 H4
  obtain ⟨k,r,hk,rfl,hf,C,H1,H2,H3,H4⟩:=hrel
  have rm:=hd (show r < m by rw [hf.out];exact Nat.mod_lt _ hm.out)
  cases k with
  | zero =>
   repeat ((fail_if_success with_reducible refine sl 25 ?_);first | go_step | dsimp only)
   refine wL (b:=n1 + 3) (o:=0) rfl H4 (nL _) agg25 size25 ?_
   simp only [Act.put,iA,iB,iC]
   repeat ((fail_if_success with_reducible refine ss 25 ?_);first | go_step | dsimp only)
   refine wS (b:=n1 + 2) (o:=0) (vs:=nl r) rfl rfl H3 (nL _) (nl_one _) size25 ?_
   simp only [Act.put]
   have hc:Chg (Rg (n1 + 2) 0 16) wr (World.setCells wr (n1 + 2) 0 (nl r)):=by have:=putL_chg (w:=wr) (b:=n1 + 2) (o:=0) (vs:=nl r);rwa [show (nl r).length = 16 from (nL _)] at this
   have H5:=putL_has (w:=wr) (b:=n1 + 2) (o:=0) (vs:=nl r) (by rw [show (nl r).length = 16 from (nL _)];exact H3)
   replace C:=C.loc hc (by omega)
   replace H1:=H1.keep hc oa
   replace H2:=H2.keep hc oa
   clear H3
   replace H4:=H4.keep hc oa
   clear hc
   refine pG (fun W=>Chg R0 w W∧Has W n1 0 (nl a)∧Has W (n1 + 1) 0 (nl m)∧Has W (n1 + 3) 0 (nl r)∧Has W (n1 + 2) 0 (nl r)) ⟨C,H1,H2,H4,H5⟩ ?_
   clear C H1 H2 H4 H5
   rintro W ⟨C,H1,H2,H4,H5⟩
   go_wp2_with fail
   exact ret_cell (b:=n1 + 2) (o:=0) Tryz.results18 rfl H5 (nL _) agg25 size25 rfl ⟨by rw [h.out,show a % m = r by rw [hf.out];simp],C.r0⟩
  | succ k =>
   rw [show (((k + 1:Nat):Int) - 1) = k by omega]
   obtain ⟨b,hb⟩:∃ b,a / 2 ^ k % 2 = b:=⟨_,rfl⟩
   have b2:b < 2:=by omega
   have ms:=hd (mod_step hf.out hb)
   have bit:=fun w=>bit_v (n:=a) (i:=k) (w:=w) (by omega)
   rw [hb] at bit
   replace hb:=hd hb
   repeat ((fail_if_success with_reducible refine sl 25 ?_);first | go_step | dsimp only)
   refine wL (b:=n1 + 3) (o:=0) rfl H4 (nL _) agg25 size25 ?_
   simp only [Act.put,iA,iB,iC]
   repeat ((fail_if_success with_reducible refine sl 25 ?_);first | go_step | dsimp only)
   refine wL (b:=n1 + 3) (o:=0) rfl H4 (nL _) agg25 size25 ?_
   simp only [Act.put,iA,iB,iC]
   go_wp2_with fail
   refine (plus_w (by have:=rm.out;have:=hm2.out;omega) (hd rfl)).mono ?_
   rintro e W ⟨rfl,hb⟩
   replace C:=C.trans (Chg.of_below hb)
   replace H1:=H1.later hb
   replace H2:=H2.later hb
   replace H3:=H3.later hb
   replace H4:=H4.later hb
   clear hb
   repeat ((fail_if_success with_reducible refine ss 25 ?_);first | go_step | dsimp only)
   refine wS (b:=n1 + 3) (o:=0) (vs:=nl (r + r)) rfl rfl (H4.room (nL _)) (nL _) (nl_one _) size25 ?_
   simp only [Act.put]
   have hc:Chg (Rg (n1 + 3) 0 16) W (World.setCells W (n1 + 3) 0 (nl (r + r))):=by have:=putL_chg (w:=W) (b:=n1 + 3) (o:=0) (vs:=nl (r + r));rwa [show (nl (r + r)).length = 16 from (nL _)] at this
   have H5:=putL_has (w:=W) (b:=n1 + 3) (o:=0) (vs:=nl (r + r)) (by rw [show (nl (r + r)).length = 16 from (nL _)];exact (H4.room (nL _)))
   replace C:=C.loc hc (by omega)
   replace H1:=H1.keep hc oa
   replace H2:=H2.keep hc oa
   replace H3:=hc.room H3
   clear H4
   clear hc
   refine pG (fun W=>Chg R0 w W∧Has W n1 0 (nl a)∧Has W (n1 + 1) 0 (nl m)∧Room W (n1 + 2) 0 16∧Has W (n1 + 3) 0 (nl (r + r))) ⟨C,H1,H2,H3,H5⟩ ?_
   clear C H1 H2 H3 H5
   rintro W ⟨C,H1,H2,H3,H5⟩
   go_wp2_with fail
   have cO:=H5.cellD (i:=0) (by decide)
   have b2i:(b:Int) < 2:=by omega
   rw [Nat.zero_add,dig0] at cO
   have ob:=or_bit (x:=r % 2147483648) b2 (by omega)
   have lb:=hd (low_bit (r:=r) b2)
   obtain ⟨d,qd⟩:∃ d,2 * (r % 2147483648) = d:=⟨_,rfl⟩
   rw [qd] at cO ob lb
   clear qd
   refine region_fresh 8 [] (by kernel_rfl) (by kernel_rfl) (by kernel_rfl)
    (fun i v W=>match i with
     | 0=>v = Ptr (n1 + 3) 0
     | 1=>v = .int .u32 (d:Nat)
     | 2=>v = .agg (nl a).toArray
     | 3=>v = .int .i64 k
     | 4=>v = .int .i64 (b:Nat)
     | 5=>v = .int .u32 (b:Nat)
     | 6=>v = .int .u32 ((d + b:Nat):Int)
     | 7=>v = Ptr (n1 + 3) 0
     | _=>True) ?_ ?_ ?_
   ·intro i v u u' h hb
    split at h<;>exact h
   ·simp only [List.take_succ_cons,List.take_zero,heads]
    refine ⟨?_,?_,?_,?_,?_,?_,?_,?_,trivial⟩
    ·intro a1 W1 hR hun hdep
     have t5:=hun 5 (by simp)
     simp at t5
     clear hun hdep
     go_simp
     exact Later.rfl' _
    ·intro a1 W1 hR hun hdep
     have d14:=hdep ⟨0,.data⟩ (by simp) rfl
     simp [slotOf] at d14
     have cW:W1.cell? ⟨n1 + 3,0,none⟩ = some (.int .u32 (d:Nat)):=((H5.later hR.off) 0 (by rw [nL];decide)).1.trans ((H5 0 (by rw [nL];decide)).1.symm.trans cO.1)
     clear hun hdep
     go_simp
     exact Later.rfl' _
    ·intro a1 W1 hR hun hdep
     have t2:=hun 2 (by simp)
     simp at t2
     clear hun hdep
     exact opw_load (b:=n1) (o:=0) (by show a1.tmps.getD 2 undef = _;rw [Array.getD_eq_getD_getElem?];exact t2) (Has.later H1 hR.off) (nL _) agg25 size25 ⟨_,rfl,Later.rfl' _,rfl,(fun h=>absurd h (by decide))⟩
    ·intro a1 W1 hR hun hdep
     have t6:=hun 6 (by simp)
     simp at t6
     clear hun hdep
     go_simp
     exact Later.rfl' _
    ·intro a1 W1 hR hun hdep
     have d16:=hdep ⟨2,.data⟩ (by simp) rfl
     have d17:=hdep ⟨3,.data⟩ (by simp) rfl
     simp [slotOf] at d16
     simp [slotOf] at d17
     clear hun hdep
     go_simp
     refine (bit _).mono ?_
     rintro e W2 ⟨rfl,hb⟩
     first | exact hb | exact ⟨rfl,hb⟩
    ·intro a1 W1 hR hun hdep
     have d18:=hdep ⟨4,.data⟩ (by simp) rfl
     simp [slotOf] at d18
     clear hun hdep
     have wb:IntKind.u32.wrap (b:Int) = b:=by rw [wrap_u32];omega
     go_simp
     first | exact Later.rfl' _ | exact ⟨by rw [wb],Later.rfl' _⟩
    ·intro a1 W1 hR hun hdep
     have d15:=hdep ⟨1,.data⟩ (by simp) rfl
     have d19:=hdep ⟨5,.data⟩ (by simp) rfl
     simp [slotOf] at d15
     simp [slotOf] at d19
     clear hun hdep
     go_simp
     first | exact Later.rfl' _ | exact ⟨by rw [ob];push_cast;rfl,Later.rfl' _⟩
    ·intro a1 W1 hR hun hdep
     have t5:=hun 5 (by simp)
     simp at t5
     clear hun hdep
     go_simp
     exact Later.rfl' _
   ·intro vs W1 hR hv hfr
    simp only [List.take_succ_cons,List.take_zero,List.drop_succ_cons,List.drop_zero,heads,Option.isSome_some,if_true] at hv ⊢
    obtain ⟨v0,v1,v2,v3,v4,v5,v6,v7,-⟩:=hv
    simp only [finL,Act.put,v0,v1,v2,v3,v4,v5,v6,v7]
    simp only [iA,iB,iC]
    replace hR:=hR.off
    replace C:=C.trans (Chg.of_below hR)
    replace H1:=H1.later hR
    replace H2:=H2.later hR
    replace H3:=H3.later hR
    replace H5:=H5.later hR
    clear hR hfr v0 v1 v2 v3 v4 v5 v6 v7
    have cO:=H5.cellD (i:=0) (by decide)
    rw [Nat.zero_add] at cO
    have h1:=H5.set 0 (by omega:0 = 0 + 0) (.int .u32 ((d + b:Nat):Int))
    rw [lb.out] at h1
    replace h1:=hd h1
    repeat ((fail_if_success with_reducible refine sl 25 ?_);first | go_step | dsimp only)
    refine pG (fun W=>Chg R0 w W∧Has W n1 0 (nl a)∧Has W (n1 + 1) 0 (nl m)∧Room W (n1 + 2) 0 16∧Has W (n1 + 3) 0 (nl (r + r + b))) ⟨C.setCell _ (fun h=>absurd h (Nat.not_lt.2 (by omega))),H1.off _ (fun e=>by omega),H2.off _ (fun e=>by omega),(Chg.set1 _ _ _ _).room H3,h1.out⟩ ?_
    clear h1 cO C H1 H2 H3 H5
    rintro W ⟨C,H1,H2,H3,H5⟩
    have xb:r + r + b < 13407807929942597099574024998205846127479365820592393377723561443721764030073546976801874298166903427690031858186486050853753882811946569946433649006084096:=by have:=rm.out;have:=hm2.out;omega
    have mb:m < 13407807929942597099574024998205846127479365820592393377723561443721764030073546976801874298166903427690031858186486050853753882811946569946433649006084096:=by have:=hm2.out;omega
    by_cases hl:r + r + b < m
    ·replace hl:=hd hl
     repeat ((fail_if_success with_reducible refine sl 25 ?_);first | go_step | dsimp only)
     refine wL (b:=n1 + 3) (o:=0) rfl H5 (nL _) agg25 size25 ?_
     simp only [Act.put,iA,iB,iC]
     repeat ((fail_if_success with_reducible refine sl 25 ?_);first | go_step | dsimp only)
     refine wL (b:=n1 + 1) (o:=0) rfl H2 (nL _) agg25 size25 ?_
     simp only [Act.put,iA,iB,iC]
     go_wp2_with fail
     refine (less_t xb mb hl).mono ?_
     rintro e W ⟨rfl,hb⟩
     replace C:=C.trans (Chg.of_below hb)
     replace H1:=H1.later hb
     replace H2:=H2.later hb
     replace H3:=H3.later hb
     replace H5:=H5.later hb
     clear hb
     go_wp2_with fail
     exact ⟨⟨k,(r + r + b),by omega,rfl,hd (by rw [←ms.out];exact mod_less hl.out),C,H1,H2,H3,H5⟩,by simp [intOf]⟩
    ·replace hl:=hd hl
     repeat ((fail_if_success with_reducible refine sl 25 ?_);first | go_step | dsimp only)
     refine wL (b:=n1 + 3) (o:=0) rfl H5 (nL _) agg25 size25 ?_
     simp only [Act.put,iA,iB,iC]
     repeat ((fail_if_success with_reducible refine sl 25 ?_);first | go_step | dsimp only)
     refine wL (b:=n1 + 1) (o:=0) rfl H2 (nL _) agg25 size25 ?_
     simp only [Act.put,iA,iB,iC]
     go_wp2_with fail
     refine (less_n xb mb hl).mono ?_
     rintro e W ⟨rfl,hb⟩
     replace C:=C.trans (Chg.of_below hb)
     replace H1:=H1.later hb
     replace H2:=H2.later hb
     replace H3:=H3.later hb
     replace H5:=H5.later hb
     clear hb
     repeat ((fail_if_success with_reducible refine sl 25 ?_);first | go_step | dsimp only)
     refine wL (b:=n1 + 3) (o:=0) rfl H5 (nL _) agg25 size25 ?_
     simp only [Act.put,iA,iB,iC]
     repeat ((fail_if_success with_reducible refine sl 25 ?_);first | go_step | dsimp only)
     refine wL (b:=n1 + 1) (o:=0) rfl H2 (nL _) agg25 size25 ?_
     simp only [Act.put,iA,iB,iC]
     obtain ⟨f1,qf1⟩:∃ g:Nat,g = (r + r + b) - m:=⟨_,rfl⟩
     replace qf1:=hd qf1
     go_wp2_with fail
     refine (minus_w (by have:=hl.out;omega) qf1).mono ?_
     rintro e W ⟨rfl,hb⟩
     replace C:=C.trans (Chg.of_below hb)
     replace H1:=H1.later hb
     replace H2:=H2.later hb
     replace H3:=H3.later hb
     replace H5:=H5.later hb
     clear hb
     repeat ((fail_if_success with_reducible refine ss 25 ?_);first | go_step | dsimp only)
     refine wS (b:=n1 + 3) (o:=0) (vs:=nl f1) rfl rfl (H5.room (nL _)) (nL _) (nl_one _) size25 ?_
     simp only [Act.put]
     have hc:Chg (Rg (n1 + 3) 0 16) W (World.setCells W (n1 + 3) 0 (nl f1)):=by have:=putL_chg (w:=W) (b:=n1 + 3) (o:=0) (vs:=nl f1);rwa [show (nl f1).length = 16 from (nL _)] at this
     have H6:=putL_has (w:=W) (b:=n1 + 3) (o:=0) (vs:=nl f1) (by rw [show (nl f1).length = 16 from (nL _)];exact (H5.room (nL _)))
     replace C:=C.loc hc (by omega)
     replace H1:=H1.keep hc oa
     replace H2:=H2.keep hc oa
     replace H3:=hc.room H3
     clear H5
     clear hc
     refine pG (fun W=>Chg R0 w W∧Has W n1 0 (nl a)∧Has W (n1 + 1) 0 (nl m)∧Room W (n1 + 2) 0 16∧Has W (n1 + 3) 0 (nl f1)) ⟨C,H1,H2,H3,H6⟩ ?_
     clear C H1 H2 H3 H6
     rintro W ⟨C,H1,H2,H3,H6⟩
     go_wp2_with fail
     exact ⟨⟨k,f1,by omega,rfl,hd (by rw [qf1.out,←ms.out];exact mod_sub hl.out (by have:=rm.out;omega)),C,H1,H2,H3,H6⟩,by simp [intOf]⟩
open Go.RowKit
theorem LN_bd:0 < LN∧LN < 115792089237316195423570985008687907853269984665640564039457584007913129639936:=by decide +kernel
def scN (f:Nat→Nat):Nat:=bnum f 64 % LN
theorem lawScalar_e {a:Option Addr} {L c:Nat} {f:Nat→Nat} {w:World} (A:Arg w a L f) :
  Calls Tryz.prog 6 #[.slice a L c] w (fun e w'=>e = .returned (.agg (nl (scN f)).toArray)∧Below w.heap.size w w'):=by
 have hf:=hd A.1
 have C:Chg R0 w w:=.refl _ _
 go_enter Tryz.func6,Tryz.ntmps6
 go_wp2_with fail
 obtain ⟨n1,l1⟩:∃ n,w.heap.size = n:=⟨_,rfl⟩
 rw [l1]
 have zn1:w.heap.size ≤ n1:=l1 ▸ Nat.le_refl _
 have hb:=bA w (Obj.cells z16.toArray 25)
 have R:=(Has.new w z16 25).room (n:=16) rfl
 rw [l1] at R
 refine cG (fun W=>Chg R0 w W∧Arg W a L f∧Room W n1 0 16) ⟨C.trans (Chg.of_below hb),A.later hb,R⟩ ?_
 clear C A R hb l1
 rintro W ⟨C,A,R⟩
 refine (sized64_e A).mono ?_
 rintro e W ⟨n2,ln2,rfl,hb,H⟩
 replace C:=C.trans (Chg.of_below hb)
 replace R:=R.later hb
 clear hb ln2 A
 go_wp2_with fail
 refine (of_v (by decide) (by decide) hf.out H (H.lt (by rw [byL_length];decide)) (hd rfl)).mono ?_
 rintro e W ⟨rfl,hb⟩
 replace C:=C.trans (Chg.of_below hb)
 replace R:=R.later hb
 clear hb H
 have hN:bnum f 64 < 13407807929942597099574024998205846127479365820592393377723561443721764030073546976801874298166903427690031858186486050853753882811946569946433649006084096:=by
  have h:bnum f 64 < 2 ^ (8 * 64):=bnum_lt hf.out 64
  rw [@pow_cg (8 * 64) 512 (by decide),pow_512] at h
  exact h
 have hq:Hd (scN f = bnum f 64 % LN):=hd rfl
 replace hN:=hd hN
 go_wp2_with fail
 refine l_v.mono ?_
 rintro e W ⟨rfl,hb⟩
 replace C:=C.trans (Chg.of_below hb)
 replace R:=R.later hb
 clear hb
 go_wp2_with fail
 refine (mod_v LN_bd.1 LN_bd.2 hN.out hq).mono ?_
 rintro e W ⟨rfl,hb⟩
 replace C:=C.trans (Chg.of_below hb)
 replace R:=R.later hb
 clear hb
 repeat ((fail_if_success with_reducible refine ss 25 ?_);first | go_step | dsimp only)
 refine wS (b:=n1) (o:=0) rfl rfl R (nL _) (nl_one _) size25 ?_
 simp only [Act.put]
 have hc:Chg (Rg n1 0 16) W (World.setCells W n1 0 (nl (scN f))):=by have:=putL_chg (w:=W) (b:=n1) (o:=0) (vs:=nl (scN f));rwa [nL] at this
 have HR:=putL_has (w:=W) (b:=n1) (o:=0) (vs:=nl (scN f)) (by rw [nL];exact R)
 replace C:=C.step hc (fun _ _ hj h=>absurd (h.1 ▸ hj) (Nat.not_lt.2 zn1))
 clear hc R
 go_wp2_with fail
 exact ret_cell (b:=n1) (o:=0) Tryz.results6 rfl HR (nL _) agg25 size25 rfl ⟨rfl,C.r0⟩
open Go.RowKit
def hlf (n:Nat):Nat→Nat
 | 0=>n
 | t + 1=>hlf n t / 2
theorem hlf_zero (n:Nat):hlf n 0 = n:=rfl
theorem hlf_succ (n t:Nat):hlf n (t + 1) = hlf n t / 2:=rfl
theorem hlf_le (n t:Nat):hlf n t ≤ n:=by
 induction t with
 | zero=>exact Nat.le_refl _
 | succ t ih=>rw [hlf_succ];omega
theorem hlf_two (n:Nat):hlf n 2 = n / 2 / 2:=rfl
theorem hlf_three (n:Nat):hlf n 3 = n / 2 / 2 / 2:=rfl
attribute [irreducible] hlf
theorem half_word (n j:Nat):dig (n / 2) j = dig n j / 2 + (dig n (j + 1) % 2) * 2147483648:=by
 unfold dig
 have e:n / 2 / 2 ^ (32 * j) = n / 2 ^ (32 * j) / 2:=by rw [Nat.div_div_eq_div_mul,Nat.div_div_eq_div_mul,Nat.mul_comm]
 rw [e,show 32 * (j + 1) = 32 * j + 32 by omega,Nat.pow_add,←Nat.div_div_eq_div_mul]
 generalize n / 2 ^ (32 * j) = m
 omega
def shF (n i:Nat):Nat→Nat:=fun j=>if j < i then dig (n / 2) j else dig n j
theorem shF_zero (n:Nat):nl n = lst (shF n 0):=by unfold nl;exact lst_congr fun j _=>by simp [shF]
theorem shF_end (n:Nat):lst (shF n 16) = nl (n / 2):=by unfold nl;exact lst_congr fun j hj=>by simp [shF,hj]
theorem shF_at (n i:Nat):shF n i i = dig n i:=by simp [shF]
theorem shF_at1 (n i:Nat):shF n i (i + 1) = dig n (i + 1):=by unfold shF;rw [if_neg (by omega)]
theorem shF_set (n i:Nat) {u v:Nat} (hv:v = dig (n / 2) i):((lst (shF n i)).set i (.int .u32 (u:Nat))).set i (.int .u32 (v:Nat)) = lst (shF n (i + 1)):=by
 rw [List.set_set,lst_set]
 apply lst_congr
 intro j _
 unfold updN shF
 by_cases h:j = i
 ·subst h;rw [if_pos rfl,if_pos (by omega),hv]
 ·rw [if_neg h]
  by_cases h2:j < i
  ·rw [if_pos h2,if_pos (by omega)]
  ·rw [if_neg h2,if_neg (by omega)]
theorem shF_set1 (n i:Nat) {v:Nat} (hv:v = dig (n / 2) i):(lst (shF n i)).set i (.int .u32 (v:Nat)) = lst (shF n (i + 1)):=by
 have:=shF_set n i (u:=0) hv
 rwa [List.set_set] at this
theorem half_last {m x:Nat} (hm:m < 13407807929942597099574024998205846127479365820592393377723561443721764030073546976801874298166903427690031858186486050853753882811946569946433649006084096) (hx:dig m 15 = x):x / 2 = dig (m / 2) 15:=by
 rw [half_word,dig_small (n:=m) (j:=15 + 1) (Nat.lt_of_lt_of_le hm (by decide +kernel)),hx];omega
theorem or_half {x y d:Nat} (hx:x < 4294967296) (hd:d = x / 2 + (y % 2) * 2147483648):bits BinOp.or IntKind.u32 ((x:Int) / 2) ((y:Int) * 2147483648 % 4294967296) = (d:Int):=by
 rw [show (x:Int) / 2 = ((x / 2:Nat):Int) by omega,show (y:Int) * 2147483648 % 4294967296 = ((y % 2 * 2147483648:Nat):Int) by omega,u32_or_nat _ _ (by omega) (by omega),hd]
 congr 1
 have:=Nat.shiftLeft_add_eq_or_of_lt (a:=y % 2) (b:=x / 2) (i:=31) (by omega)
 rw [Nat.shiftLeft_eq] at this
 rw [show (2:Nat) ^ 31 = 2147483648 by decide] at this
 rw [Nat.or_comm,←this,Nat.add_comm]
open Go.RowKit
theorem inv_def (a:F):inv a = pow a (P - 2):=by unfold inv;rfl
theorem inv_comm (a b:F):a * b = b * a:=by grind
theorem cd_of {f:F} (h:f * 121666 = 1):cd = -(121665 * f):=by
 have:=cd_eq
 have h2:cd * (f * 121666) = -(121665 * f):=by rw [show cd * (f * 121666) = (cd * 121666) * f by grind,this];grind
 rw [h] at h2
 rw [←h2];grind
theorem inv_v {a c:F} {w:World} (h:Hd (c = inv a)):Calls Tryz.prog 31 #[.agg (fl a).toArray] w (fun e w'=>e = .returned (.agg (fl c).toArray)∧Below w.heap.size w w'):=by
 have C:Chg R0 w w:=.refl _ _
 go_enter Tryz.func31,Tryz.ntmps31
 go_wp2_with fail
 obtain ⟨n1,ln1⟩:∃ n,w.heap.size = n:=⟨_,rfl⟩
 rw [ln1]
 have hb:=aB [Obj.cells (fl a).toArray 25,Obj.cells (List.replicate 16 (.int .u32 0)).toArray 25] w
 have zn1:w.heap.size ≤ n1:=ln1 ▸ C.size
 replace C:=C.trans (Chg.of_below hb)
 have H1:=aH [Obj.cells (fl a).toArray 25,Obj.cells (List.replicate 16 (.int .u32 0)).toArray 25] w 0 _ _ rfl
 rw [ln1] at H1
 simp only [Nat.add_zero] at H1
 have H2:=(aH [Obj.cells (fl a).toArray 25,Obj.cells (List.replicate 16 (.int .u32 0)).toArray 25] w 1 _ _ rfl).room (n:=16) rfl
 rw [ln1] at H2
 refine wp_gen (fun W=>Chg R0 w W∧Has W n1 0 (fl a)∧Room W (n1 + 1) 0 16) ⟨C,H1,H2⟩ ?_
 clear C H1 H2 hb ln1
 rintro W ⟨C,H1,H2⟩
 obtain ⟨f1,qf1⟩:∃ g:Nat,g = P - 2:=⟨_,rfl⟩
 replace qf1:=hd qf1
 obtain ⟨f2,qf2⟩:∃ g:F,g = pow a f1:=⟨_,rfl⟩
 replace qf2:=hd qf2
 refine region_fresh 5 [] (by kernel_rfl) (by kernel_rfl) (by kernel_rfl)
  (fun i v W=>match i with
   | 0=>v = .agg (fl a).toArray
   | 1=>v = .agg (nl P).toArray
   | 2=>v = .agg (nl 2).toArray
   | 3=>v = .agg (nl f1).toArray
   | 4=>v = .agg (fl f2).toArray
   | _=>True) ?_ ?_ ?_
 ·intro i v u u' h hb
  split at h<;>exact h
 ·simp only [List.take_succ_cons,List.take_zero,heads]
  refine ⟨?_,?_,?_,?_,?_,trivial⟩
  ·intro a W1 hR hun hdep
   have t1:=hun 1 (by simp)
   simp at t1
   clear hun hdep
   exact opw_load (b:=n1) (o:=0) (gd t1) (Has.later H1 hR.off) (fL _) agg25 size25 ⟨_,rfl,Later.rfl' _,rfl,(fun h=>absurd h (by decide))⟩
  ·intro a W1 hR hun hdep
   clear hun hdep
   go_simp
   refine (p_v).mono ?_
   rintro e W2 ⟨rfl,hb⟩
   first | exact hb | exact ⟨hb,rfl⟩ | exact ⟨rfl,hb⟩
  ·intro a W1 hR hun hdep
   clear hun hdep
   go_simp
   refine (small_v (x:=2) (by decide)).mono ?_
   rintro e W2 ⟨rfl,hb⟩
   first | exact hb | exact ⟨hb,rfl⟩ | exact ⟨rfl,hb⟩
  ·intro a W1 hR hun hdep
   have d4:=hdep ⟨1,.data⟩ (by simp) rfl
   simp [slotOf] at d4
   have d5:=hdep ⟨2,.data⟩ (by simp) rfl
   simp [slotOf] at d5
   clear hun hdep
   go_simp
   refine (minus_w (by decide) qf1).mono ?_
   rintro e W2 ⟨rfl,hb⟩
   first | exact hb | exact ⟨hb,rfl⟩ | exact ⟨rfl,hb⟩
  ·intro a W1 hR hun hdep
   have d3:=hdep ⟨0,.data⟩ (by simp) rfl
   simp [slotOf] at d3
   have d6:=hdep ⟨3,.data⟩ (by simp) rfl
   simp [slotOf] at d6
   clear hun hdep
   go_simp
   refine (pow_v (by rw [qf1.out];decide) qf2).mono ?_
   rintro e W2 ⟨rfl,hb⟩
   first | exact hb | exact ⟨hb,rfl⟩ | exact ⟨rfl,hb⟩
 ·intro vs W1 hR hv hfr
  simp only [List.take_succ_cons,List.take_zero,List.drop_succ_cons,List.drop_zero,heads,Option.isSome_some,if_true] at hv ⊢
  obtain ⟨v0,v1,v2,v3,v4,-⟩:=hv
  simp only [finL,Act.put,v0,v1,v2,v3,v4]
  simp only [iA,iB,iC]
  replace hR:=hR.off
  replace C:=C.trans (Chg.of_below hR)
  replace H1:=H1.later hR
  replace H2:=H2.later hR
  clear hR hfr v0 v1 v2 v3 v4
  refine pG (fun W=>Chg R0 w W∧Has W n1 0 (fl a)∧Room W (n1 + 1) 0 16) ⟨C,H1,H2⟩ ?_
  clear C H1 H2
  rintro W ⟨C,H1,H2⟩
  repeat ((fail_if_success with_reducible refine ss 25 ?_);first | go_step | dsimp only)
  refine wS (b:=n1 + 1) (o:=0) (vs:=fl f2) rfl rfl H2 (fL _) (fl_one _) size25 ?_
  simp only [Act.put]
  have hc:Chg (Rg (n1 + 1) 0 16) W (World.setCells W (n1 + 1) 0 (fl f2)):=by have:=putL_chg (w:=W) (b:=n1 + 1) (o:=0) (vs:=fl f2);rwa [show (fl f2).length = 16 from (fL _)] at this
  have H3:=putL_has (w:=W) (b:=n1 + 1) (o:=0) (vs:=fl f2) (by rw [show (fl f2).length = 16 from (fL _)];exact H2)
  replace C:=C.loc hc (by omega)
  replace H1:=H1.keep hc oa
  clear H2
  clear hc
  refine pG (fun W=>Chg R0 w W∧Has W n1 0 (fl a)∧Has W (n1 + 1) 0 (fl f2)) ⟨C,H1,H3⟩ ?_
  clear C H1 H3
  rintro W ⟨C,H1,H3⟩
  go_wp2_with fail
  have e:c = f2:=by rw [h.out,qf2.out,qf1.out,inv_def]
  exact ret_cell (b:=n1 + 1) (o:=0) Tryz.results31 rfl H3 (fL _) agg25 size25 rfl ⟨by rw [e],C.r0⟩
theorem d_v {w:World}:Calls Tryz.prog 14 #[] w (fun e w'=>e = .returned (.agg (fl cd).toArray)∧Below w.heap.size w w'):=by
 have C:Chg R0 w w:=.refl _ _
 go_enter Tryz.func14,Tryz.ntmps14
 go_wp2_with fail
 obtain ⟨n1,ln1⟩:∃ n,w.heap.size = n:=⟨_,rfl⟩
 rw [ln1]
 have hb:=aB [Obj.cells (List.replicate 16 (.int .u32 0)).toArray 25] w
 have zn1:w.heap.size ≤ n1:=ln1 ▸ C.size
 replace C:=C.trans (Chg.of_below hb)
 have H1:=(aH [Obj.cells (List.replicate 16 (.int .u32 0)).toArray 25] w 0 _ _ rfl).room (n:=16) rfl
 rw [ln1] at H1
 simp only [Nat.add_zero] at H1
 refine cG (fun W=>Chg R0 w W∧Room W n1 0 16) ⟨C,H1⟩ ?_
 clear C H1 hb ln1
 rintro W ⟨C,H1⟩
 refine (small_f (x:=121665) (f:=121665) (by omega) (by decide) (by decide +kernel)).mono ?_
 rintro e W ⟨rfl,hb⟩
 replace C:=C.trans (Chg.of_below hb)
 replace H1:=H1.later hb
 clear hb
 go_wp2_with fail
 refine (small_f (x:=121666) (f:=121666) (by omega) (by decide) (by decide +kernel)).mono ?_
 rintro e W ⟨rfl,hb⟩
 replace C:=C.trans (Chg.of_below hb)
 replace H1:=H1.later hb
 clear hb
 obtain ⟨f1,qf1⟩:∃ g:F,g = inv 121666:=⟨_,rfl⟩
 replace qf1:=hd qf1
 go_wp2_with fail
 refine (inv_v qf1).mono ?_
 rintro e W ⟨rfl,hb⟩
 replace C:=C.trans (Chg.of_below hb)
 replace H1:=H1.later hb
 clear hb
 obtain ⟨f2,qf2⟩:∃ g:F,g = 121665 * f1:=⟨_,rfl⟩
 replace qf2:=hd qf2
 go_wp2_with fail
 refine (mul_v qf2).mono ?_
 rintro e W ⟨rfl,hb⟩
 replace C:=C.trans (Chg.of_below hb)
 replace H1:=H1.later hb
 clear hb
 obtain ⟨f3,qf3⟩:∃ g:F,g = -f2:=⟨_,rfl⟩
 replace qf3:=hd qf3
 go_wp2_with fail
 refine (neg_v qf3).mono ?_
 rintro e W ⟨rfl,hb⟩
 replace C:=C.trans (Chg.of_below hb)
 replace H1:=H1.later hb
 clear hb
 repeat ((fail_if_success with_reducible refine ss 25 ?_);first | go_step | dsimp only)
 refine wS (b:=n1) (o:=0) (vs:=fl f3) rfl rfl H1 (fL _) (fl_one _) size25 ?_
 simp only [Act.put]
 have hc:Chg (Rg n1 0 16) W (World.setCells W n1 0 (fl f3)):=by have:=putL_chg (w:=W) (b:=n1) (o:=0) (vs:=fl f3);rwa [show (fl f3).length = 16 from (fL _)] at this
 have H2:=putL_has (w:=W) (b:=n1) (o:=0) (vs:=fl f3) (by rw [show (fl f3).length = 16 from (fL _)];exact H1)
 replace C:=C.loc hc (by omega)
 clear H1
 clear hc
 refine pG (fun W=>Chg R0 w W∧Has W n1 0 (fl f3)) ⟨C,H2⟩ ?_
 clear C H2
 rintro W ⟨C,H2⟩
 go_wp2_with fail
 have e:cd = f3:=by
  have h1:f1 * 121666 = 1:=by rw [qf1.out,inv_comm];exact mul_inv (by decide +kernel)
  rw [qf3.out,qf2.out]
  exact cd_of h1
 exact ret_cell (b:=n1) (o:=0) Tryz.results14 rfl H2 (fL _) agg25 size25 rfl ⟨by rw [e],C.r0⟩
theorem edwards_v {w:World}:Calls Tryz.prog 4 #[] w (fun e w'=>e = .returned (.agg (fl cd).toArray)∧Below w.heap.size w w'):=by
 have C:Chg R0 w w:=.refl _ _
 go_enter Tryz.func4,Tryz.ntmps4
 go_wp2_with fail
 obtain ⟨n1,ln1⟩:∃ n,w.heap.size = n:=⟨_,rfl⟩
 rw [ln1]
 have hb:=aB [Obj.cells (List.replicate 16 (.int .u32 0)).toArray 27] w
 have zn1:w.heap.size ≤ n1:=ln1 ▸ C.size
 replace C:=C.trans (Chg.of_below hb)
 have H1:=(aH [Obj.cells (List.replicate 16 (.int .u32 0)).toArray 27] w 0 _ _ rfl).room (n:=16) rfl
 rw [ln1] at H1
 simp only [Nat.add_zero] at H1
 refine cG (fun W=>Chg R0 w W∧Room W n1 0 16) ⟨C,H1⟩ ?_
 clear C H1 hb ln1
 rintro W ⟨C,H1⟩
 refine (d_v).mono ?_
 rintro e W ⟨rfl,hb⟩
 replace C:=C.trans (Chg.of_below hb)
 replace H1:=H1.later hb
 clear hb
 repeat ((fail_if_success show wpList _ _ _ (⟨_,.build _ _,_,_,_,_⟩ :: _) _ _);(first | go_step | dsimp only))
 refine wpList_blind rfl (blind_build27 rfl (fL _)) ?_
 simp only [Act.put,iA,iB,iC]
 repeat ((fail_if_success with_reducible refine ss 27 ?_);first | go_step | dsimp only)
 refine wS (b:=n1) (o:=0) (vs:=fl cd) rfl rfl H1 (fL _) (fl_one _) size27 ?_
 simp only [Act.put]
 have hc:Chg (Rg n1 0 16) W (World.setCells W n1 0 (fl cd)):=by have:=putL_chg (w:=W) (b:=n1) (o:=0) (vs:=fl cd);rwa [show (fl cd).length = 16 from (fL _)] at this
 have H2:=putL_has (w:=W) (b:=n1) (o:=0) (vs:=fl cd) (by rw [show (fl cd).length = 16 from (fL _)];exact H1)
 replace C:=C.loc hc (by omega)
 clear H1
 clear hc
 refine pG (fun W=>Chg R0 w W∧Has W n1 0 (fl cd)) ⟨C,H2⟩ ?_
 clear C H2
 rintro W ⟨C,H2⟩
 go_wp2_with fail
 exact ret_cell (b:=n1) (o:=0) Tryz.results4 rfl H2 (fL _) agg27 size27 rfl ⟨by rfl,C.r0⟩
open Go.RowKit
theorem root_v {f:F} {w:World} (h:Hd (f = pow 2 E1)):Calls Tryz.prog 72 #[] w (fun e w'=>e = .returned (.agg (fl f).toArray)∧Below w.heap.size w w'):=by
 have C:Chg R0 w w:=.refl _ _
 go_enter Tryz.func72,Tryz.ntmps72
 go_wp2_with fail
 obtain ⟨n1,ln1⟩:∃ n,w.heap.size = n:=⟨_,rfl⟩
 rw [ln1]
 have hb:=aB [Obj.cells (List.replicate 16 (.int .u32 0)).toArray 25] w
 have zn1:w.heap.size ≤ n1:=ln1 ▸ C.size
 replace C:=C.trans (Chg.of_below hb)
 have H1:=(aH [Obj.cells (List.replicate 16 (.int .u32 0)).toArray 25] w 0 _ _ rfl).room (n:=16) rfl
 rw [ln1] at H1
 simp only [Nat.add_zero] at H1
 refine cG (fun W=>Chg R0 w W∧Room W n1 0 16) ⟨C,H1⟩ ?_
 clear C H1 hb ln1
 rintro W ⟨C,H1⟩
 refine (p_v).mono ?_
 rintro e W ⟨rfl,hb⟩
 replace C:=C.trans (Chg.of_below hb)
 replace H1:=H1.later hb
 clear hb
 go_wp2_with fail
 refine (small_v (x:=1) (by decide)).mono ?_
 rintro e W ⟨rfl,hb⟩
 replace C:=C.trans (Chg.of_below hb)
 replace H1:=H1.later hb
 clear hb
 obtain ⟨f1,qf1⟩:∃ g:Nat,g = P - 1:=⟨_,rfl⟩
 replace qf1:=hd qf1
 go_wp2_with fail
 refine (minus_w (by decide) qf1).mono ?_
 rintro e W ⟨rfl,hb⟩
 replace C:=C.trans (Chg.of_below hb)
 replace H1:=H1.later hb
 clear hb
 repeat ((fail_if_success with_reducible refine ss 25 ?_);first | go_step | dsimp only)
 obtain ⟨n2,ln2⟩:∃ n,W.heap.size = n:=⟨_,rfl⟩
 rw [ln2]
 have hb:=aB [Obj.cells (List.replicate 16 (.int .u32 0)).toArray 25] W
 have zn2:w.heap.size ≤ n2:=ln2 ▸ C.size
 have y2:n1 < n2:=ln2 ▸ H1.lt (by decide)
 replace C:=C.trans (Chg.of_below hb)
 replace H1:=H1.later hb
 have H3:=(aH [Obj.cells (List.replicate 16 (.int .u32 0)).toArray 25] W 0 _ _ rfl).room (n:=16) rfl
 rw [ln2] at H3
 simp only [Nat.add_zero] at H3
 refine pG (fun W=>Chg R0 w W∧Room W n1 0 16∧Room W n2 0 16) ⟨C,H1,H3⟩ ?_
 clear C H1 H3 hb ln2
 rintro W ⟨C,H1,H3⟩
 refine wS (b:=n2) (o:=0) (vs:=nl f1) rfl rfl H3 (nL _) (nl_one _) size25 ?_
 simp only [Act.put]
 have hc:Chg (Rg n2 0 16) W (World.setCells W n2 0 (nl f1)):=by have:=putL_chg (w:=W) (b:=n2) (o:=0) (vs:=nl f1);rwa [show (nl f1).length = 16 from (nL _)] at this
 have H4:=putL_has (w:=W) (b:=n2) (o:=0) (vs:=nl f1) (by rw [show (nl f1).length = 16 from (nL _)];exact H3)
 replace C:=C.loc hc (by omega)
 replace H1:=hc.room H1
 clear H3
 clear hc
 refine pG (fun W=>Chg R0 w W∧Room W n1 0 16∧Has W n2 0 (nl f1)) ⟨C,H1,H4⟩ ?_
 clear C H1 H4
 rintro W ⟨C,H1,H4⟩
 go_wp2_with fail
 have fb:=hd (show f1 < 13407807929942597099574024998205846127479365820592393377723561443721764030073546976801874298166903427690031858186486050853753882811946569946433649006084096 by have:=qf1.out;have:=P_lt;omega)
 go_loopw [6] (fun i W=>∃ t:Nat,t ≤ 2∧i = .int .i64 t∧Chg R0 w W∧Room W n1 0 16∧Has W n2 0 (nl (hlf f1 t))) (fun i _=>2 - (intOf i).toNat)
 case atStart=>exact ⟨0,by omega,rfl,C,H1,by rw [hlf_zero];exact H4⟩
 case round =>
  clear C H1 H4
  obtain ⟨t,ht,rfl,C,H1,HB⟩:=hrel
  by_cases hlt:t < 2
  ·have hm:=hd (Nat.lt_of_le_of_lt (hlf_le f1 t) fb.out)
   have hs:=hlf_succ f1 t
   obtain ⟨m,qm⟩:∃ m,hlf f1 t = m:=⟨_,rfl⟩
   rw [qm] at HB hm hs
   replace hs:=hd hs
   clear qm
   go_wp2_with fail
   rw [show decide ((t:Int) < 2) = true by rw [decide_eq_true_iff];omega]
   rw [shF_zero m] at HB
   go_loopw [8] (fun i W=>∃ j:Nat,j ≤ 16∧i = .int .i64 j∧Chg R0 w W∧Room W n1 0 16∧Has W n2 0 (lst (shF m j))) (fun i _=>16 - (intOf i).toNat)
   case atStart=>exact ⟨0,by omega,rfl,C,H1,HB⟩
   case round =>
    clear C H1 HB
    obtain ⟨j,hj,rfl,C,H1,HB⟩:=hrel
    by_cases hjt:j < 16
    ·have cA:=HB.cellN (i:=j) hjt
     rw [Nat.zero_add,shF_at] at cA
     have dA:=dig_lt m j
     have hw:=half_word m j
     have k1:(j:Int) < 16:=by omega
     obtain ⟨x,qx⟩:∃ x,dig m j = x:=⟨_,rfl⟩
     rw [qx] at cA dA hw
     by_cases h15:j < 15
     ·clear qx
      have k15:(j:Int) < 15:=by omega
      have cB:=HB.cellN (i:=j + 1) (by omega)
      rw [Nat.zero_add,shF_at1] at cB
      have dB:=dig_lt m (j + 1)
      obtain ⟨y,qy⟩:∃ y,dig m (j + 1) = y:=⟨_,rfl⟩
      rw [qy] at cB dB hw
      replace hw:=hd hw
      clear qy
      go_wp2_with fail
      refine wp_gen (fun W=>Chg R0 w W∧Room W n1 0 16∧Has W (n2) 0 ((lst (shF m j)).set j (.int .u32 (((x / 2:Nat)):Int)))∧W.cell? ⟨n2,j,none⟩ = some (.int .u32 ((x / 2:Nat):Int))∧W.frozen? ⟨n2,j,none⟩ = false∧W.cell? ⟨n2,j + 1,none⟩ = some (.int .u32 y)) ⟨C.setCell _ (fun h=>absurd h (Nat.not_lt.2 (by omega))),(Chg.set1 _ _ _ _).room H1,HB.set j (by omega) _,setCell_same cA.1,(by rw [frozen_setCell];exact cA.2),((Chg.set1 _ _ _ _).cell (lt_of_cell cB.1) (by rintro ⟨-,e⟩;omega)).trans cB.1⟩ ?_
      clear C H1 HB cA cB
      rintro W ⟨C,H1,HB,cA,fA,cB⟩
      have k88:((j:Int) + 1).toNat = j + 1:=by omega
      have k8':(j:Int) + 1 < 16:=by omega
      have k80:0 ≤ (j:Int) + 1:=by omega
      have wj:IntKind.i64.wrap (j:Int) = j:=i64_word _ (by omega)
      have wj8:IntKind.i64.wrap ((j:Int) + 1) = (j:Int) + 1:=i64_word _ (by omega)
      go_still_tail 10,(by kernel_rfl)
      go_wp2_with fail
      rw [or_half dA hw.out]
      have h2:=HB.set j (by omega:j = 0 + j) (.int .u32 ((dig (m / 2) j:Nat):Int))
      rw [shF_set m j rfl] at h2
      exact ⟨⟨j + 1,by omega,by push_cast;rfl,(C.setCell _ (fun h=>absurd h (Nat.not_lt.2 (by omega)))).drew,(Chg.set1 _ _ _ _).room H1,h2⟩,by simp [intOf];try omega⟩
     ·obtain rfl:j = 15:=by omega
      have hl:=hd (half_last hm.out qx)
      clear qx hw
      have k15:¬ ((15:Nat):Int) < 15:=by omega
      go_wp2_with fail
      have h2:=HB.set 15 (by omega:15 = 0 + 15) (.int .u32 (((x / 2:Nat)):Int))
      rw [shF_set1 m 15 hl.out] at h2
      exact ⟨⟨16,by omega,rfl,C.setCell _ (fun h=>absurd h (Nat.not_lt.2 (by omega))),(Chg.set1 _ _ _ _).room H1,h2⟩,by simp [intOf]⟩
    ·obtain rfl:j = 16:=by omega
     rw [shF_end,←hs.out] at HB
     go_wp2_with fail
     exact ⟨⟨t + 1,by omega,by push_cast;rfl,C,H1,HB⟩,by simp [intOf];try omega⟩
  ·obtain rfl:t = 2:=by omega
   have he:=hd (show hlf f1 2 = E1 by rw [qf1.out,hlf_two];decide +kernel)
   rw [he.out] at HB
   go_wp2_with fail
   obtain ⟨f2,qf2⟩:∃ g:F,g = pow 2 E1:=⟨_,rfl⟩
   replace qf2:=hd qf2
   refine region_fresh 3 [] (by kernel_rfl) (by kernel_rfl) (by kernel_rfl)
    (fun i v W=>match i with
     | 0=>v = .agg (fl 2).toArray
     | 1=>v = .agg (nl E1).toArray
     | 2=>v = .agg (fl f2).toArray
     | _=>True) ?_ ?_ ?_
   ·intro i v u u' h hb
    split at h<;>exact h
   ·simp only [List.take_succ_cons,List.take_zero,heads]
    refine ⟨?_,?_,?_,trivial⟩
    ·intro a W1 hR hun hdep
     clear hun hdep
     go_simp
     refine (small_f (x:=2) (f:=2) (by omega) (by decide) (by decide +kernel)).mono ?_
     rintro e W2 ⟨rfl,hb⟩
     first | exact hb | exact ⟨hb,rfl⟩ | exact ⟨rfl,hb⟩
    ·intro a W1 hR hun hdep
     have t1:=hun 1 (by simp)
     simp at t1
     clear hun hdep
     exact opw_load (b:=n2) (o:=0) (gd t1) (Has.later HB hR.off) (nL _) agg25 size25 ⟨_,rfl,Later.rfl' _,rfl,(fun h=>absurd h (by decide))⟩
    ·intro a W1 hR hun hdep
     have d30:=hdep ⟨0,.data⟩ (by simp) rfl
     simp [slotOf] at d30
     have d31:=hdep ⟨1,.data⟩ (by simp) rfl
     simp [slotOf] at d31
     clear hun hdep
     go_simp
     refine (pow_v (by decide +kernel) qf2).mono ?_
     rintro e W2 ⟨rfl,hb⟩
     first | exact hb | exact ⟨hb,rfl⟩ | exact ⟨rfl,hb⟩
   ·intro vs W1 hR hv hfr
    simp only [List.take_succ_cons,List.take_zero,List.drop_succ_cons,List.drop_zero,heads,Option.isSome_some,if_true] at hv ⊢
    obtain ⟨v0,v1,v2,-⟩:=hv
    simp only [finL,Act.put,v0,v1,v2]
    simp only [iA,iB,iC]
    replace hR:=hR.off
    replace C:=C.trans (Chg.of_below hR)
    replace H1:=H1.later hR
    replace HB:=HB.later hR
    clear hR hfr v0 v1 v2
    refine pG (fun W=>Chg R0 w W∧Room W n1 0 16∧Has W n2 0 (nl E1)) ⟨C,H1,HB⟩ ?_
    clear C H1 HB
    rintro W ⟨C,H1,HB⟩
    repeat ((fail_if_success with_reducible refine ss 25 ?_);first | go_step | dsimp only)
    refine wS (b:=n1) (o:=0) (vs:=fl f2) rfl rfl H1 (fL _) (fl_one _) size25 ?_
    simp only [Act.put]
    have hc:Chg (Rg n1 0 16) W (World.setCells W n1 0 (fl f2)):=by have:=putL_chg (w:=W) (b:=n1) (o:=0) (vs:=fl f2);rwa [show (fl f2).length = 16 from (fL _)] at this
    have H5:=putL_has (w:=W) (b:=n1) (o:=0) (vs:=fl f2) (by rw [show (fl f2).length = 16 from (fL _)];exact H1)
    replace C:=C.loc hc (by omega)
    clear H1
    replace HB:=HB.keep hc oa
    clear hc
    refine pG (fun W=>Chg R0 w W∧Has W n2 0 (nl E1)∧Has W n1 0 (fl f2)) ⟨C,HB,H5⟩ ?_
    clear C HB H5
    rintro W ⟨C,HB,H5⟩
    go_wp2_with fail
    exact ret_cell (b:=n1) (o:=0) Tryz.results72 rfl H5 (fL _) agg25 size25 rfl ⟨by rw [h.out,←qf2.out],C.r0⟩
end Go.Proofs.Ed
