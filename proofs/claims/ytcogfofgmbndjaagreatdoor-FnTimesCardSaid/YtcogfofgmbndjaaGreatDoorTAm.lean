/- A part of the proof of the tied card of FnTimes: Vm. -/
import Derived.Test.YtcogfofgmbndjaaGreatDoorProg
import Derived.WalkKit
import Derived.WalkSpells
import Derived.WalkLawsBesides
import Derived.Outline
import Derived.StillTailTactics
import Derived.Test.YtcogfofgmbndjaaGreatDoorTAl
set_option maxRecDepth 100000
set_option maxHeartbeats 40000000
namespace Go.Proofs.Ed
open Go.RowKit
theorem sub_word {a b s k:Nat} (h:a = s + b):(dig a k:Nat) + 4294967296 * cry s b (k + 1) = cry s b k + dig s k + dig b k:=by
 have e:dig a k = (cry s b k + dig s k + dig b k) % 4294967296:=by
  subst h
  show (s + b) / 2 ^ (32 * k) % 4294967296 = _
  rw [cry_div]
  unfold dig
  omega
 rw [e,cry_succ]
 omega
def LN:Nat:=7237005577332262213973186563042994240857116359379907606001950938285454250989
theorem i64_word (x:Int) (h:-9223372036854775808 ≤ x∧x < 9223372036854775808):IntKind.i64.wrap x = x:=by
 simp [IntKind.wrap,IntKind.bits,IntKind.signed];omega
theorem wrap_u32 (x:Int):IntKind.u32.wrap x = x % 4294967296:=by simp [IntKind.wrap,IntKind.bits,IntKind.signed]
theorem minus_v {a b s:Nat} {w:World} (hs:a = s + b):Calls Tryz.prog 40 #[.agg (nl a).toArray,.agg (nl b).toArray] w (fun e w'=>e = .returned (.agg (nl s).toArray)∧Below w.heap.size w w'):=by
 replace hs:=hd hs
 go_enter Tryz.func40,Tryz.ntmps40
 go_wp2_with fail
 have C:Chg R0 w w:=.refl _ _
 obtain ⟨n1,l1⟩:∃ n,w.heap.size = n:=⟨_,rfl⟩
 rw [l1]
 have z1:w.heap.size ≤ n1:=l1 ▸ Nat.le_refl _
 have hb:=aB [Obj.cells (nl a).toArray 25,Obj.cells (nl b).toArray 25,Obj.cells (z16).toArray 25] w
 have H0:=aH [Obj.cells (nl a).toArray 25,Obj.cells (nl b).toArray 25,Obj.cells (z16).toArray 25] w 0 _ _ rfl
 rw [l1] at H0
 have H1:=aH [Obj.cells (nl a).toArray 25,Obj.cells (nl b).toArray 25,Obj.cells (z16).toArray 25] w 1 _ _ rfl
 rw [l1] at H1
 have H2:=(aH [Obj.cells (nl a).toArray 25,Obj.cells (nl b).toArray 25,Obj.cells (z16).toArray 25] w 2 _ _ rfl).room (n:=16) rfl
 rw [l1] at H2
 refine wp_gen (fun W=>Chg R0 w W∧Has W n1 0 (nl a)∧Has W (n1 + 1) 0 (nl b)∧Room W (n1 + 1 + 1) 0 16) ⟨C.trans (Chg.of_below hb),H0,H1,H2⟩ ?_
 clear C hb l1 H0 H1 H2
 rintro W ⟨C,H0,H1,H2⟩
 rw [mixN_zero a s] at H0
 go_loopw [5,7] (fun c i W=>∃ k:Nat,k ≤ 16∧i = .int .i64 k∧c = .int .i64 (-(cry s b k:Nat))∧Chg R0 w W∧Has W n1 0 (lst (mixN a s k))∧Has W (n1 + 1) 0 (nl b)∧Room W (n1 + 1 + 1) 0 16) (fun _ i _=>16 - (intOf i).toNat)
 case atStart=>exact ⟨0,by omega,rfl,by rw [cry_zero];rfl,C,H0,H1,H2⟩
 case round =>
  clear C H0 H1 H2
  obtain ⟨k,hk,rfl,rfl,C,H0,H1,H2⟩:=hrel
  by_cases hlt:k < 16
  ·have c1:=H0.cellN hlt
   have c2:=H1.cellD hlt
   rw [Nat.zero_add] at c1 c2
   rw [show mixN a s k k = dig a k by simp [mixN]] at c1
   have d1:=dig_lt a k
   have d2:=dig_lt b k
   have d4:=dig_lt s k
   have d3:=cry_le s b k
   have e3:=sub_word (k:=k) hs.out
   have e5:=cry_le s b (k + 1)
   obtain ⟨x,hx⟩:∃ x:Nat,dig a k = x:=⟨_,rfl⟩
   obtain ⟨y,hy⟩:∃ y:Nat,dig b k = y:=⟨_,rfl⟩
   obtain ⟨g,hg⟩:∃ g:Nat,cry s b k = g:=⟨_,rfl⟩
   rw [hx] at c1 d1 e3
   rw [hy] at c2 d2 e3
   rw [hg] at d3 e3
   rw [hg]
   have w1:IntKind.i64.wrap (x:Int) = x:=i64_word _ (by omega)
   have w2:IntKind.i64.wrap (y:Int) = y:=i64_word _ (by omega)
   have w3:IntKind.i64.wrap ((x:Int) - y) = x - y:=i64_word _ (by omega)
   have w4:IntKind.i64.wrap (-(g:Int) + (x - y)) = -g + (x - y):=i64_word _ (by omega)
   clear hx hy hg
   replace e3:=hd e3
   go_wp2_with fail
   go_still_tail 11,(by kernel_rfl)
   go_wp2_with fail
   have e3:=e3.out
   have v1:Value.int .u32 ((-(g:Int) + (x - y)) % 4294967296) = .int .u32 ((dig s k:Nat):Int):=by congr 1;omega
   rw [v1]
   have h1:=H0.set k (by omega:k = 0 + k) (.int .u32 ((dig s k:Nat):Int))
   rw [mixN_set _ _ _ rfl] at h1
   exact ⟨⟨k + 1,by omega,by push_cast;rfl,by congr 1;omega,(C.setCell _ (fun h=>absurd h (Nat.not_lt.2 z1))).drew,h1,H1.off _ (fun e=>by omega),(Chg.set1 _ _ _ _).room H2⟩,by simp [intOf];omega⟩
  ·obtain rfl:k = 16:=by omega
   rw [mixN_all] at H0
   repeat ((fail_if_success with_reducible refine sl 25 ?_);first | go_step | dsimp only)
   refine wL (b:=n1) (o:=0) rfl H0 (nL _) agg25 size25 ?_
   simp only [Act.put,iA,iB,iC]
   repeat ((fail_if_success with_reducible refine ss 25 ?_);first | go_step | dsimp only)
   refine wS (b:=n1 + 1 + 1) (o:=0) rfl rfl H2 (nL _) (nl_one _) size25 ?_
   simp only [Act.put]
   have hc:Chg (Rg (n1 + 1 + 1) 0 16) wr (World.setCells wr (n1 + 1 + 1) 0 (nl s)):=by have:=putL_chg (w:=wr) (b:=n1 + 1 + 1) (o:=0) (vs:=nl s);rwa [show (nl s).length = 16 from (nL _)] at this
   have HR:=putL_has (w:=wr) (b:=n1 + 1 + 1) (o:=0) (vs:=nl s) (by rw [show (nl s).length = 16 from (nL _)];exact H2)
   replace C:=C.loc hc (by omega)
   clear hc H0 H1 H2
   go_wp2_with fail
   exact ret_cell (b:=n1 + 1 + 1) (o:=0) Tryz.results40 rfl HR (nL _) agg25 size25 rfl ⟨rfl,C.r0⟩
theorem high_eq {a b k:Nat} (h:a / 2 ^ (32 * (k + 1)) = b / 2 ^ (32 * (k + 1))) (hd:dig a k = dig b k):a / 2 ^ (32 * k) = b / 2 ^ (32 * k):=by
 rw [show 32 * (k + 1) = 32 * k + 32 by omega,Nat.pow_add,←Nat.div_div_eq_div_mul,←Nat.div_div_eq_div_mul] at h
 unfold dig at hd
 omega
theorem high_lt {a b k:Nat} (h:a / 2 ^ (32 * (k + 1)) = b / 2 ^ (32 * (k + 1))) (hd:dig a k ≠ dig b k):dig a k < dig b k ↔ a < b:=by
 rw [show 32 * (k + 1) = 32 * k + 32 by omega,Nat.pow_add,←Nat.div_div_eq_div_mul,←Nat.div_div_eq_div_mul] at h
 unfold dig at *
 have hp:0 < 2 ^ (32 * k):=Nat.pow_pos (by decide)
 generalize 2 ^ (32 * k) = X at *
 have h1:=Nat.div_add_mod a X
 have h2:=Nat.div_add_mod b X
 have h3:=Nat.mod_lt a hp
 have h4:=Nat.mod_lt b hp
 constructor
 ·intro hlt
  have h5:a / X + 1 ≤ b / X:=by omega
  have h6:=Nat.mul_le_mul_left X h5
  rw [Nat.mul_add] at h6
  omega
 ·intro hlt
  have h5:=Nat.div_le_div_right (c:=X) (Nat.le_of_lt hlt)
  omega
theorem pow_cg {a b:Nat} (h:a = b):2 ^ a = 2 ^ b:=by rw [h]
theorem less_v {a b:Nat} {w:World} (ha:a < 2 ^ 512) (hb:b < 2 ^ 512):Calls Tryz.prog 39 #[.agg (nl a).toArray,.agg (nl b).toArray] w (fun e w'=>e = .returned (.bool (decide (a < b)))∧Below w.heap.size w w'):=by
 have hst:a / 2 ^ (32 * 16) = b / 2 ^ (32 * 16):=by rw [@pow_cg (32 * 16) 512 (by decide),Nat.div_eq_of_lt ha,Nat.div_eq_of_lt hb]
 replace hst:=hd hst
 clear ha hb
 go_enter Tryz.func39,Tryz.ntmps39
 go_wp2_with fail
 have C:Chg R0 w w:=.refl _ _
 obtain ⟨n1,l1⟩:∃ n,w.heap.size = n:=⟨_,rfl⟩
 rw [l1]
 have z1:w.heap.size ≤ n1:=l1 ▸ Nat.le_refl _
 have hb:=aB [Obj.cells (nl a).toArray 25,Obj.cells (nl b).toArray 25] w
 have H0:=aH [Obj.cells (nl a).toArray 25,Obj.cells (nl b).toArray 25] w 0 _ _ rfl
 rw [l1] at H0
 have H1:=aH [Obj.cells (nl a).toArray 25,Obj.cells (nl b).toArray 25] w 1 _ _ rfl
 rw [l1] at H1
 refine wp_gen (fun W=>Chg R0 w W∧Has W n1 0 (nl a)∧Has W (n1 + 1) 0 (nl b)) ⟨C.trans (Chg.of_below hb),H0,H1⟩ ?_
 clear C hb l1 H0 H1
 rintro W ⟨C,H0,H1⟩
 go_loopw [5] (fun i W=>∃ k:Nat,k ≤ 16∧i = .int .i64 ((k:Int) - 1)∧Hd (a / 2 ^ (32 * k) = b / 2 ^ (32 * k))∧Chg R0 w W∧Has W n1 0 (nl a)∧Has W (n1 + 1) 0 (nl b)) (fun i _=>(intOf i + 1).toNat)
 case atStart=>exact ⟨16,by omega,rfl,hst,C,H0,H1⟩
 case round =>
  clear C H0 H1 hst
  obtain ⟨k,hk,rfl,hst,C,H0,H1⟩:=hrel
  cases k with
  | zero =>
   go_wp2_with fail
   go_ret
   refine ⟨?_,C.r0⟩
   have:=hst.out
   simp at this
   subst this
   simp
  | succ k =>
   have c1:=H0.cellD (i:=k) (by omega)
   have c2:=H1.cellD (i:=k) (by omega)
   rw [Nat.zero_add] at c1 c2
   have d1:=dig_lt a k
   have d2:=dig_lt b k
   have e1:=high_eq hst.out
   have e2:=high_lt hst.out
   obtain ⟨x,hx⟩:∃ x:Nat,dig a k = x:=⟨_,rfl⟩
   obtain ⟨y,hy⟩:∃ y:Nat,dig b k = y:=⟨_,rfl⟩
   rw [hx] at c1 d1 e1 e2
   rw [hy] at c2 d2 e1 e2
   replace e1:=hd e1
   replace e2:=hd e2
   clear hx hy hst
   have k16:(k:Int) < 16:=by omega
   have k0:0 ≤ (k:Int):=by omega
   rw [show (((k + 1:Nat):Int) - 1) = k by push_cast;omega]
   go_wp2_with fail
   go_still_tail 6,(by kernel_rfl)
   go_wp2_with fail
   ·have hne:((x:Int) != y) = true:=by assumption
    have hne:x ≠ y:=by
     have:¬ (x:Int) = y:=by simpa using hne
     omega
    have e2:=e2.out hne
    refine wp_gen (fun W=>Chg R0 w W∧W.cell? ⟨n1,k,none⟩ = some (.int .u32 x)∧W.cell? ⟨n1 + 1,k,none⟩ = some (.int .u32 y)) ⟨C.drew,c1.1,c2.1⟩ ?_
    clear C c1 c2 H0 H1 e1
    rintro W ⟨C,c1,c2⟩
    go_still_tail 7,(by kernel_rfl)
    go_wp2_with fail
    go_ret
    have:decide (a < b) = decide ((x:Int) < y):=by rw [decide_eq_decide];omega
    exact ⟨by rw [this];rfl,C.drew.r0⟩
   ·have heq:((x:Int) != y) = false:=by assumption
    have heq:x = y:=by
     have:(x:Int) = y:=by simpa using heq
     omega
    exact ⟨⟨k,by omega,rfl,hd (e1.out heq),C.drew,H0,H1⟩,by simp [intOf]⟩
theorem pow_gen {n a A N:Nat} (h:n = a + a) (hA:2 ^ a = A) (hN:A * A = N):2 ^ n = N:=by rw [h,Nat.pow_add,hA,hN]
theorem pow_512:2 ^ 512 = 13407807929942597099574024998205846127479365820592393377723561443721764030073546976801874298166903427690031858186486050853753882811946569946433649006084096:=@pow_gen 512 256 115792089237316195423570985008687907853269984665640564039457584007913129639936 13407807929942597099574024998205846127479365820592393377723561443721764030073546976801874298166903427690031858186486050853753882811946569946433649006084096 (by decide) (by decide +kernel) (by decide +kernel)
theorem and1_u32 {x:Nat} (h:x < 4294967296):bits BinOp.and IntKind.u32 (x:Int) 1 = ((x % 2:Nat):Int):=by
 have:=u32_and_nat x 1 h (by decide)
 rw [show ((1:Int)) = ((1:Nat):Int) from rfl,this,Nat.and_one_is_mod]
theorem odd_v {n:Nat} {w:World}:Calls Tryz.prog 32 #[.agg (nl n).toArray] w (fun e w'=>e = .returned (.bool (decide (n % 2 = 1)))∧Below w.heap.size w w'):=by
 go_enter Tryz.func32,Tryz.ntmps32
 have H:=box_has w (nl n) 25
 have c0:=(H.cellD (i:=0) (by decide)).1
 have d0:=dig_lt n 0
 have e0:dig n 0 % 2 = n % 2:=by unfold dig;simp
 obtain ⟨x,hx⟩:∃ x:Nat,dig n 0 = x:=⟨_,rfl⟩
 rw [hx] at c0 d0 e0
 rw [Nat.zero_add] at c0
 have C:Chg R0 w (w.alloc (.cells (nl n).toArray 25)):=(Chg.refl _ _).alloc _
 replace e0:=hd e0
 clear hx
 go_wp2_with fail
 go_ret
 have e0:=e0.out
 refine ⟨congrArg (fun b=>Ending.returned (Value.bool b)) (?_:_ = decide _),C.r0⟩
 rw [Bool.eq_iff_iff,beq_iff_eq,decide_eq_true_iff,and1_u32 d0]
 omega
theorem i64_word' {x y:Int} (e:x = y) (h:-9223372036854775808 ≤ y∧y < 9223372036854775808):IntKind.i64.wrap x = y:=by rw [e];exact i64_word y h
theorem wrap_i64 (x:Int) (h:-9223372036854775808 ≤ x∧x < 9223372036854775808):IntKind.i64.wrap x = x:=i64_word x h
theorem small_nl (x:Nat) (h:x < 4294967296):nl x = [.int .u32 x,.int .u32 0,.int .u32 0,.int .u32 0,.int .u32 0,.int .u32 0,.int .u32 0,.int .u32 0,.int .u32 0,.int .u32 0,.int .u32 0,.int .u32 0,.int .u32 0,.int .u32 0,.int .u32 0,.int .u32 0]:=by
 have d0:dig x 0 = x:=by unfold dig;simp;omega
 have ds:∀ j,j ≠ 0→dig x j = 0:=fun j hj=>by
  unfold dig
  rw [Nat.div_eq_of_lt]
  have:2 ^ 32 ≤ 2 ^ (32 * j):=Nat.pow_le_pow_right (by decide) (by omega)
  omega
 rw [show nl x = [.int .u32 (dig x 0:Nat),.int .u32 (dig x 1:Nat),.int .u32 (dig x 2:Nat),.int .u32 (dig x 3:Nat),.int .u32 (dig x 4:Nat),.int .u32 (dig x 5:Nat),.int .u32 (dig x 6:Nat),.int .u32 (dig x 7:Nat),.int .u32 (dig x 8:Nat),.int .u32 (dig x 9:Nat),.int .u32 (dig x 10:Nat),.int .u32 (dig x 11:Nat),.int .u32 (dig x 12:Nat),.int .u32 (dig x 13:Nat),.int .u32 (dig x 14:Nat),.int .u32 (dig x 15:Nat)] by unfold nl lst;rfl]
 rw [d0,ds 1 (by decide),ds 2 (by decide),ds 3 (by decide),ds 4 (by decide),ds 5 (by decide),ds 6 (by decide),ds 7 (by decide),ds 8 (by decide),ds 9 (by decide),ds 10 (by decide),ds 11 (by decide),ds 12 (by decide),ds 13 (by decide),ds 14 (by decide),ds 15 (by decide)]
 rfl
theorem small_v {x:Nat} {w:World} (hx:x < 4294967296):Calls Tryz.prog 30 #[.int .i64 x] w (fun e w'=>e = .returned (.agg (nl x).toArray)∧Below w.heap.size w w'):=by
 go_enter Tryz.func30,Tryz.ntmps30
 rw [small_nl x hx]
 go_wp2_with fail
 exact ret_cell (b:=w.heap.size) (o:=0) Tryz.results30 rfl (box_has w _ 25) rfl agg25 size25 rfl ⟨rfl,bA _ _⟩
theorem p_v {w:World}:Calls Tryz.prog 71 #[] w (fun e w'=>e = .returned (.agg (nl P).toArray)∧Below w.heap.size w w'):=by
 rw [show nl P = [.int .u32 4294967277,.int .u32 4294967295,.int .u32 4294967295,.int .u32 4294967295,.int .u32 4294967295,.int .u32 4294967295,.int .u32 4294967295,.int .u32 2147483647,.int .u32 0,.int .u32 0,.int .u32 0,.int .u32 0,.int .u32 0,.int .u32 0,.int .u32 0,.int .u32 0] by kernel_rfl]
 go_enter Tryz.func71,Tryz.ntmps71
 go_wp2_with fail
 exact ret_cell (b:=w.heap.size) (o:=0) Tryz.results71 rfl (box_has w _ 25) rfl agg25 size25 rfl ⟨rfl,bA _ _⟩
theorem l_v {w:World}:Calls Tryz.prog 19 #[] w (fun e w'=>e = .returned (.agg (nl LN).toArray)∧Below w.heap.size w w'):=by
 rw [show nl LN = [.int .u32 1559614445,.int .u32 1477600026,.int .u32 2734136534,.int .u32 350157278,.int .u32 0,.int .u32 0,.int .u32 0,.int .u32 268435456,.int .u32 0,.int .u32 0,.int .u32 0,.int .u32 0,.int .u32 0,.int .u32 0,.int .u32 0,.int .u32 0] by kernel_rfl]
 go_enter Tryz.func19,Tryz.ntmps19
 go_wp2_with fail
 exact ret_cell (b:=w.heap.size) (o:=0) Tryz.results19 rfl (box_has w _ 25) rfl agg25 size25 rfl ⟨rfl,bA _ _⟩
theorem bit_dig (n i:Nat):dig n (i / 32) / 2 ^ (i % 32) % 2 = n / 2 ^ i % 2:=by
 unfold dig
 have h2:2 ^ i = 2 ^ (32 * (i / 32)) * 2 ^ (i % 32):=by rw [←Nat.pow_add];congr 1;omega
 rw [h2,←Nat.div_div_eq_div_mul]
 generalize n / 2 ^ (32 * (i / 32)) = m
 obtain ⟨t,ht⟩:∃ t,32 = i % 32 + (1 + t):=⟨31 - i % 32,by omega⟩
 rw [show 4294967296 = 2 ^ (i % 32 + (1 + t)) by rw [←ht],Nat.pow_add,Nat.mod_mul_right_div_self,Nat.pow_add]
 exact Nat.mod_mod_of_dvd _ ⟨2 ^ t,rfl⟩
theorem bit_v {n i:Nat} {w:World} (hi:i < 512):Calls Tryz.prog 28 #[.agg (nl n).toArray,.int .i64 i] w (fun e w'=>e = .returned (.int .i64 ((n / 2 ^ i % 2:Nat):Int))∧Below w.heap.size w w'):=by
 have H:=box_has w (nl n) 25
 have c0:=(H.cellD (i:=i / 32) (by omega)).1
 rw [Nat.zero_add] at c0
 have d0:=dig_lt n (i / 32)
 have e0:=bit_dig n i
 obtain ⟨x,hx⟩:∃ x:Nat,dig n (i / 32) = x:=⟨_,rfl⟩
 rw [hx] at c0 d0 e0
 have C:Chg R0 w (w.alloc (.cells (nl n).toArray 25)):=(Chg.refl _ _).alloc _
 replace e0:=hd e0
 have q1:((i:Int)).tdiv 32 = ((i / 32:Nat):Int):=by rw [Int.tdiv_eq_ediv_of_nonneg (by omega)];omega
 have q2:((i:Int)).tmod 32 = ((i % 32:Nat):Int):=by rw [Int.tmod_eq_emod_of_nonneg (by omega)];omega
 have q3:((i / 32:Nat):Int) < 16:=by omega
 clear hx
 go_enter Tryz.func28,Tryz.ntmps28
 go_wp2_with fail
 go_ret
 have e0:=e0.out
 refine ⟨ret_int ?_,C.r0⟩
 rw [←e0]
 have e:((x:Int) / 2 ^ (i % 32)) = ((x / 2 ^ (i % 32):Nat):Int):=by push_cast;rfl
 rw [e,and1_u32 (Nat.lt_of_le_of_lt (Nat.div_le_self _ _) d0)]
 have h2:x / 2 ^ (i % 32) % 2 < 2:=Nat.mod_lt _ (by decide)
 unfold wrap64;omega
end Go.Proofs.Ed
