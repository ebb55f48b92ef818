/- A part of the proof of the tied card of FnTimes: Nfw. -/
import Derived.Test.YtcogfofgmbndjaaGreatDoorProg
import Derived.WalkKit
import Derived.WalkSpells
import Derived.WalkLawsBesides
import Derived.Outline
import Derived.StillTailTactics
import Derived.Test.YtcogfofgmbndjaaGreatDoorTBf
set_option maxRecDepth 100000
set_option maxHeartbeats 40000000
namespace Go.Proofs.Ed
open Go.RowKit
def arw (f:Nat→Nat) (L:Nat):List Value:=(List.range L).map fun j=>.int .u64 (f j:Nat)
theorem arw_length (f:Nat→Nat) (L:Nat):(arw f L).length = L:=by simp [arw]
theorem Has.cellW {w:World} {b o L:Nat} {f:Nat→Nat} (h:Has w b o (arw f L)) {i:Nat} (hi:i < L):w.cell? ⟨b,o + i,none⟩ = some (.int .u64 (f i:Nat))∧w.frozen? ⟨b,o + i,none⟩ = false:=by
 have:=h i (by rw [arw_length];exact hi)
 rwa [show (arw f L)[i]? = some (.int .u64 (f i:Nat)) by simp [arw,hi]] at this
theorem Has.cellB' {w:World} {b o N:Nat} (h:Has w b o (by32 (N:Nat))) {i:Nat} (hi:i < 32):w.cell? ⟨b,o + i,none⟩ = some (.int .u8 (byF N 32 i:Nat))∧w.frozen? ⟨b,o + i,none⟩ = false:=by
 rw [←by32_byL] at h;exact h.cellB hi
theorem arw_five (f:Nat→Nat):arw f 5 = [.int .u64 (f 0:Nat),.int .u64 (f 1:Nat),.int .u64 (f 2:Nat),.int .u64 (f 3:Nat),.int .u64 (f 4:Nat)]:=rfl
attribute [irreducible] arw
def nwd (N q:Nat):Nat:=N / 2 ^ (64 * q) % 2 ^ 64
theorem nwd_lt (N q:Nat):nwd N q < 18446744073709551616:=Nat.mod_lt _ (by decide)
theorem nwd4 {N:Nat} (h:N < 2 ^ 253):nwd N 4 = 0:=by
 unfold nwd
 rw [Nat.div_eq_of_lt (Nat.lt_trans h (by decide +kernel))]
theorem by32_nwd (N:Nat):by32 (N:Nat) = by8 (nwd N 0:Nat) ++ by8 (nwd N 1:Nat) ++ by8 (nwd N 2:Nat) ++ by8 (nwd N 3:Nat):=by
 have h0:((nwd N 0:Nat):Int) = (N:Int) % 18446744073709551616:=by
  unfold nwd;rw [show 2 ^ (64 * 0) = 1 by decide,show 2 ^ 64 = 18446744073709551616 by decide];omega
 have h1:((nwd N 1:Nat):Int) = (N:Int) / 18446744073709551616 % 18446744073709551616:=by
  unfold nwd;rw [show 2 ^ (64 * 1) = 18446744073709551616 by decide +kernel];omega
 have h2:((nwd N 2:Nat):Int) = (N:Int) / 340282366920938463463374607431768211456 % 18446744073709551616:=by
  unfold nwd;rw [show 2 ^ (64 * 2) = 340282366920938463463374607431768211456 by decide +kernel,show 2 ^ 64 = 18446744073709551616 by decide];omega
 have h3:((nwd N 3:Nat):Int) = (N:Int) / 6277101735386680763835789423207666416102355444464034512896 % 18446744073709551616:=by
  unfold nwd;rw [show 2 ^ (64 * 3) = 6277101735386680763835789423207666416102355444464034512896 by decide +kernel,show 2 ^ 64 = 18446744073709551616 by decide];omega
 rw [h0,h1,h2,h3];rfl
theorem le64b_l {k o len cap:Nat} {v:Nat} {w:World} (h8:8 ≤ len) (hl:len ≤ 64) (h:v < 18446744073709551616) (V:Has w k o (by8 (v:Nat))):Calls Tryz.prog 106 #[.slice (some ⟨k,o,none⟩) len cap] w fun e w'=>e = .returned (.int .u64 (v:Nat))∧w' = w:=by
 have:=le64b_c k o len cap _ _ _ _ _ _ _ _ w h8 hl (byte_mod _) (byte_mod _) (byte_mod _) (byte_mod _) (byte_mod _) (byte_mod _) (byte_mod _) (byte_mod _) V
 rwa [part0 (w0:=(v:Nat)) (by omega)] at this
theorem win1 {N q r w pos:Nat} (hp:pos = 64 * q + r) (hr:r + w ≤ 64):nwd N q / 2 ^ r % 2 ^ w = N / 2 ^ pos % 2 ^ w:=by
 unfold nwd
 rw [hp,Nat.pow_add,←Nat.div_div_eq_div_mul]
 generalize N / 2 ^ (64 * q) = M
 rw [show 2 ^ 64 = 2 ^ r * 2 ^ (64 - r) by rw [←Nat.pow_add];congr 1;omega,Nat.mod_mul_right_div_self]
 exact Nat.mod_mod_of_dvd _ (Nat.pow_dvd_pow 2 (by omega))
theorem win2 {N q r w pos:Nat} (hp:pos = 64 * q + r) (h64:r < 64) (hw:w ≤ 64) :
  (nwd N q / 2 ^ r ||| nwd N (q + 1) * 2 ^ (64 - r) % 2 ^ 64) % 2 ^ w = N / 2 ^ pos % 2 ^ w:=by
 unfold nwd
 rw [hp,Nat.pow_add 2 (64 * q),←Nat.div_div_eq_div_mul,show 64 * (q + 1) = 64 * q + 64 by omega,Nat.pow_add 2 (64 * q),←Nat.div_div_eq_div_mul]
 generalize N / 2 ^ (64 * q) = M
 have e:2 ^ 64 = 2 ^ (64 - r) * 2 ^ r:=by rw [←Nat.pow_add];congr 1;omega
 have e2:2 ^ 64 = 2 ^ w * 2 ^ (64 - w):=by rw [←Nat.pow_add];congr 1;omega
 have hA:M % 2 ^ 64 / 2 ^ r < 2 ^ (64 - r):=Nat.div_lt_of_lt_mul (by rw [Nat.mul_comm,←e];exact Nat.mod_lt _ (by decide))
 have hB:M / 2 ^ 64 % 2 ^ 64 * 2 ^ (64 - r) % 2 ^ 64 = 2 ^ (64 - r) * (M / 2 ^ 64 % 2 ^ r):=by
  rw [Nat.mul_comm,show (2 ^ (64 - r) * (M / 2 ^ 64 % 2 ^ 64) % 2 ^ 64) = 2 ^ (64 - r) * (M / 2 ^ 64 % 2 ^ 64) % (2 ^ (64 - r) * 2 ^ r) by rw [←e],Nat.mul_mod_mul_left,Nat.mod_mod_of_dvd _ (Nat.pow_dvd_pow 2 (by omega))]
 rw [hB,Nat.or_comm,←Nat.two_pow_add_eq_or_of_lt hA]
 have h1:M / 2 ^ r = 2 ^ (64 - r) * (M / 2 ^ 64) + M % 2 ^ 64 / 2 ^ r:=by
  conv=>lhs;rw [←Nat.div_add_mod M (2 ^ 64)]
  rw [show 2 ^ 64 * (M / 2 ^ 64) = 2 ^ r * (2 ^ (64 - r) * (M / 2 ^ 64)) by rw [←Nat.mul_assoc,Nat.mul_comm (2 ^ r),←e],Nat.mul_add_div (Nat.pow_pos (by decide))]
 have h2:2 ^ (64 - r) * (M / 2 ^ 64) = 2 ^ w * (2 ^ (64 - w) * (M / 2 ^ 64 / 2 ^ r)) + 2 ^ (64 - r) * (M / 2 ^ 64 % 2 ^ r):=by
  conv=>lhs;rw [←Nat.div_add_mod (M / 2 ^ 64) (2 ^ r)]
  rw [Nat.mul_add,←Nat.mul_assoc,←e,e2,Nat.mul_assoc]
 rw [h1,h2,Nat.add_assoc,Nat.mul_add_mod]
theorem and_mask {x w:Nat} (hx:x < 18446744073709551616) (hw:w ≤ 63):bits BinOp.and IntKind.u64 (x:Int) ((2 ^ w - 1:Nat):Int) = ((x % 2 ^ w:Nat):Int):=by
 rw [u64_and_nat _ _ hx (Nat.lt_of_lt_of_le (Nat.sub_lt (Nat.pow_pos (by decide)) (by decide)) (Nat.le_trans (Nat.pow_le_pow_right (by decide) hw) (by decide))),Nat.and_two_pow_sub_one_eq_mod]
theorem shr_nat (a r:Nat):(a:Int) / 2 ^ r = ((a / 2 ^ r:Nat):Int):=by rw [Int.natCast_ediv,Int.natCast_pow];rfl
theorem winA {N q r pos a w:Nat} (e:pos = 64 * q + r) (h:r + w ≤ 64) (hw:w ≤ 63) (qa:nwd N q = a):bits BinOp.and IntKind.u64 ((a:Int) / 2 ^ r) ((2 ^ w - 1:Nat):Int) = ((N / 2 ^ pos % 2 ^ w:Nat):Int):=by
 have:=nwd_lt N q
 rw [shr_nat,and_mask (Nat.lt_of_le_of_lt (Nat.div_le_self _ _) (qa ▸ this)) hw,←qa,win1 e h]
theorem winB {N q r pos a b w:Nat} (e:pos = 64 * q + r) (h64:r < 64) (hw:w ≤ 63) (qa:nwd N q = a) (qb:nwd N (q + 1) = b) :
  bits BinOp.and IntKind.u64 (bits BinOp.or IntKind.u64 ((a:Int) / 2 ^ r) (IntKind.u64.wrap ((b:Int) * 2 ^ (64 - r)))) ((2 ^ w - 1:Nat):Int) = ((N / 2 ^ pos % 2 ^ w:Nat):Int):=by
 have h1:a / 2 ^ r < 18446744073709551616:=Nat.lt_of_le_of_lt (Nat.div_le_self _ _) (qa ▸ nwd_lt N q)
 have h2:IntKind.u64.wrap ((b:Int) * 2 ^ (64 - r)) = ((b * 2 ^ (64 - r) % 2 ^ 64:Nat):Int):=by
  rw [wrap_u64,Int.natCast_emod,Int.natCast_mul,Int.natCast_pow];rfl
 have h3:b * 2 ^ (64 - r) % 2 ^ 64 < 18446744073709551616:=Nat.mod_lt _ (by decide)
 rw [shr_nat,h2,u64_or_nat _ _ h1 h3,and_mask (Nat.or_lt_two_pow (n:=64) h1 h3) hw,←qa,←qb,win2 e h64 (by omega)]
theorem and_1 {y:Int} (h:0 ≤ y∧y < 18446744073709551616):bits BinOp.and IntKind.u64 y 1 = y % 2:=by
 obtain ⟨n,rfl⟩:=Int.eq_ofNat_of_zero_le h.1
 exact (and_mask (x:=n) (w:=1) (by omega) (by decide)).trans (by omega)
theorem cast_div (N pos:Nat):(N:Int) / 2 ^ pos = ((N / 2 ^ pos:Nat):Int):=shr_nat N pos
theorem zero116:Tryz.zeroCells116 = (ari (fun _=>0) 256).toArray:=by unfold ari;kernel_rfl
theorem new116 (w:World):Has (w.alloc (Obj.cells Tryz.zeroCells116 116)) w.heap.size 0 (ari (fun _=>0) 256):=by
 rw [zero116]
 exact Has.new w _ 116
theorem agg116:∀ w,(isAgg 116).run Tryz.prog w = .ok true w:=fun w=>by simp [isAgg,go_sem]
theorem size116:∀ w,(sizeOf 116).run Tryz.prog w = .ok 256 w:=fun w=>by simp [go_sem]
theorem naf_e {bv ov:Nat} {z0 W0 n:Int} {w:World} (hw0:(z0 = 5∧W0 = 32)∨(z0 = 8∧W0 = 256)) (hs:Sc w bv ov n) :
  Calls Tryz.prog 61 #[Ptr bv ov,.int .u64 z0] w (fun e w'=>(∃ d,e = .returned (.agg (ari d 256).toArray)∧top d 256 = n∧(∀ j,d j = 0∨(d j % 2 = 1∧- (W0 / 2) < d j∧d j < W0 / 2)))∧Below w.heap.size w w'):=by
 have hn:=hs.1
 obtain ⟨N,rfl⟩:=Int.eq_ofNat_of_zero_le hn.1
 obtain ⟨hN,hN2⟩:=LL_bd hn.2
 replace hn:=hd hn
 replace hN2:=hd hN2
 replace hN:=hd hN
 have C:Chg R0 w w:=.refl _ _
 rcases hw0 with ⟨rfl,rfl⟩ | ⟨rfl,rfl⟩
 all_goals
  go_enter Tryz.func61,Tryz.ntmps61
  go_wp2_with fail
  obtain ⟨n1,ln1⟩:∃ n,w.heap.size = n:=⟨_,rfl⟩
  rw [ln1]
  have hb:=bA w (Obj.cells Tryz.zeroCells116 116)
  have R1:=(new116 w).room (ari_length _ _)
  rw [ln1] at R1
  have zn1:w.heap.size ≤ n1:=ln1 ▸ Nat.le_refl _
  replace C:=C.trans (Chg.of_below hb)
  replace hs:=hs.later hb
  refine cG (fun W=>Chg R0 w W∧Room W n1 0 256∧Sc W bv ov N) ⟨C,R1,hs⟩ ?_
  clear C R1 hs hb ln1
  rintro W ⟨C,R1,hs⟩
  refine (scBytes_e hs).mono ?_
  rintro e W ⟨n2,ln2,rfl,hb,X⟩
  have zn2:w.heap.size ≤ n2:=Nat.le_trans C.size ln2
  have y1:n1 < n2:=Nat.lt_of_lt_of_le (R1.lt (by decide)) ln2
  replace C:=C.trans (Chg.of_below hb)
  replace R1:=R1.later hb
  have c31:=(X.cellB' (i:=31) (by decide)).1
  have b31:=top_byte hN.out
  obtain ⟨x31,q31⟩:∃ x,byF N 32 31 = x:=⟨_,rfl⟩
  rw [q31,Nat.zero_add] at c31
  rw [q31] at b31
  have g31:¬ (127:Int) < x31:=by omega
  clear q31 hs hb ln2
  dsimp only
  repeat (first | go_values | go_skip | go_guarded | go_step | go_upon)
  obtain ⟨n3,ln3⟩:∃ n,W.heap.size = n:=⟨_,rfl⟩
  rw [ln3]
  have hb:=aB [Obj.cells Tryz.zeroCells116 116,Obj.cells (List.replicate 5 (.int .u64 0)).toArray 161] W
  have H:=(new116 W).later (bA _ (Obj.cells (List.replicate 5 (.int .u64 0)).toArray 161))
  have D:=Has.new (W.alloc (Obj.cells Tryz.zeroCells116 116)) (List.replicate 5 (.int .u64 0)) 161
  rw [size_alloc] at D
  rw [ln3] at H D
  have zn3:w.heap.size ≤ n3:=ln3 ▸ C.size
  have y2:n1 < n3:=ln3 ▸ R1.lt (by decide)
  have y3:n2 < n3:=ln3 ▸ X.lt (by rw [by32_length];decide)
  replace C:=C.trans (Chg.of_below hb)
  replace R1:=R1.later hb
  replace X:=X.later hb
  refine wp_gen (fun W=>Chg R0 w W∧Room W n1 0 256∧Has W n2 0 (by32 N)∧Has W n3 0 (ari (fun _=>0) 256)∧Has W (n3 + 1) 0 [.int .u64 0,.int .u64 0,.int .u64 0,.int .u64 0,.int .u64 0]) ⟨C,R1,X,H,D⟩ ?_
  clear C R1 X H D hb ln3 c31
  rintro W ⟨C,R1,X,H,D⟩
  rw [by32_nwd] at X
  refine wp_loop_rounds 5 ?_
  rw [rounds_succ]
  go_wp2_with fail
  refine (le64b_l (by decide) (by decide) (nwd_lt N 0) (X.sub 0 8 rfl)).mono ?_
  rintro e W1 ⟨rfl,he⟩
  obtain rfl:=he.symm
  clear he
  obtain ⟨⟨c0,c1,c2,c3,c4⟩,f0,f1,f2,f3,f4⟩:=D.five
  go_wp2_with fail
  refine rounds_gen (fun W=>Chg R0 w W∧Room W n1 0 256∧Has W n2 0 (by8 (nwd N 0:Nat) ++ by8 (nwd N 1:Nat) ++ by8 (nwd N 2:Nat) ++ by8 (nwd N 3:Nat))∧Has W n3 0 (ari (fun _=>0) 256)∧Has W (n3 + 1) 0 [.int .u64 (nwd N 0:Nat),.int .u64 0,.int .u64 0,.int .u64 0,.int .u64 0]) ⟨C.setCell _ (fun h=>absurd h (Nat.not_lt.2 (by omega))),(Chg.set1 _ _ _ _).room R1,X.off _ (fun e=>by omega),H.off _ (fun e=>by omega),D.set 0 rfl _⟩ ?_
  clear C R1 X H D c0 c1 c2 c3 c4 f0 f1 f2 f3 f4
  rintro W ⟨C,R1,X,H,D⟩
  rw [rounds_succ]
  go_wp2_with fail
  refine (le64b_l (by decide) (by decide) (nwd_lt N 1) (X.sub 8 8 rfl)).mono ?_
  rintro e W1 ⟨rfl,he⟩
  obtain rfl:=he.symm
  clear he
  obtain ⟨⟨c0,c1,c2,c3,c4⟩,f0,f1,f2,f3,f4⟩:=D.five
  go_wp2_with fail
  refine rounds_gen (fun W=>Chg R0 w W∧Room W n1 0 256∧Has W n2 0 (by8 (nwd N 0:Nat) ++ by8 (nwd N 1:Nat) ++ by8 (nwd N 2:Nat) ++ by8 (nwd N 3:Nat))∧Has W n3 0 (ari (fun _=>0) 256)∧Has W (n3 + 1) 0 [.int .u64 (nwd N 0:Nat),.int .u64 (nwd N 1:Nat),.int .u64 0,.int .u64 0,.int .u64 0]) ⟨C.setCell _ (fun h=>absurd h (Nat.not_lt.2 (by omega))),(Chg.set1 _ _ _ _).room R1,X.off _ (fun e=>by omega),H.off _ (fun e=>by omega),D.set 1 rfl _⟩ ?_
  clear C R1 X H D c0 c1 c2 c3 c4 f0 f1 f2 f3 f4
  rintro W ⟨C,R1,X,H,D⟩
  rw [rounds_succ]
  go_wp2_with fail
  refine (le64b_l (by decide) (by decide) (nwd_lt N 2) (X.sub 16 8 rfl)).mono ?_
  rintro e W1 ⟨rfl,he⟩
  obtain rfl:=he.symm
  clear he
  obtain ⟨⟨c0,c1,c2,c3,c4⟩,f0,f1,f2,f3,f4⟩:=D.five
  go_wp2_with fail
  refine rounds_gen (fun W=>Chg R0 w W∧Room W n1 0 256∧Has W n2 0 (by8 (nwd N 0:Nat) ++ by8 (nwd N 1:Nat) ++ by8 (nwd N 2:Nat) ++ by8 (nwd N 3:Nat))∧Has W n3 0 (ari (fun _=>0) 256)∧Has W (n3 + 1) 0 [.int .u64 (nwd N 0:Nat),.int .u64 (nwd N 1:Nat),.int .u64 (nwd N 2:Nat),.int .u64 0,.int .u64 0]) ⟨C.setCell _ (fun h=>absurd h (Nat.not_lt.2 (by omega))),(Chg.set1 _ _ _ _).room R1,X.off _ (fun e=>by omega),H.off _ (fun e=>by omega),D.set 2 rfl _⟩ ?_
  clear C R1 X H D c0 c1 c2 c3 c4 f0 f1 f2 f3 f4
  rintro W ⟨C,R1,X,H,D⟩
  rw [rounds_succ]
  go_wp2_with fail
  refine (le64b_l (by decide) (by decide) (nwd_lt N 3) (X.sub 24 8 rfl)).mono ?_
  rintro e W1 ⟨rfl,he⟩
  obtain rfl:=he.symm
  clear he
  obtain ⟨⟨c0,c1,c2,c3,c4⟩,f0,f1,f2,f3,f4⟩:=D.five
  go_wp2_with fail
  refine rounds_gen (fun W=>Chg R0 w W∧Room W n1 0 256∧Has W n2 0 (by8 (nwd N 0:Nat) ++ by8 (nwd N 1:Nat) ++ by8 (nwd N 2:Nat) ++ by8 (nwd N 3:Nat))∧Has W n3 0 (ari (fun _=>0) 256)∧Has W (n3 + 1) 0 [.int .u64 (nwd N 0:Nat),.int .u64 (nwd N 1:Nat),.int .u64 (nwd N 2:Nat),.int .u64 (nwd N 3:Nat),.int .u64 0]) ⟨C.setCell _ (fun h=>absurd h (Nat.not_lt.2 (by omega))),(Chg.set1 _ _ _ _).room R1,X.off _ (fun e=>by omega),H.off _ (fun e=>by omega),D.set 3 rfl _⟩ ?_
  clear C R1 X H D c0 c1 c2 c3 c4 f0 f1 f2 f3 f4
  rintro W ⟨C,R1,X,H,D⟩
  rw [rounds_succ]
  go_wp2_with fail
  clear X
  have z4:=nwd4 hN.out
  replace D:Has W (n3 + 1) 0 (arw (nwd N) 5):=by rw [arw_five,z4];exact D
  clear z4
 ·go_loopw [11,12] (fun p c W=>∃ (pos:Nat) (cc:Int) (d:Nat→Int),p = .int .u64 pos∧c = .int .u64 cc∧Naf N 32 pos cc d∧pos < 264∧Chg R0 w W∧Room W n1 0 256∧Has W n3 0 (ari d 256)∧Has W (n3 + 1) 0 (arw (nwd N) 5)) (fun p _ _=>264 - (intOf p).toNat)
  case atStart=>exact ⟨0,0,_,rfl,rfl,naf_start _ _,by omega,C,R1,H,D⟩
  case round =>
   clear C R1 H D
   obtain ⟨pos,cc,d,rfl,rfl,NF,hp,C,R1,H,D⟩:=hrel
   by_cases hlt:pos < 256
   ·obtain ⟨q,hq⟩:∃ q,pos / 64 = q:=⟨_,rfl⟩
    obtain ⟨r,hr⟩:∃ r,pos % 64 = r:=⟨_,rfl⟩
    have cH:=H.cellA (i:=pos) hlt
    have cD:=(D.cellW (i:=q) (by omega)).1
    have cE:=(D.cellW (i:=q + 1) (by omega)).1
    rw [Nat.zero_add] at cH cD cE
    obtain ⟨a,qa⟩:∃ a,nwd N q = a:=⟨_,rfl⟩
    obtain ⟨b,qb⟩:∃ b,nwd N (q + 1) = b:=⟨_,rfl⟩
    rw [qa] at cD
    rw [qb] at cE
    have kl:(pos:Int) < 256:=by omega
    have hqn:((pos:Int)) / 64 = q:=by omega
    have hrn:((pos:Int)) % 64 = r:=by omega
    have q4:(q:Int) < 5:=by omega
    have q5:(q:Int) + 1 < 5:=by omega
    have q6:((q:Int) + 1).toNat = q + 1:=by omega
    have q7:0 ≤ (q:Int) + 1:=by omega
    have q8:IntKind.u64.wrap (1 + (q:Int)) = (q:Int) + 1:=by rw [wrap_u64];omega
    have p1:IntKind.u64.wrap ((pos:Int) + 1) = (pos:Int) + 1:=by rw [wrap_u64];omega
    have p2:IntKind.u64.wrap ((pos:Int) + 5) = (pos:Int) + 5:=by rw [wrap_u64];omega
    have ep:pos = 64 * q + r:=by omega
    have r64:r < 64:=by omega
    have hX:=cast_div N pos
    obtain ⟨X,qX⟩:∃ X,N / 2 ^ pos = X:=⟨_,rfl⟩
    have car:=NF.car
    obtain ⟨y,qy⟩:∃ y,cc + (X:Int) % 32 = y:=⟨_,rfl⟩
    have yb:0 ≤ y∧y ≤ 32:=by omega
    have yw:IntKind.u64.wrap (cc + (X:Int) % 32) = y:=by rw [qy,wrap_u64];omega
    have y1:=and_1 (y:=y) (by omega)
    have ev:y % 2 = 0→Naf N 32 (pos + 1) cc d:=fun h=>NF.even (by omega) (by rw [hX,qX];omega)
    have od:y % 2 = 1→(y < 16→Naf N 32 (pos + 5) 0 (upd d pos y))∧(¬ y < 16→Naf N 32 (pos + 5) 1 (upd d pos (y - 32))):=fun h=>by
     have:=NF.odd (w:=5) (by decide) (by decide) (by decide) (by omega) hlt (by decide) (by rw [hX,qX];omega)
     rw [hX,qX,show cc + (X:Int) % 32 = y by omega] at this
     exact this
    replace ev:=hd ev
    replace od:=hd od
    replace NF:=hd NF
    have am:bits BinOp.and IntKind.u64 (if r < 59 then (a:Int) / 2 ^ r else bits BinOp.or IntKind.u64 ((a:Int) / 2 ^ r) (IntKind.u64.wrap ((b:Int) * 2 ^ (64 - r)))) 31 = ((X % 32:Nat):Int):=by
     subst qX
     by_cases h5:r < 59
     ·rw [if_pos h5];exact winA (w:=5) ep (by omega) (by decide) qa
     ·rw [if_neg h5]
      exact winB (w:=5) ep r64 (by decide) qa qb
    clear hq hr hX qX qy car qa qb ep r64
    by_cases h5:r < 59
    ·have h59:(r:Int) < 59:=by omega
     rw [if_pos h5] at am
     by_cases hy:y % 2 = 0
     ·go_wp2_with fail
      exact ⟨⟨pos + 1,cc,d,by push_cast;rfl,rfl,ev.out hy,by omega,C,R1,H,D⟩,by simp [intOf];omega⟩
     ·have hy1:y % 2 = 1:=by omega
      by_cases hs:y < 16
      ·have i1:IntKind.i8.wrap y = y:=i8w (by omega)
       go_wp2_with fail
       have h1:=H.set pos (by omega:pos = 0 + pos) (.int .i8 y)
       rw [ari_set] at h1
       exact ⟨⟨pos + 5,0,upd d pos y,by push_cast;rfl,rfl,(od.out hy1).1 hs,by omega,C.setCell _ (fun h=>absurd h (Nat.not_lt.2 (by omega))),(Chg.set1 _ _ _ _).room R1,h1,D.off _ (fun e=>by omega)⟩,by simp [intOf];omega⟩
      ·have i1:IntKind.i8.wrap y = y:=i8w (by omega)
       have i2:IntKind.i8.wrap (y - 32) = y - 32:=i8w (by omega)
       go_wp2_with fail
       have h1:=H.set pos (by omega:pos = 0 + pos) (.int .i8 (y - 32))
       rw [ari_set] at h1
       exact ⟨⟨pos + 5,1,upd d pos (y - 32),by push_cast;rfl,rfl,(od.out hy1).2 hs,by omega,C.setCell _ (fun h=>absurd h (Nat.not_lt.2 (by omega))),(Chg.set1 _ _ _ _).room R1,h1,D.off _ (fun e=>by omega)⟩,by simp [intOf];omega⟩
    ·have h59:¬ (r:Int) < 59:=by omega
     have h60:(59:Int) ≤ r:=by omega
     have r1:IntKind.u64.wrap (64 - (r:Int)) = 64 - r:=by rw [wrap_u64];omega
     have r2:0 ≤ 64 - (r:Int):=by omega
     have r3:(64 - (r:Int)).toNat = 64 - r:=by omega
     rw [if_neg h5] at am
     repeat (first | go_values | go_skip | go_guarded | go_step | go_upon)
     go_still_tail 13,(by kernel_rfl)
     by_cases hy:y % 2 = 0
     ·go_wp2_with fail
      exact ⟨⟨pos + 1,cc,d,by push_cast;rfl,rfl,ev.out hy,by omega,C.drew,R1,H,D⟩,by simp [intOf];omega⟩
     ·have hy1:y % 2 = 1:=by omega
      by_cases hs:y < 16
      ·have i1:IntKind.i8.wrap y = y:=i8w (by omega)
       go_wp2_with fail
       have h1:=H.set pos (by omega:pos = 0 + pos) (.int .i8 y)
       rw [ari_set] at h1
       exact ⟨⟨pos + 5,0,upd d pos y,by push_cast;rfl,rfl,(od.out hy1).1 hs,by omega,C.drew.setCell _ (fun h=>absurd h (Nat.not_lt.2 (by omega))),(Chg.set1 _ _ _ _).room R1,h1,D.off _ (fun e=>by omega)⟩,by simp [intOf];omega⟩
      ·have i1:IntKind.i8.wrap y = y:=i8w (by omega)
       have i2:IntKind.i8.wrap (y - 32) = y - 32:=i8w (by omega)
       go_wp2_with fail
       have h1:=H.set pos (by omega:pos = 0 + pos) (.int .i8 (y - 32))
       rw [ari_set] at h1
       exact ⟨⟨pos + 5,1,upd d pos (y - 32),by push_cast;rfl,rfl,(od.out hy1).2 hs,by omega,C.drew.setCell _ (fun h=>absurd h (Nat.not_lt.2 (by omega))),(Chg.set1 _ _ _ _).room R1,h1,D.off _ (fun e=>by omega)⟩,by simp [intOf];omega⟩
   ·have kl:¬ (pos:Int) < 256:=by omega
    have kl2:(256:Int) ≤ pos:=by omega
    have top1:=NF.done (by omega) hN2.out (by omega)
    have dg1:=NF.dig
    clear D NF
    replace top1:=hd top1
    replace dg1:=hd dg1
    repeat ((fail_if_success with_reducible refine sl 116 ?_);first | go_step | dsimp only)
    refine wL (b:=n3) (o:=0) rfl H (ari_length _ _) agg116 size116 ?_
    simp only [Act.put,iA,iB,iC]
    repeat ((fail_if_success with_reducible refine ss 116 ?_);first | go_step | dsimp only)
    refine wS (b:=n1) (o:=0) rfl rfl R1 (ari_length _ _) (ari_one _ _) size116 ?_
    simp only [Act.put]
    have hc:Chg (Rg n1 0 256) wr (World.setCells wr n1 0 (ari d 256)):=by have:=putL_chg (w:=wr) (b:=n1) (o:=0) (vs:=ari d 256);rwa [ari_length] at this
    have HR:=putL_has (w:=wr) (b:=n1) (o:=0) (vs:=ari d 256) (by rw [ari_length];exact R1)
    replace C:=C.loc hc (by omega)
    clear hc R1 H
    go_wp2_with fail
    exact ret_cell (b:=n1) (o:=0) Tryz.results61 rfl HR (ari_length _ _) agg116 size116 rfl ⟨⟨d,rfl,top1.out,dg1.out⟩,C.r0⟩
 ·go_loopw [11,12] (fun p c W=>∃ (pos:Nat) (cc:Int) (d:Nat→Int),p = .int .u64 pos∧c = .int .u64 cc∧Naf N 256 pos cc d∧pos < 264∧Chg R0 w W∧Room W n1 0 256∧Has W n3 0 (ari d 256)∧Has W (n3 + 1) 0 (arw (nwd N) 5)) (fun p _ _=>264 - (intOf p).toNat)
  case atStart=>exact ⟨0,0,_,rfl,rfl,naf_start _ _,by omega,C,R1,H,D⟩
  case round =>
   clear C R1 H D
   obtain ⟨pos,cc,d,rfl,rfl,NF,hp,C,R1,H,D⟩:=hrel
   by_cases hlt:pos < 256
   ·obtain ⟨q,hq⟩:∃ q,pos / 64 = q:=⟨_,rfl⟩
    obtain ⟨r,hr⟩:∃ r,pos % 64 = r:=⟨_,rfl⟩
    have cH:=H.cellA (i:=pos) hlt
    have cD:=(D.cellW (i:=q) (by omega)).1
    have cE:=(D.cellW (i:=q + 1) (by omega)).1
    rw [Nat.zero_add] at cH cD cE
    obtain ⟨a,qa⟩:∃ a,nwd N q = a:=⟨_,rfl⟩
    obtain ⟨b,qb⟩:∃ b,nwd N (q + 1) = b:=⟨_,rfl⟩
    rw [qa] at cD
    rw [qb] at cE
    have kl:(pos:Int) < 256:=by omega
    have hqn:((pos:Int)) / 64 = q:=by omega
    have hrn:((pos:Int)) % 64 = r:=by omega
    have q4:(q:Int) < 5:=by omega
    have q5:(q:Int) + 1 < 5:=by omega
    have q6:((q:Int) + 1).toNat = q + 1:=by omega
    have q7:0 ≤ (q:Int) + 1:=by omega
    have q8:IntKind.u64.wrap (1 + (q:Int)) = (q:Int) + 1:=by rw [wrap_u64];omega
    have p1:IntKind.u64.wrap ((pos:Int) + 1) = (pos:Int) + 1:=by rw [wrap_u64];omega
    have p2:IntKind.u64.wrap ((pos:Int) + 8) = (pos:Int) + 8:=by rw [wrap_u64];omega
    have ep:pos = 64 * q + r:=by omega
    have r64:r < 64:=by omega
    have hX:=cast_div N pos
    obtain ⟨X,qX⟩:∃ X,N / 2 ^ pos = X:=⟨_,rfl⟩
    have car:=NF.car
    obtain ⟨y,qy⟩:∃ y,cc + (X:Int) % 256 = y:=⟨_,rfl⟩
    have yb:0 ≤ y∧y ≤ 256:=by omega
    have yw:IntKind.u64.wrap (cc + (X:Int) % 256) = y:=by rw [qy,wrap_u64];omega
    have y1:=and_1 (y:=y) (by omega)
    have ev:y % 2 = 0→Naf N 256 (pos + 1) cc d:=fun h=>NF.even (by omega) (by rw [hX,qX];omega)
    have od:y % 2 = 1→(y < 128→Naf N 256 (pos + 8) 0 (upd d pos y))∧(¬ y < 128→Naf N 256 (pos + 8) 1 (upd d pos (y - 256))):=fun h=>by
     have:=NF.odd (w:=8) (by decide) (by decide) (by decide) (by omega) hlt (by decide) (by rw [hX,qX];omega)
     rw [hX,qX,show cc + (X:Int) % 256 = y by omega] at this
     exact this
    replace ev:=hd ev
    replace od:=hd od
    replace NF:=hd NF
    have am:bits BinOp.and IntKind.u64 (if r < 56 then (a:Int) / 2 ^ r else bits BinOp.or IntKind.u64 ((a:Int) / 2 ^ r) (IntKind.u64.wrap ((b:Int) * 2 ^ (64 - r)))) 255 = ((X % 256:Nat):Int):=by
     subst qX
     by_cases h5:r < 56
     ·rw [if_pos h5];exact winA (w:=8) ep (by omega) (by decide) qa
     ·rw [if_neg h5]
      exact winB (w:=8) ep r64 (by decide) qa qb
    clear hq hr hX qX qy car qa qb ep r64
    by_cases h5:r < 56
    ·have h59:(r:Int) < 56:=by omega
     rw [if_pos h5] at am
     by_cases hy:y % 2 = 0
     ·go_wp2_with fail
      exact ⟨⟨pos + 1,cc,d,by push_cast;rfl,rfl,ev.out hy,by omega,C,R1,H,D⟩,by simp [intOf];omega⟩
     ·have hy1:y % 2 = 1:=by omega
      by_cases hs:y < 128
      ·have i1:IntKind.i8.wrap y = y:=i8w (by omega)
       go_wp2_with fail
       have h1:=H.set pos (by omega:pos = 0 + pos) (.int .i8 y)
       rw [ari_set] at h1
       exact ⟨⟨pos + 8,0,upd d pos y,by push_cast;rfl,rfl,(od.out hy1).1 hs,by omega,C.setCell _ (fun h=>absurd h (Nat.not_lt.2 (by omega))),(Chg.set1 _ _ _ _).room R1,h1,D.off _ (fun e=>by omega)⟩,by simp [intOf];omega⟩
      ·have i1:IntKind.i8.wrap y = y - 256:=by simp [IntKind.wrap,IntKind.bits,IntKind.signed];omega
       have i3:IntKind.i8.wrap 256 = 0:=by decide
       have i2:IntKind.i8.wrap (y - 256) = y - 256:=i8w (by omega)
       go_wp2_with fail
       have h1:=H.set pos (by omega:pos = 0 + pos) (.int .i8 (y - 256))
       rw [ari_set] at h1
       exact ⟨⟨pos + 8,1,upd d pos (y - 256),by push_cast;rfl,rfl,(od.out hy1).2 hs,by omega,C.setCell _ (fun h=>absurd h (Nat.not_lt.2 (by omega))),(Chg.set1 _ _ _ _).room R1,h1,D.off _ (fun e=>by omega)⟩,by simp [intOf];omega⟩
    ·have h59:¬ (r:Int) < 56:=by omega
     have h60:(56:Int) ≤ r:=by omega
     have r1:IntKind.u64.wrap (64 - (r:Int)) = 64 - r:=by rw [wrap_u64];omega
     have r2:0 ≤ 64 - (r:Int):=by omega
     have r3:(64 - (r:Int)).toNat = 64 - r:=by omega
     rw [if_neg h5] at am
     repeat (first | go_values | go_skip | go_guarded | go_step | go_upon)
     go_still_tail 13,(by kernel_rfl)
     by_cases hy:y % 2 = 0
     ·go_wp2_with fail
      exact ⟨⟨pos + 1,cc,d,by push_cast;rfl,rfl,ev.out hy,by omega,C.drew,R1,H,D⟩,by simp [intOf];omega⟩
     ·have hy1:y % 2 = 1:=by omega
      by_cases hs:y < 128
      ·have i1:IntKind.i8.wrap y = y:=i8w (by omega)
       go_wp2_with fail
       have h1:=H.set pos (by omega:pos = 0 + pos) (.int .i8 y)
       rw [ari_set] at h1
       exact ⟨⟨pos + 8,0,upd d pos y,by push_cast;rfl,rfl,(od.out hy1).1 hs,by omega,C.drew.setCell _ (fun h=>absurd h (Nat.not_lt.2 (by omega))),(Chg.set1 _ _ _ _).room R1,h1,D.off _ (fun e=>by omega)⟩,by simp [intOf];omega⟩
      ·have i1:IntKind.i8.wrap y = y - 256:=by simp [IntKind.wrap,IntKind.bits,IntKind.signed];omega
       have i3:IntKind.i8.wrap 256 = 0:=by decide
       have i2:IntKind.i8.wrap (y - 256) = y - 256:=i8w (by omega)
       go_wp2_with fail
       have h1:=H.set pos (by omega:pos = 0 + pos) (.int .i8 (y - 256))
       rw [ari_set] at h1
       exact ⟨⟨pos + 8,1,upd d pos (y - 256),by push_cast;rfl,rfl,(od.out hy1).2 hs,by omega,C.drew.setCell _ (fun h=>absurd h (Nat.not_lt.2 (by omega))),(Chg.set1 _ _ _ _).room R1,h1,D.off _ (fun e=>by omega)⟩,by simp [intOf];omega⟩
   ·have kl:¬ (pos:Int) < 256:=by omega
    have kl2:(256:Int) ≤ pos:=by omega
    have top1:=NF.done (by omega) hN2.out (by omega)
    have dg1:=NF.dig
    clear D NF
    replace top1:=hd top1
    replace dg1:=hd dg1
    repeat ((fail_if_success with_reducible refine sl 116 ?_);first | go_step | dsimp only)
    refine wL (b:=n3) (o:=0) rfl H (ari_length _ _) agg116 size116 ?_
    simp only [Act.put,iA,iB,iC]
    repeat ((fail_if_success with_reducible refine ss 116 ?_);first | go_step | dsimp only)
    refine wS (b:=n1) (o:=0) rfl rfl R1 (ari_length _ _) (ari_one _ _) size116 ?_
    simp only [Act.put]
    have hc:Chg (Rg n1 0 256) wr (World.setCells wr n1 0 (ari d 256)):=by have:=putL_chg (w:=wr) (b:=n1) (o:=0) (vs:=ari d 256);rwa [ari_length] at this
    have HR:=putL_has (w:=wr) (b:=n1) (o:=0) (vs:=ari d 256) (by rw [ari_length];exact R1)
    replace C:=C.loc hc (by omega)
    clear hc R1 H
    go_wp2_with fail
    exact ret_cell (b:=n1) (o:=0) Tryz.results61 rfl HR (ari_length _ _) agg116 size116 rfl ⟨⟨d,rfl,top1.out,dg1.out⟩,C.r0⟩
end Go.Proofs.Ed
