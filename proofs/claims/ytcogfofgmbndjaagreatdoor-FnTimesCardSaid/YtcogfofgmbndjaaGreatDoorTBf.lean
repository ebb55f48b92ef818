/- A part of the proof of the tied card of FnTimes: Dig, Arr, Scl, Rdx. -/
import Derived.Test.YtcogfofgmbndjaaGreatDoorProg
import Derived.WalkKit
import Derived.WalkSpells
import Derived.WalkLawsBesides
import Derived.Outline
import Derived.StillTailTactics
import Derived.Test.YtcogfofgmbndjaaGreatDoorTAb
import Derived.Test.YtcogfofgmbndjaaGreatDoorTAw
import Derived.Test.YtcogfofgmbndjaaGreatDoorTAf
import Derived.Test.YtcogfofgmbndjaaGreatDoorTAg
import Derived.Test.YtcogfofgmbndjaaGreatDoorTAh
import Derived.Test.YtcogfofgmbndjaaGreatDoorTAi
import Derived.Test.YtcogfofgmbndjaaGreatDoorTBe
import Derived.Test.YtcogfofgmbndjaaGreatDoorTAp
set_option maxRecDepth 100000
set_option maxHeartbeats 40000000
namespace Go.Proofs.Ed
def nib (m:Int) (i:Nat):Int:=m / 16 ^ i % 16
def cr (m:Int):Nat→Int
 | 0=>0
 | i + 1=>(nib m i + cr m i + 8) / 16
def dg (m:Int) (i:Nat):Int:=nib m i + cr m i - 16 * cr m (i + 1)
theorem nib_bd (m:Int) (i:Nat):0 ≤ nib m i∧nib m i < 16:=by unfold nib;omega
theorem cr_succ (m:Int) (i:Nat):cr m (i + 1) = (nib m i + cr m i + 8) / 16:=rfl
theorem cr_bd (m:Int) (i:Nat):0 ≤ cr m i∧cr m i ≤ 1:=by
 induction i with
 | zero=>unfold cr;decide
 | succ i ih =>
  have:=nib_bd m i
  rw [cr_succ];omega
theorem dg_bd (m:Int) (i:Nat):-8 ≤ dg m i∧dg m i ≤ 8:=by
 have h1:=nib_bd m i
 have h2:=cr_bd m i
 unfold dg
 rw [cr_succ];omega
theorem div_step (m:Int) (i:Nat):m / 16 ^ i = 16 * (m / 16 ^ (i + 1)) + nib m i:=by
 have h:m / 16 ^ (i + 1) = m / 16 ^ i / 16:=by
  rw [Int.pow_succ,Int.ediv_ediv_of_nonneg (by exact Int.pow_nonneg (by decide))]
 unfold nib
 rw [h];omega
theorem cr_last {m:Int} (h0:0 ≤ m) (h1:m < 14474011154664524427946373126085988481658748083205070504932198000989141204992):cr m 64 = 0:=by
 have h2:=cr_bd m 63
 have h3:nib m 63 < 2:=by
  unfold nib
  have:(16:Int) ^ 63 = 7237005577332262213973186563042994240829374041602535252466099000494570602496:=by decide +kernel
  rw [this];omega
 have h4:=nib_bd m 63
 rw [cr_succ];omega
def hi (m:Int) (i:Nat):Int:=m / 16 ^ i + cr m i
theorem hi_zero (m:Int):hi m 0 = m:=by unfold hi cr;simp
theorem hi_last {m:Int} (h0:0 ≤ m) (h1:m < 14474011154664524427946373126085988481658748083205070504932198000989141204992):hi m 64 = 0:=by
 unfold hi
 rw [cr_last h0 h1]
 have:(16:Int) ^ 64 = 115792089237316195423570985008687907853269984665640564039457584007913129639936:=by decide +kernel
 rw [this];omega
theorem hi_step (m:Int) (i:Nat):hi m i = 16 * hi m (i + 1) + dg m i:=by
 unfold hi dg
 have:=div_step m i
 omega
theorem hi_63 {m:Int} (h0:0 ≤ m) (h1:m < 14474011154664524427946373126085988481658748083205070504932198000989141204992):hi m 63 = dg m 63:=by
 rw [hi_step,hi_last h0 h1];omega
def ev (m:Int):Nat→Int
 | 0=>0
 | k + 1=>ev m k + 256 ^ k * dg m (2 * k)
def od (m:Int):Nat→Int
 | 0=>0
 | k + 1=>od m k + 256 ^ k * dg m (2 * k + 1)
theorem ev_od (m:Int) (k:Nat):ev m k + 16 * od m k + 256 ^ k * hi m (2 * k) = m:=by
 induction k with
 | zero=>simp [ev,od,hi_zero]
 | succ k ih =>
  have h1:=hi_step m (2 * k)
  have h2:=hi_step m (2 * k + 1)
  rw [show 2 * (k + 1) = 2 * k + 1 + 1 by omega]
  unfold ev od
  rw [Int.pow_succ]
  generalize (256:Int) ^ k = t at *
  rw [h1,h2] at ih
  generalize hi m (2 * k + 1 + 1) = z at *
  generalize dg m (2 * k) = a at *
  generalize dg m (2 * k + 1) = b at *
  generalize ev m k = e at *
  generalize od m k = o at *
  grind
theorem ev_od_32 {m:Int} (h0:0 ≤ m) (h1:m < 14474011154664524427946373126085988481658748083205070504932198000989141204992):ev m 32 + 16 * od m 32 = m:=by
 have:=ev_od m 32
 rw [hi_last h0 h1] at this
 omega
def low (d:Nat→Int):Nat→Int
 | 0=>0
 | k + 1=>low d k + 2 ^ k * d k
def top (d:Nat→Int):Nat→Int
 | 0=>0
 | k + 1=>2 * top d k + d (255 - k)
theorem low_succ (d:Nat→Int) (k:Nat):low d (k + 1) = low d k + 2 ^ k * d k:=rfl
theorem low_zero (d:Nat→Int):low d 0 = 0:=rfl
theorem top_succ (d:Nat→Int) (k:Nat):top d (k + 1) = 2 * top d k + d (255 - k):=rfl
theorem low_top (d:Nat→Int) (k:Nat) (hk:k ≤ 256):low d 256 = low d (256 - k) + 2 ^ (256 - k) * top d k:=by
 induction k with
 | zero=>simp [top]
 | succ k ih =>
  have:=ih (by omega)
  rw [this,show 256 - k = (256 - (k + 1)) + 1 by omega]
  rw [low_succ,top_succ,show 255 - k = 256 - (k + 1) by omega,Int.pow_succ]
  generalize (2:Int) ^ (256 - (k + 1)) = t
  generalize low d (256 - (k + 1)) = a
  generalize d (256 - (k + 1)) = b
  generalize top d k = c
  grind
def upd (d:Nat→Int) (i:Nat) (v:Int):Nat→Int:=fun j=>if j = i then v else d j
theorem low_upd (d:Nat→Int) (i:Nat) (v:Int) (k:Nat) (hk:k ≤ i):low (upd d i v) k = low d k:=by
 induction k with
 | zero=>rfl
 | succ k ih =>
  rw [low_succ,low_succ,ih (by omega)]
  unfold upd
  rw [if_neg (by omega)]
theorem low_stop (d:Nat→Int) (k t:Nat) (h:∀ j,k ≤ j→d j = 0):low d (k + t) = low d k:=by
 induction t with
 | zero=>rfl
 | succ t ih =>
  rw [←Nat.add_assoc,low_succ,ih,h (k + t) (by omega)]
  simp
structure Naf (m W:Int) (pos:Nat) (c:Int) (d:Nat→Int):Prop where
 sum:low d pos + 2 ^ pos * (c + m / 2 ^ pos) = m
 car:c = 0∨c = 1
 big:c = 1→2 ^ pos ≤ 2 * m
 nil:∀ j,pos ≤ j∨256 ≤ j→d j = 0
 dig:∀ j,d j = 0∨(d j % 2 = 1∧- (W / 2) < d j∧d j < W / 2)
theorem naf_start (m W:Int):Naf m W 0 0 (fun _=>0) :=
 ⟨by simp [low],.inl rfl,(by intro h;cases h),fun _ _=>rfl,fun _=>.inl rfl⟩
theorem pow2_pos (n:Nat):(0:Int) < 2 ^ n:=Int.pow_pos (by decide)
theorem div_pow_succ (m:Int) (n w:Nat):m / 2 ^ (n + w) = m / 2 ^ n / 2 ^ w:=by
 rw [Int.pow_add,Int.ediv_ediv_of_nonneg (by have:=pow2_pos n;omega)]
theorem mul_div_le (m:Int) (n:Nat):2 ^ n * (m / 2 ^ n) ≤ m:=by
 have h:=pow2_pos n
 have:=Int.mul_ediv_add_emod m (2 ^ n)
 have:=Int.emod_nonneg m (show (2:Int) ^ n ≠ 0 by omega)
 omega
theorem mul_le_of {a b c m:Int} (ha:0 ≤ a) (h:b ≤ c) (h2:a * c ≤ m):a * b ≤ m:=Int.le_trans (Int.mul_le_mul_of_nonneg_left h ha) h2
theorem Naf.even {m W:Int} {pos:Nat} {c:Int} {d:Nat→Int} (h:Naf m W pos c d) (hm:0 ≤ m) (hw:(c + m / 2 ^ pos) % 2 = 0):Naf m W (pos + 1) c d:=by
 have hp:=pow2_pos pos
 have hq:0 ≤ m / 2 ^ pos:=Int.ediv_nonneg hm (by omega)
 have hn:=h.nil pos (.inl (Nat.le_refl _))
 have hl:=mul_div_le m pos
 refine ⟨?_,h.car,?_,fun j hj=>h.nil j (by omega),h.dig⟩
 ·have hs:=h.sum
  unfold low
  rw [hn,div_pow_succ,Int.pow_succ]
  rw [show (2:Int) ^ 1 = 2 by decide]
  have e:c + m / 2 ^ pos = 2 * (c + m / 2 ^ pos / 2):=by rcases h.car with h | h<;>omega
  rw [e] at hs
  generalize (2:Int) ^ pos = t at *
  rw [show t * 2 * (c + m / t / 2) = t * (2 * (c + m / t / 2)) by rw [Int.mul_assoc]]
  omega
 ·intro hc
  rw [hc] at hw
  have h1:1 ≤ m / 2 ^ pos:=by omega
  have:=mul_le_of (by omega) h1 hl
  rw [Int.pow_succ];omega
theorem Naf.odd {m W:Int} {w:Nat} (hW:W = 2 ^ w) (hw4:W % 4 = 0) (hw0:0 < W) {pos:Nat} {c:Int} {d:Nat→Int} (h:Naf m W pos c d) (hm:0 ≤ m) (hpos:pos < 256) (h1:1 ≤ w)
  (hw:(c + m / 2 ^ pos % W) % 2 = 1) :
  (c + m / 2 ^ pos % W < W / 2→Naf m W (pos + w) 0 (upd d pos (c + m / 2 ^ pos % W))) ∧
  (¬ c + m / 2 ^ pos % W < W / 2→Naf m W (pos + w) 1 (upd d pos (c + m / 2 ^ pos % W - W))):=by
 have hp:=pow2_pos pos
 have hq:0 ≤ m / 2 ^ pos:=Int.ediv_nonneg hm (by omega)
 have hl:=mul_div_le m pos
 have hqW:=Int.mul_ediv_add_emod (m / 2 ^ pos) W
 have hr0:=Int.emod_nonneg (m / 2 ^ pos) (show W ≠ 0 by omega)
 have hr1:=Int.emod_lt_of_pos (m / 2 ^ pos) hw0
 have hc01:=h.car
 have gen:∀ v c':Int,c + m / 2 ^ pos = v + W * (c' + m / 2 ^ pos / W)→low (upd d pos v) (pos + w) + 2 ^ (pos + w) * (c' + m / 2 ^ (pos + w)) = m:=by
  intro v c' e
  have hs:=h.sum
  have e1:low (upd d pos v) (pos + w) = low d pos + 2 ^ pos * v:=by
   obtain ⟨t,rfl⟩:∃ t,w = 1 + t:=⟨w - 1,by omega⟩
   rw [←Nat.add_assoc,low_stop]
   ·rw [low_succ,low_upd _ _ _ _ (Nat.le_refl _)]
    unfold upd
    rw [if_pos rfl]
   ·intro j hj
    unfold upd
    rw [if_neg (by omega)]
    exact h.nil j (by omega)
  rw [e1,div_pow_succ,←hW,Int.pow_add,←hW]
  rw [e] at hs
  generalize (2:Int) ^ pos = t at *
  rw [Int.mul_add,←Int.mul_assoc] at hs
  rw [Int.add_assoc];exact hs
 have nil:∀ v:Int,∀ j,pos + w ≤ j∨256 ≤ j→upd d pos v j = 0:=by
  intro v j hj
  unfold upd
  rw [if_neg (by omega)]
  exact h.nil j (by omega)
 have dig:∀ v:Int,v % 2 = 1→- (W / 2) < v→v < W / 2→∀ j,upd d pos v j = 0∨(upd d pos v j % 2 = 1∧- (W / 2) < upd d pos v j∧upd d pos v j < W / 2):=by
  intro v v1 v2 v3 j
  unfold upd
  split
  ·exact .inr ⟨v1,v2,v3⟩
  ·exact h.dig j
 generalize hQ:m / 2 ^ pos = q at *
 generalize hR:q % W = r at *
 generalize hD:q / W = qq at *
 refine ⟨fun hlt=>⟨gen _ _ ?_,.inl rfl,(by intro h;cases h),nil _,dig _ hw (by omega) hlt⟩,fun hge=>⟨gen _ _ ?_,.inr rfl,?_,nil _,dig _ (by omega) (by omega) (by omega)⟩⟩
 ·rw [Int.zero_add];omega
 ·rw [Int.mul_add];omega
 ·intro _
  have h2:W / 2 ≤ q:=by
   have:W / 2 ≤ r:=by omega
   have h3:0 ≤ qq:=by rw [←hD];exact Int.ediv_nonneg hq (by omega)
   have:=Int.mul_nonneg (show 0 ≤ W by omega) h3
   omega
  have h3:=mul_le_of (by omega) h2 hl
  rw [Int.pow_add,←hW]
  have:(2:Int) ^ pos * W = 2 * (2 ^ pos * (W / 2)):=by
   have:W = 2 * (W / 2):=by omega
   generalize (2:Int) ^ pos = t at *
   rw [←Int.mul_assoc,Int.mul_comm 2 t,Int.mul_assoc,←this]
  omega
theorem pow2_mono {a b:Nat} (h:a ≤ b):(2:Int) ^ a ≤ 2 ^ b:=by
 obtain ⟨t,rfl⟩:∃ t,b = a + t:=⟨b - a,by omega⟩
 have h1:=pow2_pos a
 have h2:=pow2_pos t
 rw [Int.pow_add]
 have:=Int.mul_le_mul_of_nonneg_left (show 1 ≤ (2:Int) ^ t by omega) (show 0 ≤ (2:Int) ^ a by omega)
 omega
theorem Naf.done {m W:Int} {pos:Nat} {c:Int} {d:Nat→Int} (h:Naf m W pos c d) (h0:0 ≤ m) (h1:m < 14474011154664524427946373126085988481658748083205070504932198000989141204992) (hp:256 ≤ pos):top d 256 = m:=by
 have h2:(2:Int) ^ 256 = 115792089237316195423570985008687907853269984665640564039457584007913129639936:=by decide +kernel
 have h3:=pow2_mono hp
 rw [h2] at h3
 have hc:c = 0:=by
  rcases h.car with h' | h'
  ·exact h'
  ·have:=h.big h';omega
 have hs:=h.sum
 have h4:m / 2 ^ pos = 0:=Int.ediv_eq_zero_of_lt h0 (by omega)
 rw [h4,hc] at hs
 have h5:=low_top d 256 (by decide)
 rw [show 256 - 256 = 0 from rfl,low_zero,show (2:Int) ^ 0 = 1 by decide] at h5
 have h6:low d pos = low d 256:=by
  obtain ⟨t,rfl⟩:∃ t,pos = 256 + t:=⟨pos - 256,by omega⟩
  exact low_stop d 256 t (fun j hj=>h.nil j (.inr hj))
 omega
open Go.RowKit
def ari (f:Nat→Int) (L:Nat):List Value:=(List.range L).map fun j=>.int .i8 (f j)
theorem ari_length (f:Nat→Int) (L:Nat):(ari f L).length = L:=by simp [ari]
theorem ari_get (f:Nat→Int) {L i:Nat} (hi:i < L):(ari f L)[i]? = some (.int .i8 (f i)):=by simp [ari,hi]
theorem ari_one (f:Nat→Int) (L:Nat):∀ v ∈ ari f L,v.oneCell' = true:=by
 intro v hv
 simp only [ari,List.mem_map] at hv
 obtain ⟨j,_,rfl⟩:=hv
 rfl
theorem ari_congr {f g:Nat→Int} {L:Nat} (h:∀ j,j < L→f j = g j):ari f L = ari g L:=by
 simp only [ari]
 apply List.map_congr_left
 intro j hj
 rw [h j (by simpa using hj)]
theorem ari_set (f:Nat→Int) (L i:Nat) (v:Int):(ari f L).set i (.int .i8 v) = ari (upd f i v) L:=by
 apply List.ext_getElem?
 intro j
 by_cases hj:j < L
 ·rw [List.getElem?_set,ari_length,ari_get (upd f i v) hj]
  unfold upd
  by_cases e:i = j
  ·subst e;simp [hj]
  ·rw [if_neg e,ari_get _ hj,if_neg (fun k=>e k.symm)]
 ·rw [List.getElem?_eq_none (by rw [List.length_set,ari_length];omega),List.getElem?_eq_none (by rw [ari_length];omega)]
theorem Has.cellA {w:World} {b o L:Nat} {f:Nat→Int} (h:Has w b o (ari f L)) {i:Nat} (hi:i < L):w.cell? ⟨b,o + i,none⟩ = some (.int .i8 (f i))∧w.frozen? ⟨b,o + i,none⟩ = false:=by
 have:=h i (by rw [ari_length];exact hi)
 rwa [ari_get f hi] at this
attribute [irreducible] ari
def nibs (m:Int) (k:Nat):Nat→Int:=fun j=>if j < 2 * k then nib m j else 0
def digs (m:Int) (k:Nat):Nat→Int:=fun j=>if j < k then dg m j else if j = k then nib m j + cr m j else nib m j
theorem nibs_step {m:Int} {k:Nat} {x y:Int} (hx:x = nib m (2 * k)) (hy:y = nib m (2 * k + 1)):upd (upd (nibs m k) (2 * k) x) (2 * k + 1) y = nibs m (k + 1):=by
 funext j
 unfold upd nibs
 subst hx hy
 by_cases h1:j = 2 * k + 1
 ·subst h1;rw [if_pos rfl,if_pos (by omega)]
 ·rw [if_neg h1]
  by_cases h2:j = 2 * k
  ·subst h2;rw [if_pos rfl,if_pos (by omega)]
  ·rw [if_neg h2]
   by_cases h3:j < 2 * k
   ·rw [if_pos h3,if_pos (by omega)]
   ·rw [if_neg h3,if_neg (by omega)]
theorem nibs_digs (m:Int):ari (nibs m 32) 64 = ari (digs m 0) 64:=ari_congr fun j hj=>by
 unfold nibs digs
 rw [if_pos (by omega),if_neg (by omega)]
 split
 ·rename_i h;subst h;simp [cr]
 ·rfl
theorem digs_step {m:Int} {k:Nat} {x y:Int} (hx:x = dg m k) (hy:y = nib m (k + 1) + cr m (k + 1)):upd (upd (digs m k) k x) (k + 1) y = digs m (k + 1):=by
 funext j
 unfold upd digs
 subst hx hy
 by_cases h1:j = k + 1
 ·subst h1;rw [if_pos rfl,if_neg (by omega),if_pos rfl]
 ·rw [if_neg h1]
  by_cases h2:j = k
  ·subst h2;rw [if_pos rfl,if_pos (by omega)]
  ·rw [if_neg h2]
   by_cases h3:j < k
   ·rw [if_pos h3,if_pos (by omega)]
   ·rw [if_neg h3,if_neg h2,if_neg (by omega),if_neg (by omega)]
theorem digs_at (m:Int) (k:Nat):digs m k k = nib m k + cr m k:=by unfold digs;rw [if_neg (by omega),if_pos rfl]
theorem digs_next (m:Int) (k:Nat):digs m k (k + 1) = nib m (k + 1):=by unfold digs;rw [if_neg (by omega),if_neg (by omega)]
theorem digs_all {m:Int} (h0:0 ≤ m) (h1:m < 14474011154664524427946373126085988481658748083205070504932198000989141204992):ari (digs m 63) 64 = ari (dg m) 64:=ari_congr fun j hj=>by
 unfold digs
 split
 ·rfl
 ·split
  ·rename_i h2
   subst h2
   unfold dg
   rw [cr_last h0 h1];omega
  ·omega
theorem pow16 (k:Nat):((2 ^ (8 * k):Nat):Int) = (16:Int) ^ (2 * k):=by
 rw [show 8 * k = 4 * (2 * k) by omega,Nat.pow_mul,show 2 ^ 4 = 16 by decide,Int.natCast_pow];rfl
theorem nib_even (n k:Nat):((n / 2 ^ (8 * k) % 256:Nat):Int) % 16 = nib n (2 * k):=by
 unfold nib
 rw [←pow16,←Int.natCast_ediv]
 generalize n / 2 ^ (8 * k) = q
 omega
theorem nib_odd (n k:Nat):((n / 2 ^ (8 * k) % 256:Nat):Int) / 16 = nib n (2 * k + 1):=by
 unfold nib
 rw [Int.pow_succ,←pow16,←Int.ediv_ediv_of_nonneg (Int.natCast_nonneg _),←Int.natCast_ediv]
 generalize n / 2 ^ (8 * k) = q
 omega
open Go.RowKit
theorem v4_words {n:Int} (hn:0 ≤ n∧n < 115792089237316195423570985008687907853269984665640564039457584007913129639936):v4 (n % 18446744073709551616) (n / 18446744073709551616 % 18446744073709551616) (n / 340282366920938463463374607431768211456 % 18446744073709551616) (n / 6277101735386680763835789423207666416102355444464034512896 % 18446744073709551616) = n:=by
 unfold v4;omega
theorem um (n:Int):U64 (n % 18446744073709551616):=by unfold U64;omega
theorem w8_by8 {v:Int} (h:U64 v):w8 (v % 256) (v / 256 % 256) (v / 65536 % 256) (v / 16777216 % 256) (v / 4294967296 % 256) (v / 1099511627776 % 256) (v / 281474976710656 % 256) (v / 72057594037927936 % 256) = v:=by
 unfold U64 at h;unfold w8;omega
theorem byt (v:Int):Byt (v % 256):=⟨by omega,by omega⟩
theorem sFrom_e {bv ov bx ox:Nat} {n:Int} {w:World} (RM:Room w bv ov 4) (X:Has w bx ox (by32 n)) :
  Calls Tryz.prog 88 #[Ptr bv ov,Ptr bx ox] w (fun e w'=>e = .returned (.tuple #[])∧Chg (Rg bv ov 4) w w'∧Has w' bv ov [.int .u64 (n % 18446744073709551616),.int .u64 (n / 18446744073709551616 % 18446744073709551616),.int .u64 (n / 340282366920938463463374607431768211456 % 18446744073709551616),.int .u64 (n / 6277101735386680763835789423207666416102355444464034512896 % 18446744073709551616)]):=by
 have:=sFrom_c (byt _) (byt _) (byt _) (byt _) (byt _) (byt _) (byt _) (byt _) (byt _) (byt _) (byt _) (byt _) (byt _) (byt _) (byt _) (byt _) (byt _) (byt _) (byt _) (byt _) (byt _) (byt _) (byt _) (byt _) (byt _) (byt _) (byt _) (byt _) (byt _) (byt _) (byt _) (byt _) RM X
 rwa [w8_by8 (um _),w8_by8 (um _),w8_by8 (um _),w8_by8 (um _)] at this
theorem by32_v4 {x0 x1 x2 x3:Int} (u0:U64 x0) (u1:U64 x1) (u2:U64 x2) (u3:U64 x3):by32 (v4 x0 x1 x2 x3) = by8 x0 ++ by8 x1 ++ by8 x2 ++ by8 x3:=by
 unfold U64 at *
 unfold by32
 rw [show v4 x0 x1 x2 x3 % 18446744073709551616 = x0 by unfold v4;omega,show v4 x0 x1 x2 x3 / 18446744073709551616 % 18446744073709551616 = x1 by unfold v4;omega,
  show v4 x0 x1 x2 x3 / 340282366920938463463374607431768211456 % 18446744073709551616 = x2 by unfold v4;omega,show v4 x0 x1 x2 x3 / 6277101735386680763835789423207666416102355444464034512896 % 18446744073709551616 = x3 by unfold v4;omega]
theorem sTo_e {bv ov bx ox:Nat} {n:Int} {w:World} (RM:Room w bv ov 32) (X:MW w bx ox n) :
  Calls Tryz.prog 134 #[Ptr bv ov,Ptr bx ox] w (fun e w'=>e = .returned (.tuple #[])∧Chg (Rg bv ov 32) w w'∧Has w' bv ov (by32 n)):=by
 obtain ⟨_,r0,r1,r2,r3,em,⟨u0,u1,u2,u3⟩,X⟩:=X
 refine (sTo_c u0 u1 u2 u3 RM X).mono ?_
 rintro e w' ⟨h1,h2,h3⟩
 refine ⟨h1,h2,?_⟩
 have key:∀ L,Has w' bv ov L→by32 n = L→Has w' bv ov (by32 n):=fun L h e=>e ▸ h
 refine key _ h3 ?_
 rw [em,by32_v4 u0 u1 u2 u3]
 unfold U64 at *
 simp only [by8,List.cons_append,List.nil_append,List.cons.injEq,Value.int.injEq,true_and,and_true]
 and_intros<;>omega
def Sc (w:World) (b o:Nat) (n:Int):Prop:=(0 ≤ n∧n < LL)∧∃ m,MW w b o m∧∃ k,m = n * 115792089237316195423570985008687907853269984665640564039457584007913129639936 + LL * k
theorem MW.keep {R:Nat→Nat→Prop} {w w':World} (h:Chg R w w') {b o:Nat} {m:Int} (r:MW w b o m) (hR:Off R b o 4):MW w' b o m:=by
 obtain ⟨hm,r0,r1,r2,r3,em,us,X⟩:=r
 exact ⟨hm,r0,r1,r2,r3,em,us,X.keep h hR⟩
theorem Sc.keep {R:Nat→Nat→Prop} {w w':World} (h:Chg R w w') {b o:Nat} {n:Int} (r:Sc w b o n) (hR:Off R b o 4):Sc w' b o n:=by
 obtain ⟨hn,m,M,k,e⟩:=r
 exact ⟨hn,m,M.keep h hR,k,e⟩
theorem Sc.later {w w':World} {b o:Nat} {n:Int} (r:Sc w b o n) (h:Below w.heap.size w w'):Sc w' b o n:=r.keep (Chg.of_below (R:=R0) h) (fun _ _ h=>h)
theorem Sc.lt {w:World} {b o:Nat} {n:Int} (h:Sc w b o n):b < w.heap.size:=by
 obtain ⟨_,m,⟨_,r0,r1,r2,r3,_,_,X⟩,_⟩:=h
 exact X.lt (by simp)
theorem scBytes_c {bv ov bo oo:Nat} {n:Int} {w:World} (RM:Room w bo oo 32) (hs:Sc w bv ov n) :
  Calls Tryz.prog 124 #[Ptr bv ov,Ptr bo oo] w (fun e w'=>e = .returned (.slice (some ⟨bo,oo,none⟩) 32 32)∧Chg (Rg bo oo 32) w w'∧Has w' bo oo (by32 n)):=by
 obtain ⟨hn,m,⟨hm,r0,r1,r2,r3,em,⟨u0,u1,u2,u3⟩,X⟩,k',ek⟩:=hs
 have C:Chg (Rg bo oo 32) w w:=.refl _ _
 go_enter Tryz.func124,Tryz.ntmps124
 go_wp2_with fail
 obtain ⟨n1,ln1⟩:∃ n,w.heap.size = n:=⟨_,rfl⟩
 rw [ln1]
 have hb:=bA w (Obj.cells (List.replicate 4 (.int .u64 0)).toArray 180)
 have K:=(Has.new w (List.replicate 4 (.int .u64 0)) 180).room (n:=4) rfl
 rw [ln1] at K
 have zn1:w.heap.size ≤ n1:=ln1 ▸ Nat.le_refl _
 have y1:bo < n1:=ln1 ▸ RM.lt (by decide)
 replace C:=C.trans (Chg.of_below hb)
 replace RM:=RM.later hb
 replace X:=X.later hb
 refine cG (fun W=>Chg (Rg bo oo 32) w W∧Room W bo oo 32∧Room W n1 0 4∧Has W bv ov [.int .u64 r0,.int .u64 r1,.int .u64 r2,.int .u64 r3]) ⟨C,RM,K,X⟩ ?_
 clear C RM K X hb ln1
 rintro W ⟨C,RM,K,X⟩
 refine (fromM_c u0 u1 u2 u3 K X).mono ?_
 rintro e W ⟨rfl,hc,m',⟨k,hk⟩,M⟩
 obtain rfl:m' = n:=from_sc hn M.1 (by rw [hk,←em]) ek
 replace C:=C.loc hc (by omega)
 replace RM:=hc.room RM
 clear hc K X hk
 go_wp2_with fail
 refine (sTo_e RM M).mono ?_
 rintro e W ⟨rfl,hc,hv⟩
 replace C:=C.trans hc
 clear hc
 go_wp2_with fail
 go_ret
 exact ⟨rfl,C,hv⟩
theorem scBytes_e {bv ov:Nat} {n:Int} {w:World} (hs:Sc w bv ov n) :
  Calls Tryz.prog 91 #[Ptr bv ov] w (fun e w'=>∃ k,w.heap.size ≤ k∧e = .returned (.slice (some ⟨k,0,none⟩) 32 32)∧Below w.heap.size w w'∧Has w' k 0 (by32 n)):=by
 have C:Chg R0 w w:=.refl _ _
 go_enter Tryz.func91,Tryz.ntmps91
 go_wp2_with fail
 obtain ⟨n1,ln1⟩:∃ n,w.heap.size = n:=⟨_,rfl⟩
 rw [ln1]
 have hb:=bA w (Obj.cells (List.replicate 32 (.int .u8 0)).toArray 99)
 have K:=(Has.new w (List.replicate 32 (.int .u8 0)) 99).room (n:=32) rfl
 rw [ln1] at K
 have zn1:w.heap.size ≤ n1:=ln1 ▸ Nat.le_refl _
 replace C:=C.trans (Chg.of_below hb)
 replace hs:=hs.later hb
 refine cG (fun W=>Chg R0 w W∧Room W n1 0 32∧Sc W bv ov n) ⟨C,K,hs⟩ ?_
 clear C K hs hb ln1
 rintro W ⟨C,K,hs⟩
 refine (scBytes_c K hs).mono ?_
 rintro e W ⟨rfl,hc,hv⟩
 replace C:=C.loc hc zn1
 clear hc
 go_wp2_with fail
 go_ret
 exact ⟨n1,zn1,rfl,C.r0,hv⟩
def Lm (w:World):Prop:=Has w 0 0 (by8 6346243789798364140 ++ by8 1503914060200516822 ++ by8 0 ++ by8 1152921504606846976)
theorem le64b_w {k o cap:Nat} {v:Int} {w:World} (h:U64 v) (V:Has w k o (by8 v)):Calls Tryz.prog 106 #[.slice (some ⟨k,o,none⟩) 8 cap] w fun e w'=>e = .returned (.int .u64 v)∧w' = w:=by
 have:=le64b_c k o 8 cap _ _ _ _ _ _ _ _ w (by decide) (by decide) (byte_mod _) (byte_mod _) (byte_mod _) (byte_mod _) (byte_mod _) (byte_mod _) (byte_mod _) (byte_mod _) V
 rwa [part0 h] at this
theorem red_ok {x0 x1 x2 x3 s0 d0 s1 d1 s2 d2 s3 d3:Int} (h:v4 x0 x1 x2 x3 < LL) (m0:S64 6346243789798364140 x0 0 s0 d0) (m1:S64 1503914060200516822 x1 d0 s1 d1) (m2:S64 0 x2 d1 s2 d2) (m3:S64 1152921504606846976 x3 d2 s3 d3):d3 = 0:=by
 have e:v4 s0 s1 s2 s3 = LL - 1 - v4 x0 x1 x2 x3 + 115792089237316195423570985008687907853269984665640564039457584007913129639936 * d3:=by
  have e0:=m0.1;have e1:=m1.1;have e2:=m2.1;have e3:=m3.1
  unfold v4 LL;omega
 have b:=(v4_bd m0.s m1.s m2.s m3.s).2
 have:=m3.d
 generalize v4 s0 s1 s2 s3 = y at *
 generalize v4 x0 x1 x2 x3 = x at *
 unfold LL at *
 omega
theorem isRed_c {k o cap:Nat} {n:Int} {w:World} (hn:0 ≤ n∧n < LL) (hcap:32 ≤ cap) (G:Lm w) (X:Has w k o (by32 n)) :
  Calls Tryz.prog 87 #[.slice (some ⟨k,o,none⟩) 32 cap] w (fun e w'=>e = .returned (.bool true)∧w' = w):=by
 have hB:0 ≤ n∧n < 115792089237316195423570985008687907853269984665640564039457584007913129639936:=⟨hn.1,Int.lt_trans hn.2 (by decide +kernel)⟩
 have hv:=v4_words hB
 unfold by32 at X
 obtain ⟨x0,q0⟩:∃ x,n % 18446744073709551616 = x:=⟨_,rfl⟩
 obtain ⟨x1,q1⟩:∃ x,n / 18446744073709551616 % 18446744073709551616 = x:=⟨_,rfl⟩
 obtain ⟨x2,q2⟩:∃ x,n / 340282366920938463463374607431768211456 % 18446744073709551616 = x:=⟨_,rfl⟩
 obtain ⟨x3,q3⟩:∃ x,n / 6277101735386680763835789423207666416102355444464034512896 % 18446744073709551616 = x:=⟨_,rfl⟩
 rw [q0,q1,q2,q3] at X hv
 have u0:U64 x0:=q0 ▸ um _
 have u1:U64 x1:=q1 ▸ um _
 have u2:U64 x2:=q2 ▸ um _
 have u3:U64 x3:=q3 ▸ um _
 clear q0 q1 q2 q3
 obtain ⟨s0,d0,m0,r0⟩:=S64.ex (a:=6346243789798364140) (u64k rfl) u0 k0
 obtain ⟨s1,d1,m1,r1⟩:=S64.ex (a:=1503914060200516822) (u64k rfl) u1 m0.d
 obtain ⟨s2,d2,m2,r2⟩:=S64.ex (a:=0) (u64k rfl) u2 m1.d
 obtain ⟨s3,d3,m3,r3⟩:=S64.ex (a:=1152921504606846976) (u64k rfl) u3 m2.d
 obtain rfl:d3 = 0:=red_ok (by rw [hv];exact hn.2) m0 m1 m2 m3
 have X0:=hd (X.sub 0 8 (us:=by8 x0) rfl)
 have X1:=hd (X.sub 8 8 (us:=by8 x1) rfl)
 have X2:=hd (X.sub 16 8 (us:=by8 x2) rfl)
 have X3:=hd (X.sub 24 8 (us:=by8 x3) rfl)
 have G0:=hd (G.sub 0 8 (us:=by8 6346243789798364140) rfl)
 have G1:=hd (G.sub 8 8 (us:=by8 1503914060200516822) rfl)
 have G2:=hd (G.sub 16 8 (us:=by8 0) rfl)
 have G3:=hd (G.sub 24 8 (us:=by8 1152921504606846976) rfl)
 clear X G m0 m1 m2 m3 hv hB hn
 go_enter Tryz.func87,Tryz.ntmps87
 go_wp2_with fail
 refine (le64b_w u0 X0.out).mono ?_
 rintro e W ⟨rfl,rfl⟩
 go_wp2_with fail
 refine (le64b_w u1 X1.out).mono ?_
 rintro e W ⟨rfl,rfl⟩
 go_wp2_with fail
 refine (le64b_w u2 X2.out).mono ?_
 rintro e W ⟨rfl,rfl⟩
 go_wp2_with fail
 refine (le64b_w u3 X3.out).mono ?_
 rintro e W ⟨rfl,rfl⟩
 go_wp2_with fail
 refine (le64b_w (u64k rfl) G0.out).mono ?_
 rintro e W ⟨rfl,rfl⟩
 go_wp2_with fail
 refine (le64b_w (u64k rfl) G1.out).mono ?_
 rintro e W ⟨rfl,rfl⟩
 go_wp2_with fail
 refine (le64b_w (u64k rfl) G2.out).mono ?_
 rintro e W ⟨rfl,rfl⟩
 go_wp2_with fail
 refine (le64b_w (u64k rfl) G3.out).mono ?_
 rintro e W ⟨rfl,rfl⟩
 go_wp2_with fail
 go_ret
 exact ⟨rfl,rfl⟩
open Go.RowKit
theorem agg85:∀ w,(isAgg 85).run Tryz.prog w = .ok true w:=fun w=>by simp [isAgg,go_sem]
theorem size85:∀ w,(sizeOf 85).run Tryz.prog w = .ok 64 w:=fun w=>by simp [go_sem]
theorem and15 {x:Int} (h:0 ≤ x∧x < 256):bits BinOp.and IntKind.u8 x 15 = x % 16:=by
 obtain ⟨n,rfl⟩:=Int.eq_ofNat_of_zero_le h.1
 have hn:n < 256:=by omega
 have:∀ m:Fin 256,bits BinOp.and IntKind.u8 (m.val:Int) 15 = (m.val:Int) % 16:=by decide +kernel
 exact this ⟨n,hn⟩
theorem i8w {x:Int} (h:-128 ≤ x∧x < 128):IntKind.i8.wrap x = x:=by
 simp [IntKind.wrap,IntKind.bits,IntKind.signed];omega
theorem new85 (w:World):Has (w.alloc (Obj.cells (List.replicate 64 (.int .i8 0)).toArray 85)) w.heap.size 0 (ari (fun _=>0) 64):=by
 have:ari (fun _=>0) 64 = List.replicate 64 (.int .i8 0):=by unfold ari;rfl
 rw [this]
 exact Has.new w _ 85
theorem nibs_zero (m:Int):nibs m 0 = fun _=>0:=by funext j;unfold nibs;rw [if_neg (by omega)]
theorem LL_bd {N:Nat} (h:(N:Int) < LL):N < 2 ^ 253∧(N:Int) < 14474011154664524427946373126085988481658748083205070504932198000989141204992:=by
 unfold LL at h;exact ⟨by omega,by omega⟩
theorem top_byte {N:Nat} (h:N < 2 ^ 253):byF N 32 31 ≤ 127:=by
 unfold byF
 rw [if_pos (by decide)]
 have:N / 2 ^ (8 * 31) < 32:=Nat.div_lt_of_lt_mul (by rw [show 2 ^ (8 * 31) * 32 = 2 ^ 253 by decide +kernel];exact h)
 omega
theorem radix_e {bv ov:Nat} {n:Int} {w:World} (hs:Sc w bv ov n) :
  Calls Tryz.prog 48 #[Ptr bv ov] w (fun e w'=>e = .returned (.agg (ari (dg n) 64).toArray)∧Below w.heap.size w w'):=by
 have hn:=hs.1
 obtain ⟨N,rfl⟩:=Int.eq_ofNat_of_zero_le hn.1
 obtain ⟨hN,hN2⟩:=LL_bd hn.2
 replace hn:=hd hn
 replace hN2:=hd hN2
 replace hN:=hd hN
 have C:Chg R0 w w:=.refl _ _
 go_enter Tryz.func48,Tryz.ntmps48
 go_wp2_with fail
 obtain ⟨n1,ln1⟩:∃ n,w.heap.size = n:=⟨_,rfl⟩
 rw [ln1]
 have hb:=bA w (Obj.cells (List.replicate 64 (.int .i8 0)).toArray 85)
 have R1:=(new85 w).room (ari_length _ _)
 rw [ln1] at R1
 have zn1:w.heap.size ≤ n1:=ln1 ▸ Nat.le_refl _
 replace C:=C.trans (Chg.of_below hb)
 replace hs:=hs.later hb
 refine cG (fun W=>Chg R0 w W∧Room W n1 0 64∧Sc W bv ov N) ⟨C,R1,hs⟩ ?_
 clear C R1 hs hb ln1
 rintro W ⟨C,R1,hs⟩
 refine (scBytes_e hs).mono ?_
 rintro e W ⟨n2,ln2,rfl,hb,X⟩
 have zn2:w.heap.size ≤ n2:=Nat.le_trans C.size ln2
 have y1:n1 < n2:=Nat.lt_of_lt_of_le (R1.lt (by decide)) ln2
 replace C:=C.trans (Chg.of_below hb)
 replace R1:=R1.later hb
 rw [←by32_byL] at X
 clear hs hb ln2
 have c31:=(X.cellB (i:=31) (by decide)).1
 have b31:=top_byte hN.out
 obtain ⟨x31,q31⟩:∃ x,byF N 32 31 = x:=⟨_,rfl⟩
 rw [q31,Nat.zero_add] at c31
 rw [q31] at b31
 have g31:¬ (127:Int) < x31:=by omega
 clear q31
 repeat ((fail_if_success with_reducible show wpList _ _ _ (⟨some 5,_,_,_,_,_⟩ :: _) _ _);(first | go_values | go_skip | go_guarded | go_step | go_upon | dsimp only))
 obtain ⟨n3,ln3⟩:∃ n,W.heap.size = n:=⟨_,rfl⟩
 rw [ln3]
 have hb:=bA W (Obj.cells (List.replicate 64 (.int .i8 0)).toArray 85)
 have H:=new85 W
 rw [ln3] at H
 have zn3:w.heap.size ≤ n3:=ln3 ▸ C.size
 have y2:n1 < n3:=ln3 ▸ R1.lt (by decide)
 have y3:n2 < n3:=ln3 ▸ X.lt (by rw [byL_length];decide)
 replace C:=C.trans (Chg.of_below hb)
 replace R1:=R1.later hb
 replace X:=X.later hb
 rw [←nibs_zero N] at H
 refine pG (fun W=>Chg R0 w W∧Room W n1 0 64∧Has W n2 0 (byL (byF N 32) 32)∧Has W n3 0 (ari (nibs N 0) 64)) ⟨C,R1,X,H⟩ ?_
 clear C R1 X H hb ln3 c31
 rintro W ⟨C,R1,X,H⟩
 go_wp2_with fail
 go_loopw [5] (fun i W=>∃ j:Nat,j ≤ 32∧i = .int .i64 j∧Chg R0 w W∧Room W n1 0 64∧Has W n2 0 (byL (byF N 32) 32)∧Has W n3 0 (ari (nibs N j) 64)) (fun i _=>32 - (intOf i).toNat)
 case atStart=>exact ⟨0,by omega,rfl,C,R1,X,H⟩
 case round =>
  clear C R1 X H
  obtain ⟨j,hj,rfl,C,R1,X,H⟩:=hrel
  by_cases hlt:j < 32
  ·have cX:=(X.cellB hlt).1
   rw [Nat.zero_add] at cX
   have bx:byF N 32 j < 256:=by unfold byF;rw [if_pos hlt];exact Nat.mod_lt _ (by decide)
   have e1:((byF N 32 j:Nat):Int) % 16 = nib N (2 * j):=by rw [←nib_even];unfold byF;rw [if_pos hlt]
   have e2:((byF N 32 j:Nat):Int) / 16 = nib N (2 * j + 1):=by rw [←nib_odd];unfold byF;rw [if_pos hlt]
   obtain ⟨x,qx⟩:∃ x,byF N 32 j = x:=⟨_,rfl⟩
   rw [qx] at cX bx e1 e2
   clear qx
   have cM:=H.cellA (i:=2 * j) (by omega)
   have cN:=H.cellA (i:=2 * j + 1) (by omega)
   rw [Nat.zero_add] at cM cN
   have hs:=nibs_step (m:=N) (k:=j) rfl rfl
   rw [←e1,←e2] at hs
   replace hs:=hd hs
   clear e1 e2
   have a1:=and15 (x:=x) (by omega)
   have a2:=and15 (x:=(x:Int) / 16) (by omega)
   rw [show (x:Int) / 16 % 16 = (x:Int) / 16 by omega] at a2
   have w1:IntKind.i8.wrap ((x:Int) % 16) = (x:Int) % 16:=i8w (by omega)
   have w2:IntKind.i8.wrap ((x:Int) / 16) = (x:Int) / 16:=i8w (by omega)
   have q1:IntKind.i64.wrap (2 * (j:Int)) = 2 * (j:Int):=i64_word _ (by omega)
   have q2:IntKind.i64.wrap (2 * (j:Int) + 1) = 2 * (j:Int) + 1:=i64_word _ (by omega)
   have q3:0 ≤ 2 * (j:Int):=by omega
   have q4:2 * (j:Int) < 64:=by omega
   have q5:(2 * (j:Int)).toNat = 2 * j:=by omega
   have q6:0 ≤ 2 * (j:Int) + 1:=by omega
   have q7:2 * (j:Int) + 1 < 64:=by omega
   have q8:(2 * (j:Int) + 1).toNat = 2 * j + 1:=by omega
   have kL:(j:Int) < 32:=by omega
   go_wp2_with fail
   have h1:=(H.set (2 * j) (by omega:2 * j = 0 + 2 * j) (.int .i8 ((x:Int) % 16))).set (2 * j + 1) (by omega:2 * j + 1 = 0 + (2 * j + 1)) (.int .i8 ((x:Int) / 16))
   rw [ari_set,ari_set,hs.out] at h1
   exact ⟨⟨j + 1,by omega,by push_cast;rfl,((C.setCell _ (fun h=>absurd h (Nat.not_lt.2 (by omega)))).setCell _ (fun h=>absurd h (Nat.not_lt.2 (by omega)))),(Chg.set1 _ _ _ _).room ((Chg.set1 _ _ _ _).room R1),(X.off _ (fun e=>by omega)).off _ (fun e=>by omega),h1⟩,by simp [intOf];omega⟩
  ·obtain rfl:j = 32:=by omega
   rw [nibs_digs] at H
   clear X
   go_wp2_with fail
   go_loopw [6] (fun i W=>∃ j:Nat,j ≤ 63∧i = .int .i64 j∧Chg R0 w W∧Room W n1 0 64∧Has W n3 0 (ari (digs N j) 64)) (fun i _=>63 - (intOf i).toNat)
   case atStart=>exact ⟨0,by omega,rfl,C,R1,H⟩
   case round =>
    clear C R1 H
    obtain ⟨j,hj,rfl,C,R1,H⟩:=hrel
    by_cases hlt:j < 63
    ·have cM:=H.cellA (i:=j) (by omega)
     have cN:=H.cellA (i:=j + 1) (by omega)
     rw [Nat.zero_add] at cM cN
     rw [digs_at] at cM
     rw [digs_next] at cN
     have b1:=nib_bd N j
     have b2:=nib_bd N (j + 1)
     have b3:=cr_bd N j
     have b4:=cr_bd N (j + 1)
     have e1:=cr_succ N j
     have hs:=digs_step (m:=N) (k:=j) rfl rfl
     unfold dg at hs
     obtain ⟨a,qa⟩:∃ x,nib N j + cr N j = x:=⟨_,rfl⟩
     obtain ⟨b,qb⟩:∃ x,nib N (j + 1) = x:=⟨_,rfl⟩
     obtain ⟨c,qc⟩:∃ x,cr N (j + 1) = x:=⟨_,rfl⟩
     have b5:0 ≤ a∧a ≤ 16:=by omega
     rw [qa,qb,qc] at hs
     rw [qa] at cM e1
     rw [qb] at cN b2
     rw [qc] at b4 e1
     clear qa qb qc b1 b3
     replace hs:=hd hs
     have w1:IntKind.i8.wrap (a + 8) = a + 8:=i8w (by omega)
     have w2:IntKind.i8.wrap (c * 16) = c * 16:=i8w (by omega)
     have w3:IntKind.i8.wrap (a - c * 16) = a - 16 * c:=by rw [i8w (by omega)];omega
     have w4:IntKind.i8.wrap (b + c) = b + c:=i8w (by omega)
     have w5:(a + 8) / 16 = c:=e1.symm
     clear e1
     have q2:IntKind.i64.wrap ((j:Int) + 1) = (j:Int) + 1:=i64_word _ (by omega)
     have q6:0 ≤ (j:Int) + 1:=by omega
     have q7:(j:Int) + 1 < 64:=by omega
     have q8:((j:Int) + 1).toNat = j + 1:=by omega
     have kL:(j:Int) < 63:=by omega
     have kM:(j:Int) < 64:=by omega
     go_wp2_with fail
     have h1:=(H.set j (by omega:j = 0 + j) (.int .i8 (a - 16 * c))).set (j + 1) (by omega:j + 1 = 0 + (j + 1)) (.int .i8 (b + c))
     rw [ari_set,ari_set,hs.out] at h1
     exact ⟨⟨j + 1,by omega,by push_cast;rfl,((C.setCell _ (fun h=>absurd h (Nat.not_lt.2 (by omega)))).setCell _ (fun h=>absurd h (Nat.not_lt.2 (by omega)))),(Chg.set1 _ _ _ _).room ((Chg.set1 _ _ _ _).room R1),h1⟩,by simp [intOf];omega⟩
    ·obtain rfl:j = 63:=by omega
     rw [digs_all (by omega) hN2.out] at H
     repeat ((fail_if_success with_reducible refine sl 85 ?_);first | go_step | dsimp only)
     refine wL (b:=n3) (o:=0) rfl H (ari_length _ _) agg85 size85 ?_
     simp only [Act.put,iA,iB,iC]
     repeat ((fail_if_success with_reducible refine ss 85 ?_);first | go_step | dsimp only)
     refine wS (b:=n1) (o:=0) rfl rfl R1 (ari_length _ _) (ari_one _ _) size85 ?_
     simp only [Act.put]
     have hc:Chg (Rg n1 0 64) wr (World.setCells wr n1 0 (ari (dg N) 64)):=by have:=putL_chg (w:=wr) (b:=n1) (o:=0) (vs:=ari (dg N) 64);rwa [ari_length] at this
     have HR:=putL_has (w:=wr) (b:=n1) (o:=0) (vs:=ari (dg N) 64) (by rw [ari_length];exact R1)
     replace C:=C.loc hc (by omega)
     clear hc R1 H
     go_wp2_with fail
     exact ret_cell (b:=n1) (o:=0) Tryz.results48 rfl HR (ari_length _ _) agg85 size85 rfl ⟨rfl,C.r0⟩
end Go.Proofs.Ed
