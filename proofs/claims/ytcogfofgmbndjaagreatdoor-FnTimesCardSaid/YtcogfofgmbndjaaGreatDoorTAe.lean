/- A part of the proof of the tied card of FnTimes: Mont, Mrow, Fi0. -/
import Derived.Test.YtcogfofgmbndjaaGreatDoorProg
import Derived.WalkKit
import Derived.WalkSpells
import Derived.WalkLawsBesides
import Derived.Outline
import Derived.StillTailTactics
import Derived.Test.YtcogfofgmbndjaaGreatDoorTAc
import Derived.Test.YtcogfofgmbndjaaGreatDoorTAa
set_option maxRecDepth 100000
set_option maxHeartbeats 40000000
namespace Go.Proofs.Ed
def M64 (a b h l:Int):Prop:=h * 18446744073709551616 + l = a * b∧(0 ≤ h∧h < 18446744073709551616)∧(0 ≤ l∧l < 18446744073709551616)
def A64 (a b c s d:Int):Prop:=s + 18446744073709551616 * d = a + b + c∧(0 ≤ s∧s < 18446744073709551616)∧(0 ≤ d∧d ≤ 1)
def S64 (a b c s d:Int):Prop:=s = a - b - c + 18446744073709551616 * d∧(0 ≤ s∧s < 18446744073709551616)∧(0 ≤ d∧d ≤ 1)
def W64 (a b y:Int):Prop:=y = (a + b) % 18446744073709551616
def U64 (a:Int):Prop:=0 ≤ a∧a < 18446744073709551616
abbrev LL:Int:=7237005577332262213973186563042994240857116359379907606001950938285454250989
def v4 (a b c d:Int):Int:=a + 18446744073709551616 * b + 340282366920938463463374607431768211456 * c + 6277101735386680763835789423207666416102355444464034512896 * d
theorem M64.mk {a b:Int} (ha:U64 a) (hb:U64 b):M64 a b (a * b / 18446744073709551616) (a * b % 18446744073709551616):=by
 have h0:=Int.mul_nonneg ha.1 hb.1
 have h1:a * b ≤ a * 18446744073709551616:=Int.mul_le_mul_of_nonneg_left (by have:=hb.2;omega) ha.1
 have:=ha.2
 unfold M64
 refine ⟨by omega,⟨by omega,?_⟩,by omega,by omega⟩
 have h2:a * b < 18446744073709551616 * 18446744073709551616:=by
  rcases Int.lt_or_eq_of_le ha.1 with hp | hp
  ·have:a * b < a * 18446744073709551616:=Int.mul_lt_mul_of_pos_left hb.2 hp
   omega
  ·rw [←hp];simp
 omega
theorem A64.mk {a b c:Int} (ha:U64 a) (hb:U64 b) (hc:0 ≤ c∧c ≤ 1):A64 a b c ((a + b + c) % 18446744073709551616) ((a + b + c) / 18446744073709551616):=by
 unfold U64 at *
 unfold A64;omega
theorem S64.mk {a b c:Int} (ha:U64 a) (hb:U64 b) (hc:0 ≤ c∧c ≤ 1):S64 a b c ((a + 18446744073709551616 - b - c) % 18446744073709551616) (if a < b + c then 1 else 0):=by
 unfold U64 at *
 unfold S64
 split<;>omega
theorem M64.h {a b h l:Int} (x:M64 a b h l):U64 h:=x.2.1
theorem M64.l {a b h l:Int} (x:M64 a b h l):U64 l:=x.2.2
theorem A64.s {a b c s d:Int} (x:A64 a b c s d):U64 s:=x.2.1
theorem A64.d {a b c s d:Int} (x:A64 a b c s d):0 ≤ d∧d ≤ 1:=x.2.2
theorem A64.du {a b c s d:Int} (x:A64 a b c s d):U64 d:=by have:=x.2.2;unfold U64;omega
theorem S64.s {a b c s d:Int} (x:S64 a b c s d):U64 s:=x.2.1
theorem S64.d {a b c s d:Int} (x:S64 a b c s d):0 ≤ d∧d ≤ 1:=x.2.2
theorem W64.u {a b y:Int} (x:W64 a b y):U64 y:=by unfold W64 at x;unfold U64;omega
theorem W64.eq {a b y:Int} (x:W64 a b y) (h:0 ≤ a + b∧a + b < 18446744073709551616):y = a + b:=by unfold W64 at x;omega
theorem U64.z:U64 0:=by unfold U64;omega
theorem low_word {b h q k j z g:Int} (_hb:U64 b) (hq:M64 b 15183074304973897243 h q) (m:M64 q 6346243789798364141 k j) (a:A64 b j 0 z g):z = 0:=by
 unfold M64 at *;unfold A64 U64 at *;omega
theorem hi_small {q k j:Int} (hq:U64 q) (m:M64 q 1503914060200516822 k j):k ≤ 1503914060200516822:=by
 unfold M64 at *;unfold U64 at *;omega
theorem hi_small3 {q k j:Int} (hq:U64 q) (m:M64 q 1152921504606846976 k j):k ≤ 1152921504606846976:=by
 unfold M64 at *;unfold U64 at *;omega
theorem mul_m {q k3 j3 k1 j1 k0 j0 e1 f1:Int} (n3:M64 q 1152921504606846976 k3 j3) (n1:M64 q 1503914060200516822 k1 j1) (n0:M64 q 6346243789798364141 k0 j0) (a1:A64 k0 j1 0 e1 f1) :
  j0 + 18446744073709551616 * e1 + 340282366920938463463374607431768211456 * (f1 + k1) + 6277101735386680763835789423207666416102355444464034512896 * j3 + 115792089237316195423570985008687907853269984665640564039457584007913129639936 * k3 = q * LL:=by
 unfold M64 A64 LL at *;omega
theorem red_step {b0 b1 b2 b3 h q k3 j3 k1 j1 k0 j0 e1 f1 z g0 r0 g1 y r1 g2 r2 g3:Int} (hb:U64 b0) (hq:M64 b0 15183074304973897243 h q) (n3:M64 q 1152921504606846976 k3 j3) (n1:M64 q 1503914060200516822 k1 j1) (n0:M64 q 6346243789798364141 k0 j0)
  (a1:A64 k0 j1 0 e1 f1) (a2:A64 b0 j0 0 z g0) (a3:A64 b1 e1 g0 r0 g1) (w:W64 f1 k1 y) (a4:A64 b2 y g1 r1 g2) (a5:A64 b3 j3 g2 r2 g3) :
  18446744073709551616 * v4 r0 r1 r2 (g3 + k3) = v4 b0 b1 b2 b3 + q * LL:=by
 have hz:=low_word hb hq n0 a2
 have hy:=w.eq (by have:=hi_small hq.l n1;have:=a1.d;have:=n1.h.1;omega)
 have hm:=mul_m n3 n1 n0 a1
 rw [←hm]
 clear hm n3 n1 n0 a1 hq hb
 unfold A64 v4 at *
 obtain ⟨a2,-,-⟩:=a2
 obtain ⟨a3,-,-⟩:=a3
 obtain ⟨a4,-,-⟩:=a4
 obtain ⟨a5,-,-⟩:=a5
 subst hz hy
 clear w
 omega
theorem red_first {b0 h q k3 j3 k1 j1 k0 j0 e1 f1 z g0 r0 g1:Int} (hb:U64 b0) (hq:M64 b0 15183074304973897243 h q) (n3:M64 q 1152921504606846976 k3 j3) (n1:M64 q 1503914060200516822 k1 j1) (n0:M64 q 6346243789798364141 k0 j0)
  (a1:A64 k0 j1 0 e1 f1) (a2:A64 b0 j0 0 z g0) (a3:A64 0 e1 g0 r0 g1) :
  18446744073709551616 * v4 r0 (g1 + (f1 + k1)) j3 k3 = b0 + q * LL:=by
 have hz:=low_word hb hq n0 a2
 have hm:=mul_m n3 n1 n0 a1
 rw [←hm]
 clear hm n3 n1 n0 a1 hq hb
 unfold A64 v4 at *
 obtain ⟨a2,-,-⟩:=a2
 obtain ⟨a3,-,-⟩:=a3
 subst hz
 omega
theorem mul_r {x h3 l3 h2 l2 h1 l1 h0 l0 a1 c1 a2 c2 a3 c3:Int} (n3:M64 x 259310039853996605 h3 l3) (n2:M64 x 14910419812499177061 h2 l2) (n1:M64 x 14991950615390032711 h1 l1) (n0:M64 x 11819153939886771969 h0 l0)
  (p1:A64 h0 l1 0 a1 c1) (p2:A64 h1 l2 c1 a2 c2) (p3:A64 h2 l3 c2 a3 c3) :
  v4 l0 a1 a2 a3 + 115792089237316195423570985008687907853269984665640564039457584007913129639936 * (c3 + h3) = x * 1627715501170711445284395025044413883736156588369414752970002579683115011841:=by
 unfold M64 A64 v4 at *;omega
theorem add_step {u0 u1 u2 u3 l0 a1 a2 a3 b0 d0 b1 d1 b2 d2 b3 d3:Int} (p0:A64 u0 l0 0 b0 d0) (p1:A64 u1 a1 d0 b1 d1) (p2:A64 u2 a2 d1 b2 d2) (p3:A64 u3 a3 d2 b3 d3) :
  v4 b0 b1 b2 b3 + 115792089237316195423570985008687907853269984665640564039457584007913129639936 * d3 = v4 u0 u1 u2 u3 + v4 l0 a1 a2 a3:=by
 unfold A64 v4 at *;omega
theorem add_one {u0 u1 u2 u3 a b0 d0 b1 d1 b2 d2:Int} (p0:A64 u0 a 0 b0 d0) (p1:A64 u1 0 d0 b1 d1) (p2:A64 u2 0 d1 b2 d2) :
  v4 b0 b1 b2 (d2 + u3) = v4 u0 u1 u2 u3 + a:=by
 unfold A64 v4 at *;omega
theorem sub_step {x0 x1 x2 x3 s0 s1 s2 s3 c0 c1 c2 c3 s4 c4:Int} (h0:U64 x0) (h1:U64 x1) (h2:U64 x2) (h3:U64 x3)
  (p0:S64 x0 6346243789798364141 0 s0 c0) (p1:S64 x1 1503914060200516822 c0 s1 c1) (p2:S64 x2 0 c1 s2 c2) (p3:S64 x3 1152921504606846976 c2 s3 c3) (p4:S64 0 0 c3 s4 c4) (ht:v4 x0 x1 x2 x3 < 2 * LL) :
  (c4 = 0∧v4 s0 s1 s2 s3 = v4 x0 x1 x2 x3 - LL∧LL ≤ v4 x0 x1 x2 x3)∨(c4 = 1∧v4 x0 x1 x2 x3 < LL):=by
 unfold S64 U64 v4 LL at *;omega
theorem cancel_gen (d k B R L K:Int) (h:B * R = 1 + L * K) (h2:d * B = L * k):d = L * (k * R - K * d):=by
 have:d * (B * R) = L * k * R:=by rw [←Int.mul_assoc,h2]
 rw [h] at this
 grind
theorem cancel_256 {a b k:Int} (ha:0 ≤ a∧a < LL) (hb:0 ≤ b∧b < LL) (h:(a - b) * 115792089237316195423570985008687907853269984665640564039457584007913129639936 = LL * k):a = b:=by
 unfold LL at *
 have e:=cancel_gen (a - b) k 115792089237316195423570985008687907853269984665640564039457584007913129639936 4458503529701987551646482192314240623644693141688353256590997718326214331684 7237005577332262213973186563042994240857116359379907606001950938285454250989 71336056475231800826343715077027849978041630819377026201054086228062141447707 (by decide) h
 generalize k * 4458503529701987551646482192314240623644693141688353256590997718326214331684 - 71336056475231800826343715077027849978041630819377026201054086228062141447707 * (a - b) = t at e
 clear h
 omega
theorem hi_top {q k j:Int} (hq:U64 q) (m:M64 q 259310039853996605 k j):k ≤ 259310039853996605:=by
 unfold M64 at *;unfold U64 at *;omega
theorem W64.sum {a b y:Int} (x:W64 a b y) (ha:0 ≤ a∧a ≤ 2305843009213693952) (hb:0 ≤ b∧b ≤ 2305843009213693952):y = a + b:=x.eq (by omega)
theorem from_first {b0 h q k3 j3 k1 j1 k0 j0 e1 f1 z g0 r0 g1 a s0 c0 y1 y2 y3:Int} (hb:U64 b0) (hq:M64 b0 15183074304973897243 h q) (n3:M64 q 1152921504606846976 k3 j3) (n1:M64 q 1503914060200516822 k1 j1) (n0:M64 q 6346243789798364141 k0 j0)
  (a1:A64 k0 j1 0 e1 f1) (a2:A64 b0 j0 0 z g0) (a3:A64 0 e1 g0 r0 g1) (p:A64 r0 a 0 s0 c0) (w1:W64 f1 k1 y1) (w2:W64 g1 y1 y2) (w3:W64 c0 y2 y3) :
  18446744073709551616 * v4 s0 y3 j3 k3 = b0 + q * LL + 18446744073709551616 * a:=by
 have h:=red_first hb hq n3 n1 n0 a1 a2 a3
 have hk:=hi_small hq.l n1
 have hk0:=n1.h.1
 have:=a1.d
 have:=a3.d
 have:=p.d
 have e1:=w1.sum (by omega) (by omega)
 have e2:=w2.sum (by omega) (by omega)
 have e3:=w3.sum (by omega) (by omega)
 rw [←h]
 clear h w1 w2 w3 a1 a2 a3 n0 n1 n3 hq hb
 unfold A64 v4 at *
 obtain ⟨p,-,-⟩:=p
 omega
theorem from_row {b0 b1 b2 b3 h q k3 j3 k1 j1 k0 j0 e1 f1 z g0 r0 g1 y r1 g2 r2 g3 a s0 c0 s1 c1 s2 c2 y1 y2:Int} (hb:U64 b0) (hq:M64 b0 15183074304973897243 h q) (n3:M64 q 1152921504606846976 k3 j3) (n1:M64 q 1503914060200516822 k1 j1) (n0:M64 q 6346243789798364141 k0 j0)
  (a1:A64 k0 j1 0 e1 f1) (a2:A64 b0 j0 0 z g0) (a3:A64 b1 e1 g0 r0 g1) (w:W64 f1 k1 y) (a4:A64 b2 y g1 r1 g2) (a5:A64 b3 j3 g2 r2 g3)
  (p0:A64 r0 a 0 s0 c0) (p1:A64 r1 0 c0 s1 c1) (p2:A64 r2 0 c1 s2 c2) (w1:W64 g3 k3 y1) (w2:W64 c2 y1 y2) :
  18446744073709551616 * v4 s0 s1 s2 y2 = v4 b0 b1 b2 b3 + q * LL + 18446744073709551616 * a:=by
 have h:=red_step hb hq n3 n1 n0 a1 a2 a3 w a4 a5
 have hk:=hi_small3 hq.l n3
 have hk0:=n3.h.1
 have:=a5.d
 have:=p2.d
 have e1:=w1.sum (by omega) (by omega)
 have e2:=w2.sum (by omega) (by omega)
 rw [←h]
 have h2:=add_one (u3:=g3 + k3) p0 p1 p2
 rw [e2,e1,h2]
 omega
theorem from_last {b0 b1 b2 b3 h q k3 j3 k1 j1 k0 j0 e1 f1 z g0 r0 g1 y r1 g2 r2 g3 y1:Int} (hb:U64 b0) (hq:M64 b0 15183074304973897243 h q) (n3:M64 q 1152921504606846976 k3 j3) (n1:M64 q 1503914060200516822 k1 j1) (n0:M64 q 6346243789798364141 k0 j0)
  (a1:A64 k0 j1 0 e1 f1) (a2:A64 b0 j0 0 z g0) (a3:A64 b1 e1 g0 r0 g1) (w:W64 f1 k1 y) (a4:A64 b2 y g1 r1 g2) (a5:A64 b3 j3 g2 r2 g3) (w1:W64 g3 k3 y1) :
  18446744073709551616 * v4 r0 r1 r2 y1 = v4 b0 b1 b2 b3 + q * LL:=by
 have h:=red_step hb hq n3 n1 n0 a1 a2 a3 w a4 a5
 have hk:=hi_small3 hq.l n3
 have hk0:=n3.h.1
 have:=a5.d
 have e1:=w1.sum (by omega) (by omega)
 rw [←h,e1]
theorem to_first {x hh3 l3 h2 l2 h1 l1 h0 l0 t1 d1 t2 d2 t3 d3:Int} {h q k3 j3 k1 j1 k0 j0 e1 f1 z g0 r0 g1 y r1 g2 r2 g3 y1 y2 y3:Int} (hx:U64 x) (m3:M64 x 259310039853996605 hh3 l3) (m2:M64 x 14910419812499177061 h2 l2) (m1:M64 x 14991950615390032711 h1 l1) (m0:M64 x 11819153939886771969 h0 l0)
  (p1:A64 h0 l1 0 t1 d1) (p2:A64 h1 l2 d1 t2 d2) (p3:A64 h2 l3 d2 t3 d3)
  (hq:M64 l0 15183074304973897243 h q) (n3:M64 q 1152921504606846976 k3 j3) (n1:M64 q 1503914060200516822 k1 j1) (n0:M64 q 6346243789798364141 k0 j0)
  (a1:A64 k0 j1 0 e1 f1) (a2:A64 l0 j0 0 z g0) (a3:A64 t1 e1 g0 r0 g1) (w:W64 f1 k1 y) (a4:A64 t2 y g1 r1 g2) (a5:A64 t3 j3 g2 r2 g3)
  (w1:W64 d3 hh3 y1) (w2:W64 g3 y1 y2) (w3:W64 y2 k3 y3) :
  18446744073709551616 * v4 r0 r1 r2 y3 = x * 1627715501170711445284395025044413883736156588369414752970002579683115011841 + q * LL:=by
 have e:=mul_r m3 m2 m1 m0 p1 p2 p3
 have r:=red_step m0.l hq n3 n1 n0 a1 a2 a3 w a4 a5
 have hk:=hi_small3 hq.l n3
 have hk0:=n3.h.1
 have ht:=hi_top hx m3
 have ht0:=m3.h.1
 have:=a5.d
 have:=p3.d
 have e1:=w1.sum (by omega) (by omega)
 have e2:=w2.sum (by omega) (by omega)
 have e3:=w3.sum (by omega) (by omega)
 rw [←e]
 generalize q * LL = Q at *
 clear e hq n3 n1 n0 a1 a2 a3 w a4 a5 w1 w2 w3 m3 m2 m1 m0 p1 p2 p3 hx
 unfold v4 at *
 omega
theorem to_row {u0 u1 u2 u3 b0 c0 b1 c1 b2 c2 b3 c3:Int} {x hh3 l3 h2 l2 h1 l1 h0 l0 t1 d1 t2 d2 t3 d3:Int} {h q k3 j3 k1 j1 k0 j0 e1 f1 z g0 r0 g1 y r1 g2 r2 g3 y1 y2 y3 y4:Int} (hx:U64 x) (m3:M64 x 259310039853996605 hh3 l3) (m2:M64 x 14910419812499177061 h2 l2) (m1:M64 x 14991950615390032711 h1 l1) (m0:M64 x 11819153939886771969 h0 l0)
  (p1:A64 h0 l1 0 t1 d1) (p2:A64 h1 l2 d1 t2 d2) (p3:A64 h2 l3 d2 t3 d3)
  (s0:A64 u0 l0 0 b0 c0) (s1:A64 u1 t1 c0 b1 c1) (s2:A64 u2 t2 c1 b2 c2) (s3:A64 u3 t3 c2 b3 c3)
  (hq:M64 b0 15183074304973897243 h q) (n3:M64 q 1152921504606846976 k3 j3) (n1:M64 q 1503914060200516822 k1 j1) (n0:M64 q 6346243789798364141 k0 j0)
  (a1:A64 k0 j1 0 e1 f1) (a2:A64 b0 j0 0 z g0) (a3:A64 b1 e1 g0 r0 g1) (w:W64 f1 k1 y) (a4:A64 b2 y g1 r1 g2) (a5:A64 b3 j3 g2 r2 g3)
  (w1:W64 d3 hh3 y1) (w2:W64 c3 y1 y2) (w3:W64 g3 y2 y3) (w4:W64 y3 k3 y4) :
  18446744073709551616 * v4 r0 r1 r2 y4 = v4 u0 u1 u2 u3 + x * 1627715501170711445284395025044413883736156588369414752970002579683115011841 + q * LL:=by
 have e:=mul_r m3 m2 m1 m0 p1 p2 p3
 have s:=add_step s0 s1 s2 s3
 have r:=red_step s0.s hq n3 n1 n0 a1 a2 a3 w a4 a5
 have hk:=hi_small3 hq.l n3
 have hk0:=n3.h.1
 have ht:=hi_top hx m3
 have ht0:=m3.h.1
 have:=a5.d
 have:=p3.d
 have:=s3.d
 have e1:=w1.sum (by omega) (by omega)
 have e2:=w2.sum (by omega) (by omega)
 have e3:=w3.sum (by omega) (by omega)
 have e4:=w4.sum (by omega) (by omega)
 rw [←e]
 generalize q * LL = Q at *
 clear e hq n3 n1 n0 a1 a2 a3 w a4 a5 w1 w2 w3 w4 m3 m2 m1 m0 p1 p2 p3 hx s0 s1 s2 s3
 unfold v4 at *
 omega
theorem v4_bd {a b c d:Int} (ha:U64 a) (hb:U64 b) (hc:U64 c) (hd:U64 d):0 ≤ v4 a b c d∧v4 a b c d < 115792089237316195423570985008687907853269984665640564039457584007913129639936:=by
 unfold U64 v4 at *;omega
theorem from_all {a0 a1 a2 a3 q0 q1 q2 q3 V1 V2 V3 V4:Int} (u0:U64 a0) (u1:U64 a1) (u2:U64 a2) (u3:U64 a3) (k0:U64 q0) (k1:U64 q1) (k2:U64 q2) (k3:U64 q3)
  (h1:18446744073709551616 * V1 = a0 + q0 * LL + 18446744073709551616 * a1) (h2:18446744073709551616 * V2 = V1 + q1 * LL + 18446744073709551616 * a2) (h3:18446744073709551616 * V3 = V2 + q2 * LL + 18446744073709551616 * a3) (h4:18446744073709551616 * V4 = V3 + q3 * LL) :
  V4 < 2 * LL∧V4 * 115792089237316195423570985008687907853269984665640564039457584007913129639936 = v4 a0 a1 a2 a3 + LL * v4 q0 q1 q2 q3:=by
 unfold U64 v4 LL at *;omega
def RR:Int:=1627715501170711445284395025044413883736156588369414752970002579683115011841
theorem v4_mul (a b c d r:Int):v4 (a * r) (b * r) (c * r) (d * r) = v4 a b c d * r:=by
 unfold v4;simp only [Int.add_mul,Int.mul_assoc]
theorem to_all {a0 a1 a2 a3 q0 q1 q2 q3 V1 V2 V3 V4:Int} (u0:U64 a0) (u1:U64 a1) (u2:U64 a2) (u3:U64 a3) (k0:U64 q0) (k1:U64 q1) (k2:U64 q2) (k3:U64 q3)
  (h1:18446744073709551616 * V1 = a0 * 1627715501170711445284395025044413883736156588369414752970002579683115011841 + q0 * LL) (h2:18446744073709551616 * V2 = V1 + a1 * 1627715501170711445284395025044413883736156588369414752970002579683115011841 + q1 * LL) (h3:18446744073709551616 * V3 = V2 + a2 * 1627715501170711445284395025044413883736156588369414752970002579683115011841 + q2 * LL) (h4:18446744073709551616 * V4 = V3 + a3 * 1627715501170711445284395025044413883736156588369414752970002579683115011841 + q3 * LL) :
  V4 < 2 * LL∧V4 * 115792089237316195423570985008687907853269984665640564039457584007913129639936 = v4 a0 a1 a2 a3 * 1627715501170711445284395025044413883736156588369414752970002579683115011841 + LL * v4 q0 q1 q2 q3:=by
 have e1:V4 * 115792089237316195423570985008687907853269984665640564039457584007913129639936 = v4 (a0 * RR) (a1 * RR) (a2 * RR) (a3 * RR) + v4 (q0 * LL) (q1 * LL) (q2 * LL) (q3 * LL):=by
  change 18446744073709551616 * V1 = a0 * RR + q0 * LL at h1
  change 18446744073709551616 * V2 = V1 + a1 * RR + q1 * LL at h2
  change 18446744073709551616 * V3 = V2 + a2 * RR + q2 * LL at h3
  change 18446744073709551616 * V4 = V3 + a3 * RR + q3 * LL at h4
  generalize a0 * RR = A0 at *
  generalize a1 * RR = A1 at *
  generalize a2 * RR = A2 at *
  generalize a3 * RR = A3 at *
  generalize q0 * LL = Q0 at *
  generalize q1 * LL = Q1 at *
  generalize q2 * LL = Q2 at *
  generalize q3 * LL = Q3 at *
  clear u0 u1 u2 u3 k0 k1 k2 k3
  unfold v4
  omega
 rw [v4_mul,v4_mul] at e1
 have b1:=v4_bd u0 u1 u2 u3
 have b2:=v4_bd k0 k1 k2 k3
 clear h1 h2 h3 h4 u0 u1 u2 u3 k0 k1 k2 k3
 rw [Int.mul_comm LL,e1]
 refine ⟨?_,rfl⟩
 generalize v4 a0 a1 a2 a3 = A at *
 generalize v4 q0 q1 q2 q3 = Q at *
 have hA:A * RR ≤ 115792089237316195423570985008687907853269984665640564039457584007913129639935 * RR:=Int.mul_le_mul_of_nonneg_right (by omega) (by decide)
 have hQ:Q * LL ≤ 115792089237316195423570985008687907853269984665640564039457584007913129639935 * LL:=Int.mul_le_mul_of_nonneg_right (by omega) (by decide)
 refine Int.lt_of_mul_lt_mul_right (a:=115792089237316195423570985008687907853269984665640564039457584007913129639936) ?_ (by decide)
 rw [e1]
 clear e1 b1 b2
 generalize A * RR = A' at *
 generalize Q * LL = Q' at *
 refine Int.lt_of_le_of_lt (Int.add_le_add hA hQ) ?_
 decide
def Out4 (m r0 r1 r2 r3:Int):Prop:=(0 ≤ m∧m < LL)∧m = v4 r0 r1 r2 r3∧U64 r0∧U64 r1∧U64 r2∧U64 r3
theorem last_sel {x0 x1 x2 x3 s0 s1 s2 s3 c0 c1 c2 c3 s4 c4 V A K:Int} (h0:U64 x0) (h1:U64 x1) (h2:U64 x2) (h3:U64 x3)
  (p0:S64 x0 6346243789798364141 0 s0 c0) (p1:S64 x1 1503914060200516822 c0 s1 c1) (p2:S64 x2 0 c1 s2 c2) (p3:S64 x3 1152921504606846976 c2 s3 c3) (p4:S64 0 0 c3 s4 c4)
  (hV:V < 2 * LL∧V * 115792089237316195423570985008687907853269984665640564039457584007913129639936 = A + LL * K) (e:v4 x0 x1 x2 x3 = V) :
  ∃ m,(∃ k,m * 115792089237316195423570985008687907853269984665640564039457584007913129639936 = A + LL * k)∧Out4 m (if c4 = 0 then s0 else x0) (if c4 = 0 then s1 else x1) (if c4 = 0 then s2 else x2) (if c4 = 0 then s3 else x3):=by
 subst e
 rcases sub_step h0 h1 h2 h3 p0 p1 p2 p3 p4 hV.1 with ⟨rfl,e,hl⟩ | ⟨rfl,hl⟩
 ·simp only [reduceIte]
  refine ⟨v4 s0 s1 s2 s3,⟨K - 115792089237316195423570985008687907853269984665640564039457584007913129639936,?_⟩,?_,rfl,p0.s,p1.s,p2.s,p3.s⟩
  ·rw [e]
   have:=hV.2
   generalize v4 x0 x1 x2 x3 = V at *
   unfold LL at *
   omega
  ·rw [e]
   have:=hV.1
   generalize v4 x0 x1 x2 x3 = V at *
   unfold LL at *
   omega
 ·simp only [reduceIte,show ((1:Int) = 0) = False by decide]
  exact ⟨v4 x0 x1 x2 x3,⟨K,hV.2⟩,⟨(v4_bd h0 h1 h2 h3).1,hl⟩,rfl,h0,h1,h2,h3⟩
open Go.RowKit
theorem Chg.loc2 {R:Nat→Nat→Prop} {w W W1:World} {k o n:Nat} (C:Chg R w W) (hc:Chg (Rg k o n) W W1) (hk:w.heap.size ≤ k):Chg R w W1 :=
 C.step hc (fun _ _ hj h=>absurd (h.1 ▸ hj) (Nat.not_lt.2 hk))
def Fx (T:Array Value):List (Nat × Value)→Prop
 | []=>True
 | (i,v) :: l=>T[i]?.getD undef = v∧Fx T l
def Fu (T:Array Value):List (Nat × Int)→Prop
 | []=>True
 | (i,x) :: l=>T[i]?.getD undef = .int .u64 x∧Fu T l
def Fr (N:Nat) (l:List (Nat × Value)) (m:List (Nat × Int)) (T:Array Value):Prop:=Hd (T.size = N)∧Fx T l∧Fu T m
def Sz (T:Array Value):List Nat→Prop
 | []=>True
 | i :: l=>i < T.size∧Sz T l
theorem sz {T:Array Value} {N:Nat} (h:Hd (T.size = N)):∀ l:List Nat,(l.all fun i=>decide (i < N)) = true→Sz T l
 | [],_=>trivial
 | i :: l,k=>by
  simp only [List.all_cons,Bool.and_eq_true,decide_eq_true_eq] at k
  exact ⟨by rw [h.out];exact k.1,sz h l k.2⟩
theorem act_gen {P:Program} {c:Code} {Q:Exit→Act→World→Prop} {X:Array Value} {W:World} (K:Array Value→Prop) (hK:K X) (h:∀ T,K T→Code.wp P c Q ⟨T,[]⟩ W):Code.wp P c Q ⟨X,[]⟩ W:=h X hK
theorem oG {P:Program} {ops:Array Oper} {l:List Oper} {Q:Exit→Act→World→Prop} {X:Array Value} {W:World} (K:Array Value→Prop) (hK:K X) (h:∀ T,K T→wpList P ops Q l ⟨T,[]⟩ W):wpList P ops Q l ⟨X,[]⟩ W:=h X hK
theorem mul64_n {a b h l:Int} {w:World} (ha:U64 a) (hb:U64 b) (qh:Hd (h = a * b / 18446744073709551616)) (ql:Hd (l = a * b % 18446744073709551616)):Calls Tryz.prog 120 #[.int .u64 a,.int .u64 b] w (fun e w'=>e = .returned (.tuple #[.int .u64 h,.int .u64 l])∧w' = w):=by
 rw [qh.out,ql.out];exact mul64_c a b w ha.1 ha.2 hb.1 hb.2
theorem M64.of {a b h l:Int} (ha:U64 a) (hb:U64 b) (qh:Hd (h = a * b / 18446744073709551616)) (ql:Hd (l = a * b % 18446744073709551616)):M64 a b h l:=by
 rw [qh.out,ql.out];exact M64.mk ha hb
theorem add64_n {a b c s d:Int} (ha:U64 a) (hb:U64 b) (hc:0 ≤ c∧c ≤ 1) (qs:Hd (s = (a + b + c) % 18446744073709551616)) (qd:Hd (d = (a + b + c) / 18446744073709551616)) (w:World):(callFunc 121 #[.int .u64 a,.int .u64 b,.int .u64 c]).run Tryz.prog w = .ok (.value (.tuple #[.int .u64 s,.int .u64 d])) w:=by
 rw [qs.out,qd.out];exact add64 a b c ha.1 hb.1 hc.1 hc.2 w
theorem A64.of {a b c s d:Int} (ha:U64 a) (hb:U64 b) (hc:0 ≤ c∧c ≤ 1) (qs:Hd (s = (a + b + c) % 18446744073709551616)) (qd:Hd (d = (a + b + c) / 18446744073709551616)):A64 a b c s d:=by
 rw [qs.out,qd.out];exact A64.mk ha hb hc
theorem sub64 (x y c:Int) (hx:0 ≤ x) (hx2:x < 18446744073709551616) (hy:0 ≤ y) (hy2:y < 18446744073709551616) (hc0:0 ≤ c) (hc:c ≤ 1) (w:World):(callFunc 119 #[.int .u64 x,.int .u64 y,.int .u64 c]).run Tryz.prog w =
  .ok (.value (.tuple #[.int .u64 ((x + 18446744073709551616 - y - c) % 18446744073709551616),.int .u64 (if x < y + c then 1 else 0)])) w:=by
 obtain ⟨x,rfl⟩:=Int.eq_ofNat_of_zero_le hx
 obtain ⟨y,rfl⟩:=Int.eq_ofNat_of_zero_le hy
 obtain ⟨c,rfl⟩:=Int.eq_ofNat_of_zero_le hc0
 rw [run_callFunc_extern Tryz.func119 (by kernel_rfl) (by kernel_rfl) (by kernel_rfl) (e:=sub64Entry) (by kernel_rfl),run_sub64 _ x y c (by omega)]
 simp only [Result.andThen]
 have e1:(((x + 18446744073709551616 - y - c) % 18446744073709551616:Nat):Int) = ((x:Int) + 18446744073709551616 - y - c) % 18446744073709551616:=by omega
 have e2:((if x < y + c then 1 else 0:Nat):Int) = if (x:Int) < y + c then 1 else 0:=by split<;>split<;>omega
 rw [e1,e2]
theorem sub64_n {a b c s d:Int} (ha:U64 a) (hb:U64 b) (hc:0 ≤ c∧c ≤ 1) (qs:Hd (s = (a + 18446744073709551616 - b - c) % 18446744073709551616)) (qd:Hd (d = if a < b + c then 1 else 0)) (w:World):(callFunc 119 #[.int .u64 a,.int .u64 b,.int .u64 c]).run Tryz.prog w = .ok (.value (.tuple #[.int .u64 s,.int .u64 d])) w:=by
 rw [qs.out,qd.out];exact sub64 a b c ha.1 ha.2 hb.1 hb.2 hc.1 hc.2 w
theorem S64.of {a b c s d:Int} (ha:U64 a) (hb:U64 b) (hc:0 ≤ c∧c ≤ 1) (qs:Hd (s = (a + 18446744073709551616 - b - c) % 18446744073709551616)) (qd:Hd (d = if a < b + c then 1 else 0)):S64 a b c s d:=by
 rw [qs.out,qd.out];exact S64.mk ha hb hc
theorem U64.k {a:Int} (h:(decide (0 ≤ a) && decide (a < 18446744073709551616)) = true):U64 a:=by
 simp only [Bool.and_eq_true,decide_eq_true_eq] at h;exact h
theorem M64.ex {a b:Int} (ha:U64 a) (hb:U64 b):∃ h l:Int,Hd (h = a * b / 18446744073709551616)∧Hd (l = a * b % 18446744073709551616)∧M64 a b h l :=
 ⟨_,_,hd rfl,hd rfl,M64.of ha hb (hd rfl) (hd rfl)⟩
theorem A64.ex {a b c:Int} (ha:U64 a) (hb:U64 b) (hc:0 ≤ c∧c ≤ 1):∃ s d:Int,A64 a b c s d∧∀ w,(callFunc 121 #[.int .u64 a,.int .u64 b,.int .u64 c]).run Tryz.prog w = .ok (.value (.tuple #[.int .u64 s,.int .u64 d])) w :=
 ⟨_,_,A64.of ha hb hc (hd rfl) (hd rfl),add64_n ha hb hc (hd rfl) (hd rfl)⟩
theorem S64.ex {a b c:Int} (ha:U64 a) (hb:U64 b) (hc:0 ≤ c∧c ≤ 1):∃ s d:Int,S64 a b c s d∧∀ w,(callFunc 119 #[.int .u64 a,.int .u64 b,.int .u64 c]).run Tryz.prog w = .ok (.value (.tuple #[.int .u64 s,.int .u64 d])) w :=
 ⟨_,_,S64.of ha hb hc (hd rfl) (hd rfl),sub64_n ha hb hc (hd rfl) (hd rfl)⟩
theorem W64.ex (a b:Int):∃ y:Int,W64 a b y∧IntKind.u64.wrap (a + b) = y:=⟨_,rfl,wrap_u64 _⟩
theorem mul_go {a b h l:Int} {w:World} {R:Ending→World→Prop} (ha:U64 a) (hb:U64 b) (qh:Hd (h = a * b / 18446744073709551616)) (ql:Hd (l = a * b % 18446744073709551616)) (k:R (.returned (.tuple #[.int .u64 h,.int .u64 l])) w):Calls Tryz.prog 120 #[.int .u64 a,.int .u64 b] w R :=
 (mul64_n ha hb qh ql).mono (by rintro e w' ⟨rfl,rfl⟩;exact k)
theorem u64k {a:Int} (h:(decide (0 ≤ a) && decide (a < 18446744073709551616)) = true):U64 a:=by
 simp only [Bool.and_eq_true,decide_eq_true_eq] at h;exact h
theorem k0:(0:Int) ≤ 0∧(0:Int) ≤ 1:=by omega
theorem ka:U64 15183074304973897243:=u64k rfl
theorem kb:U64 1152921504606846976:=u64k rfl
theorem kc:U64 1503914060200516822:=u64k rfl
theorem kd:U64 6346243789798364141:=u64k rfl
theorem ke:U64 259310039853996605:=u64k rfl
theorem kf:U64 14910419812499177061:=u64k rfl
theorem kg:U64 14991950615390032711:=u64k rfl
theorem kh:U64 11819153939886771969:=u64k rfl
theorem kz:U64 0:=u64k rfl
theorem u_of {d:Int} (h:0 ≤ d∧d ≤ 1):U64 d:=by unfold U64;omega
theorem Room.four {w:World} {b o:Nat} (h:Room w b o 4):∃ v0 v1 v2 v3,Has w b o [v0,v1,v2,v3]:=by
 obtain ⟨⟨v0,g0⟩,f0⟩:=h 0 (by decide)
 obtain ⟨⟨v1,g1⟩,f1⟩:=h 1 (by decide)
 obtain ⟨⟨v2,g2⟩,f2⟩:=h 2 (by decide)
 obtain ⟨⟨v3,g3⟩,f3⟩:=h 3 (by decide)
 refine ⟨v0,v1,v2,v3,fun i hi=>?_⟩
 have:i = 0∨i = 1∨i = 2∨i = 3:=by simp at hi;omega
 rcases this with rfl | rfl | rfl | rfl
 ·exact ⟨g0,f0⟩
 ·exact ⟨g1,f1⟩
 ·exact ⟨g2,f2⟩
 ·exact ⟨g3,f3⟩
theorem Has.four {w:World} {b o:Nat} {v0 v1 v2 v3:Value} (h:Has w b o [v0,v1,v2,v3]) :
  (w.cell? ⟨b,o,none⟩ = some v0∧w.cell? ⟨b,o + 1,none⟩ = some v1∧w.cell? ⟨b,o + 2,none⟩ = some v2∧w.cell? ⟨b,o + 3,none⟩ = some v3) ∧
  w.frozen? ⟨b,o,none⟩ = false∧w.frozen? ⟨b,o + 1,none⟩ = false∧w.frozen? ⟨b,o + 2,none⟩ = false∧w.frozen? ⟨b,o + 3,none⟩ = false:=by
 have h0:=h 0 (by simp)
 have h1:=h 1 (by simp)
 have h2:=h 2 (by simp)
 have h3:=h 3 (by simp)
 exact ⟨⟨h0.1,h1.1,h2.1,h3.1⟩,h0.2,h1.2,h2.2,h3.2⟩
def MW (w:World) (b o:Nat) (m:Int):Prop:=(0 ≤ m∧m < LL)∧∃ r0 r1 r2 r3,m = v4 r0 r1 r2 r3∧(U64 r0∧U64 r1∧U64 r2∧U64 r3)∧Has w b o [.int .u64 r0,.int .u64 r1,.int .u64 r2,.int .u64 r3]
theorem cm_and1 {x:Int} (h:U64 x):bits BinOp.and IntKind.u64 18446744073709551615 x = x:=by
 obtain ⟨n,rfl⟩:=Int.eq_ofNat_of_zero_le h.1
 have hn:n < 18446744073709551616:=by have:=h.2;omega
 rw [show ((18446744073709551615:Int)) = ((18446744073709551615:Nat):Int) from rfl,u64_and_nat _ _ (by decide) hn]
 have e:18446744073709551615 &&& n = n:=by rw [Nat.and_comm];exact (Nat.and_two_pow_sub_one_eq_mod n 64).trans (Nat.mod_eq_of_lt hn)
 rw [e]
theorem cm_and0 {x:Int} (h:U64 x):bits BinOp.and IntKind.u64 0 x = 0:=by
 obtain ⟨n,rfl⟩:=Int.eq_ofNat_of_zero_le h.1
 have hn:n < 18446744073709551616:=by have:=h.2;omega
 rw [show ((0:Int)) = ((0:Nat):Int) from rfl,u64_and_nat _ _ (by decide) hn,Nat.zero_and]
theorem cm_orl {x:Int} (h:U64 x):bits BinOp.or IntKind.u64 x 0 = x:=by
 obtain ⟨n,rfl⟩:=Int.eq_ofNat_of_zero_le h.1
 have hn:n < 18446744073709551616:=by have:=h.2;omega
 rw [show ((0:Int)) = ((0:Nat):Int) from rfl,u64_or_nat _ _ hn (by decide),Nat.or_zero]
theorem cm_orr {x:Int} (h:U64 x):bits BinOp.or IntKind.u64 0 x = x:=by
 obtain ⟨n,rfl⟩:=Int.eq_ofNat_of_zero_le h.1
 have hn:n < 18446744073709551616:=by have:=h.2;omega
 rw [show ((0:Int)) = ((0:Nat):Int) from rfl,u64_or_nat _ _ (by decide) hn,Nat.zero_or]
theorem cmov_c {b o:Nat} {c x y r:Int} {w:World} (hc:c = 0∨c = 1) (hx:U64 x) (hy:U64 y) (RM:Room w b o 1) (hr:Hd (r = if c = 0 then x else y)) :
  Calls Tryz.prog 122 #[Ptr b o,.int .u64 c,.int .u64 x,.int .u64 y] w (fun e w'=>e = .returned (.tuple #[])∧Chg (Rg b o 1) w w'∧Has w' b o [.int .u64 r]):=by
 obtain ⟨⟨u,hu⟩,hf⟩:=RM 0 (by decide)
 rw [Nat.add_zero] at hu hf
 have C:Chg (Rg b o 1) w w:=.refl _ _
 have a1:=cm_and1 hx
 have a2:=cm_and1 hy
 have a3:=cm_and0 hx
 have a4:=cm_and0 hy
 have o1:=cm_orl hy
 have o2:=cm_orr hx
 have hs:Has (w.setCell ⟨b,o,none⟩ (.int .u64 r)) b o [.int .u64 r]:=by
  intro i hi
  have:i = 0:=by simpa using hi
  subst this
  exact ⟨setCell_same hu,by rw [frozen_setCell];exact hf⟩
 have hc2:=C.setCell (b:=b) (o:=o) (.int .u64 r) (fun _=>⟨rfl,by omega,by omega⟩)
 replace hs:=hd hs
 replace hc2:=hd hc2
 clear C RM
 rcases hc with rfl | rfl
 ·have e:r = x:=hr.out
  subst e
  go_enter Tryz.func122,Tryz.ntmps122
  go_wp2_with fail
  go_end0
  rw [show bits BinOp.xor IntKind.u64 IntKind.u64.max 0 = 18446744073709551615 by decide,a1,o2]
  exact ⟨rfl,hc2.out,hs.out⟩
 ·have e:r = y:=hr.out
  subst e
  go_enter Tryz.func122,Tryz.ntmps122
  go_wp2_with fail
  go_end0
  rw [show bits BinOp.xor IntKind.u64 IntKind.u64.max 18446744073709551615 = 0 by decide,a3,o1]
  exact ⟨rfl,hc2.out,hs.out⟩
end Go.Proofs.Ed
