/- A part of the proof of the tied card of FnTimes: Fe9. -/
import Derived.Test.YtcogfofgmbndjaaGreatDoorProg
import Derived.WalkKit
import Derived.WalkSpells
import Derived.WalkLawsBesides
import Derived.Outline
import Derived.StillTailTactics
import Derived.Test.YtcogfofgmbndjaaGreatDoorTAk
import Derived.Test.YtcogfofgmbndjaaGreatDoorTAn
set_option maxRecDepth 100000
set_option maxHeartbeats 40000000
namespace Go.Proofs.Ed
open Go.RowKit
def limbs (n:Int):L5:=⟨n % 2251799813685248,n / 2251799813685248 % 2251799813685248,n / 5070602400912917605986812821504 % 2251799813685248,n / 11417981541647679048466287755595961091061972992 % 2251799813685248,n / 25711008708143844408671393477458601640355247900524685364822016⟩
theorem limbs_of {a b c d e n:Int} (h:L5.v ⟨a,b,c,d,e⟩ = n) (ha:0 ≤ a∧a < 2251799813685248) (hb:0 ≤ b∧b < 2251799813685248) (hc:0 ≤ c∧c < 2251799813685248) (hd:0 ≤ d∧d < 2251799813685248) :
  (⟨a,b,c,d,e⟩:L5) = limbs n:=by
 subst h
 simp only [L5.v,limbs,L5.mk.injEq]
 omega
theorem fe_val (l:L5):((fe l).val:Int) = l.v % 57896044618658097711785492504343953926634992332820282019728792003956564819949:=el_val l.v
theorem Mid.u0 {w0 W:World} {b o:Nat} {v0 v1 v2 v3 v4:Int} (h:Mid w0 b o v0 v1 v2 v3 v4 W) (x:Int):Mid w0 b o x v1 v2 v3 v4 (W.setCell ⟨b,o,none⟩ (.int .u64 x)):=(h.s0 x).undrew
theorem Mid.u1 {w0 W:World} {b o:Nat} {v0 v1 v2 v3 v4:Int} (h:Mid w0 b o v0 v1 v2 v3 v4 W) (x:Int):Mid w0 b o v0 x v2 v3 v4 (W.setCell ⟨b,o + 1,none⟩ (.int .u64 x)):=(h.s1 x).undrew
theorem Mid.u2 {w0 W:World} {b o:Nat} {v0 v1 v2 v3 v4:Int} (h:Mid w0 b o v0 v1 v2 v3 v4 W) (x:Int):Mid w0 b o v0 v1 x v3 v4 (W.setCell ⟨b,o + 2,none⟩ (.int .u64 x)):=(h.s2 x).undrew
theorem Mid.u3 {w0 W:World} {b o:Nat} {v0 v1 v2 v3 v4:Int} (h:Mid w0 b o v0 v1 v2 v3 v4 W) (x:Int):Mid w0 b o v0 v1 v2 x v4 (W.setCell ⟨b,o + 3,none⟩ (.int .u64 x)):=(h.s3 x).undrew
theorem Mid.u4 {w0 W:World} {b o:Nat} {v0 v1 v2 v3 v4:Int} (h:Mid w0 b o v0 v1 v2 v3 v4 W) (x:Int):Mid w0 b o v0 v1 v2 v3 x (W.setCell ⟨b,o + 4,none⟩ (.int .u64 x)):=(h.s4 x).undrew
theorem reduce_e {b o:Nat} {f:F} {w:World} (X:Elt w b o f) :
  Calls Tryz.prog 141 #[Ptr b o] w fun e w'=>e = .returned (Ptr b o)∧Chg (Rg b o 5) w w'∧Has w' b o (cells (limbs f.val)):=by
 obtain ⟨l,hl,rfl,X⟩:=X
 go_enter Tryz.func141,Tryz.ntmps141
 go_wp2_with fail
 refine (carry_c b o l w hl.w X).mono ?_
 rintro e W ⟨rfl,C,V⟩
 have hm:=carry_ok hl.w
 have hv:((fe l).val:Int) = (carry l).v % 57896044618658097711785492504343953926634992332820282019728792003956564819949:=by rw [←carry_fe,fe_val]
 obtain ⟨⟨m0,m1,m2,m3,m4⟩,hmm⟩:∃ m,m = carry l:=⟨_,rfl⟩
 rw [←hmm] at hv hm V
 replace hv:=hd hv
 clear hmm X hl
 have M:Mid w b o m0 m1 m2 m3 m4 W:=⟨C,V⟩
 have hm':=hm
 obtain ⟨b0,b1,b2,b3,b4⟩:=hm'
 simp only at b0 b1 b2 b3 b4
 obtain ⟨c0,h0⟩:∃ c,(m0 + 19) / 2251799813685248 = c:=⟨_,rfl⟩
 have d0:0 ≤ c0∧c0 ≤ 1:=by omega
 obtain ⟨c1,h1⟩:∃ c,(m1 + c0) / 2251799813685248 = c:=⟨_,rfl⟩
 have d1:0 ≤ c1∧c1 ≤ 1:=by omega
 obtain ⟨c2,h2⟩:∃ c,(m2 + c1) / 2251799813685248 = c:=⟨_,rfl⟩
 have d2:0 ≤ c2∧c2 ≤ 1:=by omega
 obtain ⟨c3,h3⟩:∃ c,(m3 + c2) / 2251799813685248 = c:=⟨_,rfl⟩
 have d3:0 ≤ c3∧c3 ≤ 1:=by omega
 obtain ⟨c4,h4⟩:∃ c,(m4 + c3) / 2251799813685248 = c:=⟨_,rfl⟩
 have d4:0 ≤ c4∧c4 ≤ 1:=by omega
 obtain ⟨q0,g0⟩:∃ c,(m0 + 19 * c4) / 2251799813685248 = c:=⟨_,rfl⟩
 have p0:0 ≤ q0∧q0 ≤ 1:=by omega
 obtain ⟨q1,g1⟩:∃ c,(m1 + q0) / 2251799813685248 = c:=⟨_,rfl⟩
 have p1:0 ≤ q1∧q1 ≤ 1:=by omega
 obtain ⟨q2,g2⟩:∃ c,(m2 + q1) / 2251799813685248 = c:=⟨_,rfl⟩
 have p2:0 ≤ q2∧q2 ≤ 1:=by omega
 obtain ⟨q3,g3⟩:∃ c,(m3 + q2) / 2251799813685248 = c:=⟨_,rfl⟩
 have p3:0 ≤ q3∧q3 ≤ 1:=by omega
 have a0:=and51 (m0 + 19 * c4) (by omega) (by omega)
 have a1:=and51 (m1 + q0) (by omega) (by omega)
 have a2:=and51 (m2 + q1) (by omega) (by omega)
 have a3:=and51 (m3 + q2) (by omega) (by omega)
 have a4:=and51 (m4 + q3) (by omega) (by omega)
 have Z:=reduce_v hm h0 h1 h2 h3 h4 g0 g1 g2 g3
 have Y:=hd (limbs_of Z (by omega) (by omega) (by omega) (by omega))
 clear Z hm V C
 obtain ⟨⟨x0,x1,x2,x3,x4⟩,f0,f1,f2,f3,f4⟩:=M.2.five
 replace M:=hd M
 go_wp2_with fail
 refine wp_gen (fun W=>Mid w b o (m0 + 19 * c4) m1 m2 m3 m4 W) (M.out.u0 _) ?_
 clear M x0 x1 x2 x3 x4 f0 f1 f2 f3 f4
 intro W M
 obtain ⟨⟨x0,x1,x2,x3,x4⟩,f0,f1,f2,f3,f4⟩:=M.2.five
 replace M:=hd M
 go_still_tail 12,(by kernel_rfl)
 go_wp2_with fail
 refine wp_gen (fun W=>Mid w b o ((m0 + 19 * c4) % 2251799813685248) (m1 + q0) m2 m3 m4 W) ((M.out.s1 _).u0 _) ?_
 clear M x0 x1 x2 x3 x4 f0 f1 f2 f3 f4
 intro W M
 obtain ⟨⟨x0,x1,x2,x3,x4⟩,f0,f1,f2,f3,f4⟩:=M.2.five
 replace M:=hd M
 go_still_tail 12,(by kernel_rfl)
 go_wp2_with fail
 refine wp_gen (fun W=>Mid w b o ((m0 + 19 * c4) % 2251799813685248) ((m1 + q0) % 2251799813685248) (m2 + q1) m3 m4 W) ((M.out.s2 _).u1 _) ?_
 clear M x0 x1 x2 x3 x4 f0 f1 f2 f3 f4
 intro W M
 obtain ⟨⟨x0,x1,x2,x3,x4⟩,f0,f1,f2,f3,f4⟩:=M.2.five
 replace M:=hd M
 go_still_tail 12,(by kernel_rfl)
 go_wp2_with fail
 refine wp_gen (fun W=>Mid w b o ((m0 + 19 * c4) % 2251799813685248) ((m1 + q0) % 2251799813685248) ((m2 + q1) % 2251799813685248) (m3 + q2) m4 W) ((M.out.s3 _).u2 _) ?_
 clear M x0 x1 x2 x3 x4 f0 f1 f2 f3 f4
 intro W M
 obtain ⟨⟨x0,x1,x2,x3,x4⟩,f0,f1,f2,f3,f4⟩:=M.2.five
 replace M:=hd M
 go_still_tail 12,(by kernel_rfl)
 go_wp2_with fail
 go_ret
 have F:=(((M.out.s4 (m4 + q3)).u3 ((m3 + q2) % 2251799813685248)).u4 ((m4 + q3) % 2251799813685248))
 refine ⟨rfl,F.1,?_⟩
 rw [hv.out,←Y.out]
 exact F.2
end Go.Proofs.Ed
