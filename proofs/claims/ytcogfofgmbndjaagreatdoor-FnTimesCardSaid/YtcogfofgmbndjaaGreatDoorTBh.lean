/- A part of the proof of the tied card of FnTimes: Pbytes, Pm0, Pm1, Pm2, Sel2. -/
import Derived.Test.YtcogfofgmbndjaaGreatDoorProg
import Derived.WalkKit
import Derived.WalkSpells
import Derived.WalkLawsBesides
import Derived.Outline
import Derived.StillTailTactics
import Derived.Test.YtcogfofgmbndjaaGreatDoorTBg
import Derived.Test.YtcogfofgmbndjaaGreatDoorTAv
import Derived.Test.YtcogfofgmbndjaaGreatDoorTBf
import Derived.Test.YtcogfofgmbndjaaGreatDoorTAr
set_option maxRecDepth 100000
set_option maxHeartbeats 40000000
namespace Go.Proofs.Ed
open Go.RowKit
theorem lt256 (f:F):0 ≤ (f.val:Int)∧(f.val:Int) < 115792089237316195423570985008687907853269984665640564039457584007913129639936:=by
 have:=f.isLt
 unfold P at this
 omega
theorem odd_01 (f:F):odd f = 0∨odd f = 1:=by unfold odd;omega
theorem or128 {c:Int} (h:0 ≤ c∧c < 128):bits BinOp.or IntKind.u8 c 128 = c + 128:=by
 obtain ⟨n,rfl⟩:=Int.eq_ofNat_of_zero_le h.1
 have hn:n < 128:=by omega
 have:∀ m:Fin 128,bits BinOp.or IntKind.u8 (m.val:Int) 128 = (m.val:Int) + 128:=by decide +kernel
 exact this ⟨n,hn⟩
theorem or0 {c:Int} (h:0 ≤ c∧c < 128):bits BinOp.or IntKind.u8 c 0 = c:=by
 obtain ⟨n,rfl⟩:=Int.eq_ofNat_of_zero_le h.1
 have hn:n < 128:=by omega
 have:∀ m:Fin 128,bits BinOp.or IntKind.u8 (m.val:Int) 0 = (m.val:Int):=by decide +kernel
 exact this ⟨n,hn⟩
theorem enc_bits (y x:F) (c:Int) (qc:(y.val:Int) / 452312848583266388373324160190187140051835877600158453279131187530910662656 = c) :
  IntKind.i64.wrap (odd x * 128) = odd x * 128∧IntKind.u8.wrap (odd x * 128) = odd x * 128∧bits BinOp.or IntKind.u8 c (odd x * 128) = c + odd x * 128:=by
 have hc:0 ≤ c∧c < 128:=by
  have:=y.isLt
  unfold P at this
  omega
 rcases odd_01 x with h | h<;>rw [h]
 ·exact ⟨rfl,rfl,by rw [show (0:Int) * 128 = 0 by rfl,or0 hc];omega⟩
 ·exact ⟨rfl,rfl,by rw [show (1:Int) * 128 = 128 by rfl,or128 hc]⟩
theorem by32_top {n:Int} (hn:0 ≤ n∧n < 57896044618658097711785492504343953926634992332820282019728792003956564819968) (s:Int) (hs:s = 0∨s = 1):(by32 n).set 31 (.int .u8 (n / 452312848583266388373324160190187140051835877600158453279131187530910662656 + s * 128)) = by32 (n + 57896044618658097711785492504343953926634992332820282019728792003956564819968 * s):=by
 simp only [by32,by8,List.cons_append,List.nil_append,List.set_cons_succ,List.set_cons_zero,List.cons.injEq,Value.int.injEq,true_and,and_true]
 rcases hs with rfl | rfl
 ·refine ⟨?_,?_,?_,?_,?_,?_,?_,?_,?_,?_,?_,?_,?_,?_,?_,?_,?_,?_,?_,?_,?_,?_,?_,?_,?_,?_,?_,?_,?_,?_,?_,?_⟩<;>omega
 ·refine ⟨?_,?_,?_,?_,?_,?_,?_,?_,?_,?_,?_,?_,?_,?_,?_,?_,?_,?_,?_,?_,?_,?_,?_,?_,?_,?_,?_,?_,?_,?_,?_,?_⟩<;>omega
theorem enc_set (y x:F):(by32 y.val).set 31 (.int .u8 ((y.val:Int) / 452312848583266388373324160190187140051835877600158453279131187530910662656 + odd x * 128)) = by32 ((y.val:Int) + 57896044618658097711785492504343953926634992332820282019728792003956564819968 * odd x):=by
 have:=F.val_bd y
 exact by32_top (by omega) _ (odd_01 x)
theorem ptBytes_e {bv ov bp op:Nat} {p:Pt} {w:World} (RM:Room w bv ov 32) (hp:P3 w bp op p) (hb:bv ≠ bp) :
  Calls Tryz.prog 54 #[Ptr bp op,Ptr bv ov] w (fun e w'=>e = .returned (.slice (some ⟨bv,ov,none⟩) 32 32)∧Chg (Rg bv ov 32) w w'∧Has w' bv ov (by32 (encP p))):=by
 obtain ⟨X,Y,Z,T,A0,A1,A2,A3,rp⟩:=id hp
 have C:Chg (Rg bv ov 32) w w:=.refl _ _
 go_enter Tryz.func54,Tryz.ntmps54
 go_wp2_with fail
 obtain ⟨n1,ln1⟩:∃ n,w.heap.size = n:=⟨_,rfl⟩
 rw [ln1]
 have hb:=aB [.cells (List.toArray [Ptr bp op]) 48] w
 have zn1:w.heap.size ≤ n1:=ln1 ▸ C.size
 have y1:bv < n1:=ln1 ▸ RM.lt (by decide)
 have y2:bp < n1:=ln1 ▸ hp.lt
 replace C:=C.trans (Chg.of_below hb)
 replace RM:=RM.later hb
 replace hp:=hp.keep (Chg.of_below (R:=R0) hb) (fun _ _ h=>h)
 replace A0:=A0.keep (Chg.of_below (R:=R0) hb) (fun _ _ h=>h)
 replace A1:=A1.keep (Chg.of_below (R:=R0) hb) (fun _ _ h=>h)
 replace A2:=A2.keep (Chg.of_below (R:=R0) hb) (fun _ _ h=>h)
 replace A3:=A3.keep (Chg.of_below (R:=R0) hb) (fun _ _ h=>h)
 have K1_0:=aH [.cells (List.toArray [Ptr bp op]) 48] w 0 [Ptr bp op] 48 rfl
 rw [ln1] at K1_0
 simp only [Nat.add_zero] at K1_0
 refine cG (fun W=>Chg (Rg bv ov 32) w W∧Room W bv ov 32∧P3 W bp op p∧Elt W bp op X∧Elt W bp (op + 5) Y∧Elt W bp (op + 10) Z∧Elt W bp (op + 15) T∧Has W n1 0 [Ptr bp op]) ⟨C,RM,hp,A0,A1,A2,A3,K1_0⟩ ?_
 clear C RM hp A0 A1 A2 A3 K1_0 hb ln1
 rintro W ⟨C,RM,hp,A0,A1,A2,A3,K1_0⟩
 refine (check1_e K1_0 hp).mono ?_
 rintro e w1 ⟨rfl,hw⟩
 obtain rfl:=hw.symm
 clear K1_0
 go_wp2_with fail
 obtain ⟨n2,ln2⟩:∃ n,W.heap.size = n:=⟨_,rfl⟩
 rw [ln2]
 have hb:=aB [z73,z73,z73] W
 have zn2:w.heap.size ≤ n2:=ln2 ▸ C.size
 have y3:bv < n2:=ln2 ▸ RM.lt (by decide)
 have y4:bp < n2:=ln2 ▸ hp.lt
 replace C:=C.trans (Chg.of_below hb)
 replace RM:=RM.later hb
 replace hp:=hp.keep (Chg.of_below (R:=R0) hb) (fun _ _ h=>h)
 replace A0:=A0.keep (Chg.of_below (R:=R0) hb) (fun _ _ h=>h)
 replace A1:=A1.keep (Chg.of_below (R:=R0) hb) (fun _ _ h=>h)
 replace A2:=A2.keep (Chg.of_below (R:=R0) hb) (fun _ _ h=>h)
 replace A3:=A3.keep (Chg.of_below (R:=R0) hb) (fun _ _ h=>h)
 have K2_0:=(aH [z73,z73,z73] W 0 (List.replicate 5 (.int .u64 0)) 73 rfl).room (n:=5) rfl
 rw [ln2] at K2_0
 have K2_1:=(aH [z73,z73,z73] W 1 (List.replicate 5 (.int .u64 0)) 73 rfl).room (n:=5) rfl
 rw [ln2] at K2_1
 have K2_2:=(aH [z73,z73,z73] W 2 (List.replicate 5 (.int .u64 0)) 73 rfl).room (n:=5) rfl
 rw [ln2] at K2_2
 refine cG (fun W=>Chg (Rg bv ov 32) w W∧Room W bv ov 32∧P3 W bp op p∧Elt W bp op X∧Elt W bp (op + 5) Y∧Elt W bp (op + 10) Z∧Elt W bp (op + 15) T∧Room W n2 0 5∧Room W (n2 + 1) 0 5∧Room W (n2 + 2) 0 5) ⟨C,RM,hp,A0,A1,A2,A3,K2_0,K2_1,K2_2⟩ ?_
 clear C RM hp A0 A1 A2 A3 K2_0 K2_1 K2_2 hb ln2
 rintro W ⟨C,RM,hp,A0,A1,A2,A3,K2_0,K2_1,K2_2⟩
 refine (inv_e K2_0 A2).mono ?_
 rintro e W ⟨rfl,hc,hv⟩
 replace C:=C.loc hc (by omega)
 replace RM:=hc.room RM
 replace hp:=hp.keep hc oa
 replace A0:=A0.keep hc oa
 replace A1:=A1.keep hc oa
 replace A2:=A2.keep hc oa
 replace A3:=A3.keep hc oa
 replace K2_0:=hc.room K2_0
 replace K2_1:=hc.room K2_1
 replace K2_2:=hc.room K2_2
 clear hc
 obtain ⟨f1,qf1⟩:∃ g,g = inv Z:=⟨_,rfl⟩
 rw [←qf1] at hv
 replace qf1:=hd qf1
 have E5:=hv
 clear hv
 go_wp2_with fail
 refine (mul_e K2_1 A0 E5).mono ?_
 rintro e W ⟨rfl,hc,hv⟩
 replace C:=C.loc hc (by omega)
 replace RM:=hc.room RM
 replace hp:=hp.keep hc oa
 replace A0:=A0.keep hc oa
 replace A1:=A1.keep hc oa
 replace A2:=A2.keep hc oa
 replace A3:=A3.keep hc oa
 replace K2_0:=hc.room K2_0
 replace K2_1:=hc.room K2_1
 replace K2_2:=hc.room K2_2
 replace E5:=E5.keep hc oa
 clear hc
 obtain ⟨f2,qf2⟩:∃ g,g = X * f1:=⟨_,rfl⟩
 rw [←qf2] at hv
 replace qf2:=hd qf2
 have E6:=hv
 clear hv
 go_wp2_with fail
 refine (mul_e K2_2 A1 E5).mono ?_
 rintro e W ⟨rfl,hc,hv⟩
 replace C:=C.loc hc (by omega)
 replace RM:=hc.room RM
 replace hp:=hp.keep hc oa
 replace A0:=A0.keep hc oa
 replace A1:=A1.keep hc oa
 replace A2:=A2.keep hc oa
 replace A3:=A3.keep hc oa
 replace K2_0:=hc.room K2_0
 replace K2_1:=hc.room K2_1
 replace K2_2:=hc.room K2_2
 replace E5:=E5.keep hc oa
 replace E6:=E6.keep hc oa
 clear hc
 obtain ⟨f3,qf3⟩:∃ g,g = Y * f1:=⟨_,rfl⟩
 rw [←qf3] at hv
 replace qf3:=hd qf3
 have E7:=hv
 clear hv
 go_wp2_with fail
 refine (copyFe_e RM E7).mono ?_
 rintro e W ⟨rfl,hc,hv⟩
 replace C:=C.into hc
 replace RM:=hc.room RM
 replace hp:=hp.keep hc oa
 replace A0:=A0.keep hc oa
 replace A1:=A1.keep hc oa
 replace A2:=A2.keep hc oa
 replace A3:=A3.keep hc oa
 replace K2_0:=hc.room K2_0
 replace K2_1:=hc.room K2_1
 replace K2_2:=hc.room K2_2
 replace E5:=E5.keep hc oa
 replace E6:=E6.keep hc oa
 replace E7:=E7.keep hc oa
 clear hc
 have E8:=hv
 clear hv
 go_wp2_with fail
 have hc31:=by32_31 (n:=((Fin.val f3):Int)) (lt256 _)
 obtain ⟨c,qc⟩:∃ c,((Fin.val f3):Int) / 452312848583266388373324160190187140051835877600158453279131187530910662656 = c:=⟨_,rfl⟩
 rw [qc] at hc31
 obtain ⟨w1,w2,w3⟩:=enc_bits f3 f2 c qc
 refine region_tail' 8 (by kernel_rfl) (by kernel_rfl) (by kernel_rfl)
  (fun i v W=>match i with
   | 0=>v = .slice (some ⟨bv,ov,none⟩) 32 32 | 1=>v = Ptr bv (ov + 31) | 2=>v = .int .u8 c | 3=>v = .int .i64 (odd f2) | 4=>v = .int .i64 (odd f2 * 128)
   | 5=>v = .int .u8 (odd f2 * 128) | 6=>v = .int .u8 (c + odd f2 * 128) | 7=>v = Ptr bv (ov + 31) | _=>True) ?_ ?_ ?_
 ·intro i v u u' h hb
  split at h<;>exact h
 ·simp only [List.take_succ_cons,List.take_zero,heads]
  refine ⟨?_,?_,?_,?_,?_,?_,?_,?_,trivial⟩<;>intro a W1 hR hun hdep
  all_goals have t8:=hun 8 (by simp)
  all_goals have t6:=hun 6 (by simp)
  all_goals clear hun
  all_goals simp at t6 t8
  all_goals simp [slotOf,Region.binds] at hdep
  all_goals have hl:W1.cell? ⟨bv,ov + 31,none⟩ = some (.int .u8 c):=(E8.later hR.off 31 (by rw [by32_length];decide)).1.trans hc31
  all_goals go_simp
  all_goals first | exact Later.rfl' _ | skip
  ·refine (isNeg_e (Elt.keep (Chg.of_below (R:=R0) hR.off) E6 (fun _ _ h=>h))).mono ?_
   rintro e W' ⟨rfl,hb⟩
   exact ⟨rfl,hb⟩
  all_goals first | exact ⟨by rw [w1],Later.rfl' _⟩ | exact ⟨by rw [w2],Later.rfl' _⟩ | exact ⟨by rw [w3],Later.rfl' _⟩
 ·intro vs W1 hR hv
  simp only [List.take_succ_cons,List.take_zero,List.drop_succ_cons,List.drop_zero,heads,Option.isSome_some,if_true] at hv ⊢
  obtain ⟨v0,v1,v2,v3,v4,v5,v6,v7,-⟩:=hv
  simp only [finL,Act.put,v0,v1,v2,v3,v4,v5,v6,v7]
  simp only [iA,iB,iC]
  replace hR:=hR.off
  replace C:=C.trans (Chg.of_below hR)
  replace RM:=RM.later hR
  replace E8:=E8.later hR
  clear hR v0 v1 v2 v3 v4 v5 v6 v7
  have C2:=hd (C.setCell (b:=bv) (o:=ov + 31) (.int .u8 (c + odd f2 * 128)) (fun _=>⟨rfl,by omega,by omega⟩))
  have H2:=E8.set 31 rfl (.int .u8 (c + odd f2 * 128))
  rw [show (by32 ((Fin.val f3:Nat):Int)).set 31 (.int .u8 (c + odd f2 * 128)) = by32 (((Fin.val f3:Nat):Int) + 57896044618658097711785492504343953926634992332820282019728792003956564819968 * odd f2) by rw [←qc];exact enc_set _ _] at H2
  replace H2:=hd H2
  obtain ⟨u31,r31⟩:=(RM 31 (by decide))
  obtain ⟨x31,u31⟩:=u31
  clear RM E8 C
  go_wp2_with fail
  go_ret
  have hm:=mul_inv rp.1
  have ey:f3 = p.y:=by rw [qf3.out,qf1.out,rp.2.2.1];grind
  have ex:f2 = p.x:=by rw [qf2.out,qf1.out,rp.2.1];grind
  refine ⟨rfl,C2.out,?_⟩
  rw [show encP p = ((Fin.val f3:Nat):Int) + 57896044618658097711785492504343953926634992332820282019728792003956564819968 * odd f2 by rw [ey,ex];rfl]
  exact H2.out
open Go.RowKit
structure MS (w W:World) (bv ov m cm a b:Nat) (X:World→Prop):Prop where
 C:Chg (Rg bv ov 20) w W
 V:Room W bv ov 20
 M:Room W m 0 cm
 A:Room W a 0 20
 B:Room W b 0 15
 X:X W
def Kp (X:World→Prop) (P:Nat→Prop):Prop:=∀ R W W',X W→Chg R W W'→(∀ k i,R k i→P k)→X W'
theorem MS.step {w W W':World} {bv ov m cm a b:Nat} {X:World→Prop} {P:Nat→Prop} (S:MS w W bv ov m cm a b X) (kp:Kp X P) {k o z:Nat} (hc:Chg (Rg k o z) W W') (hP:P k)
  (hk:(k = bv∧o = ov∧z = 20)∨w.heap.size ≤ k):MS w W' bv ov m cm a b X:=by
 refine ⟨?_,hc.room S.V,hc.room S.M,hc.room S.A,hc.room S.B,kp _ _ _ S.X hc (fun k' i h=>h.1 ▸ hP)⟩
 rcases hk with ⟨rfl,rfl,rfl⟩ | h
 ·exact S.C.trans hc
 ·exact S.C.loc hc h
theorem MS.fresh {w W W':World} {bv ov m cm a b:Nat} {X:World→Prop} {P:Nat→Prop} (S:MS w W bv ov m cm a b X) (kp:Kp X P) (hb:Below W.heap.size W W'):MS w W' bv ov m cm a b X :=
 ⟨S.C.trans (Chg.of_below hb),S.V.later hb,S.M.later hb,S.A.later hb,S.B.later hb,kp R0 _ _ S.X (Chg.of_below hb) (fun _ _ h=>h.elim)⟩
theorem MS.drew {w W:World} {bv ov m cm a b:Nat} {X:World→Prop} {P:Nat→Prop} (S:MS w W bv ov m cm a b X) (kp:Kp X P):MS w W.drew bv ov m cm a b X :=
 ⟨S.C.drew,S.V,S.M,S.A,S.B,kp R0 _ _ S.X (Chg.refl _ W).drew (fun _ _ h=>h.elim)⟩
theorem dbl16 (x:Int) (p:Pt):zmul x p + zmul x p + (zmul x p + zmul x p) + (zmul x p + zmul x p + (zmul x p + zmul x p)) + (zmul x p + zmul x p + (zmul x p + zmul x p) + (zmul x p + zmul x p + (zmul x p + zmul x p))) = zmul (16 * x) p:=by
 simp only [←zmul_add];congr 1;omega
theorem off_all {b o n k o' z:Nat} (h:b ≠ k):Off (Rg k o' z) b o n:=oq (fun e=>absurd e h)
theorem bytesP_e {bp op:Nat} {p:Pt} {w:World} (hp:P3 w bp op p) :
  Calls Tryz.prog 24 #[Ptr bp op] w (fun e w'=>∃ k,w.heap.size ≤ k∧e = .returned (.slice (some ⟨k,0,none⟩) 32 32)∧Below w.heap.size w w'∧Has w' k 0 (by32 (encP p))):=by
 have C:Chg R0 w w:=.refl _ _
 go_enter Tryz.func24,Tryz.ntmps24
 go_wp2_with fail
 obtain ⟨n1,ln1⟩:∃ n,w.heap.size = n:=⟨_,rfl⟩
 rw [ln1]
 have hb:=bA w (Obj.cells (List.replicate 32 (.int .u8 0)).toArray 99)
 have K:=(Has.new w (List.replicate 32 (.int .u8 0)) 99).room (n:=32) rfl
 rw [ln1] at K
 have zn1:w.heap.size ≤ n1:=ln1 ▸ Nat.le_refl _
 have y1:bp < n1:=ln1 ▸ hp.lt
 replace C:=C.trans (Chg.of_below hb)
 replace hp:=hp.keep (Chg.of_below (R:=R0) hb) (fun _ _ h=>h)
 refine cG (fun W=>Chg R0 w W∧Room W n1 0 32∧P3 W bp op p) ⟨C,K,hp⟩ ?_
 clear C K hp hb ln1
 rintro W ⟨C,K,hp⟩
 refine (ptBytes_e K hp (by omega)).mono ?_
 rintro e W ⟨rfl,hc,hv⟩
 replace C:=C.loc hc zn1
 clear hc
 go_wp2_with fail
 go_ret
 exact ⟨n1,zn1,rfl,C.r0,hv⟩
theorem room159 (w:World):Room (w.alloc (Obj.cells Tryz.zeroCells159 159)) w.heap.size 0 960 :=
 (Has.new w Tryz.zeroCells159.toList 159).room (by kernel_rfl)
theorem nafTab_e {w:World} :
  Calls Tryz.prog 59 #[] w (fun e w'=>∃ k,w.heap.size ≤ k∧e = .returned (Ptr k 0)∧Below w.heap.size w w'∧TabA w' k 0 64 (fun j=>smul (2 * j + 1) gen)):=by
 have C:Chg R0 w w:=.refl _ _
 go_enter Tryz.func59,Tryz.ntmps59
 go_wp2_with fail
 obtain ⟨n1,ln1⟩:∃ n,w.heap.size = n:=⟨_,rfl⟩
 rw [ln1]
 have hb:=bA w (Obj.cells Tryz.zeroCells159 159)
 have K:=room159 w
 rw [ln1] at K
 have zn1:w.heap.size ≤ n1:=ln1 ▸ Nat.le_refl _
 replace C:=C.trans (Chg.of_below hb)
 refine cG (fun W=>Chg R0 w W∧Room W n1 0 960) ⟨C,K⟩ ?_
 clear C K hb ln1
 rintro W ⟨C,K⟩
 refine newGenerator_e.mono ?_
 rintro e W ⟨n2,ln2,rfl,hb,hp⟩
 have y1:n1 < n2:=Nat.lt_of_lt_of_le (K.lt (by decide)) ln2
 replace C:=C.trans (Chg.of_below hb)
 replace K:=K.later hb
 clear hb ln2
 go_wp2_with fail
 refine (nafA_e K hp (by omega)).mono ?_
 rintro e W ⟨rfl,hc,hv⟩
 replace C:=C.loc hc zn1
 clear hc
 go_wp2_with fail
 go_ret
 exact ⟨n1,zn1,rfl,C.r0,hv⟩
open Go.RowKit
theorem kpC {t g:Nat} {f:Nat→Pt} {d:Nat→Int} {m L:Nat}:Kp (fun W=>TabC W t 0 m f∧Has W g 0 (ari d L)) (fun k=>t ≠ k∧g ≠ k) :=
 fun _ _ _ h hc hR=>⟨h.1.keep hc (fun _ _ hh=>(hR _ _ hh).1 rfl),h.2.keep hc (fun _ _ hh=>(hR _ _ hh).2 rfl)⟩
theorem LL_up {n:Int} (h:n < LL):n < 14474011154664524427946373126085988481658748083205070504932198000989141204992:=Int.lt_trans h (by decide +kernel)
theorem room82 (w:World):Room (w.alloc (Obj.cells Tryz.zeroCells82 82)) w.heap.size 0 160 :=
 (Has.new w Tryz.zeroCells82.toList 82).room (by kernel_rfl)
theorem mult_e {bv ov bs os bq oq:Nat} {n:Int} {p:Pt} {w:World} (RM:Room w bv ov 20) (hs:Sc w bs os n) (hp:P3 w bq oq p) :
  Calls Tryz.prog 23 #[Ptr bv ov,Ptr bs os,Ptr bq oq] w (fun e w'=>e = .returned (Ptr bv ov)∧Chg (Rg bv ov 20) w w'∧P3 w' bv ov (zmul n p)):=by
 have hn:=hd hs.1
 have C:Chg (Rg bv ov 20) w w:=.refl _ _
 have z1:bv < w.heap.size:=RM.lt (by decide)
 have z2:bq < w.heap.size:=hp.lt
 have z3:bs < w.heap.size:=hs.lt
 go_enter Tryz.func23,Tryz.ntmps23
 go_wp2_with fail
 obtain ⟨n1,ln1⟩:∃ n,w.heap.size = n:=⟨_,rfl⟩
 rw [ln1]
 have hb:=bA w (Obj.cells (List.toArray [Ptr bq oq]) 48)
 have K:=Has.new w [Ptr bq oq] 48
 rw [ln1] at K z1 z2 z3
 have zn1:w.heap.size ≤ n1:=ln1 ▸ Nat.le_refl _
 refine cG (fun W=>Chg (Rg bv ov 20) w W∧Room W bv ov 20∧Sc W bs os n∧P3 W bq oq p∧Has W n1 0 [Ptr bq oq]) ⟨C.trans (Chg.of_below hb),RM.later hb,hs.later hb,hp.keep (Chg.of_below (R:=R0) hb) (fun _ _ h=>h),K⟩ ?_
 clear C RM hs hp hb K
 rintro W ⟨C,RM,hs,hp,K⟩
 refine (check1_e K hp).mono ?_
 rintro e W1 ⟨rfl,he⟩
 obtain rfl:=he.symm
 clear he
 go_wp2_with fail
 obtain ⟨n2,ln2⟩:∃ n,W.heap.size = n:=⟨_,rfl⟩
 rw [ln2]
 have hb:=bA W (Obj.cells Tryz.zeroCells82 82)
 have K2:=room82 W
 rw [ln2] at K2
 have zn2:w.heap.size ≤ n2:=ln2 ▸ C.size
 refine cG (fun W=>Chg (Rg bv ov 20) w W∧Room W bv ov 20∧Sc W bs os n∧P3 W bq oq p∧Room W n2 0 160) ⟨C.trans (Chg.of_below hb),RM.later hb,hs.later hb,hp.keep (Chg.of_below (R:=R0) hb) (fun _ _ h=>h),K2⟩ ?_
 clear C RM hs hp hb K K2
 rintro W ⟨C,RM,hs,hp,K⟩
 refine (tabC_e K hp (by omega)).mono ?_
 rintro e W ⟨rfl,hc,T⟩
 have l2:=(hc.room K).lt (by decide)
 replace C:=C.loc hc zn2
 replace RM:=hc.room RM
 replace hs:=hs.keep hc (off_all (by omega))
 clear hc hp K
 go_wp2_with fail
 refine (radix_e hs).mono ?_
 rintro e W ⟨rfl,hb⟩
 replace l2:=Nat.lt_of_lt_of_le l2 hb.size
 replace C:=C.trans (Chg.of_below hb)
 replace RM:=RM.later hb
 replace T:=T.keep (Chg.of_below (R:=R0) hb) (fun _ _ h=>h)
 clear hs hb
 repeat ((fail_if_success with_reducible refine ss 85 ?_);first | go_step | dsimp only)
 obtain ⟨n3,ln3⟩:∃ n,W.heap.size = n:=⟨_,rfl⟩
 rw [ln3] at l2 ⊢
 have hb:=bA W (Obj.cells (List.replicate 64 (.int .i8 0)).toArray 85)
 have K:=(new85 W).room (ari_length _ _)
 rw [ln3] at K
 have zn3:w.heap.size ≤ n3:=ln3 ▸ C.size
 refine pG (fun W=>Chg (Rg bv ov 20) w W∧Room W bv ov 20∧TabC W n2 0 8 (fun j=>smul (j + 1) p)∧Room W n3 0 64) ⟨C.trans (Chg.of_below hb),RM.later hb,T.keep (Chg.of_below (R:=R0) hb) (fun _ _ h=>h),K⟩ ?_
 clear C RM T hb K
 rintro W ⟨C,RM,T,K⟩
 refine wS (b:=n3) (o:=0) rfl rfl K (ari_length _ _) (ari_one _ _) size85 ?_
 simp only [Act.put]
 have hc:Chg (Rg n3 0 64) W (World.setCells W n3 0 (ari (dg n) 64)):=by have:=putL_chg (w:=W) (b:=n3) (o:=0) (vs:=ari (dg n) 64);rwa [ari_length] at this
 have G:=putL_has (w:=W) (b:=n3) (o:=0) (vs:=ari (dg n) 64) (by rw [ari_length];exact K)
 have l3:=(hc.room K).lt (by decide)
 refine pG (fun W=>(Chg (Rg bv ov 20) w W∧Room W bv ov 20∧TabC W n2 0 8 (fun j=>smul (j + 1) p)∧Has W n3 0 (ari (dg n) 64))∧n3 < W.heap.size) ⟨⟨C.loc hc zn3,hc.room RM,T.keep hc (off_all (by omega)),G⟩,l3⟩ ?_
 clear C RM T hc K G l3 ln3
 rintro W ⟨⟨C,RM,T,G⟩,l3⟩
 repeat ((fail_if_success with_reducible show wpList _ _ _ (⟨some 26,_,_,_,_,_⟩ :: _) _ _);(first | go_values | go_skip | go_guarded | go_step | go_upon | dsimp only))
 obtain ⟨n4,ln4⟩:∃ n,W.heap.size = n:=⟨_,rfl⟩
 rw [ln4] at l3
 simp only [ln4]
 have zn4:w.heap.size ≤ n4:=ln4 ▸ C.size
 have hb:=aB [z79,z90,z93] W
 have K0:=(aH [z79,z90,z93] W 0 (List.replicate 20 (.int .u64 0)) 79 rfl).room (n:=20) rfl
 have K1:=(aH [z79,z90,z93] W 1 (List.replicate 20 (.int .u64 0)) 90 rfl).room (n:=20) rfl
 have K2:=(aH [z79,z90,z93] W 2 (List.replicate 15 (.int .u64 0)) 93 rfl).room (n:=15) rfl
 rw [ln4] at K0 K1 K2
 refine pG (fun W=>MS w W bv ov n4 20 (n4 + 1) (n4 + 1 + 1) (fun W=>TabC W n2 0 8 (fun j=>smul (j + 1) p)∧Has W n3 0 (ari (dg n) 64))) ⟨C.trans (Chg.of_below hb),RM.later hb,K0,K1,K2,T.keep (Chg.of_below (R:=R0) hb) (fun _ _ h=>h),G.later hb⟩ ?_
 clear C RM T G hb K0 K1 K2 ln4
 rintro W S
 have kp:=kpC (t:=n2) (g:=n3) (f:=fun j=>smul (j + 1) p) (d:=dg n) (m:=8) (L:=64)
 have c63:=(S.X.2.cellA (i:=63) (by decide)).1
 rw [Nat.zero_add] at c63
 go_wp2_with fail
 refine (selC_e (dg_bd n 63) S.X.1 S.M (by omega)).mono ?_
 rintro e W ⟨rfl,hc,h1⟩
 replace S:=S.step kp hc ⟨by omega,by omega⟩ (.inr zn4)
 clear hc c63
 go_wp2_with fail
 refine newIdentity_e.mono ?_
 rintro e W ⟨n5,ln5,rfl,hb,h2⟩
 replace S:=S.fresh kp hb
 replace h1:=h1.keep (Chg.of_below (R:=R0) hb) (fun _ _ h=>h)
 clear hb ln5
 go_wp2_with fail
 refine (ptSet_e S.V h2).mono ?_
 rintro e W ⟨rfl,hc,h3⟩
 replace S:=S.step kp hc ⟨by omega,by omega⟩ (.inl ⟨rfl,rfl,rfl⟩)
 replace h1:=h1.keep hc (off_all (by omega))
 clear hc h2
 go_wp2_with fail
 refine (ptAdd_e S.A h3 (by omega) h1 (by omega)).mono ?_
 rintro e W ⟨rfl,hc,h4⟩
 replace S:=S.step kp hc ⟨by omega,by omega⟩ (.inr (by omega))
 rw [zero_add,←hi_63 hn.out.1 (LL_up hn.out.2)] at h4
 clear hc h1 h3
 go_wp2_with fail
 go_loopw [12] (fun i W=>∃ j:Nat,j ≤ 63∧i = .int .i64 ((j:Int) - 1)∧MS w W bv ov n4 20 (n4 + 1) (n4 + 1 + 1) (fun W=>TabC W n2 0 8 (fun j=>smul (j + 1) p)∧Has W n3 0 (ari (dg n) 64))∧P1 W (n4 + 1) 0 (zmul (hi n j) p)) (fun i _=>(intOf i + 1).toNat)
 case atStart=>exact ⟨63,by omega,rfl,S,h4⟩
 case round =>
  clear S h4
  obtain ⟨j,hj,rfl,S,h1⟩:=hrel
  by_cases hlt:1 ≤ j
  ·obtain ⟨i,rfl⟩:∃ i,j = i + 1:=⟨j - 1,by omega⟩
   have e1:((i + 1:Nat):Int) - 1 = (i:Int):=by omega
   have q1:IntKind.i64.wrap ((i:Int) - 1) = (i:Int) - 1:=i64_word _ (by omega)
   rw [e1]
   have q2:(i:Int) < 64:=by omega
   go_wp2_with fail
   refine (p2OfP1_e S.B h1 (by omega)).mono ?_
   rintro e W ⟨rfl,hc,h2⟩
   replace S:=S.step kp hc ⟨by omega,by omega⟩ (.inr (by omega))
   clear hc h1
   go_wp2_with fail
   refine (ptDbl_e S.A h2 (by omega)).mono ?_
   rintro e W ⟨rfl,hc,h1⟩
   replace S:=S.step kp hc ⟨by omega,by omega⟩ (.inr (by omega))
   clear hc h2
   go_wp2_with fail
   refine (p2OfP1_e S.B h1 (by omega)).mono ?_
   rintro e W ⟨rfl,hc,h2⟩
   replace S:=S.step kp hc ⟨by omega,by omega⟩ (.inr (by omega))
   clear hc h1
   go_wp2_with fail
   refine (ptDbl_e S.A h2 (by omega)).mono ?_
   rintro e W ⟨rfl,hc,h1⟩
   replace S:=S.step kp hc ⟨by omega,by omega⟩ (.inr (by omega))
   clear hc h2
   go_wp2_with fail
   refine (p2OfP1_e S.B h1 (by omega)).mono ?_
   rintro e W ⟨rfl,hc,h2⟩
   replace S:=S.step kp hc ⟨by omega,by omega⟩ (.inr (by omega))
   clear hc h1
   go_wp2_with fail
   refine (ptDbl_e S.A h2 (by omega)).mono ?_
   rintro e W ⟨rfl,hc,h1⟩
   replace S:=S.step kp hc ⟨by omega,by omega⟩ (.inr (by omega))
   clear hc h2
   go_wp2_with fail
   refine (p2OfP1_e S.B h1 (by omega)).mono ?_
   rintro e W ⟨rfl,hc,h2⟩
   replace S:=S.step kp hc ⟨by omega,by omega⟩ (.inr (by omega))
   clear hc h1
   go_wp2_with fail
   refine (ptDbl_e S.A h2 (by omega)).mono ?_
   rintro e W ⟨rfl,hc,h1⟩
   replace S:=S.step kp hc ⟨by omega,by omega⟩ (.inr (by omega))
   clear hc h2
   go_wp2_with fail
   refine (p3OfP1_e S.V h1 (by omega)).mono ?_
   rintro e W ⟨rfl,hc,h3⟩
   replace S:=S.step kp hc ⟨by omega,by omega⟩ (.inl ⟨rfl,rfl,rfl⟩)
   clear hc h1
   rw [dbl16] at h3
   have ci:=(S.X.2.cellA (i:=i) (by omega)).1
   rw [Nat.zero_add] at ci
   go_wp2_with fail
   refine (selC_e (dg_bd n i) S.X.1 S.M (by omega)).mono ?_
   rintro e W ⟨rfl,hc,h1⟩
   replace S:=S.step kp hc ⟨by omega,by omega⟩ (.inr zn4)
   replace h3:=h3.keep hc (off_all (by omega))
   clear hc ci
   go_wp2_with fail
   refine (ptAdd_e S.A h3 (by omega) h1 (by omega)).mono ?_
   rintro e W ⟨rfl,hc,h4⟩
   replace S:=S.step kp hc ⟨by omega,by omega⟩ (.inr (by omega))
   rw [←zmul_add,←hi_step] at h4
   clear hc h1 h3
   go_wp2_with fail
   exact ⟨⟨i,by omega,rfl,S,h4⟩,by simp [intOf]⟩
  ·obtain rfl:j = 0:=by omega
   go_wp2_with fail
   refine (p3OfP1_e S.V h1 (by omega)).mono ?_
   rintro e W ⟨rfl,hc,h3⟩
   replace S:=S.step kp hc ⟨by omega,by omega⟩ (.inl ⟨rfl,rfl,rfl⟩)
   rw [hi_zero] at h3
   clear hc h1
   go_wp2_with fail
   go_ret
   exact ⟨rfl,S.C,h3⟩
open Go.RowKit
theorem kpB {t g:Nat} {d:Nat→Int} {L:Nat}:Kp (fun W=>BT W t 32∧Has W g 0 (ari d L)) (fun k=>t ≠ k∧g ≠ k) :=
 fun _ _ _ h hc hR=>⟨h.1.keep hc (fun _ _ hh=>(hR _ _ hh).1 rfl),h.2.keep hc (fun _ _ hh=>(hR _ _ hh).2 rfl)⟩
theorem smul_zmul (m:Nat) (n:Int) (p:Pt):smul m (zmul n p) = zmul n (smul m p):=by
 unfold zmul
 split
 ·rw [←smul_mul,Nat.mul_comm,smul_mul]
 ·rw [smul_neg,←smul_mul,Nat.mul_comm,smul_mul]
theorem gen_step (x d:Int) (k:Nat):zmul x gen + zmul d (smul (256 ^ k) gen) = zmul (x + 256 ^ k * d) gen:=by
 rw [←smul_zmul,←zmul_mul_nat,←zmul_add,Int.natCast_pow];rfl
theorem multB_e {bv ov bs os:Nat} {n:Int} {w:World} (RM:Room w bv ov 20) (hs:Sc w bs os n) :
  Calls Tryz.prog 25 #[Ptr bv ov,Ptr bs os] w (fun e w'=>e = .returned (Ptr bv ov)∧Chg (Rg bv ov 20) w w'∧P3 w' bv ov (zmul n gen)):=by
 have hn:=hd hs.1
 have C:Chg (Rg bv ov 20) w w:=.refl _ _
 have z1:bv < w.heap.size:=RM.lt (by decide)
 have z3:bs < w.heap.size:=hs.lt
 go_enter Tryz.func25,Tryz.ntmps25
 go_wp2_with fail
 refine baseTab_e.mono ?_
 rintro e W ⟨n2,zn2,rfl,hb,T⟩
 have l2:n2 < W.heap.size:=(T 0 (by decide) 0 (by decide)).lt
 replace C:=C.trans (Chg.of_below hb)
 replace RM:=RM.later hb
 replace hs:=hs.later hb
 clear hb
 go_wp2_with fail
 refine (radix_e hs).mono ?_
 rintro e W ⟨rfl,hb⟩
 replace l2:=Nat.lt_of_lt_of_le l2 hb.size
 replace C:=C.trans (Chg.of_below hb)
 replace RM:=RM.later hb
 replace T:=T.keep (Chg.of_below (R:=R0) hb) (fun _ _ h=>h)
 clear hs hb
 repeat ((fail_if_success with_reducible refine ss 85 ?_);first | go_step | dsimp only)
 obtain ⟨n3,ln3⟩:∃ n,W.heap.size = n:=⟨_,rfl⟩
 rw [ln3] at l2 ⊢
 have hb:=bA W (Obj.cells (List.replicate 64 (.int .i8 0)).toArray 85)
 have K:=(new85 W).room (ari_length _ _)
 rw [ln3] at K
 have zn3:w.heap.size ≤ n3:=ln3 ▸ C.size
 refine pG (fun W=>Chg (Rg bv ov 20) w W∧Room W bv ov 20∧BT W n2 32∧Room W n3 0 64) ⟨C.trans (Chg.of_below hb),RM.later hb,T.keep (Chg.of_below (R:=R0) hb) (fun _ _ h=>h),K⟩ ?_
 clear C RM T hb K
 rintro W ⟨C,RM,T,K⟩
 refine wS (b:=n3) (o:=0) rfl rfl K (ari_length _ _) (ari_one _ _) size85 ?_
 simp only [Act.put]
 have hc:Chg (Rg n3 0 64) W (World.setCells W n3 0 (ari (dg n) 64)):=by have:=putL_chg (w:=W) (b:=n3) (o:=0) (vs:=ari (dg n) 64);rwa [ari_length] at this
 have G:=putL_has (w:=W) (b:=n3) (o:=0) (vs:=ari (dg n) 64) (by rw [ari_length];exact K)
 have l3:=(hc.room K).lt (by decide)
 refine pG (fun W=>(Chg (Rg bv ov 20) w W∧Room W bv ov 20∧BT W n2 32∧Has W n3 0 (ari (dg n) 64))∧n3 < W.heap.size) ⟨⟨C.loc hc zn3,hc.room RM,T.keep hc (off_all (by omega)),G⟩,l3⟩ ?_
 clear C RM T hc K G l3 ln3
 rintro W ⟨⟨C,RM,T,G⟩,l3⟩
 repeat ((fail_if_success with_reducible show wpList _ _ _ (⟨some 21,_,_,_,_,_⟩ :: _) _ _);(first | go_values | go_skip | go_guarded | go_step | go_upon | dsimp only))
 obtain ⟨n4,ln4⟩:∃ n,W.heap.size = n:=⟨_,rfl⟩
 rw [ln4] at l3
 simp only [ln4]
 have zn4:w.heap.size ≤ n4:=ln4 ▸ C.size
 have hb:=aB [z106,z90,z93] W
 have K0:=(aH [z106,z90,z93] W 0 (List.replicate 15 (.int .u64 0)) 106 rfl).room (n:=15) rfl
 have K1:=(aH [z106,z90,z93] W 1 (List.replicate 20 (.int .u64 0)) 90 rfl).room (n:=20) rfl
 have K2:=(aH [z106,z90,z93] W 2 (List.replicate 15 (.int .u64 0)) 93 rfl).room (n:=15) rfl
 rw [ln4] at K0 K1 K2
 refine pG (fun W=>MS w W bv ov n4 15 (n4 + 1) (n4 + 1 + 1) (fun W=>BT W n2 32∧Has W n3 0 (ari (dg n) 64))) ⟨C.trans (Chg.of_below hb),RM.later hb,K0,K1,K2,T.keep (Chg.of_below (R:=R0) hb) (fun _ _ h=>h),G.later hb⟩ ?_
 clear C RM T G hb K0 K1 K2 ln4
 rintro W S
 have kp:=kpB (t:=n2) (g:=n3) (d:=dg n) (L:=64)
 go_wp2_with fail
 refine newIdentity_e.mono ?_
 rintro e W ⟨n5,ln5,rfl,hb,h2⟩
 replace S:=S.fresh kp hb
 clear hb ln5
 go_wp2_with fail
 refine (ptSet_e S.V h2).mono ?_
 rintro e W ⟨rfl,hc,h3⟩
 replace S:=S.step kp hc ⟨by omega,by omega⟩ (.inl ⟨rfl,rfl,rfl⟩)
 rw [←zmul_zero gen] at h3
 clear hc h2
 go_wp2_with fail
 go_loopw [10] (fun i W=>∃ j:Nat,j ≤ 32∧i = .int .i64 (2 * (j:Int) + 1)∧MS w W bv ov n4 15 (n4 + 1) (n4 + 1 + 1) (fun W=>BT W n2 32∧Has W n3 0 (ari (dg n) 64))∧P3 W bv ov (zmul (od n j) gen)) (fun i _=>66 - (intOf i).toNat)
 case atStart=>exact ⟨0,by omega,rfl,S,h3⟩
 case round =>
  clear S h3
  obtain ⟨j,hj,rfl,S,h3⟩:=hrel
  by_cases hlt:j < 32
  ·have q1:IntKind.i64.wrap (2 * (j:Int) + 1 + 2) = 2 * (j:Int) + 1 + 2:=i64_word _ (by omega)
   have q2:2 * (j:Int) + 1 < 64:=by omega
   have q3:0 ≤ 2 * (j:Int) + 1:=by omega
   have q4:(2 * (j:Int) + 1).toNat = 2 * j + 1:=by omega
   have q5:(2 * (j:Int) + 1).tdiv 2 = (j:Int):=by rw [Int.tdiv_eq_ediv_of_nonneg (by omega)];omega
   have q6:(2 * (j:Int) + 1) / 2 = (j:Int):=by omega
   have q7:(j:Int) < 32:=by omega
   have q8:IntKind.i64.wrap (j:Int) = j:=i64_word _ (by omega)
   have ci:=(S.X.2.cellA (i:=2 * j + 1) (by omega)).1
   rw [Nat.zero_add] at ci
   go_wp2_with fail
   go_still_tail 9,(by kernel_rfl)
   go_wp2_with fail
   refine cG (fun W=>MS w W bv ov n4 15 (n4 + 1) (n4 + 1 + 1) (fun W=>BT W n2 32∧Has W n3 0 (ari (dg n) 64))∧P3 W bv ov (zmul (od n j) gen)) ⟨S.drew kp,h3⟩ ?_
   clear S h3 ci
   rintro W ⟨S,h3⟩
   refine (selA_e (dg_bd n (2 * j + 1)) (S.X.1 j (by omega)) S.M (by omega)).mono ?_
   rintro e W ⟨rfl,hc,h1⟩
   replace S:=S.step kp hc ⟨by omega,by omega⟩ (.inr zn4)
   replace h3:=h3.keep hc (off_all (by omega))
   clear hc
   go_wp2_with fail
   refine (ptAddA_e S.A h3 (by omega) h1 (by omega)).mono ?_
   rintro e W ⟨rfl,hc,h4⟩
   replace S:=S.step kp hc ⟨by omega,by omega⟩ (.inr (by omega))
   rw [gen_step] at h4
   clear hc h1 h3
   go_wp2_with fail
   refine (p3OfP1_e S.V h4 (by omega)).mono ?_
   rintro e W ⟨rfl,hc,h3⟩
   replace S:=S.step kp hc ⟨by omega,by omega⟩ (.inl ⟨rfl,rfl,rfl⟩)
   clear hc h4
   go_wp2_with fail
   exact ⟨⟨j + 1,by omega,by congr 1,S,h3⟩,by simp [intOf];omega⟩
  ·obtain rfl:j = 32:=by omega
   go_wp2_with fail
   refine (p2OfP3_e S.B h3 (by omega)).mono ?_
   rintro e W ⟨rfl,hc,h2⟩
   replace S:=S.step kp hc ⟨by omega,by omega⟩ (.inr (by omega))
   clear hc h3
   go_wp2_with fail
   refine (ptDbl_e S.A h2 (by omega)).mono ?_
   rintro e W ⟨rfl,hc,h1⟩
   replace S:=S.step kp hc ⟨by omega,by omega⟩ (.inr (by omega))
   clear hc h2
   go_wp2_with fail
   refine (p2OfP1_e S.B h1 (by omega)).mono ?_
   rintro e W ⟨rfl,hc,h2⟩
   replace S:=S.step kp hc ⟨by omega,by omega⟩ (.inr (by omega))
   clear hc h1
   go_wp2_with fail
   refine (ptDbl_e S.A h2 (by omega)).mono ?_
   rintro e W ⟨rfl,hc,h1⟩
   replace S:=S.step kp hc ⟨by omega,by omega⟩ (.inr (by omega))
   clear hc h2
   go_wp2_with fail
   refine (p2OfP1_e S.B h1 (by omega)).mono ?_
   rintro e W ⟨rfl,hc,h2⟩
   replace S:=S.step kp hc ⟨by omega,by omega⟩ (.inr (by omega))
   clear hc h1
   go_wp2_with fail
   refine (ptDbl_e S.A h2 (by omega)).mono ?_
   rintro e W ⟨rfl,hc,h1⟩
   replace S:=S.step kp hc ⟨by omega,by omega⟩ (.inr (by omega))
   clear hc h2
   go_wp2_with fail
   refine (p2OfP1_e S.B h1 (by omega)).mono ?_
   rintro e W ⟨rfl,hc,h2⟩
   replace S:=S.step kp hc ⟨by omega,by omega⟩ (.inr (by omega))
   clear hc h1
   go_wp2_with fail
   refine (ptDbl_e S.A h2 (by omega)).mono ?_
   rintro e W ⟨rfl,hc,h1⟩
   replace S:=S.step kp hc ⟨by omega,by omega⟩ (.inr (by omega))
   clear hc h2
   go_wp2_with fail
   refine (p3OfP1_e S.V h1 (by omega)).mono ?_
   rintro e W ⟨rfl,hc,h3⟩
   replace S:=S.step kp hc ⟨by omega,by omega⟩ (.inl ⟨rfl,rfl,rfl⟩)
   clear hc h1
   rw [dbl16] at h3
   go_wp2_with fail
   go_loopw [11] (fun i W=>∃ j:Nat,j ≤ 32∧i = .int .i64 (2 * (j:Int))∧MS w W bv ov n4 15 (n4 + 1) (n4 + 1 + 1) (fun W=>BT W n2 32∧Has W n3 0 (ari (dg n) 64))∧P3 W bv ov (zmul (16 * od n 32 + ev n j) gen)) (fun i _=>66 - (intOf i).toNat)
   case atStart=>exact ⟨0,by omega,rfl,S,by rw [show 16 * od n 32 + ev n 0 = 16 * od n 32 from Int.add_zero _];exact h3⟩
   case round =>
    clear S h3
    obtain ⟨j,hj,rfl,S,h3⟩:=hrel
    by_cases hlt:j < 32
    ·have q1:IntKind.i64.wrap (2 * (j:Int) + 2) = 2 * (j:Int) + 2:=i64_word _ (by omega)
     have q2:2 * (j:Int) < 64:=by omega
     have q3:0 ≤ 2 * (j:Int):=by omega
     have q4:(2 * (j:Int)).toNat = 2 * j:=by omega
     have q5:(2 * (j:Int)).tdiv 2 = (j:Int):=by rw [Int.tdiv_eq_ediv_of_nonneg (by omega)];omega
     have q6:(2 * (j:Int)) / 2 = (j:Int):=by omega
     have q7:(j:Int) < 32:=by omega
     have q8:IntKind.i64.wrap (j:Int) = j:=i64_word _ (by omega)
     have ci:=(S.X.2.cellA (i:=2 * j) (by omega)).1
     rw [Nat.zero_add] at ci
     go_wp2_with fail
     go_still_tail 9,(by kernel_rfl)
     go_wp2_with fail
     refine cG (fun W=>MS w W bv ov n4 15 (n4 + 1) (n4 + 1 + 1) (fun W=>BT W n2 32∧Has W n3 0 (ari (dg n) 64))∧P3 W bv ov (zmul (16 * od n 32 + ev n j) gen)) ⟨S.drew kp,h3⟩ ?_
     clear S h3 ci
     rintro W ⟨S,h3⟩
     refine (selA_e (dg_bd n (2 * j)) (S.X.1 j (by omega)) S.M (by omega)).mono ?_
     rintro e W ⟨rfl,hc,h1⟩
     replace S:=S.step kp hc ⟨by omega,by omega⟩ (.inr zn4)
     replace h3:=h3.keep hc (off_all (by omega))
     clear hc
     go_wp2_with fail
     refine (ptAddA_e S.A h3 (by omega) h1 (by omega)).mono ?_
     rintro e W ⟨rfl,hc,h4⟩
     replace S:=S.step kp hc ⟨by omega,by omega⟩ (.inr (by omega))
     rw [gen_step] at h4
     clear hc h1 h3
     go_wp2_with fail
     refine (p3OfP1_e S.V h4 (by omega)).mono ?_
     rintro e W ⟨rfl,hc,h3⟩
     replace S:=S.step kp hc ⟨by omega,by omega⟩ (.inl ⟨rfl,rfl,rfl⟩)
     clear hc h4
     go_wp2_with fail
     exact ⟨⟨j + 1,by omega,by congr 1,S,by rw [Int.add_assoc] at h3;exact h3⟩,by simp [intOf];omega⟩
    ·obtain rfl:j = 32:=by omega
     go_wp2_with fail
     go_ret
     rw [show 16 * od n 32 + ev n 32 = n by have:=ev_od_32 hn.out.1 (LL_up hn.out.2);omega] at h3
     exact ⟨rfl,S.C,h3⟩
open Go.RowKit
theorem agg79:∀ w,(isAgg 79).run Tryz.prog w = .ok true w:=fun w=>by simp [isAgg,go_sem]
theorem size79:∀ w,(sizeOf 79).run Tryz.prog w = .ok 20 w:=fun w=>by simp [go_sem]
theorem nafSelC_e {bt ot bv ov j:Nat} {p:Pt} {w:World} (hj:j < 8) (T:TabC w bt ot 8 (fun j=>smul (2 * j + 1) p)) (RM:Room w bv ov 20) :
  Calls Tryz.prog 63 #[Ptr bt ot,Ptr bv ov,.int .i8 (2 * j + 1)] w (fun e w'=>e = .returned (.tuple #[])∧Chg (Rg bv ov 20) w w'∧PC w' bv ov (smul (2 * j + 1) p)):=by
 obtain ⟨vs,l,u,hh,k⟩:=PC.row (T j hj)
 have H:Hd (Chg (Rg bv ov 20) w (w.setCells bv ov vs)):=hd (by have:=putL_chg (w:=w) (b:=bv) (o:=ov) (vs:=vs);rwa [l] at this)
 have K:Hd (PC (w.setCells bv ov vs) bv ov (smul (2 * j + 1) p)):=hd (k _ _ _ (putL_has (by rw [l];exact RM)))
 clear k T
 have hq:(2 * (j:Int) + 1).tdiv 2 = j:=by rw [Int.tdiv_eq_ediv_of_nonneg (by omega)];omega
 have h0:(j:Int) < 8:=by omega
 go_enter Tryz.func63,Tryz.ntmps63
 repeat ((fail_if_success with_reducible refine sl 79 ?_);first | go_step | dsimp only)
 refine wL (b:=bt) (o:=ot + j * 20) rfl hh l agg79 size79 ?_
 simp only [Act.put,iA,iB,iC]
 repeat ((fail_if_success with_reducible refine ss 79 ?_);first | go_step | dsimp only)
 refine wS (b:=bv) (o:=ov) rfl rfl RM l u size79 ?_
 simp only [Act.put]
 clear hh u RM l
 go_wp2_with fail
 go_end0
 exact ⟨rfl,H.out,K.out⟩
theorem agg106:∀ w,(isAgg 106).run Tryz.prog w = .ok true w:=fun w=>by simp [isAgg,go_sem]
theorem size106:∀ w,(sizeOf 106).run Tryz.prog w = .ok 15 w:=fun w=>by simp [go_sem]
theorem nafSelA_e {bt ot bv ov j:Nat} {p:Pt} {w:World} (hj:j < 64) (T:TabA w bt ot 64 (fun j=>smul (2 * j + 1) p)) (RM:Room w bv ov 15) :
  Calls Tryz.prog 65 #[Ptr bt ot,Ptr bv ov,.int .i8 (2 * j + 1)] w (fun e w'=>e = .returned (.tuple #[])∧Chg (Rg bv ov 15) w w'∧PA w' bv ov (smul (2 * j + 1) p)):=by
 obtain ⟨vs,l,u,hh,k⟩:=PA.row (T j hj)
 have H:Hd (Chg (Rg bv ov 15) w (w.setCells bv ov vs)):=hd (by have:=putL_chg (w:=w) (b:=bv) (o:=ov) (vs:=vs);rwa [l] at this)
 have K:Hd (PA (w.setCells bv ov vs) bv ov (smul (2 * j + 1) p)):=hd (k _ _ _ (putL_has (by rw [l];exact RM)))
 clear k T
 have hq:(2 * (j:Int) + 1).tdiv 2 = j:=by rw [Int.tdiv_eq_ediv_of_nonneg (by omega)];omega
 have h0:(j:Int) < 64:=by omega
 go_enter Tryz.func65,Tryz.ntmps65
 repeat ((fail_if_success with_reducible refine sl 106 ?_);first | go_step | dsimp only)
 refine wL (b:=bt) (o:=ot + j * 15) rfl hh l agg106 size106 ?_
 simp only [Act.put,iA,iB,iC]
 repeat ((fail_if_success with_reducible refine ss 106 ?_);first | go_step | dsimp only)
 refine wS (b:=bv) (o:=ov) rfl rfl RM l u size106 ?_
 simp only [Act.put]
 clear hh u RM l
 go_wp2_with fail
 go_end0
 exact ⟨rfl,H.out,K.out⟩
end Go.Proofs.Ed
