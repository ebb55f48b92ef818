/- A part of the proof of the tied card of FnTimes: Base, Rt, Vw, Rlate. -/
import Derived.Test.YtcogfofgmbndjaaGreatDoorProg
import Derived.WalkKit
import Derived.WalkSpells
import Derived.WalkLawsBesides
import Derived.Outline
import Derived.StillTailTactics
import Derived.Test.YtcogfofgmbndjaaGreatDoorTAu
import Derived.Test.YtcogfofgmbndjaaGreatDoorTAm
import Derived.Test.YtcogfofgmbndjaaGreatDoorTAn
import Derived.Test.YtcogfofgmbndjaaGreatDoorTAb
set_option maxRecDepth 100000
set_option maxHeartbeats 40000000
namespace Go.Proofs.Ed
open Go.RowKit
theorem pow_fast (a:F) (n:Nat) (h:n < 2 ^ 256):pow a n = Fin.ofNat P (pw a.val P 256 n):=by
 apply Fin.ext
 rw [pow_val,pw_eq a.val P 256 n h]
 show _ = a.val ^ n % P % P
 rw [Nat.mod_mod]
theorem by32_45:by32 1 = [.int .u8 1,.int .u8 0,.int .u8 0,.int .u8 0,.int .u8 0,.int .u8 0,.int .u8 0,.int .u8 0,.int .u8 0,.int .u8 0,.int .u8 0,.int .u8 0,.int .u8 0,.int .u8 0,.int .u8 0,.int .u8 0,.int .u8 0,.int .u8 0,.int .u8 0,.int .u8 0,.int .u8 0,.int .u8 0,.int .u8 0,.int .u8 0,.int .u8 0,.int .u8 0,.int .u8 0,.int .u8 0,.int .u8 0,.int .u8 0,.int .u8 0,.int .u8 0]:=by kernel_rfl
theorem by32_127:by32 46316835694926478169428394003475163141307993866256225615783033603165251855960 = [.int .u8 88,.int .u8 102,.int .u8 102,.int .u8 102,.int .u8 102,.int .u8 102,.int .u8 102,.int .u8 102,.int .u8 102,.int .u8 102,.int .u8 102,.int .u8 102,.int .u8 102,.int .u8 102,.int .u8 102,.int .u8 102,.int .u8 102,.int .u8 102,.int .u8 102,.int .u8 102,.int .u8 102,.int .u8 102,.int .u8 102,.int .u8 102,.int .u8 102,.int .u8 102,.int .u8 102,.int .u8 102,.int .u8 102,.int .u8 102,.int .u8 102,.int .u8 102]:=by kernel_rfl
def gx:F:=⟨15112221349535400772501151409588531511454012693041857206046113283949847762202,by decide⟩
def gy:F:=⟨46316835694926478169428394003475163141307993866256225615783033603165251855960,by decide⟩
theorem dY0:decY 1 = 1:=by decide +kernel
theorem dYg:decY 46316835694926478169428394003475163141307993866256225615783033603165251855960 = gy:=by decide +kernel
theorem sqR0:sqR (1 * 1 - 1) (1 * 1 * cd + 1) = 0:=by unfold sqR;rw [pow_fast _ _ (by decide)];decide +kernel
theorem sqRg:sqR (gy * gy - 1) (gy * gy * cd + 1) = ⟨42783823269122696939284341094755422415180979639778424813682678720006717057747,by decide⟩:=by unfold sqR;rw [pow_fast _ _ (by decide)];decide +kernel
theorem ok0:sqOk (decY 1 * decY 1 - 1) (decY 1 * decY 1 * cd + 1) = 1:=by rw [dY0];unfold sqOk sqC;rw [sqR0];decide +kernel
theorem okg:sqOk (decY 46316835694926478169428394003475163141307993866256225615783033603165251855960 * decY 46316835694926478169428394003475163141307993866256225615783033603165251855960 - 1) (decY 46316835694926478169428394003475163141307993866256225615783033603165251855960 * decY 46316835694926478169428394003475163141307993866256225615783033603165251855960 * cd + 1) = 1:=by rw [dYg];unfold sqOk sqC;rw [sqRg];decide +kernel
theorem selF1 (f g:F):selF 1 f g = f:=by unfold selF;rw [if_pos rfl]
theorem selF0 (f g:F):selF 0 f g = g:=by unfold selF;rw [if_neg (by decide)]
theorem a1:decX 1 = selF (1 / 452312848583266388373324160190187140051835877600158453279131187530910662656 / 128) (-(sqRt (1 * 1 - 1) (1 * 1 * cd + 1))) (sqRt (1 * 1 - 1) (1 * 1 * cd + 1)):=by unfold decX;rw [dY0]
theorem a2:sqRt (1 * 1 - 1) (1 * 1 * cd + 1) = absF (selF (orB (eqF ((1 * 1 * cd + 1) * (0 * 0)) (-(1*1-1))) (eqF ((1 * 1 * cd + 1) * (0 * 0)) (-(1 * 1 -1) * ri))) (0 * ri) 0):=by
 unfold sqRt sqC;rw [sqR0]
theorem a3:sqRt (1 * 1 - 1) (1 * 1 * cd + 1) = 0:=by
 rw [a2,show orB (eqF ((1 * 1 * cd + 1) * (0 * 0)) (-(1*1-1))) (eqF ((1 * 1 * cd + 1) * (0 * 0)) (-(1 * 1 -1) * ri)) = 1 by decide +kernel,selF1]
 decide +kernel
theorem dX0:decX 1 = 0:=by
 rw [a1,a3,show (1:Int) / 452312848583266388373324160190187140051835877600158453279131187530910662656 / 128 = 0 by decide,selF0]
theorem gs:orB (eqF ((gy * gy * cd + 1) * ((⟨42783823269122696939284341094755422415180979639778424813682678720006717057747,by decide⟩ * ⟨42783823269122696939284341094755422415180979639778424813682678720006717057747,by decide⟩:F))) (-(gy * gy - 1))) (eqF ((gy * gy * cd + 1) * ((⟨42783823269122696939284341094755422415180979639778424813682678720006717057747,by decide⟩ * ⟨42783823269122696939284341094755422415180979639778424813682678720006717057747,by decide⟩:F))) (-(gy * gy - 1) * ri)) = 0:=by decide +kernel
theorem g1:decX 46316835694926478169428394003475163141307993866256225615783033603165251855960 = selF (46316835694926478169428394003475163141307993866256225615783033603165251855960 / 452312848583266388373324160190187140051835877600158453279131187530910662656 / 128) (-(sqRt (gy * gy - 1) (gy * gy * cd + 1))) (sqRt (gy * gy - 1) (gy * gy * cd + 1)):=by unfold decX;rw [dYg]
theorem g2:sqRt (gy * gy - 1) (gy * gy * cd + 1) = absF (selF (orB (eqF ((gy * gy * cd + 1) * ((⟨42783823269122696939284341094755422415180979639778424813682678720006717057747,by decide⟩ * ⟨42783823269122696939284341094755422415180979639778424813682678720006717057747,by decide⟩:F))) (-(gy * gy - 1))) (eqF ((gy * gy * cd + 1) * ((⟨42783823269122696939284341094755422415180979639778424813682678720006717057747,by decide⟩ * ⟨42783823269122696939284341094755422415180979639778424813682678720006717057747,by decide⟩:F))) (-(gy * gy - 1) * ri))) (⟨42783823269122696939284341094755422415180979639778424813682678720006717057747,by decide⟩ * ri) ⟨42783823269122696939284341094755422415180979639778424813682678720006717057747,by decide⟩):=by
 unfold sqRt sqC;rw [sqRg]
theorem g3:sqRt (gy * gy - 1) (gy * gy * cd + 1) = gx:=by
 rw [g2,gs,selF0]
 decide +kernel
theorem dXg:decX 46316835694926478169428394003475163141307993866256225615783033603165251855960 = gx:=by
 rw [g1,g3,show (46316835694926478169428394003475163141307993866256225615783033603165251855960:Int) / 452312848583266388373324160190187140051835877600158453279131187530910662656 / 128 = 0 by decide,selF0]
theorem on_g:On gx gy:=by unfold On;decide +kernel
def gen:Pt:=⟨gx,gy,on_g⟩
theorem identity_e {w:World} :
  Calls Tryz.prog 45 #[] w (fun e w'=>∃ k,w.heap.size ≤ k∧e = .returned (Ptr k 0)∧Below w.heap.size w w'∧P3 w' k 0 0):=by
 have C:Chg (R0) w w:=.refl _ _
 go_enter Tryz.func45,Tryz.ntmps45
 go_wp2_with fail
 obtain ⟨n1,ln1⟩:∃ n,w.heap.size = n:=⟨_,rfl⟩
 rw [ln1]
 have hb:=aB [z75,.cells (List.toArray [.int .u8 1,.int .u8 0,.int .u8 0,.int .u8 0,.int .u8 0,.int .u8 0,.int .u8 0,.int .u8 0,.int .u8 0,.int .u8 0,.int .u8 0,.int .u8 0,.int .u8 0,.int .u8 0,.int .u8 0,.int .u8 0,.int .u8 0,.int .u8 0,.int .u8 0,.int .u8 0,.int .u8 0,.int .u8 0,.int .u8 0,.int .u8 0,.int .u8 0,.int .u8 0,.int .u8 0,.int .u8 0,.int .u8 0,.int .u8 0,.int .u8 0,.int .u8 0]) 5] w
 have zn1:w.heap.size ≤ n1:=ln1 ▸ C.size
 replace C:=C.trans (Chg.of_below hb)
 have K1_0:=(aH [z75,.cells (List.toArray [.int .u8 1,.int .u8 0,.int .u8 0,.int .u8 0,.int .u8 0,.int .u8 0,.int .u8 0,.int .u8 0,.int .u8 0,.int .u8 0,.int .u8 0,.int .u8 0,.int .u8 0,.int .u8 0,.int .u8 0,.int .u8 0,.int .u8 0,.int .u8 0,.int .u8 0,.int .u8 0,.int .u8 0,.int .u8 0,.int .u8 0,.int .u8 0,.int .u8 0,.int .u8 0,.int .u8 0,.int .u8 0,.int .u8 0,.int .u8 0,.int .u8 0,.int .u8 0]) 5] w 0 (List.replicate 20 (.int .u64 0)) 75 rfl).room (n:=20) rfl
 rw [ln1] at K1_0
 have K1_1:=aH [z75,.cells (List.toArray [.int .u8 1,.int .u8 0,.int .u8 0,.int .u8 0,.int .u8 0,.int .u8 0,.int .u8 0,.int .u8 0,.int .u8 0,.int .u8 0,.int .u8 0,.int .u8 0,.int .u8 0,.int .u8 0,.int .u8 0,.int .u8 0,.int .u8 0,.int .u8 0,.int .u8 0,.int .u8 0,.int .u8 0,.int .u8 0,.int .u8 0,.int .u8 0,.int .u8 0,.int .u8 0,.int .u8 0,.int .u8 0,.int .u8 0,.int .u8 0,.int .u8 0,.int .u8 0]) 5] w 1 [.int .u8 1,.int .u8 0,.int .u8 0,.int .u8 0,.int .u8 0,.int .u8 0,.int .u8 0,.int .u8 0,.int .u8 0,.int .u8 0,.int .u8 0,.int .u8 0,.int .u8 0,.int .u8 0,.int .u8 0,.int .u8 0,.int .u8 0,.int .u8 0,.int .u8 0,.int .u8 0,.int .u8 0,.int .u8 0,.int .u8 0,.int .u8 0,.int .u8 0,.int .u8 0,.int .u8 0,.int .u8 0,.int .u8 0,.int .u8 0,.int .u8 0,.int .u8 0] 5 rfl
 rw [ln1] at K1_1
 refine cG (fun W=>Chg (R0) w W∧Room W n1 0 20∧Has W (n1 + 1) 0 [.int .u8 1,.int .u8 0,.int .u8 0,.int .u8 0,.int .u8 0,.int .u8 0,.int .u8 0,.int .u8 0,.int .u8 0,.int .u8 0,.int .u8 0,.int .u8 0,.int .u8 0,.int .u8 0,.int .u8 0,.int .u8 0,.int .u8 0,.int .u8 0,.int .u8 0,.int .u8 0,.int .u8 0,.int .u8 0,.int .u8 0,.int .u8 0,.int .u8 0,.int .u8 0,.int .u8 0,.int .u8 0,.int .u8 0,.int .u8 0,.int .u8 0,.int .u8 0]) ⟨C,K1_0,K1_1⟩ ?_
 clear C K1_0 K1_1 hb ln1
 rintro W ⟨C,K1_0,K1_1⟩
 rw [←by32_45] at K1_1
 refine (ptSetBytes_e (p:=0) (by decide) K1_0 K1_1 (by omega) (by decide) dY0.symm dX0.symm ok0).mono ?_
 rintro e W ⟨rfl,hc,hv⟩
 clear K1_1
 replace C:=C.loc hc (by omega)
 replace K1_0:=hc.room K1_0
 clear hc
 have E1:=hv
 clear hv
 go_wp2_with fail
 go_ret
 exact ⟨n1,by omega,rfl,C.r0,E1⟩
theorem generator_e {w:World} :
  Calls Tryz.prog 127 #[] w (fun e w'=>∃ k,w.heap.size ≤ k∧e = .returned (Ptr k 0)∧Below w.heap.size w w'∧P3 w' k 0 gen):=by
 have C:Chg (R0) w w:=.refl _ _
 go_enter Tryz.func127,Tryz.ntmps127
 go_wp2_with fail
 obtain ⟨n1,ln1⟩:∃ n,w.heap.size = n:=⟨_,rfl⟩
 rw [ln1]
 have hb:=aB [z75,.cells (List.toArray [.int .u8 88,.int .u8 102,.int .u8 102,.int .u8 102,.int .u8 102,.int .u8 102,.int .u8 102,.int .u8 102,.int .u8 102,.int .u8 102,.int .u8 102,.int .u8 102,.int .u8 102,.int .u8 102,.int .u8 102,.int .u8 102,.int .u8 102,.int .u8 102,.int .u8 102,.int .u8 102,.int .u8 102,.int .u8 102,.int .u8 102,.int .u8 102,.int .u8 102,.int .u8 102,.int .u8 102,.int .u8 102,.int .u8 102,.int .u8 102,.int .u8 102,.int .u8 102]) 5] w
 have zn1:w.heap.size ≤ n1:=ln1 ▸ C.size
 replace C:=C.trans (Chg.of_below hb)
 have K1_0:=(aH [z75,.cells (List.toArray [.int .u8 88,.int .u8 102,.int .u8 102,.int .u8 102,.int .u8 102,.int .u8 102,.int .u8 102,.int .u8 102,.int .u8 102,.int .u8 102,.int .u8 102,.int .u8 102,.int .u8 102,.int .u8 102,.int .u8 102,.int .u8 102,.int .u8 102,.int .u8 102,.int .u8 102,.int .u8 102,.int .u8 102,.int .u8 102,.int .u8 102,.int .u8 102,.int .u8 102,.int .u8 102,.int .u8 102,.int .u8 102,.int .u8 102,.int .u8 102,.int .u8 102,.int .u8 102]) 5] w 0 (List.replicate 20 (.int .u64 0)) 75 rfl).room (n:=20) rfl
 rw [ln1] at K1_0
 have K1_1:=aH [z75,.cells (List.toArray [.int .u8 88,.int .u8 102,.int .u8 102,.int .u8 102,.int .u8 102,.int .u8 102,.int .u8 102,.int .u8 102,.int .u8 102,.int .u8 102,.int .u8 102,.int .u8 102,.int .u8 102,.int .u8 102,.int .u8 102,.int .u8 102,.int .u8 102,.int .u8 102,.int .u8 102,.int .u8 102,.int .u8 102,.int .u8 102,.int .u8 102,.int .u8 102,.int .u8 102,.int .u8 102,.int .u8 102,.int .u8 102,.int .u8 102,.int .u8 102,.int .u8 102,.int .u8 102]) 5] w 1 [.int .u8 88,.int .u8 102,.int .u8 102,.int .u8 102,.int .u8 102,.int .u8 102,.int .u8 102,.int .u8 102,.int .u8 102,.int .u8 102,.int .u8 102,.int .u8 102,.int .u8 102,.int .u8 102,.int .u8 102,.int .u8 102,.int .u8 102,.int .u8 102,.int .u8 102,.int .u8 102,.int .u8 102,.int .u8 102,.int .u8 102,.int .u8 102,.int .u8 102,.int .u8 102,.int .u8 102,.int .u8 102,.int .u8 102,.int .u8 102,.int .u8 102,.int .u8 102] 5 rfl
 rw [ln1] at K1_1
 refine cG (fun W=>Chg (R0) w W∧Room W n1 0 20∧Has W (n1 + 1) 0 [.int .u8 88,.int .u8 102,.int .u8 102,.int .u8 102,.int .u8 102,.int .u8 102,.int .u8 102,.int .u8 102,.int .u8 102,.int .u8 102,.int .u8 102,.int .u8 102,.int .u8 102,.int .u8 102,.int .u8 102,.int .u8 102,.int .u8 102,.int .u8 102,.int .u8 102,.int .u8 102,.int .u8 102,.int .u8 102,.int .u8 102,.int .u8 102,.int .u8 102,.int .u8 102,.int .u8 102,.int .u8 102,.int .u8 102,.int .u8 102,.int .u8 102,.int .u8 102]) ⟨C,K1_0,K1_1⟩ ?_
 clear C K1_0 K1_1 hb ln1
 rintro W ⟨C,K1_0,K1_1⟩
 rw [←by32_127] at K1_1
 refine (ptSetBytes_e (p:=gen) (by decide) K1_0 K1_1 (by omega) (by decide) dYg.symm dXg.symm okg).mono ?_
 rintro e W ⟨rfl,hc,hv⟩
 clear K1_1
 replace C:=C.loc hc (by omega)
 replace K1_0:=hc.room K1_0
 clear hc
 have E1:=hv
 clear hv
 go_wp2_with fail
 go_ret
 exact ⟨n1,by omega,rfl,C.r0,E1⟩
theorem newIdentity_e {w:World} :
  Calls Tryz.prog 22 #[] w (fun e w'=>∃ k,w.heap.size ≤ k∧e = .returned (Ptr k 0)∧Below w.heap.size w w'∧P3 w' k 0 0):=by
 have C:Chg (R0) w w:=.refl _ _
 go_enter Tryz.func22,Tryz.ntmps22
 go_wp2_with fail
 obtain ⟨n1,ln1⟩:∃ n,w.heap.size = n:=⟨_,rfl⟩
 rw [ln1]
 have hb:=aB [z75] w
 have zn1:w.heap.size ≤ n1:=ln1 ▸ C.size
 replace C:=C.trans (Chg.of_below hb)
 have K1_0:=(aH [z75] w 0 (List.replicate 20 (.int .u64 0)) 75 rfl).room (n:=20) rfl
 rw [ln1] at K1_0
 refine cG (fun W=>Chg (R0) w W∧Room W n1 0 20) ⟨C,K1_0⟩ ?_
 clear C K1_0 hb ln1
 rintro W ⟨C,K1_0⟩
 refine (identity_e).mono ?_
 rintro e W ⟨n2,ln2,rfl,hb,hv⟩
 have zn2:w.heap.size ≤ n2:=Nat.le_trans C.size ln2
 have y1:n1 < n2:=Nat.lt_of_lt_of_le (K1_0.lt (by decide)) ln2
 replace C:=C.trans (Chg.of_below hb)
 replace K1_0:=K1_0.later hb
 clear hb
 have E2:=hv
 clear hv
 clear ln2
 go_wp2_with fail
 refine (ptSet_e K1_0 E2).mono ?_
 rintro e W ⟨rfl,hc,hv⟩
 replace C:=C.loc hc (by omega)
 replace K1_0:=hc.room K1_0
 replace E2:=E2.keep hc oa
 clear hc
 have E3:=hv
 clear hv
 go_wp2_with fail
 go_ret
 exact ⟨n1,by omega,rfl,C.r0,E3⟩
theorem newGenerator_e {w:World} :
  Calls Tryz.prog 99 #[] w (fun e w'=>∃ k,w.heap.size ≤ k∧e = .returned (Ptr k 0)∧Below w.heap.size w w'∧P3 w' k 0 gen):=by
 have C:Chg (R0) w w:=.refl _ _
 go_enter Tryz.func99,Tryz.ntmps99
 go_wp2_with fail
 obtain ⟨n1,ln1⟩:∃ n,w.heap.size = n:=⟨_,rfl⟩
 rw [ln1]
 have hb:=aB [z75] w
 have zn1:w.heap.size ≤ n1:=ln1 ▸ C.size
 replace C:=C.trans (Chg.of_below hb)
 have K1_0:=(aH [z75] w 0 (List.replicate 20 (.int .u64 0)) 75 rfl).room (n:=20) rfl
 rw [ln1] at K1_0
 refine cG (fun W=>Chg (R0) w W∧Room W n1 0 20) ⟨C,K1_0⟩ ?_
 clear C K1_0 hb ln1
 rintro W ⟨C,K1_0⟩
 refine (generator_e).mono ?_
 rintro e W ⟨n2,ln2,rfl,hb,hv⟩
 have zn2:w.heap.size ≤ n2:=Nat.le_trans C.size ln2
 have y1:n1 < n2:=Nat.lt_of_lt_of_le (K1_0.lt (by decide)) ln2
 replace C:=C.trans (Chg.of_below hb)
 replace K1_0:=K1_0.later hb
 clear hb
 have E2:=hv
 clear hv
 clear ln2
 go_wp2_with fail
 refine (ptSet_e K1_0 E2).mono ?_
 rintro e W ⟨rfl,hc,hv⟩
 replace C:=C.loc hc (by omega)
 replace K1_0:=hc.room K1_0
 replace E2:=E2.keep hc oa
 clear hc
 have E3:=hv
 clear hv
 go_wp2_with fail
 go_ret
 exact ⟨n1,by omega,rfl,C.r0,E3⟩
theorem neg_sum (f:F):-f + f = 0:=by grind
theorem neg_val {f:F} (h:f ≠ 0):((-f).val:Int) + f.val = P:=by
 have h1:=val_add (-f) f
 rw [neg_sum] at h1
 have h0:((0:F).val:Int) = 0:=rfl
 rw [h0] at h1
 have h2:=(-f).isLt
 have h3:=f.isLt
 have h4:f.val ≠ 0:=fun e=>h (Fin.ext e)
 have hP:(P:Int) = 57896044618658097711785492504343953926634992332820282019728792003956564819949:=rfl
 rw [hP] at h1 ⊢
 omega
theorem neg_zeroF:-(0:F) = 0:=by grind
theorem odd_cases (f:F):odd f = 0∨odd f = 1:=by unfold odd;omega
theorem odd_neg {f:F} (h:f ≠ 0):odd (-f) = 1 - odd f:=by
 have:=neg_val h
 have hP:(P:Int) = 57896044618658097711785492504343953926634992332820282019728792003956564819949:=rfl
 unfold odd
 omega
theorem odd_zero:odd 0 = 0:=rfl
theorem absF_even (f:F):odd (absF f) = 0:=by
 unfold absF
 split
 ·rename_i h
  have:f ≠ 0:=by rintro rfl;rw [odd_zero] at h;cases h
  rw [odd_neg this,h];rfl
 ·rename_i h
  rcases odd_cases f with h' | h'
  ·exact h'
  ·exact absurd h' h
theorem neg_negF (f:F):-(-f) = f:=by grind
theorem absF_neg (f:F):absF (-f) = absF f:=by
 by_cases h:f = 0
 ·subst h;rw [neg_zeroF]
 ·have:=odd_neg h
  unfold absF
  rcases odd_cases f with h' | h'
  ·rw [h'] at this;rw [if_pos (by rw [this];rfl),if_neg (by rw [h'];decide),neg_negF]
  ·rw [h'] at this;rw [if_neg (by rw [this];decide),if_pos h']
theorem absF_pm (f:F):absF f = f∨absF f = -f:=by unfold absF;split<;>simp
theorem sq_roots {z x:F} (h:z * z = x * x):z = x∨z = -x:=by
 have:(z - x) * (z + x) = 0:=by grind
 rcases mul_eq_zero this with h | h
 ·left;grind
 ·right;grind
theorem absF_sq {z x:F} (h:z * z = x * x):absF z = absF x:=by
 rcases sq_roots h with rfl | rfl
 ·rfl
 ·exact absF_neg x
theorem absF_mul (f:F):absF f * absF f = f * f:=by
 rcases absF_pm f with h | h<;>rw [h]
 grind
theorem pow_two (a:F):pow a 2 = a * a:=by rw [pow_succ,pow_one]
theorem pow_four (a:F):pow a 4 = a * a * a * a:=by rw [pow_succ,pow_succ,pow_two]
theorem pow_eight (a:F):pow a 8 = a * a * a * a * a * a * a * a:=by rw [pow_succ,pow_succ,pow_succ,pow_succ,pow_four]
def E8:Nat:=7237005577332262213973186563042994240829374041602535252466099000494570602493
theorem e8_v:4 + 8 * E8 = P - 1:=by decide
theorem e8_x:(2 + 4 * E8) + (2 + 4 * E8) = P - 1:=by decide
theorem e8_s:2 * E8 + 2 * E8 = 4 * E8:=by decide
theorem sqR_form {x v:F} (hv:v ≠ 0):sqR (x * x * v) v = x * x * pow x (2 * E8):=by
 unfold sqR
 rw [show (x * x * v * (v * v * v)) * ((v * v) * (v * v)) = pow x 2 * pow v 8 by rw [pow_two,pow_eight];grind]
 rw [show (7237005577332262213973186563042994240829374041602535252466099000494570602493:Nat) = E8 from rfl,mul_pow,←pow_mul,←pow_mul]
 rw [show x * x * v * (v * v * v) * (pow x (2 * E8) * pow v (8 * E8)) = x * x * pow x (2 * E8) * (pow v 4 * pow v (8 * E8)) by rw [pow_four];grind]
 rw [←pow_add,e8_v,fermat hv]
 grind
theorem half {x:F} (hx:x ≠ 0):pow x (2 + 4 * E8) = 1∨pow x (2 + 4 * E8) = -1:=by
 have h:pow x (2 + 4 * E8) * pow x (2 + 4 * E8) = 1 * 1:=by
  rw [←pow_add,e8_x,fermat hx];grind
 exact sq_roots h
theorem sqR_sq {x v:F} (hv:v ≠ 0):sqR (x * x * v) v * sqR (x * x * v) v = x * x * pow x (2 + 4 * E8):=by
 rw [sqR_form hv,show x * x * pow x (2 * E8) * (x * x * pow x (2 * E8)) = x * x * (pow x 2 * (pow x (2 * E8) * pow x (2 * E8))) by rw [pow_two];grind,←pow_add,e8_s,←pow_add]
theorem eqF_self (f:F):eqF f f = 1:=if_pos rfl
theorem eqF_ne {f g:F} (h:f ≠ g):eqF f g = 0:=if_neg h
theorem orB_1 (b:Int):orB 1 b = 1:=rfl
theorem orB_r1 {a:Int}:orB a 1 = 1:=by unfold orB;split<;>rfl
theorem orB_0 (b:Int):orB 0 b = b:=rfl
theorem two_mul_ne {u:F} (hu:u ≠ 0):u ≠ -u:=fun e=>by
 have:(2:F) * u = 0:=by grind
 exact mul_ne_zero two_ne_zero hu this
theorem ri_ne_neg:ri ≠ -1:=fun e=>by
 have h:=ri_sq
 rw [e] at h
 have:(1:F) ≠ -1:=by decide
 apply this;grind
theorem selF_same (c:Int) (f:F):selF c f f = f:=by unfold selF;split<;>rfl
theorem sq_main {x v:F} (hv:v ≠ 0):sqOk (x * x * v) v = 1∧sqRt (x * x * v) v = absF x:=by
 have hs:=sqR_sq (x:=x) hv
 by_cases hx:x = 0
 ·subst hx
  have h0:(0:F) * 0 * v = 0:=by grind
  have hr:sqR (0 * 0 * v) v = 0:=by rw [sqR_form hv];grind
  have hc:sqC (0 * 0 * v) v = 0:=by unfold sqC;rw [hr];grind
  refine ⟨?_,?_⟩
  ·unfold sqOk;rw [hc,h0,eqF_self,orB_1]
  ·unfold sqRt
   rw [hr,show (0:F) * ri = 0 by grind,selF_same]
 ·have hu:x * x * v ≠ 0:=mul_ne_zero (mul_ne_zero hx hx) hv
  have hc:sqC (x * x * v) v = x * x * v * pow x (2 + 4 * E8):=by unfold sqC;rw [hs];grind
  rcases half hx with h | h
  ·rw [h] at hs hc
   rw [show x * x * (1:F) = x * x by grind] at hs
   rw [show x * x * v * (1:F) = x * x * v by grind] at hc
   generalize x * x * v = u at *
   refine ⟨?_,?_⟩
   ·unfold sqOk;rw [hc,eqF_self,orB_1]
   ·unfold sqRt
    rw [hc,eqF_ne (two_mul_ne hu),eqF_ne,orB_0,selF0]
    ·exact absF_sq hs
    ·intro e
     have:u * (1 + ri) = 0:=by grind
     rcases mul_eq_zero this with h | h
     ·exact hu h
     ·exact ri_ne_neg (by grind)
  ·rw [h] at hs hc
   rw [show x * x * v * (-1:F) = -(x * x * v) by grind] at hc
   generalize x * x * v = u at *
   refine ⟨?_,?_⟩
   ·unfold sqOk;rw [hc,eqF_self,orB_r1]
   ·unfold sqRt
    rw [hc,eqF_self,orB_1,selF1]
    refine absF_sq ?_
    have:=ri_sq
    rw [show sqR u v * ri * (sqR u v * ri) = sqR u v * sqR u v * (ri * ri) by grind,hs,this]
    grind
theorem zz_one (c:F):0 * 0 * c + 1 = 1:=by rw [Fin.zero_mul,Fin.zero_mul,Fin.zero_add]
theorem v_ne (y:F):y * y * cd + 1 ≠ 0:=by
 intro h
 by_cases hy:y = 0
 ·subst hy
  rw [zz_one] at h
  exact one_ne_zero h
 ·have hm:=mul_inv hy
  have hi:=ri_sq
  apply cd_nonsq (ri * inv y)
  generalize inv y = t at *
  have:cd * (y * t) * (y * t) = -1 * t * t:=by
   rw [show cd * (y * t) * (y * t) = (y * y * cd) * t * t by grind,show y * y * cd = -1 by grind]
  rw [hm] at this
  grind
theorem on_uv {x y:F} (h:On x y):y * y - 1 = x * x * (y * y * cd + 1):=by unfold On at h;grind
theorem on_of_uv {x y:F} (h:x * x * (y * y * cd + 1) = y * y - 1):On x y:=by unfold On;grind
theorem dec_of {n:Int} {p:Pt} (hy:p.y = decY n) (hs:n / 452312848583266388373324160190187140051835877600158453279131187530910662656 / 128 = odd p.x∨p.x = 0) :
  p.x = decX n∧sqOk (decY n * decY n - 1) (decY n * decY n * cd + 1) = 1:=by
 have hon:=on_uv p.on
 have hm:=sq_main (x:=p.x) (v_ne p.y)
 rw [←hon] at hm
 rw [←hy]
 refine ⟨?_,hm.1⟩
 unfold decX
 rw [←hy,hm.2]
 rcases hs with hs | hs
 ·rw [hs]
  rcases odd_cases p.x with h | h
  ·rw [h,selF0];unfold absF;rw [if_neg (by rw [h];omega)]
  ·rw [h,selF1];unfold absF;rw [if_pos h,neg_negF]
 ·rw [hs,show absF 0 = 0 from rfl,neg_zeroF,selF_same]
def encP (p:Pt):Int:=(p.y.val:Int) + 57896044618658097711785492504343953926634992332820282019728792003956564819968 * odd p.x
theorem encP_bd (p:Pt):0 ≤ encP p∧encP p < 115792089237316195423570985008687907853269984665640564039457584007913129639936:=by
 have:=p.y.isLt
 have h:=odd_cases p.x
 unfold encP
 unfold P at this
 omega
theorem decY_encP (p:Pt):p.y = decY (encP p):=by
 have:=p.y.isLt
 have h:=odd_cases p.x
 unfold decY
 rw [show encP p % 57896044618658097711785492504343953926634992332820282019728792003956564819968 = (p.y.val:Int) by unfold encP;unfold P at this;omega,el_surj]
theorem sgn_encP (p:Pt):encP p / 452312848583266388373324160190187140051835877600158453279131187530910662656 / 128 = odd p.x:=by
 have:=p.y.isLt
 have h:=odd_cases p.x
 unfold encP
 unfold P at this
 omega
theorem dec_encP (p:Pt):p.x = decX (encP p)∧sqOk (decY (encP p) * decY (encP p) - 1) (decY (encP p) * decY (encP p) * cd + 1) = 1 :=
 dec_of (decY_encP p) (.inl (sgn_encP p))
def E3:Nat:=7237005577332262213973186563042994240829374041602535252466099000494570602494
def E1:Nat:=14474011154664524427946373126085988481658748083205070504932198000989141204987
def spI:F:=absF (pow 2 E1)
def rt1 (x:F):F:=if pow x E3 * pow x E3 = x then pow x E3 else pow x E3 * spI
def rtF (x:F):F:=absF (rt1 x)
theorem spI_sq:spI * spI = -1:=by
 unfold spI
 rw [absF_mul,←pow_add,pow_fast _ _ (by decide)]
 decide +kernel
theorem rt1_sq (x:F):rt1 (x * x) * rt1 (x * x) = x * x:=by
 have h0:pow (x * x) E3 * pow (x * x) E3 = x * x * pow x (2 + 4 * E8):=by
  rw [←pow_add,show E3 + E3 = 2 * E3 by omega,←pow_two,←pow_mul,←pow_add,show 2 * (2 * E3) = 2 + (2 + 4 * E8) by decide]
 unfold rt1
 split
 ·assumption
 ·rename_i hn
  have hx:x ≠ 0:=by
   rintro rfl
   apply hn
   rw [h0];grind
  rcases half hx with h | h
  ·rw [h] at h0;exact absurd (by rw [h0];grind) hn
  ·rw [h] at h0
   have:=spI_sq
   rw [show pow (x * x) E3 * spI * (pow (x * x) E3 * spI) = pow (x * x) E3 * pow (x * x) E3 * (spI * spI) by grind,h0,this]
   grind
theorem rtF_sq (x:F):rtF (x * x) = absF x∧rtF (x * x) * rtF (x * x) = x * x:=by
 have:=rt1_sq x
 exact ⟨absF_sq this,by unfold rtF;rw [absF_mul,this]⟩
open Go.RowKit
def fl (a:F):List Value:=nl a.val
theorem fL (a:F):(fl a).length = 16:=nL _
theorem fl_one (a:F):∀ v ∈ fl a,v.oneCell' = true:=nl_one _
theorem fl_zero:fl 0 = List.replicate 16 (.int .u32 0):=by kernel_rfl
abbrev z0:List Value:=List.replicate 16 (.int .u32 0)
theorem z0_length:z0.length = 16:=rfl
theorem z0_one:∀ v ∈ z0,v.oneCell' = true:=fun v hv=>by rw [List.eq_of_mem_replicate hv];rfl
theorem z0_fl:z0 = fl 0:=fl_zero.symm
attribute [irreducible] fl
theorem len48 {x y z:List Value} (hx:x.length = 16) (hy:y.length = 16) (hz:z.length = 16):(x ++ (y ++ z)).length = 48:=by simp [hx,hy,hz]
theorem one48 {x y z:List Value} (hx:∀ v ∈ x,v.oneCell' = true) (hy:∀ v ∈ y,v.oneCell' = true) (hz:∀ v ∈ z,v.oneCell' = true):∀ v ∈ x ++ (y ++ z),v.oneCell' = true:=by
 intro v hv
 simp only [List.mem_append] at hv
 rcases hv with h | h | h
 ·exact hx v h
 ·exact hy v h
 ·exact hz v h
theorem part48 {w:World} {b:Nat} {x y z:List Value} (hx:x.length = 16) (hy:y.length = 16) (h:Has w b 0 (x ++ (y ++ z))):Has w b 0 x∧Has w b 16 y∧Has w b 32 z:=by
 have h1:Has w b 0 x:=by
  have:=Has.part (us:=[]) (vs:=x) (ws:=y ++ z) (by simpa using h)
  simpa using this
 have h2:Has w b 16 y:=by
  have:=Has.part (us:=x) (vs:=y) (ws:=z) (by simpa using h)
  rwa [hx,Nat.zero_add] at this
 have h3:Has w b 32 z:=by
  have:=Has.part (us:=x ++ y) (vs:=z) (ws:=[]) (by simpa using h)
  rwa [List.length_append,hx,hy,Nat.zero_add] at this
 exact ⟨h1,h2,h3⟩
theorem join48 {w:World} {b:Nat} {x y z:List Value} (hx:x.length = 16) (hy:y.length = 16) (h1:Has w b 0 x) (h2:Has w b 16 y) (h3:Has w b 32 z):Has w b 0 (x ++ (y ++ z)):=by
 refine h1.append ?_
 rw [hx]
 refine Has.append h2 ?_
 rw [hy]
 exact h3
section
variable {P : Program} {ops : Array Oper} {Q : Exit → Act → World → Prop}
theorem wpList_blind {rest:List Oper} {a:Act} {w:World} {o:Oper} {v:Value} (hg:o.guard = none) (hb:Blind P o a v) (hk:wpList P ops Q rest (a.put o.dst v) w):wpList P ops Q (o :: rest) a w:=by
 refine wpList_plain hg fun K hK=>?_
 exact hb.wp (hK _ _ hk)
theorem opw_load {a:Act} {W:World} {K:Act→World→Prop} {dst:Option Tmp} {T ty:TypeId} {x:Operand} {pos:String} {aft:Array Edge} {b o n:Nat} {vs:List Value}
  (hx:a.eval x = Ptr b o) (h:Has W b o vs) (hn:vs.length = n) (hT:∀ w,(isAgg T).run P w = .ok true w) (hS:∀ w,(sizeOf T).run P w = .ok n w)
  (hK:K (a.put dst (.agg vs.toArray)) W):Oper.wp P ⟨dst,.load T x,ty,pos,aft,none⟩ a W K Q:=by
 have:=load_row h hn hT hS
 unfold Oper.wp
 simp only [execOp,hx,Sem.run_bind,this,Result.andThen_ok]
 exact hK
end
theorem list16 {l:List Value} (h:l.length = 16):∃ a b c d e f g i j k m n o p q r,l = [a,b,c,d,e,f,g,i,j,k,m,n,o,p,q,r]:=by
 match l,h with
 | [a,b,c,d,e,f,g,i,j,k,m,n,o,p,q,r],_=>exact ⟨a,b,c,d,e,f,g,i,j,k,m,n,o,p,q,r,rfl⟩
theorem run_build27 {x:List Value} (hx:x.length = 16) (w:World):(Instr.build 27 #[(0,.agg x.toArray)]).run Tryz.prog w = .ok (.agg x.toArray) w:=by
 obtain ⟨a,b,c,d,e,f,g,i,j,k,m,n,o,p,q,r,rfl⟩:=list16 hx
 kernel_rfl
theorem run_build30 {x y z:List Value} (hx:x.length = 16) (hy:y.length = 16) (hz:z.length = 16) (w:World):(Instr.build 30 #[(0,.agg x.toArray),(1,.agg y.toArray),(2,.agg z.toArray)]).run Tryz.prog w = .ok (.agg (x ++ (y ++ z)).toArray) w:=by
 obtain ⟨a,b,c,d,e,f,g,i,j,k,m,n,o,p,q,r,rfl⟩:=list16 hx
 obtain ⟨a1,b1,c1,d1,e1,f1,g1,i1,j1,k1,m1,n1,o1,p1,q1,r1,rfl⟩:=list16 hy
 obtain ⟨a2,b2,c2,d2,e2,f2,g2,i2,j2,k2,m2,n2,o2,p2,q2,r2,rfl⟩:=list16 hz
 kernel_rfl
theorem blind_build27 {a:Act} {dst:Option Tmp} {ty:TypeId} {x:Operand} {pos:String} {aft:Array Edge} {u:List Value} (hx:a.eval x = .agg u.toArray) (lx:u.length = 16) :
  Blind Tryz.prog ⟨dst,.build 27 #[(0,x)],ty,pos,aft,none⟩ a (.agg u.toArray):=fun w=>by
 have:=run_build27 lx w
 simp only [execOp,List.map_toArray,List.map_cons,List.map_nil,hx,Sem.run_bind,this,Result.andThen_ok]
 rfl
theorem blind_build30 {a:Act} {dst:Option Tmp} {ty:TypeId} {x y z:Operand} {pos:String} {aft:Array Edge} {u v t:List Value} (hx:a.eval x = .agg u.toArray) (hy:a.eval y = .agg v.toArray) (hz:a.eval z = .agg t.toArray) (lx:u.length = 16) (ly:v.length = 16) (lz:t.length = 16) :
  Blind Tryz.prog ⟨dst,.build 30 #[(0,x),(1,y),(2,z)],ty,pos,aft,none⟩ a (.agg (u ++ (v ++ t)).toArray):=fun w=>by
 have:=run_build30 lx ly lz w
 simp only [execOp,List.map_toArray,List.map_cons,List.map_nil,hx,hy,hz,Sem.run_bind,this,Result.andThen_ok]
 rfl
theorem opw_alloc {Q:Exit→Act→World→Prop} {a:Act} {W:World} {K:Act→World→Prop} {dst:Option Tmp} {T ty:TypeId} {pos:String} {aft:Array Edge} {zs:List Value}
  (hA:∀ w,(Instr.alloc T true (.tuple #[])).run Tryz.prog w = .ok (Ptr w.heap.size 0) (w.alloc (.cells zs.toArray T))) (hK:K (a.put dst (Ptr W.heap.size 0)) (W.alloc (.cells zs.toArray T))) :
  Oper.wp Tryz.prog ⟨dst,.alloc T,ty,pos,aft,none⟩ a W K Q:=by
 unfold Oper.wp
 simp only [execOp,Sem.run_bind,hA,Result.andThen_ok]
 exact hK
theorem alloc25:∀ w,(Instr.alloc 25 true (.tuple #[])).run Tryz.prog w = .ok (Ptr w.heap.size 0) (w.alloc (.cells (List.replicate 16 (.int .u32 0)).toArray 25)):=fun w=>by kernel_rfl
theorem alloc30:∀ w,(Instr.alloc 30 true (.tuple #[])).run Tryz.prog w = .ok (Ptr w.heap.size 0) (w.alloc (.cells (List.replicate 48 (.int .u32 0)).toArray 30)):=fun w=>by kernel_rfl
open Go.RowKit
section
variable {P : Program} {ops : Array Oper} {Q : Exit → Act → World → Prop}
theorem region_late0 {id:Nat} {l:List Oper} {T:List Value} {w:World} (n:Nat) (fr:List Nat) (si pi:Nat) (hm:P.follows .mixedOrders = true) (hp:plainOps l T.length = true) (htl:tailOk l n = true)
  (R:World→World→Prop) (hr:∀ w,R w w) (ht:∀ a b c,R a b→R b c→R a c) (hsz0:∀ a b,R a b→a.heap.size ≤ b.heap.size)
  (ψ:Value→World→Prop) (hψ:∀ v a b,ψ v a→R a b→ψ v b) (hpi:∀ o,l[si]? = some o→∃ e ∈ o.after,Region.binds .any e = true∧e.on = pi)
  (φ:Nat→Value→World→Prop) (hφ:∀ i v w w',φ i v w→R w w'→φ i v w')
  (hop:∀ (i:Nat) (o:Oper),i < n→l[i]? = some o→∀ (a:Act) (W:World),R w.drew W →
   (∀ s:Nat,(∀ o ∈ l,o.dst ≠ some s)→a.tmps.getD s undef = T.toArray.getD s undef) →
   (∀ e ∈ o.after.toList,Region.binds .any e = true→φ e.on (slotOf l.toArray a e.on) W) →
   o.wp P a W (fun a' W'=>∃ v,a' = a.put o.dst v∧R W W'∧φ i (if o.dst.isSome then v else undef) W'∧(i ∈ fr→v = .pointer (some ⟨W.heap.size,0,none⟩)∧W.heap.size < W'.heap.size∧o.dst.isSome = true)∧(i = si→ψ (slotOf l.toArray a pi) W')) Q)
  (hend:∀ (vs:Nat→Value) (W:World),R w.drew W→(∀ (i:Nat) (o:Oper),i < n→l[i]? = some o→φ i (if o.dst.isSome then vs i else undef) W)→(∀ i j,i ∈ fr→j ∈ fr→i < n→j < n→i ≠ j→vs i ≠ vs j)→(si < n→ψ (vs pi) W)→wpList P l.toArray Q (l.drop n) (finL vs (l.take n) 0 ⟨T.toArray,[]⟩) W) :
  (Code.region id l.toArray true).wp P Q ⟨T.toArray,[]⟩ w:=by
 simp only [tailOk,Bool.and_eq_true,decide_eq_true_eq] at htl
 obtain ⟨⟨⟨hn,hsink⟩,hchain⟩,hseq⟩:=htl
 simp only [plainOps,Bool.and_eq_true,List.all_eq_true,List.mem_range,Bool.or_eq_true,beq_iff_eq] at hp
 obtain ⟨⟨⟨hg,hdist⟩,hin⟩,haft⟩:=hp
 have hdist':∀ (i j:Nat) (oi oj:Oper) (d:Tmp),l[i]? = some oi→l[j]? = some oj→oi.dst = some d→oj.dst = some d→i = j:=by
  intro i j oi oj d hi hj hd1 hd2
  have h1:=(List.getElem?_eq_some_iff.1 hi).1
  have h2:=(List.getElem?_eq_some_iff.1 hj).1
  rcases hdist i h1 j h2 with h | h
  ·exact h
  ·rw [hi,hj] at h
   simp [hd1,hd2] at h
 have main:∀ (c:Nat) (listed:Array Bool) (a:Act) (W:World),HeadInv .any l.toArray n listed→(listed.toList.countP (fun b=>!b) = c + (l.length - n))→R w.drew W→a.defers = []→a.tmps.size = T.length →
   (∀ s:Nat,(∀ o ∈ l.take n,o.dst ≠ some s)→a.tmps.getD s undef = T.toArray.getD s undef) →
   (∀ i,listed.getD i false = true→φ i (slotOf l.toArray a i) W)→(∀ i,i ∈ fr→listed.getD i false = true→∃ k,slotOf l.toArray a i = .pointer (some ⟨k,0,none⟩)∧k < W.heap.size) →
   (∀ i j,i ∈ fr→j ∈ fr→i ≠ j→listed.getD i false = true→listed.getD j false = true→slotOf l.toArray a i ≠ slotOf l.toArray a j) →
   (listed.getD si false = true→listed.getD pi false = true∧ψ (slotOf l.toArray a pi) W)→wpAny P .any l.toArray Q (c + (l.length - n)) listed a W:=by
  intro c
  induction c with
  | zero =>
   intro listed a W inv hc hR hdf hts hun hl hf1 hf2 hps
   have hsz:listed.size = l.length:=by simpa using inv.size
   have hall:∀ i,i < n→listed.getD i false = true:=by
    intro i hi
    cases hlist:listed.getD i false with
    | true=>rfl
    | false =>
     exfalso
     have h1:listed.toList[i]? = some false:=by
      rw [Array.getElem?_toList]
      rw [Array.getD_eq_getD_getElem?,Array.getElem?_eq_getElem (by omega)] at hlist
      rw [Array.getElem?_eq_getElem (by omega)]
      simpa using hlist
     have h2:=count_set _ _ h1
     have h3:l.length - n ≤ (listed.toList.set i true).countP (fun b=>!b):=by
      have h4:((listed.toList.set i true).drop n).countP (fun b=>!b) = l.length - n:=by
       rw [List.countP_eq_length.2]
       ·simp [hsz]
       ·intro b hb
        obtain ⟨j,hj,hje⟩:=List.getElem_of_mem hb
        rw [List.getElem_drop,List.getElem_set] at hje
        rw [if_neg (by omega)] at hje
        have hj':n + j < listed.size:=by simp at hj;omega
        have h5:=inv.tail (n + j) (by omega) (by simpa [hsz] using hj')
        rw [Array.getD_eq_getD_getElem?,Array.getElem?_eq_getElem hj'] at h5
        simp only [Option.getD_some] at h5
        rw [←hje]
        simp [h5]
      have h5:=List.countP_append (p:=fun b=>!b) (l₁:=(listed.toList.set i true).take n) (l₂:=(listed.toList.set i true).drop n)
      rw [List.take_append_drop] at h5
      omega
     omega
   have hcan:listed = canon n l.length:=canon_of hsz (by omega) hall (fun i h1 h2=>inv.tail i h1 (by simpa using h2))
   have e:=finL_eq (slotOf l.toArray a) a (l.take n) 0 ⟨T.toArray,[]⟩ (by simpa using hts) hdf hun (fun j o d hj hd=>by
    rw [Nat.zero_add];unfold slotOf
    have:l[j]? = some o:=by
     rw [List.getElem?_take] at hj
     split at hj
     ·exact hj
     ·cases hj
    simp [this,hd])
   have hend':=hend (slotOf l.toArray a) W hR (fun i o hi ho=>by
    have h1:=hl i (hall i hi)
    have e2:(if o.dst.isSome then slotOf l.toArray a i else undef) = slotOf l.toArray a i:=by
     split
     ·rfl
     ·rename_i hn
      have hnone:o.dst = none:=by simpa using hn
      unfold slotOf;simp [ho,hnone]
    rw [e2];exact h1) (fun i j h1 h2 h3 h4 h5=>hf2 i j h1 h2 h5 (hall i h3) (hall j h4)) (fun h=>(hps (hall si h)).2)
   rw [←e] at hend'
   have:=wpAny_of_seq (md:=.any) (Q':=Q) (l.drop n) n listed a W (fun j=>by simp [List.getElem?_drop]) (by rw [List.length_drop,hcan];exact hseq) hend'
   rw [List.length_drop] at this
   rwa [Nat.zero_add]
  | succ c ih =>
   intro listed a W inv hc hR hdf hts hun hl hf1 hf2 hps
   have hsz:listed.size = l.length:=by simpa using inv.size
   have hex:∃ i,i < n∧listed.getD i true = false:=by
    apply Classical.byContradiction
    intro hno
    have hall:∀ i,i < n→listed.getD i false = true:=by
     intro i hi
     cases h:listed.getD i true with
     | false=>exact absurd ⟨i,hi,h⟩ hno
     | true =>
      rw [Array.getD_eq_getD_getElem?,Array.getElem?_eq_getElem (by omega)] at h ⊢
      exact h
    have hcan:listed = canon n l.length:=canon_of hsz (by omega) hall (fun i h1 h2=>inv.tail i h1 (by simpa using h2))
    rw [hcan] at hc
    simp [canon,List.countP_append,List.countP_replicate] at hc
   have hready:∃ i,i ∈ Region.ready .any l.toArray listed:=by
    obtain ⟨i,hi,hun'⟩:=hex
    induction i using Nat.strongRecOn with
    | _ i ihi =>
     by_cases hd:∀ e ∈ (l[i]'(by omega)).after,Region.binds .any e = true→listed.getD e.on false = true
     ·exact ⟨i,mem_ready.2 ⟨hun',l[i],by simp [show i < l.length by omega],hd⟩⟩
     ·have hd':=Classical.not_forall.1 hd
      obtain ⟨e,he⟩:=hd'
      have he1:=Classical.not_imp.1 he
      have he2:=Classical.not_imp.1 he1.2
      have h4:=haft i (by omega)
      rw [List.getElem?_eq_getElem (show i < l.length by omega)] at h4
      have h5:=List.all_eq_true.1 h4 e (by simpa using he1.1)
      simp only [Bool.or_eq_true,decide_eq_true_eq,he2.1,Bool.not_true,Bool.false_eq_true,or_false] at h5
      refine ihi e.on h5 (by omega) ?_
      have h6:=he2.2
      rw [Array.getD_eq_getD_getElem?,Array.getElem?_eq_getElem (by omega)] at h6 ⊢
      simpa using h6
   rw [show c + 1 + (l.length - n) = (c + (l.length - n)) + 1 by omega]
   refine ⟨fun h0=>(by obtain ⟨i,hi⟩:=hready;rw [h0] at hi;cases hi),fun i hi=>?_⟩
   have hin':i < n:=by
    obtain ⟨k,hk,hkun⟩:=hex
    rcases Nat.lt_or_ge i n with h | h
    ·exact h
    ·exact absurd hi (tail_waits hsink hchain (by simpa using hn) inv _ k rfl hk hkun i h)
   obtain ⟨hfalse,o,ho,hdeps⟩:=mem_ready.1 hi
   have ho':l[i]? = some o:=by simpa using ho
   have hom:o ∈ l:=List.mem_of_getElem? ho'
   have homn:o ∈ l.take n:=by
    apply List.mem_of_getElem? (i:=i)
    rw [List.getElem?_take,if_pos hin'];exact ho'
   have hgn:o.guard = none:=by have:=hg o hom;simpa using this
   simp only [wpOp,ho]
   rw [if_pos (by simp [Region.wanted,hgn])]
   refine .inl (Oper.wp_mono ?_ (hop i o hin' ho' a W hR (fun s hs=>hun s (fun o' ho'=>hs o' (List.mem_of_mem_take ho'))) (fun e he hb=>hl _ (hdeps e (by simpa using he) hb))))
   rintro a' W' ⟨v,rfl,hRW,hφi,hfi,hsi⟩
   have sl:∀ j,i ≠ j→slotOf l.toArray (a.put o.dst v) j = slotOf l.toArray a j:=by
    intro j hij
    unfold slotOf
    cases hoj:(l.toArray[j]?).bind (·.dst) with
    | none=>rfl
    | some d =>
     simp only
     apply put_other
     intro e
     obtain ⟨oj,hoj1,hoj2⟩:=Option.bind_eq_some_iff.1 hoj
     exact hij (hdist' i j o oj d ho' (by simpa using hoj1) e hoj2)
   have li:∀ j,i ≠ j→(listed.setIfInBounds i true).getD j false = true→listed.getD j false = true:=by
    intro j hij hj
    rw [Array.getD_eq_getD_getElem?] at hj ⊢
    rw [Array.getElem?_setIfInBounds,if_neg hij] at hj
    exact hj
   have sk:o.dst.isSome = true→slotOf l.toArray (a.put o.dst v) i = v:=by
    intro hs
    unfold slotOf
    rw [ho]
    cases hdst:o.dst with
    | none=>rw [hdst] at hs;cases hs
    | some d =>
     have:=hin o hom
     rw [hdst] at this
     simp only [decide_eq_true_eq] at this
     simp only [Option.bind_some,hdst]
     exact put_same _ _ _ (by rw [hts];exact this)
   refine ih _ _ _ (inv.set hi hin') ?_ (ht _ _ _ hR hRW) (by rw [put_defers];exact hdf) (by rw [put_size];exact hts) (fun s hs=>by rw [put_other _ _ _ _ (hs o homn)];exact hun s hs) (fun j hj=>?_) (fun j hjf hj=>?_) (fun j k hjf hkf hjk hj hk=>?_) (fun hs=>?_)
   ·have:=count_set _ _ (getD_false hfalse)
    rw [Array.toList_setIfInBounds]
    omega
   by_cases hij:i = j
   ·subst hij
    have hd:slotOf l.toArray (a.put o.dst v) i = if o.dst.isSome then v else undef:=by
     unfold slotOf
     rw [ho]
     cases hdst:o.dst with
     | none=>simp [hdst]
     | some d =>
      have:=hin o hom
      rw [hdst] at this
      simp only [decide_eq_true_eq] at this
      simp only [Option.bind_some,hdst,Option.isSome_some,if_true]
      exact put_same _ _ _ (by rw [hts];exact this)
    rw [hd];exact hφi
   ·have hj':listed.getD j false = true:=by
     rw [Array.getD_eq_getD_getElem?] at hj ⊢
     rw [Array.getElem?_setIfInBounds,if_neg hij] at hj
     exact hj
    have:=hφ _ _ _ _ (hl j hj') hRW
    have e:slotOf l.toArray (a.put o.dst v) j = slotOf l.toArray a j:=by
     unfold slotOf
     cases hoj:(l.toArray[j]?).bind (·.dst) with
     | none=>rfl
     | some d =>
      simp only
      apply put_other
      intro e
      obtain ⟨oj,hoj1,hoj2⟩:=Option.bind_eq_some_iff.1 hoj
      exact hij (hdist' i j o oj d ho' (by simpa using hoj1) e hoj2)
    rw [e];exact this
   ·by_cases hij:i = j
    ·subst hij
     obtain ⟨h1,h2,h3⟩:=hfi hjf
     exact ⟨W.heap.size,by rw [sk h3,h1],h2⟩
    ·obtain ⟨k,h1,h2⟩:=hf1 j hjf (li j hij hj)
     exact ⟨k,by rw [sl j hij,h1],Nat.lt_of_lt_of_le h2 (hsz0 _ _ hRW)⟩
   ·by_cases hij:i = j
    ·subst hij
     obtain ⟨h1,h2,h3⟩:=hfi hjf
     obtain ⟨q,h4,h5⟩:=hf1 k hkf (li k hjk hk)
     rw [sk h3,sl k hjk,h1,h4]
     intro e
     simp only [Value.pointer.injEq,Option.some.injEq,Addr.mk.injEq] at e
     omega
    ·by_cases hik:i = k
     ·subst hik
      obtain ⟨h1,h2,h3⟩:=hfi hkf
      obtain ⟨q,h4,h5⟩:=hf1 j hjf (li j hij hj)
      rw [sk h3,sl j hij,h1,h4]
      intro e
      simp only [Value.pointer.injEq,Option.some.injEq,Addr.mk.injEq] at e
      omega
     ·rw [sl j hij,sl k hik]
      exact hf2 j k hjf hkf hjk (li j hij hj) (li k hik hk)
   ·have lm:∀ q,listed.getD q false = true→(listed.setIfInBounds i true).getD q false = true:=by
     intro q hq
     by_cases hiq:i = q
     ·subst hiq
      rw [Array.getD_eq_getD_getElem?] at hq ⊢
      rw [Array.getElem?_setIfInBounds,if_pos rfl]
      split
      ·rfl
      ·rename_i hlt
       rw [Array.getElem?_eq_none (by omega)] at hq
       cases hq
     ·rw [Array.getD_eq_getD_getElem?] at hq ⊢
      rw [Array.getElem?_setIfInBounds,if_neg hiq]
      exact hq
    have hne:∀ q,listed.getD q false = true→i ≠ q:=by
     intro q hq hiq
     subst hiq
     rw [Array.getD_eq_getD_getElem?] at hq hfalse
     cases hx:listed[i]? with
     | none=>rw [hx] at hq;cases hq
     | some b=>rw [hx] at hq hfalse;simp at hq hfalse;rw [hq] at hfalse;cases hfalse
    by_cases his:i = si
    ·have hp:listed.getD pi false = true:=by
      obtain ⟨e,he1,he2,he3⟩:=hpi o (his ▸ ho')
      rw [←he3]
      exact hdeps e he1 he2
     exact ⟨lm _ hp,by rw [sl pi (hne pi hp)];exact hsi his⟩
    ·obtain ⟨h1,h2⟩:=hps (li si his hs)
     exact ⟨lm _ h1,by rw [sl pi (hne pi h1)];exact hψ _ _ _ h2 hRW⟩
 refine wp_region_any hm ?_
 have:=main n (Array.replicate l.toArray.size false) ⟨T.toArray,[]⟩ w.drew
  ⟨by simp,fun j oj _ hl=>(by rw [getD_replicate_false] at hl;cases hl),fun t _ ht=>getD_in (by simpa using ht) (getD_replicate_false _ _)⟩
  (by simp [List.countP_replicate];omega) (hr _) rfl (by simp) (fun _ _=>rfl) (fun i hi=>by rw [getD_replicate_false] at hi;cases hi) (fun i _ hi=>by rw [getD_replicate_false] at hi;cases hi) (fun i j _ _ _ hi=>by rw [getD_replicate_false] at hi;cases hi) (fun hi=>by rw [getD_replicate_false] at hi;cases hi)
 rw [show n + (l.length - n) = l.toArray.size by simp;omega] at this
 exact this
def TY (w:World) (k:Nat) (T:TypeId):Prop:=∃ c f,w.heap[k]? = some (.cells c T f)
theorem TY.lt {w:World} {k:Nat} {T:TypeId} (h:TY w k T):k < w.heap.size:=by
 obtain ⟨c,f,h⟩:=h
 rcases Nat.lt_or_ge k w.heap.size with h' | h'
 ·exact h'
 ·rw [Array.getElem?_eq_none h'] at h;cases h
theorem Chg.ty {R:Nat→Nat→Prop} {w w':World} (h:Chg R w w') {k:Nat} {T:TypeId} (t:TY w k T):TY w' k T:=by
 have hk:=t.lt
 obtain ⟨c,f,t⟩:=t
 rcases h.obj k hk with e | ⟨c1,c2,e,f1,h1,h2,-,-⟩
 ·exact ⟨c,f,e ▸ t⟩
 ·rw [h1] at t
  cases t
  exact ⟨c2,f,h2⟩
theorem TY.new (w:World) (vs:List Value) (T:TypeId):TY (w.alloc (.cells vs.toArray T)) w.heap.size T:=by
 refine ⟨vs.toArray,(0,0),?_⟩
 show (w.heap.push _)[w.heap.size]? = _
 simp
theorem TY.ne {w:World} {k q:Nat} {T S:TypeId} (h:TY w k T) (h2:TY w q S) (e:T ≠ S):k ≠ q:=by
 rintro rfl
 obtain ⟨c,f,h⟩:=h
 obtain ⟨c2,f2,h2⟩:=h2
 rw [h] at h2
 cases h2
 exact e rfl
def RN (n0:Nat) (vs us:List Value) (a b:World):Prop:=Chg (fun k _=>n0 ≤ k) a b∧(∀ k,Has a k 0 vs→Has b k 0 vs)∧∀ k,TY a k 5→Has a k 0 us→Has b k 0 us
theorem RN.refl (n0:Nat) (vs us:List Value) (a:World):RN n0 vs us a a:=⟨.refl _ _,fun _ h=>h,fun _ _ h=>h⟩
theorem RN.trans {n0:Nat} {vs us:List Value} {a b c:World} (h:RN n0 vs us a b) (h2:RN n0 vs us b c):RN n0 vs us a c:=⟨h.1.trans h2.1,fun k x=>h2.2.1 k (h.2.1 k x),fun k t x=>h2.2.2 k (h.1.ty t) (h.2.2 k t x)⟩
theorem RN.of_below {n0:Nat} {vs us:List Value} {a b:World} (h:Below a.heap.size a b):RN n0 vs us a b:=⟨Chg.of_below h,fun _ x=>x.later h,fun _ _ x=>x.later h⟩
theorem RN.keep {n0:Nat} {vs us:List Value} {a b:World} (h:RN n0 vs us a.drew b) {c o:Nat} {ts:List Value} (r:Has a c o ts) (hc:c < n0):Has b c o ts:=Has.keep (w:=a.drew) h.1 r (fun _ _ hh=>absurd hc (Nat.not_lt.2 hh))
theorem RN.room {n0:Nat} {vs us:List Value} {a b:World} (h:RN n0 vs us a.drew b) {c o n:Nat} (r:Room a c o n):Room b c o n:=Chg.room (w:=a.drew) h.1 r
theorem RN.chg {R:Nat→Nat→Prop} {n0:Nat} {vs us:List Value} {w a b:World} (C:Chg R w a) (h:RN n0 vs us a.drew b) (hn:w.heap.size ≤ n0):Chg R w b:=(C.drew).step h.1 (fun _ _ hj hh=>absurd (Nat.lt_of_lt_of_le hj hn) (Nat.not_lt.2 hh))
theorem RN.store {n0 k n:Nat} {vs us:List Value} {W:World} {T:TypeId} (h:Room W k 0 n) (hn:vs.length = n) (hk:n0 ≤ k) (ht:TY W k T) (h5:T ≠ 5):RN n0 vs us W (W.setCells k 0 vs)∧Has (W.setCells k 0 vs) k 0 vs:=by
 have h1:=putL_has (w:=W) (b:=k) (o:=0) (vs:=vs) (by rw [hn];exact h)
 have h2:=putL_chg (w:=W) (b:=k) (o:=0) (vs:=vs)
 refine ⟨⟨h2.mono ?_,fun q hq=>?_,fun q tq hq=>?_⟩,h1⟩
 ·rintro q i - ⟨rfl,-,-⟩;exact hk
 ·by_cases e:q = k
  ·subst e;exact h1
  ·exact hq.keep h2 (oq (fun e2=>absurd e2 e))
 ·exact hq.keep h2 (oq (fun e2=>absurd e2 (TY.ne tq ht (Ne.symm h5))))
theorem region_late {id:Nat} {l:List Oper} {T:List Value} {w:World} (n:Nat) (fr:List Nat) (si pi n0:Nat) (vs us:List Value) (hm:P.follows .mixedOrders = true) (hp:plainOps l T.length = true) (htl:tailOk l n = true)
  (hpi:∀ o,l[si]? = some o→∃ e ∈ o.after,Region.binds .any e = true∧e.on = pi)
  (φ:Nat→Value→World→Prop) (hφ:∀ i v a b,φ i v a→RN n0 vs us a b→φ i v b)
  (hop:heads (l.take n) 0 (fun i o=>∀ (a:Act) (W:World),RN n0 vs us w.drew W →
   (∀ s:Nat,(∀ o ∈ l,o.dst ≠ some s)→a.tmps.getD s undef = T.toArray.getD s undef) →
   (∀ e ∈ o.after.toList,Region.binds .any e = true→φ e.on (slotOf l.toArray a e.on) W) →
   o.wp P a W (fun a' W'=>∃ v,a' = a.put o.dst v∧RN n0 vs us W W'∧φ i (if o.dst.isSome then v else undef) W'∧(i ∈ fr→v = .pointer (some ⟨W.heap.size,0,none⟩)∧W.heap.size < W'.heap.size∧o.dst.isSome = true)∧(i = si→∃ k,slotOf l.toArray a pi = .pointer (some ⟨k,0,none⟩)∧Has W' k 0 vs)) Q))
  (hend:∀ (ts:Nat→Value) (W:World),RN n0 vs us w.drew W→heads (l.take n) 0 (fun i o=>φ i (if o.dst.isSome then ts i else undef) W)→(∀ i j,i ∈ fr→j ∈ fr→i < n→j < n→i ≠ j→ts i ≠ ts j)→(si < n→∃ k,ts pi = .pointer (some ⟨k,0,none⟩)∧Has W k 0 vs)→wpList P l.toArray Q (l.drop n) (finL ts (l.take n) 0 ⟨T.toArray,[]⟩) W) :
  (Code.region id l.toArray true).wp P Q ⟨T.toArray,[]⟩ w:=by
 have tk:∀ (i:Nat) (o:Oper),i < n→l[i]? = some o→(l.take n)[i]? = some o:=fun i o hi ho=>by rw [List.getElem?_take,if_pos hi];exact ho
 refine region_late0 n fr si pi hm hp htl (RN n0 vs us) (RN.refl n0 vs us) (fun _ _ _ h h2=>h.trans h2) (fun _ _ h=>h.1.size) (fun v W=>∃ k,v = .pointer (some ⟨k,0,none⟩)∧Has W k 0 vs)
  (fun v a b h hR=>by obtain ⟨k,h1,h2⟩:=h;exact ⟨k,h1,hR.2.1 k h2⟩) hpi φ hφ
  (fun i o hi ho=>by have:=heads_at hop i o (tk i o hi ho);rwa [Nat.zero_add] at this)
  (fun ts W hR h=>hend ts W hR (heads_of fun j o hj=>by
   rw [Nat.zero_add]
   rw [List.getElem?_take] at hj
   split at hj
   ·exact h j o (by assumption) hj
   ·cases hj))
end
end Go.Proofs.Ed
