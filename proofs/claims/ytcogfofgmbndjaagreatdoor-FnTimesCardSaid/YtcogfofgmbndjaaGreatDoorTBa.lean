/- A part of the proof of the tied card of FnTimes: Vrr. -/
import Derived.Test.YtcogfofgmbndjaaGreatDoorProg
import Derived.WalkKit
import Derived.WalkSpells
import Derived.WalkLawsBesides
import Derived.Outline
import Derived.StillTailTactics
import Derived.Test.YtcogfofgmbndjaaGreatDoorTAz
set_option maxRecDepth 100000
set_option maxHeartbeats 40000000
namespace Go.Proofs.Ed
open Go.RowKit
theorem root_odd:¬ odd (pow 2 E1) = 1:=by rw [pow_fast _ _ (by decide)];decide +kernel
theorem spI_eq:spI = pow 2 E1:=by unfold spI absF;rw [if_neg root_odd]
def spRt (u v:F):F × Bool:=if u = 0 then (0,true) else if rtF (u * inv v) * rtF (u * inv v) = u * inv v then (rtF (u * inv v),true) else (rtF (u * inv v * spI),false)
theorem spRt_0 {u v:F} (h:u = 0):spRt u v = (0,true):=by unfold spRt;rw [if_pos h]
theorem spRt_1 {u v x f:F} (h:¬ u = 0) (hx:x = u * inv v) (hf:f = rtF x) (h2:f * f = x):spRt u v = (f,true):=by
 subst hx hf;unfold spRt;rw [if_neg h,if_pos h2]
theorem spRt_2 {u v x f y g:F} (h:¬ u = 0) (hx:x = u * inv v) (hf:f = rtF x) (h2:¬ f * f = x) (hy:y = x * spI) (hg:g = rtF y):spRt u v = (g,false):=by
 subst hx hf hy hg;unfold spRt;rw [if_neg h,if_neg h2]
theorem eq_t {a b:F} (h:a = b):decide (a = b) = true:=by rw [decide_eq_true h]
theorem eq_n {a b:F} (h:¬ a = b):decide (a = b) = false:=by rw [decide_eq_false h]
theorem ratio_v {u v r:F} {b:Bool} {w:World} (hv:Hd (¬ v = 0)) (h:Hd (spRt u v = (r,b))):Calls Tryz.prog 37 #[.agg (fl u).toArray,.agg (fl v).toArray] w (fun e w'=>e = .returned (.tuple #[.agg (fl r).toArray,.bool b])∧Below w.heap.size w w'):=by
 have C:Chg R0 w w:=.refl _ _
 go_enter Tryz.func37,Tryz.ntmps37
 go_wp2_with fail
 obtain ⟨n1,ln1⟩:∃ n,w.heap.size = n:=⟨_,rfl⟩
 rw [ln1]
 have hb:=aB [Obj.cells (fl u).toArray 25,Obj.cells (fl v).toArray 25,Obj.cells (List.replicate 16 (.int .u32 0)).toArray 25] w
 have zn1:w.heap.size ≤ n1:=ln1 ▸ C.size
 replace C:=C.trans (Chg.of_below hb)
 have H1:=aH [Obj.cells (fl u).toArray 25,Obj.cells (fl v).toArray 25,Obj.cells (List.replicate 16 (.int .u32 0)).toArray 25] w 0 _ _ rfl
 rw [ln1] at H1
 simp only [Nat.add_zero] at H1
 have H2:=aH [Obj.cells (fl u).toArray 25,Obj.cells (fl v).toArray 25,Obj.cells (List.replicate 16 (.int .u32 0)).toArray 25] w 1 _ _ rfl
 rw [ln1] at H2
 have H3:=(aH [Obj.cells (fl u).toArray 25,Obj.cells (fl v).toArray 25,Obj.cells (List.replicate 16 (.int .u32 0)).toArray 25] w 2 _ _ rfl).room (n:=16) rfl
 rw [ln1] at H3
 refine wp_gen (fun W=>Chg R0 w W∧Has W n1 0 (fl u)∧Has W (n1 + 1) 0 (fl v)∧Room W (n1 + 2) 0 16) ⟨C,H1,H2,H3⟩ ?_
 clear C H1 H2 H3 hb ln1
 rintro W ⟨C,H1,H2,H3⟩
 obtain ⟨n2,ln2⟩:∃ n,W.heap.size = n:=⟨_,rfl⟩
 have zn2:w.heap.size ≤ n2:=ln2 ▸ C.size
 have y4:n1 < n2:=ln2 ▸ H1.lt (by rw [fL];decide)
 have y5:n1 + 1 < n2:=ln2 ▸ H2.lt (by rw [fL];decide)
 have y6:n1 + 2 < n2:=ln2 ▸ H3.lt (by decide)
 replace ln2:=hd ln2
 obtain ⟨f1,qf1⟩:∃ g:F,g = inv v:=⟨_,rfl⟩
 replace qf1:=hd qf1
 obtain ⟨f2,qf2⟩:∃ g:F,g = u * f1:=⟨_,rfl⟩
 replace qf2:=hd qf2
 refine region_fresh 5 [4] (by kernel_rfl) (by kernel_rfl) (by kernel_rfl)
  (fun i vv W=>match i with
   | 0=>vv = .agg (fl u).toArray
   | 1=>vv = .agg (fl v).toArray
   | 2=>vv = .agg (fl f1).toArray
   | 3=>vv = .agg (fl f2).toArray
   | 4=>∃ k,vv = Ptr k 0∧n2 ≤ k∧Room W k 0 16
   | _=>True) ?_ ?_ ?_
 ·intro i v u u' h hb
  split at h
  ·exact h
  ·exact h
  ·exact h
  ·exact h
  ·obtain ⟨k,h1,h2,h3⟩:=h;exact ⟨k,h1,h2,h3.later hb⟩
  ·trivial
 ·simp only [List.take_succ_cons,List.take_zero,heads]
  refine ⟨?_,?_,?_,?_,?_,trivial⟩
  ·intro a W1 hR hun hdep
   have t2:=hun 2 (by simp)
   simp at t2
   clear hun hdep
   exact opw_load (b:=n1) (o:=0) (gd t2) (Has.later H1 hR.off) (fL _) agg25 size25 ⟨_,rfl,Later.rfl' _,rfl,(fun h=>absurd h (by decide))⟩
  ·intro a W1 hR hun hdep
   have t3:=hun 3 (by simp)
   simp at t3
   clear hun hdep
   exact opw_load (b:=n1 + 1) (o:=0) (gd t3) (Has.later H2 hR.off) (fL _) agg25 size25 ⟨_,rfl,Later.rfl' _,rfl,(fun h=>absurd h (by decide))⟩
  ·intro a W1 hR hun hdep
   have d16:=hdep ⟨1,.data⟩ (by simp) rfl
   simp [slotOf] at d16
   clear hun hdep
   go_simp
   refine (inv_v qf1).mono ?_
   rintro e W2 ⟨rfl,hb⟩
   first | exact hb | exact ⟨hb,rfl⟩ | exact ⟨rfl,hb⟩
  ·intro a W1 hR hun hdep
   have d15:=hdep ⟨0,.data⟩ (by simp) rfl
   simp [slotOf] at d15
   have d17:=hdep ⟨2,.data⟩ (by simp) rfl
   simp [slotOf] at d17
   clear hun hdep
   go_simp
   refine (mul_v qf2).mono ?_
   rintro e W2 ⟨rfl,hb⟩
   first | exact hb | exact ⟨hb,rfl⟩ | exact ⟨rfl,hb⟩
  ·intro a W1 hR hun hdep
   clear hun hdep
   have hle:n2 ≤ W1.heap.size:=ln2.out ▸ hR.off.size
   exact opw_alloc alloc25 ⟨_,rfl,bA _ _,⟨_,rfl,hle,(box_has W1 _ 25).room rfl⟩,fun _=>⟨rfl,by rw [size_alloc];omega,rfl⟩⟩
 ·intro vs W1 hR hv hfr
  simp only [List.take_succ_cons,List.take_zero,List.drop_succ_cons,List.drop_zero,heads,Option.isSome_some,if_true] at hv ⊢
  obtain ⟨v0,v1,v2,v3,v4,-⟩:=hv
  obtain ⟨k6,v4,y8,H7⟩:=v4
  simp only [finL,Act.put,v0,v1,v2,v3,v4]
  simp only [iA,iB,iC]
  replace hR:=hR.off
  replace C:=C.trans (Chg.of_below hR)
  replace H1:=H1.later hR
  replace H2:=H2.later hR
  replace H3:=H3.later hR
  clear hR hfr v0 v1 v2 v3 v4
  have z9:w.heap.size ≤ k6:=by omega
  refine pG (fun W=>Chg R0 w W∧Has W n1 0 (fl u)∧Has W (n1 + 1) 0 (fl v)∧Room W (n1 + 2) 0 16∧Room W k6 0 16) ⟨C,H1,H2,H3,H7⟩ ?_
  clear C H1 H2 H3 H7
  rintro W ⟨C,H1,H2,H3,H7⟩
  repeat ((fail_if_success with_reducible refine ss 25 ?_);first | go_step | dsimp only)
  refine wS (b:=k6) (o:=0) (vs:=fl f2) rfl rfl H7 (fL _) (fl_one _) size25 ?_
  simp only [Act.put]
  have hc:Chg (Rg k6 0 16) W (World.setCells W k6 0 (fl f2)):=by have:=putL_chg (w:=W) (b:=k6) (o:=0) (vs:=fl f2);rwa [show (fl f2).length = 16 from (fL _)] at this
  have H10:=putL_has (w:=W) (b:=k6) (o:=0) (vs:=fl f2) (by rw [show (fl f2).length = 16 from (fL _)];exact H7)
  replace C:=C.loc hc (by omega)
  replace H1:=H1.keep hc oa
  replace H2:=H2.keep hc oa
  replace H3:=hc.room H3
  clear H7
  clear hc
  refine pG (fun W=>Chg R0 w W∧Has W n1 0 (fl u)∧Has W (n1 + 1) 0 (fl v)∧Room W (n1 + 2) 0 16∧Has W k6 0 (fl f2)) ⟨C,H1,H2,H3,H10⟩ ?_
  clear C H1 H2 H3 H10
  rintro W ⟨C,H1,H2,H3,H10⟩
  obtain ⟨f3,qf3⟩:∃ g:F,g = pow 2 E1:=⟨_,rfl⟩
  replace qf3:=hd qf3
  go_wp2_with fail
  refine (root_v qf3).mono ?_
  rintro e W ⟨rfl,hb⟩
  replace C:=C.trans (Chg.of_below hb)
  replace H1:=H1.later hb
  replace H2:=H2.later hb
  replace H3:=H3.later hb
  replace H10:=H10.later hb
  clear hb
  repeat ((fail_if_success with_reducible refine ss 25 ?_);first | go_step | dsimp only)
  obtain ⟨n3,ln3⟩:∃ n,W.heap.size = n:=⟨_,rfl⟩
  rw [ln3]
  have hb:=aB [Obj.cells (List.replicate 16 (.int .u32 0)).toArray 25] W
  have zn3:w.heap.size ≤ n3:=ln3 ▸ C.size
  have y11:n1 < n3:=ln3 ▸ H1.lt (by rw [fL];decide)
  have y12:n1 + 1 < n3:=ln3 ▸ H2.lt (by rw [fL];decide)
  have y13:n1 + 2 < n3:=ln3 ▸ H3.lt (by decide)
  have y14:k6 < n3:=ln3 ▸ H10.lt (by rw [fL];decide)
  replace C:=C.trans (Chg.of_below hb)
  replace H1:=H1.later hb
  replace H2:=H2.later hb
  replace H3:=H3.later hb
  replace H10:=H10.later hb
  have H15:=(aH [Obj.cells (List.replicate 16 (.int .u32 0)).toArray 25] W 0 _ _ rfl).room (n:=16) rfl
  rw [ln3] at H15
  simp only [Nat.add_zero] at H15
  refine pG (fun W=>Chg R0 w W∧Has W n1 0 (fl u)∧Has W (n1 + 1) 0 (fl v)∧Room W (n1 + 2) 0 16∧Has W k6 0 (fl f2)∧Room W n3 0 16) ⟨C,H1,H2,H3,H10,H15⟩ ?_
  clear C H1 H2 H3 H10 H15 hb ln3
  rintro W ⟨C,H1,H2,H3,H10,H15⟩
  refine wS (b:=n3) (o:=0) (vs:=fl f3) rfl rfl H15 (fL _) (fl_one _) size25 ?_
  simp only [Act.put]
  have hc:Chg (Rg n3 0 16) W (World.setCells W n3 0 (fl f3)):=by have:=putL_chg (w:=W) (b:=n3) (o:=0) (vs:=fl f3);rwa [show (fl f3).length = 16 from (fL _)] at this
  have H16:=putL_has (w:=W) (b:=n3) (o:=0) (vs:=fl f3) (by rw [show (fl f3).length = 16 from (fL _)];exact H15)
  replace C:=C.loc hc (by omega)
  replace H1:=H1.keep hc oa
  replace H2:=H2.keep hc oa
  replace H3:=hc.room H3
  replace H10:=H10.keep hc oa
  clear H15
  clear hc
  refine pG (fun W=>Chg R0 w W∧Has W n1 0 (fl u)∧Has W (n1 + 1) 0 (fl v)∧Room W (n1 + 2) 0 16∧Has W k6 0 (fl f2)∧Has W n3 0 (fl f3)) ⟨C,H1,H2,H3,H10,H16⟩ ?_
  clear C H1 H2 H3 H10 H16
  rintro W ⟨C,H1,H2,H3,H10,H16⟩
  repeat ((fail_if_success with_reducible refine sl 25 ?_);first | go_step | dsimp only)
  refine wL (b:=n3) (o:=0) rfl H16 (fL _) agg25 size25 ?_
  simp only [Act.put,iA,iB,iC]
  go_wp2_with fail
  refine (odd_n (hd (by rw [qf3.out];exact root_odd))).mono ?_
  rintro e W ⟨rfl,hb⟩
  replace C:=C.trans (Chg.of_below hb)
  replace H1:=H1.later hb
  replace H2:=H2.later hb
  replace H3:=H3.later hb
  replace H10:=H10.later hb
  replace H16:=H16.later hb
  clear hb
  go_wp2_with fail
  refine (p_v).mono ?_
  rintro e W ⟨rfl,hb⟩
  replace C:=C.trans (Chg.of_below hb)
  replace H1:=H1.later hb
  replace H2:=H2.later hb
  replace H3:=H3.later hb
  replace H10:=H10.later hb
  replace H16:=H16.later hb
  clear hb
  go_wp2_with fail
  refine (small_v (x:=3) (by decide)).mono ?_
  rintro e W ⟨rfl,hb⟩
  replace C:=C.trans (Chg.of_below hb)
  replace H1:=H1.later hb
  replace H2:=H2.later hb
  replace H3:=H3.later hb
  replace H10:=H10.later hb
  replace H16:=H16.later hb
  clear hb
  obtain ⟨f4,qf4⟩:∃ g:Nat,g = P + 3:=⟨_,rfl⟩
  replace qf4:=hd qf4
  go_wp2_with fail
  refine (plus_w (by have:=P_lt;omega) qf4).mono ?_
  rintro e W ⟨rfl,hb⟩
  replace C:=C.trans (Chg.of_below hb)
  replace H1:=H1.later hb
  replace H2:=H2.later hb
  replace H3:=H3.later hb
  replace H10:=H10.later hb
  replace H16:=H16.later hb
  clear hb
  repeat ((fail_if_success with_reducible refine ss 25 ?_);first | go_step | dsimp only)
  obtain ⟨n4,ln4⟩:∃ n,W.heap.size = n:=⟨_,rfl⟩
  rw [ln4]
  have hb:=aB [Obj.cells (List.replicate 16 (.int .u32 0)).toArray 25] W
  have zn4:w.heap.size ≤ n4:=ln4 ▸ C.size
  have y17:n1 < n4:=ln4 ▸ H1.lt (by rw [fL];decide)
  have y18:n1 + 1 < n4:=ln4 ▸ H2.lt (by rw [fL];decide)
  have y19:n1 + 2 < n4:=ln4 ▸ H3.lt (by decide)
  have y20:k6 < n4:=ln4 ▸ H10.lt (by rw [fL];decide)
  have y21:n3 < n4:=ln4 ▸ H16.lt (by rw [fL];decide)
  replace C:=C.trans (Chg.of_below hb)
  replace H1:=H1.later hb
  replace H2:=H2.later hb
  replace H3:=H3.later hb
  replace H10:=H10.later hb
  replace H16:=H16.later hb
  have H22:=(aH [Obj.cells (List.replicate 16 (.int .u32 0)).toArray 25] W 0 _ _ rfl).room (n:=16) rfl
  rw [ln4] at H22
  simp only [Nat.add_zero] at H22
  refine pG (fun W=>Chg R0 w W∧Has W n1 0 (fl u)∧Has W (n1 + 1) 0 (fl v)∧Room W (n1 + 2) 0 16∧Has W k6 0 (fl f2)∧Has W n3 0 (fl f3)∧Room W n4 0 16) ⟨C,H1,H2,H3,H10,H16,H22⟩ ?_
  clear C H1 H2 H3 H10 H16 H22 hb ln4
  rintro W ⟨C,H1,H2,H3,H10,H16,H22⟩
  refine wS (b:=n4) (o:=0) (vs:=nl f4) rfl rfl H22 (nL _) (nl_one _) size25 ?_
  simp only [Act.put]
  have hc:Chg (Rg n4 0 16) W (World.setCells W n4 0 (nl f4)):=by have:=putL_chg (w:=W) (b:=n4) (o:=0) (vs:=nl f4);rwa [show (nl f4).length = 16 from (nL _)] at this
  have H23:=putL_has (w:=W) (b:=n4) (o:=0) (vs:=nl f4) (by rw [show (nl f4).length = 16 from (nL _)];exact H22)
  replace C:=C.loc hc (by omega)
  replace H1:=H1.keep hc oa
  replace H2:=H2.keep hc oa
  replace H3:=hc.room H3
  replace H10:=H10.keep hc oa
  replace H16:=H16.keep hc oa
  clear H22
  clear hc
  refine pG (fun W=>Chg R0 w W∧Has W n1 0 (fl u)∧Has W (n1 + 1) 0 (fl v)∧Room W (n1 + 2) 0 16∧Has W k6 0 (fl f2)∧Has W n3 0 (fl f3)∧Has W n4 0 (nl f4)) ⟨C,H1,H2,H3,H10,H16,H23⟩ ?_
  clear C H1 H2 H3 H10 H16 H23
  rintro W ⟨C,H1,H2,H3,H10,H16,H23⟩
  go_wp2_with fail
  have fb:=hd (show f4 < 13407807929942597099574024998205846127479365820592393377723561443721764030073546976801874298166903427690031858186486050853753882811946569946433649006084096 by have:=qf4.out;have:=P_lt;omega)
  go_loopw [27] (fun i W=>∃ t:Nat,t ≤ 3∧i = .int .i64 t∧Chg R0 w W∧Has W n1 0 (fl u)∧Has W (n1 + 1) 0 (fl v)∧Room W (n1 + 2) 0 16∧Has W k6 0 (fl f2)∧Has W n3 0 (fl f3)∧Has W n4 0 (nl (hlf f4 t))) (fun i _=>3 - (intOf i).toNat)
  case atStart=>exact ⟨0,by omega,rfl,C,H1,H2,H3,H10,H16,by rw [hlf_zero];exact H23⟩
  case round =>
   clear C H1 H2 H3 H10 H16 H23
   obtain ⟨t,ht,rfl,C,H1,H2,H3,H10,H16,HB⟩:=hrel
   by_cases hlt:t < 3
   ·have hm:=hd (Nat.lt_of_le_of_lt (hlf_le f4 t) fb.out)
    have hs:=hlf_succ f4 t
    obtain ⟨m,qm⟩:∃ m,hlf f4 t = m:=⟨_,rfl⟩
    rw [qm] at HB hm hs
    replace hs:=hd hs
    clear qm
    go_wp2_with fail
    rw [show decide ((t:Int) < 3) = true by rw [decide_eq_true_iff];omega]
    rw [shF_zero m] at HB
    go_loopw [29] (fun i W=>∃ j:Nat,j ≤ 16∧i = .int .i64 j∧Chg R0 w W∧Has W n1 0 (fl u)∧Has W (n1 + 1) 0 (fl v)∧Room W (n1 + 2) 0 16∧Has W k6 0 (fl f2)∧Has W n3 0 (fl f3)∧Has W n4 0 (lst (shF m j))) (fun i _=>16 - (intOf i).toNat)
    case atStart=>exact ⟨0,by omega,rfl,C,H1,H2,H3,H10,H16,HB⟩
    case round =>
     clear C H1 H2 H3 H10 H16 HB
     obtain ⟨j,hj,rfl,C,H1,H2,H3,H10,H16,HB⟩:=hrel
     by_cases hjt:j < 16
     ·have cA:=HB.cellN (i:=j) hjt
      rw [Nat.zero_add,shF_at] at cA
      have dA:=dig_lt m j
      have hw:=half_word m j
      have k1:(j:Int) < 16:=by omega
      obtain ⟨x,qx⟩:∃ x,dig m j = x:=⟨_,rfl⟩
      rw [qx] at cA dA hw
      by_cases h15:j < 15
      ·clear qx
       have k15:(j:Int) < 15:=by omega
       have cB:=HB.cellN (i:=j + 1) (by omega)
       rw [Nat.zero_add,shF_at1] at cB
       have dB:=dig_lt m (j + 1)
       obtain ⟨y,qy⟩:∃ y,dig m (j + 1) = y:=⟨_,rfl⟩
       rw [qy] at cB dB hw
       replace hw:=hd hw
       clear qy
       go_wp2_with fail
       refine wp_gen (fun W=>Chg R0 w W∧Has W n1 0 (fl u)∧Has W (n1 + 1) 0 (fl v)∧Room W (n1 + 2) 0 16∧Has W k6 0 (fl f2)∧Has W n3 0 (fl f3)∧Has W (n4) 0 ((lst (shF m j)).set j (.int .u32 (((x / 2:Nat)):Int)))∧W.cell? ⟨n4,j,none⟩ = some (.int .u32 ((x / 2:Nat):Int))∧W.frozen? ⟨n4,j,none⟩ = false∧W.cell? ⟨n4,j + 1,none⟩ = some (.int .u32 y)) ⟨C.setCell _ (fun h=>absurd h (Nat.not_lt.2 (by omega))),H1.off _ (fun e=>by omega),H2.off _ (fun e=>by omega),(Chg.set1 _ _ _ _).room H3,H10.off _ (fun e=>by omega),H16.off _ (fun e=>by omega),HB.set j (by omega) _,setCell_same cA.1,(by rw [frozen_setCell];exact cA.2),((Chg.set1 _ _ _ _).cell (lt_of_cell cB.1) (by rintro ⟨-,e⟩;omega)).trans cB.1⟩ ?_
       clear C H1 H2 H3 H10 H16 HB cA cB
       rintro W ⟨C,H1,H2,H3,H10,H16,HB,cA,fA,cB⟩
       have k88:((j:Int) + 1).toNat = j + 1:=by omega
       have k8':(j:Int) + 1 < 16:=by omega
       have k80:0 ≤ (j:Int) + 1:=by omega
       have wj:IntKind.i64.wrap (j:Int) = j:=i64_word _ (by omega)
       have wj8:IntKind.i64.wrap ((j:Int) + 1) = (j:Int) + 1:=i64_word _ (by omega)
       go_still_tail 10,(by kernel_rfl)
       go_wp2_with fail
       rw [or_half dA hw.out]
       have h2:=HB.set j (by omega:j = 0 + j) (.int .u32 ((dig (m / 2) j:Nat):Int))
       rw [shF_set m j rfl] at h2
       exact ⟨⟨j + 1,by omega,by push_cast;rfl,(C.setCell _ (fun h=>absurd h (Nat.not_lt.2 (by omega)))).drew,H1.off _ (fun e=>by omega),H2.off _ (fun e=>by omega),(Chg.set1 _ _ _ _).room H3,H10.off _ (fun e=>by omega),H16.off _ (fun e=>by omega),h2⟩,by simp [intOf];try omega⟩
      ·obtain rfl:j = 15:=by omega
       have hl:=hd (half_last hm.out qx)
       clear qx hw
       have k15:¬ ((15:Nat):Int) < 15:=by omega
       go_wp2_with fail
       have h2:=HB.set 15 (by omega:15 = 0 + 15) (.int .u32 (((x / 2:Nat)):Int))
       rw [shF_set1 m 15 hl.out] at h2
       exact ⟨⟨16,by omega,rfl,C.setCell _ (fun h=>absurd h (Nat.not_lt.2 (by omega))),H1.off _ (fun e=>by omega),H2.off _ (fun e=>by omega),(Chg.set1 _ _ _ _).room H3,H10.off _ (fun e=>by omega),H16.off _ (fun e=>by omega),h2⟩,by simp [intOf]⟩
     ·obtain rfl:j = 16:=by omega
      rw [shF_end,←hs.out] at HB
      go_wp2_with fail
      exact ⟨⟨t + 1,by omega,by push_cast;rfl,C,H1,H2,H3,H10,H16,HB⟩,by simp [intOf];try omega⟩
   ·obtain rfl:t = 3:=by omega
    have he:=hd (show hlf f4 3 = E3 by rw [qf4.out,hlf_three];decide +kernel)
    rw [he.out] at HB
    rw [show f3 = spI by rw [spI_eq,qf3.out]] at H16
    repeat ((fail_if_success with_reducible refine sl 25 ?_);first | go_step | dsimp only)
    refine wL (b:=n1) (o:=0) rfl H1 (fL _) agg25 size25 ?_
    simp only [Act.put,iA,iB,iC]
    repeat ((fail_if_success show wpList _ _ _ (⟨_,.binOp _ _ _ _ _,_,_,_,_⟩ :: _) _ _);(first | go_step | dsimp only))
    refine wpList_blind rfl (blind_eql (u:=u) (v:=0) rfl (show _ = Value.agg (fl 0).toArray from congrArg (fun l:List Value=>Value.agg l.toArray) z0_fl)) ?_
    simp only [Act.put,iA,iB,iC]
    by_cases hu:u = 0
    ·rw [eq_t hu]
     replace hu:=hd hu
     repeat ((fail_if_success with_reducible refine ss 25 ?_);first | go_step | dsimp only)
     refine wS (b:=n1 + 2) (o:=0) (vs:=z0) rfl rfl H3 z0_length z0_one size25 ?_
     simp only [Act.put]
     have hc:Chg (Rg (n1 + 2) 0 16) wr (World.setCells wr (n1 + 2) 0 z0):=by have:=putL_chg (w:=wr) (b:=n1 + 2) (o:=0) (vs:=z0);rwa [show (z0).length = 16 from z0_length] at this
     have H24:=putL_has (w:=wr) (b:=n1 + 2) (o:=0) (vs:=z0) (by rw [show (z0).length = 16 from z0_length];exact H3)
     replace C:=C.loc hc (by omega)
     replace H1:=H1.keep hc oa
     replace H2:=H2.keep hc oa
     clear H3
     replace H10:=H10.keep hc oa
     replace H16:=H16.keep hc oa
     replace HB:=HB.keep hc oa
     clear hc
     refine pG (fun W=>Chg R0 w W∧Has W n1 0 (fl u)∧Has W (n1 + 1) 0 (fl v)∧Has W k6 0 (fl f2)∧Has W n3 0 (fl spI)∧Has W n4 0 (nl E3)∧Has W (n1 + 2) 0 z0) ⟨C,H1,H2,H10,H16,HB,H24⟩ ?_
     clear C H1 H2 H10 H16 HB H24
     rintro W ⟨C,H1,H2,H10,H16,HB,H24⟩
     go_wp2_with fail
     have hr:=h.out
     rw [spRt_0 hu.out,Prod.mk.injEq] at hr
     obtain ⟨e1,e2⟩:=hr
     exact ret_cell2 (b:=n1 + 2) (o:=0) Tryz.results37 rfl rfl H24 z0_length agg25 size25 rfl ⟨by rw [←e1,←e2,←z0_fl];rfl,C.r0⟩
    ·rw [eq_n hu]
     replace hu:=hd hu
     repeat ((fail_if_success with_reducible refine sl 25 ?_);first | go_step | dsimp only)
     refine wL (b:=n1 + 1) (o:=0) rfl H2 (fL _) agg25 size25 ?_
     simp only [Act.put,iA,iB,iC]
     repeat ((fail_if_success show wpList _ _ _ (⟨_,.binOp _ _ _ _ _,_,_,_,_⟩ :: _) _ _);(first | go_step | dsimp only))
     refine wpList_blind rfl (blind_eql (u:=v) (v:=0) rfl (show _ = Value.agg (fl 0).toArray from congrArg (fun l:List Value=>Value.agg l.toArray) z0_fl)) ?_
     simp only [Act.put,iA,iB,iC]
     rw [eq_n hv.out]
     repeat ((fail_if_success with_reducible refine sl 25 ?_);first | go_step | dsimp only)
     refine wL (b:=k6) (o:=0) rfl H10 (fL _) agg25 size25 ?_
     simp only [Act.put,iA,iB,iC]
     obtain ⟨f5,qf5⟩:∃ g:F,g = rtF f2:=⟨_,rfl⟩
     replace qf5:=hd qf5
     obtain ⟨f6,qf6⟩:∃ g:Bool,g = decide (f5 * f5 = f2):=⟨_,rfl⟩
     replace qf6:=hd qf6
     go_wp2_with fail
     refine (ratio1_v qf5 qf6 HB H16).mono ?_
     rintro e W ⟨rfl,hb⟩
     replace C:=C.trans (Chg.of_below hb)
     replace H1:=H1.later hb
     replace H2:=H2.later hb
     replace H3:=H3.later hb
     replace H10:=H10.later hb
     replace H16:=H16.later hb
     replace HB:=HB.later hb
     clear hb
     repeat ((fail_if_success with_reducible refine ss 25 ?_);first | go_step | dsimp only)
     obtain ⟨n5,ln5⟩:∃ n,W.heap.size = n:=⟨_,rfl⟩
     rw [ln5]
     have hb:=aB [Obj.cells (List.replicate 16 (.int .u32 0)).toArray 25] W
     have zn5:w.heap.size ≤ n5:=ln5 ▸ C.size
     have y24:n1 < n5:=ln5 ▸ H1.lt (by rw [fL];decide)
     have y25:n1 + 1 < n5:=ln5 ▸ H2.lt (by rw [fL];decide)
     have y26:n1 + 2 < n5:=ln5 ▸ H3.lt (by decide)
     have y27:k6 < n5:=ln5 ▸ H10.lt (by rw [fL];decide)
     have y28:n3 < n5:=ln5 ▸ H16.lt (by rw [fL];decide)
     have y29:n4 < n5:=ln5 ▸ HB.lt (by rw [nL];decide)
     replace C:=C.trans (Chg.of_below hb)
     replace H1:=H1.later hb
     replace H2:=H2.later hb
     replace H3:=H3.later hb
     replace H10:=H10.later hb
     replace H16:=H16.later hb
     replace HB:=HB.later hb
     have H30:=(aH [Obj.cells (List.replicate 16 (.int .u32 0)).toArray 25] W 0 _ _ rfl).room (n:=16) rfl
     rw [ln5] at H30
     simp only [Nat.add_zero] at H30
     refine pG (fun W=>Chg R0 w W∧Has W n1 0 (fl u)∧Has W (n1 + 1) 0 (fl v)∧Room W (n1 + 2) 0 16∧Has W k6 0 (fl f2)∧Has W n3 0 (fl spI)∧Has W n4 0 (nl E3)∧Room W n5 0 16) ⟨C,H1,H2,H3,H10,H16,HB,H30⟩ ?_
     clear C H1 H2 H3 H10 H16 HB H30 hb ln5
     rintro W ⟨C,H1,H2,H3,H10,H16,HB,H30⟩
     refine wS (b:=n5) (o:=0) (vs:=fl f5) rfl rfl H30 (fL _) (fl_one _) size25 ?_
     simp only [Act.put]
     have hc:Chg (Rg n5 0 16) W (World.setCells W n5 0 (fl f5)):=by have:=putL_chg (w:=W) (b:=n5) (o:=0) (vs:=fl f5);rwa [show (fl f5).length = 16 from (fL _)] at this
     have H31:=putL_has (w:=W) (b:=n5) (o:=0) (vs:=fl f5) (by rw [show (fl f5).length = 16 from (fL _)];exact H30)
     replace C:=C.loc hc (by omega)
     replace H1:=H1.keep hc oa
     replace H2:=H2.keep hc oa
     replace H3:=hc.room H3
     replace H10:=H10.keep hc oa
     replace H16:=H16.keep hc oa
     replace HB:=HB.keep hc oa
     clear H30
     clear hc
     refine pG (fun W=>Chg R0 w W∧Has W n1 0 (fl u)∧Has W (n1 + 1) 0 (fl v)∧Room W (n1 + 2) 0 16∧Has W k6 0 (fl f2)∧Has W n3 0 (fl spI)∧Has W n4 0 (nl E3)∧Has W n5 0 (fl f5)) ⟨C,H1,H2,H3,H10,H16,HB,H31⟩ ?_
     clear C H1 H2 H3 H10 H16 HB H31
     rintro W ⟨C,H1,H2,H3,H10,H16,HB,H31⟩
     by_cases hc:f5 * f5 = f2
     ·rw [show f6 = true by rw [qf6.out,eq_t hc]]
      replace hc:=hd hc
      repeat ((fail_if_success with_reducible refine sl 25 ?_);first | go_step | dsimp only)
      refine wL (b:=n5) (o:=0) rfl H31 (fL _) agg25 size25 ?_
      simp only [Act.put,iA,iB,iC]
      repeat ((fail_if_success with_reducible refine ss 25 ?_);first | go_step | dsimp only)
      refine wS (b:=n1 + 2) (o:=0) (vs:=fl f5) rfl rfl H3 (fL _) (fl_one _) size25 ?_
      simp only [Act.put]
      have hc:Chg (Rg (n1 + 2) 0 16) W (World.setCells W (n1 + 2) 0 (fl f5)):=by have:=putL_chg (w:=W) (b:=n1 + 2) (o:=0) (vs:=fl f5);rwa [show (fl f5).length = 16 from (fL _)] at this
      have H32:=putL_has (w:=W) (b:=n1 + 2) (o:=0) (vs:=fl f5) (by rw [show (fl f5).length = 16 from (fL _)];exact H3)
      replace C:=C.loc hc (by omega)
      replace H1:=H1.keep hc oa
      replace H2:=H2.keep hc oa
      clear H3
      replace H10:=H10.keep hc oa
      replace H16:=H16.keep hc oa
      replace HB:=HB.keep hc oa
      replace H31:=H31.keep hc oa
      clear hc
      refine pG (fun W=>Chg R0 w W∧Has W n1 0 (fl u)∧Has W (n1 + 1) 0 (fl v)∧Has W k6 0 (fl f2)∧Has W n3 0 (fl spI)∧Has W n4 0 (nl E3)∧Has W n5 0 (fl f5)∧Has W (n1 + 2) 0 (fl f5)) ⟨C,H1,H2,H10,H16,HB,H31,H32⟩ ?_
      clear C H1 H2 H10 H16 HB H31 H32
      rintro W ⟨C,H1,H2,H10,H16,HB,H31,H32⟩
      go_wp2_with fail
      have hr:=h.out
      rw [spRt_1 hu.out (by rw [qf2.out,qf1.out]) qf5.out hc.out,Prod.mk.injEq] at hr
      obtain ⟨e1,e2⟩:=hr
      exact ret_cell2 (b:=n1 + 2) (o:=0) Tryz.results37 rfl rfl H32 (fL _) agg25 size25 rfl ⟨by rw [←e1,←e2];rfl,C.r0⟩
     ·rw [show f6 = false by rw [qf6.out,eq_n hc]]
      replace hc:=hd hc
      repeat ((fail_if_success with_reducible refine sl 25 ?_);first | go_step | dsimp only)
      refine wL (b:=k6) (o:=0) rfl H10 (fL _) agg25 size25 ?_
      simp only [Act.put,iA,iB,iC]
      repeat ((fail_if_success with_reducible refine sl 25 ?_);first | go_step | dsimp only)
      refine wL (b:=n3) (o:=0) rfl H16 (fL _) agg25 size25 ?_
      simp only [Act.put,iA,iB,iC]
      obtain ⟨f7,qf7⟩:∃ g:F,g = f2 * spI:=⟨_,rfl⟩
      replace qf7:=hd qf7
      go_wp2_with fail
      refine (mul_v qf7).mono ?_
      rintro e W ⟨rfl,hb⟩
      replace C:=C.trans (Chg.of_below hb)
      replace H1:=H1.later hb
      replace H2:=H2.later hb
      replace H3:=H3.later hb
      replace H10:=H10.later hb
      replace H16:=H16.later hb
      replace HB:=HB.later hb
      replace H31:=H31.later hb
      clear hb
      obtain ⟨f8,qf8⟩:∃ g:F,g = rtF f7:=⟨_,rfl⟩
      replace qf8:=hd qf8
      obtain ⟨f9,qf9⟩:∃ g:Bool,g = decide (f8 * f8 = f7):=⟨_,rfl⟩
      replace qf9:=hd qf9
      go_wp2_with fail
      refine (ratio1_v qf8 qf9 HB H16).mono ?_
      rintro e W ⟨rfl,hb⟩
      replace C:=C.trans (Chg.of_below hb)
      replace H1:=H1.later hb
      replace H2:=H2.later hb
      replace H3:=H3.later hb
      replace H10:=H10.later hb
      replace H16:=H16.later hb
      replace HB:=HB.later hb
      replace H31:=H31.later hb
      clear hb
      repeat ((fail_if_success with_reducible refine ss 25 ?_);first | go_step | dsimp only)
      obtain ⟨n6,ln6⟩:∃ n,W.heap.size = n:=⟨_,rfl⟩
      rw [ln6]
      have hb:=aB [Obj.cells (List.replicate 16 (.int .u32 0)).toArray 25] W
      have zn6:w.heap.size ≤ n6:=ln6 ▸ C.size
      have y32:n1 < n6:=ln6 ▸ H1.lt (by rw [fL];decide)
      have y33:n1 + 1 < n6:=ln6 ▸ H2.lt (by rw [fL];decide)
      have y34:n1 + 2 < n6:=ln6 ▸ H3.lt (by decide)
      have y35:k6 < n6:=ln6 ▸ H10.lt (by rw [fL];decide)
      have y36:n3 < n6:=ln6 ▸ H16.lt (by rw [fL];decide)
      have y37:n4 < n6:=ln6 ▸ HB.lt (by rw [nL];decide)
      have y38:n5 < n6:=ln6 ▸ H31.lt (by rw [fL];decide)
      replace C:=C.trans (Chg.of_below hb)
      replace H1:=H1.later hb
      replace H2:=H2.later hb
      replace H3:=H3.later hb
      replace H10:=H10.later hb
      replace H16:=H16.later hb
      replace HB:=HB.later hb
      replace H31:=H31.later hb
      have H39:=(aH [Obj.cells (List.replicate 16 (.int .u32 0)).toArray 25] W 0 _ _ rfl).room (n:=16) rfl
      rw [ln6] at H39
      simp only [Nat.add_zero] at H39
      refine pG (fun W=>Chg R0 w W∧Has W n1 0 (fl u)∧Has W (n1 + 1) 0 (fl v)∧Room W (n1 + 2) 0 16∧Has W k6 0 (fl f2)∧Has W n3 0 (fl spI)∧Has W n4 0 (nl E3)∧Has W n5 0 (fl f5)∧Room W n6 0 16) ⟨C,H1,H2,H3,H10,H16,HB,H31,H39⟩ ?_
      clear C H1 H2 H3 H10 H16 HB H31 H39 hb ln6
      rintro W ⟨C,H1,H2,H3,H10,H16,HB,H31,H39⟩
      refine wS (b:=n6) (o:=0) (vs:=fl f8) rfl rfl H39 (fL _) (fl_one _) size25 ?_
      simp only [Act.put]
      have hc:Chg (Rg n6 0 16) W (World.setCells W n6 0 (fl f8)):=by have:=putL_chg (w:=W) (b:=n6) (o:=0) (vs:=fl f8);rwa [show (fl f8).length = 16 from (fL _)] at this
      have H40:=putL_has (w:=W) (b:=n6) (o:=0) (vs:=fl f8) (by rw [show (fl f8).length = 16 from (fL _)];exact H39)
      replace C:=C.loc hc (by omega)
      replace H1:=H1.keep hc oa
      replace H2:=H2.keep hc oa
      replace H3:=hc.room H3
      replace H10:=H10.keep hc oa
      replace H16:=H16.keep hc oa
      replace HB:=HB.keep hc oa
      replace H31:=H31.keep hc oa
      clear H39
      clear hc
      refine pG (fun W=>Chg R0 w W∧Has W n1 0 (fl u)∧Has W (n1 + 1) 0 (fl v)∧Room W (n1 + 2) 0 16∧Has W k6 0 (fl f2)∧Has W n3 0 (fl spI)∧Has W n4 0 (nl E3)∧Has W n5 0 (fl f5)∧Has W n6 0 (fl f8)) ⟨C,H1,H2,H3,H10,H16,HB,H31,H40⟩ ?_
      clear C H1 H2 H3 H10 H16 HB H31 H40
      rintro W ⟨C,H1,H2,H3,H10,H16,HB,H31,H40⟩
      repeat ((fail_if_success with_reducible refine sl 25 ?_);first | go_step | dsimp only)
      refine wL (b:=n6) (o:=0) rfl H40 (fL _) agg25 size25 ?_
      simp only [Act.put,iA,iB,iC]
      repeat ((fail_if_success with_reducible refine ss 25 ?_);first | go_step | dsimp only)
      refine wS (b:=n1 + 2) (o:=0) (vs:=fl f8) rfl rfl H3 (fL _) (fl_one _) size25 ?_
      simp only [Act.put]
      have hc:Chg (Rg (n1 + 2) 0 16) W (World.setCells W (n1 + 2) 0 (fl f8)):=by have:=putL_chg (w:=W) (b:=n1 + 2) (o:=0) (vs:=fl f8);rwa [show (fl f8).length = 16 from (fL _)] at this
      have H41:=putL_has (w:=W) (b:=n1 + 2) (o:=0) (vs:=fl f8) (by rw [show (fl f8).length = 16 from (fL _)];exact H3)
      replace C:=C.loc hc (by omega)
      replace H1:=H1.keep hc oa
      replace H2:=H2.keep hc oa
      clear H3
      replace H10:=H10.keep hc oa
      replace H16:=H16.keep hc oa
      replace HB:=HB.keep hc oa
      replace H31:=H31.keep hc oa
      replace H40:=H40.keep hc oa
      clear hc
      refine pG (fun W=>Chg R0 w W∧Has W n1 0 (fl u)∧Has W (n1 + 1) 0 (fl v)∧Has W k6 0 (fl f2)∧Has W n3 0 (fl spI)∧Has W n4 0 (nl E3)∧Has W n5 0 (fl f5)∧Has W n6 0 (fl f8)∧Has W (n1 + 2) 0 (fl f8)) ⟨C,H1,H2,H10,H16,HB,H31,H40,H41⟩ ?_
      clear C H1 H2 H10 H16 HB H31 H40 H41
      rintro W ⟨C,H1,H2,H10,H16,HB,H31,H40,H41⟩
      go_wp2_with fail
      have hr:=h.out
      rw [spRt_2 hu.out (by rw [qf2.out,qf1.out]) qf5.out hc.out qf7.out qf8.out,Prod.mk.injEq] at hr
      obtain ⟨e1,e2⟩:=hr
      exact ret_cell2 (b:=n1 + 2) (o:=0) Tryz.results37 rfl rfl H41 (fL _) agg25 size25 rfl ⟨by rw [←e1,←e2];rfl,C.r0⟩
end Go.Proofs.Ed
