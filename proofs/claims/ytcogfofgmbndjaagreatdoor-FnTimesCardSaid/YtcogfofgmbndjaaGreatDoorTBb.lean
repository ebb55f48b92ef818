/- A part of the proof of the tied card of FnTimes: Vp. -/
import Derived.Test.YtcogfofgmbndjaaGreatDoorProg
import Derived.WalkKit
import Derived.WalkSpells
import Derived.WalkLawsBesides
import Derived.Outline
import Derived.StillTailTactics
import Derived.Test.YtcogfofgmbndjaaGreatDoorTAy
set_option maxRecDepth 100000
set_option maxHeartbeats 40000000
namespace Go.Proofs.Ed
open Go.RowKit
def plX (X Y Z A B C:F):F:=((Z * C) * ((Z * C) * (Z * C) - cd * ((X * A) * (Y * B)))) * ((X + Y) * (A + B) - X * A - Y * B)
def plY (X Y Z A B C:F):F:=((Z * C) * ((Z * C) * (Z * C) + cd * ((X * A) * (Y * B)))) * (X * A + Y * B)
def plZ (X Y Z A B C:F):F:=((Z * C) * (Z * C) - cd * ((X * A) * (Y * B))) * ((Z * C) * (Z * C) + cd * ((X * A) * (Y * B)))
theorem Pj.pl {X Y Z A B C:F} {p q:Pt} (h:Pj X Y Z p) (k:Pj A B C q):Pj (plX X Y Z A B C) (plY X Y Z A B C) (plZ X Y Z A B C) (p + q):=h.plus k
theorem cplus_v {X Y Z A B D x y z:F} {w:World} (hx:Hd (x = plX X Y Z A B D)) (hy:Hd (y = plY X Y Z A B D)) (hz:Hd (z = plZ X Y Z A B D)):Calls Tryz.prog 12 #[.agg (fl cd).toArray,.agg ((fl X ++ (fl Y ++ fl Z))).toArray,.agg ((fl A ++ (fl B ++ fl D))).toArray] w (fun e w'=>e = .returned (.agg (fl x ++ (fl y ++ fl z)).toArray)∧Below w.heap.size w w'):=by
 have C:Chg R0 w w:=.refl _ _
 go_enter Tryz.func12,Tryz.ntmps12
 repeat ((fail_if_success with_reducible refine sl 25 ?_);first | go_step | dsimp only)
 obtain ⟨n1,ln1⟩:∃ n,w.heap.size = n:=⟨_,rfl⟩
 rw [ln1]
 have hb:=aB [Obj.cells (fl cd).toArray 27,Obj.cells ((fl X ++ (fl Y ++ fl Z))).toArray 30,Obj.cells ((fl A ++ (fl B ++ fl D))).toArray 30,Obj.cells (List.replicate 48 (.int .u32 0)).toArray 30] w
 have zn1:w.heap.size ≤ n1:=ln1 ▸ C.size
 replace C:=C.trans (Chg.of_below hb)
 have H1:=aH [Obj.cells (fl cd).toArray 27,Obj.cells ((fl X ++ (fl Y ++ fl Z))).toArray 30,Obj.cells ((fl A ++ (fl B ++ fl D))).toArray 30,Obj.cells (List.replicate 48 (.int .u32 0)).toArray 30] w 0 _ _ rfl
 rw [ln1] at H1
 simp only [Nat.add_zero] at H1
 have H2:=aH [Obj.cells (fl cd).toArray 27,Obj.cells ((fl X ++ (fl Y ++ fl Z))).toArray 30,Obj.cells ((fl A ++ (fl B ++ fl D))).toArray 30,Obj.cells (List.replicate 48 (.int .u32 0)).toArray 30] w 1 _ _ rfl
 rw [ln1] at H2
 obtain ⟨H3,H4,H5⟩:=part48 (fL _) (fL _) H2
 clear H2
 have H6:=aH [Obj.cells (fl cd).toArray 27,Obj.cells ((fl X ++ (fl Y ++ fl Z))).toArray 30,Obj.cells ((fl A ++ (fl B ++ fl D))).toArray 30,Obj.cells (List.replicate 48 (.int .u32 0)).toArray 30] w 2 _ _ rfl
 rw [ln1] at H6
 obtain ⟨H7,H8,H9⟩:=part48 (fL _) (fL _) H6
 clear H6
 have H10:=(aH [Obj.cells (fl cd).toArray 27,Obj.cells ((fl X ++ (fl Y ++ fl Z))).toArray 30,Obj.cells ((fl A ++ (fl B ++ fl D))).toArray 30,Obj.cells (List.replicate 48 (.int .u32 0)).toArray 30] w 3 _ _ rfl).room (n:=48) rfl
 rw [ln1] at H10
 refine pG (fun W=>Chg R0 w W∧Has W n1 0 (fl cd)∧Has W (n1 + 1) 0 (fl X)∧Has W (n1 + 1) 16 (fl Y)∧Has W (n1 + 1) 32 (fl Z)∧Has W (n1 + 2) 0 (fl A)∧Has W (n1 + 2) 16 (fl B)∧Has W (n1 + 2) 32 (fl D)∧Room W (n1 + 3) 0 48) ⟨C,H1,H3,H4,H5,H7,H8,H9,H10⟩ ?_
 clear C H1 H3 H4 H5 H7 H8 H9 H10 hb ln1
 rintro W ⟨C,H1,H3,H4,H5,H7,H8,H9,H10⟩
 refine wL (b:=n1 + 1) (o:=32) rfl H5 (fL _) agg25 size25 ?_
 simp only [Act.put,iA,iB,iC]
 repeat ((fail_if_success with_reducible refine sl 25 ?_);first | go_step | dsimp only)
 refine wL (b:=n1 + 2) (o:=32) rfl H9 (fL _) agg25 size25 ?_
 simp only [Act.put,iA,iB,iC]
 obtain ⟨f1,qf1⟩:∃ g:F,g = Z * D:=⟨_,rfl⟩
 replace qf1:=hd qf1
 go_wp2_with fail
 refine (mul_v qf1).mono ?_
 rintro e W ⟨rfl,hb⟩
 replace C:=C.trans (Chg.of_below hb)
 replace H1:=H1.later hb
 replace H3:=H3.later hb
 replace H4:=H4.later hb
 replace H5:=H5.later hb
 replace H7:=H7.later hb
 replace H8:=H8.later hb
 replace H9:=H9.later hb
 replace H10:=H10.later hb
 clear hb
 repeat ((fail_if_success with_reducible refine ss 25 ?_);first | go_step | dsimp only)
 obtain ⟨n2,ln2⟩:∃ n,W.heap.size = n:=⟨_,rfl⟩
 rw [ln2]
 have hb:=aB [Obj.cells (List.replicate 16 (.int .u32 0)).toArray 25] W
 have zn2:w.heap.size ≤ n2:=ln2 ▸ C.size
 have y11:n1 < n2:=ln2 ▸ H1.lt (by rw [fL];decide)
 have y12:n1 + 1 < n2:=ln2 ▸ H3.lt (by rw [fL];decide)
 have y13:n1 + 2 < n2:=ln2 ▸ H7.lt (by rw [fL];decide)
 have y14:n1 + 3 < n2:=ln2 ▸ H10.lt (by decide)
 replace C:=C.trans (Chg.of_below hb)
 replace H1:=H1.later hb
 replace H3:=H3.later hb
 replace H4:=H4.later hb
 replace H5:=H5.later hb
 replace H7:=H7.later hb
 replace H8:=H8.later hb
 replace H9:=H9.later hb
 replace H10:=H10.later hb
 have H15:=(aH [Obj.cells (List.replicate 16 (.int .u32 0)).toArray 25] W 0 _ _ rfl).room (n:=16) rfl
 rw [ln2] at H15
 simp only [Nat.add_zero] at H15
 refine pG (fun W=>Chg R0 w W∧Has W n1 0 (fl cd)∧Has W (n1 + 1) 0 (fl X)∧Has W (n1 + 1) 16 (fl Y)∧Has W (n1 + 1) 32 (fl Z)∧Has W (n1 + 2) 0 (fl A)∧Has W (n1 + 2) 16 (fl B)∧Has W (n1 + 2) 32 (fl D)∧Room W (n1 + 3) 0 48∧Room W n2 0 16) ⟨C,H1,H3,H4,H5,H7,H8,H9,H10,H15⟩ ?_
 clear C H1 H3 H4 H5 H7 H8 H9 H10 H15 hb ln2
 rintro W ⟨C,H1,H3,H4,H5,H7,H8,H9,H10,H15⟩
 refine wS (b:=n2) (o:=0) (vs:=fl f1) rfl rfl H15 (fL _) (fl_one _) size25 ?_
 simp only [Act.put]
 have hc:Chg (Rg n2 0 16) W (World.setCells W n2 0 (fl f1)):=by have:=putL_chg (w:=W) (b:=n2) (o:=0) (vs:=fl f1);rwa [show (fl f1).length = 16 from (fL _)] at this
 have H16:=putL_has (w:=W) (b:=n2) (o:=0) (vs:=fl f1) (by rw [show (fl f1).length = 16 from (fL _)];exact H15)
 replace C:=C.loc hc (by omega)
 replace H1:=H1.keep hc oa
 replace H3:=H3.keep hc oa
 replace H4:=H4.keep hc oa
 replace H5:=H5.keep hc oa
 replace H7:=H7.keep hc oa
 replace H8:=H8.keep hc oa
 replace H9:=H9.keep hc oa
 replace H10:=hc.room H10
 clear H15
 clear hc
 refine pG (fun W=>Chg R0 w W∧Has W n1 0 (fl cd)∧Has W (n1 + 1) 0 (fl X)∧Has W (n1 + 1) 16 (fl Y)∧Has W (n1 + 1) 32 (fl Z)∧Has W (n1 + 2) 0 (fl A)∧Has W (n1 + 2) 16 (fl B)∧Has W (n1 + 2) 32 (fl D)∧Room W (n1 + 3) 0 48∧Has W n2 0 (fl f1)) ⟨C,H1,H3,H4,H5,H7,H8,H9,H10,H16⟩ ?_
 clear C H1 H3 H4 H5 H7 H8 H9 H10 H16
 rintro W ⟨C,H1,H3,H4,H5,H7,H8,H9,H10,H16⟩
 repeat ((fail_if_success with_reducible refine sl 25 ?_);first | go_step | dsimp only)
 refine wL (b:=n2) (o:=0) rfl H16 (fL _) agg25 size25 ?_
 simp only [Act.put,iA,iB,iC]
 repeat ((fail_if_success with_reducible refine sl 25 ?_);first | go_step | dsimp only)
 refine wL (b:=n2) (o:=0) rfl H16 (fL _) agg25 size25 ?_
 simp only [Act.put,iA,iB,iC]
 obtain ⟨f2,qf2⟩:∃ g:F,g = f1 * f1:=⟨_,rfl⟩
 replace qf2:=hd qf2
 go_wp2_with fail
 refine (mul_v qf2).mono ?_
 rintro e W ⟨rfl,hb⟩
 replace C:=C.trans (Chg.of_below hb)
 replace H1:=H1.later hb
 replace H3:=H3.later hb
 replace H4:=H4.later hb
 replace H5:=H5.later hb
 replace H7:=H7.later hb
 replace H8:=H8.later hb
 replace H9:=H9.later hb
 replace H10:=H10.later hb
 replace H16:=H16.later hb
 clear hb
 repeat ((fail_if_success with_reducible refine ss 25 ?_);first | go_step | dsimp only)
 obtain ⟨n3,ln3⟩:∃ n,W.heap.size = n:=⟨_,rfl⟩
 rw [ln3]
 have hb:=aB [Obj.cells (List.replicate 16 (.int .u32 0)).toArray 25] W
 have zn3:w.heap.size ≤ n3:=ln3 ▸ C.size
 have y17:n1 < n3:=ln3 ▸ H1.lt (by rw [fL];decide)
 have y18:n1 + 1 < n3:=ln3 ▸ H3.lt (by rw [fL];decide)
 have y19:n1 + 2 < n3:=ln3 ▸ H7.lt (by rw [fL];decide)
 have y20:n1 + 3 < n3:=ln3 ▸ H10.lt (by decide)
 have y21:n2 < n3:=ln3 ▸ H16.lt (by rw [fL];decide)
 replace C:=C.trans (Chg.of_below hb)
 replace H1:=H1.later hb
 replace H3:=H3.later hb
 replace H4:=H4.later hb
 replace H5:=H5.later hb
 replace H7:=H7.later hb
 replace H8:=H8.later hb
 replace H9:=H9.later hb
 replace H10:=H10.later hb
 replace H16:=H16.later hb
 have H22:=(aH [Obj.cells (List.replicate 16 (.int .u32 0)).toArray 25] W 0 _ _ rfl).room (n:=16) rfl
 rw [ln3] at H22
 simp only [Nat.add_zero] at H22
 refine pG (fun W=>Chg R0 w W∧Has W n1 0 (fl cd)∧Has W (n1 + 1) 0 (fl X)∧Has W (n1 + 1) 16 (fl Y)∧Has W (n1 + 1) 32 (fl Z)∧Has W (n1 + 2) 0 (fl A)∧Has W (n1 + 2) 16 (fl B)∧Has W (n1 + 2) 32 (fl D)∧Room W (n1 + 3) 0 48∧Has W n2 0 (fl f1)∧Room W n3 0 16) ⟨C,H1,H3,H4,H5,H7,H8,H9,H10,H16,H22⟩ ?_
 clear C H1 H3 H4 H5 H7 H8 H9 H10 H16 H22 hb ln3
 rintro W ⟨C,H1,H3,H4,H5,H7,H8,H9,H10,H16,H22⟩
 refine wS (b:=n3) (o:=0) (vs:=fl f2) rfl rfl H22 (fL _) (fl_one _) size25 ?_
 simp only [Act.put]
 have hc:Chg (Rg n3 0 16) W (World.setCells W n3 0 (fl f2)):=by have:=putL_chg (w:=W) (b:=n3) (o:=0) (vs:=fl f2);rwa [show (fl f2).length = 16 from (fL _)] at this
 have H23:=putL_has (w:=W) (b:=n3) (o:=0) (vs:=fl f2) (by rw [show (fl f2).length = 16 from (fL _)];exact H22)
 replace C:=C.loc hc (by omega)
 replace H1:=H1.keep hc oa
 replace H3:=H3.keep hc oa
 replace H4:=H4.keep hc oa
 replace H5:=H5.keep hc oa
 replace H7:=H7.keep hc oa
 replace H8:=H8.keep hc oa
 replace H9:=H9.keep hc oa
 replace H10:=hc.room H10
 replace H16:=H16.keep hc oa
 clear H22
 clear hc
 refine pG (fun W=>Chg R0 w W∧Has W n1 0 (fl cd)∧Has W (n1 + 1) 0 (fl X)∧Has W (n1 + 1) 16 (fl Y)∧Has W (n1 + 1) 32 (fl Z)∧Has W (n1 + 2) 0 (fl A)∧Has W (n1 + 2) 16 (fl B)∧Has W (n1 + 2) 32 (fl D)∧Room W (n1 + 3) 0 48∧Has W n2 0 (fl f1)∧Has W n3 0 (fl f2)) ⟨C,H1,H3,H4,H5,H7,H8,H9,H10,H16,H23⟩ ?_
 clear C H1 H3 H4 H5 H7 H8 H9 H10 H16 H23
 rintro W ⟨C,H1,H3,H4,H5,H7,H8,H9,H10,H16,H23⟩
 go_wp2_with fail
 obtain ⟨n4,ln4⟩:∃ n,W.heap.size = n:=⟨_,rfl⟩
 have zn4:w.heap.size ≤ n4:=ln4 ▸ C.size
 have y24:n1 < n4:=ln4 ▸ H1.lt (by rw [fL];decide)
 have y25:n1 + 1 < n4:=ln4 ▸ H3.lt (by rw [fL];decide)
 have y26:n1 + 2 < n4:=ln4 ▸ H7.lt (by rw [fL];decide)
 have y27:n1 + 3 < n4:=ln4 ▸ H10.lt (by decide)
 have y28:n2 < n4:=ln4 ▸ H16.lt (by rw [fL];decide)
 have y29:n3 < n4:=ln4 ▸ H23.lt (by rw [fL];decide)
 replace ln4:=hd ln4
 obtain ⟨f3,qf3⟩:∃ g:F,g = X * A:=⟨_,rfl⟩
 replace qf3:=hd qf3
 obtain ⟨f4,qf4⟩:∃ g:F,g = Y * B:=⟨_,rfl⟩
 replace qf4:=hd qf4
 refine region_fresh 12 [10,11] (by kernel_rfl) (by kernel_rfl) (by kernel_rfl)
  (fun i v W=>match i with
   | 0=>v = Ptr (n1 + 1) 0
   | 1=>v = .agg (fl X).toArray
   | 2=>v = Ptr (n1 + 2) 0
   | 3=>v = .agg (fl A).toArray
   | 4=>v = .agg (fl f3).toArray
   | 5=>v = Ptr (n1 + 1) 16
   | 6=>v = .agg (fl Y).toArray
   | 7=>v = Ptr (n1 + 2) 16
   | 8=>v = .agg (fl B).toArray
   | 9=>v = .agg (fl f4).toArray
   | 10=>∃ k,v = Ptr k 0∧n4 ≤ k∧Room W k 0 16
   | 11=>∃ k,v = Ptr k 0∧n4 ≤ k∧Room W k 0 16
   | _=>True) ?_ ?_ ?_
 ·intro i v u u' h hb
  split at h
  ·exact h
  ·exact h
  ·exact h
  ·exact h
  ·exact h
  ·exact h
  ·exact h
  ·exact h
  ·exact h
  ·exact h
  ·obtain ⟨k,h1,h2,h3⟩:=h;exact ⟨k,h1,h2,h3.later hb⟩
  ·obtain ⟨k,h1,h2,h3⟩:=h;exact ⟨k,h1,h2,h3.later hb⟩
  ·trivial
 ·simp only [List.take_succ_cons,List.take_zero,heads]
  refine ⟨?_,?_,?_,?_,?_,?_,?_,?_,?_,?_,?_,?_,trivial⟩
  ·intro a W1 hR hun hdep
   have t4:=hun 4 (by simp)
   simp at t4
   clear hun hdep
   go_simp
   exact Later.rfl' _
  ·intro a W1 hR hun hdep
   have d23:=hdep ⟨0,.data⟩ (by simp) rfl
   simp [slotOf] at d23
   clear hun hdep
   exact opw_load (b:=n1 + 1) (o:=0) (gd d23) (Has.later H3 hR.off) (fL _) agg25 size25 ⟨_,rfl,Later.rfl' _,rfl,(fun h=>absurd h (by decide))⟩
  ·intro a W1 hR hun hdep
   have t5:=hun 5 (by simp)
   simp at t5
   clear hun hdep
   go_simp
   exact Later.rfl' _
  ·intro a W1 hR hun hdep
   have d25:=hdep ⟨2,.data⟩ (by simp) rfl
   simp [slotOf] at d25
   clear hun hdep
   exact opw_load (b:=n1 + 2) (o:=0) (gd d25) (Has.later H7 hR.off) (fL _) agg25 size25 ⟨_,rfl,Later.rfl' _,rfl,(fun h=>absurd h (by decide))⟩
  ·intro a W1 hR hun hdep
   have d24:=hdep ⟨1,.data⟩ (by simp) rfl
   simp [slotOf] at d24
   have d26:=hdep ⟨3,.data⟩ (by simp) rfl
   simp [slotOf] at d26
   clear hun hdep
   go_simp
   refine (mul_v qf3).mono ?_
   rintro e W2 ⟨rfl,hb⟩
   first | exact hb | exact ⟨hb,rfl⟩ | exact ⟨rfl,hb⟩
  ·intro a W1 hR hun hdep
   have t4:=hun 4 (by simp)
   simp at t4
   clear hun hdep
   go_simp
   exact Later.rfl' _
  ·intro a W1 hR hun hdep
   have d28:=hdep ⟨5,.data⟩ (by simp) rfl
   simp [slotOf] at d28
   clear hun hdep
   exact opw_load (b:=n1 + 1) (o:=16) (gd d28) (Has.later H4 hR.off) (fL _) agg25 size25 ⟨_,rfl,Later.rfl' _,rfl,(fun h=>absurd h (by decide))⟩
  ·intro a W1 hR hun hdep
   have t5:=hun 5 (by simp)
   simp at t5
   clear hun hdep
   go_simp
   exact Later.rfl' _
  ·intro a W1 hR hun hdep
   have d30:=hdep ⟨7,.data⟩ (by simp) rfl
   simp [slotOf] at d30
   clear hun hdep
   exact opw_load (b:=n1 + 2) (o:=16) (gd d30) (Has.later H8 hR.off) (fL _) agg25 size25 ⟨_,rfl,Later.rfl' _,rfl,(fun h=>absurd h (by decide))⟩
  ·intro a W1 hR hun hdep
   have d29:=hdep ⟨6,.data⟩ (by simp) rfl
   simp [slotOf] at d29
   have d31:=hdep ⟨8,.data⟩ (by simp) rfl
   simp [slotOf] at d31
   clear hun hdep
   go_simp
   refine (mul_v qf4).mono ?_
   rintro e W2 ⟨rfl,hb⟩
   first | exact hb | exact ⟨hb,rfl⟩ | exact ⟨rfl,hb⟩
  ·intro a W1 hR hun hdep
   clear hun hdep
   have hle:n4 ≤ W1.heap.size:=ln4.out ▸ hR.off.size
   exact opw_alloc alloc25 ⟨_,rfl,bA _ _,⟨_,rfl,hle,(box_has W1 _ 25).room rfl⟩,fun _=>⟨rfl,by rw [size_alloc];omega,rfl⟩⟩
  ·intro a W1 hR hun hdep
   clear hun hdep
   have hle:n4 ≤ W1.heap.size:=ln4.out ▸ hR.off.size
   exact opw_alloc alloc25 ⟨_,rfl,bA _ _,⟨_,rfl,hle,(box_has W1 _ 25).room rfl⟩,fun _=>⟨rfl,by rw [size_alloc];omega,rfl⟩⟩
 ·intro vs W1 hR hv hfr
  simp only [List.take_succ_cons,List.take_zero,List.drop_succ_cons,List.drop_zero,heads,Option.isSome_some,if_true] at hv ⊢
  obtain ⟨v0,v1,v2,v3,v4,v5,v6,v7,v8,v9,v10,v11,-⟩:=hv
  obtain ⟨k9,v10,y31,H30⟩:=v10
  obtain ⟨k10,v11,y33,H32⟩:=v11
  have y34:k9 ≠ k10:=fun e=>hfr 10 11 (by decide) (by decide) (by decide) (by decide) (by decide) (by rw [v10,v11,e])
  simp only [finL,Act.put,v0,v1,v2,v3,v4,v5,v6,v7,v8,v9,v10,v11]
  simp only [iA,iB,iC]
  replace hR:=hR.off
  replace C:=C.trans (Chg.of_below hR)
  replace H1:=H1.later hR
  replace H3:=H3.later hR
  replace H4:=H4.later hR
  replace H5:=H5.later hR
  replace H7:=H7.later hR
  replace H8:=H8.later hR
  replace H9:=H9.later hR
  replace H10:=H10.later hR
  replace H16:=H16.later hR
  replace H23:=H23.later hR
  clear hR hfr v0 v1 v2 v3 v4 v5 v6 v7 v8 v9 v10 v11
  have z35:w.heap.size ≤ k9:=by omega
  have z36:w.heap.size ≤ k10:=by omega
  refine pG (fun W=>Chg R0 w W∧Has W n1 0 (fl cd)∧Has W (n1 + 1) 0 (fl X)∧Has W (n1 + 1) 16 (fl Y)∧Has W (n1 + 1) 32 (fl Z)∧Has W (n1 + 2) 0 (fl A)∧Has W (n1 + 2) 16 (fl B)∧Has W (n1 + 2) 32 (fl D)∧Room W (n1 + 3) 0 48∧Has W n2 0 (fl f1)∧Has W n3 0 (fl f2)∧Room W k9 0 16∧Room W k10 0 16) ⟨C,H1,H3,H4,H5,H7,H8,H9,H10,H16,H23,H30,H32⟩ ?_
  clear C H1 H3 H4 H5 H7 H8 H9 H10 H16 H23 H30 H32
  rintro W ⟨C,H1,H3,H4,H5,H7,H8,H9,H10,H16,H23,H30,H32⟩
  repeat ((fail_if_success with_reducible refine ss 25 ?_);first | go_step | dsimp only)
  refine wS (b:=k9) (o:=0) (vs:=fl f3) rfl rfl H30 (fL _) (fl_one _) size25 ?_
  simp only [Act.put]
  have hc:Chg (Rg k9 0 16) W (World.setCells W k9 0 (fl f3)):=by have:=putL_chg (w:=W) (b:=k9) (o:=0) (vs:=fl f3);rwa [show (fl f3).length = 16 from (fL _)] at this
  have H37:=putL_has (w:=W) (b:=k9) (o:=0) (vs:=fl f3) (by rw [show (fl f3).length = 16 from (fL _)];exact H30)
  replace C:=C.loc hc (by omega)
  replace H1:=H1.keep hc oa
  replace H3:=H3.keep hc oa
  replace H4:=H4.keep hc oa
  replace H5:=H5.keep hc oa
  replace H7:=H7.keep hc oa
  replace H8:=H8.keep hc oa
  replace H9:=H9.keep hc oa
  replace H10:=hc.room H10
  replace H16:=H16.keep hc oa
  replace H23:=H23.keep hc oa
  clear H30
  replace H32:=hc.room H32
  clear hc
  refine pG (fun W=>Chg R0 w W∧Has W n1 0 (fl cd)∧Has W (n1 + 1) 0 (fl X)∧Has W (n1 + 1) 16 (fl Y)∧Has W (n1 + 1) 32 (fl Z)∧Has W (n1 + 2) 0 (fl A)∧Has W (n1 + 2) 16 (fl B)∧Has W (n1 + 2) 32 (fl D)∧Room W (n1 + 3) 0 48∧Has W n2 0 (fl f1)∧Has W n3 0 (fl f2)∧Room W k10 0 16∧Has W k9 0 (fl f3)) ⟨C,H1,H3,H4,H5,H7,H8,H9,H10,H16,H23,H32,H37⟩ ?_
  clear C H1 H3 H4 H5 H7 H8 H9 H10 H16 H23 H32 H37
  rintro W ⟨C,H1,H3,H4,H5,H7,H8,H9,H10,H16,H23,H32,H37⟩
  repeat ((fail_if_success with_reducible refine ss 25 ?_);first | go_step | dsimp only)
  refine wS (b:=k10) (o:=0) (vs:=fl f4) rfl rfl H32 (fL _) (fl_one _) size25 ?_
  simp only [Act.put]
  have hc:Chg (Rg k10 0 16) W (World.setCells W k10 0 (fl f4)):=by have:=putL_chg (w:=W) (b:=k10) (o:=0) (vs:=fl f4);rwa [show (fl f4).length = 16 from (fL _)] at this
  have H38:=putL_has (w:=W) (b:=k10) (o:=0) (vs:=fl f4) (by rw [show (fl f4).length = 16 from (fL _)];exact H32)
  replace C:=C.loc hc (by omega)
  replace H1:=H1.keep hc oa
  replace H3:=H3.keep hc oa
  replace H4:=H4.keep hc oa
  replace H5:=H5.keep hc oa
  replace H7:=H7.keep hc oa
  replace H8:=H8.keep hc oa
  replace H9:=H9.keep hc oa
  replace H10:=hc.room H10
  replace H16:=H16.keep hc oa
  replace H23:=H23.keep hc oa
  clear H32
  replace H37:=H37.keep hc oa
  clear hc
  refine pG (fun W=>Chg R0 w W∧Has W n1 0 (fl cd)∧Has W (n1 + 1) 0 (fl X)∧Has W (n1 + 1) 16 (fl Y)∧Has W (n1 + 1) 32 (fl Z)∧Has W (n1 + 2) 0 (fl A)∧Has W (n1 + 2) 16 (fl B)∧Has W (n1 + 2) 32 (fl D)∧Room W (n1 + 3) 0 48∧Has W n2 0 (fl f1)∧Has W n3 0 (fl f2)∧Has W k9 0 (fl f3)∧Has W k10 0 (fl f4)) ⟨C,H1,H3,H4,H5,H7,H8,H9,H10,H16,H23,H37,H38⟩ ?_
  clear C H1 H3 H4 H5 H7 H8 H9 H10 H16 H23 H37 H38
  rintro W ⟨C,H1,H3,H4,H5,H7,H8,H9,H10,H16,H23,H37,H38⟩
  go_wp2_with fail
  obtain ⟨n5,ln5⟩:∃ n,W.heap.size = n:=⟨_,rfl⟩
  have zn5:w.heap.size ≤ n5:=ln5 ▸ C.size
  have y39:n1 < n5:=ln5 ▸ H1.lt (by rw [fL];decide)
  have y40:n1 + 1 < n5:=ln5 ▸ H3.lt (by rw [fL];decide)
  have y41:n1 + 2 < n5:=ln5 ▸ H7.lt (by rw [fL];decide)
  have y42:n1 + 3 < n5:=ln5 ▸ H10.lt (by decide)
  have y43:n2 < n5:=ln5 ▸ H16.lt (by rw [fL];decide)
  have y44:n3 < n5:=ln5 ▸ H23.lt (by rw [fL];decide)
  have y45:k9 < n5:=ln5 ▸ H37.lt (by rw [fL];decide)
  have y46:k10 < n5:=ln5 ▸ H38.lt (by rw [fL];decide)
  replace ln5:=hd ln5
  obtain ⟨f5,qf5⟩:∃ g:F,g = f3 * f4:=⟨_,rfl⟩
  replace qf5:=hd qf5
  obtain ⟨f6,qf6⟩:∃ g:F,g = cd * f5:=⟨_,rfl⟩
  replace qf6:=hd qf6
  refine region_fresh 7 [6] (by kernel_rfl) (by kernel_rfl) (by kernel_rfl)
   (fun i v W=>match i with
    | 0=>v = Ptr n1 0
    | 1=>v = .agg (fl cd).toArray
    | 2=>v = .agg (fl f3).toArray
    | 3=>v = .agg (fl f4).toArray
    | 4=>v = .agg (fl f5).toArray
    | 5=>v = .agg (fl f6).toArray
    | 6=>∃ k,v = Ptr k 0∧n5 ≤ k∧Room W k 0 16
    | _=>True) ?_ ?_ ?_
  ·intro i v u u' h hb
   split at h
   ·exact h
   ·exact h
   ·exact h
   ·exact h
   ·exact h
   ·exact h
   ·obtain ⟨k,h1,h2,h3⟩:=h;exact ⟨k,h1,h2,h3.later hb⟩
   ·trivial
  ·simp only [List.take_succ_cons,List.take_zero,heads]
   refine ⟨?_,?_,?_,?_,?_,?_,?_,trivial⟩
   ·intro a W1 hR hun hdep
    have t3:=hun 3 (by simp)
    simp at t3
    clear hun hdep
    go_simp
    exact Later.rfl' _
   ·intro a W1 hR hun hdep
    have d33:=hdep ⟨0,.data⟩ (by simp) rfl
    simp [slotOf] at d33
    clear hun hdep
    exact opw_load (b:=n1) (o:=0) (gd d33) (Has.later H1 hR.off) (fL _) agg25 size25 ⟨_,rfl,Later.rfl' _,rfl,(fun h=>absurd h (by decide))⟩
   ·intro a W1 hR hun hdep
    have t9:=hun 9 (by simp)
    simp at t9
    clear hun hdep
    exact opw_load (b:=k9) (o:=0) (gd t9) (Has.later H37 hR.off) (fL _) agg25 size25 ⟨_,rfl,Later.rfl' _,rfl,(fun h=>absurd h (by decide))⟩
   ·intro a W1 hR hun hdep
    have t10:=hun 10 (by simp)
    simp at t10
    clear hun hdep
    exact opw_load (b:=k10) (o:=0) (gd t10) (Has.later H38 hR.off) (fL _) agg25 size25 ⟨_,rfl,Later.rfl' _,rfl,(fun h=>absurd h (by decide))⟩
   ·intro a W1 hR hun hdep
    have d35:=hdep ⟨2,.data⟩ (by simp) rfl
    simp [slotOf] at d35
    have d36:=hdep ⟨3,.data⟩ (by simp) rfl
    simp [slotOf] at d36
    clear hun hdep
    go_simp
    refine (mul_v qf5).mono ?_
    rintro e W2 ⟨rfl,hb⟩
    first | exact hb | exact ⟨hb,rfl⟩ | exact ⟨rfl,hb⟩
   ·intro a W1 hR hun hdep
    have d34:=hdep ⟨1,.data⟩ (by simp) rfl
    simp [slotOf] at d34
    have d37:=hdep ⟨4,.data⟩ (by simp) rfl
    simp [slotOf] at d37
    clear hun hdep
    go_simp
    refine (mul_v qf6).mono ?_
    rintro e W2 ⟨rfl,hb⟩
    first | exact hb | exact ⟨hb,rfl⟩ | exact ⟨rfl,hb⟩
   ·intro a W1 hR hun hdep
    clear hun hdep
    have hle:n5 ≤ W1.heap.size:=ln5.out ▸ hR.off.size
    exact opw_alloc alloc25 ⟨_,rfl,bA _ _,⟨_,rfl,hle,(box_has W1 _ 25).room rfl⟩,fun _=>⟨rfl,by rw [size_alloc];omega,rfl⟩⟩
  ·intro vs W1 hR hv hfr
   simp only [List.take_succ_cons,List.take_zero,List.drop_succ_cons,List.drop_zero,heads,Option.isSome_some,if_true] at hv ⊢
   obtain ⟨v0,v1,v2,v3,v4,v5,v6,-⟩:=hv
   obtain ⟨k11,v6,y48,H47⟩:=v6
   simp only [finL,Act.put,v0,v1,v2,v3,v4,v5,v6]
   simp only [iA,iB,iC]
   replace hR:=hR.off
   replace C:=C.trans (Chg.of_below hR)
   replace H1:=H1.later hR
   replace H3:=H3.later hR
   replace H4:=H4.later hR
   replace H5:=H5.later hR
   replace H7:=H7.later hR
   replace H8:=H8.later hR
   replace H9:=H9.later hR
   replace H10:=H10.later hR
   replace H16:=H16.later hR
   replace H23:=H23.later hR
   replace H37:=H37.later hR
   replace H38:=H38.later hR
   clear hR hfr v0 v1 v2 v3 v4 v5 v6
   have z49:w.heap.size ≤ k11:=by omega
   refine pG (fun W=>Chg R0 w W∧Has W n1 0 (fl cd)∧Has W (n1 + 1) 0 (fl X)∧Has W (n1 + 1) 16 (fl Y)∧Has W (n1 + 1) 32 (fl Z)∧Has W (n1 + 2) 0 (fl A)∧Has W (n1 + 2) 16 (fl B)∧Has W (n1 + 2) 32 (fl D)∧Room W (n1 + 3) 0 48∧Has W n2 0 (fl f1)∧Has W n3 0 (fl f2)∧Has W k9 0 (fl f3)∧Has W k10 0 (fl f4)∧Room W k11 0 16) ⟨C,H1,H3,H4,H5,H7,H8,H9,H10,H16,H23,H37,H38,H47⟩ ?_
   clear C H1 H3 H4 H5 H7 H8 H9 H10 H16 H23 H37 H38 H47
   rintro W ⟨C,H1,H3,H4,H5,H7,H8,H9,H10,H16,H23,H37,H38,H47⟩
   repeat ((fail_if_success with_reducible refine ss 25 ?_);first | go_step | dsimp only)
   refine wS (b:=k11) (o:=0) (vs:=fl f6) rfl rfl H47 (fL _) (fl_one _) size25 ?_
   simp only [Act.put]
   have hc:Chg (Rg k11 0 16) W (World.setCells W k11 0 (fl f6)):=by have:=putL_chg (w:=W) (b:=k11) (o:=0) (vs:=fl f6);rwa [show (fl f6).length = 16 from (fL _)] at this
   have H50:=putL_has (w:=W) (b:=k11) (o:=0) (vs:=fl f6) (by rw [show (fl f6).length = 16 from (fL _)];exact H47)
   replace C:=C.loc hc (by omega)
   replace H1:=H1.keep hc oa
   replace H3:=H3.keep hc oa
   replace H4:=H4.keep hc oa
   replace H5:=H5.keep hc oa
   replace H7:=H7.keep hc oa
   replace H8:=H8.keep hc oa
   replace H9:=H9.keep hc oa
   replace H10:=hc.room H10
   replace H16:=H16.keep hc oa
   replace H23:=H23.keep hc oa
   replace H37:=H37.keep hc oa
   replace H38:=H38.keep hc oa
   clear H47
   clear hc
   refine pG (fun W=>Chg R0 w W∧Has W n1 0 (fl cd)∧Has W (n1 + 1) 0 (fl X)∧Has W (n1 + 1) 16 (fl Y)∧Has W (n1 + 1) 32 (fl Z)∧Has W (n1 + 2) 0 (fl A)∧Has W (n1 + 2) 16 (fl B)∧Has W (n1 + 2) 32 (fl D)∧Room W (n1 + 3) 0 48∧Has W n2 0 (fl f1)∧Has W n3 0 (fl f2)∧Has W k9 0 (fl f3)∧Has W k10 0 (fl f4)∧Has W k11 0 (fl f6)) ⟨C,H1,H3,H4,H5,H7,H8,H9,H10,H16,H23,H37,H38,H50⟩ ?_
   clear C H1 H3 H4 H5 H7 H8 H9 H10 H16 H23 H37 H38 H50
   rintro W ⟨C,H1,H3,H4,H5,H7,H8,H9,H10,H16,H23,H37,H38,H50⟩
   go_wp2_with fail
   obtain ⟨n6,ln6⟩:∃ n,W.heap.size = n:=⟨_,rfl⟩
   have zn6:w.heap.size ≤ n6:=ln6 ▸ C.size
   have y51:n1 < n6:=ln6 ▸ H1.lt (by rw [fL];decide)
   have y52:n1 + 1 < n6:=ln6 ▸ H3.lt (by rw [fL];decide)
   have y53:n1 + 2 < n6:=ln6 ▸ H7.lt (by rw [fL];decide)
   have y54:n1 + 3 < n6:=ln6 ▸ H10.lt (by decide)
   have y55:n2 < n6:=ln6 ▸ H16.lt (by rw [fL];decide)
   have y56:n3 < n6:=ln6 ▸ H23.lt (by rw [fL];decide)
   have y57:k9 < n6:=ln6 ▸ H37.lt (by rw [fL];decide)
   have y58:k10 < n6:=ln6 ▸ H38.lt (by rw [fL];decide)
   have y59:k11 < n6:=ln6 ▸ H50.lt (by rw [fL];decide)
   replace ln6:=hd ln6
   obtain ⟨f7,qf7⟩:∃ g:F,g = f2 - f6:=⟨_,rfl⟩
   replace qf7:=hd qf7
   obtain ⟨f8,qf8⟩:∃ g:F,g = f2 + f6:=⟨_,rfl⟩
   replace qf8:=hd qf8
   refine region_fresh 8 [6,7] (by kernel_rfl) (by kernel_rfl) (by kernel_rfl)
    (fun i v W=>match i with
     | 0=>v = .agg (fl f2).toArray
     | 1=>v = .agg (fl f6).toArray
     | 2=>v = .agg (fl f7).toArray
     | 3=>v = .agg (fl f2).toArray
     | 4=>v = .agg (fl f6).toArray
     | 5=>v = .agg (fl f8).toArray
     | 6=>∃ k,v = Ptr k 0∧n6 ≤ k∧Room W k 0 16
     | 7=>∃ k,v = Ptr k 0∧n6 ≤ k∧Room W k 0 16
     | _=>True) ?_ ?_ ?_
   ·intro i v u u' h hb
    split at h
    ·exact h
    ·exact h
    ·exact h
    ·exact h
    ·exact h
    ·exact h
    ·obtain ⟨k,h1,h2,h3⟩:=h;exact ⟨k,h1,h2,h3.later hb⟩
    ·obtain ⟨k,h1,h2,h3⟩:=h;exact ⟨k,h1,h2,h3.later hb⟩
    ·trivial
   ·simp only [List.take_succ_cons,List.take_zero,heads]
    refine ⟨?_,?_,?_,?_,?_,?_,?_,?_,trivial⟩
    ·intro a W1 hR hun hdep
     have t8:=hun 8 (by simp)
     simp at t8
     clear hun hdep
     exact opw_load (b:=n3) (o:=0) (gd t8) (Has.later H23 hR.off) (fL _) agg25 size25 ⟨_,rfl,Later.rfl' _,rfl,(fun h=>absurd h (by decide))⟩
    ·intro a W1 hR hun hdep
     have t11:=hun 11 (by simp)
     simp at t11
     clear hun hdep
     exact opw_load (b:=k11) (o:=0) (gd t11) (Has.later H50 hR.off) (fL _) agg25 size25 ⟨_,rfl,Later.rfl' _,rfl,(fun h=>absurd h (by decide))⟩
    ·intro a W1 hR hun hdep
     have d39:=hdep ⟨0,.data⟩ (by simp) rfl
     simp [slotOf] at d39
     have d40:=hdep ⟨1,.data⟩ (by simp) rfl
     simp [slotOf] at d40
     clear hun hdep
     go_simp
     refine (sub_v qf7).mono ?_
     rintro e W2 ⟨rfl,hb⟩
     first | exact hb | exact ⟨hb,rfl⟩ | exact ⟨rfl,hb⟩
    ·intro a W1 hR hun hdep
     have t8:=hun 8 (by simp)
     simp at t8
     clear hun hdep
     exact opw_load (b:=n3) (o:=0) (gd t8) (Has.later H23 hR.off) (fL _) agg25 size25 ⟨_,rfl,Later.rfl' _,rfl,(fun h=>absurd h (by decide))⟩
    ·intro a W1 hR hun hdep
     have t11:=hun 11 (by simp)
     simp at t11
     clear hun hdep
     exact opw_load (b:=k11) (o:=0) (gd t11) (Has.later H50 hR.off) (fL _) agg25 size25 ⟨_,rfl,Later.rfl' _,rfl,(fun h=>absurd h (by decide))⟩
    ·intro a W1 hR hun hdep
     have d42:=hdep ⟨3,.data⟩ (by simp) rfl
     simp [slotOf] at d42
     have d43:=hdep ⟨4,.data⟩ (by simp) rfl
     simp [slotOf] at d43
     clear hun hdep
     go_simp
     refine (add_v qf8).mono ?_
     rintro e W2 ⟨rfl,hb⟩
     first | exact hb | exact ⟨hb,rfl⟩ | exact ⟨rfl,hb⟩
    ·intro a W1 hR hun hdep
     clear hun hdep
     have hle:n6 ≤ W1.heap.size:=ln6.out ▸ hR.off.size
     exact opw_alloc alloc25 ⟨_,rfl,bA _ _,⟨_,rfl,hle,(box_has W1 _ 25).room rfl⟩,fun _=>⟨rfl,by rw [size_alloc];omega,rfl⟩⟩
    ·intro a W1 hR hun hdep
     clear hun hdep
     have hle:n6 ≤ W1.heap.size:=ln6.out ▸ hR.off.size
     exact opw_alloc alloc25 ⟨_,rfl,bA _ _,⟨_,rfl,hle,(box_has W1 _ 25).room rfl⟩,fun _=>⟨rfl,by rw [size_alloc];omega,rfl⟩⟩
   ·intro vs W1 hR hv hfr
    simp only [List.take_succ_cons,List.take_zero,List.drop_succ_cons,List.drop_zero,heads,Option.isSome_some,if_true] at hv ⊢
    obtain ⟨v0,v1,v2,v3,v4,v5,v6,v7,-⟩:=hv
    obtain ⟨k12,v6,y61,H60⟩:=v6
    obtain ⟨k13,v7,y63,H62⟩:=v7
    have y64:k12 ≠ k13:=fun e=>hfr 6 7 (by decide) (by decide) (by decide) (by decide) (by decide) (by rw [v6,v7,e])
    simp only [finL,Act.put,v0,v1,v2,v3,v4,v5,v6,v7]
    simp only [iA,iB,iC]
    replace hR:=hR.off
    replace C:=C.trans (Chg.of_below hR)
    replace H1:=H1.later hR
    replace H3:=H3.later hR
    replace H4:=H4.later hR
    replace H5:=H5.later hR
    replace H7:=H7.later hR
    replace H8:=H8.later hR
    replace H9:=H9.later hR
    replace H10:=H10.later hR
    replace H16:=H16.later hR
    replace H23:=H23.later hR
    replace H37:=H37.later hR
    replace H38:=H38.later hR
    replace H50:=H50.later hR
    clear hR hfr v0 v1 v2 v3 v4 v5 v6 v7
    have z65:w.heap.size ≤ k12:=by omega
    have z66:w.heap.size ≤ k13:=by omega
    refine pG (fun W=>Chg R0 w W∧Has W n1 0 (fl cd)∧Has W (n1 + 1) 0 (fl X)∧Has W (n1 + 1) 16 (fl Y)∧Has W (n1 + 1) 32 (fl Z)∧Has W (n1 + 2) 0 (fl A)∧Has W (n1 + 2) 16 (fl B)∧Has W (n1 + 2) 32 (fl D)∧Room W (n1 + 3) 0 48∧Has W n2 0 (fl f1)∧Has W n3 0 (fl f2)∧Has W k9 0 (fl f3)∧Has W k10 0 (fl f4)∧Has W k11 0 (fl f6)∧Room W k12 0 16∧Room W k13 0 16) ⟨C,H1,H3,H4,H5,H7,H8,H9,H10,H16,H23,H37,H38,H50,H60,H62⟩ ?_
    clear C H1 H3 H4 H5 H7 H8 H9 H10 H16 H23 H37 H38 H50 H60 H62
    rintro W ⟨C,H1,H3,H4,H5,H7,H8,H9,H10,H16,H23,H37,H38,H50,H60,H62⟩
    repeat ((fail_if_success with_reducible refine ss 25 ?_);first | go_step | dsimp only)
    refine wS (b:=k12) (o:=0) (vs:=fl f7) rfl rfl H60 (fL _) (fl_one _) size25 ?_
    simp only [Act.put]
    have hc:Chg (Rg k12 0 16) W (World.setCells W k12 0 (fl f7)):=by have:=putL_chg (w:=W) (b:=k12) (o:=0) (vs:=fl f7);rwa [show (fl f7).length = 16 from (fL _)] at this
    have H67:=putL_has (w:=W) (b:=k12) (o:=0) (vs:=fl f7) (by rw [show (fl f7).length = 16 from (fL _)];exact H60)
    replace C:=C.loc hc (by omega)
    replace H1:=H1.keep hc oa
    replace H3:=H3.keep hc oa
    replace H4:=H4.keep hc oa
    replace H5:=H5.keep hc oa
    replace H7:=H7.keep hc oa
    replace H8:=H8.keep hc oa
    replace H9:=H9.keep hc oa
    replace H10:=hc.room H10
    replace H16:=H16.keep hc oa
    replace H23:=H23.keep hc oa
    replace H37:=H37.keep hc oa
    replace H38:=H38.keep hc oa
    replace H50:=H50.keep hc oa
    clear H60
    replace H62:=hc.room H62
    clear hc
    refine pG (fun W=>Chg R0 w W∧Has W n1 0 (fl cd)∧Has W (n1 + 1) 0 (fl X)∧Has W (n1 + 1) 16 (fl Y)∧Has W (n1 + 1) 32 (fl Z)∧Has W (n1 + 2) 0 (fl A)∧Has W (n1 + 2) 16 (fl B)∧Has W (n1 + 2) 32 (fl D)∧Room W (n1 + 3) 0 48∧Has W n2 0 (fl f1)∧Has W n3 0 (fl f2)∧Has W k9 0 (fl f3)∧Has W k10 0 (fl f4)∧Has W k11 0 (fl f6)∧Room W k13 0 16∧Has W k12 0 (fl f7)) ⟨C,H1,H3,H4,H5,H7,H8,H9,H10,H16,H23,H37,H38,H50,H62,H67⟩ ?_
    clear C H1 H3 H4 H5 H7 H8 H9 H10 H16 H23 H37 H38 H50 H62 H67
    rintro W ⟨C,H1,H3,H4,H5,H7,H8,H9,H10,H16,H23,H37,H38,H50,H62,H67⟩
    repeat ((fail_if_success with_reducible refine ss 25 ?_);first | go_step | dsimp only)
    refine wS (b:=k13) (o:=0) (vs:=fl f8) rfl rfl H62 (fL _) (fl_one _) size25 ?_
    simp only [Act.put]
    have hc:Chg (Rg k13 0 16) W (World.setCells W k13 0 (fl f8)):=by have:=putL_chg (w:=W) (b:=k13) (o:=0) (vs:=fl f8);rwa [show (fl f8).length = 16 from (fL _)] at this
    have H68:=putL_has (w:=W) (b:=k13) (o:=0) (vs:=fl f8) (by rw [show (fl f8).length = 16 from (fL _)];exact H62)
    replace C:=C.loc hc (by omega)
    replace H1:=H1.keep hc oa
    replace H3:=H3.keep hc oa
    replace H4:=H4.keep hc oa
    replace H5:=H5.keep hc oa
    replace H7:=H7.keep hc oa
    replace H8:=H8.keep hc oa
    replace H9:=H9.keep hc oa
    replace H10:=hc.room H10
    replace H16:=H16.keep hc oa
    replace H23:=H23.keep hc oa
    replace H37:=H37.keep hc oa
    replace H38:=H38.keep hc oa
    replace H50:=H50.keep hc oa
    clear H62
    replace H67:=H67.keep hc oa
    clear hc
    refine pG (fun W=>Chg R0 w W∧Has W n1 0 (fl cd)∧Has W (n1 + 1) 0 (fl X)∧Has W (n1 + 1) 16 (fl Y)∧Has W (n1 + 1) 32 (fl Z)∧Has W (n1 + 2) 0 (fl A)∧Has W (n1 + 2) 16 (fl B)∧Has W (n1 + 2) 32 (fl D)∧Room W (n1 + 3) 0 48∧Has W n2 0 (fl f1)∧Has W n3 0 (fl f2)∧Has W k9 0 (fl f3)∧Has W k10 0 (fl f4)∧Has W k11 0 (fl f6)∧Has W k12 0 (fl f7)∧Has W k13 0 (fl f8)) ⟨C,H1,H3,H4,H5,H7,H8,H9,H10,H16,H23,H37,H38,H50,H67,H68⟩ ?_
    clear C H1 H3 H4 H5 H7 H8 H9 H10 H16 H23 H37 H38 H50 H67 H68
    rintro W ⟨C,H1,H3,H4,H5,H7,H8,H9,H10,H16,H23,H37,H38,H50,H67,H68⟩
    go_wp2_with fail
    obtain ⟨n7,ln7⟩:∃ n,W.heap.size = n:=⟨_,rfl⟩
    have zn7:w.heap.size ≤ n7:=ln7 ▸ C.size
    have y69:n1 < n7:=ln7 ▸ H1.lt (by rw [fL];decide)
    have y70:n1 + 1 < n7:=ln7 ▸ H3.lt (by rw [fL];decide)
    have y71:n1 + 2 < n7:=ln7 ▸ H7.lt (by rw [fL];decide)
    have y72:n1 + 3 < n7:=ln7 ▸ H10.lt (by decide)
    have y73:n2 < n7:=ln7 ▸ H16.lt (by rw [fL];decide)
    have y74:n3 < n7:=ln7 ▸ H23.lt (by rw [fL];decide)
    have y75:k9 < n7:=ln7 ▸ H37.lt (by rw [fL];decide)
    have y76:k10 < n7:=ln7 ▸ H38.lt (by rw [fL];decide)
    have y77:k11 < n7:=ln7 ▸ H50.lt (by rw [fL];decide)
    have y78:k12 < n7:=ln7 ▸ H67.lt (by rw [fL];decide)
    have y79:k13 < n7:=ln7 ▸ H68.lt (by rw [fL];decide)
    replace ln7:=hd ln7
    obtain ⟨f9,qf9⟩:∃ g:F,g = X + Y:=⟨_,rfl⟩
    replace qf9:=hd qf9
    obtain ⟨f10,qf10⟩:∃ g:F,g = A + B:=⟨_,rfl⟩
    replace qf10:=hd qf10
    obtain ⟨f11,qf11⟩:∃ g:F,g = f9 * f10:=⟨_,rfl⟩
    replace qf11:=hd qf11
    obtain ⟨f12,qf12⟩:∃ g:F,g = f11 - f3:=⟨_,rfl⟩
    replace qf12:=hd qf12
    obtain ⟨f13,qf13⟩:∃ g:F,g = f12 - f4:=⟨_,rfl⟩
    replace qf13:=hd qf13
    refine region_fresh 16 [15] (by kernel_rfl) (by kernel_rfl) (by kernel_rfl)
     (fun i v W=>match i with
      | 0=>v = Ptr (n1 + 1) 0
      | 1=>v = .agg (fl X).toArray
      | 2=>v = Ptr (n1 + 1) 16
      | 3=>v = .agg (fl Y).toArray
      | 4=>v = .agg (fl f9).toArray
      | 5=>v = Ptr (n1 + 2) 0
      | 6=>v = .agg (fl A).toArray
      | 7=>v = Ptr (n1 + 2) 16
      | 8=>v = .agg (fl B).toArray
      | 9=>v = .agg (fl f10).toArray
      | 10=>v = .agg (fl f11).toArray
      | 11=>v = .agg (fl f3).toArray
      | 12=>v = .agg (fl f12).toArray
      | 13=>v = .agg (fl f4).toArray
      | 14=>v = .agg (fl f13).toArray
      | 15=>∃ k,v = Ptr k 0∧n7 ≤ k∧Room W k 0 16
      | _=>True) ?_ ?_ ?_
    ·intro i v u u' h hb
     split at h
     ·exact h
     ·exact h
     ·exact h
     ·exact h
     ·exact h
     ·exact h
     ·exact h
     ·exact h
     ·exact h
     ·exact h
     ·exact h
     ·exact h
     ·exact h
     ·exact h
     ·exact h
     ·obtain ⟨k,h1,h2,h3⟩:=h;exact ⟨k,h1,h2,h3.later hb⟩
     ·trivial
    ·simp only [List.take_succ_cons,List.take_zero,heads]
     refine ⟨?_,?_,?_,?_,?_,?_,?_,?_,?_,?_,?_,?_,?_,?_,?_,?_,trivial⟩
     ·intro a W1 hR hun hdep
      have t4:=hun 4 (by simp)
      simp at t4
      clear hun hdep
      go_simp
      exact Later.rfl' _
     ·intro a W1 hR hun hdep
      have d45:=hdep ⟨0,.data⟩ (by simp) rfl
      simp [slotOf] at d45
      clear hun hdep
      exact opw_load (b:=n1 + 1) (o:=0) (gd d45) (Has.later H3 hR.off) (fL _) agg25 size25 ⟨_,rfl,Later.rfl' _,rfl,(fun h=>absurd h (by decide))⟩
     ·intro a W1 hR hun hdep
      have t4:=hun 4 (by simp)
      simp at t4
      clear hun hdep
      go_simp
      exact Later.rfl' _
     ·intro a W1 hR hun hdep
      have d47:=hdep ⟨2,.data⟩ (by simp) rfl
      simp [slotOf] at d47
      clear hun hdep
      exact opw_load (b:=n1 + 1) (o:=16) (gd d47) (Has.later H4 hR.off) (fL _) agg25 size25 ⟨_,rfl,Later.rfl' _,rfl,(fun h=>absurd h (by decide))⟩
     ·intro a W1 hR hun hdep
      have d46:=hdep ⟨1,.data⟩ (by simp) rfl
      simp [slotOf] at d46
      have d48:=hdep ⟨3,.data⟩ (by simp) rfl
      simp [slotOf] at d48
      clear hun hdep
      go_simp
      refine (add_v qf9).mono ?_
      rintro e W2 ⟨rfl,hb⟩
      first | exact hb | exact ⟨hb,rfl⟩ | exact ⟨rfl,hb⟩
     ·intro a W1 hR hun hdep
      have t5:=hun 5 (by simp)
      simp at t5
      clear hun hdep
      go_simp
      exact Later.rfl' _
     ·intro a W1 hR hun hdep
      have d50:=hdep ⟨5,.data⟩ (by simp) rfl
      simp [slotOf] at d50
      clear hun hdep
      exact opw_load (b:=n1 + 2) (o:=0) (gd d50) (Has.later H7 hR.off) (fL _) agg25 size25 ⟨_,rfl,Later.rfl' _,rfl,(fun h=>absurd h (by decide))⟩
     ·intro a W1 hR hun hdep
      have t5:=hun 5 (by simp)
      simp at t5
      clear hun hdep
      go_simp
      exact Later.rfl' _
     ·intro a W1 hR hun hdep
      have d52:=hdep ⟨7,.data⟩ (by simp) rfl
      simp [slotOf] at d52
      clear hun hdep
      exact opw_load (b:=n1 + 2) (o:=16) (gd d52) (Has.later H8 hR.off) (fL _) agg25 size25 ⟨_,rfl,Later.rfl' _,rfl,(fun h=>absurd h (by decide))⟩
     ·intro a W1 hR hun hdep
      have d51:=hdep ⟨6,.data⟩ (by simp) rfl
      simp [slotOf] at d51
      have d53:=hdep ⟨8,.data⟩ (by simp) rfl
      simp [slotOf] at d53
      clear hun hdep
      go_simp
      refine (add_v qf10).mono ?_
      rintro e W2 ⟨rfl,hb⟩
      first | exact hb | exact ⟨hb,rfl⟩ | exact ⟨rfl,hb⟩
     ·intro a W1 hR hun hdep
      have d49:=hdep ⟨4,.data⟩ (by simp) rfl
      simp [slotOf] at d49
      have d54:=hdep ⟨9,.data⟩ (by simp) rfl
      simp [slotOf] at d54
      clear hun hdep
      go_simp
      refine (mul_v qf11).mono ?_
      rintro e W2 ⟨rfl,hb⟩
      first | exact hb | exact ⟨hb,rfl⟩ | exact ⟨rfl,hb⟩
     ·intro a W1 hR hun hdep
      have t9:=hun 9 (by simp)
      simp at t9
      clear hun hdep
      exact opw_load (b:=k9) (o:=0) (gd t9) (Has.later H37 hR.off) (fL _) agg25 size25 ⟨_,rfl,Later.rfl' _,rfl,(fun h=>absurd h (by decide))⟩
     ·intro a W1 hR hun hdep
      have d55:=hdep ⟨10,.data⟩ (by simp) rfl
      simp [slotOf] at d55
      have d56:=hdep ⟨11,.data⟩ (by simp) rfl
      simp [slotOf] at d56
      clear hun hdep
      go_simp
      refine (sub_v qf12).mono ?_
      rintro e W2 ⟨rfl,hb⟩
      first | exact hb | exact ⟨hb,rfl⟩ | exact ⟨rfl,hb⟩
     ·intro a W1 hR hun hdep
      have t10:=hun 10 (by simp)
      simp at t10
      clear hun hdep
      exact opw_load (b:=k10) (o:=0) (gd t10) (Has.later H38 hR.off) (fL _) agg25 size25 ⟨_,rfl,Later.rfl' _,rfl,(fun h=>absurd h (by decide))⟩
     ·intro a W1 hR hun hdep
      have d57:=hdep ⟨12,.data⟩ (by simp) rfl
      simp [slotOf] at d57
      have d58:=hdep ⟨13,.data⟩ (by simp) rfl
      simp [slotOf] at d58
      clear hun hdep
      go_simp
      refine (sub_v qf13).mono ?_
      rintro e W2 ⟨rfl,hb⟩
      first | exact hb | exact ⟨hb,rfl⟩ | exact ⟨rfl,hb⟩
     ·intro a W1 hR hun hdep
      clear hun hdep
      have hle:n7 ≤ W1.heap.size:=ln7.out ▸ hR.off.size
      exact opw_alloc alloc25 ⟨_,rfl,bA _ _,⟨_,rfl,hle,(box_has W1 _ 25).room rfl⟩,fun _=>⟨rfl,by rw [size_alloc];omega,rfl⟩⟩
    ·intro vs W1 hR hv hfr
     simp only [List.take_succ_cons,List.take_zero,List.drop_succ_cons,List.drop_zero,heads,Option.isSome_some,if_true] at hv ⊢
     obtain ⟨v0,v1,v2,v3,v4,v5,v6,v7,v8,v9,v10,v11,v12,v13,v14,v15,-⟩:=hv
     obtain ⟨k14,v15,y81,H80⟩:=v15
     simp only [finL,Act.put,v0,v1,v2,v3,v4,v5,v6,v7,v8,v9,v10,v11,v12,v13,v14,v15]
     simp only [iA,iB,iC]
     replace hR:=hR.off
     replace C:=C.trans (Chg.of_below hR)
     replace H1:=H1.later hR
     replace H3:=H3.later hR
     replace H4:=H4.later hR
     replace H5:=H5.later hR
     replace H7:=H7.later hR
     replace H8:=H8.later hR
     replace H9:=H9.later hR
     replace H10:=H10.later hR
     replace H16:=H16.later hR
     replace H23:=H23.later hR
     replace H37:=H37.later hR
     replace H38:=H38.later hR
     replace H50:=H50.later hR
     replace H67:=H67.later hR
     replace H68:=H68.later hR
     clear hR hfr v0 v1 v2 v3 v4 v5 v6 v7 v8 v9 v10 v11 v12 v13 v14 v15
     have z82:w.heap.size ≤ k14:=by omega
     refine pG (fun W=>Chg R0 w W∧Has W n1 0 (fl cd)∧Has W (n1 + 1) 0 (fl X)∧Has W (n1 + 1) 16 (fl Y)∧Has W (n1 + 1) 32 (fl Z)∧Has W (n1 + 2) 0 (fl A)∧Has W (n1 + 2) 16 (fl B)∧Has W (n1 + 2) 32 (fl D)∧Room W (n1 + 3) 0 48∧Has W n2 0 (fl f1)∧Has W n3 0 (fl f2)∧Has W k9 0 (fl f3)∧Has W k10 0 (fl f4)∧Has W k11 0 (fl f6)∧Has W k12 0 (fl f7)∧Has W k13 0 (fl f8)∧Room W k14 0 16) ⟨C,H1,H3,H4,H5,H7,H8,H9,H10,H16,H23,H37,H38,H50,H67,H68,H80⟩ ?_
     clear C H1 H3 H4 H5 H7 H8 H9 H10 H16 H23 H37 H38 H50 H67 H68 H80
     rintro W ⟨C,H1,H3,H4,H5,H7,H8,H9,H10,H16,H23,H37,H38,H50,H67,H68,H80⟩
     repeat ((fail_if_success with_reducible refine ss 25 ?_);first | go_step | dsimp only)
     refine wS (b:=k14) (o:=0) (vs:=fl f13) rfl rfl H80 (fL _) (fl_one _) size25 ?_
     simp only [Act.put]
     have hc:Chg (Rg k14 0 16) W (World.setCells W k14 0 (fl f13)):=by have:=putL_chg (w:=W) (b:=k14) (o:=0) (vs:=fl f13);rwa [show (fl f13).length = 16 from (fL _)] at this
     have H83:=putL_has (w:=W) (b:=k14) (o:=0) (vs:=fl f13) (by rw [show (fl f13).length = 16 from (fL _)];exact H80)
     replace C:=C.loc hc (by omega)
     replace H1:=H1.keep hc oa
     replace H3:=H3.keep hc oa
     replace H4:=H4.keep hc oa
     replace H5:=H5.keep hc oa
     replace H7:=H7.keep hc oa
     replace H8:=H8.keep hc oa
     replace H9:=H9.keep hc oa
     replace H10:=hc.room H10
     replace H16:=H16.keep hc oa
     replace H23:=H23.keep hc oa
     replace H37:=H37.keep hc oa
     replace H38:=H38.keep hc oa
     replace H50:=H50.keep hc oa
     replace H67:=H67.keep hc oa
     replace H68:=H68.keep hc oa
     clear H80
     clear hc
     refine pG (fun W=>Chg R0 w W∧Has W n1 0 (fl cd)∧Has W (n1 + 1) 0 (fl X)∧Has W (n1 + 1) 16 (fl Y)∧Has W (n1 + 1) 32 (fl Z)∧Has W (n1 + 2) 0 (fl A)∧Has W (n1 + 2) 16 (fl B)∧Has W (n1 + 2) 32 (fl D)∧Room W (n1 + 3) 0 48∧Has W n2 0 (fl f1)∧Has W n3 0 (fl f2)∧Has W k9 0 (fl f3)∧Has W k10 0 (fl f4)∧Has W k11 0 (fl f6)∧Has W k12 0 (fl f7)∧Has W k13 0 (fl f8)∧Has W k14 0 (fl f13)) ⟨C,H1,H3,H4,H5,H7,H8,H9,H10,H16,H23,H37,H38,H50,H67,H68,H83⟩ ?_
     clear C H1 H3 H4 H5 H7 H8 H9 H10 H16 H23 H37 H38 H50 H67 H68 H83
     rintro W ⟨C,H1,H3,H4,H5,H7,H8,H9,H10,H16,H23,H37,H38,H50,H67,H68,H83⟩
     go_wp2_with fail
     obtain ⟨f14,qf14⟩:∃ g:F,g = f1 * f7:=⟨_,rfl⟩
     replace qf14:=hd qf14
     obtain ⟨f15,qf15⟩:∃ g:F,g = f14 * f13:=⟨_,rfl⟩
     replace qf15:=hd qf15
     obtain ⟨f16,qf16⟩:∃ g:F,g = f1 * f8:=⟨_,rfl⟩
     replace qf16:=hd qf16
     obtain ⟨f17,qf17⟩:∃ g:F,g = f3 + f4:=⟨_,rfl⟩
     replace qf17:=hd qf17
     obtain ⟨f18,qf18⟩:∃ g:F,g = f16 * f17:=⟨_,rfl⟩
     replace qf18:=hd qf18
     obtain ⟨f19,qf19⟩:∃ g:F,g = f7 * f8:=⟨_,rfl⟩
     replace qf19:=hd qf19
     refine region_fresh 16 [] (by kernel_rfl) (by kernel_rfl) (by kernel_rfl)
      (fun i v W=>match i with
       | 0=>v = .agg (fl f1).toArray
       | 1=>v = .agg (fl f7).toArray
       | 2=>v = .agg (fl f14).toArray
       | 3=>v = .agg (fl f13).toArray
       | 4=>v = .agg (fl f15).toArray
       | 5=>v = .agg (fl f1).toArray
       | 6=>v = .agg (fl f8).toArray
       | 7=>v = .agg (fl f16).toArray
       | 8=>v = .agg (fl f3).toArray
       | 9=>v = .agg (fl f4).toArray
       | 10=>v = .agg (fl f17).toArray
       | 11=>v = .agg (fl f18).toArray
       | 12=>v = .agg (fl f7).toArray
       | 13=>v = .agg (fl f8).toArray
       | 14=>v = .agg (fl f19).toArray
       | 15=>v = .agg ((fl f15 ++ (fl f18 ++ fl f19))).toArray
       | _=>True) ?_ ?_ ?_
     ·intro i v u u' h hb
      split at h<;>exact h
     ·simp only [List.take_succ_cons,List.take_zero,heads]
      refine ⟨?_,?_,?_,?_,?_,?_,?_,?_,?_,?_,?_,?_,?_,?_,?_,?_,trivial⟩
      ·intro a W1 hR hun hdep
       have t7:=hun 7 (by simp)
       simp at t7
       clear hun hdep
       exact opw_load (b:=n2) (o:=0) (gd t7) (Has.later H16 hR.off) (fL _) agg25 size25 ⟨_,rfl,Later.rfl' _,rfl,(fun h=>absurd h (by decide))⟩
      ·intro a W1 hR hun hdep
       have t12:=hun 12 (by simp)
       simp at t12
       clear hun hdep
       exact opw_load (b:=k12) (o:=0) (gd t12) (Has.later H67 hR.off) (fL _) agg25 size25 ⟨_,rfl,Later.rfl' _,rfl,(fun h=>absurd h (by decide))⟩
      ·intro a W1 hR hun hdep
       have d60:=hdep ⟨0,.data⟩ (by simp) rfl
       simp [slotOf] at d60
       have d61:=hdep ⟨1,.data⟩ (by simp) rfl
       simp [slotOf] at d61
       clear hun hdep
       go_simp
       refine (mul_v qf14).mono ?_
       rintro e W2 ⟨rfl,hb⟩
       first | exact hb | exact ⟨hb,rfl⟩ | exact ⟨rfl,hb⟩
      ·intro a W1 hR hun hdep
       have t14:=hun 14 (by simp)
       simp at t14
       clear hun hdep
       exact opw_load (b:=k14) (o:=0) (gd t14) (Has.later H83 hR.off) (fL _) agg25 size25 ⟨_,rfl,Later.rfl' _,rfl,(fun h=>absurd h (by decide))⟩
      ·intro a W1 hR hun hdep
       have d62:=hdep ⟨2,.data⟩ (by simp) rfl
       simp [slotOf] at d62
       have d63:=hdep ⟨3,.data⟩ (by simp) rfl
       simp [slotOf] at d63
       clear hun hdep
       go_simp
       refine (mul_v qf15).mono ?_
       rintro e W2 ⟨rfl,hb⟩
       first | exact hb | exact ⟨hb,rfl⟩ | exact ⟨rfl,hb⟩
      ·intro a W1 hR hun hdep
       have t7:=hun 7 (by simp)
       simp at t7
       clear hun hdep
       exact opw_load (b:=n2) (o:=0) (gd t7) (Has.later H16 hR.off) (fL _) agg25 size25 ⟨_,rfl,Later.rfl' _,rfl,(fun h=>absurd h (by decide))⟩
      ·intro a W1 hR hun hdep
       have t13:=hun 13 (by simp)
       simp at t13
       clear hun hdep
       exact opw_load (b:=k13) (o:=0) (gd t13) (Has.later H68 hR.off) (fL _) agg25 size25 ⟨_,rfl,Later.rfl' _,rfl,(fun h=>absurd h (by decide))⟩
      ·intro a W1 hR hun hdep
       have d65:=hdep ⟨5,.data⟩ (by simp) rfl
       simp [slotOf] at d65
       have d66:=hdep ⟨6,.data⟩ (by simp) rfl
       simp [slotOf] at d66
       clear hun hdep
       go_simp
       refine (mul_v qf16).mono ?_
       rintro e W2 ⟨rfl,hb⟩
       first | exact hb | exact ⟨hb,rfl⟩ | exact ⟨rfl,hb⟩
      ·intro a W1 hR hun hdep
       have t9:=hun 9 (by simp)
       simp at t9
       clear hun hdep
       exact opw_load (b:=k9) (o:=0) (gd t9) (Has.later H37 hR.off) (fL _) agg25 size25 ⟨_,rfl,Later.rfl' _,rfl,(fun h=>absurd h (by decide))⟩
      ·intro a W1 hR hun hdep
       have t10:=hun 10 (by simp)
       simp at t10
       clear hun hdep
       exact opw_load (b:=k10) (o:=0) (gd t10) (Has.later H38 hR.off) (fL _) agg25 size25 ⟨_,rfl,Later.rfl' _,rfl,(fun h=>absurd h (by decide))⟩
      ·intro a W1 hR hun hdep
       have d68:=hdep ⟨8,.data⟩ (by simp) rfl
       simp [slotOf] at d68
       have d69:=hdep ⟨9,.data⟩ (by simp) rfl
       simp [slotOf] at d69
       clear hun hdep
       go_simp
       refine (add_v qf17).mono ?_
       rintro e W2 ⟨rfl,hb⟩
       first | exact hb | exact ⟨hb,rfl⟩ | exact ⟨rfl,hb⟩
      ·intro a W1 hR hun hdep
       have d67:=hdep ⟨7,.data⟩ (by simp) rfl
       simp [slotOf] at d67
       have d70:=hdep ⟨10,.data⟩ (by simp) rfl
       simp [slotOf] at d70
       clear hun hdep
       go_simp
       refine (mul_v qf18).mono ?_
       rintro e W2 ⟨rfl,hb⟩
       first | exact hb | exact ⟨hb,rfl⟩ | exact ⟨rfl,hb⟩
      ·intro a W1 hR hun hdep
       have t12:=hun 12 (by simp)
       simp at t12
       clear hun hdep
       exact opw_load (b:=k12) (o:=0) (gd t12) (Has.later H67 hR.off) (fL _) agg25 size25 ⟨_,rfl,Later.rfl' _,rfl,(fun h=>absurd h (by decide))⟩
      ·intro a W1 hR hun hdep
       have t13:=hun 13 (by simp)
       simp at t13
       clear hun hdep
       exact opw_load (b:=k13) (o:=0) (gd t13) (Has.later H68 hR.off) (fL _) agg25 size25 ⟨_,rfl,Later.rfl' _,rfl,(fun h=>absurd h (by decide))⟩
      ·intro a W1 hR hun hdep
       have d72:=hdep ⟨12,.data⟩ (by simp) rfl
       simp [slotOf] at d72
       have d73:=hdep ⟨13,.data⟩ (by simp) rfl
       simp [slotOf] at d73
       clear hun hdep
       go_simp
       refine (mul_v qf19).mono ?_
       rintro e W2 ⟨rfl,hb⟩
       first | exact hb | exact ⟨hb,rfl⟩ | exact ⟨rfl,hb⟩
      ·intro a W1 hR hun hdep
       have d64:=hdep ⟨4,.data⟩ (by simp) rfl
       simp [slotOf] at d64
       have d71:=hdep ⟨11,.data⟩ (by simp) rfl
       simp [slotOf] at d71
       have d74:=hdep ⟨14,.data⟩ (by simp) rfl
       simp [slotOf] at d74
       clear hun hdep
       refine Blind.wp (blind_build30 (gd d64) (gd d71) (gd d74) (fL _) (fL _) (fL _)) ⟨_,rfl,Later.rfl' _,rfl,(fun h=>absurd h (by decide))⟩
     ·intro vs W1 hR hv hfr
      simp only [List.take_succ_cons,List.take_zero,List.drop_succ_cons,List.drop_zero,heads,Option.isSome_some,if_true] at hv ⊢
      obtain ⟨v0,v1,v2,v3,v4,v5,v6,v7,v8,v9,v10,v11,v12,v13,v14,v15,-⟩:=hv
      simp only [finL,Act.put,v0,v1,v2,v3,v4,v5,v6,v7,v8,v9,v10,v11,v12,v13,v14,v15]
      simp only [iA,iB,iC]
      replace hR:=hR.off
      replace C:=C.trans (Chg.of_below hR)
      replace H1:=H1.later hR
      replace H3:=H3.later hR
      replace H4:=H4.later hR
      replace H5:=H5.later hR
      replace H7:=H7.later hR
      replace H8:=H8.later hR
      replace H9:=H9.later hR
      replace H10:=H10.later hR
      replace H16:=H16.later hR
      replace H23:=H23.later hR
      replace H37:=H37.later hR
      replace H38:=H38.later hR
      replace H50:=H50.later hR
      replace H67:=H67.later hR
      replace H68:=H68.later hR
      replace H83:=H83.later hR
      clear hR hfr v0 v1 v2 v3 v4 v5 v6 v7 v8 v9 v10 v11 v12 v13 v14 v15
      refine pG (fun W=>Chg R0 w W∧Has W n1 0 (fl cd)∧Has W (n1 + 1) 0 (fl X)∧Has W (n1 + 1) 16 (fl Y)∧Has W (n1 + 1) 32 (fl Z)∧Has W (n1 + 2) 0 (fl A)∧Has W (n1 + 2) 16 (fl B)∧Has W (n1 + 2) 32 (fl D)∧Room W (n1 + 3) 0 48∧Has W n2 0 (fl f1)∧Has W n3 0 (fl f2)∧Has W k9 0 (fl f3)∧Has W k10 0 (fl f4)∧Has W k11 0 (fl f6)∧Has W k12 0 (fl f7)∧Has W k13 0 (fl f8)∧Has W k14 0 (fl f13)) ⟨C,H1,H3,H4,H5,H7,H8,H9,H10,H16,H23,H37,H38,H50,H67,H68,H83⟩ ?_
      clear C H1 H3 H4 H5 H7 H8 H9 H10 H16 H23 H37 H38 H50 H67 H68 H83
      rintro W ⟨C,H1,H3,H4,H5,H7,H8,H9,H10,H16,H23,H37,H38,H50,H67,H68,H83⟩
      repeat ((fail_if_success with_reducible refine ss 30 ?_);first | go_step | dsimp only)
      refine wS (b:=n1 + 3) (o:=0) (vs:=(fl f15 ++ (fl f18 ++ fl f19))) rfl rfl H10 (len48 (fL _) (fL _) (fL _)) (one48 (fl_one _) (fl_one _) (fl_one _)) size30 ?_
      simp only [Act.put]
      have hc:Chg (Rg (n1 + 3) 0 48) W (World.setCells W (n1 + 3) 0 (fl f15 ++ (fl f18 ++ fl f19))):=by have:=putL_chg (w:=W) (b:=n1 + 3) (o:=0) (vs:=(fl f15 ++ (fl f18 ++ fl f19)));rwa [show ((fl f15 ++ (fl f18 ++ fl f19))).length = 48 from (len48 (fL _) (fL _) (fL _))] at this
      have H84:=putL_has (w:=W) (b:=n1 + 3) (o:=0) (vs:=(fl f15 ++ (fl f18 ++ fl f19))) (by rw [show ((fl f15 ++ (fl f18 ++ fl f19))).length = 48 from (len48 (fL _) (fL _) (fL _))];exact H10)
      replace C:=C.loc hc (by omega)
      replace H1:=H1.keep hc oa
      replace H3:=H3.keep hc oa
      replace H4:=H4.keep hc oa
      replace H5:=H5.keep hc oa
      replace H7:=H7.keep hc oa
      replace H8:=H8.keep hc oa
      replace H9:=H9.keep hc oa
      clear H10
      replace H16:=H16.keep hc oa
      replace H23:=H23.keep hc oa
      replace H37:=H37.keep hc oa
      replace H38:=H38.keep hc oa
      replace H50:=H50.keep hc oa
      replace H67:=H67.keep hc oa
      replace H68:=H68.keep hc oa
      replace H83:=H83.keep hc oa
      clear hc
      obtain ⟨H85,H86,H87⟩:=part48 (fL _) (fL _) H84
      clear H84
      refine pG (fun W=>Chg R0 w W∧Has W n1 0 (fl cd)∧Has W (n1 + 1) 0 (fl X)∧Has W (n1 + 1) 16 (fl Y)∧Has W (n1 + 1) 32 (fl Z)∧Has W (n1 + 2) 0 (fl A)∧Has W (n1 + 2) 16 (fl B)∧Has W (n1 + 2) 32 (fl D)∧Has W n2 0 (fl f1)∧Has W n3 0 (fl f2)∧Has W k9 0 (fl f3)∧Has W k10 0 (fl f4)∧Has W k11 0 (fl f6)∧Has W k12 0 (fl f7)∧Has W k13 0 (fl f8)∧Has W k14 0 (fl f13)∧Has W (n1 + 3) 0 (fl f15)∧Has W (n1 + 3) 16 (fl f18)∧Has W (n1 + 3) 32 (fl f19)) ⟨C,H1,H3,H4,H5,H7,H8,H9,H16,H23,H37,H38,H50,H67,H68,H83,H85,H86,H87⟩ ?_
      clear C H1 H3 H4 H5 H7 H8 H9 H16 H23 H37 H38 H50 H67 H68 H83 H85 H86 H87
      rintro W ⟨C,H1,H3,H4,H5,H7,H8,H9,H16,H23,H37,H38,H50,H67,H68,H83,H85,H86,H87⟩
      go_wp2_with fail
      obtain rfl:=qf19.out
      obtain rfl:=qf18.out
      obtain rfl:=qf17.out
      obtain rfl:=qf16.out
      obtain rfl:=qf15.out
      obtain rfl:=qf14.out
      obtain rfl:=qf13.out
      obtain rfl:=qf12.out
      obtain rfl:=qf11.out
      obtain rfl:=qf10.out
      obtain rfl:=qf9.out
      obtain rfl:=qf8.out
      obtain rfl:=qf7.out
      obtain rfl:=qf6.out
      obtain rfl:=qf5.out
      obtain rfl:=qf4.out
      obtain rfl:=qf3.out
      obtain rfl:=qf2.out
      obtain rfl:=qf1.out
      exact ret_cell (b:=n1 + 3) (o:=0) Tryz.results12 rfl (join48 (fL _) (fL _) H85 H86 H87) (len48 (fL _) (fL _) (fL _)) agg30 size30 rfl ⟨by rw [hx.out,hy.out,hz.out];rfl,C.r0⟩
theorem none_v {w:World}:Calls Tryz.prog 27 #[] w (fun e w'=>e = .returned (.agg (fl 0 ++ (fl 1 ++ fl 1)).toArray)∧Below w.heap.size w w'):=by
 have C:Chg R0 w w:=.refl _ _
 go_enter Tryz.func27,Tryz.ntmps27
 go_wp2_with fail
 obtain ⟨n1,ln1⟩:∃ n,w.heap.size = n:=⟨_,rfl⟩
 rw [ln1]
 have hb:=aB [Obj.cells (List.replicate 48 (.int .u32 0)).toArray 30] w
 have zn1:w.heap.size ≤ n1:=ln1 ▸ C.size
 replace C:=C.trans (Chg.of_below hb)
 have H1:=(aH [Obj.cells (List.replicate 48 (.int .u32 0)).toArray 30] w 0 _ _ rfl).room (n:=48) rfl
 rw [ln1] at H1
 simp only [Nat.add_zero] at H1
 refine cG (fun W=>Chg R0 w W∧Room W n1 0 48) ⟨C,H1⟩ ?_
 clear C H1 hb ln1
 rintro W ⟨C,H1⟩
 refine (small_f (x:=1) (f:=1) (by omega) (by decide) (by decide +kernel)).mono ?_
 rintro e W ⟨rfl,hb⟩
 replace C:=C.trans (Chg.of_below hb)
 replace H1:=H1.later hb
 clear hb
 go_wp2_with fail
 refine (small_f (x:=1) (f:=1) (by omega) (by decide) (by decide +kernel)).mono ?_
 rintro e W ⟨rfl,hb⟩
 replace C:=C.trans (Chg.of_below hb)
 replace H1:=H1.later hb
 clear hb
 repeat ((fail_if_success show wpList _ _ _ (⟨_,.build _ _,_,_,_,_⟩ :: _) _ _);(first | go_step | dsimp only))
 refine wpList_blind rfl (blind_build30 rfl rfl rfl z0_length (fL _) (fL _)) ?_
 simp only [Act.put,iA,iB,iC]
 repeat ((fail_if_success with_reducible refine ss 30 ?_);first | go_step | dsimp only)
 refine wS (b:=n1) (o:=0) (vs:=(z0 ++ (fl 1 ++ fl 1))) rfl rfl H1 (len48 z0_length (fL _) (fL _)) (one48 z0_one (fl_one _) (fl_one _)) size30 ?_
 simp only [Act.put]
 have hc:Chg (Rg n1 0 48) W (World.setCells W n1 0 (z0 ++ (fl 1 ++ fl 1))):=by have:=putL_chg (w:=W) (b:=n1) (o:=0) (vs:=(z0 ++ (fl 1 ++ fl 1)));rwa [show ((z0 ++ (fl 1 ++ fl 1))).length = 48 from (len48 z0_length (fL _) (fL _))] at this
 have H2:=putL_has (w:=W) (b:=n1) (o:=0) (vs:=(z0 ++ (fl 1 ++ fl 1))) (by rw [show ((z0 ++ (fl 1 ++ fl 1))).length = 48 from (len48 z0_length (fL _) (fL _))];exact H1)
 replace C:=C.loc hc (by omega)
 clear H1
 clear hc
 obtain ⟨H3,H4,H5⟩:=part48 z0_length (fL _) H2
 clear H2
 refine pG (fun W=>Chg R0 w W∧Has W n1 0 z0∧Has W n1 16 (fl 1)∧Has W n1 32 (fl 1)) ⟨C,H3,H4,H5⟩ ?_
 clear C H3 H4 H5
 rintro W ⟨C,H3,H4,H5⟩
 go_wp2_with fail
 exact ret_cell (b:=n1) (o:=0) Tryz.results27 rfl (join48 z0_length (fL _) H3 H4 H5) (len48 z0_length (fL _) (fL _)) agg30 size30 rfl ⟨by rw [z0_fl],C.r0⟩
end Go.Proofs.Ed
