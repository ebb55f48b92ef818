/- A part of the proof of the tied card of FnTimes: Venc, Jn, Lw3, Lw1, Sc0. -/
import Derived.Test.YtcogfofgmbndjaaGreatDoorProg
import Derived.WalkKit
import Derived.WalkSpells
import Derived.WalkLawsBesides
import Derived.Outline
import Derived.StillTailTactics
import Derived.Laws.IdiomStrings
import Derived.Test.YtcogfofgmbndjaaGreatDoorTBd
import Derived.Test.YtcogfofgmbndjaaGreatDoorTAu
import Derived.Test.YtcogfofgmbndjaaGreatDoorTAy
import Derived.Test.YtcogfofgmbndjaaGreatDoorTAz
import Derived.Test.YtcogfofgmbndjaaGreatDoorTAv
import Derived.Test.YtcogfofgmbndjaaGreatDoorTAw
import Derived.Test.YtcogfofgmbndjaaGreatDoorTAe
set_option maxRecDepth 100000
set_option maxHeartbeats 40000000
namespace Go.Proofs.Ed
open Go.RowKit
theorem bytesF_v {f:F} {w:World}:Calls Tryz.prog 8 #[.agg (fl f).toArray] w (fun e w'=>∃ k,w.heap.size ≤ k∧e = .returned (.slice (some ⟨k,0,none⟩) 32 32)∧Below w.heap.size w w'∧Has w' k 0 (by32 ((Fin.val f:Nat):Int))∧TY w' k 5):=by
 rw [fl_nl];exact bytes_v
theorem by32_hi {n:Int} (hn:0 ≤ n∧n < 57896044618658097711785492504343953926634992332820282019728792003956564819968):(by32 n).set 31 (.int .u8 (n / 452312848583266388373324160190187140051835877600158453279131187530910662656 + 128)) = by32 (n + 57896044618658097711785492504343953926634992332820282019728792003956564819968):=by
 simp only [by32,by8,List.cons_append,List.nil_append,List.set_cons_succ,List.set_cons_zero,List.cons.injEq,Value.int.injEq,true_and,and_true]
 refine ⟨?_,?_,?_,?_,?_,?_,?_,?_,?_,?_,?_,?_,?_,?_,?_,?_,?_,?_,?_,?_,?_,?_,?_,?_,?_,?_,?_,?_,?_,?_,?_,?_⟩<;>omega
theorem or_top {c:Int} (h:0 ≤ c∧c < 128):bits BinOp.or IntKind.u8 c 128 = c + 128:=u8_or128_right c h.1 h.2
def encI (t:T3):Int:=((Fin.val (t.2.1 * inv t.2.2):Nat):Int) + 57896044618658097711785492504343953926634992332820282019728792003956564819968 * odd (t.1 * inv t.2.2)
theorem encI_P {t:T3} {p:Pt} (h:PJ t p):encI t = encP p:=by
 obtain ⟨h1,h2,h3⟩:=h
 have:=mul_inv h1
 unfold encI encP
 rw [show t.2.1 * inv t.2.2 = p.y by rw [h3];grind,show t.1 * inv t.2.2 = p.x by rw [h2];grind]
theorem encI_0 {t:T3} {y x:F} (hy:y = t.2.1 * inv t.2.2) (hx:x = t.1 * inv t.2.2) (ho:¬ odd x = 1):encI t = ((Fin.val y:Nat):Int):=by
 subst hy hx
 unfold encI
 rcases odd_cases (t.1 * inv t.2.2) with h | h
 ·rw [h];omega
 ·exact absurd h ho
theorem encI_1 {t:T3} {y x:F} (hy:y = t.2.1 * inv t.2.2) (hx:x = t.1 * inv t.2.2) (ho:odd x = 1):encI t = ((Fin.val y:Nat):Int) + 57896044618658097711785492504343953926634992332820282019728792003956564819968:=by
 subst hy hx
 unfold encI
 rw [ho];omega
attribute [irreducible] encI
theorem encode_v {t:T3} {n:Int} {w:World} (h:Hd (n = encI t)):Calls Tryz.prog 11 #[.agg (fl cd).toArray,.agg ((fl t.1 ++ (fl t.2.1 ++ fl t.2.2))).toArray] w (fun e w'=>∃ k,w.heap.size ≤ k∧e = .returned (.slice (some ⟨k,0,none⟩) 32 32)∧Below w.heap.size w w'∧Has w' k 0 (by32 n)):=by
 have C:Chg R0 w w:=.refl _ _
 go_enter Tryz.func11,Tryz.ntmps11
 repeat ((fail_if_success with_reducible refine sl 25 ?_);first | go_step | dsimp only)
 obtain ⟨n1,ln1⟩:∃ n,w.heap.size = n:=⟨_,rfl⟩
 rw [ln1]
 have hb:=aB [Obj.cells (fl cd).toArray 27,Obj.cells ((fl t.1 ++ (fl t.2.1 ++ fl t.2.2))).toArray 30] w
 have zn1:w.heap.size ≤ n1:=ln1 ▸ C.size
 replace C:=C.trans (Chg.of_below hb)
 have H1:=aH [Obj.cells (fl cd).toArray 27,Obj.cells ((fl t.1 ++ (fl t.2.1 ++ fl t.2.2))).toArray 30] w 0 _ _ rfl
 rw [ln1] at H1
 simp only [Nat.add_zero] at H1
 have H2:=aH [Obj.cells (fl cd).toArray 27,Obj.cells ((fl t.1 ++ (fl t.2.1 ++ fl t.2.2))).toArray 30] w 1 _ _ rfl
 rw [ln1] at H2
 obtain ⟨H3,H4,H5⟩:=part48 (fL _) (fL _) H2
 clear H2
 refine pG (fun W=>Chg R0 w W∧Has W n1 0 (fl cd)∧Has W (n1 + 1) 0 (fl t.1)∧Has W (n1 + 1) 16 (fl t.2.1)∧Has W (n1 + 1) 32 (fl t.2.2)) ⟨C,H1,H3,H4,H5⟩ ?_
 clear C H1 H3 H4 H5 hb ln1
 rintro W ⟨C,H1,H3,H4,H5⟩
 refine wL (b:=n1 + 1) (o:=32) rfl H5 (fL _) agg25 size25 ?_
 simp only [Act.put,iA,iB,iC]
 obtain ⟨f1,qf1⟩:∃ g:F,g = inv t.2.2:=⟨_,rfl⟩
 replace qf1:=hd qf1
 go_wp2_with fail
 refine (inv_v qf1).mono ?_
 rintro e W ⟨rfl,hb⟩
 replace C:=C.trans (Chg.of_below hb)
 replace H1:=H1.later hb
 replace H3:=H3.later hb
 replace H4:=H4.later hb
 replace H5:=H5.later hb
 clear hb
 repeat ((fail_if_success with_reducible refine ss 25 ?_);first | go_step | dsimp only)
 obtain ⟨n2,ln2⟩:∃ n,W.heap.size = n:=⟨_,rfl⟩
 rw [ln2]
 have hb:=aB [Obj.cells (List.replicate 16 (.int .u32 0)).toArray 25] W
 have zn2:w.heap.size ≤ n2:=ln2 ▸ C.size
 have y6:n1 < n2:=ln2 ▸ H1.lt (by rw [fL];decide)
 have y7:n1 + 1 < n2:=ln2 ▸ H3.lt (by rw [fL];decide)
 replace C:=C.trans (Chg.of_below hb)
 replace H1:=H1.later hb
 replace H3:=H3.later hb
 replace H4:=H4.later hb
 replace H5:=H5.later hb
 have H8:=(aH [Obj.cells (List.replicate 16 (.int .u32 0)).toArray 25] W 0 _ _ rfl).room (n:=16) rfl
 rw [ln2] at H8
 simp only [Nat.add_zero] at H8
 refine pG (fun W=>Chg R0 w W∧Has W n1 0 (fl cd)∧Has W (n1 + 1) 0 (fl t.1)∧Has W (n1 + 1) 16 (fl t.2.1)∧Has W (n1 + 1) 32 (fl t.2.2)∧Room W n2 0 16) ⟨C,H1,H3,H4,H5,H8⟩ ?_
 clear C H1 H3 H4 H5 H8 hb ln2
 rintro W ⟨C,H1,H3,H4,H5,H8⟩
 refine wS (b:=n2) (o:=0) (vs:=fl f1) rfl rfl H8 (fL _) (fl_one _) size25 ?_
 simp only [Act.put]
 have hc:Chg (Rg n2 0 16) W (World.setCells W n2 0 (fl f1)):=by have:=putL_chg (w:=W) (b:=n2) (o:=0) (vs:=fl f1);rwa [show (fl f1).length = 16 from (fL _)] at this
 have H9:=putL_has (w:=W) (b:=n2) (o:=0) (vs:=fl f1) (by rw [show (fl f1).length = 16 from (fL _)];exact H8)
 replace C:=C.loc hc (by omega)
 replace H1:=H1.keep hc oa
 replace H3:=H3.keep hc oa
 replace H4:=H4.keep hc oa
 replace H5:=H5.keep hc oa
 clear H8
 clear hc
 refine pG (fun W=>Chg R0 w W∧Has W n1 0 (fl cd)∧Has W (n1 + 1) 0 (fl t.1)∧Has W (n1 + 1) 16 (fl t.2.1)∧Has W (n1 + 1) 32 (fl t.2.2)∧Has W n2 0 (fl f1)) ⟨C,H1,H3,H4,H5,H9⟩ ?_
 clear C H1 H3 H4 H5 H9
 rintro W ⟨C,H1,H3,H4,H5,H9⟩
 repeat ((fail_if_success with_reducible refine sl 25 ?_);first | go_step | dsimp only)
 refine wL (b:=n1 + 1) (o:=16) rfl H4 (fL _) agg25 size25 ?_
 simp only [Act.put,iA,iB,iC]
 repeat ((fail_if_success with_reducible refine sl 25 ?_);first | go_step | dsimp only)
 refine wL (b:=n2) (o:=0) rfl H9 (fL _) agg25 size25 ?_
 simp only [Act.put,iA,iB,iC]
 obtain ⟨f2,qf2⟩:∃ g:F,g = t.2.1 * f1:=⟨_,rfl⟩
 replace qf2:=hd qf2
 go_wp2_with fail
 refine (mul_v qf2).mono ?_
 rintro e W ⟨rfl,hb⟩
 replace C:=C.trans (Chg.of_below hb)
 replace H1:=H1.later hb
 replace H3:=H3.later hb
 replace H4:=H4.later hb
 replace H5:=H5.later hb
 replace H9:=H9.later hb
 clear hb
 go_wp2_with fail
 refine (bytesF_v (f:=f2)).mono ?_
 rintro e W ⟨n3,ln3,rfl,hb,H13,-⟩
 have zn3:w.heap.size ≤ n3:=Nat.le_trans C.size ln3
 have y10:n1 < n3:=Nat.lt_of_lt_of_le (H1.lt (by rw [fL];decide)) ln3
 have y11:n1 + 1 < n3:=Nat.lt_of_lt_of_le (H3.lt (by rw [fL];decide)) ln3
 have y12:n2 < n3:=Nat.lt_of_lt_of_le (H9.lt (by rw [fL];decide)) ln3
 replace C:=C.trans (Chg.of_below hb)
 replace H1:=H1.later hb
 replace H3:=H3.later hb
 replace H4:=H4.later hb
 replace H5:=H5.later hb
 replace H9:=H9.later hb
 clear hb ln3
 by_cases ho:odd (t.1 * f1) = 1
 ·replace ho:=hd ho
  repeat ((fail_if_success with_reducible refine sl 25 ?_);first | go_step | dsimp only)
  refine wL (b:=n1 + 1) (o:=0) rfl H3 (fL _) agg25 size25 ?_
  simp only [Act.put,iA,iB,iC]
  repeat ((fail_if_success with_reducible refine sl 25 ?_);first | go_step | dsimp only)
  refine wL (b:=n2) (o:=0) rfl H9 (fL _) agg25 size25 ?_
  simp only [Act.put,iA,iB,iC]
  obtain ⟨f3,qf3⟩:∃ g:F,g = t.1 * f1:=⟨_,rfl⟩
  replace qf3:=hd qf3
  go_wp2_with fail
  refine (mul_v qf3).mono ?_
  rintro e W ⟨rfl,hb⟩
  replace C:=C.trans (Chg.of_below hb)
  replace H1:=H1.later hb
  replace H3:=H3.later hb
  replace H4:=H4.later hb
  replace H5:=H5.later hb
  replace H9:=H9.later hb
  replace H13:=H13.later hb
  clear hb
  go_wp2_with fail
  refine (odd_t (hd (by rw [qf3.out];exact ho.out))).mono ?_
  rintro e W ⟨rfl,hb⟩
  replace C:=C.trans (Chg.of_below hb)
  replace H1:=H1.later hb
  replace H3:=H3.later hb
  replace H4:=H4.later hb
  replace H5:=H5.later hb
  replace H9:=H9.later hb
  replace H13:=H13.later hb
  clear hb
  have vb:=F.val_bd f2
  have c31:=by32_31 (n:=((Fin.val f2:Nat):Int)) (by omega)
  have h31:=H13 31 (by rw [by32_length];decide)
  rw [Nat.zero_add,c31] at h31
  have hs:=H13.set 31 (by omega:31 = 0 + 31) (.int .u8 (((Fin.val f2:Nat):Int) / 452312848583266388373324160190187140051835877600158453279131187530910662656 + 128))
  rw [by32_hi (by omega)] at hs
  have or1:=or_top (c:=((Fin.val f2:Nat):Int) / 452312848583266388373324160190187140051835877600158453279131187530910662656) (by omega)
  obtain ⟨c,qc⟩:∃ c,((Fin.val f2:Nat):Int) / 452312848583266388373324160190187140051835877600158453279131187530910662656 = c:=⟨_,rfl⟩
  rw [qc] at h31 hs or1
  replace hs:=hd hs
  clear vb c31 qc
  have H13:=hd H13
  go_wp2_with fail
  go_ret
  have hr:=h.out
  rw [encI_1 (t:=t) (y:=f2) (x:=f3) (by rw [qf2.out,qf1.out]) (by rw [qf3.out,qf1.out]) (by rw [qf3.out];exact ho.out)] at hr
  exact ⟨n3,by omega,rfl,(C.setCell _ (fun h=>absurd h (Nat.not_lt.2 (by omega)))).r0,by rw [hr];exact hs.out⟩
 ·replace ho:=hd ho
  repeat ((fail_if_success with_reducible refine sl 25 ?_);first | go_step | dsimp only)
  refine wL (b:=n1 + 1) (o:=0) rfl H3 (fL _) agg25 size25 ?_
  simp only [Act.put,iA,iB,iC]
  repeat ((fail_if_success with_reducible refine sl 25 ?_);first | go_step | dsimp only)
  refine wL (b:=n2) (o:=0) rfl H9 (fL _) agg25 size25 ?_
  simp only [Act.put,iA,iB,iC]
  obtain ⟨f3,qf3⟩:∃ g:F,g = t.1 * f1:=⟨_,rfl⟩
  replace qf3:=hd qf3
  go_wp2_with fail
  refine (mul_v qf3).mono ?_
  rintro e W ⟨rfl,hb⟩
  replace C:=C.trans (Chg.of_below hb)
  replace H1:=H1.later hb
  replace H3:=H3.later hb
  replace H4:=H4.later hb
  replace H5:=H5.later hb
  replace H9:=H9.later hb
  replace H13:=H13.later hb
  clear hb
  go_wp2_with fail
  refine (odd_n (hd (by rw [qf3.out];exact ho.out))).mono ?_
  rintro e W ⟨rfl,hb⟩
  replace C:=C.trans (Chg.of_below hb)
  replace H1:=H1.later hb
  replace H3:=H3.later hb
  replace H4:=H4.later hb
  replace H5:=H5.later hb
  replace H9:=H9.later hb
  replace H13:=H13.later hb
  clear hb
  go_wp2_with fail
  go_ret
  have hr:=h.out
  rw [encI_0 (t:=t) (y:=f2) (x:=f3) (by rw [qf2.out,qf1.out]) (by rw [qf3.out,qf1.out]) (by rw [qf3.out];exact ho.out)] at hr
  exact ⟨n3,by omega,rfl,C.r0,by rw [hr];exact H13⟩
theorem byF_lt (n k:Nat):∀ j,byF n k j < 256:=fun j=>by unfold byF;split;exact Nat.mod_lt _ (by decide);decide
theorem bnum_byF (n:Nat):∀ k,k ≤ 32→bnum (byF n 32) k = n % 2 ^ (8 * k)
 | 0,_=>by rw [bnum_zero];simp [Nat.mod_one]
 | k + 1,h=>by
  rw [bnum_succ,bnum_byF n k (by omega),show 8 * (k + 1) = 8 * k + 8 by omega,Nat.pow_add,Nat.mod_mul]
  unfold byF
  rw [if_pos (by omega)]
theorem gy_eq {a:F} (h:a = 4 * inv 5):a = gy:=by
 have h5:(5:F) * inv 5 = 1:=mul_inv (by decide +kernel)
 have h4:gy * 5 = 4:=by unfold gy;decide +kernel
 rw [h,←h4,show gy * 5 * inv 5 = gy * (5 * inv 5) by grind,h5];grind
theorem bnum_byF_all {f:F}:bnum (byF (Fin.val f) 32) 32 = Fin.val f:=by
 rw [bnum_byF _ _ (by decide)]
 exact Nat.mod_eq_of_lt (Nat.lt_of_lt_of_le f.isLt (by decide +kernel))
theorem gx_even:¬ odd gx = 1:=by decide +kernel
theorem gx_ne:gx ≠ 0:=by decide +kernel
theorem base_rt:spRt (gy * gy - 1) (cd * (gy * gy) + 1) = (gx,true):=by
 have hv:cd * (gy * gy) + 1 ≠ 0:=v_ne' gy
 have hu:gy * gy - 1 = gx * gx * (cd * (gy * gy) + 1):=by
  have:=on_uv on_g
  rw [this];grind
 have hx:gx * gx = (gy * gy - 1) * inv (cd * (gy * gy) + 1):=by
  have:=mul_inv hv
  rw [hu]
  generalize cd * (gy * gy) + 1 = v at *
  grind
 have hr:=rtF_sq gx
 have ha:absF gx = gx:=by unfold absF;rw [if_neg gx_even]
 rw [ha] at hr
 refine spRt_1 (x:=gx * gx) ?_ hx hr.1.symm rfl
 rw [hu]
 exact mul_ne_zero (mul_ne_zero gx_ne gx_ne) hv
theorem base_dec {n:Nat} {f:F} {t:T3} {b:Bool} (hn:Fin.val f = n) (hf:f = gy) (h:decS n = (t,b)):t = (gx,gy,1):=by
 have e:=decS_s (n:=n) (y:=gy) (r:=gx) (by
  have h1:n < HH:=by rw [←hn];exact Nat.lt_trans f.isLt (by decide +kernel)
  rw [Nat.mod_eq_of_lt h1,←hn,hf,el_surj]) rfl rfl base_rt (by
  have h1:n < 2 ^ 255:=by rw [←hn];exact Nat.lt_trans f.isLt (by decide +kernel)
  rw [Nat.div_eq_of_lt h1]
  have:=gx_even
  rcases odd_cases gx with h | h
  ·exact h
  ·exact absurd h this)
 rw [e,Prod.mk.injEq] at h
 exact h.1.symm
theorem base_v {w:World}:Calls Tryz.prog 10 #[.agg (fl cd).toArray] w (fun e w'=>e = .returned (.agg (fl gx ++ (fl gy ++ fl 1)).toArray)∧Below w.heap.size w w'):=by
 have C:Chg R0 w w:=.refl _ _
 go_enter Tryz.func10,Tryz.ntmps10
 go_wp2_with fail
 obtain ⟨n1,ln1⟩:∃ n,w.heap.size = n:=⟨_,rfl⟩
 rw [ln1]
 have hb:=aB [Obj.cells (fl cd).toArray 27,Obj.cells (List.replicate 48 (.int .u32 0)).toArray 30] w
 have zn1:w.heap.size ≤ n1:=ln1 ▸ C.size
 replace C:=C.trans (Chg.of_below hb)
 have H1:=aH [Obj.cells (fl cd).toArray 27,Obj.cells (List.replicate 48 (.int .u32 0)).toArray 30] w 0 _ _ rfl
 rw [ln1] at H1
 simp only [Nat.add_zero] at H1
 have H2:=(aH [Obj.cells (fl cd).toArray 27,Obj.cells (List.replicate 48 (.int .u32 0)).toArray 30] w 1 _ _ rfl).room (n:=48) rfl
 rw [ln1] at H2
 refine wp_gen (fun W=>Chg R0 w W∧Has W n1 0 (fl cd)∧Room W (n1 + 1) 0 48) ⟨C,H1,H2⟩ ?_
 clear C H1 H2 hb ln1
 rintro W ⟨C,H1,H2⟩
 obtain ⟨n2,ln2⟩:∃ n,W.heap.size = n:=⟨_,rfl⟩
 have zn2:w.heap.size ≤ n2:=ln2 ▸ C.size
 have y3:n1 < n2:=ln2 ▸ H1.lt (by rw [fL];decide)
 have y4:n1 + 1 < n2:=ln2 ▸ H2.lt (by decide)
 replace ln2:=hd ln2
 obtain ⟨f1,qf1⟩:∃ g:F,g = inv 5:=⟨_,rfl⟩
 replace qf1:=hd qf1
 obtain ⟨f2,qf2⟩:∃ g:F,g = 4 * f1:=⟨_,rfl⟩
 replace qf2:=hd qf2
 obtain ⟨f3,qf3⟩:∃ g:Nat,g = bnum (byF (Fin.val f2) 32) 32:=⟨_,rfl⟩
 replace qf3:=hd qf3
 obtain ⟨t4,b4,q4⟩:∃ t b,decS f3 = (t,b):=⟨_,_,rfl⟩
 replace q4:=hd q4
 refine region_late 12 [10] 11 10 n2 (fl t4.1 ++ (fl t4.2.1 ++ fl t4.2.2)) (by32 ((Fin.val f2:Nat):Int)) (by kernel_rfl) (by kernel_rfl) (by kernel_rfl) (fun o ho=>by simp at ho;subst ho;exact ⟨⟨10,.data⟩,by simp,rfl,rfl⟩)
  (fun i vv W=>match i with
   | 0=>vv = .agg (fl cd).toArray
   | 1=>vv = .agg (fl 4).toArray
   | 2=>vv = .agg (fl 5).toArray
   | 3=>vv = .agg (fl f1).toArray
   | 4=>vv = .agg (fl f2).toArray
   | 5=>∃ k,vv = .slice (some ⟨k,0,none⟩) 32 32∧n2 ≤ k∧Has W k 0 (by32 ((Fin.val f2:Nat):Int))∧TY W k 5
   | 6=>vv = .tuple #[.agg ((fl t4.1 ++ (fl t4.2.1 ++ fl t4.2.2))).toArray,.bool b4]
   | 7=>vv = .tuple #[.agg ((fl t4.1 ++ (fl t4.2.1 ++ fl t4.2.2))).toArray,.bool b4]
   | 8=>vv = .agg ((fl t4.1 ++ (fl t4.2.1 ++ fl t4.2.2))).toArray
   | 9=>vv = .bool b4
   | 10=>∃ k,vv = Ptr k 0∧n2 ≤ k∧Room W k 0 48∧TY W k 30
   | 11=>True
   | _=>True) ?_ ?_ ?_
 ·intro i v u u' h hb
  split at h
  ·exact h
  ·exact h
  ·exact h
  ·exact h
  ·exact h
  ·obtain ⟨k,h1,h2,h3,h4⟩:=h;exact ⟨k,h1,h2,hb.2.2 k h4 h3,hb.1.ty h4⟩
  ·exact h
  ·exact h
  ·exact h
  ·exact h
  ·obtain ⟨k,h1,h2,h3,h4⟩:=h;exact ⟨k,h1,h2,hb.1.room h3,hb.1.ty h4⟩
  ·trivial
  ·trivial
 ·simp only [List.take_succ_cons,List.take_zero,heads]
  refine ⟨?_,?_,?_,?_,?_,?_,?_,?_,?_,?_,?_,?_,trivial⟩
  ·intro a W1 hR hun hdep
   have t1:=hun 1 (by simp)
   simp at t1
   clear hun hdep
   exact opw_load (b:=n1) (o:=0) (gd t1) (RN.keep hR H1 (by omega)) (fL _) agg27 size27 ⟨_,rfl,RN.refl _ _ _ _,rfl,(fun h=>absurd h (by decide)),(fun h=>absurd h (by decide))⟩
  ·intro a W1 hR hun hdep
   clear hun hdep
   go_simp
   refine (small_f (x:=4) (f:=4) (by omega) (by decide) (by decide +kernel)).mono ?_
   rintro e W2 ⟨rfl,hb⟩
   first | exact RN.of_below hb | exact ⟨RN.of_below hb,rfl⟩ | exact ⟨rfl,RN.of_below hb⟩
  ·intro a W1 hR hun hdep
   clear hun hdep
   go_simp
   refine (small_f (x:=5) (f:=5) (by omega) (by decide) (by decide +kernel)).mono ?_
   rintro e W2 ⟨rfl,hb⟩
   first | exact RN.of_below hb | exact ⟨RN.of_below hb,rfl⟩ | exact ⟨rfl,RN.of_below hb⟩
  ·intro a W1 hR hun hdep
   have d8:=hdep ⟨2,.data⟩ (by simp) rfl
   simp [slotOf] at d8
   clear hun hdep
   go_simp
   refine (inv_v qf1).mono ?_
   rintro e W2 ⟨rfl,hb⟩
   first | exact RN.of_below hb | exact ⟨RN.of_below hb,rfl⟩ | exact ⟨rfl,RN.of_below hb⟩
  ·intro a W1 hR hun hdep
   have d7:=hdep ⟨1,.data⟩ (by simp) rfl
   simp [slotOf] at d7
   have d9:=hdep ⟨3,.data⟩ (by simp) rfl
   simp [slotOf] at d9
   clear hun hdep
   go_simp
   refine (mul_v qf2).mono ?_
   rintro e W2 ⟨rfl,hb⟩
   first | exact RN.of_below hb | exact ⟨RN.of_below hb,rfl⟩ | exact ⟨rfl,RN.of_below hb⟩
  ·intro a W1 hR hun hdep
   have d10:=hdep ⟨4,.data⟩ (by simp) rfl
   simp [slotOf] at d10
   clear hun hdep
   have hle:n2 ≤ W1.heap.size:=ln2.out ▸ hR.1.size
   go_simp
   refine (bytesF_v (f:=f2)).mono ?_
   rintro e W2 ⟨k,hk,rfl,hb,hv,ht⟩
   first | exact ⟨_,rfl,RN.of_below hb,⟨k,rfl,by omega,hv,ht⟩⟩ | exact ⟨RN.of_below hb,⟨k,⟨rfl,rfl⟩,by omega,hv,ht⟩⟩ | exact ⟨RN.of_below hb,⟨k,rfl,by omega,hv,ht⟩⟩ | exact ⟨⟨k,rfl,by omega,hv,ht⟩,RN.of_below hb⟩
  ·intro a W1 hR hun hdep
   have d6:=hdep ⟨0,.data⟩ (by simp) rfl
   simp [slotOf] at d6
   obtain ⟨k11,e1,hk11,hm11,ht11⟩:=hdep ⟨5,.data⟩ (by simp) rfl
   have d11:=e1
   simp [slotOf] at d11
   clear hun hdep
   go_simp
   refine (decode_v (t:=t4) (b:=b4) (by decide) (byF_lt _ 32) (by rw [by32_byL];exact hm11) qf3 q4).mono ?_
   rintro e W2 ⟨rfl,hb⟩
   first | exact RN.of_below hb | exact ⟨RN.of_below hb,rfl⟩ | exact ⟨rfl,RN.of_below hb⟩
  ·intro a W1 hR hun hdep
   have d12:=hdep ⟨6,.data⟩ (by simp) rfl
   simp [slotOf] at d12
   clear hun hdep
   go_simp
   exact RN.refl _ _ _ _
  ·intro a W1 hR hun hdep
   have d5:=hdep ⟨7,.data⟩ (by simp) rfl
   simp [slotOf] at d5
   clear hun hdep
   go_simp
   exact RN.refl _ _ _ _
  ·intro a W1 hR hun hdep
   have d5:=hdep ⟨7,.data⟩ (by simp) rfl
   simp [slotOf] at d5
   clear hun hdep
   go_simp
   exact RN.refl _ _ _ _
  ·intro a W1 hR hun hdep
   clear hun hdep
   have hle:n2 ≤ W1.heap.size:=ln2.out ▸ hR.1.size
   exact opw_alloc alloc30 ⟨_,rfl,RN.of_below (bA _ _),⟨_,rfl,hle,(box_has W1 _ 30).room rfl,TY.new _ _ _⟩,fun _=>⟨rfl,by rw [size_alloc];omega,rfl⟩,(fun h=>absurd h (by decide))⟩
  ·intro a W1 hR hun hdep
   obtain ⟨k,e1,hk,hm,ht⟩:=hdep ⟨10,.data⟩ (by simp) rfl
   have d3:=e1
   simp [slotOf] at d3
   have d13:=hdep ⟨8,.data⟩ (by simp) rfl
   simp [slotOf] at d13
   clear hun hdep
   exact opw_store (b:=k) (o:=0) (gd d3) (gd d13) hm (len48 (fL _) (fL _) (fL _)) (one48 (fl_one _) (fl_one _) (fl_one _)) size30 ⟨undef,rfl,(RN.store hm (len48 (fL _) (fL _) (fL _)) hk ht (by decide)).1,trivial,(fun h=>absurd h (by decide)),fun _=>⟨k,e1,(RN.store (us:=[]) hm (len48 (fL _) (fL _) (fL _)) hk ht (by decide)).2⟩⟩
 ·intro vs W1 hR hv hfr hps
  simp only [List.take_succ_cons,List.take_zero,List.drop_succ_cons,List.drop_zero,heads,Option.isSome_some,if_true] at hv ⊢
  obtain ⟨v0,v1,v2,v3,v4,v5,v6,v7,v8,v9,v10,v11,-⟩:=hv
  obtain ⟨k3,v10,y5,-⟩:=v10
  obtain ⟨kx5,v5,-⟩:=v5
  obtain ⟨k,e1,H6⟩:=hps (by decide)
  rw [v10] at e1
  cases e1
  simp only [finL,Act.put,v0,v1,v2,v3,v4,v5,v6,v7,v8,v9,v10]
  simp only [iA,iB,iC]
  replace H1:=RN.keep hR H1 (by omega)
  replace H2:=RN.room hR H2
  replace C:=RN.chg C hR (by omega)
  clear hR hfr hps v0 v1 v2 v3 v4 v5 v6 v7 v8 v9 v10 v11
  obtain ⟨H7,H8,H9⟩:=part48 (fL _) (fL _) H6
  clear H6
  have z10:w.heap.size ≤ k3:=by omega
  refine pG (fun W=>Chg R0 w W∧Has W n1 0 (fl cd)∧Room W (n1 + 1) 0 48∧Has W k3 0 (fl t4.1)∧Has W k3 16 (fl t4.2.1)∧Has W k3 32 (fl t4.2.2)) ⟨C,H1,H2,H7,H8,H9⟩ ?_
  clear C H1 H2 H7 H8 H9
  rintro W ⟨C,H1,H2,H7,H8,H9⟩
  repeat ((fail_if_success with_reducible refine sl 30 ?_);first | go_step | dsimp only)
  refine wL (b:=k3) (o:=0) rfl (join48 (fL _) (fL _) H7 H8 H9) (len48 (fL _) (fL _) (fL _)) agg30 size30 ?_
  simp only [Act.put,iA,iB,iC]
  repeat ((fail_if_success with_reducible refine ss 30 ?_);first | go_step | dsimp only)
  refine wS (b:=n1 + 1) (o:=0) (vs:=(fl t4.1 ++ (fl t4.2.1 ++ fl t4.2.2))) rfl rfl H2 (len48 (fL _) (fL _) (fL _)) (one48 (fl_one _) (fl_one _) (fl_one _)) size30 ?_
  simp only [Act.put]
  have hc:Chg (Rg (n1 + 1) 0 48) W (World.setCells W (n1 + 1) 0 (fl t4.1 ++ (fl t4.2.1 ++ fl t4.2.2))):=by have:=putL_chg (w:=W) (b:=n1 + 1) (o:=0) (vs:=(fl t4.1 ++ (fl t4.2.1 ++ fl t4.2.2)));rwa [show ((fl t4.1 ++ (fl t4.2.1 ++ fl t4.2.2))).length = 48 from (len48 (fL _) (fL _) (fL _))] at this
  have H11:=putL_has (w:=W) (b:=n1 + 1) (o:=0) (vs:=(fl t4.1 ++ (fl t4.2.1 ++ fl t4.2.2))) (by rw [show ((fl t4.1 ++ (fl t4.2.1 ++ fl t4.2.2))).length = 48 from (len48 (fL _) (fL _) (fL _))];exact H2)
  replace C:=C.loc hc (by omega)
  replace H1:=H1.keep hc oa
  clear H2
  replace H7:=H7.keep hc oa
  replace H8:=H8.keep hc oa
  replace H9:=H9.keep hc oa
  clear hc
  obtain ⟨H12,H13,H14⟩:=part48 (fL _) (fL _) H11
  clear H11
  refine pG (fun W=>Chg R0 w W∧Has W n1 0 (fl cd)∧Has W k3 0 (fl t4.1)∧Has W k3 16 (fl t4.2.1)∧Has W k3 32 (fl t4.2.2)∧Has W (n1 + 1) 0 (fl t4.1)∧Has W (n1 + 1) 16 (fl t4.2.1)∧Has W (n1 + 1) 32 (fl t4.2.2)) ⟨C,H1,H7,H8,H9,H12,H13,H14⟩ ?_
  clear C H1 H7 H8 H9 H12 H13 H14
  rintro W ⟨C,H1,H7,H8,H9,H12,H13,H14⟩
  have e:t4 = (gx,gy,1):=base_dec (by rw [←bnum_byF_all (f:=f2),←qf3.out]) (gy_eq (by rw [qf2.out,qf1.out])) q4.out
  go_wp2_with fail
  exact ret_cell (b:=n1 + 1) (o:=0) Tryz.results10 rfl (join48 (fL _) (fL _) H12 H13 H14) (len48 (fL _) (fL _) (fL _)) agg30 size30 rfl ⟨by rw [e],C.r0⟩
open Go.RowKit
theorem rtF_ok {u v:F} (hv:v ≠ 0) (h:rtF (u * inv v) * rtF (u * inv v) = u * inv v):rtF (u * inv v) * rtF (u * inv v) * v = u:=by
 rw [h];have:=mul_inv hv;grind
theorem decY_el (n:Nat):decY (n:Int) = el ((n % HH:Nat):Int):=by
 unfold decY
 rw [show ((n % HH:Nat):Int) = (n:Int) % ((HH:Nat):Int) from Int.natCast_emod _ _];rfl
theorem sgn_el {n:Nat} (hn:n < 115792089237316195423570985008687907853269984665640564039457584007913129639936):(n:Int) / 452312848583266388373324160190187140051835877600158453279131187530910662656 / 128 = ((n / 2 ^ 255 % 2:Nat):Int):=by
 rw [show 2 ^ 255 = 57896044618658097711785492504343953926634992332820282019728792003956564819968 by decide +kernel]
 omega
theorem decS_ok {n:Nat} (hn:n < 115792089237316195423570985008687907853269984665640564039457584007913129639936) {t:T3} (h:decS n = (t,true)) :
  ∃ p:Pt,PJ t p∧p.y = decY (n:Int)∧p.x = decX (n:Int)∧sqOk (decY (n:Int) * decY (n:Int) - 1) (decY (n:Int) * decY (n:Int) * cd + 1) = 1:=by
 have hs:=sgn_el hn
 have hv:=v_ne' (decY (n:Int))
 have hY:=decY_el n
 have key:∀ x:F,x * x * (cd * (decY (n:Int) * decY (n:Int)) + 1) = decY (n:Int) * decY (n:Int) - 1→(((n / 2 ^ 255 % 2:Nat):Int) = odd x∨x = 0)→t = (x,decY (n:Int),1) →
   ∃ p:Pt,PJ t p∧p.y = decY (n:Int)∧p.x = decX (n:Int)∧sqOk (decY (n:Int) * decY (n:Int) - 1) (decY (n:Int) * decY (n:Int) * cd + 1) = 1:=by
  intro x hx ho ht
  have hon:On x (decY (n:Int)):=on_of_uv (by rw [←hx];grind)
  obtain ⟨e1,e2⟩:=dec_of (n:=n) (p:=⟨x,decY n,hon⟩) rfl (by rw [hs];exact ho)
  refine ⟨⟨x,decY n,hon⟩,?_,rfl,e1,e2⟩
  subst ht
  exact ⟨one_ne_zero,by show x = x * 1;grind,by show decY (n:Int) = decY (n:Int) * 1;grind⟩
 generalize hu:decY (n:Int) * decY (n:Int) - 1 = u at key
 generalize hw:cd * (decY (n:Int) * decY (n:Int)) + 1 = v at key hv
 have hs2:((n / 2 ^ 255 % 2:Nat):Int) = 0∨((n / 2 ^ 255 % 2:Nat):Int) = 1:=by omega
 unfold decS at h
 rw [←hY,hu,hw] at h
 generalize ((n / 2 ^ 255 % 2:Nat):Int) = s at *
 have hr:∀ r,spRt u v = (r,true)→r * r * v = u→∃ p:Pt,PJ t p∧p.y = decY (n:Int)∧p.x = decX (n:Int)∧sqOk u (decY (n:Int) * decY (n:Int) * cd + 1) = 1:=by
  intro r e1 e2
  rw [e1,if_pos rfl] at h
  by_cases ho:odd r = s
  ·rw [if_pos ho] at h
   exact key r e2 (.inl ho.symm) (Prod.mk.inj h).1.symm
  ·rw [if_neg ho] at h
   by_cases h0:r = 0
   ·exact key (-r) (by rw [←e2];grind) (.inr (by rw [h0,neg_zeroF])) (Prod.mk.inj h).1.symm
   ·exact key (-r) (by rw [←e2];grind) (.inl (by rw [odd_neg h0];rcases odd_cases r with k | k<;>omega)) (Prod.mk.inj h).1.symm
 by_cases hu0:u = 0
 ·exact hr 0 (by unfold spRt;rw [if_pos hu0]) (by rw [hu0];grind)
 ·by_cases hq:rtF (u * inv v) * rtF (u * inv v) = u * inv v
  ·exact hr _ (by unfold spRt;rw [if_neg hu0,if_pos hq]) (rtF_ok hv hq)
  ·exfalso
   have e1:spRt u v = (rtF (u * inv v * spI),false):=by unfold spRt;rw [if_neg hu0,if_neg hq]
   rw [e1,if_neg (show ¬ ((rtF (u * inv v * spI),false):F × Bool).2 = true from Bool.false_ne_true)] at h
   exact Bool.false_ne_true (Prod.mk.inj h).2
open Go.RowKit
theorem bnum_dig {f:Nat→Nat} (hf:∀ j,f j < 256) {j:Nat}:∀ k,j < k→bnum f k / 2 ^ (8 * j) % 256 = f j
 | 0,h=>absurd h (Nat.not_lt_zero _)
 | k + 1,h=>by
  have hp:0 < 2 ^ (8 * j):=Nat.pow_pos (by decide)
  rw [bnum_succ]
  by_cases e:j = k
  ·subst e
   rw [Nat.add_mul_div_left _ _ hp,Nat.div_eq_of_lt (bnum_lt hf j),Nat.zero_add]
   exact Nat.mod_eq_of_lt (hf j)
  ·obtain ⟨t,rfl⟩:∃ t,k = j + 1 + t:=⟨k - j - 1,by omega⟩
   rw [show 8 * (j + 1 + t) = 8 * j + (8 + 8 * t) by omega,Nat.pow_add,Nat.mul_assoc,Nat.add_mul_div_left _ _ hp,Nat.pow_add,show 2 ^ 8 = 256 by decide,Nat.mul_assoc,Nat.add_mul_mod_self_left]
   exact bnum_dig hf _ (by omega)
theorem byL_by32 {f:Nat→Nat} (hf:∀ j,f j < 256):byL f 32 = by32 (bnum f 32:Nat):=by
 rw [←by32_byL]
 exact byL_congr fun j hj=>by unfold byF;rw [if_pos hj,bnum_dig hf 32 hj]
theorem n256 {f:Nat→Nat} (hf:∀ j,f j < 256):bnum f 32 < 115792089237316195423570985008687907853269984665640564039457584007913129639936:=bnum_lt hf 32
def PtB (t:T3) (M:Int) (p:Pt):Prop:=PJ t p∧(0 ≤ M∧M < 115792089237316195423570985008687907853269984665640564039457584007913129639936)∧p.y = decY M∧p.x = decX M∧sqOk (decY M * decY M - 1) (decY M * decY M * cd + 1) = 1
theorem PtB.dec {N:Nat} (hN:N < 115792089237316195423570985008687907853269984665640564039457584007913129639936) {t:T3} (h:decS N = (t,true)):∃ p,PtB t (N:Nat) p:=by
 obtain ⟨p,h1,h2,h3,h4⟩:=decS_ok hN h
 exact ⟨p,h1,by omega,h2,h3,h4⟩
theorem PJ.gen:PJ (gx,gy,1) gen:=⟨one_ne_zero,by show gx = gx * 1;grind,by show gy = gy * 1;grind⟩
theorem PtB.enc {t:T3} {p:Pt} (h:PJ t p):PtB t (encI t) p:=by
 rw [encI_P h]
 obtain ⟨h1,h2⟩:=dec_encP p
 exact ⟨h,encP_bd p,decY_encP p,h1,h2⟩
theorem lawPoint_e {a:Option Addr} {L c:Nat} {f:Nat→Nat} {w:World} (A:Arg w a L f):Calls Tryz.prog 5 #[.agg (fl cd).toArray,.slice a L c] w (fun e w'=>∃ t M p k,w.heap.size ≤ k∧e = .returned (.tuple #[.agg (fl t.1 ++ (fl t.2.1 ++ fl t.2.2)).toArray,.slice (some ⟨k,0,none⟩) 32 32])∧Below w.heap.size w w'∧Has w' k 0 (by32 M)∧PtB t M p):=by
 have C:Chg R0 w w:=.refl _ _
 go_enter Tryz.func5,Tryz.ntmps5
 have hf:=hd A.1
 go_wp2_with fail
 obtain ⟨n1,ln1⟩:∃ n,w.heap.size = n:=⟨_,rfl⟩
 rw [ln1]
 have zn1:w.heap.size ≤ n1:=ln1 ▸ Nat.le_refl _
 have hb:=aB [Obj.cells (fl cd).toArray 27,Obj.cells (List.replicate 48 (.int .u32 0)).toArray 30] w
 have H1:=aH [Obj.cells (fl cd).toArray 27,Obj.cells (List.replicate 48 (.int .u32 0)).toArray 30] w 0 _ _ rfl
 have H2:=(aH [Obj.cells (fl cd).toArray 27,Obj.cells (List.replicate 48 (.int .u32 0)).toArray 30] w 1 _ _ rfl).room (n:=48) rfl
 rw [ln1] at H1 H2
 simp only [Nat.add_zero] at H1
 refine cG (fun W=>Chg R0 w W∧Arg W a L f∧Has W n1 0 (fl cd)∧Room W (n1 + 1) 0 48) ⟨C.trans (Chg.of_below hb),A.later hb,H1,H2⟩ ?_
 clear C A H1 H2 hb ln1
 rintro W ⟨C,A,H1,H2⟩
 refine (sized32_e A).mono ?_
 rintro e W ⟨n2,ln2,rfl,hb,H3⟩
 have y1:n1 + 1 < n2:=Nat.lt_of_lt_of_le (H2.lt (by decide)) ln2
 have zn2:w.heap.size ≤ n2:=Nat.le_trans C.size ln2
 replace C:=C.trans (Chg.of_below hb)
 replace H1:=H1.later hb
 replace H2:=H2.later hb
 clear hb ln2 A
 repeat ((fail_if_success with_reducible refine sl 27 ?_);first | go_step | dsimp only)
 refine wL (b:=n1) (o:=0) rfl H1 (fL _) agg27 size27 ?_
 simp only [Act.put,iA,iB,iC]
 obtain ⟨N,qN⟩:∃ n,bnum f 32 = n:=⟨_,rfl⟩
 obtain ⟨t,b,qt⟩:∃ t b,decS N = (t,b):=⟨_,_,rfl⟩
 replace qt:=hd qt
 replace qN:=hd qN.symm
 go_wp2_with fail
 refine (decode_v (t:=t) (b:=b) (by decide) hf.out H3 qN qt).mono ?_
 rintro e W ⟨rfl,hb⟩
 replace C:=C.trans (Chg.of_below hb)
 replace H1:=H1.later hb
 replace H2:=H2.later hb
 replace H3:=H3.later hb
 clear hb
 repeat ((fail_if_success with_reducible refine ss 30 ?_);first | go_step | dsimp only)
 obtain ⟨n3,ln3⟩:∃ n,W.heap.size = n:=⟨_,rfl⟩
 rw [ln3]
 have hb:=aB [Obj.cells (List.replicate 48 (.int .u32 0)).toArray 30] W
 have zn3:w.heap.size ≤ n3:=ln3 ▸ C.size
 have y11:n1 < n3:=ln3 ▸ H1.lt (by rw [fL];decide)
 have y12:n1 + 1 < n3:=ln3 ▸ H2.lt (by decide)
 have y13:n2 < n3:=ln3 ▸ H3.lt (by rw [byL_length];decide)
 replace C:=C.trans (Chg.of_below hb)
 replace H1:=H1.later hb
 replace H2:=H2.later hb
 replace H3:=H3.later hb
 have H14:=(aH [Obj.cells (List.replicate 48 (.int .u32 0)).toArray 30] W 0 _ _ rfl).room (n:=48) rfl
 rw [ln3] at H14
 simp only [Nat.add_zero] at H14
 refine pG (fun W=>Chg R0 w W∧Has W n1 0 (fl cd)∧Room W (n1 + 1) 0 48∧Has W n2 0 (byL f 32)∧Room W n3 0 48) ⟨C,H1,H2,H3,H14⟩ ?_
 clear C H1 H2 H3 H14 hb ln3
 rintro W ⟨C,H1,H2,H3,H14⟩
 refine wS (b:=n3) (o:=0) (vs:=(fl t.1 ++ (fl t.2.1 ++ fl t.2.2))) rfl rfl H14 (len48 (fL _) (fL _) (fL _)) (one48 (fl_one _) (fl_one _) (fl_one _)) size30 ?_
 simp only [Act.put]
 have hc:Chg (Rg n3 0 48) W (World.setCells W n3 0 (fl t.1 ++ (fl t.2.1 ++ fl t.2.2))):=by have:=putL_chg (w:=W) (b:=n3) (o:=0) (vs:=(fl t.1 ++ (fl t.2.1 ++ fl t.2.2)));rwa [show ((fl t.1 ++ (fl t.2.1 ++ fl t.2.2))).length = 48 from (len48 (fL _) (fL _) (fL _))] at this
 have H15:=putL_has (w:=W) (b:=n3) (o:=0) (vs:=(fl t.1 ++ (fl t.2.1 ++ fl t.2.2))) (by rw [show ((fl t.1 ++ (fl t.2.1 ++ fl t.2.2))).length = 48 from (len48 (fL _) (fL _) (fL _))];exact H14)
 replace C:=C.loc hc (by omega)
 replace H1:=H1.keep hc oa
 replace H2:=hc.room H2
 replace H3:=H3.keep hc oa
 clear H14
 clear hc
 obtain ⟨H16,H17,H18⟩:=part48 (fL _) (fL _) H15
 clear H15
 refine pG (fun W=>Chg R0 w W∧Has W n1 0 (fl cd)∧Room W (n1 + 1) 0 48∧Has W n2 0 (byL f 32)∧Has W n3 0 (fl t.1)∧Has W n3 16 (fl t.2.1)∧Has W n3 32 (fl t.2.2)) ⟨C,H1,H2,H3,H16,H17,H18⟩ ?_
 clear C H1 H2 H3 H16 H17 H18
 rintro W ⟨C,H1,H2,H3,H16,H17,H18⟩
 replace qN:=hd (qN.out)
 rcases b with _ | _
 ·obtain ⟨v,qv⟩:∃ v,v = cmul N (gx,gy,1) 256:=⟨_,rfl⟩
  replace qv:=hd qv
  obtain ⟨M,qM⟩:∃ M,M = encI v:=⟨_,rfl⟩
  replace qM:=hd qM
  go_wp2_with fail
  obtain ⟨n4,ln4⟩:∃ n,W.heap.size = n:=⟨_,rfl⟩
  have zn4:w.heap.size ≤ n4:=ln4 ▸ C.size
  have y19:n1 < n4:=ln4 ▸ H1.lt (by rw [fL];decide)
  have y20:n1 + 1 < n4:=ln4 ▸ H2.lt (by decide)
  have y21:n2 < n4:=ln4 ▸ H3.lt (by rw [byL_length];decide)
  have y22:n3 < n4:=ln4 ▸ H16.lt (by rw [fL];decide)
  replace ln4:=hd ln4
  refine region_fresh 7 [6] (by kernel_rfl) (by kernel_rfl) (by kernel_rfl)
   (fun i vv W=>match i with
    | 0=>vv = .agg (fl cd).toArray
    | 1=>vv = .slice (some ⟨n2,0,none⟩) 32 32
    | 2=>vv = .agg (nl N).toArray
    | 3=>vv = .agg (fl cd).toArray
    | 4=>vv = .agg ((fl gx ++ (fl gy ++ fl 1))).toArray
    | 5=>vv = .agg ((fl v.1 ++ (fl v.2.1 ++ fl v.2.2))).toArray
    | 6=>∃ k,vv = Ptr k 0∧n4 ≤ k∧Room W k 0 48
    | _=>True) ?_ ?_ ?_
  ·intro i v u u' h hb
   split at h
   ·exact h
   ·exact h
   ·exact h
   ·exact h
   ·exact h
   ·exact h
   ·obtain ⟨k,h1,h2,h3⟩:=h;exact ⟨k,h1,h2,h3.later hb⟩
   ·trivial
  ·simp only [List.take_succ_cons,List.take_zero,heads]
   refine ⟨?_,?_,?_,?_,?_,?_,?_,trivial⟩
   ·intro a W1 hR hun hdep
    have t2:=hun 2 (by simp)
    simp at t2
    clear hun hdep
    exact opw_load (b:=n1) (o:=0) (gd t2) (Has.later H1 hR.off) (fL _) agg27 size27 ⟨_,rfl,Later.rfl' _,rfl,(fun h=>absurd h (by decide))⟩
   ·intro a W1 hR hun hdep
    have t1:=hun 1 (by simp)
    simp at t1
    clear hun hdep
    go_simp
    exact Later.rfl' _
   ·intro a W1 hR hun hdep
    have d21:=hdep ⟨1,.data⟩ (by simp) rfl
    simp [slotOf] at d21
    clear hun hdep
    go_simp
    refine (of_v (by decide) (by decide) hf.out (Has.later H3 hR.off) ((Has.later H3 hR.off).lt (by rw [byL_length];decide)) qN).mono ?_
    rintro e W2 ⟨rfl,hb⟩
    first | exact hb | exact ⟨hb,rfl⟩ | exact ⟨rfl,hb⟩
   ·intro a W1 hR hun hdep
    have t2:=hun 2 (by simp)
    simp at t2
    clear hun hdep
    exact opw_load (b:=n1) (o:=0) (gd t2) (Has.later H1 hR.off) (fL _) agg27 size27 ⟨_,rfl,Later.rfl' _,rfl,(fun h=>absurd h (by decide))⟩
   ·intro a W1 hR hun hdep
    have d23:=hdep ⟨3,.data⟩ (by simp) rfl
    simp [slotOf] at d23
    clear hun hdep
    go_simp
    refine (base_v).mono ?_
    rintro e W2 ⟨rfl,hb⟩
    first | exact hb | exact ⟨hb,rfl⟩ | exact ⟨rfl,hb⟩
   ·intro a W1 hR hun hdep
    have d20:=hdep ⟨0,.data⟩ (by simp) rfl
    simp [slotOf] at d20
    have d22:=hdep ⟨2,.data⟩ (by simp) rfl
    simp [slotOf] at d22
    have d24:=hdep ⟨4,.data⟩ (by simp) rfl
    simp [slotOf] at d24
    clear hun hdep
    go_simp
    refine (ctimes_t (n:=N) (t:=(gx,gy,1)) (u:=v) qv).mono ?_
    rintro e W2 ⟨rfl,hb⟩
    first | exact hb | exact ⟨hb,rfl⟩ | exact ⟨rfl,hb⟩
   ·intro a W1 hR hun hdep
    clear hun hdep
    have hle:n4 ≤ W1.heap.size:=ln4.out ▸ hR.off.size
    exact opw_alloc alloc30 ⟨_,rfl,bA _ _,⟨_,rfl,hle,(box_has W1 _ 30).room rfl⟩,fun _=>⟨rfl,by rw [size_alloc];omega,rfl⟩⟩
  ·intro vs W1 hR hv hfr
   simp only [List.take_succ_cons,List.take_zero,List.drop_succ_cons,List.drop_zero,heads,Option.isSome_some,if_true] at hv ⊢
   obtain ⟨v0,v1,v2,v3,v4,v5,v6,-⟩:=hv
   obtain ⟨k8,v6,y24,H23⟩:=v6
   simp only [finL,Act.put,v0,v1,v2,v3,v4,v5,v6]
   simp only [iA,iB,iC]
   replace hR:=hR.off
   replace C:=C.trans (Chg.of_below hR)
   replace H1:=H1.later hR
   replace H2:=H2.later hR
   replace H3:=H3.later hR
   replace H16:=H16.later hR
   replace H17:=H17.later hR
   replace H18:=H18.later hR
   clear hR hfr v0 v1 v2 v3 v4 v5 v6
   have z25:w.heap.size ≤ k8:=by omega
   refine pG (fun W=>Chg R0 w W∧Has W n1 0 (fl cd)∧Room W (n1 + 1) 0 48∧Has W n2 0 (byL f 32)∧Has W n3 0 (fl t.1)∧Has W n3 16 (fl t.2.1)∧Has W n3 32 (fl t.2.2)∧Room W k8 0 48) ⟨C,H1,H2,H3,H16,H17,H18,H23⟩ ?_
   clear C H1 H2 H3 H16 H17 H18 H23
   rintro W ⟨C,H1,H2,H3,H16,H17,H18,H23⟩
   repeat ((fail_if_success with_reducible refine ss 30 ?_);first | go_step | dsimp only)
   refine wS (b:=k8) (o:=0) (vs:=(fl v.1 ++ (fl v.2.1 ++ fl v.2.2))) rfl rfl H23 (len48 (fL _) (fL _) (fL _)) (one48 (fl_one _) (fl_one _) (fl_one _)) size30 ?_
   simp only [Act.put]
   have hc:Chg (Rg k8 0 48) W (World.setCells W k8 0 (fl v.1 ++ (fl v.2.1 ++ fl v.2.2))):=by have:=putL_chg (w:=W) (b:=k8) (o:=0) (vs:=(fl v.1 ++ (fl v.2.1 ++ fl v.2.2)));rwa [show ((fl v.1 ++ (fl v.2.1 ++ fl v.2.2))).length = 48 from (len48 (fL _) (fL _) (fL _))] at this
   have H26:=putL_has (w:=W) (b:=k8) (o:=0) (vs:=(fl v.1 ++ (fl v.2.1 ++ fl v.2.2))) (by rw [show ((fl v.1 ++ (fl v.2.1 ++ fl v.2.2))).length = 48 from (len48 (fL _) (fL _) (fL _))];exact H23)
   replace C:=C.loc hc (by omega)
   replace H1:=H1.keep hc oa
   replace H2:=hc.room H2
   replace H3:=H3.keep hc oa
   replace H16:=H16.keep hc oa
   replace H17:=H17.keep hc oa
   replace H18:=H18.keep hc oa
   clear H23
   clear hc
   obtain ⟨H27,H28,H29⟩:=part48 (fL _) (fL _) H26
   clear H26
   refine pG (fun W=>Chg R0 w W∧Has W n1 0 (fl cd)∧Room W (n1 + 1) 0 48∧Has W n2 0 (byL f 32)∧Has W n3 0 (fl t.1)∧Has W n3 16 (fl t.2.1)∧Has W n3 32 (fl t.2.2)∧Has W k8 0 (fl v.1)∧Has W k8 16 (fl v.2.1)∧Has W k8 32 (fl v.2.2)) ⟨C,H1,H2,H3,H16,H17,H18,H27,H28,H29⟩ ?_
   clear C H1 H2 H3 H16 H17 H18 H27 H28 H29
   rintro W ⟨C,H1,H2,H3,H16,H17,H18,H27,H28,H29⟩
   go_wp2_with fail
   obtain ⟨n5,ln5⟩:∃ n,W.heap.size = n:=⟨_,rfl⟩
   have zn5:w.heap.size ≤ n5:=ln5 ▸ C.size
   have y30:n1 < n5:=ln5 ▸ H1.lt (by rw [fL];decide)
   have y31:n1 + 1 < n5:=ln5 ▸ H2.lt (by decide)
   have y32:n2 < n5:=ln5 ▸ H3.lt (by rw [byL_length];decide)
   have y33:n3 < n5:=ln5 ▸ H16.lt (by rw [fL];decide)
   have y34:k8 < n5:=ln5 ▸ H27.lt (by rw [fL];decide)
   replace ln5:=hd ln5
   refine region_rs 5 (n1 + 1) 48 (fl v.1 ++ (fl v.2.1 ++ fl v.2.2)) (by kernel_rfl) (by kernel_rfl) (by kernel_rfl)
    (fun i vv W=>match i with
     | 0=>vv = .agg ((fl v.1 ++ (fl v.2.1 ++ fl v.2.2))).toArray
     | 1=>vv = .agg (fl cd).toArray
     | 2=>vv = .agg ((fl v.1 ++ (fl v.2.1 ++ fl v.2.2))).toArray
     | 3=>∃ k,vv = .slice (some ⟨k,0,none⟩) 32 32∧n5 ≤ k∧Has W k 0 (by32 M)
     | 4=>Has W (n1 + 1) 0 (fl v.1 ++ (fl v.2.1 ++ fl v.2.2))
     | _=>True) ?_ ?_ ?_
   ·intro i v u u' h hb
    split at h
    ·exact h
    ·exact h
    ·exact h
    ·obtain ⟨k,h1,h2,h3⟩:=h;exact ⟨k,h1,h2,Has.keep hb.1 h3 (oq (fun e=>absurd e (by omega)))⟩
    ·exact hb.2 h
    ·trivial
   ·simp only [List.take_succ_cons,List.take_zero,heads]
    refine ⟨?_,?_,?_,?_,?_,trivial⟩
    ·intro a W1 hR hun hdep
     have t8:=hun 8 (by simp)
     simp at t8
     clear hun hdep
     exact opw_load (b:=k8) (o:=0) (gd t8) (RS.keep hR (join48 (fL _) (fL _) H27 H28 H29) (by omega)) (len48 (fL _) (fL _) (fL _)) agg30 size30 ⟨_,rfl,RS.refl _ _ _ _,rfl⟩
    ·intro a W1 hR hun hdep
     have t2:=hun 2 (by simp)
     simp at t2
     clear hun hdep
     exact opw_load (b:=n1) (o:=0) (gd t2) (RS.keep hR H1 (by omega)) (fL _) agg27 size27 ⟨_,rfl,RS.refl _ _ _ _,rfl⟩
    ·intro a W1 hR hun hdep
     have t8:=hun 8 (by simp)
     simp at t8
     clear hun hdep
     exact opw_load (b:=k8) (o:=0) (gd t8) (RS.keep hR (join48 (fL _) (fL _) H27 H28 H29) (by omega)) (len48 (fL _) (fL _) (fL _)) agg30 size30 ⟨_,rfl,RS.refl _ _ _ _,rfl⟩
    ·intro a W1 hR hun hdep
     have d27:=hdep ⟨1,.data⟩ (by simp) rfl
     simp [slotOf] at d27
     have d28:=hdep ⟨2,.data⟩ (by simp) rfl
     simp [slotOf] at d28
     clear hun hdep
     have hle:n5 ≤ W1.heap.size:=ln5.out ▸ hR.1.size
     go_simp
     refine (encode_v (t:=v) (n:=M) qM).mono ?_
     rintro e W2 ⟨k,hk,rfl,hb,hv⟩
     first | exact ⟨_,rfl,RS.of_below hb,⟨k,rfl,by omega,hv⟩⟩ | exact ⟨RS.of_below hb,⟨k,⟨rfl,rfl⟩,by omega,hv⟩⟩ | exact ⟨RS.of_below hb,⟨k,rfl,by omega,hv⟩⟩ | exact ⟨⟨k,rfl,by omega,hv⟩,RS.of_below hb⟩
    ·intro a W1 hR hun hdep
     have t4:=hun 4 (by simp)
     simp at t4
     have d26:=hdep ⟨0,.data⟩ (by simp) rfl
     simp [slotOf] at d26
     clear hun hdep
     exact opw_store (b:=n1 + 1) (o:=0) (gd t4) (gd d26) (RS.room hR H2) (len48 (fL _) (fL _) (fL _)) (one48 (fl_one _) (fl_one _) (fl_one _)) size30 ⟨undef,rfl,RS.store (RS.room hR H2) (len48 (fL _) (fL _) (fL _))⟩
   ·intro vs W1 hR hv
    simp only [List.take_succ_cons,List.take_zero,List.drop_succ_cons,List.drop_zero,heads,Option.isSome_some,if_true] at hv ⊢
    obtain ⟨v0,v1,v2,v3,v4,-⟩:=hv
    obtain ⟨k29,v3,y35,hx29⟩:=v3
    simp only [finL,Act.put,v0,v1,v2,v3]
    simp only [iA,iB,iC]
    replace H1:=RS.keep hR H1 (by omega)
    clear H2
    replace H3:=RS.keep hR H3 (by omega)
    replace H16:=RS.keep hR H16 (by omega)
    replace H17:=RS.keep hR H17 (by omega)
    replace H18:=RS.keep hR H18 (by omega)
    replace H27:=RS.keep hR H27 (by omega)
    replace H28:=RS.keep hR H28 (by omega)
    replace H29:=RS.keep hR H29 (by omega)
    replace C:=(C.drew).loc hR.1 (by omega)
    have H36:=v4
    clear hR v0 v1 v2 v3 v4
    obtain ⟨H37,H38,H39⟩:=part48 (fL _) (fL _) H36
    clear H36
    refine pG (fun W=>Chg R0 w W∧Has W n1 0 (fl cd)∧Has W n2 0 (byL f 32)∧Has W n3 0 (fl t.1)∧Has W n3 16 (fl t.2.1)∧Has W n3 32 (fl t.2.2)∧Has W k8 0 (fl v.1)∧Has W k8 16 (fl v.2.1)∧Has W k8 32 (fl v.2.2)∧Has W (n1 + 1) 0 (fl v.1)∧Has W (n1 + 1) 16 (fl v.2.1)∧Has W (n1 + 1) 32 (fl v.2.2)∧Has W k29 0 (by32 M)) ⟨C,H1,H3,H16,H17,H18,H27,H28,H29,H37,H38,H39,hx29⟩ ?_
    clear C H1 H3 H16 H17 H18 H27 H28 H29 H37 H38 H39 hx29
    rintro W ⟨C,H1,H3,H16,H17,H18,H27,H28,H29,H37,H38,H39,hx29⟩
    go_wp2_with fail
    have hp:PtB v M (smul N gen):=by
     have hv:PJ v (smul N gen):=by rw [qv.out];exact PJ.cmul (by rw [qN.out];exact n256 hf.out) PJ.gen
     rw [qM.out];exact PtB.enc hv
    exact ret_cell2 (b:=n1 + 1) (o:=0) Tryz.results5 rfl rfl (join48 (fL _) (fL _) H37 H38 H39) (len48 (fL _) (fL _) (fL _)) agg30 size30 rfl ⟨v,M,_,k29,by omega,rfl,C.r0,hx29,hp⟩
 ·repeat ((fail_if_success with_reducible refine sl 30 ?_);first | go_step | dsimp only)
  refine wL (b:=n3) (o:=0) rfl (join48 (fL _) (fL _) H16 H17 H18) (len48 (fL _) (fL _) (fL _)) agg30 size30 ?_
  simp only [Act.put,iA,iB,iC]
  repeat ((fail_if_success with_reducible refine ss 30 ?_);first | go_step | dsimp only)
  refine wS (b:=n1 + 1) (o:=0) (vs:=(fl t.1 ++ (fl t.2.1 ++ fl t.2.2))) rfl rfl H2 (len48 (fL _) (fL _) (fL _)) (one48 (fl_one _) (fl_one _) (fl_one _)) size30 ?_
  simp only [Act.put]
  have hc:Chg (Rg (n1 + 1) 0 48) W (World.setCells W (n1 + 1) 0 (fl t.1 ++ (fl t.2.1 ++ fl t.2.2))):=by have:=putL_chg (w:=W) (b:=n1 + 1) (o:=0) (vs:=(fl t.1 ++ (fl t.2.1 ++ fl t.2.2)));rwa [show ((fl t.1 ++ (fl t.2.1 ++ fl t.2.2))).length = 48 from (len48 (fL _) (fL _) (fL _))] at this
  have H19:=putL_has (w:=W) (b:=n1 + 1) (o:=0) (vs:=(fl t.1 ++ (fl t.2.1 ++ fl t.2.2))) (by rw [show ((fl t.1 ++ (fl t.2.1 ++ fl t.2.2))).length = 48 from (len48 (fL _) (fL _) (fL _))];exact H2)
  replace C:=C.loc hc (by omega)
  replace H1:=H1.keep hc oa
  clear H2
  replace H3:=H3.keep hc oa
  replace H16:=H16.keep hc oa
  replace H17:=H17.keep hc oa
  replace H18:=H18.keep hc oa
  clear hc
  obtain ⟨H20,H21,H22⟩:=part48 (fL _) (fL _) H19
  clear H19
  refine pG (fun W=>Chg R0 w W∧Has W n1 0 (fl cd)∧Has W n2 0 (byL f 32)∧Has W n3 0 (fl t.1)∧Has W n3 16 (fl t.2.1)∧Has W n3 32 (fl t.2.2)∧Has W (n1 + 1) 0 (fl t.1)∧Has W (n1 + 1) 16 (fl t.2.1)∧Has W (n1 + 1) 32 (fl t.2.2)) ⟨C,H1,H3,H16,H17,H18,H20,H21,H22⟩ ?_
  clear C H1 H3 H16 H17 H18 H20 H21 H22
  rintro W ⟨C,H1,H3,H16,H17,H18,H20,H21,H22⟩
  go_wp2_with fail
  rw [byL_by32 hf.out,←qN.out] at H3
  obtain ⟨p,hp⟩:=PtB.dec (by rw [qN.out];exact n256 hf.out) qt.out
  exact ret_cell2 (b:=n1 + 1) (o:=0) Tryz.results5 rfl rfl (join48 (fL _) (fL _) H20 H21 H22) (len48 (fL _) (fL _) (fL _)) agg30 size30 rfl ⟨t,_,p,n2,by omega,rfl,C.r0,H3,hp⟩
open Go.RowKit
theorem str32 (N:Nat):∃ s:ByteArray,∀ (w:World) (b o c:Nat),Has w b o (by32 (N:Nat))→(Go.convert 22 9 (.slice (some ⟨b,o,none⟩) 32 c)).run Tryz.prog w = .ok (.string s) w:=by
 let l:List UInt8:=(List.range 32).map fun j=>UInt8.ofNat (byF N 32 j)
 refine ⟨⟨l.toArray⟩,fun w b o c X=>?_⟩
 rw [←by32_byL] at X
 have hl:l.length = 32:=by simp [l]
 have:=run_convert_bytes_back (P:=Tryz.prog) w 22 9 5 ⟨b,o,none⟩ c l (by kernel_rfl) (by kernel_rfl) (by kernel_rfl) (fun j hj=>by
  rw [hl] at hj
  rw [add_plain,(X.cellB hj).1]
  have hb:byF N 32 j < 256:=by unfold byF;rw [if_pos hj];exact Nat.mod_lt _ (by decide)
  simp only [l,List.getElem_map,List.getElem_range]
  rw [show (UInt8.ofNat (byF N 32 j)).toNat = byF N 32 j by simp [UInt8.toNat_ofNat'];omega])
 rwa [hl] at this
theorem same_e {N b1 o1 c1 b2 o2 c2:Nat} {w:World} (X:Has w b1 o1 (by32 (N:Nat))) (Y:Has w b2 o2 (by32 (N:Nat))) :
  Calls Tryz.prog 13 #[.slice (some ⟨b1,o1,none⟩) 32 c1,.slice (some ⟨b2,o2,none⟩) 32 c2] w (fun e w'=>e = .returned (.bool true)∧w' = w):=by
 obtain ⟨s,hs⟩:=str32 N
 have k1:=hs w b1 o1 c1 X
 have k2:=hs w b2 o2 c2 Y
 clear X Y hs
 go_enter Tryz.func13,Tryz.ntmps13
 go_wp2_with fail
 go_ret
 exact ⟨rfl,rfl⟩
theorem from_sc {n m m' k k':Int} (hn:0 ≤ n∧n < LL) (hm:0 ≤ m'∧m' < LL) (h1:m' * 115792089237316195423570985008687907853269984665640564039457584007913129639936 = m + LL * k) (h2:m = n * 115792089237316195423570985008687907853269984665640564039457584007913129639936 + LL * k'):m' = n:=by
 refine cancel_256 hm hn (k:=k' + k) ?_
 rw [Int.sub_mul,h1,h2,Int.mul_add]
 generalize LL * k = a
 generalize LL * k' = b
 generalize n * 115792089237316195423570985008687907853269984665640564039457584007913129639936 = c
 omega
theorem to_sc {v m k:Int} (h:m * 115792089237316195423570985008687907853269984665640564039457584007913129639936 = v * RR + LL * k):∃ k',m = v * 115792089237316195423570985008687907853269984665640564039457584007913129639936 + LL * k':=by
 have h0:RR + LL * 1852673427797059126777135760139006525645217721299241702126143248052143860224795 = 115792089237316195423570985008687907853269984665640564039457584007913129639936 * 115792089237316195423570985008687907853269984665640564039457584007913129639936:=by decide +kernel
 have h1:(m - v * 115792089237316195423570985008687907853269984665640564039457584007913129639936) * 115792089237316195423570985008687907853269984665640564039457584007913129639936 = LL * (k - 1852673427797059126777135760139006525645217721299241702126143248052143860224795 * v):=by
  have:v * RR + LL * 1852673427797059126777135760139006525645217721299241702126143248052143860224795 * v = v * 115792089237316195423570985008687907853269984665640564039457584007913129639936 * 115792089237316195423570985008687907853269984665640564039457584007913129639936:=by rw [Int.mul_assoc v,←h0];grind
  rw [Int.sub_mul,h,←this];grind
 exact ⟨_,by have:=cancel_gen _ _ _ 4458503529701987551646482192314240623644693141688353256590997718326214331684 LL 71336056475231800826343715077027849978041630819377026201054086228062141447707 (by decide +kernel) h1;rw [←this];omega⟩
end Go.Proofs.Ed
