/- A part of the proof of the tied card of FnTimes: Vdec. -/
import Derived.Test.YtcogfofgmbndjaaGreatDoorProg
import Derived.WalkKit
import Derived.WalkSpells
import Derived.WalkLawsBesides
import Derived.Outline
import Derived.StillTailTactics
import Derived.Test.YtcogfofgmbndjaaGreatDoorTBa
import Derived.Test.YtcogfofgmbndjaaGreatDoorTAw
import Derived.Test.YtcogfofgmbndjaaGreatDoorTBc
import Derived.Test.YtcogfofgmbndjaaGreatDoorTAv
set_option maxRecDepth 100000
set_option maxHeartbeats 40000000
namespace Go.Proofs.Ed
open Go.RowKit
theorem v_ne' (y:F):¬ cd * (y * y) + 1 = 0:=by
 have:=v_ne y
 rwa [show y * y * cd + 1 = cd * (y * y) + 1 by grind] at this
def decS (n:Nat):T3 × Bool :=
 if (spRt (el ((n % HH:Nat):Int) * el ((n % HH:Nat):Int) - 1) (cd * (el ((n % HH:Nat):Int) * el ((n % HH:Nat):Int)) + 1)).2 = true then
  ((if odd (spRt (el ((n % HH:Nat):Int) * el ((n % HH:Nat):Int) - 1) (cd * (el ((n % HH:Nat):Int) * el ((n % HH:Nat):Int)) + 1)).1 = ((n / 2 ^ 255 % 2:Nat):Int) then (spRt (el ((n % HH:Nat):Int) * el ((n % HH:Nat):Int) - 1) (cd * (el ((n % HH:Nat):Int) * el ((n % HH:Nat):Int)) + 1)).1
   else -(spRt (el ((n % HH:Nat):Int) * el ((n % HH:Nat):Int) - 1) (cd * (el ((n % HH:Nat):Int) * el ((n % HH:Nat):Int)) + 1)).1,el ((n % HH:Nat):Int),1),true)
 else ((0,0,0),false)
theorem decS_n {n:Nat} {y r:F} {u v:F} (hy:y = el ((n % HH:Nat):Int)) (hu:u = y * y - 1) (hv:v = cd * (y * y) + 1) (h:spRt u v = (r,false)):decS n = ((0,0,0),false):=by
 subst hy hu hv;unfold decS;rw [h,if_neg (show ¬ ((r,false):F × Bool).2 = true from Bool.false_ne_true)]
theorem decS_s {n:Nat} {y r:F} {u v:F} (hy:y = el ((n % HH:Nat):Int)) (hu:u = y * y - 1) (hv:v = cd * (y * y) + 1) (h:spRt u v = (r,true)) (ho:odd r = ((n / 2 ^ 255 % 2:Nat):Int)):decS n = ((r,y,1),true):=by
 subst hy hu hv;unfold decS;rw [h,if_pos rfl,if_pos ho]
theorem decS_o {n:Nat} {y r:F} {u v:F} (hy:y = el ((n % HH:Nat):Int)) (hu:u = y * y - 1) (hv:v = cd * (y * y) + 1) (h:spRt u v = (r,true)) (ho:¬ odd r = ((n / 2 ^ 255 % 2:Nat):Int)):decS n = ((-r,y,1),true):=by
 subst hy hu hv;unfold decS;rw [h,if_pos rfl,if_neg ho]
attribute [irreducible] decS
theorem low7 {n:Nat} (hn:n < 2 ^ 256):(nl n).set 7 (.int .u32 ((dig n 7 % 2147483648:Nat):Int)) = nl (n % HH):=by
 rw [loF_start,←loF_end]
 apply lst_congr
 intro j _
 unfold loF
 by_cases h:j < 7
 ·rw [if_pos h,if_pos h]
 ·by_cases h2:j = 7
  ·rw [if_neg h,if_neg h,if_pos h2,if_pos h2]
  ·rw [if_neg h,if_neg h,if_neg h2,if_neg h2,if_neg (show ¬ j < 8 by omega),dig_small (Nat.lt_of_lt_of_le hn (Nat.pow_le_pow_right (by decide) (by omega)))]
   split<;>rfl
theorem decode_v {bf:Nat→Nat} {k o cap n:Nat} {t:T3} {b:Bool} {w:World} (hcap:32 ≤ cap) (hg:∀ j,bf j < 256) (X:Has w k o (byL bf 32)) (hn:Hd (n = bnum bf 32)) (h:Hd (decS n = (t,b))):Calls Tryz.prog 16 #[.agg (fl cd).toArray,.slice (some ⟨k,o,none⟩) 32 cap] w (fun e w'=>e = .returned (.tuple #[.agg (fl t.1 ++ (fl t.2.1 ++ fl t.2.2)).toArray,.bool b])∧Below w.heap.size w w'):=by
 have C:Chg R0 w w:=.refl _ _
 go_enter Tryz.func16,Tryz.ntmps16
 obtain ⟨f1,qf1⟩:∃ g:Nat,g = bnum bf 32:=⟨_,rfl⟩
 replace qf1:=hd qf1
 go_wp2_with fail
 obtain ⟨n1,ln1⟩:∃ n,w.heap.size = n:=⟨_,rfl⟩
 rw [ln1]
 have hb:=aB [Obj.cells (fl cd).toArray 27,Obj.cells (List.replicate 48 (.int .u32 0)).toArray 30] w
 have zn1:w.heap.size ≤ n1:=ln1 ▸ C.size
 have y1:k < n1:=ln1 ▸ X.lt (by rw [byL_length];decide)
 replace C:=C.trans (Chg.of_below hb)
 replace X:=X.later hb
 have H2:=aH [Obj.cells (fl cd).toArray 27,Obj.cells (List.replicate 48 (.int .u32 0)).toArray 30] w 0 _ _ rfl
 rw [ln1] at H2
 simp only [Nat.add_zero] at H2
 have H3:=(aH [Obj.cells (fl cd).toArray 27,Obj.cells (List.replicate 48 (.int .u32 0)).toArray 30] w 1 _ _ rfl).room (n:=48) rfl
 rw [ln1] at H3
 refine cG (fun W=>Chg R0 w W∧Has W k o (byL bf 32)∧Has W n1 0 (fl cd)∧Room W (n1 + 1) 0 48) ⟨C,X,H2,H3⟩ ?_
 clear C X H2 H3 hb ln1
 rintro W ⟨C,X,H2,H3⟩
 refine (of_v (by decide) hcap hg X (X.lt (by rw [byL_length];decide)) qf1).mono ?_
 rintro e W ⟨rfl,hb⟩
 replace C:=C.trans (Chg.of_below hb)
 replace X:=X.later hb
 replace H2:=H2.later hb
 replace H3:=H3.later hb
 clear hb
 repeat ((fail_if_success with_reducible refine ss 25 ?_);first | go_step | dsimp only)
 obtain ⟨n2,ln2⟩:∃ n,W.heap.size = n:=⟨_,rfl⟩
 rw [ln2]
 have hb:=aB [Obj.cells (List.replicate 16 (.int .u32 0)).toArray 25] W
 have zn2:w.heap.size ≤ n2:=ln2 ▸ C.size
 have y4:k < n2:=ln2 ▸ X.lt (by rw [byL_length];decide)
 have y5:n1 < n2:=ln2 ▸ H2.lt (by rw [fL];decide)
 have y6:n1 + 1 < n2:=ln2 ▸ H3.lt (by decide)
 replace C:=C.trans (Chg.of_below hb)
 replace X:=X.later hb
 replace H2:=H2.later hb
 replace H3:=H3.later hb
 have H7:=(aH [Obj.cells (List.replicate 16 (.int .u32 0)).toArray 25] W 0 _ _ rfl).room (n:=16) rfl
 rw [ln2] at H7
 simp only [Nat.add_zero] at H7
 refine pG (fun W=>Chg R0 w W∧Has W k o (byL bf 32)∧Has W n1 0 (fl cd)∧Room W (n1 + 1) 0 48∧Room W n2 0 16) ⟨C,X,H2,H3,H7⟩ ?_
 clear C X H2 H3 H7 hb ln2
 rintro W ⟨C,X,H2,H3,H7⟩
 refine wS (b:=n2) (o:=0) (vs:=nl f1) rfl rfl H7 (nL _) (nl_one _) size25 ?_
 simp only [Act.put]
 have hc:Chg (Rg n2 0 16) W (World.setCells W n2 0 (nl f1)):=by have:=putL_chg (w:=W) (b:=n2) (o:=0) (vs:=nl f1);rwa [show (nl f1).length = 16 from (nL _)] at this
 have H8:=putL_has (w:=W) (b:=n2) (o:=0) (vs:=nl f1) (by rw [show (nl f1).length = 16 from (nL _)];exact H7)
 replace C:=C.loc hc (by omega)
 replace X:=X.keep hc oa
 replace H2:=H2.keep hc oa
 replace H3:=hc.room H3
 clear H7
 clear hc
 refine pG (fun W=>Chg R0 w W∧Has W k o (byL bf 32)∧Has W n1 0 (fl cd)∧Room W (n1 + 1) 0 48∧Has W n2 0 (nl f1)) ⟨C,X,H2,H3,H8⟩ ?_
 clear C X H2 H3 H8
 rintro W ⟨C,X,H2,H3,H8⟩
 have fn:Hd (f1 = n):=hd (by rw [qf1.out,hn.out])
 have nb:f1 < 2 ^ 256:=by rw [qf1.out];exact bnum_lt hg 32
 have sgn:=fun w=>bit_v (n:=f1) (i:=255) (w:=w) (by decide)
 obtain ⟨s,qs⟩:∃ s,f1 / 2 ^ 255 % 2 = s:=⟨_,rfl⟩
 rw [qs] at sgn
 replace qs:=hd qs
 repeat ((fail_if_success with_reducible refine sl 25 ?_);first | go_step | dsimp only)
 refine wL (b:=n2) (o:=0) rfl H8 (nL _) agg25 size25 ?_
 simp only [Act.put,iA,iB,iC]
 go_wp2_with fail
 refine (sgn _).mono ?_
 rintro e W ⟨rfl,hb⟩
 replace C:=C.trans (Chg.of_below hb)
 replace X:=X.later hb
 replace H2:=H2.later hb
 replace H3:=H3.later hb
 replace H8:=H8.later hb
 clear hb
 have c7:=H8.cellD (i:=7) (by decide)
 rw [Nat.zero_add] at c7
 have d7:=dig_lt f1 7
 have h7:=H8.set 7 (by omega:7 = 0 + 7) (.int .u32 ((dig f1 7 % 2147483648:Nat):Int))
 rw [low7 nb] at h7
 have a7:=and31 d7
 obtain ⟨x7,qx⟩:∃ x,dig f1 7 = x:=⟨_,rfl⟩
 rw [qx] at c7 d7 h7 a7
 have e7:((x7 % 2147483648:Nat):Int) = ((x7:Int) % 2147483648):=by omega
 rw [e7] at h7
 replace h7:=hd h7
 clear qx
 replace nb:=hd nb
 replace sgn:=hd sgn
 repeat ((fail_if_success with_reducible refine sl 25 ?_);first | go_step | dsimp only)
 refine pG (fun W=>Chg R0 w W∧Has W k o (byL bf 32)∧Has W n1 0 (fl cd)∧Room W (n1 + 1) 0 48∧Has W n2 0 (nl (f1 % HH))) ⟨C.setCell _ (fun h=>absurd h (Nat.not_lt.2 (by omega))),X.off _ (fun e=>by omega),H2.off _ (fun e=>by omega),(Chg.set1 _ _ _ _).room H3,h7.out⟩ ?_
 clear h7 c7 a7 e7 d7 C X H2 H3 H8
 rintro W ⟨C,X,H2,H3,H8⟩
 repeat ((fail_if_success with_reducible refine sl 25 ?_);first | go_step | dsimp only)
 refine wL (b:=n2) (o:=0) rfl H8 (nL _) agg25 size25 ?_
 simp only [Act.put,iA,iB,iC]
 obtain ⟨f2,qf2⟩:∃ g:F,g = el (((f1 % HH):Nat):Int):=⟨_,rfl⟩
 replace qf2:=hd qf2
 go_wp2_with fail
 refine (field_v (hd (by have:f1 % HH < HH:=Nat.mod_lt _ (by decide);exact Nat.lt_trans this (by decide +kernel))) qf2).mono ?_
 rintro e W ⟨rfl,hb⟩
 replace C:=C.trans (Chg.of_below hb)
 replace X:=X.later hb
 replace H2:=H2.later hb
 replace H3:=H3.later hb
 replace H8:=H8.later hb
 clear hb
 repeat ((fail_if_success with_reducible refine ss 25 ?_);first | go_step | dsimp only)
 obtain ⟨n3,ln3⟩:∃ n,W.heap.size = n:=⟨_,rfl⟩
 rw [ln3]
 have hb:=aB [Obj.cells (List.replicate 16 (.int .u32 0)).toArray 25] W
 have zn3:w.heap.size ≤ n3:=ln3 ▸ C.size
 have y9:k < n3:=ln3 ▸ X.lt (by rw [byL_length];decide)
 have y10:n1 < n3:=ln3 ▸ H2.lt (by rw [fL];decide)
 have y11:n1 + 1 < n3:=ln3 ▸ H3.lt (by decide)
 have y12:n2 < n3:=ln3 ▸ H8.lt (by rw [nL];decide)
 replace C:=C.trans (Chg.of_below hb)
 replace X:=X.later hb
 replace H2:=H2.later hb
 replace H3:=H3.later hb
 replace H8:=H8.later hb
 have H13:=(aH [Obj.cells (List.replicate 16 (.int .u32 0)).toArray 25] W 0 _ _ rfl).room (n:=16) rfl
 rw [ln3] at H13
 simp only [Nat.add_zero] at H13
 refine pG (fun W=>Chg R0 w W∧Has W k o (byL bf 32)∧Has W n1 0 (fl cd)∧Room W (n1 + 1) 0 48∧Has W n2 0 (nl (f1 % HH))∧Room W n3 0 16) ⟨C,X,H2,H3,H8,H13⟩ ?_
 clear C X H2 H3 H8 H13 hb ln3
 rintro W ⟨C,X,H2,H3,H8,H13⟩
 refine wS (b:=n3) (o:=0) (vs:=fl f2) rfl rfl H13 (fL _) (fl_one _) size25 ?_
 simp only [Act.put]
 have hc:Chg (Rg n3 0 16) W (World.setCells W n3 0 (fl f2)):=by have:=putL_chg (w:=W) (b:=n3) (o:=0) (vs:=fl f2);rwa [show (fl f2).length = 16 from (fL _)] at this
 have H14:=putL_has (w:=W) (b:=n3) (o:=0) (vs:=fl f2) (by rw [show (fl f2).length = 16 from (fL _)];exact H13)
 replace C:=C.loc hc (by omega)
 replace X:=X.keep hc oa
 replace H2:=H2.keep hc oa
 replace H3:=hc.room H3
 replace H8:=H8.keep hc oa
 clear H13
 clear hc
 refine pG (fun W=>Chg R0 w W∧Has W k o (byL bf 32)∧Has W n1 0 (fl cd)∧Room W (n1 + 1) 0 48∧Has W n2 0 (nl (f1 % HH))∧Has W n3 0 (fl f2)) ⟨C,X,H2,H3,H8,H14⟩ ?_
 clear C X H2 H3 H8 H14
 rintro W ⟨C,X,H2,H3,H8,H14⟩
 repeat ((fail_if_success with_reducible refine sl 25 ?_);first | go_step | dsimp only)
 refine wL (b:=n3) (o:=0) rfl H14 (fL _) agg25 size25 ?_
 simp only [Act.put,iA,iB,iC]
 repeat ((fail_if_success with_reducible refine sl 25 ?_);first | go_step | dsimp only)
 refine wL (b:=n3) (o:=0) rfl H14 (fL _) agg25 size25 ?_
 simp only [Act.put,iA,iB,iC]
 obtain ⟨f3,qf3⟩:∃ g:F,g = f2 * f2:=⟨_,rfl⟩
 replace qf3:=hd qf3
 go_wp2_with fail
 refine (mul_v qf3).mono ?_
 rintro e W ⟨rfl,hb⟩
 replace C:=C.trans (Chg.of_below hb)
 replace X:=X.later hb
 replace H2:=H2.later hb
 replace H3:=H3.later hb
 replace H8:=H8.later hb
 replace H14:=H14.later hb
 clear hb
 repeat ((fail_if_success with_reducible refine ss 25 ?_);first | go_step | dsimp only)
 obtain ⟨n4,ln4⟩:∃ n,W.heap.size = n:=⟨_,rfl⟩
 rw [ln4]
 have hb:=aB [Obj.cells (List.replicate 16 (.int .u32 0)).toArray 25] W
 have zn4:w.heap.size ≤ n4:=ln4 ▸ C.size
 have y15:k < n4:=ln4 ▸ X.lt (by rw [byL_length];decide)
 have y16:n1 < n4:=ln4 ▸ H2.lt (by rw [fL];decide)
 have y17:n1 + 1 < n4:=ln4 ▸ H3.lt (by decide)
 have y18:n2 < n4:=ln4 ▸ H8.lt (by rw [nL];decide)
 have y19:n3 < n4:=ln4 ▸ H14.lt (by rw [fL];decide)
 replace C:=C.trans (Chg.of_below hb)
 replace X:=X.later hb
 replace H2:=H2.later hb
 replace H3:=H3.later hb
 replace H8:=H8.later hb
 replace H14:=H14.later hb
 have H20:=(aH [Obj.cells (List.replicate 16 (.int .u32 0)).toArray 25] W 0 _ _ rfl).room (n:=16) rfl
 rw [ln4] at H20
 simp only [Nat.add_zero] at H20
 refine pG (fun W=>Chg R0 w W∧Has W k o (byL bf 32)∧Has W n1 0 (fl cd)∧Room W (n1 + 1) 0 48∧Has W n2 0 (nl (f1 % HH))∧Has W n3 0 (fl f2)∧Room W n4 0 16) ⟨C,X,H2,H3,H8,H14,H20⟩ ?_
 clear C X H2 H3 H8 H14 H20 hb ln4
 rintro W ⟨C,X,H2,H3,H8,H14,H20⟩
 refine wS (b:=n4) (o:=0) (vs:=fl f3) rfl rfl H20 (fL _) (fl_one _) size25 ?_
 simp only [Act.put]
 have hc:Chg (Rg n4 0 16) W (World.setCells W n4 0 (fl f3)):=by have:=putL_chg (w:=W) (b:=n4) (o:=0) (vs:=fl f3);rwa [show (fl f3).length = 16 from (fL _)] at this
 have H21:=putL_has (w:=W) (b:=n4) (o:=0) (vs:=fl f3) (by rw [show (fl f3).length = 16 from (fL _)];exact H20)
 replace C:=C.loc hc (by omega)
 replace X:=X.keep hc oa
 replace H2:=H2.keep hc oa
 replace H3:=hc.room H3
 replace H8:=H8.keep hc oa
 replace H14:=H14.keep hc oa
 clear H20
 clear hc
 refine pG (fun W=>Chg R0 w W∧Has W k o (byL bf 32)∧Has W n1 0 (fl cd)∧Room W (n1 + 1) 0 48∧Has W n2 0 (nl (f1 % HH))∧Has W n3 0 (fl f2)∧Has W n4 0 (fl f3)) ⟨C,X,H2,H3,H8,H14,H21⟩ ?_
 clear C X H2 H3 H8 H14 H21
 rintro W ⟨C,X,H2,H3,H8,H14,H21⟩
 go_wp2_with fail
 obtain ⟨n5,ln5⟩:∃ n,W.heap.size = n:=⟨_,rfl⟩
 have zn5:w.heap.size ≤ n5:=ln5 ▸ C.size
 have y22:k < n5:=ln5 ▸ X.lt (by rw [byL_length];decide)
 have y23:n1 < n5:=ln5 ▸ H2.lt (by rw [fL];decide)
 have y24:n1 + 1 < n5:=ln5 ▸ H3.lt (by decide)
 have y25:n2 < n5:=ln5 ▸ H8.lt (by rw [nL];decide)
 have y26:n3 < n5:=ln5 ▸ H14.lt (by rw [fL];decide)
 have y27:n4 < n5:=ln5 ▸ H21.lt (by rw [fL];decide)
 replace ln5:=hd ln5
 obtain ⟨f4,qf4⟩:∃ g:F,g = f3 - 1:=⟨_,rfl⟩
 replace qf4:=hd qf4
 obtain ⟨f5,qf5⟩:∃ g:F,g = cd * f3:=⟨_,rfl⟩
 replace qf5:=hd qf5
 obtain ⟨f6,qf6⟩:∃ g:F,g = f5 + 1:=⟨_,rfl⟩
 replace qf6:=hd qf6
 obtain ⟨r7,b7,q7⟩:∃ r b,spRt f4 f6 = (r,b):=⟨_,_,rfl⟩
 replace q7:=hd q7
 have hv:=hd (show ¬ f6 = 0 by rw [qf6.out,qf5.out,qf3.out];exact v_ne' _)
 refine region_late 15 [13] 14 13 n5 (fl r7) [] (by kernel_rfl) (by kernel_rfl) (by kernel_rfl) (fun o ho=>by simp at ho;subst ho;exact ⟨⟨13,.data⟩,by simp,rfl,rfl⟩)
  (fun i vv W=>match i with
   | 0=>vv = .agg (fl f3).toArray
   | 1=>vv = .agg (fl 1).toArray
   | 2=>vv = .agg (fl f4).toArray
   | 3=>vv = Ptr n1 0
   | 4=>vv = .agg (fl cd).toArray
   | 5=>vv = .agg (fl f3).toArray
   | 6=>vv = .agg (fl f5).toArray
   | 7=>vv = .agg (fl 1).toArray
   | 8=>vv = .agg (fl f6).toArray
   | 9=>vv = .tuple #[.agg (fl r7).toArray,.bool b7]
   | 10=>vv = .tuple #[.agg (fl r7).toArray,.bool b7]
   | 11=>vv = .agg (fl r7).toArray
   | 12=>vv = .bool b7
   | 13=>∃ k,vv = Ptr k 0∧n5 ≤ k∧Room W k 0 16∧TY W k 25
   | 14=>True
   | _=>True) ?_ ?_ ?_
 ·intro i v u u' h hb
  split at h
  ·exact h
  ·exact h
  ·exact h
  ·exact h
  ·exact h
  ·exact h
  ·exact h
  ·exact h
  ·exact h
  ·exact h
  ·exact h
  ·exact h
  ·exact h
  ·obtain ⟨k,h1,h2,h3,h4⟩:=h;exact ⟨k,h1,h2,hb.1.room h3,hb.1.ty h4⟩
  ·trivial
  ·trivial
 ·simp only [List.take_succ_cons,List.take_zero,heads]
  refine ⟨?_,?_,?_,?_,?_,?_,?_,?_,?_,?_,?_,?_,?_,?_,?_,trivial⟩
  ·intro a W1 hR hun hdep
   have t9:=hun 9 (by simp)
   simp at t9
   clear hun hdep
   exact opw_load (b:=n4) (o:=0) (gd t9) (RN.keep hR H21 (by omega)) (fL _) agg25 size25 ⟨_,rfl,RN.refl _ _ _ _,rfl,(fun h=>absurd h (by decide)),(fun h=>absurd h (by decide))⟩
  ·intro a W1 hR hun hdep
   clear hun hdep
   go_simp
   refine (small_f (x:=1) (f:=1) (by omega) (by decide) (by decide +kernel)).mono ?_
   rintro e W2 ⟨rfl,hb⟩
   first | exact RN.of_below hb | exact ⟨RN.of_below hb,rfl⟩ | exact ⟨rfl,RN.of_below hb⟩
  ·intro a W1 hR hun hdep
   have d30:=hdep ⟨0,.data⟩ (by simp) rfl
   simp [slotOf] at d30
   have d31:=hdep ⟨1,.data⟩ (by simp) rfl
   simp [slotOf] at d31
   clear hun hdep
   go_simp
   refine (sub_v qf4).mono ?_
   rintro e W2 ⟨rfl,hb⟩
   first | exact RN.of_below hb | exact ⟨RN.of_below hb,rfl⟩ | exact ⟨rfl,RN.of_below hb⟩
  ·intro a W1 hR hun hdep
   have t2:=hun 2 (by simp)
   simp at t2
   clear hun hdep
   go_simp
   exact RN.refl _ _ _ _
  ·intro a W1 hR hun hdep
   have d33:=hdep ⟨3,.data⟩ (by simp) rfl
   simp [slotOf] at d33
   clear hun hdep
   exact opw_load (b:=n1) (o:=0) (gd d33) (RN.keep hR H2 (by omega)) (fL _) agg25 size25 ⟨_,rfl,RN.refl _ _ _ _,rfl,(fun h=>absurd h (by decide)),(fun h=>absurd h (by decide))⟩
  ·intro a W1 hR hun hdep
   have t9:=hun 9 (by simp)
   simp at t9
   clear hun hdep
   exact opw_load (b:=n4) (o:=0) (gd t9) (RN.keep hR H21 (by omega)) (fL _) agg25 size25 ⟨_,rfl,RN.refl _ _ _ _,rfl,(fun h=>absurd h (by decide)),(fun h=>absurd h (by decide))⟩
  ·intro a W1 hR hun hdep
   have d34:=hdep ⟨4,.data⟩ (by simp) rfl
   simp [slotOf] at d34
   have d35:=hdep ⟨5,.data⟩ (by simp) rfl
   simp [slotOf] at d35
   clear hun hdep
   go_simp
   refine (mul_v qf5).mono ?_
   rintro e W2 ⟨rfl,hb⟩
   first | exact RN.of_below hb | exact ⟨RN.of_below hb,rfl⟩ | exact ⟨rfl,RN.of_below hb⟩
  ·intro a W1 hR hun hdep
   clear hun hdep
   go_simp
   refine (small_f (x:=1) (f:=1) (by omega) (by decide) (by decide +kernel)).mono ?_
   rintro e W2 ⟨rfl,hb⟩
   first | exact RN.of_below hb | exact ⟨RN.of_below hb,rfl⟩ | exact ⟨rfl,RN.of_below hb⟩
  ·intro a W1 hR hun hdep
   have d36:=hdep ⟨6,.data⟩ (by simp) rfl
   simp [slotOf] at d36
   have d37:=hdep ⟨7,.data⟩ (by simp) rfl
   simp [slotOf] at d37
   clear hun hdep
   go_simp
   refine (add_v qf6).mono ?_
   rintro e W2 ⟨rfl,hb⟩
   first | exact RN.of_below hb | exact ⟨RN.of_below hb,rfl⟩ | exact ⟨rfl,RN.of_below hb⟩
  ·intro a W1 hR hun hdep
   have d32:=hdep ⟨2,.data⟩ (by simp) rfl
   simp [slotOf] at d32
   have d38:=hdep ⟨8,.data⟩ (by simp) rfl
   simp [slotOf] at d38
   clear hun hdep
   go_simp
   refine (ratio_v hv q7).mono ?_
   rintro e W2 ⟨rfl,hb⟩
   first | exact RN.of_below hb | exact ⟨RN.of_below hb,rfl⟩ | exact ⟨rfl,RN.of_below hb⟩
  ·intro a W1 hR hun hdep
   have d39:=hdep ⟨9,.data⟩ (by simp) rfl
   simp [slotOf] at d39
   clear hun hdep
   go_simp
   exact RN.refl _ _ _ _
  ·intro a W1 hR hun hdep
   have d29:=hdep ⟨10,.data⟩ (by simp) rfl
   simp [slotOf] at d29
   clear hun hdep
   go_simp
   exact RN.refl _ _ _ _
  ·intro a W1 hR hun hdep
   have d29:=hdep ⟨10,.data⟩ (by simp) rfl
   simp [slotOf] at d29
   clear hun hdep
   go_simp
   exact RN.refl _ _ _ _
  ·intro a W1 hR hun hdep
   clear hun hdep
   have hle:n5 ≤ W1.heap.size:=ln5.out ▸ hR.1.size
   exact opw_alloc alloc25 ⟨_,rfl,RN.of_below (bA _ _),⟨_,rfl,hle,(box_has W1 _ 25).room rfl,TY.new _ _ _⟩,fun _=>⟨rfl,by rw [size_alloc];omega,rfl⟩,(fun h=>absurd h (by decide))⟩
  ·intro a W1 hR hun hdep
   obtain ⟨k,e1,hk,hm,ht⟩:=hdep ⟨13,.data⟩ (by simp) rfl
   have d10:=e1
   simp [slotOf] at d10
   have d40:=hdep ⟨11,.data⟩ (by simp) rfl
   simp [slotOf] at d40
   clear hun hdep
   exact opw_store (b:=k) (o:=0) (gd d10) (gd d40) hm (fL _) (fl_one _) size25 ⟨undef,rfl,(RN.store hm (fL _) hk ht (by decide)).1,trivial,(fun h=>absurd h (by decide)),fun _=>⟨k,e1,(RN.store (us:=[]) hm (fL _) hk ht (by decide)).2⟩⟩
 ·intro vs W1 hR hv hfr hps
  simp only [List.take_succ_cons,List.take_zero,List.drop_succ_cons,List.drop_zero,heads,Option.isSome_some,if_true] at hv ⊢
  obtain ⟨v0,v1,v2,v3,v4,v5,v6,v7,v8,v9,v10,v11,v12,v13,v14,-⟩:=hv
  obtain ⟨k10,v13,y28,-⟩:=v13
  obtain ⟨k,e1,H29⟩:=hps (by decide)
  rw [v13] at e1
  cases e1
  simp only [finL,Act.put,v0,v1,v2,v3,v4,v5,v6,v7,v8,v9,v10,v11,v12,v13]
  simp only [iA,iB,iC]
  replace X:=RN.keep hR X (by omega)
  replace H2:=RN.keep hR H2 (by omega)
  replace H3:=RN.room hR H3
  replace H8:=RN.keep hR H8 (by omega)
  replace H14:=RN.keep hR H14 (by omega)
  replace H21:=RN.keep hR H21 (by omega)
  replace C:=RN.chg C hR (by omega)
  clear hR hfr hps v0 v1 v2 v3 v4 v5 v6 v7 v8 v9 v10 v11 v12 v13 v14
  have z30:w.heap.size ≤ k10:=by omega
  refine pG (fun W=>Chg R0 w W∧Has W k o (byL bf 32)∧Has W n1 0 (fl cd)∧Room W (n1 + 1) 0 48∧Has W n2 0 (nl (f1 % HH))∧Has W n3 0 (fl f2)∧Has W n4 0 (fl f3)∧Has W k10 0 (fl r7)) ⟨C,X,H2,H3,H8,H14,H21,H29⟩ ?_
  clear C X H2 H3 H8 H14 H21 H29
  rintro W ⟨C,X,H2,H3,H8,H14,H21,H29⟩
  cases b7 with
  | false =>
   repeat ((fail_if_success with_reducible refine ss 30 ?_);first | go_step | dsimp only)
   refine wS (b:=n1 + 1) (o:=0) (vs:=(z0 ++ (z0 ++ z0))) rfl rfl H3 (len48 z0_length z0_length z0_length) (one48 z0_one z0_one z0_one) size30 ?_
   simp only [Act.put]
   have hc:Chg (Rg (n1 + 1) 0 48) W (World.setCells W (n1 + 1) 0 (z0 ++ (z0 ++ z0))):=by have:=putL_chg (w:=W) (b:=n1 + 1) (o:=0) (vs:=(z0 ++ (z0 ++ z0)));rwa [show ((z0 ++ (z0 ++ z0))).length = 48 from (len48 z0_length z0_length z0_length)] at this
   have H31:=putL_has (w:=W) (b:=n1 + 1) (o:=0) (vs:=(z0 ++ (z0 ++ z0))) (by rw [show ((z0 ++ (z0 ++ z0))).length = 48 from (len48 z0_length z0_length z0_length)];exact H3)
   replace C:=C.loc hc (by omega)
   replace X:=X.keep hc oa
   replace H2:=H2.keep hc oa
   clear H3
   replace H8:=H8.keep hc oa
   replace H14:=H14.keep hc oa
   replace H21:=H21.keep hc oa
   replace H29:=H29.keep hc oa
   clear hc
   obtain ⟨H32,H33,H34⟩:=part48 z0_length z0_length H31
   clear H31
   refine pG (fun W=>Chg R0 w W∧Has W k o (byL bf 32)∧Has W n1 0 (fl cd)∧Has W n2 0 (nl (f1 % HH))∧Has W n3 0 (fl f2)∧Has W n4 0 (fl f3)∧Has W k10 0 (fl r7)∧Has W (n1 + 1) 0 z0∧Has W (n1 + 1) 16 z0∧Has W (n1 + 1) 32 z0) ⟨C,X,H2,H8,H14,H21,H29,H32,H33,H34⟩ ?_
   clear C X H2 H8 H14 H21 H29 H32 H33 H34
   rintro W ⟨C,X,H2,H8,H14,H21,H29,H32,H33,H34⟩
   go_wp2_with fail
   have hr:=h.out
   rw [decS_n (n:=n) (y:=f2) (by rw [qf2.out,fn.out]) (by rw [qf4.out,qf3.out]) (by rw [qf6.out,qf5.out,qf3.out]) q7.out,Prod.mk.injEq] at hr
   obtain ⟨e1,e2⟩:=hr
   exact ret_cell2 (b:=n1 + 1) (o:=0) Tryz.results16 rfl rfl (join48 z0_length z0_length H32 H33 H34) (len48 z0_length z0_length z0_length) agg30 size30 rfl ⟨by rw [←e1,←e2,z0_fl];rfl,C.r0⟩
  | true =>
   have c0:=(fl_nl r7 ▸ H29).cellD (i:=0) (by decide)
   rw [Nat.zero_add] at c0
   have d0:=dig_lt r7.val 0
   have o0:odd r7 = ((dig (Fin.val r7) 0 % 2:Nat):Int):=by unfold odd dig;simp
   obtain ⟨x0,qx⟩:∃ x,dig (Fin.val r7) 0 = x:=⟨_,rfl⟩
   rw [qx] at c0 d0 o0
   clear qx
   replace c0:=c0.1
   have a1:=and1_u32 d0
   have s2:s < 2:=by have:=qs.out;omega
   obtain ⟨p,qp⟩:∃ p,x0 % 2 = p:=⟨_,rfl⟩
   have p2:p < 2:=by omega
   rw [qp] at a1 o0
   replace o0:=hd o0
   have a2:(x0:Int) % 2 = p:=by omega
   clear qp sgn
   have hp:p = 0∨p = 1:=by omega
   have hs:s = 0∨s = 1:=by omega
   clear s2 p2
   rcases hp with rfl | rfl<;>rcases hs with rfl | rfl
   ·go_wp2_with fail
    refine region_fresh 4 [] (by kernel_rfl) (by kernel_rfl) (by kernel_rfl)
     (fun i vv W=>match i with
      | 0=>vv = .agg (fl r7).toArray
      | 1=>vv = .agg (fl f2).toArray
      | 2=>vv = .agg (fl 1).toArray
      | 3=>vv = .agg ((fl r7 ++ (fl f2 ++ fl 1))).toArray
      | _=>True) ?_ ?_ ?_
    ·intro i v u u' h hb
     split at h<;>exact h
    ·simp only [List.take_succ_cons,List.take_zero,heads]
     refine ⟨?_,?_,?_,?_,trivial⟩
     ·intro a W1 hR hun hdep
      have t10:=hun 10 (by simp)
      simp at t10
      clear hun hdep
      exact opw_load (b:=k10) (o:=0) (gd t10) (Has.later H29 hR.off) (fL _) agg25 size25 ⟨_,rfl,Later.rfl' _,rfl,(fun h=>absurd h (by decide))⟩
     ·intro a W1 hR hun hdep
      have t8:=hun 8 (by simp)
      simp at t8
      clear hun hdep
      exact opw_load (b:=n3) (o:=0) (gd t8) (Has.later H14 hR.off) (fL _) agg25 size25 ⟨_,rfl,Later.rfl' _,rfl,(fun h=>absurd h (by decide))⟩
     ·intro a W1 hR hun hdep
      clear hun hdep
      go_simp
      refine (small_f (x:=1) (f:=1) (by omega) (by decide) (by decide +kernel)).mono ?_
      rintro e W2 ⟨rfl,hb⟩
      first | exact hb | exact ⟨hb,rfl⟩ | exact ⟨rfl,hb⟩
     ·intro a W1 hR hun hdep
      have d53:=hdep ⟨0,.data⟩ (by simp) rfl
      simp [slotOf] at d53
      have d54:=hdep ⟨1,.data⟩ (by simp) rfl
      simp [slotOf] at d54
      have d55:=hdep ⟨2,.data⟩ (by simp) rfl
      simp [slotOf] at d55
      clear hun hdep
      refine Blind.wp (blind_build30 (gd d53) (gd d54) (gd d55) (fL _) (fL _) (fL _)) ⟨_,rfl,Later.rfl' _,rfl,(fun h=>absurd h (by decide))⟩
    ·intro vs W1 hR hv hfr
     simp only [List.take_succ_cons,List.take_zero,List.drop_succ_cons,List.drop_zero,heads,Option.isSome_some,if_true] at hv ⊢
     obtain ⟨v0,v1,v2,v3,-⟩:=hv
     simp only [finL,Act.put,v0,v1,v2,v3]
     simp only [iA,iB,iC]
     replace hR:=hR.off
     replace C:=C.trans (Chg.of_below hR)
     replace X:=X.later hR
     replace H2:=H2.later hR
     replace H3:=H3.later hR
     replace H8:=H8.later hR
     replace H14:=H14.later hR
     replace H21:=H21.later hR
     replace H29:=H29.later hR
     clear hR hfr v0 v1 v2 v3
     refine pG (fun W=>Chg R0 w W∧Has W k o (byL bf 32)∧Has W n1 0 (fl cd)∧Room W (n1 + 1) 0 48∧Has W n2 0 (nl (f1 % HH))∧Has W n3 0 (fl f2)∧Has W n4 0 (fl f3)∧Has W k10 0 (fl r7)) ⟨C,X,H2,H3,H8,H14,H21,H29⟩ ?_
     clear C X H2 H3 H8 H14 H21 H29
     rintro W ⟨C,X,H2,H3,H8,H14,H21,H29⟩
     repeat ((fail_if_success with_reducible refine ss 30 ?_);first | go_step | dsimp only)
     refine wS (b:=n1 + 1) (o:=0) (vs:=(fl r7 ++ (fl f2 ++ fl 1))) rfl rfl H3 (len48 (fL _) (fL _) (fL _)) (one48 (fl_one _) (fl_one _) (fl_one _)) size30 ?_
     simp only [Act.put]
     have hc:Chg (Rg (n1 + 1) 0 48) W (World.setCells W (n1 + 1) 0 (fl r7 ++ (fl f2 ++ fl 1))):=by have:=putL_chg (w:=W) (b:=n1 + 1) (o:=0) (vs:=(fl r7 ++ (fl f2 ++ fl 1)));rwa [show ((fl r7 ++ (fl f2 ++ fl 1))).length = 48 from (len48 (fL _) (fL _) (fL _))] at this
     have H31:=putL_has (w:=W) (b:=n1 + 1) (o:=0) (vs:=(fl r7 ++ (fl f2 ++ fl 1))) (by rw [show ((fl r7 ++ (fl f2 ++ fl 1))).length = 48 from (len48 (fL _) (fL _) (fL _))];exact H3)
     replace C:=C.loc hc (by omega)
     replace X:=X.keep hc oa
     replace H2:=H2.keep hc oa
     clear H3
     replace H8:=H8.keep hc oa
     replace H14:=H14.keep hc oa
     replace H21:=H21.keep hc oa
     replace H29:=H29.keep hc oa
     clear hc
     obtain ⟨H32,H33,H34⟩:=part48 (fL _) (fL _) H31
     clear H31
     refine pG (fun W=>Chg R0 w W∧Has W k o (byL bf 32)∧Has W n1 0 (fl cd)∧Has W n2 0 (nl (f1 % HH))∧Has W n3 0 (fl f2)∧Has W n4 0 (fl f3)∧Has W k10 0 (fl r7)∧Has W (n1 + 1) 0 (fl r7)∧Has W (n1 + 1) 16 (fl f2)∧Has W (n1 + 1) 32 (fl 1)) ⟨C,X,H2,H8,H14,H21,H29,H32,H33,H34⟩ ?_
     clear C X H2 H8 H14 H21 H29 H32 H33 H34
     rintro W ⟨C,X,H2,H8,H14,H21,H29,H32,H33,H34⟩
     go_wp2_with fail
     have hr:=h.out
     rw [decS_s (n:=n) (y:=f2) (by rw [qf2.out,fn.out]) (by rw [qf4.out,qf3.out]) (by rw [qf6.out,qf5.out,qf3.out]) q7.out (by rw [o0.out,←fn.out,qs.out]),Prod.mk.injEq] at hr
     obtain ⟨e1,e2⟩:=hr
     exact ret_cell2 (b:=n1 + 1) (o:=0) Tryz.results16 rfl rfl (join48 (fL _) (fL _) H32 H33 H34) (len48 (fL _) (fL _) (fL _)) agg30 size30 rfl ⟨by rw [←e1,←e2];rfl,C.r0⟩
   ·repeat ((fail_if_success with_reducible refine sl 25 ?_);first | go_step | dsimp only)
    refine wL (b:=k10) (o:=0) rfl H29 (fL _) agg25 size25 ?_
    simp only [Act.put,iA,iB,iC]
    obtain ⟨f8,qf8⟩:∃ g:F,g = -r7:=⟨_,rfl⟩
    replace qf8:=hd qf8
    go_wp2_with fail
    refine (neg_v qf8).mono ?_
    rintro e W ⟨rfl,hb⟩
    replace C:=C.trans (Chg.of_below hb)
    replace X:=X.later hb
    replace H2:=H2.later hb
    replace H3:=H3.later hb
    replace H8:=H8.later hb
    replace H14:=H14.later hb
    replace H21:=H21.later hb
    replace H29:=H29.later hb
    clear hb
    repeat ((fail_if_success with_reducible refine ss 25 ?_);first | go_step | dsimp only)
    refine wS (b:=k10) (o:=0) (vs:=fl f8) rfl rfl (H29.room (fL _)) (fL _) (fl_one _) size25 ?_
    simp only [Act.put]
    have hc:Chg (Rg k10 0 16) W (World.setCells W k10 0 (fl f8)):=by have:=putL_chg (w:=W) (b:=k10) (o:=0) (vs:=fl f8);rwa [show (fl f8).length = 16 from (fL _)] at this
    have H31:=putL_has (w:=W) (b:=k10) (o:=0) (vs:=fl f8) (by rw [show (fl f8).length = 16 from (fL _)];exact (H29.room (fL _)))
    replace C:=C.loc hc (by omega)
    replace X:=X.keep hc oa
    replace H2:=H2.keep hc oa
    replace H3:=hc.room H3
    replace H8:=H8.keep hc oa
    replace H14:=H14.keep hc oa
    replace H21:=H21.keep hc oa
    clear H29
    clear hc
    refine pG (fun W=>Chg R0 w W∧Has W k o (byL bf 32)∧Has W n1 0 (fl cd)∧Room W (n1 + 1) 0 48∧Has W n2 0 (nl (f1 % HH))∧Has W n3 0 (fl f2)∧Has W n4 0 (fl f3)∧Has W k10 0 (fl f8)) ⟨C,X,H2,H3,H8,H14,H21,H31⟩ ?_
    clear C X H2 H3 H8 H14 H21 H31
    rintro W ⟨C,X,H2,H3,H8,H14,H21,H31⟩
    go_wp2_with fail
    refine region_fresh 4 [] (by kernel_rfl) (by kernel_rfl) (by kernel_rfl)
     (fun i vv W=>match i with
      | 0=>vv = .agg (fl f8).toArray
      | 1=>vv = .agg (fl f2).toArray
      | 2=>vv = .agg (fl 1).toArray
      | 3=>vv = .agg ((fl f8 ++ (fl f2 ++ fl 1))).toArray
      | _=>True) ?_ ?_ ?_
    ·intro i v u u' h hb
     split at h<;>exact h
    ·simp only [List.take_succ_cons,List.take_zero,heads]
     refine ⟨?_,?_,?_,?_,trivial⟩
     ·intro a W1 hR hun hdep
      have t10:=hun 10 (by simp)
      simp at t10
      clear hun hdep
      exact opw_load (b:=k10) (o:=0) (gd t10) (Has.later H31 hR.off) (fL _) agg25 size25 ⟨_,rfl,Later.rfl' _,rfl,(fun h=>absurd h (by decide))⟩
     ·intro a W1 hR hun hdep
      have t8:=hun 8 (by simp)
      simp at t8
      clear hun hdep
      exact opw_load (b:=n3) (o:=0) (gd t8) (Has.later H14 hR.off) (fL _) agg25 size25 ⟨_,rfl,Later.rfl' _,rfl,(fun h=>absurd h (by decide))⟩
     ·intro a W1 hR hun hdep
      clear hun hdep
      go_simp
      refine (small_f (x:=1) (f:=1) (by omega) (by decide) (by decide +kernel)).mono ?_
      rintro e W2 ⟨rfl,hb⟩
      first | exact hb | exact ⟨hb,rfl⟩ | exact ⟨rfl,hb⟩
     ·intro a W1 hR hun hdep
      have d53:=hdep ⟨0,.data⟩ (by simp) rfl
      simp [slotOf] at d53
      have d54:=hdep ⟨1,.data⟩ (by simp) rfl
      simp [slotOf] at d54
      have d55:=hdep ⟨2,.data⟩ (by simp) rfl
      simp [slotOf] at d55
      clear hun hdep
      refine Blind.wp (blind_build30 (gd d53) (gd d54) (gd d55) (fL _) (fL _) (fL _)) ⟨_,rfl,Later.rfl' _,rfl,(fun h=>absurd h (by decide))⟩
    ·intro vs W1 hR hv hfr
     simp only [List.take_succ_cons,List.take_zero,List.drop_succ_cons,List.drop_zero,heads,Option.isSome_some,if_true] at hv ⊢
     obtain ⟨v0,v1,v2,v3,-⟩:=hv
     simp only [finL,Act.put,v0,v1,v2,v3]
     simp only [iA,iB,iC]
     replace hR:=hR.off
     replace C:=C.trans (Chg.of_below hR)
     replace X:=X.later hR
     replace H2:=H2.later hR
     replace H3:=H3.later hR
     replace H8:=H8.later hR
     replace H14:=H14.later hR
     replace H21:=H21.later hR
     replace H31:=H31.later hR
     clear hR hfr v0 v1 v2 v3
     refine pG (fun W=>Chg R0 w W∧Has W k o (byL bf 32)∧Has W n1 0 (fl cd)∧Room W (n1 + 1) 0 48∧Has W n2 0 (nl (f1 % HH))∧Has W n3 0 (fl f2)∧Has W n4 0 (fl f3)∧Has W k10 0 (fl f8)) ⟨C,X,H2,H3,H8,H14,H21,H31⟩ ?_
     clear C X H2 H3 H8 H14 H21 H31
     rintro W ⟨C,X,H2,H3,H8,H14,H21,H31⟩
     repeat ((fail_if_success with_reducible refine ss 30 ?_);first | go_step | dsimp only)
     refine wS (b:=n1 + 1) (o:=0) (vs:=(fl f8 ++ (fl f2 ++ fl 1))) rfl rfl H3 (len48 (fL _) (fL _) (fL _)) (one48 (fl_one _) (fl_one _) (fl_one _)) size30 ?_
     simp only [Act.put]
     have hc:Chg (Rg (n1 + 1) 0 48) W (World.setCells W (n1 + 1) 0 (fl f8 ++ (fl f2 ++ fl 1))):=by have:=putL_chg (w:=W) (b:=n1 + 1) (o:=0) (vs:=(fl f8 ++ (fl f2 ++ fl 1)));rwa [show ((fl f8 ++ (fl f2 ++ fl 1))).length = 48 from (len48 (fL _) (fL _) (fL _))] at this
     have H32:=putL_has (w:=W) (b:=n1 + 1) (o:=0) (vs:=(fl f8 ++ (fl f2 ++ fl 1))) (by rw [show ((fl f8 ++ (fl f2 ++ fl 1))).length = 48 from (len48 (fL _) (fL _) (fL _))];exact H3)
     replace C:=C.loc hc (by omega)
     replace X:=X.keep hc oa
     replace H2:=H2.keep hc oa
     clear H3
     replace H8:=H8.keep hc oa
     replace H14:=H14.keep hc oa
     replace H21:=H21.keep hc oa
     replace H31:=H31.keep hc oa
     clear hc
     obtain ⟨H33,H34,H35⟩:=part48 (fL _) (fL _) H32
     clear H32
     refine pG (fun W=>Chg R0 w W∧Has W k o (byL bf 32)∧Has W n1 0 (fl cd)∧Has W n2 0 (nl (f1 % HH))∧Has W n3 0 (fl f2)∧Has W n4 0 (fl f3)∧Has W k10 0 (fl f8)∧Has W (n1 + 1) 0 (fl f8)∧Has W (n1 + 1) 16 (fl f2)∧Has W (n1 + 1) 32 (fl 1)) ⟨C,X,H2,H8,H14,H21,H31,H33,H34,H35⟩ ?_
     clear C X H2 H8 H14 H21 H31 H33 H34 H35
     rintro W ⟨C,X,H2,H8,H14,H21,H31,H33,H34,H35⟩
     go_wp2_with fail
     have hr:=h.out
     rw [decS_o (n:=n) (y:=f2) (by rw [qf2.out,fn.out]) (by rw [qf4.out,qf3.out]) (by rw [qf6.out,qf5.out,qf3.out]) q7.out (by rw [o0.out,←fn.out,qs.out];decide),Prod.mk.injEq] at hr
     obtain ⟨e1,e2⟩:=hr
     have ex:=qf8.out
     exact ret_cell2 (b:=n1 + 1) (o:=0) Tryz.results16 rfl rfl (join48 (fL _) (fL _) H33 H34 H35) (len48 (fL _) (fL _) (fL _)) agg30 size30 rfl ⟨by rw [←e1,←e2,ex];rfl,C.r0⟩
   ·repeat ((fail_if_success with_reducible refine sl 25 ?_);first | go_step | dsimp only)
    refine wL (b:=k10) (o:=0) rfl H29 (fL _) agg25 size25 ?_
    simp only [Act.put,iA,iB,iC]
    obtain ⟨f8,qf8⟩:∃ g:F,g = -r7:=⟨_,rfl⟩
    replace qf8:=hd qf8
    go_wp2_with fail
    refine (neg_v qf8).mono ?_
    rintro e W ⟨rfl,hb⟩
    replace C:=C.trans (Chg.of_below hb)
    replace X:=X.later hb
    replace H2:=H2.later hb
    replace H3:=H3.later hb
    replace H8:=H8.later hb
    replace H14:=H14.later hb
    replace H21:=H21.later hb
    replace H29:=H29.later hb
    clear hb
    repeat ((fail_if_success with_reducible refine ss 25 ?_);first | go_step | dsimp only)
    refine wS (b:=k10) (o:=0) (vs:=fl f8) rfl rfl (H29.room (fL _)) (fL _) (fl_one _) size25 ?_
    simp only [Act.put]
    have hc:Chg (Rg k10 0 16) W (World.setCells W k10 0 (fl f8)):=by have:=putL_chg (w:=W) (b:=k10) (o:=0) (vs:=fl f8);rwa [show (fl f8).length = 16 from (fL _)] at this
    have H31:=putL_has (w:=W) (b:=k10) (o:=0) (vs:=fl f8) (by rw [show (fl f8).length = 16 from (fL _)];exact (H29.room (fL _)))
    replace C:=C.loc hc (by omega)
    replace X:=X.keep hc oa
    replace H2:=H2.keep hc oa
    replace H3:=hc.room H3
    replace H8:=H8.keep hc oa
    replace H14:=H14.keep hc oa
    replace H21:=H21.keep hc oa
    clear H29
    clear hc
    refine pG (fun W=>Chg R0 w W∧Has W k o (byL bf 32)∧Has W n1 0 (fl cd)∧Room W (n1 + 1) 0 48∧Has W n2 0 (nl (f1 % HH))∧Has W n3 0 (fl f2)∧Has W n4 0 (fl f3)∧Has W k10 0 (fl f8)) ⟨C,X,H2,H3,H8,H14,H21,H31⟩ ?_
    clear C X H2 H3 H8 H14 H21 H31
    rintro W ⟨C,X,H2,H3,H8,H14,H21,H31⟩
    go_wp2_with fail
    refine region_fresh 4 [] (by kernel_rfl) (by kernel_rfl) (by kernel_rfl)
     (fun i vv W=>match i with
      | 0=>vv = .agg (fl f8).toArray
      | 1=>vv = .agg (fl f2).toArray
      | 2=>vv = .agg (fl 1).toArray
      | 3=>vv = .agg ((fl f8 ++ (fl f2 ++ fl 1))).toArray
      | _=>True) ?_ ?_ ?_
    ·intro i v u u' h hb
     split at h<;>exact h
    ·simp only [List.take_succ_cons,List.take_zero,heads]
     refine ⟨?_,?_,?_,?_,trivial⟩
     ·intro a W1 hR hun hdep
      have t10:=hun 10 (by simp)
      simp at t10
      clear hun hdep
      exact opw_load (b:=k10) (o:=0) (gd t10) (Has.later H31 hR.off) (fL _) agg25 size25 ⟨_,rfl,Later.rfl' _,rfl,(fun h=>absurd h (by decide))⟩
     ·intro a W1 hR hun hdep
      have t8:=hun 8 (by simp)
      simp at t8
      clear hun hdep
      exact opw_load (b:=n3) (o:=0) (gd t8) (Has.later H14 hR.off) (fL _) agg25 size25 ⟨_,rfl,Later.rfl' _,rfl,(fun h=>absurd h (by decide))⟩
     ·intro a W1 hR hun hdep
      clear hun hdep
      go_simp
      refine (small_f (x:=1) (f:=1) (by omega) (by decide) (by decide +kernel)).mono ?_
      rintro e W2 ⟨rfl,hb⟩
      first | exact hb | exact ⟨hb,rfl⟩ | exact ⟨rfl,hb⟩
     ·intro a W1 hR hun hdep
      have d53:=hdep ⟨0,.data⟩ (by simp) rfl
      simp [slotOf] at d53
      have d54:=hdep ⟨1,.data⟩ (by simp) rfl
      simp [slotOf] at d54
      have d55:=hdep ⟨2,.data⟩ (by simp) rfl
      simp [slotOf] at d55
      clear hun hdep
      refine Blind.wp (blind_build30 (gd d53) (gd d54) (gd d55) (fL _) (fL _) (fL _)) ⟨_,rfl,Later.rfl' _,rfl,(fun h=>absurd h (by decide))⟩
    ·intro vs W1 hR hv hfr
     simp only [List.take_succ_cons,List.take_zero,List.drop_succ_cons,List.drop_zero,heads,Option.isSome_some,if_true] at hv ⊢
     obtain ⟨v0,v1,v2,v3,-⟩:=hv
     simp only [finL,Act.put,v0,v1,v2,v3]
     simp only [iA,iB,iC]
     replace hR:=hR.off
     replace C:=C.trans (Chg.of_below hR)
     replace X:=X.later hR
     replace H2:=H2.later hR
     replace H3:=H3.later hR
     replace H8:=H8.later hR
     replace H14:=H14.later hR
     replace H21:=H21.later hR
     replace H31:=H31.later hR
     clear hR hfr v0 v1 v2 v3
     refine pG (fun W=>Chg R0 w W∧Has W k o (byL bf 32)∧Has W n1 0 (fl cd)∧Room W (n1 + 1) 0 48∧Has W n2 0 (nl (f1 % HH))∧Has W n3 0 (fl f2)∧Has W n4 0 (fl f3)∧Has W k10 0 (fl f8)) ⟨C,X,H2,H3,H8,H14,H21,H31⟩ ?_
     clear C X H2 H3 H8 H14 H21 H31
     rintro W ⟨C,X,H2,H3,H8,H14,H21,H31⟩
     repeat ((fail_if_success with_reducible refine ss 30 ?_);first | go_step | dsimp only)
     refine wS (b:=n1 + 1) (o:=0) (vs:=(fl f8 ++ (fl f2 ++ fl 1))) rfl rfl H3 (len48 (fL _) (fL _) (fL _)) (one48 (fl_one _) (fl_one _) (fl_one _)) size30 ?_
     simp only [Act.put]
     have hc:Chg (Rg (n1 + 1) 0 48) W (World.setCells W (n1 + 1) 0 (fl f8 ++ (fl f2 ++ fl 1))):=by have:=putL_chg (w:=W) (b:=n1 + 1) (o:=0) (vs:=(fl f8 ++ (fl f2 ++ fl 1)));rwa [show ((fl f8 ++ (fl f2 ++ fl 1))).length = 48 from (len48 (fL _) (fL _) (fL _))] at this
     have H32:=putL_has (w:=W) (b:=n1 + 1) (o:=0) (vs:=(fl f8 ++ (fl f2 ++ fl 1))) (by rw [show ((fl f8 ++ (fl f2 ++ fl 1))).length = 48 from (len48 (fL _) (fL _) (fL _))];exact H3)
     replace C:=C.loc hc (by omega)
     replace X:=X.keep hc oa
     replace H2:=H2.keep hc oa
     clear H3
     replace H8:=H8.keep hc oa
     replace H14:=H14.keep hc oa
     replace H21:=H21.keep hc oa
     replace H31:=H31.keep hc oa
     clear hc
     obtain ⟨H33,H34,H35⟩:=part48 (fL _) (fL _) H32
     clear H32
     refine pG (fun W=>Chg R0 w W∧Has W k o (byL bf 32)∧Has W n1 0 (fl cd)∧Has W n2 0 (nl (f1 % HH))∧Has W n3 0 (fl f2)∧Has W n4 0 (fl f3)∧Has W k10 0 (fl f8)∧Has W (n1 + 1) 0 (fl f8)∧Has W (n1 + 1) 16 (fl f2)∧Has W (n1 + 1) 32 (fl 1)) ⟨C,X,H2,H8,H14,H21,H31,H33,H34,H35⟩ ?_
     clear C X H2 H8 H14 H21 H31 H33 H34 H35
     rintro W ⟨C,X,H2,H8,H14,H21,H31,H33,H34,H35⟩
     go_wp2_with fail
     have hr:=h.out
     rw [decS_o (n:=n) (y:=f2) (by rw [qf2.out,fn.out]) (by rw [qf4.out,qf3.out]) (by rw [qf6.out,qf5.out,qf3.out]) q7.out (by rw [o0.out,←fn.out,qs.out];decide),Prod.mk.injEq] at hr
     obtain ⟨e1,e2⟩:=hr
     have ex:=qf8.out
     exact ret_cell2 (b:=n1 + 1) (o:=0) Tryz.results16 rfl rfl (join48 (fL _) (fL _) H33 H34 H35) (len48 (fL _) (fL _) (fL _)) agg30 size30 rfl ⟨by rw [←e1,←e2,ex];rfl,C.r0⟩
   ·go_wp2_with fail
    refine region_fresh 4 [] (by kernel_rfl) (by kernel_rfl) (by kernel_rfl)
     (fun i vv W=>match i with
      | 0=>vv = .agg (fl r7).toArray
      | 1=>vv = .agg (fl f2).toArray
      | 2=>vv = .agg (fl 1).toArray
      | 3=>vv = .agg ((fl r7 ++ (fl f2 ++ fl 1))).toArray
      | _=>True) ?_ ?_ ?_
    ·intro i v u u' h hb
     split at h<;>exact h
    ·simp only [List.take_succ_cons,List.take_zero,heads]
     refine ⟨?_,?_,?_,?_,trivial⟩
     ·intro a W1 hR hun hdep
      have t10:=hun 10 (by simp)
      simp at t10
      clear hun hdep
      exact opw_load (b:=k10) (o:=0) (gd t10) (Has.later H29 hR.off) (fL _) agg25 size25 ⟨_,rfl,Later.rfl' _,rfl,(fun h=>absurd h (by decide))⟩
     ·intro a W1 hR hun hdep
      have t8:=hun 8 (by simp)
      simp at t8
      clear hun hdep
      exact opw_load (b:=n3) (o:=0) (gd t8) (Has.later H14 hR.off) (fL _) agg25 size25 ⟨_,rfl,Later.rfl' _,rfl,(fun h=>absurd h (by decide))⟩
     ·intro a W1 hR hun hdep
      clear hun hdep
      go_simp
      refine (small_f (x:=1) (f:=1) (by omega) (by decide) (by decide +kernel)).mono ?_
      rintro e W2 ⟨rfl,hb⟩
      first | exact hb | exact ⟨hb,rfl⟩ | exact ⟨rfl,hb⟩
     ·intro a W1 hR hun hdep
      have d53:=hdep ⟨0,.data⟩ (by simp) rfl
      simp [slotOf] at d53
      have d54:=hdep ⟨1,.data⟩ (by simp) rfl
      simp [slotOf] at d54
      have d55:=hdep ⟨2,.data⟩ (by simp) rfl
      simp [slotOf] at d55
      clear hun hdep
      refine Blind.wp (blind_build30 (gd d53) (gd d54) (gd d55) (fL _) (fL _) (fL _)) ⟨_,rfl,Later.rfl' _,rfl,(fun h=>absurd h (by decide))⟩
    ·intro vs W1 hR hv hfr
     simp only [List.take_succ_cons,List.take_zero,List.drop_succ_cons,List.drop_zero,heads,Option.isSome_some,if_true] at hv ⊢
     obtain ⟨v0,v1,v2,v3,-⟩:=hv
     simp only [finL,Act.put,v0,v1,v2,v3]
     simp only [iA,iB,iC]
     replace hR:=hR.off
     replace C:=C.trans (Chg.of_below hR)
     replace X:=X.later hR
     replace H2:=H2.later hR
     replace H3:=H3.later hR
     replace H8:=H8.later hR
     replace H14:=H14.later hR
     replace H21:=H21.later hR
     replace H29:=H29.later hR
     clear hR hfr v0 v1 v2 v3
     refine pG (fun W=>Chg R0 w W∧Has W k o (byL bf 32)∧Has W n1 0 (fl cd)∧Room W (n1 + 1) 0 48∧Has W n2 0 (nl (f1 % HH))∧Has W n3 0 (fl f2)∧Has W n4 0 (fl f3)∧Has W k10 0 (fl r7)) ⟨C,X,H2,H3,H8,H14,H21,H29⟩ ?_
     clear C X H2 H3 H8 H14 H21 H29
     rintro W ⟨C,X,H2,H3,H8,H14,H21,H29⟩
     repeat ((fail_if_success with_reducible refine ss 30 ?_);first | go_step | dsimp only)
     refine wS (b:=n1 + 1) (o:=0) (vs:=(fl r7 ++ (fl f2 ++ fl 1))) rfl rfl H3 (len48 (fL _) (fL _) (fL _)) (one48 (fl_one _) (fl_one _) (fl_one _)) size30 ?_
     simp only [Act.put]
     have hc:Chg (Rg (n1 + 1) 0 48) W (World.setCells W (n1 + 1) 0 (fl r7 ++ (fl f2 ++ fl 1))):=by have:=putL_chg (w:=W) (b:=n1 + 1) (o:=0) (vs:=(fl r7 ++ (fl f2 ++ fl 1)));rwa [show ((fl r7 ++ (fl f2 ++ fl 1))).length = 48 from (len48 (fL _) (fL _) (fL _))] at this
     have H31:=putL_has (w:=W) (b:=n1 + 1) (o:=0) (vs:=(fl r7 ++ (fl f2 ++ fl 1))) (by rw [show ((fl r7 ++ (fl f2 ++ fl 1))).length = 48 from (len48 (fL _) (fL _) (fL _))];exact H3)
     replace C:=C.loc hc (by omega)
     replace X:=X.keep hc oa
     replace H2:=H2.keep hc oa
     clear H3
     replace H8:=H8.keep hc oa
     replace H14:=H14.keep hc oa
     replace H21:=H21.keep hc oa
     replace H29:=H29.keep hc oa
     clear hc
     obtain ⟨H32,H33,H34⟩:=part48 (fL _) (fL _) H31
     clear H31
     refine pG (fun W=>Chg R0 w W∧Has W k o (byL bf 32)∧Has W n1 0 (fl cd)∧Has W n2 0 (nl (f1 % HH))∧Has W n3 0 (fl f2)∧Has W n4 0 (fl f3)∧Has W k10 0 (fl r7)∧Has W (n1 + 1) 0 (fl r7)∧Has W (n1 + 1) 16 (fl f2)∧Has W (n1 + 1) 32 (fl 1)) ⟨C,X,H2,H8,H14,H21,H29,H32,H33,H34⟩ ?_
     clear C X H2 H8 H14 H21 H29 H32 H33 H34
     rintro W ⟨C,X,H2,H8,H14,H21,H29,H32,H33,H34⟩
     go_wp2_with fail
     have hr:=h.out
     rw [decS_s (n:=n) (y:=f2) (by rw [qf2.out,fn.out]) (by rw [qf4.out,qf3.out]) (by rw [qf6.out,qf5.out,qf3.out]) q7.out (by rw [o0.out,←fn.out,qs.out]),Prod.mk.injEq] at hr
     obtain ⟨e1,e2⟩:=hr
     exact ret_cell2 (b:=n1 + 1) (o:=0) Tryz.results16 rfl rfl (join48 (fL _) (fL _) H32 H33 H34) (len48 (fL _) (fL _) (fL _)) agg30 size30 rfl ⟨by rw [←e1,←e2];rfl,C.r0⟩
end Go.Proofs.Ed
