/- A part of the proof of the tied card of FnTimes: Vq. -/
import Derived.Test.YtcogfofgmbndjaaGreatDoorProg
import Derived.WalkKit
import Derived.WalkSpells
import Derived.WalkLawsBesides
import Derived.Outline
import Derived.StillTailTactics
import Derived.Test.YtcogfofgmbndjaaGreatDoorTBb
set_option maxRecDepth 100000
set_option maxHeartbeats 40000000
namespace Go.Proofs.Ed
open Go.RowKit
abbrev T3:=F × F × F
def plus3 (s t:T3):T3:=(plX s.1 s.2.1 s.2.2 t.1 t.2.1 t.2.2,plY s.1 s.2.1 s.2.2 t.1 t.2.1 t.2.2,plZ s.1 s.2.1 s.2.2 t.1 t.2.1 t.2.2)
def PJ (t:T3) (p:Pt):Prop:=Pj t.1 t.2.1 t.2.2 p
theorem PJ.plus {s t:T3} {p q:Pt} (h:PJ s p) (k:PJ t q):PJ (plus3 s t) (p + q):=Pj.pl h k
theorem cplus_t {s t u:T3} {w:World} (h:Hd (u = plus3 s t)):Calls Tryz.prog 12 #[.agg (fl cd).toArray,.agg (fl s.1 ++ (fl s.2.1 ++ fl s.2.2)).toArray,.agg (fl t.1 ++ (fl t.2.1 ++ fl t.2.2)).toArray] w (fun e w'=>e = .returned (.agg (fl u.1 ++ (fl u.2.1 ++ fl u.2.2)).toArray)∧Below w.heap.size w w') :=
 cplus_v (hd (by rw [h.out];rfl)) (hd (by rw [h.out];rfl)) (hd (by rw [h.out];rfl))
def cmul (n:Nat) (b:T3):Nat→T3
 | 0=>(0,1,1)
 | m + 1=>if n / 2 ^ (255 - m) % 2 = 1 then plus3 (plus3 (cmul n b m) (cmul n b m)) b else plus3 (cmul n b m) (cmul n b m)
theorem cmul_zero (n:Nat) (b:T3):cmul n b 0 = (0,1,1):=rfl
theorem cmul_1 {n:Nat} {b s:T3} {k:Nat} (hk:k < 256) (h:Hd (s = cmul n b (256 - (k + 1)))) (hb:Hd (n / 2 ^ k % 2 = 1)):plus3 (plus3 s s) b = cmul n b (256 - k):=by
 rw [show 256 - k = (256 - (k + 1)) + 1 by omega,h.out]
 show _ = if n / 2 ^ (255 - (256 - (k + 1))) % 2 = 1 then _ else _
 rw [show 255 - (256 - (k + 1)) = k by omega,if_pos hb.out]
theorem cmul_0 {n:Nat} {b s:T3} {k:Nat} (hk:k < 256) (h:Hd (s = cmul n b (256 - (k + 1)))) (hb:Hd (n / 2 ^ k % 2 = 0)):plus3 s s = cmul n b (256 - k):=by
 rw [show 256 - k = (256 - (k + 1)) + 1 by omega,h.out]
 show _ = if n / 2 ^ (255 - (256 - (k + 1))) % 2 = 1 then _ else _
 rw [show 255 - (256 - (k + 1)) = k by omega,if_neg (by rw [hb.out];decide)]
theorem PJ.zero:PJ (0,1,1) 0:=⟨one_ne_zero,by rw [zero_x];grind,by rw [zero_y];grind⟩
theorem PJ.cmul {n:Nat} {b:T3} {p:Pt} (hn:n < 2 ^ 256) (h:PJ b p):PJ (Ed.cmul n b 256) (smul n p):=by
 have key:∀ m,m ≤ 256→PJ (Ed.cmul n b m) (smul (n / 2 ^ (256 - m)) p):=by
  intro m
  induction m with
  | zero=>intro _;rw [Nat.sub_zero,Nat.div_eq_of_lt hn];exact PJ.zero
  | succ m ih =>
   intro hm
   have hi:=ih (by omega)
   have e:=pw_step n (255 - m)
   rw [show 255 - m + 1 = 256 - m by omega] at e
   rw [show 256 - (m + 1) = 255 - m by omega,e,Nat.two_mul,smul_add,smul_add]
   show PJ (if n / 2 ^ (255 - m) % 2 = 1 then _ else _) _
   split
   ·rename_i h1
    rw [h1,smul_one]
    exact (hi.plus hi).plus h
   ·rename_i h1
    rw [show n / 2 ^ (255 - m) % 2 = 0 by omega,smul_zero,add_zero]
    exact hi.plus hi
 have:=key 256 (Nat.le_refl _)
 rwa [Nat.sub_self,Nat.pow_zero,Nat.div_one] at this
attribute [irreducible] cmul plus3
theorem ctimes_t {n:Nat} {t u:T3} {w:World} (h:Hd (u = cmul n t 256)):Calls Tryz.prog 9 #[.agg (fl cd).toArray,.agg (nl n).toArray,.agg ((fl t.1 ++ (fl t.2.1 ++ fl t.2.2))).toArray] w (fun e w'=>e = .returned (.agg (fl u.1 ++ (fl u.2.1 ++ fl u.2.2)).toArray)∧Below w.heap.size w w'):=by
 have C:Chg R0 w w:=.refl _ _
 go_enter Tryz.func9,Tryz.ntmps9
 go_wp2_with fail
 obtain ⟨n1,ln1⟩:∃ n,w.heap.size = n:=⟨_,rfl⟩
 rw [ln1]
 have hb:=aB [Obj.cells (fl cd).toArray 27,Obj.cells (nl n).toArray 25,Obj.cells ((fl t.1 ++ (fl t.2.1 ++ fl t.2.2))).toArray 30,Obj.cells (List.replicate 48 (.int .u32 0)).toArray 30] w
 have zn1:w.heap.size ≤ n1:=ln1 ▸ C.size
 replace C:=C.trans (Chg.of_below hb)
 have H1:=aH [Obj.cells (fl cd).toArray 27,Obj.cells (nl n).toArray 25,Obj.cells ((fl t.1 ++ (fl t.2.1 ++ fl t.2.2))).toArray 30,Obj.cells (List.replicate 48 (.int .u32 0)).toArray 30] w 0 _ _ rfl
 rw [ln1] at H1
 simp only [Nat.add_zero] at H1
 have H2:=aH [Obj.cells (fl cd).toArray 27,Obj.cells (nl n).toArray 25,Obj.cells ((fl t.1 ++ (fl t.2.1 ++ fl t.2.2))).toArray 30,Obj.cells (List.replicate 48 (.int .u32 0)).toArray 30] w 1 _ _ rfl
 rw [ln1] at H2
 have H3:=aH [Obj.cells (fl cd).toArray 27,Obj.cells (nl n).toArray 25,Obj.cells ((fl t.1 ++ (fl t.2.1 ++ fl t.2.2))).toArray 30,Obj.cells (List.replicate 48 (.int .u32 0)).toArray 30] w 2 _ _ rfl
 rw [ln1] at H3
 obtain ⟨H4,H5,H6⟩:=part48 (fL _) (fL _) H3
 clear H3
 have H7:=(aH [Obj.cells (fl cd).toArray 27,Obj.cells (nl n).toArray 25,Obj.cells ((fl t.1 ++ (fl t.2.1 ++ fl t.2.2))).toArray 30,Obj.cells (List.replicate 48 (.int .u32 0)).toArray 30] w 3 _ _ rfl).room (n:=48) rfl
 rw [ln1] at H7
 refine cG (fun W=>Chg R0 w W∧Has W n1 0 (fl cd)∧Has W (n1 + 1) 0 (nl n)∧Has W (n1 + 2) 0 (fl t.1)∧Has W (n1 + 2) 16 (fl t.2.1)∧Has W (n1 + 2) 32 (fl t.2.2)∧Room W (n1 + 3) 0 48) ⟨C,H1,H2,H4,H5,H6,H7⟩ ?_
 clear C H1 H2 H4 H5 H6 H7 hb ln1
 rintro W ⟨C,H1,H2,H4,H5,H6,H7⟩
 refine (none_v).mono ?_
 rintro e W ⟨rfl,hb⟩
 replace C:=C.trans (Chg.of_below hb)
 replace H1:=H1.later hb
 replace H2:=H2.later hb
 replace H4:=H4.later hb
 replace H5:=H5.later hb
 replace H6:=H6.later hb
 replace H7:=H7.later hb
 clear hb
 repeat ((fail_if_success with_reducible refine ss 30 ?_);first | go_step | dsimp only)
 obtain ⟨n2,ln2⟩:∃ n,W.heap.size = n:=⟨_,rfl⟩
 rw [ln2]
 have hb:=aB [Obj.cells (List.replicate 48 (.int .u32 0)).toArray 30] W
 have zn2:w.heap.size ≤ n2:=ln2 ▸ C.size
 have y8:n1 < n2:=ln2 ▸ H1.lt (by rw [fL];decide)
 have y9:n1 + 1 < n2:=ln2 ▸ H2.lt (by rw [nL];decide)
 have y10:n1 + 2 < n2:=ln2 ▸ H4.lt (by rw [fL];decide)
 have y11:n1 + 3 < n2:=ln2 ▸ H7.lt (by decide)
 replace C:=C.trans (Chg.of_below hb)
 replace H1:=H1.later hb
 replace H2:=H2.later hb
 replace H4:=H4.later hb
 replace H5:=H5.later hb
 replace H6:=H6.later hb
 replace H7:=H7.later hb
 have H12:=(aH [Obj.cells (List.replicate 48 (.int .u32 0)).toArray 30] W 0 _ _ rfl).room (n:=48) rfl
 rw [ln2] at H12
 simp only [Nat.add_zero] at H12
 refine pG (fun W=>Chg R0 w W∧Has W n1 0 (fl cd)∧Has W (n1 + 1) 0 (nl n)∧Has W (n1 + 2) 0 (fl t.1)∧Has W (n1 + 2) 16 (fl t.2.1)∧Has W (n1 + 2) 32 (fl t.2.2)∧Room W (n1 + 3) 0 48∧Room W n2 0 48) ⟨C,H1,H2,H4,H5,H6,H7,H12⟩ ?_
 clear C H1 H2 H4 H5 H6 H7 H12 hb ln2
 rintro W ⟨C,H1,H2,H4,H5,H6,H7,H12⟩
 refine wS (b:=n2) (o:=0) (vs:=(fl 0 ++ (fl 1 ++ fl 1))) rfl rfl H12 (len48 (fL _) (fL _) (fL _)) (one48 (fl_one _) (fl_one _) (fl_one _)) size30 ?_
 simp only [Act.put]
 have hc:Chg (Rg n2 0 48) W (World.setCells W n2 0 (fl 0 ++ (fl 1 ++ fl 1))):=by have:=putL_chg (w:=W) (b:=n2) (o:=0) (vs:=(fl 0 ++ (fl 1 ++ fl 1)));rwa [show ((fl 0 ++ (fl 1 ++ fl 1))).length = 48 from (len48 (fL _) (fL _) (fL _))] at this
 have H13:=putL_has (w:=W) (b:=n2) (o:=0) (vs:=(fl 0 ++ (fl 1 ++ fl 1))) (by rw [show ((fl 0 ++ (fl 1 ++ fl 1))).length = 48 from (len48 (fL _) (fL _) (fL _))];exact H12)
 replace C:=C.loc hc (by omega)
 replace H1:=H1.keep hc oa
 replace H2:=H2.keep hc oa
 replace H4:=H4.keep hc oa
 replace H5:=H5.keep hc oa
 replace H6:=H6.keep hc oa
 replace H7:=hc.room H7
 clear H12
 clear hc
 obtain ⟨H14,H15,H16⟩:=part48 (fL _) (fL _) H13
 clear H13
 refine pG (fun W=>Chg R0 w W∧Has W n1 0 (fl cd)∧Has W (n1 + 1) 0 (nl n)∧Has W (n1 + 2) 0 (fl t.1)∧Has W (n1 + 2) 16 (fl t.2.1)∧Has W (n1 + 2) 32 (fl t.2.2)∧Room W (n1 + 3) 0 48∧Has W n2 0 (fl 0)∧Has W n2 16 (fl 1)∧Has W n2 32 (fl 1)) ⟨C,H1,H2,H4,H5,H6,H7,H14,H15,H16⟩ ?_
 clear C H1 H2 H4 H5 H6 H7 H14 H15 H16
 rintro W ⟨C,H1,H2,H4,H5,H6,H7,H14,H15,H16⟩
 go_wp2_with fail
 go_loopw [8] (fun i W=>∃ (k:Nat) (s:T3),k ≤ 256∧i = .int .i64 ((k:Int) - 1)∧Hd (s = cmul n t (256 - k))∧Chg R0 w W∧Has W n1 0 (fl cd)∧Has W (n1 + 1) 0 (nl n)∧Has W (n1 + 2) 0 (fl t.1)∧Has W (n1 + 2) 16 (fl t.2.1)∧Has W (n1 + 2) 32 (fl t.2.2)∧Room W (n1 + 3) 0 48∧Has W n2 0 (fl s.1)∧Has W n2 16 (fl s.2.1)∧Has W n2 32 (fl s.2.2)) (fun i _=>(intOf i + 1).toNat)
 case atStart=>exact ⟨256,(0,1,1),by omega,rfl,hd (cmul_zero n t).symm,C,H1,H2,H4,H5,H6,H7,H14,H15,H16⟩
 case round =>
  clear C H1 H2 H4 H5 H6 H7 H14 H15 H16
  obtain ⟨k,s,hk,rfl,hf,C,H1,H2,H4,H5,H6,H7,H14,H15,H16⟩:=hrel
  cases k with
  | zero =>
   repeat ((fail_if_success with_reducible refine sl 30 ?_);first | go_step | dsimp only)
   refine wL (b:=n2) (o:=0) rfl (join48 (fL _) (fL _) H14 H15 H16) (len48 (fL _) (fL _) (fL _)) agg30 size30 ?_
   simp only [Act.put,iA,iB,iC]
   repeat ((fail_if_success with_reducible refine ss 30 ?_);first | go_step | dsimp only)
   refine wS (b:=n1 + 3) (o:=0) (vs:=(fl s.1 ++ (fl s.2.1 ++ fl s.2.2))) rfl rfl H7 (len48 (fL _) (fL _) (fL _)) (one48 (fl_one _) (fl_one _) (fl_one _)) size30 ?_
   simp only [Act.put]
   have hc:Chg (Rg (n1 + 3) 0 48) wr (World.setCells wr (n1 + 3) 0 (fl s.1 ++ (fl s.2.1 ++ fl s.2.2))):=by have:=putL_chg (w:=wr) (b:=n1 + 3) (o:=0) (vs:=(fl s.1 ++ (fl s.2.1 ++ fl s.2.2)));rwa [show ((fl s.1 ++ (fl s.2.1 ++ fl s.2.2))).length = 48 from (len48 (fL _) (fL _) (fL _))] at this
   have H17:=putL_has (w:=wr) (b:=n1 + 3) (o:=0) (vs:=(fl s.1 ++ (fl s.2.1 ++ fl s.2.2))) (by rw [show ((fl s.1 ++ (fl s.2.1 ++ fl s.2.2))).length = 48 from (len48 (fL _) (fL _) (fL _))];exact H7)
   replace C:=C.loc hc (by omega)
   replace H1:=H1.keep hc oa
   replace H2:=H2.keep hc oa
   replace H4:=H4.keep hc oa
   replace H5:=H5.keep hc oa
   replace H6:=H6.keep hc oa
   clear H7
   replace H14:=H14.keep hc oa
   replace H15:=H15.keep hc oa
   replace H16:=H16.keep hc oa
   clear hc
   obtain ⟨H18,H19,H20⟩:=part48 (fL _) (fL _) H17
   clear H17
   refine pG (fun W=>Chg R0 w W∧Has W n1 0 (fl cd)∧Has W (n1 + 1) 0 (nl n)∧Has W (n1 + 2) 0 (fl t.1)∧Has W (n1 + 2) 16 (fl t.2.1)∧Has W (n1 + 2) 32 (fl t.2.2)∧Has W n2 0 (fl s.1)∧Has W n2 16 (fl s.2.1)∧Has W n2 32 (fl s.2.2)∧Has W (n1 + 3) 0 (fl s.1)∧Has W (n1 + 3) 16 (fl s.2.1)∧Has W (n1 + 3) 32 (fl s.2.2)) ⟨C,H1,H2,H4,H5,H6,H14,H15,H16,H18,H19,H20⟩ ?_
   clear C H1 H2 H4 H5 H6 H14 H15 H16 H18 H19 H20
   rintro W ⟨C,H1,H2,H4,H5,H6,H14,H15,H16,H18,H19,H20⟩
   go_wp2_with fail
   exact ret_cell (b:=n1 + 3) (o:=0) Tryz.results9 rfl (join48 (fL _) (fL _) H18 H19 H20) (len48 (fL _) (fL _) (fL _)) agg30 size30 rfl ⟨by rw [h.out,←hf.out],C.r0⟩
  | succ k =>
   rw [show (((k + 1:Nat):Int) - 1) = k by omega]
   rcases bit_cases n k with hb | hb
   ·replace hb:=hd hb
    repeat ((fail_if_success with_reducible refine sl 27 ?_);first | go_step | dsimp only)
    refine wL (b:=n1) (o:=0) rfl H1 (fL _) agg27 size27 ?_
    simp only [Act.put,iA,iB,iC]
    repeat ((fail_if_success with_reducible refine sl 30 ?_);first | go_step | dsimp only)
    refine wL (b:=n2) (o:=0) rfl (join48 (fL _) (fL _) H14 H15 H16) (len48 (fL _) (fL _) (fL _)) agg30 size30 ?_
    simp only [Act.put,iA,iB,iC]
    repeat ((fail_if_success with_reducible refine sl 30 ?_);first | go_step | dsimp only)
    refine wL (b:=n2) (o:=0) rfl (join48 (fL _) (fL _) H14 H15 H16) (len48 (fL _) (fL _) (fL _)) agg30 size30 ?_
    simp only [Act.put,iA,iB,iC]
    obtain ⟨f1,qf1⟩:∃ g:T3,g = plus3 s s:=⟨_,rfl⟩
    replace qf1:=hd qf1
    go_wp2_with fail
    refine (cplus_t (s:=s) (t:=s) qf1).mono ?_
    rintro e W ⟨rfl,hb⟩
    replace C:=C.trans (Chg.of_below hb)
    replace H1:=H1.later hb
    replace H2:=H2.later hb
    replace H4:=H4.later hb
    replace H5:=H5.later hb
    replace H6:=H6.later hb
    replace H7:=H7.later hb
    replace H14:=H14.later hb
    replace H15:=H15.later hb
    replace H16:=H16.later hb
    clear hb
    repeat ((fail_if_success with_reducible refine ss 30 ?_);first | go_step | dsimp only)
    refine wS (b:=n2) (o:=0) (vs:=(fl f1.1 ++ (fl f1.2.1 ++ fl f1.2.2))) rfl rfl (Has.room (join48 (fL _) (fL _) H14 H15 H16) (len48 (fL _) (fL _) (fL _))) (len48 (fL _) (fL _) (fL _)) (one48 (fl_one _) (fl_one _) (fl_one _)) size30 ?_
    simp only [Act.put]
    have hc:Chg (Rg n2 0 48) W (World.setCells W n2 0 (fl f1.1 ++ (fl f1.2.1 ++ fl f1.2.2))):=by have:=putL_chg (w:=W) (b:=n2) (o:=0) (vs:=(fl f1.1 ++ (fl f1.2.1 ++ fl f1.2.2)));rwa [show ((fl f1.1 ++ (fl f1.2.1 ++ fl f1.2.2))).length = 48 from (len48 (fL _) (fL _) (fL _))] at this
    have H17:=putL_has (w:=W) (b:=n2) (o:=0) (vs:=(fl f1.1 ++ (fl f1.2.1 ++ fl f1.2.2))) (by rw [show ((fl f1.1 ++ (fl f1.2.1 ++ fl f1.2.2))).length = 48 from (len48 (fL _) (fL _) (fL _))];exact (Has.room (join48 (fL _) (fL _) H14 H15 H16) (len48 (fL _) (fL _) (fL _))))
    replace C:=C.loc hc (by omega)
    replace H1:=H1.keep hc oa
    replace H2:=H2.keep hc oa
    replace H4:=H4.keep hc oa
    replace H5:=H5.keep hc oa
    replace H6:=H6.keep hc oa
    replace H7:=hc.room H7
    clear H14
    clear H15
    clear H16
    clear hc
    obtain ⟨H18,H19,H20⟩:=part48 (fL _) (fL _) H17
    clear H17
    refine pG (fun W=>Chg R0 w W∧Has W n1 0 (fl cd)∧Has W (n1 + 1) 0 (nl n)∧Has W (n1 + 2) 0 (fl t.1)∧Has W (n1 + 2) 16 (fl t.2.1)∧Has W (n1 + 2) 32 (fl t.2.2)∧Room W (n1 + 3) 0 48∧Has W n2 0 (fl f1.1)∧Has W n2 16 (fl f1.2.1)∧Has W n2 32 (fl f1.2.2)) ⟨C,H1,H2,H4,H5,H6,H7,H18,H19,H20⟩ ?_
    clear C H1 H2 H4 H5 H6 H7 H18 H19 H20
    rintro W ⟨C,H1,H2,H4,H5,H6,H7,H18,H19,H20⟩
    repeat ((fail_if_success with_reducible refine sl 25 ?_);first | go_step | dsimp only)
    refine wL (b:=n1 + 1) (o:=0) rfl H2 (nL _) agg25 size25 ?_
    simp only [Act.put,iA,iB,iC]
    go_wp2_with fail
    refine (bit1_v (by omega) hb).mono ?_
    rintro e W ⟨rfl,hb⟩
    replace C:=C.trans (Chg.of_below hb)
    replace H1:=H1.later hb
    replace H2:=H2.later hb
    replace H4:=H4.later hb
    replace H5:=H5.later hb
    replace H6:=H6.later hb
    replace H7:=H7.later hb
    replace H18:=H18.later hb
    replace H19:=H19.later hb
    replace H20:=H20.later hb
    clear hb
    repeat ((fail_if_success with_reducible refine sl 27 ?_);first | go_step | dsimp only)
    refine wL (b:=n1) (o:=0) rfl H1 (fL _) agg27 size27 ?_
    simp only [Act.put,iA,iB,iC]
    repeat ((fail_if_success with_reducible refine sl 30 ?_);first | go_step | dsimp only)
    refine wL (b:=n2) (o:=0) rfl (join48 (fL _) (fL _) H18 H19 H20) (len48 (fL _) (fL _) (fL _)) agg30 size30 ?_
    simp only [Act.put,iA,iB,iC]
    repeat ((fail_if_success with_reducible refine sl 30 ?_);first | go_step | dsimp only)
    refine wL (b:=n1 + 2) (o:=0) rfl (join48 (fL _) (fL _) H4 H5 H6) (len48 (fL _) (fL _) (fL _)) agg30 size30 ?_
    simp only [Act.put,iA,iB,iC]
    obtain ⟨f2,qf2⟩:∃ g:T3,g = plus3 f1 t:=⟨_,rfl⟩
    replace qf2:=hd qf2
    go_wp2_with fail
    refine (cplus_t (s:=f1) (t:=t) qf2).mono ?_
    rintro e W ⟨rfl,hb⟩
    replace C:=C.trans (Chg.of_below hb)
    replace H1:=H1.later hb
    replace H2:=H2.later hb
    replace H4:=H4.later hb
    replace H5:=H5.later hb
    replace H6:=H6.later hb
    replace H7:=H7.later hb
    replace H18:=H18.later hb
    replace H19:=H19.later hb
    replace H20:=H20.later hb
    clear hb
    repeat ((fail_if_success with_reducible refine ss 30 ?_);first | go_step | dsimp only)
    refine wS (b:=n2) (o:=0) (vs:=(fl f2.1 ++ (fl f2.2.1 ++ fl f2.2.2))) rfl rfl (Has.room (join48 (fL _) (fL _) H18 H19 H20) (len48 (fL _) (fL _) (fL _))) (len48 (fL _) (fL _) (fL _)) (one48 (fl_one _) (fl_one _) (fl_one _)) size30 ?_
    simp only [Act.put]
    have hc:Chg (Rg n2 0 48) W (World.setCells W n2 0 (fl f2.1 ++ (fl f2.2.1 ++ fl f2.2.2))):=by have:=putL_chg (w:=W) (b:=n2) (o:=0) (vs:=(fl f2.1 ++ (fl f2.2.1 ++ fl f2.2.2)));rwa [show ((fl f2.1 ++ (fl f2.2.1 ++ fl f2.2.2))).length = 48 from (len48 (fL _) (fL _) (fL _))] at this
    have H21:=putL_has (w:=W) (b:=n2) (o:=0) (vs:=(fl f2.1 ++ (fl f2.2.1 ++ fl f2.2.2))) (by rw [show ((fl f2.1 ++ (fl f2.2.1 ++ fl f2.2.2))).length = 48 from (len48 (fL _) (fL _) (fL _))];exact (Has.room (join48 (fL _) (fL _) H18 H19 H20) (len48 (fL _) (fL _) (fL _))))
    replace C:=C.loc hc (by omega)
    replace H1:=H1.keep hc oa
    replace H2:=H2.keep hc oa
    replace H4:=H4.keep hc oa
    replace H5:=H5.keep hc oa
    replace H6:=H6.keep hc oa
    replace H7:=hc.room H7
    clear H18
    clear H19
    clear H20
    clear hc
    obtain ⟨H22,H23,H24⟩:=part48 (fL _) (fL _) H21
    clear H21
    refine pG (fun W=>Chg R0 w W∧Has W n1 0 (fl cd)∧Has W (n1 + 1) 0 (nl n)∧Has W (n1 + 2) 0 (fl t.1)∧Has W (n1 + 2) 16 (fl t.2.1)∧Has W (n1 + 2) 32 (fl t.2.2)∧Room W (n1 + 3) 0 48∧Has W n2 0 (fl f2.1)∧Has W n2 16 (fl f2.2.1)∧Has W n2 32 (fl f2.2.2)) ⟨C,H1,H2,H4,H5,H6,H7,H22,H23,H24⟩ ?_
    clear C H1 H2 H4 H5 H6 H7 H22 H23 H24
    rintro W ⟨C,H1,H2,H4,H5,H6,H7,H22,H23,H24⟩
    go_wp2_with fail
    exact ⟨⟨k,f2,by omega,rfl,hd (by rw [qf2.out,qf1.out,cmul_1 (by omega) hf hb]),C,H1,H2,H4,H5,H6,H7,H22,H23,H24⟩,by simp [intOf]⟩
   ·replace hb:=hd hb
    repeat ((fail_if_success with_reducible refine sl 27 ?_);first | go_step | dsimp only)
    refine wL (b:=n1) (o:=0) rfl H1 (fL _) agg27 size27 ?_
    simp only [Act.put,iA,iB,iC]
    repeat ((fail_if_success with_reducible refine sl 30 ?_);first | go_step | dsimp only)
    refine wL (b:=n2) (o:=0) rfl (join48 (fL _) (fL _) H14 H15 H16) (len48 (fL _) (fL _) (fL _)) agg30 size30 ?_
    simp only [Act.put,iA,iB,iC]
    repeat ((fail_if_success with_reducible refine sl 30 ?_);first | go_step | dsimp only)
    refine wL (b:=n2) (o:=0) rfl (join48 (fL _) (fL _) H14 H15 H16) (len48 (fL _) (fL _) (fL _)) agg30 size30 ?_
    simp only [Act.put,iA,iB,iC]
    obtain ⟨f1,qf1⟩:∃ g:T3,g = plus3 s s:=⟨_,rfl⟩
    replace qf1:=hd qf1
    go_wp2_with fail
    refine (cplus_t (s:=s) (t:=s) qf1).mono ?_
    rintro e W ⟨rfl,hb⟩
    replace C:=C.trans (Chg.of_below hb)
    replace H1:=H1.later hb
    replace H2:=H2.later hb
    replace H4:=H4.later hb
    replace H5:=H5.later hb
    replace H6:=H6.later hb
    replace H7:=H7.later hb
    replace H14:=H14.later hb
    replace H15:=H15.later hb
    replace H16:=H16.later hb
    clear hb
    repeat ((fail_if_success with_reducible refine ss 30 ?_);first | go_step | dsimp only)
    refine wS (b:=n2) (o:=0) (vs:=(fl f1.1 ++ (fl f1.2.1 ++ fl f1.2.2))) rfl rfl (Has.room (join48 (fL _) (fL _) H14 H15 H16) (len48 (fL _) (fL _) (fL _))) (len48 (fL _) (fL _) (fL _)) (one48 (fl_one _) (fl_one _) (fl_one _)) size30 ?_
    simp only [Act.put]
    have hc:Chg (Rg n2 0 48) W (World.setCells W n2 0 (fl f1.1 ++ (fl f1.2.1 ++ fl f1.2.2))):=by have:=putL_chg (w:=W) (b:=n2) (o:=0) (vs:=(fl f1.1 ++ (fl f1.2.1 ++ fl f1.2.2)));rwa [show ((fl f1.1 ++ (fl f1.2.1 ++ fl f1.2.2))).length = 48 from (len48 (fL _) (fL _) (fL _))] at this
    have H17:=putL_has (w:=W) (b:=n2) (o:=0) (vs:=(fl f1.1 ++ (fl f1.2.1 ++ fl f1.2.2))) (by rw [show ((fl f1.1 ++ (fl f1.2.1 ++ fl f1.2.2))).length = 48 from (len48 (fL _) (fL _) (fL _))];exact (Has.room (join48 (fL _) (fL _) H14 H15 H16) (len48 (fL _) (fL _) (fL _))))
    replace C:=C.loc hc (by omega)
    replace H1:=H1.keep hc oa
    replace H2:=H2.keep hc oa
    replace H4:=H4.keep hc oa
    replace H5:=H5.keep hc oa
    replace H6:=H6.keep hc oa
    replace H7:=hc.room H7
    clear H14
    clear H15
    clear H16
    clear hc
    obtain ⟨H18,H19,H20⟩:=part48 (fL _) (fL _) H17
    clear H17
    refine pG (fun W=>Chg R0 w W∧Has W n1 0 (fl cd)∧Has W (n1 + 1) 0 (nl n)∧Has W (n1 + 2) 0 (fl t.1)∧Has W (n1 + 2) 16 (fl t.2.1)∧Has W (n1 + 2) 32 (fl t.2.2)∧Room W (n1 + 3) 0 48∧Has W n2 0 (fl f1.1)∧Has W n2 16 (fl f1.2.1)∧Has W n2 32 (fl f1.2.2)) ⟨C,H1,H2,H4,H5,H6,H7,H18,H19,H20⟩ ?_
    clear C H1 H2 H4 H5 H6 H7 H18 H19 H20
    rintro W ⟨C,H1,H2,H4,H5,H6,H7,H18,H19,H20⟩
    repeat ((fail_if_success with_reducible refine sl 25 ?_);first | go_step | dsimp only)
    refine wL (b:=n1 + 1) (o:=0) rfl H2 (nL _) agg25 size25 ?_
    simp only [Act.put,iA,iB,iC]
    go_wp2_with fail
    refine (bit0_v (by omega) hb).mono ?_
    rintro e W ⟨rfl,hb⟩
    replace C:=C.trans (Chg.of_below hb)
    replace H1:=H1.later hb
    replace H2:=H2.later hb
    replace H4:=H4.later hb
    replace H5:=H5.later hb
    replace H6:=H6.later hb
    replace H7:=H7.later hb
    replace H18:=H18.later hb
    replace H19:=H19.later hb
    replace H20:=H20.later hb
    clear hb
    go_wp2_with fail
    exact ⟨⟨k,f1,by omega,rfl,hd (by rw [qf1.out,cmul_0 (by omega) hf hb]),C,H1,H2,H4,H5,H6,H7,H18,H19,H20⟩,by simp [intOf]⟩
end Go.Proofs.Ed
