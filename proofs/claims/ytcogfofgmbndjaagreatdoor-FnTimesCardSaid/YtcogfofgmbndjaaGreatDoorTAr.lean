/- A part of the proof of the tied card of FnTimes: Fb6, Pt1, Ck, Set. -/
import Derived.Test.YtcogfofgmbndjaaGreatDoorProg
import Derived.WalkKit
import Derived.WalkSpells
import Derived.WalkLawsBesides
import Derived.Outline
import Derived.StillTailTactics
import Derived.Test.YtcogfofgmbndjaaGreatDoorTAk
import Derived.Test.YtcogfofgmbndjaaGreatDoorTAq
import Derived.Test.YtcogfofgmbndjaaGreatDoorTAb
set_option maxRecDepth 100000
set_option maxHeartbeats 40000000
namespace Go.Proofs.Ed
open Go.RowKit
theorem Elt.drew {w:World} {b o:Nat} {f:F} (h:Elt w b o f):Elt w.drew b o f:=h
theorem Room.drew {w:World} {b o n:Nat} (h:Room w b o n):Room w.drew b o n:=h
def selF (c:Int) (f g:F):F:=if c = 1 then f else g
theorem sel_e' {bv ov bx ox bz oz:Nat} {f g:F} {w:World} {c:Int} (hc:c = 1∨c = 0) (RM:Room w bv ov 5) (X:Elt w bx ox f) (Y:Elt w bz oz g) (sx:Sep bv ov bx ox 5) (sy:Sep bv ov bz oz 5) :
  Calls Tryz.prog 84 #[Ptr bv ov,Ptr bx ox,Ptr bz oz,.int .i64 c] w (Puts w bv ov (selF c f g)):=sel_e hc RM X Y sx sy
def orB (a b:Int):Int:=if a = 1 then 1 else b
theorem eqF_01 (f g:F):eqF f g = 1∨eqF f g = 0:=by unfold eqF;split<;>simp
theorem orB_01 {a b:Int} (_ha:a = 1∨a = 0) (hb:b = 1∨b = 0):orB a b = 1∨orB a b = 0:=by unfold orB;split<;>simp_all
theorem or_i64 {a b:Int} (ha:a = 1∨a = 0) (hb:b = 1∨b = 0):bits BinOp.or IntKind.i64 a b = orB a b:=by
 rcases ha with rfl | rfl<;>rcases hb with rfl | rfl<;>rfl
def sqR (u v:F):F:=(u * (v * v * v)) * pow ((u * (v * v * v)) * ((v * v) * (v * v))) 7237005577332262213973186563042994240829374041602535252466099000494570602493
def sqC (u v:F):F:=v * (sqR u v * sqR u v)
def sqOk (u v:F):Int:=orB (eqF (sqC u v) u) (eqF (sqC u v) (-u))
def sqRt (u v:F):F:=absF (selF (orB (eqF (sqC u v) (-u)) (eqF (sqC u v) (-u * ri))) (sqR u v * ri) (sqR u v))
theorem sqrtRatio_e {bv ov bu ou bx ox:Nat} {u v:F} {w:World} (RM:Room w bv ov 5) (U:Elt w bu ou u) (V:Elt w bx ox v) (hu:bv ≠ bu∨ov + 5 ≤ ou∨ou + 5 ≤ ov) (hv0:bv ≠ bx∨ov + 5 ≤ ox∨ox + 5 ≤ ov) :
  Calls Tryz.prog 82 #[Ptr bv ov,Ptr bu ou,Ptr bx ox] w (fun e w'=>e = .returned (.tuple #[Ptr bv ov,.int .i64 (sqOk u v)])∧Chg (Rg bv ov 5) w w'∧Elt w' bv ov (sqRt u v)):=by
 have C:Chg (Rg bv ov 5) w w:=.refl _ _
 go_enter Tryz.func82,Tryz.ntmps82
 go_wp2_with fail
 obtain ⟨n1,ln1⟩:∃ n,w.heap.size = n:=⟨_,rfl⟩
 rw [ln1]
 have hb:=aB [z73,z73] w
 have zn1:w.heap.size ≤ n1:=ln1 ▸ C.size
 have y1:bv < n1:=ln1 ▸ RM.lt (by decide)
 have y2:bu < n1:=ln1 ▸ U.lt
 have y3:bx < n1:=ln1 ▸ V.lt
 replace C:=C.trans (Chg.of_below hb)
 replace RM:=RM.later hb
 replace U:=U.keep (Chg.of_below (R:=R0) hb) (fun _ _ h=>h)
 replace V:=V.keep (Chg.of_below (R:=R0) hb) (fun _ _ h=>h)
 have K1_0:=(aH [z73,z73] w 0 (List.replicate 5 (.int .u64 0)) 73 rfl).room (n:=5) rfl
 rw [ln1] at K1_0
 have K1_1:=(aH [z73,z73] w 1 (List.replicate 5 (.int .u64 0)) 73 rfl).room (n:=5) rfl
 rw [ln1] at K1_1
 refine cG (fun W=>Chg (Rg bv ov 5) w W∧Room W bv ov 5∧Elt W bu ou u∧Elt W bx ox v∧Room W n1 0 5∧Room W (n1 + 1) 0 5) ⟨C,RM,U,V,K1_0,K1_1⟩ ?_
 clear C RM U V K1_0 K1_1 hb ln1
 rintro W ⟨C,RM,U,V,K1_0,K1_1⟩
 refine (sq_e K1_1 V).mono ?_
 rintro e W ⟨rfl,hc,hv⟩
 replace C:=C.loc hc (by omega)
 replace RM:=hc.room RM
 replace U:=U.keep hc oa
 replace V:=V.keep hc oa
 replace K1_0:=hc.room K1_0
 replace K1_1:=hc.room K1_1
 clear hc
 obtain ⟨f1,qf1⟩:∃ g,g = v * v:=⟨_,rfl⟩
 rw [←qf1] at hv
 replace qf1:=hd qf1
 have E4:=hv
 clear hv
 go_wp2_with fail
 obtain ⟨n2,ln2⟩:∃ n,W.heap.size = n:=⟨_,rfl⟩
 rw [ln2]
 have hb:=aB [z73] W
 have zn2:w.heap.size ≤ n2:=ln2 ▸ C.size
 have y5:bv < n2:=ln2 ▸ RM.lt (by decide)
 have y6:bu < n2:=ln2 ▸ U.lt
 have y7:bx < n2:=ln2 ▸ V.lt
 have y8:n1 < n2:=ln2 ▸ K1_0.lt (by decide)
 have y9:n1 + 1 < n2:=ln2 ▸ K1_1.lt (by decide)
 replace C:=C.trans (Chg.of_below hb)
 replace RM:=RM.later hb
 replace U:=U.keep (Chg.of_below (R:=R0) hb) (fun _ _ h=>h)
 replace V:=V.keep (Chg.of_below (R:=R0) hb) (fun _ _ h=>h)
 replace K1_0:=K1_0.later hb
 replace K1_1:=K1_1.later hb
 replace E4:=E4.keep (Chg.of_below (R:=R0) hb) (fun _ _ h=>h)
 have K2_0:=(aH [z73] W 0 (List.replicate 5 (.int .u64 0)) 73 rfl).room (n:=5) rfl
 rw [ln2] at K2_0
 refine cG (fun W=>Chg (Rg bv ov 5) w W∧Room W bv ov 5∧Elt W bu ou u∧Elt W bx ox v∧Room W n1 0 5∧Room W (n1 + 1) 0 5∧Elt W (n1 + 1) 0 f1∧Room W n2 0 5) ⟨C,RM,U,V,K1_0,K1_1,E4,K2_0⟩ ?_
 clear C RM U V K1_0 K1_1 E4 K2_0 hb ln2
 rintro W ⟨C,RM,U,V,K1_0,K1_1,E4,K2_0⟩
 refine (mul_e K1_0 E4 V).mono ?_
 rintro e W ⟨rfl,hc,hv⟩
 replace C:=C.loc hc (by omega)
 replace RM:=hc.room RM
 replace U:=U.keep hc oa
 replace V:=V.keep hc oa
 replace K1_0:=hc.room K1_0
 replace K1_1:=hc.room K1_1
 replace E4:=E4.keep hc oa
 replace K2_0:=hc.room K2_0
 clear hc
 obtain ⟨f2,qf2⟩:∃ g,g = f1 * v:=⟨_,rfl⟩
 rw [←qf2] at hv
 replace qf2:=hd qf2
 have E10:=hv
 clear hv
 go_wp2_with fail
 refine (mul_e K2_0 U E10).mono ?_
 rintro e W ⟨rfl,hc,hv⟩
 replace C:=C.loc hc (by omega)
 replace RM:=hc.room RM
 replace U:=U.keep hc oa
 replace V:=V.keep hc oa
 replace K1_0:=hc.room K1_0
 replace K1_1:=hc.room K1_1
 replace E4:=E4.keep hc oa
 replace K2_0:=hc.room K2_0
 replace E10:=E10.keep hc oa
 clear hc
 obtain ⟨f3,qf3⟩:∃ g,g = u * f2:=⟨_,rfl⟩
 rw [←qf3] at hv
 replace qf3:=hd qf3
 have E11:=hv
 clear hv
 go_wp2_with fail
 obtain ⟨n3,ln3⟩:∃ n,W.heap.size = n:=⟨_,rfl⟩
 rw [ln3]
 have hb:=aB [z73] W
 have zn3:w.heap.size ≤ n3:=ln3 ▸ C.size
 have y12:bv < n3:=ln3 ▸ RM.lt (by decide)
 have y13:bu < n3:=ln3 ▸ U.lt
 have y14:bx < n3:=ln3 ▸ V.lt
 have y15:n1 < n3:=ln3 ▸ K1_0.lt (by decide)
 have y16:n1 + 1 < n3:=ln3 ▸ K1_1.lt (by decide)
 have y17:n2 < n3:=ln3 ▸ K2_0.lt (by decide)
 replace C:=C.trans (Chg.of_below hb)
 replace RM:=RM.later hb
 replace U:=U.keep (Chg.of_below (R:=R0) hb) (fun _ _ h=>h)
 replace V:=V.keep (Chg.of_below (R:=R0) hb) (fun _ _ h=>h)
 replace K1_0:=K1_0.later hb
 replace K1_1:=K1_1.later hb
 replace E4:=E4.keep (Chg.of_below (R:=R0) hb) (fun _ _ h=>h)
 replace K2_0:=K2_0.later hb
 replace E10:=E10.keep (Chg.of_below (R:=R0) hb) (fun _ _ h=>h)
 replace E11:=E11.keep (Chg.of_below (R:=R0) hb) (fun _ _ h=>h)
 have K3_0:=(aH [z73] W 0 (List.replicate 5 (.int .u64 0)) 73 rfl).room (n:=5) rfl
 rw [ln3] at K3_0
 refine cG (fun W=>Chg (Rg bv ov 5) w W∧Room W bv ov 5∧Elt W bu ou u∧Elt W bx ox v∧Room W n1 0 5∧Room W (n1 + 1) 0 5∧Elt W (n1 + 1) 0 f1∧Room W n2 0 5∧Elt W n1 0 f2∧Elt W n2 0 f3∧Room W n3 0 5) ⟨C,RM,U,V,K1_0,K1_1,E4,K2_0,E10,E11,K3_0⟩ ?_
 clear C RM U V K1_0 K1_1 E4 K2_0 E10 E11 K3_0 hb ln3
 rintro W ⟨C,RM,U,V,K1_0,K1_1,E4,K2_0,E10,E11,K3_0⟩
 refine (sq_e K1_0 E4).mono ?_
 rintro e W ⟨rfl,hc,hv⟩
 replace C:=C.loc hc (by omega)
 replace RM:=hc.room RM
 replace U:=U.keep hc oa
 replace V:=V.keep hc oa
 replace K1_0:=hc.room K1_0
 replace K1_1:=hc.room K1_1
 replace E4:=E4.keep hc oa
 replace K2_0:=hc.room K2_0
 clear E10
 replace E11:=E11.keep hc oa
 replace K3_0:=hc.room K3_0
 clear hc
 obtain ⟨f4,qf4⟩:∃ g,g = f1 * f1:=⟨_,rfl⟩
 rw [←qf4] at hv
 replace qf4:=hd qf4
 have E18:=hv
 clear hv
 go_wp2_with fail
 refine (mul_e K3_0 E11 E18).mono ?_
 rintro e W ⟨rfl,hc,hv⟩
 replace C:=C.loc hc (by omega)
 replace RM:=hc.room RM
 replace U:=U.keep hc oa
 replace V:=V.keep hc oa
 replace K1_0:=hc.room K1_0
 replace K1_1:=hc.room K1_1
 replace E4:=E4.keep hc oa
 replace K2_0:=hc.room K2_0
 replace E11:=E11.keep hc oa
 replace K3_0:=hc.room K3_0
 replace E18:=E18.keep hc oa
 clear hc
 obtain ⟨f5,qf5⟩:∃ g,g = f3 * f4:=⟨_,rfl⟩
 rw [←qf5] at hv
 replace qf5:=hd qf5
 have E19:=hv
 clear hv
 go_wp2_with fail
 obtain ⟨n4,ln4⟩:∃ n,W.heap.size = n:=⟨_,rfl⟩
 rw [ln4]
 have hb:=aB [z73] W
 have zn4:w.heap.size ≤ n4:=ln4 ▸ C.size
 have y20:bv < n4:=ln4 ▸ RM.lt (by decide)
 have y21:bu < n4:=ln4 ▸ U.lt
 have y22:bx < n4:=ln4 ▸ V.lt
 have y23:n1 < n4:=ln4 ▸ K1_0.lt (by decide)
 have y24:n1 + 1 < n4:=ln4 ▸ K1_1.lt (by decide)
 have y25:n2 < n4:=ln4 ▸ K2_0.lt (by decide)
 have y26:n3 < n4:=ln4 ▸ K3_0.lt (by decide)
 replace C:=C.trans (Chg.of_below hb)
 replace RM:=RM.later hb
 replace U:=U.keep (Chg.of_below (R:=R0) hb) (fun _ _ h=>h)
 replace V:=V.keep (Chg.of_below (R:=R0) hb) (fun _ _ h=>h)
 replace K1_0:=K1_0.later hb
 replace K1_1:=K1_1.later hb
 replace E4:=E4.keep (Chg.of_below (R:=R0) hb) (fun _ _ h=>h)
 replace K2_0:=K2_0.later hb
 replace E11:=E11.keep (Chg.of_below (R:=R0) hb) (fun _ _ h=>h)
 replace K3_0:=K3_0.later hb
 replace E18:=E18.keep (Chg.of_below (R:=R0) hb) (fun _ _ h=>h)
 replace E19:=E19.keep (Chg.of_below (R:=R0) hb) (fun _ _ h=>h)
 have K4_0:=(aH [z73] W 0 (List.replicate 5 (.int .u64 0)) 73 rfl).room (n:=5) rfl
 rw [ln4] at K4_0
 refine cG (fun W=>Chg (Rg bv ov 5) w W∧Room W bv ov 5∧Elt W bu ou u∧Elt W bx ox v∧Room W n1 0 5∧Room W (n1 + 1) 0 5∧Elt W (n1 + 1) 0 f1∧Room W n2 0 5∧Elt W n2 0 f3∧Room W n3 0 5∧Elt W n1 0 f4∧Elt W n3 0 f5∧Room W n4 0 5) ⟨C,RM,U,V,K1_0,K1_1,E4,K2_0,E11,K3_0,E18,E19,K4_0⟩ ?_
 clear C RM U V K1_0 K1_1 E4 K2_0 E11 K3_0 E18 E19 K4_0 hb ln4
 rintro W ⟨C,RM,U,V,K1_0,K1_1,E4,K2_0,E11,K3_0,E18,E19,K4_0⟩
 refine (pow22523_e K1_0 E19).mono ?_
 rintro e W ⟨rfl,hc,hv⟩
 replace C:=C.loc hc (by omega)
 replace RM:=hc.room RM
 replace U:=U.keep hc oa
 replace V:=V.keep hc oa
 replace K1_0:=hc.room K1_0
 replace K1_1:=hc.room K1_1
 replace E4:=E4.keep hc oa
 replace K2_0:=hc.room K2_0
 replace E11:=E11.keep hc oa
 replace K3_0:=hc.room K3_0
 clear E18
 replace E19:=E19.keep hc oa
 replace K4_0:=hc.room K4_0
 clear hc
 obtain ⟨f6,qf6⟩:∃ g,g = pow f5 7237005577332262213973186563042994240829374041602535252466099000494570602493:=⟨_,rfl⟩
 rw [←qf6] at hv
 replace qf6:=hd qf6
 have E27:=hv
 clear hv
 go_wp2_with fail
 refine (mul_e K4_0 E11 E27).mono ?_
 rintro e W ⟨rfl,hc,hv⟩
 replace C:=C.loc hc (by omega)
 replace RM:=hc.room RM
 replace U:=U.keep hc oa
 replace V:=V.keep hc oa
 replace K1_0:=hc.room K1_0
 replace K1_1:=hc.room K1_1
 replace E4:=E4.keep hc oa
 replace K2_0:=hc.room K2_0
 replace E11:=E11.keep hc oa
 replace K3_0:=hc.room K3_0
 replace E19:=E19.keep hc oa
 replace K4_0:=hc.room K4_0
 replace E27:=E27.keep hc oa
 clear hc
 obtain ⟨f7,qf7⟩:∃ g,g = f3 * f6:=⟨_,rfl⟩
 rw [←qf7] at hv
 replace qf7:=hd qf7
 have E28:=hv
 clear hv
 go_wp2_with fail
 obtain ⟨n5,ln5⟩:∃ n,W.heap.size = n:=⟨_,rfl⟩
 rw [ln5]
 have hb:=aB [z73] W
 have zn5:w.heap.size ≤ n5:=ln5 ▸ C.size
 have y29:bv < n5:=ln5 ▸ RM.lt (by decide)
 have y30:bu < n5:=ln5 ▸ U.lt
 have y31:bx < n5:=ln5 ▸ V.lt
 have y32:n1 < n5:=ln5 ▸ K1_0.lt (by decide)
 have y33:n1 + 1 < n5:=ln5 ▸ K1_1.lt (by decide)
 have y34:n2 < n5:=ln5 ▸ K2_0.lt (by decide)
 have y35:n3 < n5:=ln5 ▸ K3_0.lt (by decide)
 have y36:n4 < n5:=ln5 ▸ K4_0.lt (by decide)
 replace C:=C.trans (Chg.of_below hb)
 replace RM:=RM.later hb
 replace U:=U.keep (Chg.of_below (R:=R0) hb) (fun _ _ h=>h)
 replace V:=V.keep (Chg.of_below (R:=R0) hb) (fun _ _ h=>h)
 replace K1_0:=K1_0.later hb
 replace K1_1:=K1_1.later hb
 replace E4:=E4.keep (Chg.of_below (R:=R0) hb) (fun _ _ h=>h)
 replace K2_0:=K2_0.later hb
 replace E11:=E11.keep (Chg.of_below (R:=R0) hb) (fun _ _ h=>h)
 replace K3_0:=K3_0.later hb
 replace E19:=E19.keep (Chg.of_below (R:=R0) hb) (fun _ _ h=>h)
 replace K4_0:=K4_0.later hb
 replace E27:=E27.keep (Chg.of_below (R:=R0) hb) (fun _ _ h=>h)
 replace E28:=E28.keep (Chg.of_below (R:=R0) hb) (fun _ _ h=>h)
 have K5_0:=(aH [z73] W 0 (List.replicate 5 (.int .u64 0)) 73 rfl).room (n:=5) rfl
 rw [ln5] at K5_0
 refine cG (fun W=>Chg (Rg bv ov 5) w W∧Room W bv ov 5∧Elt W bu ou u∧Elt W bx ox v∧Room W n1 0 5∧Room W (n1 + 1) 0 5∧Elt W (n1 + 1) 0 f1∧Room W n2 0 5∧Elt W n2 0 f3∧Room W n3 0 5∧Elt W n3 0 f5∧Room W n4 0 5∧Elt W n1 0 f6∧Elt W n4 0 f7∧Room W n5 0 5) ⟨C,RM,U,V,K1_0,K1_1,E4,K2_0,E11,K3_0,E19,K4_0,E27,E28,K5_0⟩ ?_
 clear C RM U V K1_0 K1_1 E4 K2_0 E11 K3_0 E19 K4_0 E27 E28 K5_0 hb ln5
 rintro W ⟨C,RM,U,V,K1_0,K1_1,E4,K2_0,E11,K3_0,E19,K4_0,E27,E28,K5_0⟩
 refine (sq_e K1_0 E28).mono ?_
 rintro e W ⟨rfl,hc,hv⟩
 replace C:=C.loc hc (by omega)
 replace RM:=hc.room RM
 replace U:=U.keep hc oa
 replace V:=V.keep hc oa
 replace K1_0:=hc.room K1_0
 replace K1_1:=hc.room K1_1
 replace E4:=E4.keep hc oa
 replace K2_0:=hc.room K2_0
 replace E11:=E11.keep hc oa
 replace K3_0:=hc.room K3_0
 replace E19:=E19.keep hc oa
 replace K4_0:=hc.room K4_0
 clear E27
 replace E28:=E28.keep hc oa
 replace K5_0:=hc.room K5_0
 clear hc
 obtain ⟨f8,qf8⟩:∃ g,g = f7 * f7:=⟨_,rfl⟩
 rw [←qf8] at hv
 replace qf8:=hd qf8
 have E37:=hv
 clear hv
 go_wp2_with fail
 refine (mul_e K5_0 V E37).mono ?_
 rintro e W ⟨rfl,hc,hv⟩
 replace C:=C.loc hc (by omega)
 replace RM:=hc.room RM
 replace U:=U.keep hc oa
 replace V:=V.keep hc oa
 replace K1_0:=hc.room K1_0
 replace K1_1:=hc.room K1_1
 replace E4:=E4.keep hc oa
 replace K2_0:=hc.room K2_0
 replace E11:=E11.keep hc oa
 replace K3_0:=hc.room K3_0
 replace E19:=E19.keep hc oa
 replace K4_0:=hc.room K4_0
 replace E28:=E28.keep hc oa
 replace K5_0:=hc.room K5_0
 replace E37:=E37.keep hc oa
 clear hc
 obtain ⟨f9,qf9⟩:∃ g,g = v * f8:=⟨_,rfl⟩
 rw [←qf9] at hv
 replace qf9:=hd qf9
 have E38:=hv
 clear hv
 go_wp2_with fail
 obtain ⟨n6,ln6⟩:∃ n,W.heap.size = n:=⟨_,rfl⟩
 rw [ln6]
 have hb:=aB [z73] W
 have zn6:w.heap.size ≤ n6:=ln6 ▸ C.size
 have y39:bv < n6:=ln6 ▸ RM.lt (by decide)
 have y40:bu < n6:=ln6 ▸ U.lt
 have y41:bx < n6:=ln6 ▸ V.lt
 have y42:n1 < n6:=ln6 ▸ K1_0.lt (by decide)
 have y43:n1 + 1 < n6:=ln6 ▸ K1_1.lt (by decide)
 have y44:n2 < n6:=ln6 ▸ K2_0.lt (by decide)
 have y45:n3 < n6:=ln6 ▸ K3_0.lt (by decide)
 have y46:n4 < n6:=ln6 ▸ K4_0.lt (by decide)
 have y47:n5 < n6:=ln6 ▸ K5_0.lt (by decide)
 replace C:=C.trans (Chg.of_below hb)
 replace RM:=RM.later hb
 replace U:=U.keep (Chg.of_below (R:=R0) hb) (fun _ _ h=>h)
 replace V:=V.keep (Chg.of_below (R:=R0) hb) (fun _ _ h=>h)
 replace K1_0:=K1_0.later hb
 replace K1_1:=K1_1.later hb
 replace E4:=E4.keep (Chg.of_below (R:=R0) hb) (fun _ _ h=>h)
 replace K2_0:=K2_0.later hb
 replace E11:=E11.keep (Chg.of_below (R:=R0) hb) (fun _ _ h=>h)
 replace K3_0:=K3_0.later hb
 replace E19:=E19.keep (Chg.of_below (R:=R0) hb) (fun _ _ h=>h)
 replace K4_0:=K4_0.later hb
 replace E28:=E28.keep (Chg.of_below (R:=R0) hb) (fun _ _ h=>h)
 replace K5_0:=K5_0.later hb
 replace E37:=E37.keep (Chg.of_below (R:=R0) hb) (fun _ _ h=>h)
 replace E38:=E38.keep (Chg.of_below (R:=R0) hb) (fun _ _ h=>h)
 have K6_0:=(aH [z73] W 0 (List.replicate 5 (.int .u64 0)) 73 rfl).room (n:=5) rfl
 rw [ln6] at K6_0
 refine cG (fun W=>Chg (Rg bv ov 5) w W∧Room W bv ov 5∧Elt W bu ou u∧Elt W bx ox v∧Room W n1 0 5∧Room W (n1 + 1) 0 5∧Elt W (n1 + 1) 0 f1∧Room W n2 0 5∧Elt W n2 0 f3∧Room W n3 0 5∧Elt W n3 0 f5∧Room W n4 0 5∧Elt W n4 0 f7∧Room W n5 0 5∧Elt W n1 0 f8∧Elt W n5 0 f9∧Room W n6 0 5) ⟨C,RM,U,V,K1_0,K1_1,E4,K2_0,E11,K3_0,E19,K4_0,E28,K5_0,E37,E38,K6_0⟩ ?_
 clear C RM U V K1_0 K1_1 E4 K2_0 E11 K3_0 E19 K4_0 E28 K5_0 E37 E38 K6_0 hb ln6
 rintro W ⟨C,RM,U,V,K1_0,K1_1,E4,K2_0,E11,K3_0,E19,K4_0,E28,K5_0,E37,E38,K6_0⟩
 refine (neg_e K6_0 U (fun e=>by omega)).mono ?_
 rintro e W ⟨rfl,hc,hv⟩
 replace C:=C.loc hc (by omega)
 replace RM:=hc.room RM
 replace U:=U.keep hc oa
 replace V:=V.keep hc oa
 replace K1_0:=hc.room K1_0
 replace K1_1:=hc.room K1_1
 replace E4:=E4.keep hc oa
 replace K2_0:=hc.room K2_0
 replace E11:=E11.keep hc oa
 replace K3_0:=hc.room K3_0
 replace E19:=E19.keep hc oa
 replace K4_0:=hc.room K4_0
 replace E28:=E28.keep hc oa
 replace K5_0:=hc.room K5_0
 replace E37:=E37.keep hc oa
 replace E38:=E38.keep hc oa
 replace K6_0:=hc.room K6_0
 clear hc
 obtain ⟨f10,qf10⟩:∃ g,g = -u:=⟨_,rfl⟩
 rw [←qf10] at hv
 replace qf10:=hd qf10
 have E48:=hv
 clear hv
 go_wp2_with fail
 refine (equal_e E38 U).mono ?_
 rintro e W ⟨rfl,hb⟩
 replace C:=C.trans (Chg.of_below hb)
 replace RM:=RM.later hb
 replace U:=U.keep (Chg.of_below (R:=R0) hb) (fun _ _ h=>h)
 replace V:=V.keep (Chg.of_below (R:=R0) hb) (fun _ _ h=>h)
 replace K1_0:=K1_0.later hb
 replace K1_1:=K1_1.later hb
 replace E4:=E4.keep (Chg.of_below (R:=R0) hb) (fun _ _ h=>h)
 replace K2_0:=K2_0.later hb
 replace E11:=E11.keep (Chg.of_below (R:=R0) hb) (fun _ _ h=>h)
 replace K3_0:=K3_0.later hb
 replace E19:=E19.keep (Chg.of_below (R:=R0) hb) (fun _ _ h=>h)
 replace K4_0:=K4_0.later hb
 replace E28:=E28.keep (Chg.of_below (R:=R0) hb) (fun _ _ h=>h)
 replace K5_0:=K5_0.later hb
 replace E37:=E37.keep (Chg.of_below (R:=R0) hb) (fun _ _ h=>h)
 replace E38:=E38.keep (Chg.of_below (R:=R0) hb) (fun _ _ h=>h)
 replace K6_0:=K6_0.later hb
 replace E48:=E48.keep (Chg.of_below (R:=R0) hb) (fun _ _ h=>h)
 clear hb
 go_wp2_with fail
 refine (equal_e E38 E48).mono ?_
 rintro e W ⟨rfl,hb⟩
 replace C:=C.trans (Chg.of_below hb)
 replace RM:=RM.later hb
 replace U:=U.keep (Chg.of_below (R:=R0) hb) (fun _ _ h=>h)
 replace V:=V.keep (Chg.of_below (R:=R0) hb) (fun _ _ h=>h)
 replace K1_0:=K1_0.later hb
 replace K1_1:=K1_1.later hb
 replace E4:=E4.keep (Chg.of_below (R:=R0) hb) (fun _ _ h=>h)
 replace K2_0:=K2_0.later hb
 replace E11:=E11.keep (Chg.of_below (R:=R0) hb) (fun _ _ h=>h)
 replace K3_0:=K3_0.later hb
 replace E19:=E19.keep (Chg.of_below (R:=R0) hb) (fun _ _ h=>h)
 replace K4_0:=K4_0.later hb
 replace E28:=E28.keep (Chg.of_below (R:=R0) hb) (fun _ _ h=>h)
 replace K5_0:=K5_0.later hb
 replace E37:=E37.keep (Chg.of_below (R:=R0) hb) (fun _ _ h=>h)
 replace E38:=E38.keep (Chg.of_below (R:=R0) hb) (fun _ _ h=>h)
 replace K6_0:=K6_0.later hb
 replace E48:=E48.keep (Chg.of_below (R:=R0) hb) (fun _ _ h=>h)
 clear hb
 go_wp2_with fail
 refine (sqrtM1_e _).mono ?_
 rintro e W ⟨n7,ln7,rfl,hb,hv⟩
 have zn7:w.heap.size ≤ n7:=Nat.le_trans C.size ln7
 have y49:bv < n7:=Nat.lt_of_lt_of_le (RM.lt (by decide)) ln7
 have y50:bu < n7:=Nat.lt_of_lt_of_le (U.lt) ln7
 have y51:bx < n7:=Nat.lt_of_lt_of_le (V.lt) ln7
 have y52:n1 < n7:=Nat.lt_of_lt_of_le (K1_0.lt (by decide)) ln7
 have y53:n1 + 1 < n7:=Nat.lt_of_lt_of_le (K1_1.lt (by decide)) ln7
 have y54:n2 < n7:=Nat.lt_of_lt_of_le (K2_0.lt (by decide)) ln7
 have y55:n3 < n7:=Nat.lt_of_lt_of_le (K3_0.lt (by decide)) ln7
 have y56:n4 < n7:=Nat.lt_of_lt_of_le (K4_0.lt (by decide)) ln7
 have y57:n5 < n7:=Nat.lt_of_lt_of_le (K5_0.lt (by decide)) ln7
 have y58:n6 < n7:=Nat.lt_of_lt_of_le (K6_0.lt (by decide)) ln7
 replace C:=C.trans (Chg.of_below hb)
 replace RM:=RM.later hb
 replace U:=U.keep (Chg.of_below (R:=R0) hb) (fun _ _ h=>h)
 replace V:=V.keep (Chg.of_below (R:=R0) hb) (fun _ _ h=>h)
 replace K1_0:=K1_0.later hb
 replace K1_1:=K1_1.later hb
 replace E4:=E4.keep (Chg.of_below (R:=R0) hb) (fun _ _ h=>h)
 replace K2_0:=K2_0.later hb
 replace E11:=E11.keep (Chg.of_below (R:=R0) hb) (fun _ _ h=>h)
 replace K3_0:=K3_0.later hb
 replace E19:=E19.keep (Chg.of_below (R:=R0) hb) (fun _ _ h=>h)
 replace K4_0:=K4_0.later hb
 replace E28:=E28.keep (Chg.of_below (R:=R0) hb) (fun _ _ h=>h)
 replace K5_0:=K5_0.later hb
 replace E37:=E37.keep (Chg.of_below (R:=R0) hb) (fun _ _ h=>h)
 replace E38:=E38.keep (Chg.of_below (R:=R0) hb) (fun _ _ h=>h)
 replace K6_0:=K6_0.later hb
 replace E48:=E48.keep (Chg.of_below (R:=R0) hb) (fun _ _ h=>h)
 clear hb
 have E59:=hv
 clear hv
 clear ln7
 go_wp2_with fail
 refine (mul_e K1_0 E48 E59).mono ?_
 rintro e W ⟨rfl,hc,hv⟩
 replace C:=C.loc hc (by omega)
 replace RM:=hc.room RM
 replace U:=U.keep hc oa
 replace V:=V.keep hc oa
 replace K1_0:=hc.room K1_0
 replace K1_1:=hc.room K1_1
 replace E4:=E4.keep hc oa
 replace K2_0:=hc.room K2_0
 replace E11:=E11.keep hc oa
 replace K3_0:=hc.room K3_0
 replace E19:=E19.keep hc oa
 replace K4_0:=hc.room K4_0
 replace E28:=E28.keep hc oa
 replace K5_0:=hc.room K5_0
 clear E37
 replace E38:=E38.keep hc oa
 replace K6_0:=hc.room K6_0
 replace E48:=E48.keep hc oa
 replace E59:=E59.keep hc oa
 clear hc
 obtain ⟨f11,qf11⟩:∃ g,g = f10 * ri:=⟨_,rfl⟩
 rw [←qf11] at hv
 replace qf11:=hd qf11
 have E60:=hv
 clear hv
 go_wp2_with fail
 refine (equal_e E38 E60).mono ?_
 rintro e W ⟨rfl,hb⟩
 replace C:=C.trans (Chg.of_below hb)
 replace RM:=RM.later hb
 replace U:=U.keep (Chg.of_below (R:=R0) hb) (fun _ _ h=>h)
 replace V:=V.keep (Chg.of_below (R:=R0) hb) (fun _ _ h=>h)
 replace K1_0:=K1_0.later hb
 replace K1_1:=K1_1.later hb
 replace E4:=E4.keep (Chg.of_below (R:=R0) hb) (fun _ _ h=>h)
 replace K2_0:=K2_0.later hb
 replace E11:=E11.keep (Chg.of_below (R:=R0) hb) (fun _ _ h=>h)
 replace K3_0:=K3_0.later hb
 replace E19:=E19.keep (Chg.of_below (R:=R0) hb) (fun _ _ h=>h)
 replace K4_0:=K4_0.later hb
 replace E28:=E28.keep (Chg.of_below (R:=R0) hb) (fun _ _ h=>h)
 replace K5_0:=K5_0.later hb
 replace E38:=E38.keep (Chg.of_below (R:=R0) hb) (fun _ _ h=>h)
 replace K6_0:=K6_0.later hb
 replace E48:=E48.keep (Chg.of_below (R:=R0) hb) (fun _ _ h=>h)
 replace E59:=E59.keep (Chg.of_below (R:=R0) hb) (fun _ _ h=>h)
 replace E60:=E60.keep (Chg.of_below (R:=R0) hb) (fun _ _ h=>h)
 clear hb
 go_wp2_with fail
 obtain ⟨n8,ln8⟩:∃ n,W.heap.size = n:=⟨_,rfl⟩
 rw [ln8]
 have hb:=aB [z73] W
 have zn8:w.heap.size ≤ n8:=ln8 ▸ C.size
 have y61:bv < n8:=ln8 ▸ RM.lt (by decide)
 have y62:bu < n8:=ln8 ▸ U.lt
 have y63:bx < n8:=ln8 ▸ V.lt
 have y64:n1 < n8:=ln8 ▸ K1_0.lt (by decide)
 have y65:n1 + 1 < n8:=ln8 ▸ K1_1.lt (by decide)
 have y66:n2 < n8:=ln8 ▸ K2_0.lt (by decide)
 have y67:n3 < n8:=ln8 ▸ K3_0.lt (by decide)
 have y68:n4 < n8:=ln8 ▸ K4_0.lt (by decide)
 have y69:n5 < n8:=ln8 ▸ K5_0.lt (by decide)
 have y70:n6 < n8:=ln8 ▸ K6_0.lt (by decide)
 have y71:n7 < n8:=ln8 ▸ E59.lt
 replace C:=C.trans (Chg.of_below hb)
 replace RM:=RM.later hb
 replace U:=U.keep (Chg.of_below (R:=R0) hb) (fun _ _ h=>h)
 replace V:=V.keep (Chg.of_below (R:=R0) hb) (fun _ _ h=>h)
 replace K1_0:=K1_0.later hb
 replace K1_1:=K1_1.later hb
 replace E4:=E4.keep (Chg.of_below (R:=R0) hb) (fun _ _ h=>h)
 replace K2_0:=K2_0.later hb
 replace E11:=E11.keep (Chg.of_below (R:=R0) hb) (fun _ _ h=>h)
 replace K3_0:=K3_0.later hb
 replace E19:=E19.keep (Chg.of_below (R:=R0) hb) (fun _ _ h=>h)
 replace K4_0:=K4_0.later hb
 replace E28:=E28.keep (Chg.of_below (R:=R0) hb) (fun _ _ h=>h)
 replace K5_0:=K5_0.later hb
 replace E38:=E38.keep (Chg.of_below (R:=R0) hb) (fun _ _ h=>h)
 replace K6_0:=K6_0.later hb
 replace E48:=E48.keep (Chg.of_below (R:=R0) hb) (fun _ _ h=>h)
 replace E59:=E59.keep (Chg.of_below (R:=R0) hb) (fun _ _ h=>h)
 replace E60:=E60.keep (Chg.of_below (R:=R0) hb) (fun _ _ h=>h)
 have K8_0:=(aH [z73] W 0 (List.replicate 5 (.int .u64 0)) 73 rfl).room (n:=5) rfl
 rw [ln8] at K8_0
 refine cG (fun W=>Chg (Rg bv ov 5) w W∧Room W bv ov 5∧Elt W bu ou u∧Elt W bx ox v∧Room W n1 0 5∧Room W (n1 + 1) 0 5∧Elt W (n1 + 1) 0 f1∧Room W n2 0 5∧Elt W n2 0 f3∧Room W n3 0 5∧Elt W n3 0 f5∧Room W n4 0 5∧Elt W n4 0 f7∧Room W n5 0 5∧Elt W n5 0 f9∧Room W n6 0 5∧Elt W n6 0 f10∧Elt W n7 0 ri∧Elt W n1 0 f11∧Room W n8 0 5) ⟨C,RM,U,V,K1_0,K1_1,E4,K2_0,E11,K3_0,E19,K4_0,E28,K5_0,E38,K6_0,E48,E59,E60,K8_0⟩ ?_
 clear C RM U V K1_0 K1_1 E4 K2_0 E11 K3_0 E19 K4_0 E28 K5_0 E38 K6_0 E48 E59 E60 K8_0 hb ln8
 rintro W ⟨C,RM,U,V,K1_0,K1_1,E4,K2_0,E11,K3_0,E19,K4_0,E28,K5_0,E38,K6_0,E48,E59,E60,K8_0⟩
 refine (sqrtM1_e _).mono ?_
 rintro e W ⟨n9,ln9,rfl,hb,hv⟩
 have zn9:w.heap.size ≤ n9:=Nat.le_trans C.size ln9
 have y72:bv < n9:=Nat.lt_of_lt_of_le (RM.lt (by decide)) ln9
 have y73:bu < n9:=Nat.lt_of_lt_of_le (U.lt) ln9
 have y74:bx < n9:=Nat.lt_of_lt_of_le (V.lt) ln9
 have y75:n1 < n9:=Nat.lt_of_lt_of_le (K1_0.lt (by decide)) ln9
 have y76:n1 + 1 < n9:=Nat.lt_of_lt_of_le (K1_1.lt (by decide)) ln9
 have y77:n2 < n9:=Nat.lt_of_lt_of_le (K2_0.lt (by decide)) ln9
 have y78:n3 < n9:=Nat.lt_of_lt_of_le (K3_0.lt (by decide)) ln9
 have y79:n4 < n9:=Nat.lt_of_lt_of_le (K4_0.lt (by decide)) ln9
 have y80:n5 < n9:=Nat.lt_of_lt_of_le (K5_0.lt (by decide)) ln9
 have y81:n6 < n9:=Nat.lt_of_lt_of_le (K6_0.lt (by decide)) ln9
 have y82:n7 < n9:=Nat.lt_of_lt_of_le (E59.lt) ln9
 have y83:n8 < n9:=Nat.lt_of_lt_of_le (K8_0.lt (by decide)) ln9
 replace C:=C.trans (Chg.of_below hb)
 replace RM:=RM.later hb
 replace U:=U.keep (Chg.of_below (R:=R0) hb) (fun _ _ h=>h)
 replace V:=V.keep (Chg.of_below (R:=R0) hb) (fun _ _ h=>h)
 replace K1_0:=K1_0.later hb
 replace K1_1:=K1_1.later hb
 replace E4:=E4.keep (Chg.of_below (R:=R0) hb) (fun _ _ h=>h)
 replace K2_0:=K2_0.later hb
 replace E11:=E11.keep (Chg.of_below (R:=R0) hb) (fun _ _ h=>h)
 replace K3_0:=K3_0.later hb
 replace E19:=E19.keep (Chg.of_below (R:=R0) hb) (fun _ _ h=>h)
 replace K4_0:=K4_0.later hb
 replace E28:=E28.keep (Chg.of_below (R:=R0) hb) (fun _ _ h=>h)
 replace K5_0:=K5_0.later hb
 replace E38:=E38.keep (Chg.of_below (R:=R0) hb) (fun _ _ h=>h)
 replace K6_0:=K6_0.later hb
 replace E48:=E48.keep (Chg.of_below (R:=R0) hb) (fun _ _ h=>h)
 replace E59:=E59.keep (Chg.of_below (R:=R0) hb) (fun _ _ h=>h)
 replace E60:=E60.keep (Chg.of_below (R:=R0) hb) (fun _ _ h=>h)
 replace K8_0:=K8_0.later hb
 clear hb
 have E84:=hv
 clear hv
 clear ln9
 go_wp2_with fail
 refine (mul_e K8_0 E28 E84).mono ?_
 rintro e W ⟨rfl,hc,hv⟩
 replace C:=C.loc hc (by omega)
 replace RM:=hc.room RM
 replace U:=U.keep hc oa
 replace V:=V.keep hc oa
 replace K1_0:=hc.room K1_0
 replace K1_1:=hc.room K1_1
 replace E4:=E4.keep hc oa
 replace K2_0:=hc.room K2_0
 replace E11:=E11.keep hc oa
 replace K3_0:=hc.room K3_0
 replace E19:=E19.keep hc oa
 replace K4_0:=hc.room K4_0
 replace E28:=E28.keep hc oa
 replace K5_0:=hc.room K5_0
 replace E38:=E38.keep hc oa
 replace K6_0:=hc.room K6_0
 replace E48:=E48.keep hc oa
 replace E59:=E59.keep hc oa
 replace E60:=E60.keep hc oa
 replace K8_0:=hc.room K8_0
 replace E84:=E84.keep hc oa
 clear hc
 obtain ⟨f12,qf12⟩:∃ g,g = f7 * ri:=⟨_,rfl⟩
 rw [←qf12] at hv
 replace qf12:=hd qf12
 have E85:=hv
 clear hv
 have or_611:=or_i64 (eqF_01 f9 f10) (eqF_01 f9 f11)
 go_wp2_with fail
 refine (sel_e' (orB_01 (eqF_01 f9 f10) (eqF_01 f9 f11)) K4_0 E85 E28 (fun e=>by omega) (fun e=>by omega)).mono ?_
 rintro e W ⟨rfl,hc,hv⟩
 replace C:=C.loc hc (by omega)
 replace RM:=hc.room RM
 replace U:=U.keep hc oa
 replace V:=V.keep hc oa
 replace K1_0:=hc.room K1_0
 replace K1_1:=hc.room K1_1
 replace E4:=E4.keep hc oa
 replace K2_0:=hc.room K2_0
 replace E11:=E11.keep hc oa
 replace K3_0:=hc.room K3_0
 replace E19:=E19.keep hc oa
 replace K4_0:=hc.room K4_0
 clear E28
 replace K5_0:=hc.room K5_0
 replace E38:=E38.keep hc oa
 replace K6_0:=hc.room K6_0
 replace E48:=E48.keep hc oa
 replace E59:=E59.keep hc oa
 replace E60:=E60.keep hc oa
 replace K8_0:=hc.room K8_0
 replace E84:=E84.keep hc oa
 replace E85:=E85.keep hc oa
 clear hc
 obtain ⟨f13,qf13⟩:∃ g,g = selF (orB (eqF f9 f10) (eqF f9 f11)) f12 f7:=⟨_,rfl⟩
 rw [←qf13] at hv
 replace qf13:=hd qf13
 have E86:=hv
 clear hv
 go_wp2_with fail
 refine (abs_e RM E86 (fun e=>by omega)).mono ?_
 rintro e W ⟨rfl,hc,hv⟩
 replace C:=C.into hc
 replace RM:=hc.room RM
 replace U:=U.keep hc oa
 replace V:=V.keep hc oa
 replace K1_0:=hc.room K1_0
 replace K1_1:=hc.room K1_1
 replace E4:=E4.keep hc oa
 replace K2_0:=hc.room K2_0
 replace E11:=E11.keep hc oa
 replace K3_0:=hc.room K3_0
 replace E19:=E19.keep hc oa
 replace K4_0:=hc.room K4_0
 replace K5_0:=hc.room K5_0
 replace E38:=E38.keep hc oa
 replace K6_0:=hc.room K6_0
 replace E48:=E48.keep hc oa
 replace E59:=E59.keep hc oa
 replace E60:=E60.keep hc oa
 replace K8_0:=hc.room K8_0
 replace E84:=E84.keep hc oa
 replace E85:=E85.keep hc oa
 replace E86:=E86.keep hc oa
 clear hc
 obtain ⟨f14,qf14⟩:∃ g,g = absF f13:=⟨_,rfl⟩
 rw [←qf14] at hv
 replace qf14:=hd qf14
 have E87:=hv
 clear hv
 have or_674:=or_i64 (eqF_01 f9 u) (eqF_01 f9 f10)
 go_wp2_with fail
 go_ret2
 obtain rfl:=qf1.out
 obtain rfl:=qf2.out
 obtain rfl:=qf3.out
 obtain rfl:=qf4.out
 obtain rfl:=qf5.out
 obtain rfl:=qf6.out
 obtain rfl:=qf7.out
 obtain rfl:=qf8.out
 obtain rfl:=qf9.out
 obtain rfl:=qf10.out
 obtain rfl:=qf11.out
 obtain rfl:=qf12.out
 obtain rfl:=qf13.out
 obtain rfl:=qf14.out
 exact ⟨rfl,C,E87⟩
open Go.RowKit
theorem setBytes_e {bv ov k o cap:Nat} {n:Int} {w:World} (hn:0 ≤ n∧n < 115792089237316195423570985008687907853269984665640564039457584007913129639936) (RM:Room w bv ov 5) (X:Has w k o (by32 n)) (hs:k = bv→o + 32 ≤ ov∨ov + 5 ≤ o) (hcap:32 ≤ cap) :
  Calls Tryz.prog 74 #[Ptr bv ov,.slice (some ⟨k,o,none⟩) 32 cap] w fun e w'=>e = .returned (.tuple #[Ptr bv ov,.nilIface])∧Chg (Rg bv ov 5) w w'∧Elt w' bv ov (el (n % 57896044618658097711785492504343953926634992332820282019728792003956564819968)):=by
 have h0:0 ≤ n % 18446744073709551616∧n % 18446744073709551616 < 18446744073709551616:=by omega
 have h1:0 ≤ n / 18446744073709551616 % 18446744073709551616∧n / 18446744073709551616 % 18446744073709551616 < 18446744073709551616:=by omega
 have h2:0 ≤ n / 340282366920938463463374607431768211456 % 18446744073709551616∧n / 340282366920938463463374607431768211456 % 18446744073709551616 < 18446744073709551616:=by omega
 have h3:0 ≤ n / 6277101735386680763835789423207666416102355444464034512896 % 18446744073709551616∧n / 6277101735386680763835789423207666416102355444464034512896 % 18446744073709551616 < 18446744073709551616:=by omega
 refine (setBytes_c bv ov k o cap _ _ _ _ w h0 h1 h2 h3 RM X hs hcap).mono fun e w' h=>⟨h.1,h.2.1,_,?_,?_,h.2.2⟩
 ·simp only [L5.ok];omega
 ·unfold fe
  rw [limbs_words h0 h1 h2 h3]
  congr 2;omega
theorem Makes.mono {w w1:World} {f:F} (hb:Below w.heap.size w w1) {e:Ending} {w':World} (h:Makes w1 f e w'):Makes w f e w':=by
 obtain ⟨k,hk,h1,h2,h3⟩:=h
 exact ⟨k,Nat.le_trans hb.size hk,h1,Below.then hb h2,h3⟩
theorem by32_d:by32 37095705934669439343138083508754565189542113879843219016388785533085940283555 = [.int .u8 163,.int .u8 120,.int .u8 89,.int .u8 19,.int .u8 202,.int .u8 77,.int .u8 235,.int .u8 117,.int .u8 171,.int .u8 216,.int .u8 65,.int .u8 65,.int .u8 77,.int .u8 10,.int .u8 112,.int .u8 0,.int .u8 152,.int .u8 232,.int .u8 121,.int .u8 119,.int .u8 121,.int .u8 64,.int .u8 199,.int .u8 140,.int .u8 115,.int .u8 254,.int .u8 111,.int .u8 43,.int .u8 238,.int .u8 108,.int .u8 3,.int .u8 82]:=by kernel_rfl
theorem el_d:el (37095705934669439343138083508754565189542113879843219016388785533085940283555 % 57896044618658097711785492504343953926634992332820282019728792003956564819968) = cd:=by unfold cd;decide +kernel
theorem d_e (w:World):Calls Tryz.prog 80 #[] w (Makes w cd):=by
 go_enter Tryz.func80,Tryz.ntmps80
 go_wp2_with fail
 have hb:=aB [.cells z5.toArray 73,.cells (List.toArray [.int .u8 163,.int .u8 120,.int .u8 89,.int .u8 19,.int .u8 202,.int .u8 77,.int .u8 235,.int .u8 117,.int .u8 171,.int .u8 216,.int .u8 65,.int .u8 65,.int .u8 77,.int .u8 10,.int .u8 112,.int .u8 0,.int .u8 152,.int .u8 232,.int .u8 121,.int .u8 119,.int .u8 121,.int .u8 64,.int .u8 199,.int .u8 140,.int .u8 115,.int .u8 254,.int .u8 111,.int .u8 43,.int .u8 238,.int .u8 108,.int .u8 3,.int .u8 82]) 5] w
 have RM:=(aH [.cells z5.toArray 73,.cells (List.toArray [.int .u8 163,.int .u8 120,.int .u8 89,.int .u8 19,.int .u8 202,.int .u8 77,.int .u8 235,.int .u8 117,.int .u8 171,.int .u8 216,.int .u8 65,.int .u8 65,.int .u8 77,.int .u8 10,.int .u8 112,.int .u8 0,.int .u8 152,.int .u8 232,.int .u8 121,.int .u8 119,.int .u8 121,.int .u8 64,.int .u8 199,.int .u8 140,.int .u8 115,.int .u8 254,.int .u8 111,.int .u8 43,.int .u8 238,.int .u8 108,.int .u8 3,.int .u8 82]) 5] w 0 z5 73 rfl).room (n:=5) rfl
 have X:=aH [.cells z5.toArray 73,.cells (List.toArray [.int .u8 163,.int .u8 120,.int .u8 89,.int .u8 19,.int .u8 202,.int .u8 77,.int .u8 235,.int .u8 117,.int .u8 171,.int .u8 216,.int .u8 65,.int .u8 65,.int .u8 77,.int .u8 10,.int .u8 112,.int .u8 0,.int .u8 152,.int .u8 232,.int .u8 121,.int .u8 119,.int .u8 121,.int .u8 64,.int .u8 199,.int .u8 140,.int .u8 115,.int .u8 254,.int .u8 111,.int .u8 43,.int .u8 238,.int .u8 108,.int .u8 3,.int .u8 82]) 5] w 1 [.int .u8 163,.int .u8 120,.int .u8 89,.int .u8 19,.int .u8 202,.int .u8 77,.int .u8 235,.int .u8 117,.int .u8 171,.int .u8 216,.int .u8 65,.int .u8 65,.int .u8 77,.int .u8 10,.int .u8 112,.int .u8 0,.int .u8 152,.int .u8 232,.int .u8 121,.int .u8 119,.int .u8 121,.int .u8 64,.int .u8 199,.int .u8 140,.int .u8 115,.int .u8 254,.int .u8 111,.int .u8 43,.int .u8 238,.int .u8 108,.int .u8 3,.int .u8 82] 5 rfl
 rw [←by32_d] at X
 simp only [Nat.add_zero] at RM
 refine cG (fun W=>Below w.heap.size w W∧Room W w.heap.size 0 5∧Has W (w.heap.size + 1) 0 (by32 37095705934669439343138083508754565189542113879843219016388785533085940283555)) ⟨hb,RM,X⟩ ?_
 clear hb RM X
 rintro W ⟨hb,RM,X⟩
 obtain ⟨n,ln⟩:∃ n,w.heap.size = n:=⟨_,rfl⟩
 rw [ln] at RM X ⊢
 refine (setBytes_e (by decide) RM X (fun e=>by omega) (by decide)).mono ?_
 rintro e W1 ⟨rfl,hc,hv⟩
 rw [el_d] at hv
 replace hb:=hd ((Chg.of_below (R:=R0) hb).loc hc (by omega)).r0
 replace hv:=hd hv
 clear hc RM X
 go_wp2_with fail
 go_ret
 exact ⟨n,by omega,rfl,hb.out,hv.out⟩
theorem d2_e (w:World):Calls Tryz.prog 123 #[] w (Makes w (2 * cd)):=by
 go_enter Tryz.func123,Tryz.ntmps123
 go_wp2_with fail
 refine cG (fun W=>Below w.heap.size w W∧Room W w.heap.size 0 5) ⟨bA _ _,(Has.new w z5 73).room rfl⟩ ?_
 rintro W ⟨hb,RM⟩
 refine (d_e W).mono ?_
 rintro e W1 ⟨k,hk,rfl,hb1,hx⟩
 have y:=RM.lt (by decide)
 replace RM:=RM.later hb1
 replace hb:=hd (Below.then hb hb1)
 clear hb1
 go_wp2_with fail
 refine (d_e W1).mono ?_
 rintro e W2 ⟨j,hj,rfl,hb1,hy⟩
 have y2:=RM.lt (by decide)
 replace RM:=RM.later hb1
 replace hx:=hx.keep (Chg.of_below (R:=R0) hb1) (fun _ _ h=>h)
 replace hb:=hd (Below.then hb.out hb1)
 clear hb1
 obtain ⟨n,ln⟩:∃ n,w.heap.size = n:=⟨_,rfl⟩
 rw [ln] at RM y y2 ⊢
 go_wp2_with fail
 refine (add_e RM hx hy (fun e=>by omega) (fun e=>by omega)).mono ?_
 rintro e W3 ⟨rfl,hc,hv⟩
 replace hb:=hd ((Chg.of_below (R:=R0) hb.out).loc hc (by omega)).r0
 rw [show cd + cd = 2 * cd by grind] at hv
 replace hv:=hd hv
 clear hc RM hx hy
 go_wp2_with fail
 go_ret
 exact ⟨n,by omega,rfl,hb.out,hv.out⟩
def P3 (w:World) (b o:Nat) (p:Pt):Prop:=∃ X Y Z T,Elt w b o X∧Elt w b (o + 5) Y∧Elt w b (o + 10) Z∧Elt w b (o + 15) T∧Ex X Y Z T p
def P1 (w:World) (b o:Nat) (p:Pt):Prop:=∃ X Y Z T,Elt w b o X∧Elt w b (o + 5) Y∧Elt w b (o + 10) Z∧Elt w b (o + 15) T∧Cm X Y Z T p
def PC (w:World) (b o:Nat) (p:Pt):Prop:=∃ X Y Z T,Elt w b o X∧Elt w b (o + 5) Y∧Elt w b (o + 10) Z∧Elt w b (o + 15) T∧Ca X Y Z T p
def P2 (w:World) (b o:Nat) (p:Pt):Prop:=∃ X Y Z,Elt w b o X∧Elt w b (o + 5) Y∧Elt w b (o + 10) Z∧Pj X Y Z p
def PA (w:World) (b o:Nat) (p:Pt):Prop:=∃ X Y T,Elt w b o X∧Elt w b (o + 5) Y∧Elt w b (o + 10) T∧Af X Y T p
theorem off_part {R:Nat→Nat→Prop} {b o n:Nat} (h:Off R b o n) {o' m:Nat} (h1:o ≤ o') (h2:o' + m ≤ o + n):Off R b o' m:=fun i hi=>by
 have:=h (o' - o + i) (by omega)
 rwa [show o + (o' - o + i) = o' + i by omega] at this
theorem Room.join {w:World} {b o n m:Nat} (h:Room w b o n) (k:Room w b (o + n) m):Room w b o (n + m):=fun i hi=>by
 by_cases h':i < n
 ·exact h i h'
 ·have:=k (i - n) (by omega)
  rwa [show o + n + (i - n) = o + i by omega] at this
theorem e20 {w:World} {b o:Nat} {X Y Z T:F} (h1:Elt w b o X) (h2:Elt w b (o + 5) Y) (h3:Elt w b (o + 10) Z) (h4:Elt w b (o + 15) T):Room w b o 20 :=
 ((h1.room.join h2.room).join h3.room).join h4.room
theorem P3.keep {R:Nat→Nat→Prop} {w w':World} {b o:Nat} {p:Pt} (r:P3 w b o p) (h:Chg R w w') (hR:Off R b o 20):P3 w' b o p:=by
 obtain ⟨X,Y,Z,T,h1,h2,h3,h4,h5⟩:=r
 exact ⟨X,Y,Z,T,h1.keep h (off_part hR (by omega) (by omega)),h2.keep h (off_part hR (by omega) (by omega)),h3.keep h (off_part hR (by omega) (by omega)),h4.keep h (off_part hR (by omega) (by omega)),h5⟩
theorem P3.lt {w:World} {b o:Nat} {p:Pt} (r:P3 w b o p):b < w.heap.size:=by
 obtain ⟨_,_,_,_,h,_⟩:=r
 exact h.lt
theorem P3.room {w:World} {b o:Nat} {p:Pt} (r:P3 w b o p):Room w b o 20:=by
 obtain ⟨_,_,_,_,h1,h2,h3,h4,_⟩:=r
 exact e20 h1 h2 h3 h4
theorem P3.drew {w:World} {b o:Nat} {p:Pt} (r:P3 w b o p):P3 w.drew b o p:=r
theorem P1.keep {R:Nat→Nat→Prop} {w w':World} {b o:Nat} {p:Pt} (r:P1 w b o p) (h:Chg R w w') (hR:Off R b o 20):P1 w' b o p:=by
 obtain ⟨X,Y,Z,T,h1,h2,h3,h4,h5⟩:=r
 exact ⟨X,Y,Z,T,h1.keep h (off_part hR (by omega) (by omega)),h2.keep h (off_part hR (by omega) (by omega)),h3.keep h (off_part hR (by omega) (by omega)),h4.keep h (off_part hR (by omega) (by omega)),h5⟩
theorem P1.lt {w:World} {b o:Nat} {p:Pt} (r:P1 w b o p):b < w.heap.size:=by
 obtain ⟨_,_,_,_,h,_⟩:=r
 exact h.lt
theorem P1.room {w:World} {b o:Nat} {p:Pt} (r:P1 w b o p):Room w b o 20:=by
 obtain ⟨_,_,_,_,h1,h2,h3,h4,_⟩:=r
 exact e20 h1 h2 h3 h4
theorem P1.drew {w:World} {b o:Nat} {p:Pt} (r:P1 w b o p):P1 w.drew b o p:=r
theorem PC.keep {R:Nat→Nat→Prop} {w w':World} {b o:Nat} {p:Pt} (r:PC w b o p) (h:Chg R w w') (hR:Off R b o 20):PC w' b o p:=by
 obtain ⟨X,Y,Z,T,h1,h2,h3,h4,h5⟩:=r
 exact ⟨X,Y,Z,T,h1.keep h (off_part hR (by omega) (by omega)),h2.keep h (off_part hR (by omega) (by omega)),h3.keep h (off_part hR (by omega) (by omega)),h4.keep h (off_part hR (by omega) (by omega)),h5⟩
theorem PC.lt {w:World} {b o:Nat} {p:Pt} (r:PC w b o p):b < w.heap.size:=by
 obtain ⟨_,_,_,_,h,_⟩:=r
 exact h.lt
theorem PC.room {w:World} {b o:Nat} {p:Pt} (r:PC w b o p):Room w b o 20:=by
 obtain ⟨_,_,_,_,h1,h2,h3,h4,_⟩:=r
 exact e20 h1 h2 h3 h4
theorem PC.drew {w:World} {b o:Nat} {p:Pt} (r:PC w b o p):PC w.drew b o p:=r
theorem P2.keep {R:Nat→Nat→Prop} {w w':World} {b o:Nat} {p:Pt} (r:P2 w b o p) (h:Chg R w w') (hR:Off R b o 15):P2 w' b o p:=by
 obtain ⟨X,Y,Z,h1,h2,h3,h5⟩:=r
 exact ⟨X,Y,Z,h1.keep h (off_part hR (by omega) (by omega)),h2.keep h (off_part hR (by omega) (by omega)),h3.keep h (off_part hR (by omega) (by omega)),h5⟩
theorem P2.lt {w:World} {b o:Nat} {p:Pt} (r:P2 w b o p):b < w.heap.size:=by
 obtain ⟨_,_,_,h,_⟩:=r
 exact h.lt
theorem P2.room {w:World} {b o:Nat} {p:Pt} (r:P2 w b o p):Room w b o 15:=by
 obtain ⟨_,_,_,h1,h2,h3,_⟩:=r
 exact (h1.room.join h2.room).join h3.room
theorem P2.drew {w:World} {b o:Nat} {p:Pt} (r:P2 w b o p):P2 w.drew b o p:=r
theorem PA.keep {R:Nat→Nat→Prop} {w w':World} {b o:Nat} {p:Pt} (r:PA w b o p) (h:Chg R w w') (hR:Off R b o 15):PA w' b o p:=by
 obtain ⟨X,Y,Z,h1,h2,h3,h5⟩:=r
 exact ⟨X,Y,Z,h1.keep h (off_part hR (by omega) (by omega)),h2.keep h (off_part hR (by omega) (by omega)),h3.keep h (off_part hR (by omega) (by omega)),h5⟩
theorem PA.lt {w:World} {b o:Nat} {p:Pt} (r:PA w b o p):b < w.heap.size:=by
 obtain ⟨_,_,_,h,_⟩:=r
 exact h.lt
theorem PA.room {w:World} {b o:Nat} {p:Pt} (r:PA w b o p):Room w b o 15:=by
 obtain ⟨_,_,_,h1,h2,h3,_⟩:=r
 exact (h1.room.join h2.room).join h3.room
theorem PA.drew {w:World} {b o:Nat} {p:Pt} (r:PA w b o p):PA w.drew b o p:=r
open Go.RowKit
theorem v_zero {x:L5} (h:x.a = 0∧x.b = 0∧x.c = 0∧x.d = 0∧x.e = 0):fe x = 0:=by
 obtain ⟨a,b,c,d,e⟩:=x
 obtain ⟨rfl,rfl,rfl,rfl,rfl⟩:=h
 exact fe_zero
theorem P3.not_zero {w:World} {b o:Nat} {p:Pt} (h:P3 w b o p):∃ x y:L5,Has w b o (cells x)∧Has w b (o + 5) (cells y) ∧
  ¬ ((x.a = 0∧x.b = 0∧x.c = 0∧x.d = 0∧x.e = 0)∧(y.a = 0∧y.b = 0∧y.c = 0∧y.d = 0∧y.e = 0)):=by
 obtain ⟨X,Y,Z,T,⟨x,-,hx,hX⟩,⟨y,-,hy,hY⟩,-,-,hZ,hEx,hEy,-⟩:=h
 refine ⟨x,y,hX,hY,?_⟩
 rintro ⟨ha,hb⟩
 have ex:X = 0:=by rw [←hx];exact v_zero ha
 have ey:Y = 0:=by rw [←hy];exact v_zero hb
 rw [ex] at hEx;rw [ey] at hEy
 have px:p.x = 0:=by
  rcases mul_eq_zero hEx.symm with h | h
  ·exact h
  ·exact absurd h hZ
 have py:p.y = 0:=by
  rcases mul_eq_zero hEy.symm with h | h
  ·exact h
  ·exact absurd h hZ
 have:=p.on
 unfold On at this
 rw [px,py] at this
 revert this
 decide +kernel
theorem check_c {k n cap:Nat} {w:World} (hn:n ≤ 2) (hs:∀ i,i < n→∃ b o p,w.cell? ⟨k,i,none⟩ = some (Ptr b o)∧P3 w b o p) :
  Calls Tryz.prog 46 #[.slice (some ⟨k,0,none⟩) n cap] w (fun e w'=>e = .returned (.tuple #[])∧w' = w):=by
 go_enter Tryz.func46,Tryz.ntmps46
 go_wp2_with fail
 go_loopw [6] (fun i W=>∃ j:Nat,j ≤ n∧i = .int .i64 j∧W = w) (fun i _=>n - (intOf i).toNat)
 case atStart=>exact ⟨0,by omega,rfl,rfl⟩
 case round =>
  obtain ⟨j,hj,rfl,rfl⟩:=hrel
  by_cases hlt:j < n
  ·obtain ⟨b,o,p,h0,hp⟩:=hs j hlt
   obtain ⟨x,y,hX,hY,hne⟩:=hp.not_zero
   obtain ⟨⟨c0,c1,c2,c3,c4⟩,-⟩:=hX.five
   obtain ⟨⟨d0,d1,d2,d3,d4⟩,-⟩:=hY.five
   clear hs hp hX hY
   go_wp2_with fail
   all_goals first
    | exact ⟨⟨j + 1,by omega,by push_cast;rfl,trivial⟩,by simp [intOf];omega⟩
    | (exfalso;simp_all;done)
  ·have:j = n:=by omega
   subst this
   go_wp2_with fail
   go_end0
   exact ⟨rfl,rfl⟩
theorem check1_e {k cap bp op:Nat} {p:Pt} {w:World} (hs:Has w k 0 [Ptr bp op]) (hp:P3 w bp op p) :
  Calls Tryz.prog 46 #[.slice (some ⟨k,0,none⟩) 1 cap] w (fun e w'=>e = .returned (.tuple #[])∧w' = w):=by
 refine check_c (by decide) fun i hi=>?_
 have hx:=(hs i hi).1
 rw [Nat.zero_add] at hx
 match i,hi,hx with
 | 0,_,hx=>exact ⟨_,_,_,hx,hp⟩
theorem check2_e {k cap bp op bq oq:Nat} {p q:Pt} {w:World} (hs:Has w k 0 [Ptr bp op,Ptr bq oq]) (hp:P3 w bp op p) (hq:P3 w bq oq q) :
  Calls Tryz.prog 46 #[.slice (some ⟨k,0,none⟩) 2 cap] w (fun e w'=>e = .returned (.tuple #[])∧w' = w):=by
 refine check_c (by decide) fun i hi=>?_
 have hx:=(hs i hi).1
 rw [Nat.zero_add] at hx
 match i,hi,hx with
 | 0,_,hx=>exact ⟨_,_,_,hx,hp⟩
 | 1,_,hx=>exact ⟨_,_,_,hx,hq⟩
open Go.RowKit
structure Row (S:World→Nat→Nat→Prop) (n:Nat) (w:World) (b o:Nat) where
 vs:List Value
 len:vs.length = n
 one:∀ v ∈ vs,v.oneCell' = true
 has:Has w b o vs
 say:∀ w' b' o',Has w' b' o' vs→S w' b' o'
theorem cells_one (x:L5):∀ v ∈ cells x,v.oneCell' = true:=by
 intro v hv
 simp only [cells,List.mem_cons,List.not_mem_nil,or_false] at hv
 rcases hv with rfl | rfl | rfl | rfl | rfl<;>rfl
theorem Has.l {w:World} {b o:Nat} {us vs:List Value} (h:Has w b o (us ++ vs)):Has w b o us:=by
 have:=Has.part (us:=[]) (vs:=us) (ws:=vs) (by simpa using h)
 simpa using this
theorem Has.r {w:World} {b o:Nat} {us vs:List Value} (h:Has w b o (us ++ vs)):Has w b (o + us.length) vs :=
 Has.part (us:=us) (vs:=vs) (ws:=[]) (by simpa using h)
theorem four_row {w:World} {b o:Nat} {X Y Z T:F} (h1:Elt w b o X) (h2:Elt w b (o + 5) Y) (h3:Elt w b (o + 10) Z) (h4:Elt w b (o + 15) T) :
  ∃ vs:List Value,vs.length = 20∧(∀ v ∈ vs,v.oneCell' = true)∧Has w b o vs∧∀ w' b' o',Has w' b' o' vs→Elt w' b' o' X∧Elt w' b' (o' + 5) Y∧Elt w' b' (o' + 10) Z∧Elt w' b' (o' + 15) T:=by
 obtain ⟨x,gx,hx,X⟩:=h1
 obtain ⟨y,gy,hy,Y⟩:=h2
 obtain ⟨z,gz,hz,Z⟩:=h3
 obtain ⟨t,gt,ht,T⟩:=h4
 refine ⟨cells x ++ (cells y ++ (cells z ++ cells t)),rfl,?_,X.append (Y.append (Z.append T)),fun w' b' o' h=>⟨⟨x,gx,hx,h.l⟩,⟨y,gy,hy,h.r.l⟩,⟨z,gz,hz,h.r.r.l⟩,⟨t,gt,ht,h.r.r.r⟩⟩⟩
 intro v hv
 simp only [List.mem_append] at hv
 rcases hv with h | h | h | h<;>exact cells_one _ v h
theorem three_row {w:World} {b o:Nat} {X Y Z:F} (h1:Elt w b o X) (h2:Elt w b (o + 5) Y) (h3:Elt w b (o + 10) Z) :
  ∃ vs:List Value,vs.length = 15∧(∀ v ∈ vs,v.oneCell' = true)∧Has w b o vs∧∀ w' b' o',Has w' b' o' vs→Elt w' b' o' X∧Elt w' b' (o' + 5) Y∧Elt w' b' (o' + 10) Z:=by
 obtain ⟨x,gx,hx,X⟩:=h1
 obtain ⟨y,gy,hy,Y⟩:=h2
 obtain ⟨z,gz,hz,Z⟩:=h3
 refine ⟨cells x ++ (cells y ++ cells z),rfl,?_,X.append (Y.append Z),fun w' b' o' h=>⟨⟨x,gx,hx,h.l⟩,⟨y,gy,hy,h.r.l⟩,⟨z,gz,hz,h.r.r⟩⟩⟩
 intro v hv
 simp only [List.mem_append] at hv
 rcases hv with h | h | h<;>exact cells_one _ v h
theorem P3.row {w:World} {b o:Nat} {p:Pt} (h:P3 w b o p):∃ vs:List Value,vs.length = 20∧(∀ v ∈ vs,v.oneCell' = true)∧Has w b o vs∧∀ w' b' o',Has w' b' o' vs→P3 w' b' o' p:=by
 obtain ⟨X,Y,Z,T,h1,h2,h3,h4,h5⟩:=h
 obtain ⟨vs,l,u,hh,k⟩:=four_row h1 h2 h3 h4
 exact ⟨vs,l,u,hh,fun w' b' o' g=>by obtain ⟨g1,g2,g3,g4⟩:=k w' b' o' g;exact ⟨X,Y,Z,T,g1,g2,g3,g4,h5⟩⟩
theorem PC.row {w:World} {b o:Nat} {p:Pt} (h:PC w b o p):∃ vs:List Value,vs.length = 20∧(∀ v ∈ vs,v.oneCell' = true)∧Has w b o vs∧∀ w' b' o',Has w' b' o' vs→PC w' b' o' p:=by
 obtain ⟨X,Y,Z,T,h1,h2,h3,h4,h5⟩:=h
 obtain ⟨vs,l,u,hh,k⟩:=four_row h1 h2 h3 h4
 exact ⟨vs,l,u,hh,fun w' b' o' g=>by obtain ⟨g1,g2,g3,g4⟩:=k w' b' o' g;exact ⟨X,Y,Z,T,g1,g2,g3,g4,h5⟩⟩
theorem PA.row {w:World} {b o:Nat} {p:Pt} (h:PA w b o p):∃ vs:List Value,vs.length = 15∧(∀ v ∈ vs,v.oneCell' = true)∧Has w b o vs∧∀ w' b' o',Has w' b' o' vs→PA w' b' o' p:=by
 obtain ⟨X,Y,T,h1,h2,h3,h5⟩:=h
 obtain ⟨vs,l,u,hh,k⟩:=three_row h1 h2 h3
 exact ⟨vs,l,u,hh,fun w' b' o' g=>by obtain ⟨g1,g2,g3⟩:=k w' b' o' g;exact ⟨X,Y,T,g1,g2,g3,h5⟩⟩
theorem agg75:∀ w,(isAgg 75).run Tryz.prog w = .ok true w:=fun w=>by simp [isAgg,go_sem]
theorem size75:∀ w,(sizeOf 75).run Tryz.prog w = .ok 20 w:=fun w=>by simp [go_sem]
theorem ptSet_e {bv ov bp op:Nat} {p:Pt} {w:World} (RM:Room w bv ov 20) (hp:P3 w bp op p) :
  Calls Tryz.prog 44 #[Ptr bv ov,Ptr bp op] w (fun e w'=>e = .returned (Ptr bv ov)∧Chg (Rg bv ov 20) w w'∧P3 w' bv ov p):=by
 obtain ⟨vs,l,u,hh,k⟩:=hp.row
 have H:Hd (Chg (Rg bv ov 20) w (w.setCells bv ov vs)):=hd (by have:=putL_chg (w:=w) (b:=bv) (o:=ov) (vs:=vs);rwa [l] at this)
 have K:Hd (P3 (w.setCells bv ov vs) bv ov p):=hd (k _ _ _ (putL_has (by rw [l];exact RM)))
 clear k
 go_enter Tryz.func44,Tryz.ntmps44
 repeat ((fail_if_success with_reducible refine sl 75 ?_);first | go_step | dsimp only)
 refine wL (b:=bp) (o:=op) rfl hh l agg75 size75 ?_
 simp only [Act.put,iA,iB,iC]
 repeat ((fail_if_success with_reducible refine ss 75 ?_);first | go_step | dsimp only)
 refine wS (b:=bv) (o:=ov) rfl rfl RM l u size75 ?_
 simp only [Act.put]
 clear hh u RM l
 go_wp2_with fail
 go_ret
 exact ⟨rfl,H.out,K.out⟩
end Go.Proofs.Ed
