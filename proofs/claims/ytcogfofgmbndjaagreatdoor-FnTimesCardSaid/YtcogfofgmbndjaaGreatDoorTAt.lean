/- A part of the proof of the tied card of FnTimes: Pt2b, Pt2c, Pt2d. -/
import Derived.Test.YtcogfofgmbndjaaGreatDoorProg
import Derived.WalkKit
import Derived.WalkSpells
import Derived.WalkLawsBesides
import Derived.Outline
import Derived.StillTailTactics
import Derived.Test.YtcogfofgmbndjaaGreatDoorTAr
import Derived.Test.YtcogfofgmbndjaaGreatDoorTAc
set_option maxRecDepth 100000
set_option maxHeartbeats 40000000
namespace Go.Proofs.Ed
open Go.RowKit
theorem ptSubA_e {bv ov bp op bq oq:Nat} {p:Pt} {q:Pt} {w:World} (RM:Room w bv ov 20) (hp:P3 w bp op p) (shp:bv ≠ bp∨ov + 20 ≤ op∨op + 20 ≤ ov) (hq:PA w bq oq q) (shq:bv ≠ bq∨ov + 20 ≤ oq∨oq + 15 ≤ ov) :
  Calls Tryz.prog 66 #[Ptr bv ov,Ptr bp op,Ptr bq oq] w (fun e w'=>e = .returned (Ptr bv ov)∧Chg (Rg bv ov 20) w w'∧P1 w' bv ov (p + -q)):=by
 obtain ⟨X,Y,Z,T,Ahp0,Ahp1,Ahp2,Ahp3,rhp⟩:=hp
 obtain ⟨A,B,U,Ahq0,Ahq1,Ahq2,rhq⟩:=hq
 have C:Chg (Rg bv ov 20) w w:=.refl _ _
 go_enter Tryz.func66,Tryz.ntmps66
 go_wp2_with fail
 go_still_tail 6,(by kernel_rfl)
 go_wp2_with fail
 obtain ⟨n1,ln1⟩:∃ n,w.heap.size = n:=⟨_,rfl⟩
 rw [ln1]
 have hb:=aB [z73,z73,z73,z73,z73,z73] w
 have zn1:w.heap.size ≤ n1:=ln1 ▸ C.size
 have y1:bv < n1:=ln1 ▸ RM.lt (by decide)
 have y2:bp < n1:=ln1 ▸ Ahp0.lt
 have y3:bq < n1:=ln1 ▸ Ahq0.lt
 replace C:=C.trans (Chg.of_below hb)
 replace RM:=RM.later hb
 replace Ahp0:=Ahp0.keep (Chg.of_below (R:=R0) hb) (fun _ _ h=>h)
 replace Ahp1:=Ahp1.keep (Chg.of_below (R:=R0) hb) (fun _ _ h=>h)
 replace Ahp2:=Ahp2.keep (Chg.of_below (R:=R0) hb) (fun _ _ h=>h)
 replace Ahp3:=Ahp3.keep (Chg.of_below (R:=R0) hb) (fun _ _ h=>h)
 replace Ahq0:=Ahq0.keep (Chg.of_below (R:=R0) hb) (fun _ _ h=>h)
 replace Ahq1:=Ahq1.keep (Chg.of_below (R:=R0) hb) (fun _ _ h=>h)
 replace Ahq2:=Ahq2.keep (Chg.of_below (R:=R0) hb) (fun _ _ h=>h)
 have K1_0:=(aH [z73,z73,z73,z73,z73,z73] w 0 (List.replicate 5 (.int .u64 0)) 73 rfl).room (n:=5) rfl
 rw [ln1] at K1_0
 have K1_1:=(aH [z73,z73,z73,z73,z73,z73] w 1 (List.replicate 5 (.int .u64 0)) 73 rfl).room (n:=5) rfl
 rw [ln1] at K1_1
 have K1_2:=(aH [z73,z73,z73,z73,z73,z73] w 2 (List.replicate 5 (.int .u64 0)) 73 rfl).room (n:=5) rfl
 rw [ln1] at K1_2
 have K1_3:=(aH [z73,z73,z73,z73,z73,z73] w 3 (List.replicate 5 (.int .u64 0)) 73 rfl).room (n:=5) rfl
 rw [ln1] at K1_3
 have K1_4:=(aH [z73,z73,z73,z73,z73,z73] w 4 (List.replicate 5 (.int .u64 0)) 73 rfl).room (n:=5) rfl
 rw [ln1] at K1_4
 have K1_5:=(aH [z73,z73,z73,z73,z73,z73] w 5 (List.replicate 5 (.int .u64 0)) 73 rfl).room (n:=5) rfl
 rw [ln1] at K1_5
 refine cG (fun W=>Chg (Rg bv ov 20) w W∧Room W bv ov 20∧Elt W bp op X∧Elt W bp (op + 5) Y∧Elt W bp (op + 10) Z∧Elt W bp (op + 15) T∧Elt W bq oq A∧Elt W bq (oq + 5) B∧Elt W bq (oq + 10) U∧Room W n1 0 5∧Room W (n1 + 1) 0 5∧Room W (n1 + 2) 0 5∧Room W (n1 + 3) 0 5∧Room W (n1 + 4) 0 5∧Room W (n1 + 5) 0 5) ⟨C.drew,RM.drew,Ahp0.drew,Ahp1.drew,Ahp2.drew,Ahp3.drew,Ahq0.drew,Ahq1.drew,Ahq2.drew,K1_0.drew,K1_1.drew,K1_2.drew,K1_3.drew,K1_4.drew,K1_5.drew⟩ ?_
 clear C RM Ahp0 Ahp1 Ahp2 Ahp3 Ahq0 Ahq1 Ahq2 K1_0 K1_1 K1_2 K1_3 K1_4 K1_5 hb ln1
 rintro W ⟨C,RM,Ahp0,Ahp1,Ahp2,Ahp3,Ahq0,Ahq1,Ahq2,K1_0,K1_1,K1_2,K1_3,K1_4,K1_5⟩
 refine (add_e K1_0 Ahp1 Ahp0 (fun e=>by omega) (fun e=>by omega)).mono ?_
 rintro e W ⟨rfl,hc,hv⟩
 replace C:=C.loc hc (by omega)
 replace RM:=hc.room RM
 replace Ahp0:=Ahp0.keep hc oa
 replace Ahp1:=Ahp1.keep hc oa
 replace Ahp2:=Ahp2.keep hc oa
 replace Ahp3:=Ahp3.keep hc oa
 replace Ahq0:=Ahq0.keep hc oa
 replace Ahq1:=Ahq1.keep hc oa
 replace Ahq2:=Ahq2.keep hc oa
 replace K1_0:=hc.room K1_0
 replace K1_1:=hc.room K1_1
 replace K1_2:=hc.room K1_2
 replace K1_3:=hc.room K1_3
 replace K1_4:=hc.room K1_4
 replace K1_5:=hc.room K1_5
 clear hc
 obtain ⟨f1,qf1⟩:∃ g,g = Y + X:=⟨_,rfl⟩
 rw [←qf1] at hv
 replace qf1:=hd qf1
 have E4:=hv
 clear hv
 go_wp2_with fail
 go_still_tail 6,(by kernel_rfl)
 go_wp2_with fail
 refine cG (fun W=>Chg (Rg bv ov 20) w W∧Room W bv ov 20∧Elt W bp op X∧Elt W bp (op + 5) Y∧Elt W bp (op + 10) Z∧Elt W bp (op + 15) T∧Elt W bq oq A∧Elt W bq (oq + 5) B∧Elt W bq (oq + 10) U∧Room W n1 0 5∧Room W (n1 + 1) 0 5∧Room W (n1 + 2) 0 5∧Room W (n1 + 3) 0 5∧Room W (n1 + 4) 0 5∧Room W (n1 + 5) 0 5∧Elt W n1 0 f1) ⟨C.drew,RM.drew,Ahp0.drew,Ahp1.drew,Ahp2.drew,Ahp3.drew,Ahq0.drew,Ahq1.drew,Ahq2.drew,K1_0.drew,K1_1.drew,K1_2.drew,K1_3.drew,K1_4.drew,K1_5.drew,E4.drew⟩ ?_
 clear C RM Ahp0 Ahp1 Ahp2 Ahp3 Ahq0 Ahq1 Ahq2 K1_0 K1_1 K1_2 K1_3 K1_4 K1_5 E4
 rintro W ⟨C,RM,Ahp0,Ahp1,Ahp2,Ahp3,Ahq0,Ahq1,Ahq2,K1_0,K1_1,K1_2,K1_3,K1_4,K1_5,E4⟩
 refine (sub_e K1_1 Ahp1 Ahp0 (fun e=>by omega) (fun e=>by omega)).mono ?_
 rintro e W ⟨rfl,hc,hv⟩
 replace C:=C.loc hc (by omega)
 replace RM:=hc.room RM
 replace Ahp0:=Ahp0.keep hc oa
 replace Ahp1:=Ahp1.keep hc oa
 replace Ahp2:=Ahp2.keep hc oa
 replace Ahp3:=Ahp3.keep hc oa
 replace Ahq0:=Ahq0.keep hc oa
 replace Ahq1:=Ahq1.keep hc oa
 replace Ahq2:=Ahq2.keep hc oa
 replace K1_0:=hc.room K1_0
 replace K1_1:=hc.room K1_1
 replace K1_2:=hc.room K1_2
 replace K1_3:=hc.room K1_3
 replace K1_4:=hc.room K1_4
 replace K1_5:=hc.room K1_5
 replace E4:=E4.keep hc oa
 clear hc
 obtain ⟨f2,qf2⟩:∃ g,g = Y - X:=⟨_,rfl⟩
 rw [←qf2] at hv
 replace qf2:=hd qf2
 have E5:=hv
 clear hv
 go_wp2_with fail
 refine (mul_e K1_2 E4 Ahq1).mono ?_
 rintro e W ⟨rfl,hc,hv⟩
 replace C:=C.loc hc (by omega)
 replace RM:=hc.room RM
 replace Ahp0:=Ahp0.keep hc oa
 replace Ahp1:=Ahp1.keep hc oa
 replace Ahp2:=Ahp2.keep hc oa
 replace Ahp3:=Ahp3.keep hc oa
 replace Ahq0:=Ahq0.keep hc oa
 replace Ahq1:=Ahq1.keep hc oa
 replace Ahq2:=Ahq2.keep hc oa
 replace K1_0:=hc.room K1_0
 replace K1_1:=hc.room K1_1
 replace K1_2:=hc.room K1_2
 replace K1_3:=hc.room K1_3
 replace K1_4:=hc.room K1_4
 replace K1_5:=hc.room K1_5
 replace E4:=E4.keep hc oa
 replace E5:=E5.keep hc oa
 clear hc
 obtain ⟨f3,qf3⟩:∃ g,g = f1 * B:=⟨_,rfl⟩
 rw [←qf3] at hv
 replace qf3:=hd qf3
 have E6:=hv
 clear hv
 go_wp2_with fail
 refine (mul_e K1_3 E5 Ahq0).mono ?_
 rintro e W ⟨rfl,hc,hv⟩
 replace C:=C.loc hc (by omega)
 replace RM:=hc.room RM
 replace Ahp0:=Ahp0.keep hc oa
 replace Ahp1:=Ahp1.keep hc oa
 replace Ahp2:=Ahp2.keep hc oa
 replace Ahp3:=Ahp3.keep hc oa
 replace Ahq0:=Ahq0.keep hc oa
 replace Ahq1:=Ahq1.keep hc oa
 replace Ahq2:=Ahq2.keep hc oa
 replace K1_0:=hc.room K1_0
 replace K1_1:=hc.room K1_1
 replace K1_2:=hc.room K1_2
 replace K1_3:=hc.room K1_3
 replace K1_4:=hc.room K1_4
 replace K1_5:=hc.room K1_5
 replace E4:=E4.keep hc oa
 replace E5:=E5.keep hc oa
 replace E6:=E6.keep hc oa
 clear hc
 obtain ⟨f4,qf4⟩:∃ g,g = f2 * A:=⟨_,rfl⟩
 rw [←qf4] at hv
 replace qf4:=hd qf4
 have E7:=hv
 clear hv
 go_wp2_with fail
 go_still_tail 6,(by kernel_rfl)
 go_wp2_with fail
 refine cG (fun W=>Chg (Rg bv ov 20) w W∧Room W bv ov 20∧Elt W bp op X∧Elt W bp (op + 5) Y∧Elt W bp (op + 10) Z∧Elt W bp (op + 15) T∧Elt W bq oq A∧Elt W bq (oq + 5) B∧Elt W bq (oq + 10) U∧Room W n1 0 5∧Room W (n1 + 1) 0 5∧Room W (n1 + 2) 0 5∧Room W (n1 + 3) 0 5∧Room W (n1 + 4) 0 5∧Room W (n1 + 5) 0 5∧Elt W n1 0 f1∧Elt W (n1 + 1) 0 f2∧Elt W (n1 + 2) 0 f3∧Elt W (n1 + 3) 0 f4) ⟨C.drew,RM.drew,Ahp0.drew,Ahp1.drew,Ahp2.drew,Ahp3.drew,Ahq0.drew,Ahq1.drew,Ahq2.drew,K1_0.drew,K1_1.drew,K1_2.drew,K1_3.drew,K1_4.drew,K1_5.drew,E4.drew,E5.drew,E6.drew,E7.drew⟩ ?_
 clear C RM Ahp0 Ahp1 Ahp2 Ahp3 Ahq0 Ahq1 Ahq2 K1_0 K1_1 K1_2 K1_3 K1_4 K1_5 E4 E5 E6 E7
 rintro W ⟨C,RM,Ahp0,Ahp1,Ahp2,Ahp3,Ahq0,Ahq1,Ahq2,K1_0,K1_1,K1_2,K1_3,K1_4,K1_5,E4,E5,E6,E7⟩
 refine (mul_e K1_4 Ahp3 Ahq2).mono ?_
 rintro e W ⟨rfl,hc,hv⟩
 replace C:=C.loc hc (by omega)
 replace RM:=hc.room RM
 replace Ahp0:=Ahp0.keep hc oa
 replace Ahp1:=Ahp1.keep hc oa
 replace Ahp2:=Ahp2.keep hc oa
 replace Ahp3:=Ahp3.keep hc oa
 replace Ahq0:=Ahq0.keep hc oa
 replace Ahq1:=Ahq1.keep hc oa
 replace Ahq2:=Ahq2.keep hc oa
 replace K1_0:=hc.room K1_0
 replace K1_1:=hc.room K1_1
 replace K1_2:=hc.room K1_2
 replace K1_3:=hc.room K1_3
 replace K1_4:=hc.room K1_4
 replace K1_5:=hc.room K1_5
 replace E4:=E4.keep hc oa
 replace E5:=E5.keep hc oa
 replace E6:=E6.keep hc oa
 replace E7:=E7.keep hc oa
 clear hc
 obtain ⟨f5,qf5⟩:∃ g,g = T * U:=⟨_,rfl⟩
 rw [←qf5] at hv
 replace qf5:=hd qf5
 have E8:=hv
 clear hv
 go_wp2_with fail
 go_still_tail 6,(by kernel_rfl)
 go_wp2_with fail
 refine cG (fun W=>Chg (Rg bv ov 20) w W∧Room W bv ov 20∧Elt W bp op X∧Elt W bp (op + 5) Y∧Elt W bp (op + 10) Z∧Elt W bp (op + 15) T∧Elt W bq oq A∧Elt W bq (oq + 5) B∧Elt W bq (oq + 10) U∧Room W n1 0 5∧Room W (n1 + 1) 0 5∧Room W (n1 + 2) 0 5∧Room W (n1 + 3) 0 5∧Room W (n1 + 4) 0 5∧Room W (n1 + 5) 0 5∧Elt W n1 0 f1∧Elt W (n1 + 1) 0 f2∧Elt W (n1 + 2) 0 f3∧Elt W (n1 + 3) 0 f4∧Elt W (n1 + 4) 0 f5) ⟨C.drew,RM.drew,Ahp0.drew,Ahp1.drew,Ahp2.drew,Ahp3.drew,Ahq0.drew,Ahq1.drew,Ahq2.drew,K1_0.drew,K1_1.drew,K1_2.drew,K1_3.drew,K1_4.drew,K1_5.drew,E4.drew,E5.drew,E6.drew,E7.drew,E8.drew⟩ ?_
 clear C RM Ahp0 Ahp1 Ahp2 Ahp3 Ahq0 Ahq1 Ahq2 K1_0 K1_1 K1_2 K1_3 K1_4 K1_5 E4 E5 E6 E7 E8
 rintro W ⟨C,RM,Ahp0,Ahp1,Ahp2,Ahp3,Ahq0,Ahq1,Ahq2,K1_0,K1_1,K1_2,K1_3,K1_4,K1_5,E4,E5,E6,E7,E8⟩
 refine (add_e K1_5 Ahp2 Ahp2 (fun e=>by omega) (fun e=>by omega)).mono ?_
 rintro e W ⟨rfl,hc,hv⟩
 replace C:=C.loc hc (by omega)
 replace RM:=hc.room RM
 replace Ahp0:=Ahp0.keep hc oa
 replace Ahp1:=Ahp1.keep hc oa
 replace Ahp2:=Ahp2.keep hc oa
 replace Ahp3:=Ahp3.keep hc oa
 replace Ahq0:=Ahq0.keep hc oa
 replace Ahq1:=Ahq1.keep hc oa
 replace Ahq2:=Ahq2.keep hc oa
 replace K1_0:=hc.room K1_0
 replace K1_1:=hc.room K1_1
 replace K1_2:=hc.room K1_2
 replace K1_3:=hc.room K1_3
 replace K1_4:=hc.room K1_4
 replace K1_5:=hc.room K1_5
 replace E4:=E4.keep hc oa
 replace E5:=E5.keep hc oa
 replace E6:=E6.keep hc oa
 replace E7:=E7.keep hc oa
 replace E8:=E8.keep hc oa
 clear hc
 obtain ⟨f6,qf6⟩:∃ g,g = Z + Z:=⟨_,rfl⟩
 rw [←qf6] at hv
 replace qf6:=hd qf6
 have E9:=hv
 clear hv
 go_wp2_with fail
 refine (sub_e (RM.part (by omega) (by omega)) E6 E7 (fun e=>by omega) (fun e=>by omega)).mono ?_
 rintro e W ⟨rfl,hc,hv⟩
 replace C:=C.into hc
 replace RM:=hc.room RM
 replace Ahp0:=Ahp0.keep hc oa
 replace Ahp1:=Ahp1.keep hc oa
 replace Ahp2:=Ahp2.keep hc oa
 replace Ahp3:=Ahp3.keep hc oa
 replace Ahq0:=Ahq0.keep hc oa
 replace Ahq1:=Ahq1.keep hc oa
 replace Ahq2:=Ahq2.keep hc oa
 replace K1_0:=hc.room K1_0
 replace K1_1:=hc.room K1_1
 replace K1_2:=hc.room K1_2
 replace K1_3:=hc.room K1_3
 replace K1_4:=hc.room K1_4
 replace K1_5:=hc.room K1_5
 replace E4:=E4.keep hc oa
 replace E5:=E5.keep hc oa
 replace E6:=E6.keep hc oa
 replace E7:=E7.keep hc oa
 replace E8:=E8.keep hc oa
 replace E9:=E9.keep hc oa
 clear hc
 obtain ⟨f7,qf7⟩:∃ g,g = f3 - f4:=⟨_,rfl⟩
 rw [←qf7] at hv
 replace qf7:=hd qf7
 have E10:=hv
 clear hv
 go_wp2_with fail
 refine (add_e (RM.part (by omega) (by omega)) E6 E7 (fun e=>by omega) (fun e=>by omega)).mono ?_
 rintro e W ⟨rfl,hc,hv⟩
 replace C:=C.into hc
 replace RM:=hc.room RM
 replace Ahp0:=Ahp0.keep hc oa
 replace Ahp1:=Ahp1.keep hc oa
 replace Ahp2:=Ahp2.keep hc oa
 replace Ahp3:=Ahp3.keep hc oa
 replace Ahq0:=Ahq0.keep hc oa
 replace Ahq1:=Ahq1.keep hc oa
 replace Ahq2:=Ahq2.keep hc oa
 replace K1_0:=hc.room K1_0
 replace K1_1:=hc.room K1_1
 replace K1_2:=hc.room K1_2
 replace K1_3:=hc.room K1_3
 replace K1_4:=hc.room K1_4
 replace K1_5:=hc.room K1_5
 replace E4:=E4.keep hc oa
 replace E5:=E5.keep hc oa
 replace E6:=E6.keep hc oa
 replace E7:=E7.keep hc oa
 replace E8:=E8.keep hc oa
 replace E9:=E9.keep hc oa
 replace E10:=E10.keep hc oa
 clear hc
 obtain ⟨f8,qf8⟩:∃ g,g = f3 + f4:=⟨_,rfl⟩
 rw [←qf8] at hv
 replace qf8:=hd qf8
 have E11:=hv
 clear hv
 go_wp2_with fail
 refine (sub_e (RM.part (by omega) (by omega)) E9 E8 (fun e=>by omega) (fun e=>by omega)).mono ?_
 rintro e W ⟨rfl,hc,hv⟩
 replace C:=C.into hc
 replace RM:=hc.room RM
 replace Ahp0:=Ahp0.keep hc oa
 replace Ahp1:=Ahp1.keep hc oa
 replace Ahp2:=Ahp2.keep hc oa
 replace Ahp3:=Ahp3.keep hc oa
 replace Ahq0:=Ahq0.keep hc oa
 replace Ahq1:=Ahq1.keep hc oa
 replace Ahq2:=Ahq2.keep hc oa
 replace K1_0:=hc.room K1_0
 replace K1_1:=hc.room K1_1
 replace K1_2:=hc.room K1_2
 replace K1_3:=hc.room K1_3
 replace K1_4:=hc.room K1_4
 replace K1_5:=hc.room K1_5
 replace E4:=E4.keep hc oa
 replace E5:=E5.keep hc oa
 replace E6:=E6.keep hc oa
 replace E7:=E7.keep hc oa
 replace E8:=E8.keep hc oa
 replace E9:=E9.keep hc oa
 replace E10:=E10.keep hc oa
 replace E11:=E11.keep hc oa
 clear hc
 obtain ⟨f9,qf9⟩:∃ g,g = f6 - f5:=⟨_,rfl⟩
 rw [←qf9] at hv
 replace qf9:=hd qf9
 have E12:=hv
 clear hv
 go_wp2_with fail
 refine (add_e (RM.part (by omega) (by omega)) E9 E8 (fun e=>by omega) (fun e=>by omega)).mono ?_
 rintro e W ⟨rfl,hc,hv⟩
 replace C:=C.into hc
 replace RM:=hc.room RM
 replace Ahp0:=Ahp0.keep hc oa
 replace Ahp1:=Ahp1.keep hc oa
 replace Ahp2:=Ahp2.keep hc oa
 replace Ahp3:=Ahp3.keep hc oa
 replace Ahq0:=Ahq0.keep hc oa
 replace Ahq1:=Ahq1.keep hc oa
 replace Ahq2:=Ahq2.keep hc oa
 replace K1_0:=hc.room K1_0
 replace K1_1:=hc.room K1_1
 replace K1_2:=hc.room K1_2
 replace K1_3:=hc.room K1_3
 replace K1_4:=hc.room K1_4
 replace K1_5:=hc.room K1_5
 replace E4:=E4.keep hc oa
 replace E5:=E5.keep hc oa
 replace E6:=E6.keep hc oa
 replace E7:=E7.keep hc oa
 replace E8:=E8.keep hc oa
 replace E9:=E9.keep hc oa
 replace E10:=E10.keep hc oa
 replace E11:=E11.keep hc oa
 replace E12:=E12.keep hc oa
 clear hc
 obtain ⟨f10,qf10⟩:∃ g,g = f6 + f5:=⟨_,rfl⟩
 rw [←qf10] at hv
 replace qf10:=hd qf10
 have E13:=hv
 clear hv
 go_wp2_with fail
 go_ret
 obtain rfl:=qf1.out
 obtain rfl:=qf2.out
 obtain rfl:=qf3.out
 obtain rfl:=qf4.out
 obtain rfl:=qf5.out
 obtain rfl:=qf6.out
 obtain rfl:=qf7.out
 obtain rfl:=qf8.out
 obtain rfl:=qf9.out
 obtain rfl:=qf10.out
 exact ⟨rfl,C,_,_,_,_,E10,E11,E12,E13,rhp.subAf rhq⟩
theorem ptDbl_e {bv ov bp op:Nat} {p:Pt} {w:World} (RM:Room w bv ov 20) (hp:P2 w bp op p) (shp:bv ≠ bp∨ov + 20 ≤ op∨op + 15 ≤ ov) :
  Calls Tryz.prog 52 #[Ptr bv ov,Ptr bp op] w (fun e w'=>e = .returned (Ptr bv ov)∧Chg (Rg bv ov 20) w w'∧P1 w' bv ov (p + p)):=by
 obtain ⟨X,Y,Z,Ahp0,Ahp1,Ahp2,rhp⟩:=hp
 have C:Chg (Rg bv ov 20) w w:=.refl _ _
 go_enter Tryz.func52,Tryz.ntmps52
 go_wp2_with fail
 obtain ⟨n1,ln1⟩:∃ n,w.heap.size = n:=⟨_,rfl⟩
 rw [ln1]
 have hb:=aB [z73,z73,z73,z73] w
 have zn1:w.heap.size ≤ n1:=ln1 ▸ C.size
 have y1:bv < n1:=ln1 ▸ RM.lt (by decide)
 have y2:bp < n1:=ln1 ▸ Ahp0.lt
 replace C:=C.trans (Chg.of_below hb)
 replace RM:=RM.later hb
 replace Ahp0:=Ahp0.keep (Chg.of_below (R:=R0) hb) (fun _ _ h=>h)
 replace Ahp1:=Ahp1.keep (Chg.of_below (R:=R0) hb) (fun _ _ h=>h)
 replace Ahp2:=Ahp2.keep (Chg.of_below (R:=R0) hb) (fun _ _ h=>h)
 have K1_0:=(aH [z73,z73,z73,z73] w 0 (List.replicate 5 (.int .u64 0)) 73 rfl).room (n:=5) rfl
 rw [ln1] at K1_0
 have K1_1:=(aH [z73,z73,z73,z73] w 1 (List.replicate 5 (.int .u64 0)) 73 rfl).room (n:=5) rfl
 rw [ln1] at K1_1
 have K1_2:=(aH [z73,z73,z73,z73] w 2 (List.replicate 5 (.int .u64 0)) 73 rfl).room (n:=5) rfl
 rw [ln1] at K1_2
 have K1_3:=(aH [z73,z73,z73,z73] w 3 (List.replicate 5 (.int .u64 0)) 73 rfl).room (n:=5) rfl
 rw [ln1] at K1_3
 refine cG (fun W=>Chg (Rg bv ov 20) w W∧Room W bv ov 20∧Elt W bp op X∧Elt W bp (op + 5) Y∧Elt W bp (op + 10) Z∧Room W n1 0 5∧Room W (n1 + 1) 0 5∧Room W (n1 + 2) 0 5∧Room W (n1 + 3) 0 5) ⟨C,RM,Ahp0,Ahp1,Ahp2,K1_0,K1_1,K1_2,K1_3⟩ ?_
 clear C RM Ahp0 Ahp1 Ahp2 K1_0 K1_1 K1_2 K1_3 hb ln1
 rintro W ⟨C,RM,Ahp0,Ahp1,Ahp2,K1_0,K1_1,K1_2,K1_3⟩
 refine (sq_e K1_0 Ahp0).mono ?_
 rintro e W ⟨rfl,hc,hv⟩
 replace C:=C.loc hc (by omega)
 replace RM:=hc.room RM
 replace Ahp0:=Ahp0.keep hc oa
 replace Ahp1:=Ahp1.keep hc oa
 replace Ahp2:=Ahp2.keep hc oa
 replace K1_0:=hc.room K1_0
 replace K1_1:=hc.room K1_1
 replace K1_2:=hc.room K1_2
 replace K1_3:=hc.room K1_3
 clear hc
 obtain ⟨f1,qf1⟩:∃ g,g = X * X:=⟨_,rfl⟩
 rw [←qf1] at hv
 replace qf1:=hd qf1
 have E3:=hv
 clear hv
 go_wp2_with fail
 refine (sq_e K1_1 Ahp1).mono ?_
 rintro e W ⟨rfl,hc,hv⟩
 replace C:=C.loc hc (by omega)
 replace RM:=hc.room RM
 replace Ahp0:=Ahp0.keep hc oa
 replace Ahp1:=Ahp1.keep hc oa
 replace Ahp2:=Ahp2.keep hc oa
 replace K1_0:=hc.room K1_0
 replace K1_1:=hc.room K1_1
 replace K1_2:=hc.room K1_2
 replace K1_3:=hc.room K1_3
 replace E3:=E3.keep hc oa
 clear hc
 obtain ⟨f2,qf2⟩:∃ g,g = Y * Y:=⟨_,rfl⟩
 rw [←qf2] at hv
 replace qf2:=hd qf2
 have E4:=hv
 clear hv
 go_wp2_with fail
 refine (sq_e K1_2 Ahp2).mono ?_
 rintro e W ⟨rfl,hc,hv⟩
 replace C:=C.loc hc (by omega)
 replace RM:=hc.room RM
 replace Ahp0:=Ahp0.keep hc oa
 replace Ahp1:=Ahp1.keep hc oa
 replace Ahp2:=Ahp2.keep hc oa
 replace K1_0:=hc.room K1_0
 replace K1_1:=hc.room K1_1
 replace K1_2:=hc.room K1_2
 replace K1_3:=hc.room K1_3
 replace E3:=E3.keep hc oa
 replace E4:=E4.keep hc oa
 clear hc
 obtain ⟨f3,qf3⟩:∃ g,g = Z * Z:=⟨_,rfl⟩
 rw [←qf3] at hv
 replace qf3:=hd qf3
 have E5:=hv
 clear hv
 go_wp2_with fail
 refine (add_e K1_2 E5 E5 (fun e=>by omega) (fun e=>by omega)).mono ?_
 rintro e W ⟨rfl,hc,hv⟩
 replace C:=C.loc hc (by omega)
 replace RM:=hc.room RM
 replace Ahp0:=Ahp0.keep hc oa
 replace Ahp1:=Ahp1.keep hc oa
 replace Ahp2:=Ahp2.keep hc oa
 replace K1_0:=hc.room K1_0
 replace K1_1:=hc.room K1_1
 replace K1_2:=hc.room K1_2
 replace K1_3:=hc.room K1_3
 replace E3:=E3.keep hc oa
 replace E4:=E4.keep hc oa
 clear E5
 clear hc
 obtain ⟨f4,qf4⟩:∃ g,g = f3 + f3:=⟨_,rfl⟩
 rw [←qf4] at hv
 replace qf4:=hd qf4
 have E6:=hv
 clear hv
 go_wp2_with fail
 go_still_tail 6,(by kernel_rfl)
 go_wp2_with fail
 refine cG (fun W=>Chg (Rg bv ov 20) w W∧Room W bv ov 20∧Elt W bp op X∧Elt W bp (op + 5) Y∧Elt W bp (op + 10) Z∧Room W n1 0 5∧Room W (n1 + 1) 0 5∧Room W (n1 + 2) 0 5∧Room W (n1 + 3) 0 5∧Elt W n1 0 f1∧Elt W (n1 + 1) 0 f2∧Elt W (n1 + 2) 0 f4) ⟨C.drew,RM.drew,Ahp0.drew,Ahp1.drew,Ahp2.drew,K1_0.drew,K1_1.drew,K1_2.drew,K1_3.drew,E3.drew,E4.drew,E6.drew⟩ ?_
 clear C RM Ahp0 Ahp1 Ahp2 K1_0 K1_1 K1_2 K1_3 E3 E4 E6
 rintro W ⟨C,RM,Ahp0,Ahp1,Ahp2,K1_0,K1_1,K1_2,K1_3,E3,E4,E6⟩
 refine (add_e K1_3 Ahp0 Ahp1 (fun e=>by omega) (fun e=>by omega)).mono ?_
 rintro e W ⟨rfl,hc,hv⟩
 replace C:=C.loc hc (by omega)
 replace RM:=hc.room RM
 replace Ahp0:=Ahp0.keep hc oa
 replace Ahp1:=Ahp1.keep hc oa
 replace Ahp2:=Ahp2.keep hc oa
 replace K1_0:=hc.room K1_0
 replace K1_1:=hc.room K1_1
 replace K1_2:=hc.room K1_2
 replace K1_3:=hc.room K1_3
 replace E3:=E3.keep hc oa
 replace E4:=E4.keep hc oa
 replace E6:=E6.keep hc oa
 clear hc
 obtain ⟨f5,qf5⟩:∃ g,g = X + Y:=⟨_,rfl⟩
 rw [←qf5] at hv
 replace qf5:=hd qf5
 have E7:=hv
 clear hv
 go_wp2_with fail
 refine (sq_e K1_3 E7).mono ?_
 rintro e W ⟨rfl,hc,hv⟩
 replace C:=C.loc hc (by omega)
 replace RM:=hc.room RM
 replace Ahp0:=Ahp0.keep hc oa
 replace Ahp1:=Ahp1.keep hc oa
 replace Ahp2:=Ahp2.keep hc oa
 replace K1_0:=hc.room K1_0
 replace K1_1:=hc.room K1_1
 replace K1_2:=hc.room K1_2
 replace K1_3:=hc.room K1_3
 replace E3:=E3.keep hc oa
 replace E4:=E4.keep hc oa
 replace E6:=E6.keep hc oa
 clear E7
 clear hc
 obtain ⟨f6,qf6⟩:∃ g,g = f5 * f5:=⟨_,rfl⟩
 rw [←qf6] at hv
 replace qf6:=hd qf6
 have E8:=hv
 clear hv
 go_wp2_with fail
 refine (add_e (RM.part (by omega) (by omega)) E4 E3 (fun e=>by omega) (fun e=>by omega)).mono ?_
 rintro e W ⟨rfl,hc,hv⟩
 replace C:=C.into hc
 replace RM:=hc.room RM
 replace Ahp0:=Ahp0.keep hc oa
 replace Ahp1:=Ahp1.keep hc oa
 replace Ahp2:=Ahp2.keep hc oa
 replace K1_0:=hc.room K1_0
 replace K1_1:=hc.room K1_1
 replace K1_2:=hc.room K1_2
 replace K1_3:=hc.room K1_3
 replace E3:=E3.keep hc oa
 replace E4:=E4.keep hc oa
 replace E6:=E6.keep hc oa
 replace E8:=E8.keep hc oa
 clear hc
 obtain ⟨f7,qf7⟩:∃ g,g = f2 + f1:=⟨_,rfl⟩
 rw [←qf7] at hv
 replace qf7:=hd qf7
 have E9:=hv
 clear hv
 go_wp2_with fail
 refine (sub_e (RM.part (by omega) (by omega)) E4 E3 (fun e=>by omega) (fun e=>by omega)).mono ?_
 rintro e W ⟨rfl,hc,hv⟩
 replace C:=C.into hc
 replace RM:=hc.room RM
 replace Ahp0:=Ahp0.keep hc oa
 replace Ahp1:=Ahp1.keep hc oa
 replace Ahp2:=Ahp2.keep hc oa
 replace K1_0:=hc.room K1_0
 replace K1_1:=hc.room K1_1
 replace K1_2:=hc.room K1_2
 replace K1_3:=hc.room K1_3
 replace E3:=E3.keep hc oa
 replace E4:=E4.keep hc oa
 replace E6:=E6.keep hc oa
 replace E8:=E8.keep hc oa
 replace E9:=E9.keep hc oa
 clear hc
 obtain ⟨f8,qf8⟩:∃ g,g = f2 - f1:=⟨_,rfl⟩
 rw [←qf8] at hv
 replace qf8:=hd qf8
 have E10:=hv
 clear hv
 go_wp2_with fail
 go_still_tail 6,(by kernel_rfl)
 go_wp2_with fail
 refine cG (fun W=>Chg (Rg bv ov 20) w W∧Room W bv ov 20∧Elt W bp op X∧Elt W bp (op + 5) Y∧Elt W bp (op + 10) Z∧Room W n1 0 5∧Room W (n1 + 1) 0 5∧Room W (n1 + 2) 0 5∧Room W (n1 + 3) 0 5∧Elt W n1 0 f1∧Elt W (n1 + 1) 0 f2∧Elt W (n1 + 2) 0 f4∧Elt W (n1 + 3) 0 f6∧Elt W bv (ov + 5) f7∧Elt W bv (ov + 10) f8) ⟨C.drew,RM.drew,Ahp0.drew,Ahp1.drew,Ahp2.drew,K1_0.drew,K1_1.drew,K1_2.drew,K1_3.drew,E3.drew,E4.drew,E6.drew,E8.drew,E9.drew,E10.drew⟩ ?_
 clear C RM Ahp0 Ahp1 Ahp2 K1_0 K1_1 K1_2 K1_3 E3 E4 E6 E8 E9 E10
 rintro W ⟨C,RM,Ahp0,Ahp1,Ahp2,K1_0,K1_1,K1_2,K1_3,E3,E4,E6,E8,E9,E10⟩
 refine (sub_e (RM.part (by omega) (by omega)) E8 E9 (fun e=>by omega) (fun e=>by omega)).mono ?_
 rintro e W ⟨rfl,hc,hv⟩
 replace C:=C.into hc
 replace RM:=hc.room RM
 replace Ahp0:=Ahp0.keep hc oa
 replace Ahp1:=Ahp1.keep hc oa
 replace Ahp2:=Ahp2.keep hc oa
 replace K1_0:=hc.room K1_0
 replace K1_1:=hc.room K1_1
 replace K1_2:=hc.room K1_2
 replace K1_3:=hc.room K1_3
 replace E3:=E3.keep hc oa
 replace E4:=E4.keep hc oa
 replace E6:=E6.keep hc oa
 replace E8:=E8.keep hc oa
 replace E9:=E9.keep hc oa
 replace E10:=E10.keep hc oa
 clear hc
 obtain ⟨f9,qf9⟩:∃ g,g = f6 - f7:=⟨_,rfl⟩
 rw [←qf9] at hv
 replace qf9:=hd qf9
 have E11:=hv
 clear hv
 go_wp2_with fail
 go_still_tail 6,(by kernel_rfl)
 go_wp2_with fail
 refine cG (fun W=>Chg (Rg bv ov 20) w W∧Room W bv ov 20∧Elt W bp op X∧Elt W bp (op + 5) Y∧Elt W bp (op + 10) Z∧Room W n1 0 5∧Room W (n1 + 1) 0 5∧Room W (n1 + 2) 0 5∧Room W (n1 + 3) 0 5∧Elt W n1 0 f1∧Elt W (n1 + 1) 0 f2∧Elt W (n1 + 2) 0 f4∧Elt W (n1 + 3) 0 f6∧Elt W bv (ov + 5) f7∧Elt W bv (ov + 10) f8∧Elt W bv ov f9) ⟨C.drew,RM.drew,Ahp0.drew,Ahp1.drew,Ahp2.drew,K1_0.drew,K1_1.drew,K1_2.drew,K1_3.drew,E3.drew,E4.drew,E6.drew,E8.drew,E9.drew,E10.drew,E11.drew⟩ ?_
 clear C RM Ahp0 Ahp1 Ahp2 K1_0 K1_1 K1_2 K1_3 E3 E4 E6 E8 E9 E10 E11
 rintro W ⟨C,RM,Ahp0,Ahp1,Ahp2,K1_0,K1_1,K1_2,K1_3,E3,E4,E6,E8,E9,E10,E11⟩
 refine (sub_e (RM.part (by omega) (by omega)) E6 E10 (fun e=>by omega) (fun e=>by omega)).mono ?_
 rintro e W ⟨rfl,hc,hv⟩
 replace C:=C.into hc
 replace RM:=hc.room RM
 replace Ahp0:=Ahp0.keep hc oa
 replace Ahp1:=Ahp1.keep hc oa
 replace Ahp2:=Ahp2.keep hc oa
 replace K1_0:=hc.room K1_0
 replace K1_1:=hc.room K1_1
 replace K1_2:=hc.room K1_2
 replace K1_3:=hc.room K1_3
 replace E3:=E3.keep hc oa
 replace E4:=E4.keep hc oa
 replace E6:=E6.keep hc oa
 replace E8:=E8.keep hc oa
 replace E9:=E9.keep hc oa
 replace E10:=E10.keep hc oa
 replace E11:=E11.keep hc oa
 clear hc
 obtain ⟨f10,qf10⟩:∃ g,g = f4 - f8:=⟨_,rfl⟩
 rw [←qf10] at hv
 replace qf10:=hd qf10
 have E12:=hv
 clear hv
 go_wp2_with fail
 go_ret
 obtain rfl:=qf1.out
 obtain rfl:=qf2.out
 obtain rfl:=qf3.out
 obtain rfl:=qf4.out
 obtain rfl:=qf5.out
 obtain rfl:=qf6.out
 obtain rfl:=qf7.out
 obtain rfl:=qf8.out
 obtain rfl:=qf9.out
 obtain rfl:=qf10.out
 exact ⟨rfl,C,_,_,_,_,E11,E9,E10,E12,rhp.dbl⟩
theorem p2OfP1_e {bv ov bp op:Nat} {p:Pt} {w:World} (RM:Room w bv ov 15) (hp:P1 w bp op p) (shp:bv ≠ bp∨ov + 15 ≤ op∨op + 20 ≤ ov) :
  Calls Tryz.prog 51 #[Ptr bv ov,Ptr bp op] w (fun e w'=>e = .returned (Ptr bv ov)∧Chg (Rg bv ov 15) w w'∧P2 w' bv ov p):=by
 obtain ⟨X,Y,Z,T,Ahp0,Ahp1,Ahp2,Ahp3,rhp⟩:=hp
 have C:Chg (Rg bv ov 15) w w:=.refl _ _
 go_enter Tryz.func51,Tryz.ntmps51
 go_wp2_with fail
 go_still_tail 9,(by kernel_rfl)
 go_wp2_with fail
 refine cG (fun W=>Chg (Rg bv ov 15) w W∧Room W bv ov 15∧Elt W bp op X∧Elt W bp (op + 5) Y∧Elt W bp (op + 10) Z∧Elt W bp (op + 15) T) ⟨C.drew,RM.drew,Ahp0.drew,Ahp1.drew,Ahp2.drew,Ahp3.drew⟩ ?_
 clear C RM Ahp0 Ahp1 Ahp2 Ahp3
 rintro W ⟨C,RM,Ahp0,Ahp1,Ahp2,Ahp3⟩
 refine (mul_e (RM.part (by omega) (by omega)) Ahp0 Ahp3).mono ?_
 rintro e W ⟨rfl,hc,hv⟩
 replace C:=C.into hc
 replace RM:=hc.room RM
 replace Ahp0:=Ahp0.keep hc oa
 replace Ahp1:=Ahp1.keep hc oa
 replace Ahp2:=Ahp2.keep hc oa
 replace Ahp3:=Ahp3.keep hc oa
 clear hc
 obtain ⟨f1,qf1⟩:∃ g,g = X * T:=⟨_,rfl⟩
 rw [←qf1] at hv
 replace qf1:=hd qf1
 have E1:=hv
 clear hv
 go_wp2_with fail
 go_still_tail 9,(by kernel_rfl)
 go_wp2_with fail
 refine cG (fun W=>Chg (Rg bv ov 15) w W∧Room W bv ov 15∧Elt W bp op X∧Elt W bp (op + 5) Y∧Elt W bp (op + 10) Z∧Elt W bp (op + 15) T∧Elt W bv ov f1) ⟨C.drew,RM.drew,Ahp0.drew,Ahp1.drew,Ahp2.drew,Ahp3.drew,E1.drew⟩ ?_
 clear C RM Ahp0 Ahp1 Ahp2 Ahp3 E1
 rintro W ⟨C,RM,Ahp0,Ahp1,Ahp2,Ahp3,E1⟩
 refine (mul_e (RM.part (by omega) (by omega)) Ahp1 Ahp2).mono ?_
 rintro e W ⟨rfl,hc,hv⟩
 replace C:=C.into hc
 replace RM:=hc.room RM
 replace Ahp0:=Ahp0.keep hc oa
 replace Ahp1:=Ahp1.keep hc oa
 replace Ahp2:=Ahp2.keep hc oa
 replace Ahp3:=Ahp3.keep hc oa
 replace E1:=E1.keep hc oa
 clear hc
 obtain ⟨f2,qf2⟩:∃ g,g = Y * Z:=⟨_,rfl⟩
 rw [←qf2] at hv
 replace qf2:=hd qf2
 have E2:=hv
 clear hv
 go_wp2_with fail
 go_still_tail 9,(by kernel_rfl)
 go_wp2_with fail
 refine cG (fun W=>Chg (Rg bv ov 15) w W∧Room W bv ov 15∧Elt W bp op X∧Elt W bp (op + 5) Y∧Elt W bp (op + 10) Z∧Elt W bp (op + 15) T∧Elt W bv ov f1∧Elt W bv (ov + 5) f2) ⟨C.drew,RM.drew,Ahp0.drew,Ahp1.drew,Ahp2.drew,Ahp3.drew,E1.drew,E2.drew⟩ ?_
 clear C RM Ahp0 Ahp1 Ahp2 Ahp3 E1 E2
 rintro W ⟨C,RM,Ahp0,Ahp1,Ahp2,Ahp3,E1,E2⟩
 refine (mul_e (RM.part (by omega) (by omega)) Ahp2 Ahp3).mono ?_
 rintro e W ⟨rfl,hc,hv⟩
 replace C:=C.into hc
 replace RM:=hc.room RM
 replace Ahp0:=Ahp0.keep hc oa
 replace Ahp1:=Ahp1.keep hc oa
 replace Ahp2:=Ahp2.keep hc oa
 replace Ahp3:=Ahp3.keep hc oa
 replace E1:=E1.keep hc oa
 replace E2:=E2.keep hc oa
 clear hc
 obtain ⟨f3,qf3⟩:∃ g,g = Z * T:=⟨_,rfl⟩
 rw [←qf3] at hv
 replace qf3:=hd qf3
 have E3:=hv
 clear hv
 go_wp2_with fail
 go_ret
 obtain rfl:=qf1.out
 obtain rfl:=qf2.out
 obtain rfl:=qf3.out
 exact ⟨rfl,C,_,_,_,E1,E2,E3,rhp.pj⟩
open Go.RowKit
theorem p3OfP1_e {bv ov bp op:Nat} {p:Pt} {w:World} (RM:Room w bv ov 20) (hp:P1 w bp op p) (shp:bv ≠ bp∨ov + 20 ≤ op∨op + 20 ≤ ov) :
  Calls Tryz.prog 53 #[Ptr bv ov,Ptr bp op] w (fun e w'=>e = .returned (Ptr bv ov)∧Chg (Rg bv ov 20) w w'∧P3 w' bv ov p):=by
 obtain ⟨X,Y,Z,T,Ahp0,Ahp1,Ahp2,Ahp3,rhp⟩:=hp
 have C:Chg (Rg bv ov 20) w w:=.refl _ _
 go_enter Tryz.func53,Tryz.ntmps53
 go_wp2_with fail
 go_still_tail 9,(by kernel_rfl)
 go_wp2_with fail
 refine cG (fun W=>Chg (Rg bv ov 20) w W∧Room W bv ov 20∧Elt W bp op X∧Elt W bp (op + 5) Y∧Elt W bp (op + 10) Z∧Elt W bp (op + 15) T) ⟨C.drew,RM.drew,Ahp0.drew,Ahp1.drew,Ahp2.drew,Ahp3.drew⟩ ?_
 clear C RM Ahp0 Ahp1 Ahp2 Ahp3
 rintro W ⟨C,RM,Ahp0,Ahp1,Ahp2,Ahp3⟩
 refine (mul_e (RM.part (by omega) (by omega)) Ahp0 Ahp3).mono ?_
 rintro e W ⟨rfl,hc,hv⟩
 replace C:=C.into hc
 replace RM:=hc.room RM
 replace Ahp0:=Ahp0.keep hc oa
 replace Ahp1:=Ahp1.keep hc oa
 replace Ahp2:=Ahp2.keep hc oa
 replace Ahp3:=Ahp3.keep hc oa
 clear hc
 obtain ⟨f1,qf1⟩:∃ g,g = X * T:=⟨_,rfl⟩
 rw [←qf1] at hv
 replace qf1:=hd qf1
 have E1:=hv
 clear hv
 go_wp2_with fail
 go_still_tail 9,(by kernel_rfl)
 go_wp2_with fail
 refine cG (fun W=>Chg (Rg bv ov 20) w W∧Room W bv ov 20∧Elt W bp op X∧Elt W bp (op + 5) Y∧Elt W bp (op + 10) Z∧Elt W bp (op + 15) T∧Elt W bv ov f1) ⟨C.drew,RM.drew,Ahp0.drew,Ahp1.drew,Ahp2.drew,Ahp3.drew,E1.drew⟩ ?_
 clear C RM Ahp0 Ahp1 Ahp2 Ahp3 E1
 rintro W ⟨C,RM,Ahp0,Ahp1,Ahp2,Ahp3,E1⟩
 refine (mul_e (RM.part (by omega) (by omega)) Ahp1 Ahp2).mono ?_
 rintro e W ⟨rfl,hc,hv⟩
 replace C:=C.into hc
 replace RM:=hc.room RM
 replace Ahp0:=Ahp0.keep hc oa
 replace Ahp1:=Ahp1.keep hc oa
 replace Ahp2:=Ahp2.keep hc oa
 replace Ahp3:=Ahp3.keep hc oa
 replace E1:=E1.keep hc oa
 clear hc
 obtain ⟨f2,qf2⟩:∃ g,g = Y * Z:=⟨_,rfl⟩
 rw [←qf2] at hv
 replace qf2:=hd qf2
 have E2:=hv
 clear hv
 go_wp2_with fail
 go_still_tail 9,(by kernel_rfl)
 go_wp2_with fail
 refine cG (fun W=>Chg (Rg bv ov 20) w W∧Room W bv ov 20∧Elt W bp op X∧Elt W bp (op + 5) Y∧Elt W bp (op + 10) Z∧Elt W bp (op + 15) T∧Elt W bv ov f1∧Elt W bv (ov + 5) f2) ⟨C.drew,RM.drew,Ahp0.drew,Ahp1.drew,Ahp2.drew,Ahp3.drew,E1.drew,E2.drew⟩ ?_
 clear C RM Ahp0 Ahp1 Ahp2 Ahp3 E1 E2
 rintro W ⟨C,RM,Ahp0,Ahp1,Ahp2,Ahp3,E1,E2⟩
 refine (mul_e (RM.part (by omega) (by omega)) Ahp2 Ahp3).mono ?_
 rintro e W ⟨rfl,hc,hv⟩
 replace C:=C.into hc
 replace RM:=hc.room RM
 replace Ahp0:=Ahp0.keep hc oa
 replace Ahp1:=Ahp1.keep hc oa
 replace Ahp2:=Ahp2.keep hc oa
 replace Ahp3:=Ahp3.keep hc oa
 replace E1:=E1.keep hc oa
 replace E2:=E2.keep hc oa
 clear hc
 obtain ⟨f3,qf3⟩:∃ g,g = Z * T:=⟨_,rfl⟩
 rw [←qf3] at hv
 replace qf3:=hd qf3
 have E3:=hv
 clear hv
 go_wp2_with fail
 go_still_tail 9,(by kernel_rfl)
 go_wp2_with fail
 refine cG (fun W=>Chg (Rg bv ov 20) w W∧Room W bv ov 20∧Elt W bp op X∧Elt W bp (op + 5) Y∧Elt W bp (op + 10) Z∧Elt W bp (op + 15) T∧Elt W bv ov f1∧Elt W bv (ov + 5) f2∧Elt W bv (ov + 10) f3) ⟨C.drew,RM.drew,Ahp0.drew,Ahp1.drew,Ahp2.drew,Ahp3.drew,E1.drew,E2.drew,E3.drew⟩ ?_
 clear C RM Ahp0 Ahp1 Ahp2 Ahp3 E1 E2 E3
 rintro W ⟨C,RM,Ahp0,Ahp1,Ahp2,Ahp3,E1,E2,E3⟩
 refine (mul_e (RM.part (by omega) (by omega)) Ahp0 Ahp1).mono ?_
 rintro e W ⟨rfl,hc,hv⟩
 replace C:=C.into hc
 replace RM:=hc.room RM
 replace Ahp0:=Ahp0.keep hc oa
 replace Ahp1:=Ahp1.keep hc oa
 replace Ahp2:=Ahp2.keep hc oa
 replace Ahp3:=Ahp3.keep hc oa
 replace E1:=E1.keep hc oa
 replace E2:=E2.keep hc oa
 replace E3:=E3.keep hc oa
 clear hc
 obtain ⟨f4,qf4⟩:∃ g,g = X * Y:=⟨_,rfl⟩
 rw [←qf4] at hv
 replace qf4:=hd qf4
 have E4:=hv
 clear hv
 go_wp2_with fail
 go_ret
 obtain rfl:=qf1.out
 obtain rfl:=qf2.out
 obtain rfl:=qf3.out
 obtain rfl:=qf4.out
 exact ⟨rfl,C,_,_,_,_,E1,E2,E3,E4,rhp.ex⟩
theorem p3OfP2_e {bv ov bp op:Nat} {p:Pt} {w:World} (RM:Room w bv ov 20) (hp:P2 w bp op p) (shp:bv ≠ bp∨ov + 20 ≤ op∨op + 15 ≤ ov) :
  Calls Tryz.prog 67 #[Ptr bv ov,Ptr bp op] w (fun e w'=>e = .returned (Ptr bv ov)∧Chg (Rg bv ov 20) w w'∧P3 w' bv ov p):=by
 obtain ⟨X,Y,Z,Ahp0,Ahp1,Ahp2,rhp⟩:=hp
 have C:Chg (Rg bv ov 20) w w:=.refl _ _
 go_enter Tryz.func67,Tryz.ntmps67
 go_wp2_with fail
 go_still_tail 9,(by kernel_rfl)
 go_wp2_with fail
 refine cG (fun W=>Chg (Rg bv ov 20) w W∧Room W bv ov 20∧Elt W bp op X∧Elt W bp (op + 5) Y∧Elt W bp (op + 10) Z) ⟨C.drew,RM.drew,Ahp0.drew,Ahp1.drew,Ahp2.drew⟩ ?_
 clear C RM Ahp0 Ahp1 Ahp2
 rintro W ⟨C,RM,Ahp0,Ahp1,Ahp2⟩
 refine (mul_e (RM.part (by omega) (by omega)) Ahp0 Ahp2).mono ?_
 rintro e W ⟨rfl,hc,hv⟩
 replace C:=C.into hc
 replace RM:=hc.room RM
 replace Ahp0:=Ahp0.keep hc oa
 replace Ahp1:=Ahp1.keep hc oa
 replace Ahp2:=Ahp2.keep hc oa
 clear hc
 obtain ⟨f1,qf1⟩:∃ g,g = X * Z:=⟨_,rfl⟩
 rw [←qf1] at hv
 replace qf1:=hd qf1
 have E1:=hv
 clear hv
 go_wp2_with fail
 go_still_tail 9,(by kernel_rfl)
 go_wp2_with fail
 refine cG (fun W=>Chg (Rg bv ov 20) w W∧Room W bv ov 20∧Elt W bp op X∧Elt W bp (op + 5) Y∧Elt W bp (op + 10) Z∧Elt W bv ov f1) ⟨C.drew,RM.drew,Ahp0.drew,Ahp1.drew,Ahp2.drew,E1.drew⟩ ?_
 clear C RM Ahp0 Ahp1 Ahp2 E1
 rintro W ⟨C,RM,Ahp0,Ahp1,Ahp2,E1⟩
 refine (mul_e (RM.part (by omega) (by omega)) Ahp1 Ahp2).mono ?_
 rintro e W ⟨rfl,hc,hv⟩
 replace C:=C.into hc
 replace RM:=hc.room RM
 replace Ahp0:=Ahp0.keep hc oa
 replace Ahp1:=Ahp1.keep hc oa
 replace Ahp2:=Ahp2.keep hc oa
 replace E1:=E1.keep hc oa
 clear hc
 obtain ⟨f2,qf2⟩:∃ g,g = Y * Z:=⟨_,rfl⟩
 rw [←qf2] at hv
 replace qf2:=hd qf2
 have E2:=hv
 clear hv
 go_wp2_with fail
 go_still_tail 6,(by kernel_rfl)
 go_wp2_with fail
 refine cG (fun W=>Chg (Rg bv ov 20) w W∧Room W bv ov 20∧Elt W bp op X∧Elt W bp (op + 5) Y∧Elt W bp (op + 10) Z∧Elt W bv ov f1∧Elt W bv (ov + 5) f2) ⟨C.drew,RM.drew,Ahp0.drew,Ahp1.drew,Ahp2.drew,E1.drew,E2.drew⟩ ?_
 clear C RM Ahp0 Ahp1 Ahp2 E1 E2
 rintro W ⟨C,RM,Ahp0,Ahp1,Ahp2,E1,E2⟩
 refine (sq_e (RM.part (by omega) (by omega)) Ahp2).mono ?_
 rintro e W ⟨rfl,hc,hv⟩
 replace C:=C.into hc
 replace RM:=hc.room RM
 replace Ahp0:=Ahp0.keep hc oa
 replace Ahp1:=Ahp1.keep hc oa
 replace Ahp2:=Ahp2.keep hc oa
 replace E1:=E1.keep hc oa
 replace E2:=E2.keep hc oa
 clear hc
 obtain ⟨f3,qf3⟩:∃ g,g = Z * Z:=⟨_,rfl⟩
 rw [←qf3] at hv
 replace qf3:=hd qf3
 have E3:=hv
 clear hv
 go_wp2_with fail
 go_still_tail 9,(by kernel_rfl)
 go_wp2_with fail
 refine cG (fun W=>Chg (Rg bv ov 20) w W∧Room W bv ov 20∧Elt W bp op X∧Elt W bp (op + 5) Y∧Elt W bp (op + 10) Z∧Elt W bv ov f1∧Elt W bv (ov + 5) f2∧Elt W bv (ov + 10) f3) ⟨C.drew,RM.drew,Ahp0.drew,Ahp1.drew,Ahp2.drew,E1.drew,E2.drew,E3.drew⟩ ?_
 clear C RM Ahp0 Ahp1 Ahp2 E1 E2 E3
 rintro W ⟨C,RM,Ahp0,Ahp1,Ahp2,E1,E2,E3⟩
 refine (mul_e (RM.part (by omega) (by omega)) Ahp0 Ahp1).mono ?_
 rintro e W ⟨rfl,hc,hv⟩
 replace C:=C.into hc
 replace RM:=hc.room RM
 replace Ahp0:=Ahp0.keep hc oa
 replace Ahp1:=Ahp1.keep hc oa
 replace Ahp2:=Ahp2.keep hc oa
 replace E1:=E1.keep hc oa
 replace E2:=E2.keep hc oa
 replace E3:=E3.keep hc oa
 clear hc
 obtain ⟨f4,qf4⟩:∃ g,g = X * Y:=⟨_,rfl⟩
 rw [←qf4] at hv
 replace qf4:=hd qf4
 have E4:=hv
 clear hv
 go_wp2_with fail
 go_ret
 obtain rfl:=qf1.out
 obtain rfl:=qf2.out
 obtain rfl:=qf3.out
 obtain rfl:=qf4.out
 exact ⟨rfl,C,_,_,_,_,E1,E2,E3,E4,rhp.ex⟩
theorem p2OfP3_e {bv ov bp op:Nat} {p:Pt} {w:World} (RM:Room w bv ov 15) (hp:P3 w bp op p) (shp:bv ≠ bp∨ov + 15 ≤ op∨op + 20 ≤ ov) :
  Calls Tryz.prog 58 #[Ptr bv ov,Ptr bp op] w (fun e w'=>e = .returned (Ptr bv ov)∧Chg (Rg bv ov 15) w w'∧P2 w' bv ov p):=by
 obtain ⟨X,Y,Z,T,Ahp0,Ahp1,Ahp2,Ahp3,rhp⟩:=hp
 have C:Chg (Rg bv ov 15) w w:=.refl _ _
 go_enter Tryz.func58,Tryz.ntmps58
 go_wp2_with fail
 go_still_tail 6,(by kernel_rfl)
 go_wp2_with fail
 refine cG (fun W=>Chg (Rg bv ov 15) w W∧Room W bv ov 15∧Elt W bp op X∧Elt W bp (op + 5) Y∧Elt W bp (op + 10) Z∧Elt W bp (op + 15) T) ⟨C.drew,RM.drew,Ahp0.drew,Ahp1.drew,Ahp2.drew,Ahp3.drew⟩ ?_
 clear C RM Ahp0 Ahp1 Ahp2 Ahp3
 rintro W ⟨C,RM,Ahp0,Ahp1,Ahp2,Ahp3⟩
 refine (set_e (RM.part (by omega) (by omega)) Ahp0).mono ?_
 rintro e W ⟨rfl,hc,hv⟩
 replace C:=C.into hc
 replace RM:=hc.room RM
 replace Ahp0:=Ahp0.keep hc oa
 replace Ahp1:=Ahp1.keep hc oa
 replace Ahp2:=Ahp2.keep hc oa
 replace Ahp3:=Ahp3.keep hc oa
 clear hc
 have E1:=hv
 clear hv
 go_wp2_with fail
 go_still_tail 6,(by kernel_rfl)
 go_wp2_with fail
 refine cG (fun W=>Chg (Rg bv ov 15) w W∧Room W bv ov 15∧Elt W bp op X∧Elt W bp (op + 5) Y∧Elt W bp (op + 10) Z∧Elt W bp (op + 15) T∧Elt W bv ov X) ⟨C.drew,RM.drew,Ahp0.drew,Ahp1.drew,Ahp2.drew,Ahp3.drew,E1.drew⟩ ?_
 clear C RM Ahp0 Ahp1 Ahp2 Ahp3 E1
 rintro W ⟨C,RM,Ahp0,Ahp1,Ahp2,Ahp3,E1⟩
 refine (set_e (RM.part (by omega) (by omega)) Ahp1).mono ?_
 rintro e W ⟨rfl,hc,hv⟩
 replace C:=C.into hc
 replace RM:=hc.room RM
 replace Ahp0:=Ahp0.keep hc oa
 replace Ahp1:=Ahp1.keep hc oa
 replace Ahp2:=Ahp2.keep hc oa
 replace Ahp3:=Ahp3.keep hc oa
 replace E1:=E1.keep hc oa
 clear hc
 have E2:=hv
 clear hv
 go_wp2_with fail
 go_still_tail 6,(by kernel_rfl)
 go_wp2_with fail
 refine cG (fun W=>Chg (Rg bv ov 15) w W∧Room W bv ov 15∧Elt W bp op X∧Elt W bp (op + 5) Y∧Elt W bp (op + 10) Z∧Elt W bp (op + 15) T∧Elt W bv ov X∧Elt W bv (ov + 5) Y) ⟨C.drew,RM.drew,Ahp0.drew,Ahp1.drew,Ahp2.drew,Ahp3.drew,E1.drew,E2.drew⟩ ?_
 clear C RM Ahp0 Ahp1 Ahp2 Ahp3 E1 E2
 rintro W ⟨C,RM,Ahp0,Ahp1,Ahp2,Ahp3,E1,E2⟩
 refine (set_e (RM.part (by omega) (by omega)) Ahp2).mono ?_
 rintro e W ⟨rfl,hc,hv⟩
 replace C:=C.into hc
 replace RM:=hc.room RM
 replace Ahp0:=Ahp0.keep hc oa
 replace Ahp1:=Ahp1.keep hc oa
 replace Ahp2:=Ahp2.keep hc oa
 replace Ahp3:=Ahp3.keep hc oa
 replace E1:=E1.keep hc oa
 replace E2:=E2.keep hc oa
 clear hc
 have E3:=hv
 clear hv
 go_wp2_with fail
 go_ret
 exact ⟨rfl,C,_,_,_,E1,E2,E3,rhp.pj⟩
open Go.RowKit
theorem pcOfP3_e {bv ov bp op:Nat} {p:Pt} {w:World} (RM:Room w bv ov 20) (hp:P3 w bp op p) (shp:bv ≠ bp∨ov + 20 ≤ op∨op + 20 ≤ ov) :
  Calls Tryz.prog 90 #[Ptr bv ov,Ptr bp op] w (fun e w'=>e = .returned (Ptr bv ov)∧Chg (Rg bv ov 20) w w'∧PC w' bv ov p):=by
 obtain ⟨X,Y,Z,T,Ahp0,Ahp1,Ahp2,Ahp3,rhp⟩:=hp
 have C:Chg (Rg bv ov 20) w w:=.refl _ _
 go_enter Tryz.func90,Tryz.ntmps90
 go_wp2_with fail
 go_still_tail 9,(by kernel_rfl)
 go_wp2_with fail
 refine cG (fun W=>Chg (Rg bv ov 20) w W∧Room W bv ov 20∧Elt W bp op X∧Elt W bp (op + 5) Y∧Elt W bp (op + 10) Z∧Elt W bp (op + 15) T) ⟨C.drew,RM.drew,Ahp0.drew,Ahp1.drew,Ahp2.drew,Ahp3.drew⟩ ?_
 clear C RM Ahp0 Ahp1 Ahp2 Ahp3
 rintro W ⟨C,RM,Ahp0,Ahp1,Ahp2,Ahp3⟩
 refine (add_e (RM.part (by omega) (by omega)) Ahp1 Ahp0 (fun e=>by omega) (fun e=>by omega)).mono ?_
 rintro e W ⟨rfl,hc,hv⟩
 replace C:=C.into hc
 replace RM:=hc.room RM
 replace Ahp0:=Ahp0.keep hc oa
 replace Ahp1:=Ahp1.keep hc oa
 replace Ahp2:=Ahp2.keep hc oa
 replace Ahp3:=Ahp3.keep hc oa
 clear hc
 obtain ⟨f1,qf1⟩:∃ g,g = Y + X:=⟨_,rfl⟩
 rw [←qf1] at hv
 replace qf1:=hd qf1
 have E1:=hv
 clear hv
 go_wp2_with fail
 go_still_tail 9,(by kernel_rfl)
 go_wp2_with fail
 refine cG (fun W=>Chg (Rg bv ov 20) w W∧Room W bv ov 20∧Elt W bp op X∧Elt W bp (op + 5) Y∧Elt W bp (op + 10) Z∧Elt W bp (op + 15) T∧Elt W bv ov f1) ⟨C.drew,RM.drew,Ahp0.drew,Ahp1.drew,Ahp2.drew,Ahp3.drew,E1.drew⟩ ?_
 clear C RM Ahp0 Ahp1 Ahp2 Ahp3 E1
 rintro W ⟨C,RM,Ahp0,Ahp1,Ahp2,Ahp3,E1⟩
 refine (sub_e (RM.part (by omega) (by omega)) Ahp1 Ahp0 (fun e=>by omega) (fun e=>by omega)).mono ?_
 rintro e W ⟨rfl,hc,hv⟩
 replace C:=C.into hc
 replace RM:=hc.room RM
 replace Ahp0:=Ahp0.keep hc oa
 replace Ahp1:=Ahp1.keep hc oa
 replace Ahp2:=Ahp2.keep hc oa
 replace Ahp3:=Ahp3.keep hc oa
 replace E1:=E1.keep hc oa
 clear hc
 obtain ⟨f2,qf2⟩:∃ g,g = Y - X:=⟨_,rfl⟩
 rw [←qf2] at hv
 replace qf2:=hd qf2
 have E2:=hv
 clear hv
 go_wp2_with fail
 go_still_tail 6,(by kernel_rfl)
 go_wp2_with fail
 refine cG (fun W=>Chg (Rg bv ov 20) w W∧Room W bv ov 20∧Elt W bp op X∧Elt W bp (op + 5) Y∧Elt W bp (op + 10) Z∧Elt W bp (op + 15) T∧Elt W bv ov f1∧Elt W bv (ov + 5) f2) ⟨C.drew,RM.drew,Ahp0.drew,Ahp1.drew,Ahp2.drew,Ahp3.drew,E1.drew,E2.drew⟩ ?_
 clear C RM Ahp0 Ahp1 Ahp2 Ahp3 E1 E2
 rintro W ⟨C,RM,Ahp0,Ahp1,Ahp2,Ahp3,E1,E2⟩
 refine (set_e (RM.part (by omega) (by omega)) Ahp2).mono ?_
 rintro e W ⟨rfl,hc,hv⟩
 replace C:=C.into hc
 replace RM:=hc.room RM
 replace Ahp0:=Ahp0.keep hc oa
 replace Ahp1:=Ahp1.keep hc oa
 replace Ahp2:=Ahp2.keep hc oa
 replace Ahp3:=Ahp3.keep hc oa
 replace E1:=E1.keep hc oa
 replace E2:=E2.keep hc oa
 clear hc
 have E3:=hv
 clear hv
 go_wp2_with fail
 refine region_mix [(0,true),(1,true),(2,true),(3,true),(4,true),(5,true),(6,false),(7,false)] (by kernel_rfl) (by kernel_rfl) ?_
 simp only [pick,List.map_cons,List.map_nil,List.getD_cons_zero,List.getD_cons_succ]
 repeat (refine wpMix_blind' (fun ne K hK=>?_);go_simp;refine hK _ ?_;clear hK K ne;simp only [Act.put,iA,iB,iC])
 refine wpMix_world (fun K hK=>?_)
 go_wp2_with fail
 go_wp2_with fail
 refine cG (fun W=>Chg (Rg bv ov 20) w W∧Room W bv ov 20∧Elt W bp op X∧Elt W bp (op + 5) Y∧Elt W bp (op + 10) Z∧Elt W bp (op + 15) T∧Elt W bv ov f1∧Elt W bv (ov + 5) f2∧Elt W bv (ov + 10) Z) ⟨C.drew,RM.drew,Ahp0.drew,Ahp1.drew,Ahp2.drew,Ahp3.drew,E1.drew,E2.drew,E3.drew⟩ ?_
 clear C RM Ahp0 Ahp1 Ahp2 Ahp3 E1 E2 E3
 rintro W ⟨C,RM,Ahp0,Ahp1,Ahp2,Ahp3,E1,E2,E3⟩
 refine (d2_e _).mono ?_
 rintro e W ⟨n1,ln1,rfl,hb,hv⟩
 have zn1:w.heap.size ≤ n1:=Nat.le_trans C.size ln1
 have y4:bv < n1:=Nat.lt_of_lt_of_le (RM.lt (by decide)) ln1
 have y5:bp < n1:=Nat.lt_of_lt_of_le (Ahp0.lt) ln1
 replace C:=C.trans (Chg.of_below hb)
 replace RM:=RM.later hb
 replace Ahp0:=Ahp0.keep (Chg.of_below (R:=R0) hb) (fun _ _ h=>h)
 replace Ahp1:=Ahp1.keep (Chg.of_below (R:=R0) hb) (fun _ _ h=>h)
 replace Ahp2:=Ahp2.keep (Chg.of_below (R:=R0) hb) (fun _ _ h=>h)
 replace Ahp3:=Ahp3.keep (Chg.of_below (R:=R0) hb) (fun _ _ h=>h)
 replace E1:=E1.keep (Chg.of_below (R:=R0) hb) (fun _ _ h=>h)
 replace E2:=E2.keep (Chg.of_below (R:=R0) hb) (fun _ _ h=>h)
 replace E3:=E3.keep (Chg.of_below (R:=R0) hb) (fun _ _ h=>h)
 clear hb
 have E6:=hv
 clear hv
 clear ln1
 go_wp2_with fail
 repeat (refine wpMix_blind' (fun ne K hK=>?_);go_simp;refine hK _ ?_;clear hK K ne;simp only [Act.put,iA,iB,iC])
 refine wpMix_world (fun K hK=>?_)
 go_wp2_with fail
 go_wp2_with fail
 refine (mul_e (RM.part (by omega) (by omega)) Ahp3 E6).mono ?_
 rintro e W ⟨rfl,hc,hv⟩
 replace C:=C.into hc
 replace RM:=hc.room RM
 replace Ahp0:=Ahp0.keep hc oa
 replace Ahp1:=Ahp1.keep hc oa
 replace Ahp2:=Ahp2.keep hc oa
 replace Ahp3:=Ahp3.keep hc oa
 replace E1:=E1.keep hc oa
 replace E2:=E2.keep hc oa
 replace E3:=E3.keep hc oa
 replace E6:=E6.keep hc oa
 clear hc
 obtain ⟨f3,qf3⟩:∃ g,g = T * (2 * cd):=⟨_,rfl⟩
 rw [←qf3] at hv
 replace qf3:=hd qf3
 have E7:=hv
 clear hv
 go_wp2_with fail
 repeat (refine wpMix_blind' (fun ne K hK=>?_);go_simp;refine hK _ ?_;clear hK K ne;simp only [Act.put,iA,iB,iC])
 refine wpMix_nil ?_
 go_wp2_with fail
 go_ret
 obtain rfl:=qf1.out
 obtain rfl:=qf2.out
 obtain rfl:=qf3.out
 exact ⟨rfl,C,_,_,_,_,E1,E2,E3,E7,rhp.ca rfl⟩
theorem paOfP3_e {bv ov bp op:Nat} {p:Pt} {w:World} (RM:Room w bv ov 15) (hp:P3 w bp op p) (shp:bv ≠ bp∨ov + 15 ≤ op∨op + 20 ≤ ov) :
  Calls Tryz.prog 128 #[Ptr bv ov,Ptr bp op] w (fun e w'=>e = .returned (Ptr bv ov)∧Chg (Rg bv ov 15) w w'∧PA w' bv ov p):=by
 obtain ⟨X,Y,Z,T,Ahp0,Ahp1,Ahp2,Ahp3,rhp⟩:=hp
 have C:Chg (Rg bv ov 15) w w:=.refl _ _
 go_enter Tryz.func128,Tryz.ntmps128
 go_wp2_with fail
 go_still_tail 9,(by kernel_rfl)
 go_wp2_with fail
 refine cG (fun W=>Chg (Rg bv ov 15) w W∧Room W bv ov 15∧Elt W bp op X∧Elt W bp (op + 5) Y∧Elt W bp (op + 10) Z∧Elt W bp (op + 15) T) ⟨C.drew,RM.drew,Ahp0.drew,Ahp1.drew,Ahp2.drew,Ahp3.drew⟩ ?_
 clear C RM Ahp0 Ahp1 Ahp2 Ahp3
 rintro W ⟨C,RM,Ahp0,Ahp1,Ahp2,Ahp3⟩
 refine (add_e (RM.part (by omega) (by omega)) Ahp1 Ahp0 (fun e=>by omega) (fun e=>by omega)).mono ?_
 rintro e W ⟨rfl,hc,hv⟩
 replace C:=C.into hc
 replace RM:=hc.room RM
 replace Ahp0:=Ahp0.keep hc oa
 replace Ahp1:=Ahp1.keep hc oa
 replace Ahp2:=Ahp2.keep hc oa
 replace Ahp3:=Ahp3.keep hc oa
 clear hc
 obtain ⟨f1,qf1⟩:∃ g,g = Y + X:=⟨_,rfl⟩
 rw [←qf1] at hv
 replace qf1:=hd qf1
 have E1:=hv
 clear hv
 go_wp2_with fail
 go_still_tail 9,(by kernel_rfl)
 go_wp2_with fail
 refine cG (fun W=>Chg (Rg bv ov 15) w W∧Room W bv ov 15∧Elt W bp op X∧Elt W bp (op + 5) Y∧Elt W bp (op + 10) Z∧Elt W bp (op + 15) T∧Elt W bv ov f1) ⟨C.drew,RM.drew,Ahp0.drew,Ahp1.drew,Ahp2.drew,Ahp3.drew,E1.drew⟩ ?_
 clear C RM Ahp0 Ahp1 Ahp2 Ahp3 E1
 rintro W ⟨C,RM,Ahp0,Ahp1,Ahp2,Ahp3,E1⟩
 refine (sub_e (RM.part (by omega) (by omega)) Ahp1 Ahp0 (fun e=>by omega) (fun e=>by omega)).mono ?_
 rintro e W ⟨rfl,hc,hv⟩
 replace C:=C.into hc
 replace RM:=hc.room RM
 replace Ahp0:=Ahp0.keep hc oa
 replace Ahp1:=Ahp1.keep hc oa
 replace Ahp2:=Ahp2.keep hc oa
 replace Ahp3:=Ahp3.keep hc oa
 replace E1:=E1.keep hc oa
 clear hc
 obtain ⟨f2,qf2⟩:∃ g,g = Y - X:=⟨_,rfl⟩
 rw [←qf2] at hv
 replace qf2:=hd qf2
 have E2:=hv
 clear hv
 go_wp2_with fail
 refine region_mix [(0,true),(1,true),(2,true),(3,true),(4,true),(5,true),(6,false),(7,false)] (by kernel_rfl) (by kernel_rfl) ?_
 simp only [pick,List.map_cons,List.map_nil,List.getD_cons_zero,List.getD_cons_succ]
 repeat (refine wpMix_blind' (fun ne K hK=>?_);go_simp;refine hK _ ?_;clear hK K ne;simp only [Act.put,iA,iB,iC])
 refine wpMix_world (fun K hK=>?_)
 go_wp2_with fail
 go_wp2_with fail
 refine cG (fun W=>Chg (Rg bv ov 15) w W∧Room W bv ov 15∧Elt W bp op X∧Elt W bp (op + 5) Y∧Elt W bp (op + 10) Z∧Elt W bp (op + 15) T∧Elt W bv ov f1∧Elt W bv (ov + 5) f2) ⟨C.drew,RM.drew,Ahp0.drew,Ahp1.drew,Ahp2.drew,Ahp3.drew,E1.drew,E2.drew⟩ ?_
 clear C RM Ahp0 Ahp1 Ahp2 Ahp3 E1 E2
 rintro W ⟨C,RM,Ahp0,Ahp1,Ahp2,Ahp3,E1,E2⟩
 refine (d2_e _).mono ?_
 rintro e W ⟨n1,ln1,rfl,hb,hv⟩
 have zn1:w.heap.size ≤ n1:=Nat.le_trans C.size ln1
 have y3:bv < n1:=Nat.lt_of_lt_of_le (RM.lt (by decide)) ln1
 have y4:bp < n1:=Nat.lt_of_lt_of_le (Ahp0.lt) ln1
 replace C:=C.trans (Chg.of_below hb)
 replace RM:=RM.later hb
 replace Ahp0:=Ahp0.keep (Chg.of_below (R:=R0) hb) (fun _ _ h=>h)
 replace Ahp1:=Ahp1.keep (Chg.of_below (R:=R0) hb) (fun _ _ h=>h)
 replace Ahp2:=Ahp2.keep (Chg.of_below (R:=R0) hb) (fun _ _ h=>h)
 replace Ahp3:=Ahp3.keep (Chg.of_below (R:=R0) hb) (fun _ _ h=>h)
 replace E1:=E1.keep (Chg.of_below (R:=R0) hb) (fun _ _ h=>h)
 replace E2:=E2.keep (Chg.of_below (R:=R0) hb) (fun _ _ h=>h)
 clear hb
 have E5:=hv
 clear hv
 clear ln1
 go_wp2_with fail
 repeat (refine wpMix_blind' (fun ne K hK=>?_);go_simp;refine hK _ ?_;clear hK K ne;simp only [Act.put,iA,iB,iC])
 refine wpMix_world (fun K hK=>?_)
 go_wp2_with fail
 go_wp2_with fail
 refine (mul_e (RM.part (by omega) (by omega)) Ahp3 E5).mono ?_
 rintro e W ⟨rfl,hc,hv⟩
 replace C:=C.into hc
 replace RM:=hc.room RM
 replace Ahp0:=Ahp0.keep hc oa
 replace Ahp1:=Ahp1.keep hc oa
 replace Ahp2:=Ahp2.keep hc oa
 replace Ahp3:=Ahp3.keep hc oa
 replace E1:=E1.keep hc oa
 replace E2:=E2.keep hc oa
 replace E5:=E5.keep hc oa
 clear hc
 obtain ⟨f3,qf3⟩:∃ g,g = T * (2 * cd):=⟨_,rfl⟩
 rw [←qf3] at hv
 replace qf3:=hd qf3
 have E6:=hv
 clear hv
 go_wp2_with fail
 repeat (refine wpMix_blind' (fun ne K hK=>?_);go_simp;refine hK _ ?_;clear hK K ne;simp only [Act.put,iA,iB,iC])
 refine wpMix_nil ?_
 go_wp2_with fail
 obtain ⟨n2,ln2⟩:∃ n,W.heap.size = n:=⟨_,rfl⟩
 rw [ln2]
 have hb:=aB [z73] W
 have zn2:w.heap.size ≤ n2:=ln2 ▸ C.size
 have y7:bv < n2:=ln2 ▸ RM.lt (by decide)
 have y8:bp < n2:=ln2 ▸ Ahp0.lt
 have y9:n1 < n2:=ln2 ▸ E5.lt
 replace C:=C.trans (Chg.of_below hb)
 replace RM:=RM.later hb
 replace Ahp0:=Ahp0.keep (Chg.of_below (R:=R0) hb) (fun _ _ h=>h)
 replace Ahp1:=Ahp1.keep (Chg.of_below (R:=R0) hb) (fun _ _ h=>h)
 replace Ahp2:=Ahp2.keep (Chg.of_below (R:=R0) hb) (fun _ _ h=>h)
 replace Ahp3:=Ahp3.keep (Chg.of_below (R:=R0) hb) (fun _ _ h=>h)
 replace E1:=E1.keep (Chg.of_below (R:=R0) hb) (fun _ _ h=>h)
 replace E2:=E2.keep (Chg.of_below (R:=R0) hb) (fun _ _ h=>h)
 replace E5:=E5.keep (Chg.of_below (R:=R0) hb) (fun _ _ h=>h)
 replace E6:=E6.keep (Chg.of_below (R:=R0) hb) (fun _ _ h=>h)
 have K2_0:=(aH [z73] W 0 (List.replicate 5 (.int .u64 0)) 73 rfl).room (n:=5) rfl
 rw [ln2] at K2_0
 refine cG (fun W=>Chg (Rg bv ov 15) w W∧Room W bv ov 15∧Elt W bp op X∧Elt W bp (op + 5) Y∧Elt W bp (op + 10) Z∧Elt W bp (op + 15) T∧Elt W bv ov f1∧Elt W bv (ov + 5) f2∧Elt W n1 0 (2 * cd)∧Elt W bv (ov + 10) f3∧Room W n2 0 5) ⟨C,RM,Ahp0,Ahp1,Ahp2,Ahp3,E1,E2,E5,E6,K2_0⟩ ?_
 clear C RM Ahp0 Ahp1 Ahp2 Ahp3 E1 E2 E5 E6 K2_0 hb ln2
 rintro W ⟨C,RM,Ahp0,Ahp1,Ahp2,Ahp3,E1,E2,E5,E6,K2_0⟩
 refine (inv_e K2_0 Ahp2).mono ?_
 rintro e W ⟨rfl,hc,hv⟩
 replace C:=C.loc hc (by omega)
 replace RM:=hc.room RM
 replace Ahp0:=Ahp0.keep hc oa
 replace Ahp1:=Ahp1.keep hc oa
 replace Ahp2:=Ahp2.keep hc oa
 replace Ahp3:=Ahp3.keep hc oa
 replace E1:=E1.keep hc oa
 replace E2:=E2.keep hc oa
 replace E5:=E5.keep hc oa
 replace E6:=E6.keep hc oa
 replace K2_0:=hc.room K2_0
 clear hc
 obtain ⟨f4,qf4⟩:∃ g,g = inv Z:=⟨_,rfl⟩
 rw [←qf4] at hv
 replace qf4:=hd qf4
 have E10:=hv
 clear hv
 go_wp2_with fail
 go_still_tail 6,(by kernel_rfl)
 go_wp2_with fail
 refine cG (fun W=>Chg (Rg bv ov 15) w W∧Room W bv ov 15∧Elt W bp op X∧Elt W bp (op + 5) Y∧Elt W bp (op + 10) Z∧Elt W bp (op + 15) T∧Elt W bv ov f1∧Elt W bv (ov + 5) f2∧Elt W n1 0 (2 * cd)∧Elt W bv (ov + 10) f3∧Room W n2 0 5∧Elt W n2 0 f4) ⟨C.drew,RM.drew,Ahp0.drew,Ahp1.drew,Ahp2.drew,Ahp3.drew,E1.drew,E2.drew,E5.drew,E6.drew,K2_0.drew,E10.drew⟩ ?_
 clear C RM Ahp0 Ahp1 Ahp2 Ahp3 E1 E2 E5 E6 K2_0 E10
 rintro W ⟨C,RM,Ahp0,Ahp1,Ahp2,Ahp3,E1,E2,E5,E6,K2_0,E10⟩
 refine (mul_e (RM.part (by omega) (by omega)) E1 E10).mono ?_
 rintro e W ⟨rfl,hc,hv⟩
 replace C:=C.into hc
 replace RM:=hc.room RM
 replace Ahp0:=Ahp0.keep hc oa
 replace Ahp1:=Ahp1.keep hc oa
 replace Ahp2:=Ahp2.keep hc oa
 replace Ahp3:=Ahp3.keep hc oa
 clear E1
 replace E2:=E2.keep hc oa
 replace E5:=E5.keep hc oa
 replace E6:=E6.keep hc oa
 replace K2_0:=hc.room K2_0
 replace E10:=E10.keep hc oa
 clear hc
 obtain ⟨f5,qf5⟩:∃ g,g = f1 * f4:=⟨_,rfl⟩
 rw [←qf5] at hv
 replace qf5:=hd qf5
 have E11:=hv
 clear hv
 go_wp2_with fail
 go_still_tail 6,(by kernel_rfl)
 go_wp2_with fail
 refine cG (fun W=>Chg (Rg bv ov 15) w W∧Room W bv ov 15∧Elt W bp op X∧Elt W bp (op + 5) Y∧Elt W bp (op + 10) Z∧Elt W bp (op + 15) T∧Elt W bv (ov + 5) f2∧Elt W n1 0 (2 * cd)∧Elt W bv (ov + 10) f3∧Room W n2 0 5∧Elt W n2 0 f4∧Elt W bv ov f5) ⟨C.drew,RM.drew,Ahp0.drew,Ahp1.drew,Ahp2.drew,Ahp3.drew,E2.drew,E5.drew,E6.drew,K2_0.drew,E10.drew,E11.drew⟩ ?_
 clear C RM Ahp0 Ahp1 Ahp2 Ahp3 E2 E5 E6 K2_0 E10 E11
 rintro W ⟨C,RM,Ahp0,Ahp1,Ahp2,Ahp3,E2,E5,E6,K2_0,E10,E11⟩
 refine (mul_e (RM.part (by omega) (by omega)) E2 E10).mono ?_
 rintro e W ⟨rfl,hc,hv⟩
 replace C:=C.into hc
 replace RM:=hc.room RM
 replace Ahp0:=Ahp0.keep hc oa
 replace Ahp1:=Ahp1.keep hc oa
 replace Ahp2:=Ahp2.keep hc oa
 replace Ahp3:=Ahp3.keep hc oa
 clear E2
 replace E5:=E5.keep hc oa
 replace E6:=E6.keep hc oa
 replace K2_0:=hc.room K2_0
 replace E10:=E10.keep hc oa
 replace E11:=E11.keep hc oa
 clear hc
 obtain ⟨f6,qf6⟩:∃ g,g = f2 * f4:=⟨_,rfl⟩
 rw [←qf6] at hv
 replace qf6:=hd qf6
 have E12:=hv
 clear hv
 go_wp2_with fail
 go_still_tail 6,(by kernel_rfl)
 go_wp2_with fail
 refine cG (fun W=>Chg (Rg bv ov 15) w W∧Room W bv ov 15∧Elt W bp op X∧Elt W bp (op + 5) Y∧Elt W bp (op + 10) Z∧Elt W bp (op + 15) T∧Elt W n1 0 (2 * cd)∧Elt W bv (ov + 10) f3∧Room W n2 0 5∧Elt W n2 0 f4∧Elt W bv ov f5∧Elt W bv (ov + 5) f6) ⟨C.drew,RM.drew,Ahp0.drew,Ahp1.drew,Ahp2.drew,Ahp3.drew,E5.drew,E6.drew,K2_0.drew,E10.drew,E11.drew,E12.drew⟩ ?_
 clear C RM Ahp0 Ahp1 Ahp2 Ahp3 E5 E6 K2_0 E10 E11 E12
 rintro W ⟨C,RM,Ahp0,Ahp1,Ahp2,Ahp3,E5,E6,K2_0,E10,E11,E12⟩
 refine (mul_e (RM.part (by omega) (by omega)) E6 E10).mono ?_
 rintro e W ⟨rfl,hc,hv⟩
 replace C:=C.into hc
 replace RM:=hc.room RM
 replace Ahp0:=Ahp0.keep hc oa
 replace Ahp1:=Ahp1.keep hc oa
 replace Ahp2:=Ahp2.keep hc oa
 replace Ahp3:=Ahp3.keep hc oa
 replace E5:=E5.keep hc oa
 clear E6
 replace K2_0:=hc.room K2_0
 replace E10:=E10.keep hc oa
 replace E11:=E11.keep hc oa
 replace E12:=E12.keep hc oa
 clear hc
 obtain ⟨f7,qf7⟩:∃ g,g = f3 * f4:=⟨_,rfl⟩
 rw [←qf7] at hv
 replace qf7:=hd qf7
 have E13:=hv
 clear hv
 go_wp2_with fail
 go_ret
 obtain rfl:=qf1.out
 obtain rfl:=qf2.out
 obtain rfl:=qf3.out
 obtain rfl:=qf4.out
 obtain rfl:=qf5.out
 obtain rfl:=qf6.out
 obtain rfl:=qf7.out
 exact ⟨rfl,C,_,_,_,E11,E12,E13,rhp.af rfl⟩
end Go.Proofs.Ed
