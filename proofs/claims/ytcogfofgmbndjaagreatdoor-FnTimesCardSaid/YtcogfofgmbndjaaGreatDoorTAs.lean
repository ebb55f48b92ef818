/- A part of the proof of the tied card of FnTimes: Pt2a. -/
import Derived.Test.YtcogfofgmbndjaaGreatDoorProg
import Derived.WalkKit
import Derived.WalkSpells
import Derived.WalkLawsBesides
import Derived.Outline
import Derived.StillTailTactics
import Derived.Test.YtcogfofgmbndjaaGreatDoorTAr
set_option maxRecDepth 100000
set_option maxHeartbeats 40000000
namespace Go.Proofs.Ed
open Go.RowKit
theorem ptAdd_e {bv ov bp op bq oq:Nat} {p:Pt} {q:Pt} {w:World} (RM:Room w bv ov 20) (hp:P3 w bp op p) (shp:bv ≠ bp∨ov + 20 ≤ op∨op + 20 ≤ ov) (hq:PC w bq oq q) (shq:bv ≠ bq∨ov + 20 ≤ oq∨oq + 20 ≤ ov) :
  Calls Tryz.prog 50 #[Ptr bv ov,Ptr bp op,Ptr bq oq] w (fun e w'=>e = .returned (Ptr bv ov)∧Chg (Rg bv ov 20) w w'∧P1 w' bv ov (p + q)):=by
 obtain ⟨X,Y,Z,T,Ahp0,Ahp1,Ahp2,Ahp3,rhp⟩:=hp
 obtain ⟨A,B,D,U,Ahq0,Ahq1,Ahq2,Ahq3,rhq⟩:=hq
 have C:Chg (Rg bv ov 20) w w:=.refl _ _
 go_enter Tryz.func50,Tryz.ntmps50
 go_wp2_with fail
 go_still_tail 6,(by kernel_rfl)
 go_wp2_with fail
 obtain ⟨n1,ln1⟩:∃ n,w.heap.size = n:=⟨_,rfl⟩
 rw [ln1]
 have hb:=aB [z73,z73,z73,z73,z73,z73] w
 have zn1:w.heap.size ≤ n1:=ln1 ▸ C.size
 have y1:bv < n1:=ln1 ▸ RM.lt (by decide)
 have y2:bp < n1:=ln1 ▸ Ahp0.lt
 have y3:bq < n1:=ln1 ▸ Ahq0.lt
 replace C:=C.trans (Chg.of_below hb)
 replace RM:=RM.later hb
 replace Ahp0:=Ahp0.keep (Chg.of_below (R:=R0) hb) (fun _ _ h=>h)
 replace Ahp1:=Ahp1.keep (Chg.of_below (R:=R0) hb) (fun _ _ h=>h)
 replace Ahp2:=Ahp2.keep (Chg.of_below (R:=R0) hb) (fun _ _ h=>h)
 replace Ahp3:=Ahp3.keep (Chg.of_below (R:=R0) hb) (fun _ _ h=>h)
 replace Ahq0:=Ahq0.keep (Chg.of_below (R:=R0) hb) (fun _ _ h=>h)
 replace Ahq1:=Ahq1.keep (Chg.of_below (R:=R0) hb) (fun _ _ h=>h)
 replace Ahq2:=Ahq2.keep (Chg.of_below (R:=R0) hb) (fun _ _ h=>h)
 replace Ahq3:=Ahq3.keep (Chg.of_below (R:=R0) hb) (fun _ _ h=>h)
 have K1_0:=(aH [z73,z73,z73,z73,z73,z73] w 0 (List.replicate 5 (.int .u64 0)) 73 rfl).room (n:=5) rfl
 rw [ln1] at K1_0
 have K1_1:=(aH [z73,z73,z73,z73,z73,z73] w 1 (List.replicate 5 (.int .u64 0)) 73 rfl).room (n:=5) rfl
 rw [ln1] at K1_1
 have K1_2:=(aH [z73,z73,z73,z73,z73,z73] w 2 (List.replicate 5 (.int .u64 0)) 73 rfl).room (n:=5) rfl
 rw [ln1] at K1_2
 have K1_3:=(aH [z73,z73,z73,z73,z73,z73] w 3 (List.replicate 5 (.int .u64 0)) 73 rfl).room (n:=5) rfl
 rw [ln1] at K1_3
 have K1_4:=(aH [z73,z73,z73,z73,z73,z73] w 4 (List.replicate 5 (.int .u64 0)) 73 rfl).room (n:=5) rfl
 rw [ln1] at K1_4
 have K1_5:=(aH [z73,z73,z73,z73,z73,z73] w 5 (List.replicate 5 (.int .u64 0)) 73 rfl).room (n:=5) rfl
 rw [ln1] at K1_5
 refine cG (fun W=>Chg (Rg bv ov 20) w W∧Room W bv ov 20∧Elt W bp op X∧Elt W bp (op + 5) Y∧Elt W bp (op + 10) Z∧Elt W bp (op + 15) T∧Elt W bq oq A∧Elt W bq (oq + 5) B∧Elt W bq (oq + 10) D∧Elt W bq (oq + 15) U∧Room W n1 0 5∧Room W (n1 + 1) 0 5∧Room W (n1 + 2) 0 5∧Room W (n1 + 3) 0 5∧Room W (n1 + 4) 0 5∧Room W (n1 + 5) 0 5) ⟨C.drew,RM.drew,Ahp0.drew,Ahp1.drew,Ahp2.drew,Ahp3.drew,Ahq0.drew,Ahq1.drew,Ahq2.drew,Ahq3.drew,K1_0.drew,K1_1.drew,K1_2.drew,K1_3.drew,K1_4.drew,K1_5.drew⟩ ?_
 clear C RM Ahp0 Ahp1 Ahp2 Ahp3 Ahq0 Ahq1 Ahq2 Ahq3 K1_0 K1_1 K1_2 K1_3 K1_4 K1_5 hb ln1
 rintro W ⟨C,RM,Ahp0,Ahp1,Ahp2,Ahp3,Ahq0,Ahq1,Ahq2,Ahq3,K1_0,K1_1,K1_2,K1_3,K1_4,K1_5⟩
 refine (add_e K1_0 Ahp1 Ahp0 (fun e=>by omega) (fun e=>by omega)).mono ?_
 rintro e W ⟨rfl,hc,hv⟩
 replace C:=C.loc hc (by omega)
 replace RM:=hc.room RM
 replace Ahp0:=Ahp0.keep hc oa
 replace Ahp1:=Ahp1.keep hc oa
 replace Ahp2:=Ahp2.keep hc oa
 replace Ahp3:=Ahp3.keep hc oa
 replace Ahq0:=Ahq0.keep hc oa
 replace Ahq1:=Ahq1.keep hc oa
 replace Ahq2:=Ahq2.keep hc oa
 replace Ahq3:=Ahq3.keep hc oa
 replace K1_0:=hc.room K1_0
 replace K1_1:=hc.room K1_1
 replace K1_2:=hc.room K1_2
 replace K1_3:=hc.room K1_3
 replace K1_4:=hc.room K1_4
 replace K1_5:=hc.room K1_5
 clear hc
 obtain ⟨f1,qf1⟩:∃ g,g = Y + X:=⟨_,rfl⟩
 rw [←qf1] at hv
 replace qf1:=hd qf1
 have E4:=hv
 clear hv
 go_wp2_with fail
 go_still_tail 6,(by kernel_rfl)
 go_wp2_with fail
 refine cG (fun W=>Chg (Rg bv ov 20) w W∧Room W bv ov 20∧Elt W bp op X∧Elt W bp (op + 5) Y∧Elt W bp (op + 10) Z∧Elt W bp (op + 15) T∧Elt W bq oq A∧Elt W bq (oq + 5) B∧Elt W bq (oq + 10) D∧Elt W bq (oq + 15) U∧Room W n1 0 5∧Room W (n1 + 1) 0 5∧Room W (n1 + 2) 0 5∧Room W (n1 + 3) 0 5∧Room W (n1 + 4) 0 5∧Room W (n1 + 5) 0 5∧Elt W n1 0 f1) ⟨C.drew,RM.drew,Ahp0.drew,Ahp1.drew,Ahp2.drew,Ahp3.drew,Ahq0.drew,Ahq1.drew,Ahq2.drew,Ahq3.drew,K1_0.drew,K1_1.drew,K1_2.drew,K1_3.drew,K1_4.drew,K1_5.drew,E4.drew⟩ ?_
 clear C RM Ahp0 Ahp1 Ahp2 Ahp3 Ahq0 Ahq1 Ahq2 Ahq3 K1_0 K1_1 K1_2 K1_3 K1_4 K1_5 E4
 rintro W ⟨C,RM,Ahp0,Ahp1,Ahp2,Ahp3,Ahq0,Ahq1,Ahq2,Ahq3,K1_0,K1_1,K1_2,K1_3,K1_4,K1_5,E4⟩
 refine (sub_e K1_1 Ahp1 Ahp0 (fun e=>by omega) (fun e=>by omega)).mono ?_
 rintro e W ⟨rfl,hc,hv⟩
 replace C:=C.loc hc (by omega)
 replace RM:=hc.room RM
 replace Ahp0:=Ahp0.keep hc oa
 replace Ahp1:=Ahp1.keep hc oa
 replace Ahp2:=Ahp2.keep hc oa
 replace Ahp3:=Ahp3.keep hc oa
 replace Ahq0:=Ahq0.keep hc oa
 replace Ahq1:=Ahq1.keep hc oa
 replace Ahq2:=Ahq2.keep hc oa
 replace Ahq3:=Ahq3.keep hc oa
 replace K1_0:=hc.room K1_0
 replace K1_1:=hc.room K1_1
 replace K1_2:=hc.room K1_2
 replace K1_3:=hc.room K1_3
 replace K1_4:=hc.room K1_4
 replace K1_5:=hc.room K1_5
 replace E4:=E4.keep hc oa
 clear hc
 obtain ⟨f2,qf2⟩:∃ g,g = Y - X:=⟨_,rfl⟩
 rw [←qf2] at hv
 replace qf2:=hd qf2
 have E5:=hv
 clear hv
 go_wp2_with fail
 refine (mul_e K1_2 E4 Ahq0).mono ?_
 rintro e W ⟨rfl,hc,hv⟩
 replace C:=C.loc hc (by omega)
 replace RM:=hc.room RM
 replace Ahp0:=Ahp0.keep hc oa
 replace Ahp1:=Ahp1.keep hc oa
 replace Ahp2:=Ahp2.keep hc oa
 replace Ahp3:=Ahp3.keep hc oa
 replace Ahq0:=Ahq0.keep hc oa
 replace Ahq1:=Ahq1.keep hc oa
 replace Ahq2:=Ahq2.keep hc oa
 replace Ahq3:=Ahq3.keep hc oa
 replace K1_0:=hc.room K1_0
 replace K1_1:=hc.room K1_1
 replace K1_2:=hc.room K1_2
 replace K1_3:=hc.room K1_3
 replace K1_4:=hc.room K1_4
 replace K1_5:=hc.room K1_5
 replace E4:=E4.keep hc oa
 replace E5:=E5.keep hc oa
 clear hc
 obtain ⟨f3,qf3⟩:∃ g,g = f1 * A:=⟨_,rfl⟩
 rw [←qf3] at hv
 replace qf3:=hd qf3
 have E6:=hv
 clear hv
 go_wp2_with fail
 refine (mul_e K1_3 E5 Ahq1).mono ?_
 rintro e W ⟨rfl,hc,hv⟩
 replace C:=C.loc hc (by omega)
 replace RM:=hc.room RM
 replace Ahp0:=Ahp0.keep hc oa
 replace Ahp1:=Ahp1.keep hc oa
 replace Ahp2:=Ahp2.keep hc oa
 replace Ahp3:=Ahp3.keep hc oa
 replace Ahq0:=Ahq0.keep hc oa
 replace Ahq1:=Ahq1.keep hc oa
 replace Ahq2:=Ahq2.keep hc oa
 replace Ahq3:=Ahq3.keep hc oa
 replace K1_0:=hc.room K1_0
 replace K1_1:=hc.room K1_1
 replace K1_2:=hc.room K1_2
 replace K1_3:=hc.room K1_3
 replace K1_4:=hc.room K1_4
 replace K1_5:=hc.room K1_5
 replace E4:=E4.keep hc oa
 replace E5:=E5.keep hc oa
 replace E6:=E6.keep hc oa
 clear hc
 obtain ⟨f4,qf4⟩:∃ g,g = f2 * B:=⟨_,rfl⟩
 rw [←qf4] at hv
 replace qf4:=hd qf4
 have E7:=hv
 clear hv
 go_wp2_with fail
 go_still_tail 6,(by kernel_rfl)
 go_wp2_with fail
 refine cG (fun W=>Chg (Rg bv ov 20) w W∧Room W bv ov 20∧Elt W bp op X∧Elt W bp (op + 5) Y∧Elt W bp (op + 10) Z∧Elt W bp (op + 15) T∧Elt W bq oq A∧Elt W bq (oq + 5) B∧Elt W bq (oq + 10) D∧Elt W bq (oq + 15) U∧Room W n1 0 5∧Room W (n1 + 1) 0 5∧Room W (n1 + 2) 0 5∧Room W (n1 + 3) 0 5∧Room W (n1 + 4) 0 5∧Room W (n1 + 5) 0 5∧Elt W n1 0 f1∧Elt W (n1 + 1) 0 f2∧Elt W (n1 + 2) 0 f3∧Elt W (n1 + 3) 0 f4) ⟨C.drew,RM.drew,Ahp0.drew,Ahp1.drew,Ahp2.drew,Ahp3.drew,Ahq0.drew,Ahq1.drew,Ahq2.drew,Ahq3.drew,K1_0.drew,K1_1.drew,K1_2.drew,K1_3.drew,K1_4.drew,K1_5.drew,E4.drew,E5.drew,E6.drew,E7.drew⟩ ?_
 clear C RM Ahp0 Ahp1 Ahp2 Ahp3 Ahq0 Ahq1 Ahq2 Ahq3 K1_0 K1_1 K1_2 K1_3 K1_4 K1_5 E4 E5 E6 E7
 rintro W ⟨C,RM,Ahp0,Ahp1,Ahp2,Ahp3,Ahq0,Ahq1,Ahq2,Ahq3,K1_0,K1_1,K1_2,K1_3,K1_4,K1_5,E4,E5,E6,E7⟩
 refine (mul_e K1_4 Ahp3 Ahq3).mono ?_
 rintro e W ⟨rfl,hc,hv⟩
 replace C:=C.loc hc (by omega)
 replace RM:=hc.room RM
 replace Ahp0:=Ahp0.keep hc oa
 replace Ahp1:=Ahp1.keep hc oa
 replace Ahp2:=Ahp2.keep hc oa
 replace Ahp3:=Ahp3.keep hc oa
 replace Ahq0:=Ahq0.keep hc oa
 replace Ahq1:=Ahq1.keep hc oa
 replace Ahq2:=Ahq2.keep hc oa
 replace Ahq3:=Ahq3.keep hc oa
 replace K1_0:=hc.room K1_0
 replace K1_1:=hc.room K1_1
 replace K1_2:=hc.room K1_2
 replace K1_3:=hc.room K1_3
 replace K1_4:=hc.room K1_4
 replace K1_5:=hc.room K1_5
 replace E4:=E4.keep hc oa
 replace E5:=E5.keep hc oa
 replace E6:=E6.keep hc oa
 replace E7:=E7.keep hc oa
 clear hc
 obtain ⟨f5,qf5⟩:∃ g,g = T * U:=⟨_,rfl⟩
 rw [←qf5] at hv
 replace qf5:=hd qf5
 have E8:=hv
 clear hv
 go_wp2_with fail
 go_still_tail 6,(by kernel_rfl)
 go_wp2_with fail
 refine cG (fun W=>Chg (Rg bv ov 20) w W∧Room W bv ov 20∧Elt W bp op X∧Elt W bp (op + 5) Y∧Elt W bp (op + 10) Z∧Elt W bp (op + 15) T∧Elt W bq oq A∧Elt W bq (oq + 5) B∧Elt W bq (oq + 10) D∧Elt W bq (oq + 15) U∧Room W n1 0 5∧Room W (n1 + 1) 0 5∧Room W (n1 + 2) 0 5∧Room W (n1 + 3) 0 5∧Room W (n1 + 4) 0 5∧Room W (n1 + 5) 0 5∧Elt W n1 0 f1∧Elt W (n1 + 1) 0 f2∧Elt W (n1 + 2) 0 f3∧Elt W (n1 + 3) 0 f4∧Elt W (n1 + 4) 0 f5) ⟨C.drew,RM.drew,Ahp0.drew,Ahp1.drew,Ahp2.drew,Ahp3.drew,Ahq0.drew,Ahq1.drew,Ahq2.drew,Ahq3.drew,K1_0.drew,K1_1.drew,K1_2.drew,K1_3.drew,K1_4.drew,K1_5.drew,E4.drew,E5.drew,E6.drew,E7.drew,E8.drew⟩ ?_
 clear C RM Ahp0 Ahp1 Ahp2 Ahp3 Ahq0 Ahq1 Ahq2 Ahq3 K1_0 K1_1 K1_2 K1_3 K1_4 K1_5 E4 E5 E6 E7 E8
 rintro W ⟨C,RM,Ahp0,Ahp1,Ahp2,Ahp3,Ahq0,Ahq1,Ahq2,Ahq3,K1_0,K1_1,K1_2,K1_3,K1_4,K1_5,E4,E5,E6,E7,E8⟩
 refine (mul_e K1_5 Ahp2 Ahq2).mono ?_
 rintro e W ⟨rfl,hc,hv⟩
 replace C:=C.loc hc (by omega)
 replace RM:=hc.room RM
 replace Ahp0:=Ahp0.keep hc oa
 replace Ahp1:=Ahp1.keep hc oa
 replace Ahp2:=Ahp2.keep hc oa
 replace Ahp3:=Ahp3.keep hc oa
 replace Ahq0:=Ahq0.keep hc oa
 replace Ahq1:=Ahq1.keep hc oa
 replace Ahq2:=Ahq2.keep hc oa
 replace Ahq3:=Ahq3.keep hc oa
 replace K1_0:=hc.room K1_0
 replace K1_1:=hc.room K1_1
 replace K1_2:=hc.room K1_2
 replace K1_3:=hc.room K1_3
 replace K1_4:=hc.room K1_4
 replace K1_5:=hc.room K1_5
 replace E4:=E4.keep hc oa
 replace E5:=E5.keep hc oa
 replace E6:=E6.keep hc oa
 replace E7:=E7.keep hc oa
 replace E8:=E8.keep hc oa
 clear hc
 obtain ⟨f6,qf6⟩:∃ g,g = Z * D:=⟨_,rfl⟩
 rw [←qf6] at hv
 replace qf6:=hd qf6
 have E9:=hv
 clear hv
 go_wp2_with fail
 refine (add_e K1_5 E9 E9 (fun e=>by omega) (fun e=>by omega)).mono ?_
 rintro e W ⟨rfl,hc,hv⟩
 replace C:=C.loc hc (by omega)
 replace RM:=hc.room RM
 replace Ahp0:=Ahp0.keep hc oa
 replace Ahp1:=Ahp1.keep hc oa
 replace Ahp2:=Ahp2.keep hc oa
 replace Ahp3:=Ahp3.keep hc oa
 replace Ahq0:=Ahq0.keep hc oa
 replace Ahq1:=Ahq1.keep hc oa
 replace Ahq2:=Ahq2.keep hc oa
 replace Ahq3:=Ahq3.keep hc oa
 replace K1_0:=hc.room K1_0
 replace K1_1:=hc.room K1_1
 replace K1_2:=hc.room K1_2
 replace K1_3:=hc.room K1_3
 replace K1_4:=hc.room K1_4
 replace K1_5:=hc.room K1_5
 replace E4:=E4.keep hc oa
 replace E5:=E5.keep hc oa
 replace E6:=E6.keep hc oa
 replace E7:=E7.keep hc oa
 replace E8:=E8.keep hc oa
 clear E9
 clear hc
 obtain ⟨f7,qf7⟩:∃ g,g = f6 + f6:=⟨_,rfl⟩
 rw [←qf7] at hv
 replace qf7:=hd qf7
 have E10:=hv
 clear hv
 go_wp2_with fail
 refine (sub_e (RM.part (by omega) (by omega)) E6 E7 (fun e=>by omega) (fun e=>by omega)).mono ?_
 rintro e W ⟨rfl,hc,hv⟩
 replace C:=C.into hc
 replace RM:=hc.room RM
 replace Ahp0:=Ahp0.keep hc oa
 replace Ahp1:=Ahp1.keep hc oa
 replace Ahp2:=Ahp2.keep hc oa
 replace Ahp3:=Ahp3.keep hc oa
 replace Ahq0:=Ahq0.keep hc oa
 replace Ahq1:=Ahq1.keep hc oa
 replace Ahq2:=Ahq2.keep hc oa
 replace Ahq3:=Ahq3.keep hc oa
 replace K1_0:=hc.room K1_0
 replace K1_1:=hc.room K1_1
 replace K1_2:=hc.room K1_2
 replace K1_3:=hc.room K1_3
 replace K1_4:=hc.room K1_4
 replace K1_5:=hc.room K1_5
 replace E4:=E4.keep hc oa
 replace E5:=E5.keep hc oa
 replace E6:=E6.keep hc oa
 replace E7:=E7.keep hc oa
 replace E8:=E8.keep hc oa
 replace E10:=E10.keep hc oa
 clear hc
 obtain ⟨f8,qf8⟩:∃ g,g = f3 - f4:=⟨_,rfl⟩
 rw [←qf8] at hv
 replace qf8:=hd qf8
 have E11:=hv
 clear hv
 go_wp2_with fail
 refine (add_e (RM.part (by omega) (by omega)) E6 E7 (fun e=>by omega) (fun e=>by omega)).mono ?_
 rintro e W ⟨rfl,hc,hv⟩
 replace C:=C.into hc
 replace RM:=hc.room RM
 replace Ahp0:=Ahp0.keep hc oa
 replace Ahp1:=Ahp1.keep hc oa
 replace Ahp2:=Ahp2.keep hc oa
 replace Ahp3:=Ahp3.keep hc oa
 replace Ahq0:=Ahq0.keep hc oa
 replace Ahq1:=Ahq1.keep hc oa
 replace Ahq2:=Ahq2.keep hc oa
 replace Ahq3:=Ahq3.keep hc oa
 replace K1_0:=hc.room K1_0
 replace K1_1:=hc.room K1_1
 replace K1_2:=hc.room K1_2
 replace K1_3:=hc.room K1_3
 replace K1_4:=hc.room K1_4
 replace K1_5:=hc.room K1_5
 replace E4:=E4.keep hc oa
 replace E5:=E5.keep hc oa
 replace E6:=E6.keep hc oa
 replace E7:=E7.keep hc oa
 replace E8:=E8.keep hc oa
 replace E10:=E10.keep hc oa
 replace E11:=E11.keep hc oa
 clear hc
 obtain ⟨f9,qf9⟩:∃ g,g = f3 + f4:=⟨_,rfl⟩
 rw [←qf9] at hv
 replace qf9:=hd qf9
 have E12:=hv
 clear hv
 go_wp2_with fail
 refine (add_e (RM.part (by omega) (by omega)) E10 E8 (fun e=>by omega) (fun e=>by omega)).mono ?_
 rintro e W ⟨rfl,hc,hv⟩
 replace C:=C.into hc
 replace RM:=hc.room RM
 replace Ahp0:=Ahp0.keep hc oa
 replace Ahp1:=Ahp1.keep hc oa
 replace Ahp2:=Ahp2.keep hc oa
 replace Ahp3:=Ahp3.keep hc oa
 replace Ahq0:=Ahq0.keep hc oa
 replace Ahq1:=Ahq1.keep hc oa
 replace Ahq2:=Ahq2.keep hc oa
 replace Ahq3:=Ahq3.keep hc oa
 replace K1_0:=hc.room K1_0
 replace K1_1:=hc.room K1_1
 replace K1_2:=hc.room K1_2
 replace K1_3:=hc.room K1_3
 replace K1_4:=hc.room K1_4
 replace K1_5:=hc.room K1_5
 replace E4:=E4.keep hc oa
 replace E5:=E5.keep hc oa
 replace E6:=E6.keep hc oa
 replace E7:=E7.keep hc oa
 replace E8:=E8.keep hc oa
 replace E10:=E10.keep hc oa
 replace E11:=E11.keep hc oa
 replace E12:=E12.keep hc oa
 clear hc
 obtain ⟨f10,qf10⟩:∃ g,g = f7 + f5:=⟨_,rfl⟩
 rw [←qf10] at hv
 replace qf10:=hd qf10
 have E13:=hv
 clear hv
 go_wp2_with fail
 refine (sub_e (RM.part (by omega) (by omega)) E10 E8 (fun e=>by omega) (fun e=>by omega)).mono ?_
 rintro e W ⟨rfl,hc,hv⟩
 replace C:=C.into hc
 replace RM:=hc.room RM
 replace Ahp0:=Ahp0.keep hc oa
 replace Ahp1:=Ahp1.keep hc oa
 replace Ahp2:=Ahp2.keep hc oa
 replace Ahp3:=Ahp3.keep hc oa
 replace Ahq0:=Ahq0.keep hc oa
 replace Ahq1:=Ahq1.keep hc oa
 replace Ahq2:=Ahq2.keep hc oa
 replace Ahq3:=Ahq3.keep hc oa
 replace K1_0:=hc.room K1_0
 replace K1_1:=hc.room K1_1
 replace K1_2:=hc.room K1_2
 replace K1_3:=hc.room K1_3
 replace K1_4:=hc.room K1_4
 replace K1_5:=hc.room K1_5
 replace E4:=E4.keep hc oa
 replace E5:=E5.keep hc oa
 replace E6:=E6.keep hc oa
 replace E7:=E7.keep hc oa
 replace E8:=E8.keep hc oa
 replace E10:=E10.keep hc oa
 replace E11:=E11.keep hc oa
 replace E12:=E12.keep hc oa
 replace E13:=E13.keep hc oa
 clear hc
 obtain ⟨f11,qf11⟩:∃ g,g = f7 - f5:=⟨_,rfl⟩
 rw [←qf11] at hv
 replace qf11:=hd qf11
 have E14:=hv
 clear hv
 go_wp2_with fail
 go_ret
 obtain rfl:=qf1.out
 obtain rfl:=qf2.out
 obtain rfl:=qf3.out
 obtain rfl:=qf4.out
 obtain rfl:=qf5.out
 obtain rfl:=qf6.out
 obtain rfl:=qf7.out
 obtain rfl:=qf8.out
 obtain rfl:=qf9.out
 obtain rfl:=qf10.out
 obtain rfl:=qf11.out
 exact ⟨rfl,C,_,_,_,_,E11,E12,E13,E14,rhp.add rhq⟩
theorem ptSub_e {bv ov bp op bq oq:Nat} {p:Pt} {q:Pt} {w:World} (RM:Room w bv ov 20) (hp:P3 w bp op p) (shp:bv ≠ bp∨ov + 20 ≤ op∨op + 20 ≤ ov) (hq:PC w bq oq q) (shq:bv ≠ bq∨ov + 20 ≤ oq∨oq + 20 ≤ ov) :
  Calls Tryz.prog 64 #[Ptr bv ov,Ptr bp op,Ptr bq oq] w (fun e w'=>e = .returned (Ptr bv ov)∧Chg (Rg bv ov 20) w w'∧P1 w' bv ov (p + -q)):=by
 obtain ⟨X,Y,Z,T,Ahp0,Ahp1,Ahp2,Ahp3,rhp⟩:=hp
 obtain ⟨A,B,D,U,Ahq0,Ahq1,Ahq2,Ahq3,rhq⟩:=hq
 have C:Chg (Rg bv ov 20) w w:=.refl _ _
 go_enter Tryz.func64,Tryz.ntmps64
 go_wp2_with fail
 go_still_tail 6,(by kernel_rfl)
 go_wp2_with fail
 obtain ⟨n1,ln1⟩:∃ n,w.heap.size = n:=⟨_,rfl⟩
 rw [ln1]
 have hb:=aB [z73,z73,z73,z73,z73,z73] w
 have zn1:w.heap.size ≤ n1:=ln1 ▸ C.size
 have y1:bv < n1:=ln1 ▸ RM.lt (by decide)
 have y2:bp < n1:=ln1 ▸ Ahp0.lt
 have y3:bq < n1:=ln1 ▸ Ahq0.lt
 replace C:=C.trans (Chg.of_below hb)
 replace RM:=RM.later hb
 replace Ahp0:=Ahp0.keep (Chg.of_below (R:=R0) hb) (fun _ _ h=>h)
 replace Ahp1:=Ahp1.keep (Chg.of_below (R:=R0) hb) (fun _ _ h=>h)
 replace Ahp2:=Ahp2.keep (Chg.of_below (R:=R0) hb) (fun _ _ h=>h)
 replace Ahp3:=Ahp3.keep (Chg.of_below (R:=R0) hb) (fun _ _ h=>h)
 replace Ahq0:=Ahq0.keep (Chg.of_below (R:=R0) hb) (fun _ _ h=>h)
 replace Ahq1:=Ahq1.keep (Chg.of_below (R:=R0) hb) (fun _ _ h=>h)
 replace Ahq2:=Ahq2.keep (Chg.of_below (R:=R0) hb) (fun _ _ h=>h)
 replace Ahq3:=Ahq3.keep (Chg.of_below (R:=R0) hb) (fun _ _ h=>h)
 have K1_0:=(aH [z73,z73,z73,z73,z73,z73] w 0 (List.replicate 5 (.int .u64 0)) 73 rfl).room (n:=5) rfl
 rw [ln1] at K1_0
 have K1_1:=(aH [z73,z73,z73,z73,z73,z73] w 1 (List.replicate 5 (.int .u64 0)) 73 rfl).room (n:=5) rfl
 rw [ln1] at K1_1
 have K1_2:=(aH [z73,z73,z73,z73,z73,z73] w 2 (List.replicate 5 (.int .u64 0)) 73 rfl).room (n:=5) rfl
 rw [ln1] at K1_2
 have K1_3:=(aH [z73,z73,z73,z73,z73,z73] w 3 (List.replicate 5 (.int .u64 0)) 73 rfl).room (n:=5) rfl
 rw [ln1] at K1_3
 have K1_4:=(aH [z73,z73,z73,z73,z73,z73] w 4 (List.replicate 5 (.int .u64 0)) 73 rfl).room (n:=5) rfl
 rw [ln1] at K1_4
 have K1_5:=(aH [z73,z73,z73,z73,z73,z73] w 5 (List.replicate 5 (.int .u64 0)) 73 rfl).room (n:=5) rfl
 rw [ln1] at K1_5
 refine cG (fun W=>Chg (Rg bv ov 20) w W∧Room W bv ov 20∧Elt W bp op X∧Elt W bp (op + 5) Y∧Elt W bp (op + 10) Z∧Elt W bp (op + 15) T∧Elt W bq oq A∧Elt W bq (oq + 5) B∧Elt W bq (oq + 10) D∧Elt W bq (oq + 15) U∧Room W n1 0 5∧Room W (n1 + 1) 0 5∧Room W (n1 + 2) 0 5∧Room W (n1 + 3) 0 5∧Room W (n1 + 4) 0 5∧Room W (n1 + 5) 0 5) ⟨C.drew,RM.drew,Ahp0.drew,Ahp1.drew,Ahp2.drew,Ahp3.drew,Ahq0.drew,Ahq1.drew,Ahq2.drew,Ahq3.drew,K1_0.drew,K1_1.drew,K1_2.drew,K1_3.drew,K1_4.drew,K1_5.drew⟩ ?_
 clear C RM Ahp0 Ahp1 Ahp2 Ahp3 Ahq0 Ahq1 Ahq2 Ahq3 K1_0 K1_1 K1_2 K1_3 K1_4 K1_5 hb ln1
 rintro W ⟨C,RM,Ahp0,Ahp1,Ahp2,Ahp3,Ahq0,Ahq1,Ahq2,Ahq3,K1_0,K1_1,K1_2,K1_3,K1_4,K1_5⟩
 refine (add_e K1_0 Ahp1 Ahp0 (fun e=>by omega) (fun e=>by omega)).mono ?_
 rintro e W ⟨rfl,hc,hv⟩
 replace C:=C.loc hc (by omega)
 replace RM:=hc.room RM
 replace Ahp0:=Ahp0.keep hc oa
 replace Ahp1:=Ahp1.keep hc oa
 replace Ahp2:=Ahp2.keep hc oa
 replace Ahp3:=Ahp3.keep hc oa
 replace Ahq0:=Ahq0.keep hc oa
 replace Ahq1:=Ahq1.keep hc oa
 replace Ahq2:=Ahq2.keep hc oa
 replace Ahq3:=Ahq3.keep hc oa
 replace K1_0:=hc.room K1_0
 replace K1_1:=hc.room K1_1
 replace K1_2:=hc.room K1_2
 replace K1_3:=hc.room K1_3
 replace K1_4:=hc.room K1_4
 replace K1_5:=hc.room K1_5
 clear hc
 obtain ⟨f1,qf1⟩:∃ g,g = Y + X:=⟨_,rfl⟩
 rw [←qf1] at hv
 replace qf1:=hd qf1
 have E4:=hv
 clear hv
 go_wp2_with fail
 go_still_tail 6,(by kernel_rfl)
 go_wp2_with fail
 refine cG (fun W=>Chg (Rg bv ov 20) w W∧Room W bv ov 20∧Elt W bp op X∧Elt W bp (op + 5) Y∧Elt W bp (op + 10) Z∧Elt W bp (op + 15) T∧Elt W bq oq A∧Elt W bq (oq + 5) B∧Elt W bq (oq + 10) D∧Elt W bq (oq + 15) U∧Room W n1 0 5∧Room W (n1 + 1) 0 5∧Room W (n1 + 2) 0 5∧Room W (n1 + 3) 0 5∧Room W (n1 + 4) 0 5∧Room W (n1 + 5) 0 5∧Elt W n1 0 f1) ⟨C.drew,RM.drew,Ahp0.drew,Ahp1.drew,Ahp2.drew,Ahp3.drew,Ahq0.drew,Ahq1.drew,Ahq2.drew,Ahq3.drew,K1_0.drew,K1_1.drew,K1_2.drew,K1_3.drew,K1_4.drew,K1_5.drew,E4.drew⟩ ?_
 clear C RM Ahp0 Ahp1 Ahp2 Ahp3 Ahq0 Ahq1 Ahq2 Ahq3 K1_0 K1_1 K1_2 K1_3 K1_4 K1_5 E4
 rintro W ⟨C,RM,Ahp0,Ahp1,Ahp2,Ahp3,Ahq0,Ahq1,Ahq2,Ahq3,K1_0,K1_1,K1_2,K1_3,K1_4,K1_5,E4⟩
 refine (sub_e K1_1 Ahp1 Ahp0 (fun e=>by omega) (fun e=>by omega)).mono ?_
 rintro e W ⟨rfl,hc,hv⟩
 replace C:=C.loc hc (by omega)
 replace RM:=hc.room RM
 replace Ahp0:=Ahp0.keep hc oa
 replace Ahp1:=Ahp1.keep hc oa
 replace Ahp2:=Ahp2.keep hc oa
 replace Ahp3:=Ahp3.keep hc oa
 replace Ahq0:=Ahq0.keep hc oa
 replace Ahq1:=Ahq1.keep hc oa
 replace Ahq2:=Ahq2.keep hc oa
 replace Ahq3:=Ahq3.keep hc oa
 replace K1_0:=hc.room K1_0
 replace K1_1:=hc.room K1_1
 replace K1_2:=hc.room K1_2
 replace K1_3:=hc.room K1_3
 replace K1_4:=hc.room K1_4
 replace K1_5:=hc.room K1_5
 replace E4:=E4.keep hc oa
 clear hc
 obtain ⟨f2,qf2⟩:∃ g,g = Y - X:=⟨_,rfl⟩
 rw [←qf2] at hv
 replace qf2:=hd qf2
 have E5:=hv
 clear hv
 go_wp2_with fail
 refine (mul_e K1_2 E4 Ahq1).mono ?_
 rintro e W ⟨rfl,hc,hv⟩
 replace C:=C.loc hc (by omega)
 replace RM:=hc.room RM
 replace Ahp0:=Ahp0.keep hc oa
 replace Ahp1:=Ahp1.keep hc oa
 replace Ahp2:=Ahp2.keep hc oa
 replace Ahp3:=Ahp3.keep hc oa
 replace Ahq0:=Ahq0.keep hc oa
 replace Ahq1:=Ahq1.keep hc oa
 replace Ahq2:=Ahq2.keep hc oa
 replace Ahq3:=Ahq3.keep hc oa
 replace K1_0:=hc.room K1_0
 replace K1_1:=hc.room K1_1
 replace K1_2:=hc.room K1_2
 replace K1_3:=hc.room K1_3
 replace K1_4:=hc.room K1_4
 replace K1_5:=hc.room K1_5
 replace E4:=E4.keep hc oa
 replace E5:=E5.keep hc oa
 clear hc
 obtain ⟨f3,qf3⟩:∃ g,g = f1 * B:=⟨_,rfl⟩
 rw [←qf3] at hv
 replace qf3:=hd qf3
 have E6:=hv
 clear hv
 go_wp2_with fail
 refine (mul_e K1_3 E5 Ahq0).mono ?_
 rintro e W ⟨rfl,hc,hv⟩
 replace C:=C.loc hc (by omega)
 replace RM:=hc.room RM
 replace Ahp0:=Ahp0.keep hc oa
 replace Ahp1:=Ahp1.keep hc oa
 replace Ahp2:=Ahp2.keep hc oa
 replace Ahp3:=Ahp3.keep hc oa
 replace Ahq0:=Ahq0.keep hc oa
 replace Ahq1:=Ahq1.keep hc oa
 replace Ahq2:=Ahq2.keep hc oa
 replace Ahq3:=Ahq3.keep hc oa
 replace K1_0:=hc.room K1_0
 replace K1_1:=hc.room K1_1
 replace K1_2:=hc.room K1_2
 replace K1_3:=hc.room K1_3
 replace K1_4:=hc.room K1_4
 replace K1_5:=hc.room K1_5
 replace E4:=E4.keep hc oa
 replace E5:=E5.keep hc oa
 replace E6:=E6.keep hc oa
 clear hc
 obtain ⟨f4,qf4⟩:∃ g,g = f2 * A:=⟨_,rfl⟩
 rw [←qf4] at hv
 replace qf4:=hd qf4
 have E7:=hv
 clear hv
 go_wp2_with fail
 go_still_tail 6,(by kernel_rfl)
 go_wp2_with fail
 refine cG (fun W=>Chg (Rg bv ov 20) w W∧Room W bv ov 20∧Elt W bp op X∧Elt W bp (op + 5) Y∧Elt W bp (op + 10) Z∧Elt W bp (op + 15) T∧Elt W bq oq A∧Elt W bq (oq + 5) B∧Elt W bq (oq + 10) D∧Elt W bq (oq + 15) U∧Room W n1 0 5∧Room W (n1 + 1) 0 5∧Room W (n1 + 2) 0 5∧Room W (n1 + 3) 0 5∧Room W (n1 + 4) 0 5∧Room W (n1 + 5) 0 5∧Elt W n1 0 f1∧Elt W (n1 + 1) 0 f2∧Elt W (n1 + 2) 0 f3∧Elt W (n1 + 3) 0 f4) ⟨C.drew,RM.drew,Ahp0.drew,Ahp1.drew,Ahp2.drew,Ahp3.drew,Ahq0.drew,Ahq1.drew,Ahq2.drew,Ahq3.drew,K1_0.drew,K1_1.drew,K1_2.drew,K1_3.drew,K1_4.drew,K1_5.drew,E4.drew,E5.drew,E6.drew,E7.drew⟩ ?_
 clear C RM Ahp0 Ahp1 Ahp2 Ahp3 Ahq0 Ahq1 Ahq2 Ahq3 K1_0 K1_1 K1_2 K1_3 K1_4 K1_5 E4 E5 E6 E7
 rintro W ⟨C,RM,Ahp0,Ahp1,Ahp2,Ahp3,Ahq0,Ahq1,Ahq2,Ahq3,K1_0,K1_1,K1_2,K1_3,K1_4,K1_5,E4,E5,E6,E7⟩
 refine (mul_e K1_4 Ahp3 Ahq3).mono ?_
 rintro e W ⟨rfl,hc,hv⟩
 replace C:=C.loc hc (by omega)
 replace RM:=hc.room RM
 replace Ahp0:=Ahp0.keep hc oa
 replace Ahp1:=Ahp1.keep hc oa
 replace Ahp2:=Ahp2.keep hc oa
 replace Ahp3:=Ahp3.keep hc oa
 replace Ahq0:=Ahq0.keep hc oa
 replace Ahq1:=Ahq1.keep hc oa
 replace Ahq2:=Ahq2.keep hc oa
 replace Ahq3:=Ahq3.keep hc oa
 replace K1_0:=hc.room K1_0
 replace K1_1:=hc.room K1_1
 replace K1_2:=hc.room K1_2
 replace K1_3:=hc.room K1_3
 replace K1_4:=hc.room K1_4
 replace K1_5:=hc.room K1_5
 replace E4:=E4.keep hc oa
 replace E5:=E5.keep hc oa
 replace E6:=E6.keep hc oa
 replace E7:=E7.keep hc oa
 clear hc
 obtain ⟨f5,qf5⟩:∃ g,g = T * U:=⟨_,rfl⟩
 rw [←qf5] at hv
 replace qf5:=hd qf5
 have E8:=hv
 clear hv
 go_wp2_with fail
 go_still_tail 6,(by kernel_rfl)
 go_wp2_with fail
 refine cG (fun W=>Chg (Rg bv ov 20) w W∧Room W bv ov 20∧Elt W bp op X∧Elt W bp (op + 5) Y∧Elt W bp (op + 10) Z∧Elt W bp (op + 15) T∧Elt W bq oq A∧Elt W bq (oq + 5) B∧Elt W bq (oq + 10) D∧Elt W bq (oq + 15) U∧Room W n1 0 5∧Room W (n1 + 1) 0 5∧Room W (n1 + 2) 0 5∧Room W (n1 + 3) 0 5∧Room W (n1 + 4) 0 5∧Room W (n1 + 5) 0 5∧Elt W n1 0 f1∧Elt W (n1 + 1) 0 f2∧Elt W (n1 + 2) 0 f3∧Elt W (n1 + 3) 0 f4∧Elt W (n1 + 4) 0 f5) ⟨C.drew,RM.drew,Ahp0.drew,Ahp1.drew,Ahp2.drew,Ahp3.drew,Ahq0.drew,Ahq1.drew,Ahq2.drew,Ahq3.drew,K1_0.drew,K1_1.drew,K1_2.drew,K1_3.drew,K1_4.drew,K1_5.drew,E4.drew,E5.drew,E6.drew,E7.drew,E8.drew⟩ ?_
 clear C RM Ahp0 Ahp1 Ahp2 Ahp3 Ahq0 Ahq1 Ahq2 Ahq3 K1_0 K1_1 K1_2 K1_3 K1_4 K1_5 E4 E5 E6 E7 E8
 rintro W ⟨C,RM,Ahp0,Ahp1,Ahp2,Ahp3,Ahq0,Ahq1,Ahq2,Ahq3,K1_0,K1_1,K1_2,K1_3,K1_4,K1_5,E4,E5,E6,E7,E8⟩
 refine (mul_e K1_5 Ahp2 Ahq2).mono ?_
 rintro e W ⟨rfl,hc,hv⟩
 replace C:=C.loc hc (by omega)
 replace RM:=hc.room RM
 replace Ahp0:=Ahp0.keep hc oa
 replace Ahp1:=Ahp1.keep hc oa
 replace Ahp2:=Ahp2.keep hc oa
 replace Ahp3:=Ahp3.keep hc oa
 replace Ahq0:=Ahq0.keep hc oa
 replace Ahq1:=Ahq1.keep hc oa
 replace Ahq2:=Ahq2.keep hc oa
 replace Ahq3:=Ahq3.keep hc oa
 replace K1_0:=hc.room K1_0
 replace K1_1:=hc.room K1_1
 replace K1_2:=hc.room K1_2
 replace K1_3:=hc.room K1_3
 replace K1_4:=hc.room K1_4
 replace K1_5:=hc.room K1_5
 replace E4:=E4.keep hc oa
 replace E5:=E5.keep hc oa
 replace E6:=E6.keep hc oa
 replace E7:=E7.keep hc oa
 replace E8:=E8.keep hc oa
 clear hc
 obtain ⟨f6,qf6⟩:∃ g,g = Z * D:=⟨_,rfl⟩
 rw [←qf6] at hv
 replace qf6:=hd qf6
 have E9:=hv
 clear hv
 go_wp2_with fail
 refine (add_e K1_5 E9 E9 (fun e=>by omega) (fun e=>by omega)).mono ?_
 rintro e W ⟨rfl,hc,hv⟩
 replace C:=C.loc hc (by omega)
 replace RM:=hc.room RM
 replace Ahp0:=Ahp0.keep hc oa
 replace Ahp1:=Ahp1.keep hc oa
 replace Ahp2:=Ahp2.keep hc oa
 replace Ahp3:=Ahp3.keep hc oa
 replace Ahq0:=Ahq0.keep hc oa
 replace Ahq1:=Ahq1.keep hc oa
 replace Ahq2:=Ahq2.keep hc oa
 replace Ahq3:=Ahq3.keep hc oa
 replace K1_0:=hc.room K1_0
 replace K1_1:=hc.room K1_1
 replace K1_2:=hc.room K1_2
 replace K1_3:=hc.room K1_3
 replace K1_4:=hc.room K1_4
 replace K1_5:=hc.room K1_5
 replace E4:=E4.keep hc oa
 replace E5:=E5.keep hc oa
 replace E6:=E6.keep hc oa
 replace E7:=E7.keep hc oa
 replace E8:=E8.keep hc oa
 clear E9
 clear hc
 obtain ⟨f7,qf7⟩:∃ g,g = f6 + f6:=⟨_,rfl⟩
 rw [←qf7] at hv
 replace qf7:=hd qf7
 have E10:=hv
 clear hv
 go_wp2_with fail
 refine (sub_e (RM.part (by omega) (by omega)) E6 E7 (fun e=>by omega) (fun e=>by omega)).mono ?_
 rintro e W ⟨rfl,hc,hv⟩
 replace C:=C.into hc
 replace RM:=hc.room RM
 replace Ahp0:=Ahp0.keep hc oa
 replace Ahp1:=Ahp1.keep hc oa
 replace Ahp2:=Ahp2.keep hc oa
 replace Ahp3:=Ahp3.keep hc oa
 replace Ahq0:=Ahq0.keep hc oa
 replace Ahq1:=Ahq1.keep hc oa
 replace Ahq2:=Ahq2.keep hc oa
 replace Ahq3:=Ahq3.keep hc oa
 replace K1_0:=hc.room K1_0
 replace K1_1:=hc.room K1_1
 replace K1_2:=hc.room K1_2
 replace K1_3:=hc.room K1_3
 replace K1_4:=hc.room K1_4
 replace K1_5:=hc.room K1_5
 replace E4:=E4.keep hc oa
 replace E5:=E5.keep hc oa
 replace E6:=E6.keep hc oa
 replace E7:=E7.keep hc oa
 replace E8:=E8.keep hc oa
 replace E10:=E10.keep hc oa
 clear hc
 obtain ⟨f8,qf8⟩:∃ g,g = f3 - f4:=⟨_,rfl⟩
 rw [←qf8] at hv
 replace qf8:=hd qf8
 have E11:=hv
 clear hv
 go_wp2_with fail
 refine (add_e (RM.part (by omega) (by omega)) E6 E7 (fun e=>by omega) (fun e=>by omega)).mono ?_
 rintro e W ⟨rfl,hc,hv⟩
 replace C:=C.into hc
 replace RM:=hc.room RM
 replace Ahp0:=Ahp0.keep hc oa
 replace Ahp1:=Ahp1.keep hc oa
 replace Ahp2:=Ahp2.keep hc oa
 replace Ahp3:=Ahp3.keep hc oa
 replace Ahq0:=Ahq0.keep hc oa
 replace Ahq1:=Ahq1.keep hc oa
 replace Ahq2:=Ahq2.keep hc oa
 replace Ahq3:=Ahq3.keep hc oa
 replace K1_0:=hc.room K1_0
 replace K1_1:=hc.room K1_1
 replace K1_2:=hc.room K1_2
 replace K1_3:=hc.room K1_3
 replace K1_4:=hc.room K1_4
 replace K1_5:=hc.room K1_5
 replace E4:=E4.keep hc oa
 replace E5:=E5.keep hc oa
 replace E6:=E6.keep hc oa
 replace E7:=E7.keep hc oa
 replace E8:=E8.keep hc oa
 replace E10:=E10.keep hc oa
 replace E11:=E11.keep hc oa
 clear hc
 obtain ⟨f9,qf9⟩:∃ g,g = f3 + f4:=⟨_,rfl⟩
 rw [←qf9] at hv
 replace qf9:=hd qf9
 have E12:=hv
 clear hv
 go_wp2_with fail
 refine (sub_e (RM.part (by omega) (by omega)) E10 E8 (fun e=>by omega) (fun e=>by omega)).mono ?_
 rintro e W ⟨rfl,hc,hv⟩
 replace C:=C.into hc
 replace RM:=hc.room RM
 replace Ahp0:=Ahp0.keep hc oa
 replace Ahp1:=Ahp1.keep hc oa
 replace Ahp2:=Ahp2.keep hc oa
 replace Ahp3:=Ahp3.keep hc oa
 replace Ahq0:=Ahq0.keep hc oa
 replace Ahq1:=Ahq1.keep hc oa
 replace Ahq2:=Ahq2.keep hc oa
 replace Ahq3:=Ahq3.keep hc oa
 replace K1_0:=hc.room K1_0
 replace K1_1:=hc.room K1_1
 replace K1_2:=hc.room K1_2
 replace K1_3:=hc.room K1_3
 replace K1_4:=hc.room K1_4
 replace K1_5:=hc.room K1_5
 replace E4:=E4.keep hc oa
 replace E5:=E5.keep hc oa
 replace E6:=E6.keep hc oa
 replace E7:=E7.keep hc oa
 replace E8:=E8.keep hc oa
 replace E10:=E10.keep hc oa
 replace E11:=E11.keep hc oa
 replace E12:=E12.keep hc oa
 clear hc
 obtain ⟨f10,qf10⟩:∃ g,g = f7 - f5:=⟨_,rfl⟩
 rw [←qf10] at hv
 replace qf10:=hd qf10
 have E13:=hv
 clear hv
 go_wp2_with fail
 refine (add_e (RM.part (by omega) (by omega)) E10 E8 (fun e=>by omega) (fun e=>by omega)).mono ?_
 rintro e W ⟨rfl,hc,hv⟩
 replace C:=C.into hc
 replace RM:=hc.room RM
 replace Ahp0:=Ahp0.keep hc oa
 replace Ahp1:=Ahp1.keep hc oa
 replace Ahp2:=Ahp2.keep hc oa
 replace Ahp3:=Ahp3.keep hc oa
 replace Ahq0:=Ahq0.keep hc oa
 replace Ahq1:=Ahq1.keep hc oa
 replace Ahq2:=Ahq2.keep hc oa
 replace Ahq3:=Ahq3.keep hc oa
 replace K1_0:=hc.room K1_0
 replace K1_1:=hc.room K1_1
 replace K1_2:=hc.room K1_2
 replace K1_3:=hc.room K1_3
 replace K1_4:=hc.room K1_4
 replace K1_5:=hc.room K1_5
 replace E4:=E4.keep hc oa
 replace E5:=E5.keep hc oa
 replace E6:=E6.keep hc oa
 replace E7:=E7.keep hc oa
 replace E8:=E8.keep hc oa
 replace E10:=E10.keep hc oa
 replace E11:=E11.keep hc oa
 replace E12:=E12.keep hc oa
 replace E13:=E13.keep hc oa
 clear hc
 obtain ⟨f11,qf11⟩:∃ g,g = f7 + f5:=⟨_,rfl⟩
 rw [←qf11] at hv
 replace qf11:=hd qf11
 have E14:=hv
 clear hv
 go_wp2_with fail
 go_ret
 obtain rfl:=qf1.out
 obtain rfl:=qf2.out
 obtain rfl:=qf3.out
 obtain rfl:=qf4.out
 obtain rfl:=qf5.out
 obtain rfl:=qf6.out
 obtain rfl:=qf7.out
 obtain rfl:=qf8.out
 obtain rfl:=qf9.out
 obtain rfl:=qf10.out
 obtain rfl:=qf11.out
 exact ⟨rfl,C,_,_,_,_,E11,E12,E13,E14,rhp.sub rhq⟩
theorem ptAddA_e {bv ov bp op bq oq:Nat} {p:Pt} {q:Pt} {w:World} (RM:Room w bv ov 20) (hp:P3 w bp op p) (shp:bv ≠ bp∨ov + 20 ≤ op∨op + 20 ≤ ov) (hq:PA w bq oq q) (shq:bv ≠ bq∨ov + 20 ≤ oq∨oq + 15 ≤ ov) :
  Calls Tryz.prog 57 #[Ptr bv ov,Ptr bp op,Ptr bq oq] w (fun e w'=>e = .returned (Ptr bv ov)∧Chg (Rg bv ov 20) w w'∧P1 w' bv ov (p + q)):=by
 obtain ⟨X,Y,Z,T,Ahp0,Ahp1,Ahp2,Ahp3,rhp⟩:=hp
 obtain ⟨A,B,U,Ahq0,Ahq1,Ahq2,rhq⟩:=hq
 have C:Chg (Rg bv ov 20) w w:=.refl _ _
 go_enter Tryz.func57,Tryz.ntmps57
 go_wp2_with fail
 go_still_tail 6,(by kernel_rfl)
 go_wp2_with fail
 obtain ⟨n1,ln1⟩:∃ n,w.heap.size = n:=⟨_,rfl⟩
 rw [ln1]
 have hb:=aB [z73,z73,z73,z73,z73,z73] w
 have zn1:w.heap.size ≤ n1:=ln1 ▸ C.size
 have y1:bv < n1:=ln1 ▸ RM.lt (by decide)
 have y2:bp < n1:=ln1 ▸ Ahp0.lt
 have y3:bq < n1:=ln1 ▸ Ahq0.lt
 replace C:=C.trans (Chg.of_below hb)
 replace RM:=RM.later hb
 replace Ahp0:=Ahp0.keep (Chg.of_below (R:=R0) hb) (fun _ _ h=>h)
 replace Ahp1:=Ahp1.keep (Chg.of_below (R:=R0) hb) (fun _ _ h=>h)
 replace Ahp2:=Ahp2.keep (Chg.of_below (R:=R0) hb) (fun _ _ h=>h)
 replace Ahp3:=Ahp3.keep (Chg.of_below (R:=R0) hb) (fun _ _ h=>h)
 replace Ahq0:=Ahq0.keep (Chg.of_below (R:=R0) hb) (fun _ _ h=>h)
 replace Ahq1:=Ahq1.keep (Chg.of_below (R:=R0) hb) (fun _ _ h=>h)
 replace Ahq2:=Ahq2.keep (Chg.of_below (R:=R0) hb) (fun _ _ h=>h)
 have K1_0:=(aH [z73,z73,z73,z73,z73,z73] w 0 (List.replicate 5 (.int .u64 0)) 73 rfl).room (n:=5) rfl
 rw [ln1] at K1_0
 have K1_1:=(aH [z73,z73,z73,z73,z73,z73] w 1 (List.replicate 5 (.int .u64 0)) 73 rfl).room (n:=5) rfl
 rw [ln1] at K1_1
 have K1_2:=(aH [z73,z73,z73,z73,z73,z73] w 2 (List.replicate 5 (.int .u64 0)) 73 rfl).room (n:=5) rfl
 rw [ln1] at K1_2
 have K1_3:=(aH [z73,z73,z73,z73,z73,z73] w 3 (List.replicate 5 (.int .u64 0)) 73 rfl).room (n:=5) rfl
 rw [ln1] at K1_3
 have K1_4:=(aH [z73,z73,z73,z73,z73,z73] w 4 (List.replicate 5 (.int .u64 0)) 73 rfl).room (n:=5) rfl
 rw [ln1] at K1_4
 have K1_5:=(aH [z73,z73,z73,z73,z73,z73] w 5 (List.replicate 5 (.int .u64 0)) 73 rfl).room (n:=5) rfl
 rw [ln1] at K1_5
 refine cG (fun W=>Chg (Rg bv ov 20) w W∧Room W bv ov 20∧Elt W bp op X∧Elt W bp (op + 5) Y∧Elt W bp (op + 10) Z∧Elt W bp (op + 15) T∧Elt W bq oq A∧Elt W bq (oq + 5) B∧Elt W bq (oq + 10) U∧Room W n1 0 5∧Room W (n1 + 1) 0 5∧Room W (n1 + 2) 0 5∧Room W (n1 + 3) 0 5∧Room W (n1 + 4) 0 5∧Room W (n1 + 5) 0 5) ⟨C.drew,RM.drew,Ahp0.drew,Ahp1.drew,Ahp2.drew,Ahp3.drew,Ahq0.drew,Ahq1.drew,Ahq2.drew,K1_0.drew,K1_1.drew,K1_2.drew,K1_3.drew,K1_4.drew,K1_5.drew⟩ ?_
 clear C RM Ahp0 Ahp1 Ahp2 Ahp3 Ahq0 Ahq1 Ahq2 K1_0 K1_1 K1_2 K1_3 K1_4 K1_5 hb ln1
 rintro W ⟨C,RM,Ahp0,Ahp1,Ahp2,Ahp3,Ahq0,Ahq1,Ahq2,K1_0,K1_1,K1_2,K1_3,K1_4,K1_5⟩
 refine (add_e K1_0 Ahp1 Ahp0 (fun e=>by omega) (fun e=>by omega)).mono ?_
 rintro e W ⟨rfl,hc,hv⟩
 replace C:=C.loc hc (by omega)
 replace RM:=hc.room RM
 replace Ahp0:=Ahp0.keep hc oa
 replace Ahp1:=Ahp1.keep hc oa
 replace Ahp2:=Ahp2.keep hc oa
 replace Ahp3:=Ahp3.keep hc oa
 replace Ahq0:=Ahq0.keep hc oa
 replace Ahq1:=Ahq1.keep hc oa
 replace Ahq2:=Ahq2.keep hc oa
 replace K1_0:=hc.room K1_0
 replace K1_1:=hc.room K1_1
 replace K1_2:=hc.room K1_2
 replace K1_3:=hc.room K1_3
 replace K1_4:=hc.room K1_4
 replace K1_5:=hc.room K1_5
 clear hc
 obtain ⟨f1,qf1⟩:∃ g,g = Y + X:=⟨_,rfl⟩
 rw [←qf1] at hv
 replace qf1:=hd qf1
 have E4:=hv
 clear hv
 go_wp2_with fail
 go_still_tail 6,(by kernel_rfl)
 go_wp2_with fail
 refine cG (fun W=>Chg (Rg bv ov 20) w W∧Room W bv ov 20∧Elt W bp op X∧Elt W bp (op + 5) Y∧Elt W bp (op + 10) Z∧Elt W bp (op + 15) T∧Elt W bq oq A∧Elt W bq (oq + 5) B∧Elt W bq (oq + 10) U∧Room W n1 0 5∧Room W (n1 + 1) 0 5∧Room W (n1 + 2) 0 5∧Room W (n1 + 3) 0 5∧Room W (n1 + 4) 0 5∧Room W (n1 + 5) 0 5∧Elt W n1 0 f1) ⟨C.drew,RM.drew,Ahp0.drew,Ahp1.drew,Ahp2.drew,Ahp3.drew,Ahq0.drew,Ahq1.drew,Ahq2.drew,K1_0.drew,K1_1.drew,K1_2.drew,K1_3.drew,K1_4.drew,K1_5.drew,E4.drew⟩ ?_
 clear C RM Ahp0 Ahp1 Ahp2 Ahp3 Ahq0 Ahq1 Ahq2 K1_0 K1_1 K1_2 K1_3 K1_4 K1_5 E4
 rintro W ⟨C,RM,Ahp0,Ahp1,Ahp2,Ahp3,Ahq0,Ahq1,Ahq2,K1_0,K1_1,K1_2,K1_3,K1_4,K1_5,E4⟩
 refine (sub_e K1_1 Ahp1 Ahp0 (fun e=>by omega) (fun e=>by omega)).mono ?_
 rintro e W ⟨rfl,hc,hv⟩
 replace C:=C.loc hc (by omega)
 replace RM:=hc.room RM
 replace Ahp0:=Ahp0.keep hc oa
 replace Ahp1:=Ahp1.keep hc oa
 replace Ahp2:=Ahp2.keep hc oa
 replace Ahp3:=Ahp3.keep hc oa
 replace Ahq0:=Ahq0.keep hc oa
 replace Ahq1:=Ahq1.keep hc oa
 replace Ahq2:=Ahq2.keep hc oa
 replace K1_0:=hc.room K1_0
 replace K1_1:=hc.room K1_1
 replace K1_2:=hc.room K1_2
 replace K1_3:=hc.room K1_3
 replace K1_4:=hc.room K1_4
 replace K1_5:=hc.room K1_5
 replace E4:=E4.keep hc oa
 clear hc
 obtain ⟨f2,qf2⟩:∃ g,g = Y - X:=⟨_,rfl⟩
 rw [←qf2] at hv
 replace qf2:=hd qf2
 have E5:=hv
 clear hv
 go_wp2_with fail
 refine (mul_e K1_2 E4 Ahq0).mono ?_
 rintro e W ⟨rfl,hc,hv⟩
 replace C:=C.loc hc (by omega)
 replace RM:=hc.room RM
 replace Ahp0:=Ahp0.keep hc oa
 replace Ahp1:=Ahp1.keep hc oa
 replace Ahp2:=Ahp2.keep hc oa
 replace Ahp3:=Ahp3.keep hc oa
 replace Ahq0:=Ahq0.keep hc oa
 replace Ahq1:=Ahq1.keep hc oa
 replace Ahq2:=Ahq2.keep hc oa
 replace K1_0:=hc.room K1_0
 replace K1_1:=hc.room K1_1
 replace K1_2:=hc.room K1_2
 replace K1_3:=hc.room K1_3
 replace K1_4:=hc.room K1_4
 replace K1_5:=hc.room K1_5
 replace E4:=E4.keep hc oa
 replace E5:=E5.keep hc oa
 clear hc
 obtain ⟨f3,qf3⟩:∃ g,g = f1 * A:=⟨_,rfl⟩
 rw [←qf3] at hv
 replace qf3:=hd qf3
 have E6:=hv
 clear hv
 go_wp2_with fail
 refine (mul_e K1_3 E5 Ahq1).mono ?_
 rintro e W ⟨rfl,hc,hv⟩
 replace C:=C.loc hc (by omega)
 replace RM:=hc.room RM
 replace Ahp0:=Ahp0.keep hc oa
 replace Ahp1:=Ahp1.keep hc oa
 replace Ahp2:=Ahp2.keep hc oa
 replace Ahp3:=Ahp3.keep hc oa
 replace Ahq0:=Ahq0.keep hc oa
 replace Ahq1:=Ahq1.keep hc oa
 replace Ahq2:=Ahq2.keep hc oa
 replace K1_0:=hc.room K1_0
 replace K1_1:=hc.room K1_1
 replace K1_2:=hc.room K1_2
 replace K1_3:=hc.room K1_3
 replace K1_4:=hc.room K1_4
 replace K1_5:=hc.room K1_5
 replace E4:=E4.keep hc oa
 replace E5:=E5.keep hc oa
 replace E6:=E6.keep hc oa
 clear hc
 obtain ⟨f4,qf4⟩:∃ g,g = f2 * B:=⟨_,rfl⟩
 rw [←qf4] at hv
 replace qf4:=hd qf4
 have E7:=hv
 clear hv
 go_wp2_with fail
 go_still_tail 6,(by kernel_rfl)
 go_wp2_with fail
 refine cG (fun W=>Chg (Rg bv ov 20) w W∧Room W bv ov 20∧Elt W bp op X∧Elt W bp (op + 5) Y∧Elt W bp (op + 10) Z∧Elt W bp (op + 15) T∧Elt W bq oq A∧Elt W bq (oq + 5) B∧Elt W bq (oq + 10) U∧Room W n1 0 5∧Room W (n1 + 1) 0 5∧Room W (n1 + 2) 0 5∧Room W (n1 + 3) 0 5∧Room W (n1 + 4) 0 5∧Room W (n1 + 5) 0 5∧Elt W n1 0 f1∧Elt W (n1 + 1) 0 f2∧Elt W (n1 + 2) 0 f3∧Elt W (n1 + 3) 0 f4) ⟨C.drew,RM.drew,Ahp0.drew,Ahp1.drew,Ahp2.drew,Ahp3.drew,Ahq0.drew,Ahq1.drew,Ahq2.drew,K1_0.drew,K1_1.drew,K1_2.drew,K1_3.drew,K1_4.drew,K1_5.drew,E4.drew,E5.drew,E6.drew,E7.drew⟩ ?_
 clear C RM Ahp0 Ahp1 Ahp2 Ahp3 Ahq0 Ahq1 Ahq2 K1_0 K1_1 K1_2 K1_3 K1_4 K1_5 E4 E5 E6 E7
 rintro W ⟨C,RM,Ahp0,Ahp1,Ahp2,Ahp3,Ahq0,Ahq1,Ahq2,K1_0,K1_1,K1_2,K1_3,K1_4,K1_5,E4,E5,E6,E7⟩
 refine (mul_e K1_4 Ahp3 Ahq2).mono ?_
 rintro e W ⟨rfl,hc,hv⟩
 replace C:=C.loc hc (by omega)
 replace RM:=hc.room RM
 replace Ahp0:=Ahp0.keep hc oa
 replace Ahp1:=Ahp1.keep hc oa
 replace Ahp2:=Ahp2.keep hc oa
 replace Ahp3:=Ahp3.keep hc oa
 replace Ahq0:=Ahq0.keep hc oa
 replace Ahq1:=Ahq1.keep hc oa
 replace Ahq2:=Ahq2.keep hc oa
 replace K1_0:=hc.room K1_0
 replace K1_1:=hc.room K1_1
 replace K1_2:=hc.room K1_2
 replace K1_3:=hc.room K1_3
 replace K1_4:=hc.room K1_4
 replace K1_5:=hc.room K1_5
 replace E4:=E4.keep hc oa
 replace E5:=E5.keep hc oa
 replace E6:=E6.keep hc oa
 replace E7:=E7.keep hc oa
 clear hc
 obtain ⟨f5,qf5⟩:∃ g,g = T * U:=⟨_,rfl⟩
 rw [←qf5] at hv
 replace qf5:=hd qf5
 have E8:=hv
 clear hv
 go_wp2_with fail
 go_still_tail 6,(by kernel_rfl)
 go_wp2_with fail
 refine cG (fun W=>Chg (Rg bv ov 20) w W∧Room W bv ov 20∧Elt W bp op X∧Elt W bp (op + 5) Y∧Elt W bp (op + 10) Z∧Elt W bp (op + 15) T∧Elt W bq oq A∧Elt W bq (oq + 5) B∧Elt W bq (oq + 10) U∧Room W n1 0 5∧Room W (n1 + 1) 0 5∧Room W (n1 + 2) 0 5∧Room W (n1 + 3) 0 5∧Room W (n1 + 4) 0 5∧Room W (n1 + 5) 0 5∧Elt W n1 0 f1∧Elt W (n1 + 1) 0 f2∧Elt W (n1 + 2) 0 f3∧Elt W (n1 + 3) 0 f4∧Elt W (n1 + 4) 0 f5) ⟨C.drew,RM.drew,Ahp0.drew,Ahp1.drew,Ahp2.drew,Ahp3.drew,Ahq0.drew,Ahq1.drew,Ahq2.drew,K1_0.drew,K1_1.drew,K1_2.drew,K1_3.drew,K1_4.drew,K1_5.drew,E4.drew,E5.drew,E6.drew,E7.drew,E8.drew⟩ ?_
 clear C RM Ahp0 Ahp1 Ahp2 Ahp3 Ahq0 Ahq1 Ahq2 K1_0 K1_1 K1_2 K1_3 K1_4 K1_5 E4 E5 E6 E7 E8
 rintro W ⟨C,RM,Ahp0,Ahp1,Ahp2,Ahp3,Ahq0,Ahq1,Ahq2,K1_0,K1_1,K1_2,K1_3,K1_4,K1_5,E4,E5,E6,E7,E8⟩
 refine (add_e K1_5 Ahp2 Ahp2 (fun e=>by omega) (fun e=>by omega)).mono ?_
 rintro e W ⟨rfl,hc,hv⟩
 replace C:=C.loc hc (by omega)
 replace RM:=hc.room RM
 replace Ahp0:=Ahp0.keep hc oa
 replace Ahp1:=Ahp1.keep hc oa
 replace Ahp2:=Ahp2.keep hc oa
 replace Ahp3:=Ahp3.keep hc oa
 replace Ahq0:=Ahq0.keep hc oa
 replace Ahq1:=Ahq1.keep hc oa
 replace Ahq2:=Ahq2.keep hc oa
 replace K1_0:=hc.room K1_0
 replace K1_1:=hc.room K1_1
 replace K1_2:=hc.room K1_2
 replace K1_3:=hc.room K1_3
 replace K1_4:=hc.room K1_4
 replace K1_5:=hc.room K1_5
 replace E4:=E4.keep hc oa
 replace E5:=E5.keep hc oa
 replace E6:=E6.keep hc oa
 replace E7:=E7.keep hc oa
 replace E8:=E8.keep hc oa
 clear hc
 obtain ⟨f6,qf6⟩:∃ g,g = Z + Z:=⟨_,rfl⟩
 rw [←qf6] at hv
 replace qf6:=hd qf6
 have E9:=hv
 clear hv
 go_wp2_with fail
 refine (sub_e (RM.part (by omega) (by omega)) E6 E7 (fun e=>by omega) (fun e=>by omega)).mono ?_
 rintro e W ⟨rfl,hc,hv⟩
 replace C:=C.into hc
 replace RM:=hc.room RM
 replace Ahp0:=Ahp0.keep hc oa
 replace Ahp1:=Ahp1.keep hc oa
 replace Ahp2:=Ahp2.keep hc oa
 replace Ahp3:=Ahp3.keep hc oa
 replace Ahq0:=Ahq0.keep hc oa
 replace Ahq1:=Ahq1.keep hc oa
 replace Ahq2:=Ahq2.keep hc oa
 replace K1_0:=hc.room K1_0
 replace K1_1:=hc.room K1_1
 replace K1_2:=hc.room K1_2
 replace K1_3:=hc.room K1_3
 replace K1_4:=hc.room K1_4
 replace K1_5:=hc.room K1_5
 replace E4:=E4.keep hc oa
 replace E5:=E5.keep hc oa
 replace E6:=E6.keep hc oa
 replace E7:=E7.keep hc oa
 replace E8:=E8.keep hc oa
 replace E9:=E9.keep hc oa
 clear hc
 obtain ⟨f7,qf7⟩:∃ g,g = f3 - f4:=⟨_,rfl⟩
 rw [←qf7] at hv
 replace qf7:=hd qf7
 have E10:=hv
 clear hv
 go_wp2_with fail
 refine (add_e (RM.part (by omega) (by omega)) E6 E7 (fun e=>by omega) (fun e=>by omega)).mono ?_
 rintro e W ⟨rfl,hc,hv⟩
 replace C:=C.into hc
 replace RM:=hc.room RM
 replace Ahp0:=Ahp0.keep hc oa
 replace Ahp1:=Ahp1.keep hc oa
 replace Ahp2:=Ahp2.keep hc oa
 replace Ahp3:=Ahp3.keep hc oa
 replace Ahq0:=Ahq0.keep hc oa
 replace Ahq1:=Ahq1.keep hc oa
 replace Ahq2:=Ahq2.keep hc oa
 replace K1_0:=hc.room K1_0
 replace K1_1:=hc.room K1_1
 replace K1_2:=hc.room K1_2
 replace K1_3:=hc.room K1_3
 replace K1_4:=hc.room K1_4
 replace K1_5:=hc.room K1_5
 replace E4:=E4.keep hc oa
 replace E5:=E5.keep hc oa
 replace E6:=E6.keep hc oa
 replace E7:=E7.keep hc oa
 replace E8:=E8.keep hc oa
 replace E9:=E9.keep hc oa
 replace E10:=E10.keep hc oa
 clear hc
 obtain ⟨f8,qf8⟩:∃ g,g = f3 + f4:=⟨_,rfl⟩
 rw [←qf8] at hv
 replace qf8:=hd qf8
 have E11:=hv
 clear hv
 go_wp2_with fail
 refine (add_e (RM.part (by omega) (by omega)) E9 E8 (fun e=>by omega) (fun e=>by omega)).mono ?_
 rintro e W ⟨rfl,hc,hv⟩
 replace C:=C.into hc
 replace RM:=hc.room RM
 replace Ahp0:=Ahp0.keep hc oa
 replace Ahp1:=Ahp1.keep hc oa
 replace Ahp2:=Ahp2.keep hc oa
 replace Ahp3:=Ahp3.keep hc oa
 replace Ahq0:=Ahq0.keep hc oa
 replace Ahq1:=Ahq1.keep hc oa
 replace Ahq2:=Ahq2.keep hc oa
 replace K1_0:=hc.room K1_0
 replace K1_1:=hc.room K1_1
 replace K1_2:=hc.room K1_2
 replace K1_3:=hc.room K1_3
 replace K1_4:=hc.room K1_4
 replace K1_5:=hc.room K1_5
 replace E4:=E4.keep hc oa
 replace E5:=E5.keep hc oa
 replace E6:=E6.keep hc oa
 replace E7:=E7.keep hc oa
 replace E8:=E8.keep hc oa
 replace E9:=E9.keep hc oa
 replace E10:=E10.keep hc oa
 replace E11:=E11.keep hc oa
 clear hc
 obtain ⟨f9,qf9⟩:∃ g,g = f6 + f5:=⟨_,rfl⟩
 rw [←qf9] at hv
 replace qf9:=hd qf9
 have E12:=hv
 clear hv
 go_wp2_with fail
 refine (sub_e (RM.part (by omega) (by omega)) E9 E8 (fun e=>by omega) (fun e=>by omega)).mono ?_
 rintro e W ⟨rfl,hc,hv⟩
 replace C:=C.into hc
 replace RM:=hc.room RM
 replace Ahp0:=Ahp0.keep hc oa
 replace Ahp1:=Ahp1.keep hc oa
 replace Ahp2:=Ahp2.keep hc oa
 replace Ahp3:=Ahp3.keep hc oa
 replace Ahq0:=Ahq0.keep hc oa
 replace Ahq1:=Ahq1.keep hc oa
 replace Ahq2:=Ahq2.keep hc oa
 replace K1_0:=hc.room K1_0
 replace K1_1:=hc.room K1_1
 replace K1_2:=hc.room K1_2
 replace K1_3:=hc.room K1_3
 replace K1_4:=hc.room K1_4
 replace K1_5:=hc.room K1_5
 replace E4:=E4.keep hc oa
 replace E5:=E5.keep hc oa
 replace E6:=E6.keep hc oa
 replace E7:=E7.keep hc oa
 replace E8:=E8.keep hc oa
 replace E9:=E9.keep hc oa
 replace E10:=E10.keep hc oa
 replace E11:=E11.keep hc oa
 replace E12:=E12.keep hc oa
 clear hc
 obtain ⟨f10,qf10⟩:∃ g,g = f6 - f5:=⟨_,rfl⟩
 rw [←qf10] at hv
 replace qf10:=hd qf10
 have E13:=hv
 clear hv
 go_wp2_with fail
 go_ret
 obtain rfl:=qf1.out
 obtain rfl:=qf2.out
 obtain rfl:=qf3.out
 obtain rfl:=qf4.out
 obtain rfl:=qf5.out
 obtain rfl:=qf6.out
 obtain rfl:=qf7.out
 obtain rfl:=qf8.out
 obtain rfl:=qf9.out
 obtain rfl:=qf10.out
 exact ⟨rfl,C,_,_,_,_,E10,E11,E12,E13,rhp.addAf rhq⟩
end Go.Proofs.Ed
