/- A part of the proof of the tied card of FnTimes: Pt3, Pt4, Dec. -/
import Derived.Test.YtcogfofgmbndjaaGreatDoorProg
import Derived.WalkKit
import Derived.WalkSpells
import Derived.WalkLawsBesides
import Derived.Outline
import Derived.StillTailTactics
import Derived.Test.YtcogfofgmbndjaaGreatDoorTAr
import Derived.Test.YtcogfofgmbndjaaGreatDoorTAc
import Derived.Test.YtcogfofgmbndjaaGreatDoorTAs
import Derived.Test.YtcogfofgmbndjaaGreatDoorTAt
set_option maxRecDepth 100000
set_option maxHeartbeats 40000000
namespace Go.Proofs.Ed
open Go.RowKit
def selP (c:Int) (p q:Pt):Pt:=if c = 1 then p else q
theorem swap_e {bv ov bx ox:Nat} {f g:F} {w:World} {c:Int} (h01:c = 1∨c = 0) (X:Elt w bv ov f) (Y:Elt w bx ox g) (hs:bv = bx→ov + 5 ≤ ox∨ox + 5 ≤ ov) :
  Calls Tryz.prog 125 #[Ptr bv ov,Ptr bx ox,.int .i64 c] w fun e w'=>e = .returned (.tuple #[])∧Chg (Ru (Rg bv ov 5) (Rg bx ox 5)) w w'∧Elt w' bv ov (selF c g f)∧Elt w' bx ox (selF c f g):=by
 obtain ⟨x,hx,rfl,X⟩:=X
 obtain ⟨y,hy,rfl,Y⟩:=Y
 rcases h01 with rfl | rfl
 ·exact (swap1_c bv ov bx ox x y w hx hy hs X Y).mono fun _ _ h=>⟨h.1,h.2.1,⟨y,hy,rfl,h.2.2.1⟩,⟨x,hx,rfl,h.2.2.2⟩⟩
 ·exact (swap0_c bv ov bx ox x y w hx hy hs X Y).mono fun _ _ h=>⟨h.1,h.2.1,⟨x,hx,rfl,h.2.2.1⟩,⟨y,hy,rfl,h.2.2.2⟩⟩
theorem Ca.zero:Ca 1 1 1 0 0:=⟨one_ne_zero,by rw [zero_x,zero_y];decide +kernel,by rw [zero_x,zero_y];decide +kernel,by rw [zero_x,zero_y];decide +kernel⟩
theorem Af.zero:Af 1 1 0 0:=⟨by rw [zero_x,zero_y];decide +kernel,by rw [zero_x,zero_y];decide +kernel,by rw [zero_x,zero_y];decide +kernel⟩
theorem Pj.zero:Pj 0 1 1 0:=⟨one_ne_zero,by rw [zero_x];grind,by rw [zero_y];grind⟩
theorem Ca.sel {A B Z T A' B' Z' T':F} {p q:Pt} {c:Int} (h:Ca A B Z T p) (k:Ca A' B' Z' T' q):Ca (selF c A A') (selF c B B') (selF c Z Z') (selF c T T') (selP c p q):=by
 unfold selF selP;split<;>assumption
theorem Af.sel {A B T A' B' T':F} {p q:Pt} {c:Int} (h:Af A B T p) (k:Af A' B' T' q):Af (selF c A A') (selF c B B') (selF c T T') (selP c p q):=by
 unfold selF selP;split<;>assumption
theorem Ca.cond {A B Z T:F} {p:Pt} {c:Int} (h:Ca A B Z T p):Ca (selF c B A) (selF c A B) Z (selF c (-T) T) (selP c (-p) p):=by
 unfold selF selP;split
 ·obtain ⟨h1,h2,h3,h4⟩:=h
  exact ⟨h1,by rw [neg_x,neg_y,h3];grind,by rw [neg_x,neg_y,h2];grind,by rw [neg_x,neg_y,h4];grind⟩
 ·assumption
theorem Af.cond {A B T:F} {p:Pt} {c:Int} (h:Af A B T p):Af (selF c B A) (selF c A B) (selF c (-T) T) (selP c (-p) p):=by
 unfold selF selP;split
 ·obtain ⟨h2,h3,h4⟩:=h
  exact ⟨by rw [neg_x,neg_y,h3];grind,by rw [neg_x,neg_y,h2];grind,by rw [neg_x,neg_y,h4];grind⟩
 ·assumption
theorem pcZero_e {bv ov:Nat} {w:World} (RM:Room w bv ov 20) :
  Calls Tryz.prog 92 #[Ptr bv ov] w (fun e w'=>e = .returned (Ptr bv ov)∧Chg (Rg bv ov 20) w w'∧PC w' bv ov 0):=by
 have C:Chg (Rg bv ov 20) w w:=.refl _ _
 go_enter Tryz.func92,Tryz.ntmps92
 go_wp2_with fail
 refine (one_e (RM.part (by omega) (by omega))).mono ?_
 rintro e W ⟨rfl,hc,hv⟩
 replace C:=C.into hc
 replace RM:=hc.room RM
 clear hc
 have E1:=hv
 clear hv
 go_wp2_with fail
 refine (one_e (RM.part (by omega) (by omega))).mono ?_
 rintro e W ⟨rfl,hc,hv⟩
 replace C:=C.into hc
 replace RM:=hc.room RM
 replace E1:=E1.keep hc oa
 clear hc
 have E2:=hv
 clear hv
 go_wp2_with fail
 refine (one_e (RM.part (by omega) (by omega))).mono ?_
 rintro e W ⟨rfl,hc,hv⟩
 replace C:=C.into hc
 replace RM:=hc.room RM
 replace E1:=E1.keep hc oa
 replace E2:=E2.keep hc oa
 clear hc
 have E3:=hv
 clear hv
 go_wp2_with fail
 refine (zero_e (RM.part (by omega) (by omega))).mono ?_
 rintro e W ⟨rfl,hc,hv⟩
 replace C:=C.into hc
 replace RM:=hc.room RM
 replace E1:=E1.keep hc oa
 replace E2:=E2.keep hc oa
 replace E3:=E3.keep hc oa
 clear hc
 have E4:=hv
 clear hv
 go_wp2_with fail
 go_ret
 exact ⟨rfl,C,_,_,_,_,E1,E2,E3,E4,Ca.zero⟩
theorem paZero_e {bv ov:Nat} {w:World} (RM:Room w bv ov 15) :
  Calls Tryz.prog 102 #[Ptr bv ov] w (fun e w'=>e = .returned (Ptr bv ov)∧Chg (Rg bv ov 15) w w'∧PA w' bv ov 0):=by
 have C:Chg (Rg bv ov 15) w w:=.refl _ _
 go_enter Tryz.func102,Tryz.ntmps102
 go_wp2_with fail
 refine (one_e (RM.part (by omega) (by omega))).mono ?_
 rintro e W ⟨rfl,hc,hv⟩
 replace C:=C.into hc
 replace RM:=hc.room RM
 clear hc
 have E1:=hv
 clear hv
 go_wp2_with fail
 refine (one_e (RM.part (by omega) (by omega))).mono ?_
 rintro e W ⟨rfl,hc,hv⟩
 replace C:=C.into hc
 replace RM:=hc.room RM
 replace E1:=E1.keep hc oa
 clear hc
 have E2:=hv
 clear hv
 go_wp2_with fail
 refine (zero_e (RM.part (by omega) (by omega))).mono ?_
 rintro e W ⟨rfl,hc,hv⟩
 replace C:=C.into hc
 replace RM:=hc.room RM
 replace E1:=E1.keep hc oa
 replace E2:=E2.keep hc oa
 clear hc
 have E3:=hv
 clear hv
 go_wp2_with fail
 go_ret
 exact ⟨rfl,C,_,_,_,E1,E2,E3,Af.zero⟩
theorem p2Zero_e {bv ov:Nat} {w:World} (RM:Room w bv ov 15) :
  Calls Tryz.prog 62 #[Ptr bv ov] w (fun e w'=>e = .returned (Ptr bv ov)∧Chg (Rg bv ov 15) w w'∧P2 w' bv ov 0):=by
 have C:Chg (Rg bv ov 15) w w:=.refl _ _
 go_enter Tryz.func62,Tryz.ntmps62
 go_wp2_with fail
 refine (zero_e (RM.part (by omega) (by omega))).mono ?_
 rintro e W ⟨rfl,hc,hv⟩
 replace C:=C.into hc
 replace RM:=hc.room RM
 clear hc
 have E1:=hv
 clear hv
 go_wp2_with fail
 refine (one_e (RM.part (by omega) (by omega))).mono ?_
 rintro e W ⟨rfl,hc,hv⟩
 replace C:=C.into hc
 replace RM:=hc.room RM
 replace E1:=E1.keep hc oa
 clear hc
 have E2:=hv
 clear hv
 go_wp2_with fail
 refine (one_e (RM.part (by omega) (by omega))).mono ?_
 rintro e W ⟨rfl,hc,hv⟩
 replace C:=C.into hc
 replace RM:=hc.room RM
 replace E1:=E1.keep hc oa
 replace E2:=E2.keep hc oa
 clear hc
 have E3:=hv
 clear hv
 go_wp2_with fail
 go_ret
 exact ⟨rfl,C,_,_,_,E1,E2,E3,Pj.zero⟩
theorem pcSel_e {bv ov bp op:Nat} {p q:Pt} {c:Int} {w:World} (h01:c = 1∨c = 0) (hp:PC w bp op p) (hq:PC w bv ov q) (hs:bv ≠ bp∨ov + 20 ≤ op∨op + 20 ≤ ov) :
  Calls Tryz.prog 94 #[Ptr bv ov,Ptr bp op,Ptr bv ov,.int .i64 c] w (fun e w'=>e = .returned (Ptr bv ov)∧Chg (Rg bv ov 20) w w'∧PC w' bv ov (selP c p q)):=by
 have RM:=hq.room
 obtain ⟨X,Y,Z,T,Ap0,Ap1,Ap2,Ap3,rp⟩:=hp
 obtain ⟨A,B,D,U,Av0,Av1,Av2,Av3,rq⟩:=hq
 have C:Chg (Rg bv ov 20) w w:=.refl _ _
 go_enter Tryz.func94,Tryz.ntmps94
 go_wp2_with fail
 go_still_tail 10,(by kernel_rfl)
 go_wp2_with fail
 refine cG (fun W=>Chg (Rg bv ov 20) w W∧Room W bv ov 20∧Elt W bp op X∧Elt W bp (op + 5) Y∧Elt W bp (op + 10) Z∧Elt W bp (op + 15) T∧Elt W bv ov A∧Elt W bv (ov + 5) B∧Elt W bv (ov + 10) D∧Elt W bv (ov + 15) U) ⟨C.drew,RM.drew,Ap0.drew,Ap1.drew,Ap2.drew,Ap3.drew,Av0.drew,Av1.drew,Av2.drew,Av3.drew⟩ ?_
 clear C RM Ap0 Ap1 Ap2 Ap3 Av0 Av1 Av2 Av3
 rintro W ⟨C,RM,Ap0,Ap1,Ap2,Ap3,Av0,Av1,Av2,Av3⟩
 refine (sel_e' (h01) (RM.part (by omega) (by omega)) Ap0 Av0 (fun e=>by omega) (fun e=>by omega)).mono ?_
 rintro e W ⟨rfl,hc,hv⟩
 replace C:=C.into hc
 replace RM:=hc.room RM
 replace Ap0:=Ap0.keep hc oa
 replace Ap1:=Ap1.keep hc oa
 replace Ap2:=Ap2.keep hc oa
 replace Ap3:=Ap3.keep hc oa
 clear Av0
 replace Av1:=Av1.keep hc oa
 replace Av2:=Av2.keep hc oa
 replace Av3:=Av3.keep hc oa
 clear hc
 obtain ⟨f1,qf1⟩:∃ g,g = selF c X A:=⟨_,rfl⟩
 rw [←qf1] at hv
 replace qf1:=hd qf1
 have E1:=hv
 clear hv
 go_wp2_with fail
 go_still_tail 10,(by kernel_rfl)
 go_wp2_with fail
 refine cG (fun W=>Chg (Rg bv ov 20) w W∧Room W bv ov 20∧Elt W bp op X∧Elt W bp (op + 5) Y∧Elt W bp (op + 10) Z∧Elt W bp (op + 15) T∧Elt W bv (ov + 5) B∧Elt W bv (ov + 10) D∧Elt W bv (ov + 15) U∧Elt W bv ov f1) ⟨C.drew,RM.drew,Ap0.drew,Ap1.drew,Ap2.drew,Ap3.drew,Av1.drew,Av2.drew,Av3.drew,E1.drew⟩ ?_
 clear C RM Ap0 Ap1 Ap2 Ap3 Av1 Av2 Av3 E1
 rintro W ⟨C,RM,Ap0,Ap1,Ap2,Ap3,Av1,Av2,Av3,E1⟩
 refine (sel_e' (h01) (RM.part (by omega) (by omega)) Ap1 Av1 (fun e=>by omega) (fun e=>by omega)).mono ?_
 rintro e W ⟨rfl,hc,hv⟩
 replace C:=C.into hc
 replace RM:=hc.room RM
 replace Ap0:=Ap0.keep hc oa
 replace Ap1:=Ap1.keep hc oa
 replace Ap2:=Ap2.keep hc oa
 replace Ap3:=Ap3.keep hc oa
 clear Av1
 replace Av2:=Av2.keep hc oa
 replace Av3:=Av3.keep hc oa
 replace E1:=E1.keep hc oa
 clear hc
 obtain ⟨f2,qf2⟩:∃ g,g = selF c Y B:=⟨_,rfl⟩
 rw [←qf2] at hv
 replace qf2:=hd qf2
 have E2:=hv
 clear hv
 go_wp2_with fail
 go_still_tail 10,(by kernel_rfl)
 go_wp2_with fail
 refine cG (fun W=>Chg (Rg bv ov 20) w W∧Room W bv ov 20∧Elt W bp op X∧Elt W bp (op + 5) Y∧Elt W bp (op + 10) Z∧Elt W bp (op + 15) T∧Elt W bv (ov + 10) D∧Elt W bv (ov + 15) U∧Elt W bv ov f1∧Elt W bv (ov + 5) f2) ⟨C.drew,RM.drew,Ap0.drew,Ap1.drew,Ap2.drew,Ap3.drew,Av2.drew,Av3.drew,E1.drew,E2.drew⟩ ?_
 clear C RM Ap0 Ap1 Ap2 Ap3 Av2 Av3 E1 E2
 rintro W ⟨C,RM,Ap0,Ap1,Ap2,Ap3,Av2,Av3,E1,E2⟩
 refine (sel_e' (h01) (RM.part (by omega) (by omega)) Ap2 Av2 (fun e=>by omega) (fun e=>by omega)).mono ?_
 rintro e W ⟨rfl,hc,hv⟩
 replace C:=C.into hc
 replace RM:=hc.room RM
 replace Ap0:=Ap0.keep hc oa
 replace Ap1:=Ap1.keep hc oa
 replace Ap2:=Ap2.keep hc oa
 replace Ap3:=Ap3.keep hc oa
 clear Av2
 replace Av3:=Av3.keep hc oa
 replace E1:=E1.keep hc oa
 replace E2:=E2.keep hc oa
 clear hc
 obtain ⟨f3,qf3⟩:∃ g,g = selF c Z D:=⟨_,rfl⟩
 rw [←qf3] at hv
 replace qf3:=hd qf3
 have E3:=hv
 clear hv
 go_wp2_with fail
 go_still_tail 10,(by kernel_rfl)
 go_wp2_with fail
 refine cG (fun W=>Chg (Rg bv ov 20) w W∧Room W bv ov 20∧Elt W bp op X∧Elt W bp (op + 5) Y∧Elt W bp (op + 10) Z∧Elt W bp (op + 15) T∧Elt W bv (ov + 15) U∧Elt W bv ov f1∧Elt W bv (ov + 5) f2∧Elt W bv (ov + 10) f3) ⟨C.drew,RM.drew,Ap0.drew,Ap1.drew,Ap2.drew,Ap3.drew,Av3.drew,E1.drew,E2.drew,E3.drew⟩ ?_
 clear C RM Ap0 Ap1 Ap2 Ap3 Av3 E1 E2 E3
 rintro W ⟨C,RM,Ap0,Ap1,Ap2,Ap3,Av3,E1,E2,E3⟩
 refine (sel_e' (h01) (RM.part (by omega) (by omega)) Ap3 Av3 (fun e=>by omega) (fun e=>by omega)).mono ?_
 rintro e W ⟨rfl,hc,hv⟩
 replace C:=C.into hc
 replace RM:=hc.room RM
 replace Ap0:=Ap0.keep hc oa
 replace Ap1:=Ap1.keep hc oa
 replace Ap2:=Ap2.keep hc oa
 replace Ap3:=Ap3.keep hc oa
 clear Av3
 replace E1:=E1.keep hc oa
 replace E2:=E2.keep hc oa
 replace E3:=E3.keep hc oa
 clear hc
 obtain ⟨f4,qf4⟩:∃ g,g = selF c T U:=⟨_,rfl⟩
 rw [←qf4] at hv
 replace qf4:=hd qf4
 have E4:=hv
 clear hv
 go_wp2_with fail
 go_ret
 obtain rfl:=qf1.out
 obtain rfl:=qf2.out
 obtain rfl:=qf3.out
 obtain rfl:=qf4.out
 exact ⟨rfl,C,_,_,_,_,E1,E2,E3,E4,rp.sel rq⟩
theorem paSel_e {bv ov bp op:Nat} {p q:Pt} {c:Int} {w:World} (h01:c = 1∨c = 0) (hp:PA w bp op p) (hq:PA w bv ov q) (hs:bv ≠ bp∨ov + 15 ≤ op∨op + 15 ≤ ov) :
  Calls Tryz.prog 103 #[Ptr bv ov,Ptr bp op,Ptr bv ov,.int .i64 c] w (fun e w'=>e = .returned (Ptr bv ov)∧Chg (Rg bv ov 15) w w'∧PA w' bv ov (selP c p q)):=by
 have RM:=hq.room
 obtain ⟨X,Y,Z,Ap0,Ap1,Ap2,rp⟩:=hp
 obtain ⟨A,B,D,Av0,Av1,Av2,rq⟩:=hq
 have C:Chg (Rg bv ov 15) w w:=.refl _ _
 go_enter Tryz.func103,Tryz.ntmps103
 go_wp2_with fail
 go_still_tail 10,(by kernel_rfl)
 go_wp2_with fail
 refine cG (fun W=>Chg (Rg bv ov 15) w W∧Room W bv ov 15∧Elt W bp op X∧Elt W bp (op + 5) Y∧Elt W bp (op + 10) Z∧Elt W bv ov A∧Elt W bv (ov + 5) B∧Elt W bv (ov + 10) D) ⟨C.drew,RM.drew,Ap0.drew,Ap1.drew,Ap2.drew,Av0.drew,Av1.drew,Av2.drew⟩ ?_
 clear C RM Ap0 Ap1 Ap2 Av0 Av1 Av2
 rintro W ⟨C,RM,Ap0,Ap1,Ap2,Av0,Av1,Av2⟩
 refine (sel_e' (h01) (RM.part (by omega) (by omega)) Ap0 Av0 (fun e=>by omega) (fun e=>by omega)).mono ?_
 rintro e W ⟨rfl,hc,hv⟩
 replace C:=C.into hc
 replace RM:=hc.room RM
 replace Ap0:=Ap0.keep hc oa
 replace Ap1:=Ap1.keep hc oa
 replace Ap2:=Ap2.keep hc oa
 clear Av0
 replace Av1:=Av1.keep hc oa
 replace Av2:=Av2.keep hc oa
 clear hc
 obtain ⟨f1,qf1⟩:∃ g,g = selF c X A:=⟨_,rfl⟩
 rw [←qf1] at hv
 replace qf1:=hd qf1
 have E1:=hv
 clear hv
 go_wp2_with fail
 go_still_tail 10,(by kernel_rfl)
 go_wp2_with fail
 refine cG (fun W=>Chg (Rg bv ov 15) w W∧Room W bv ov 15∧Elt W bp op X∧Elt W bp (op + 5) Y∧Elt W bp (op + 10) Z∧Elt W bv (ov + 5) B∧Elt W bv (ov + 10) D∧Elt W bv ov f1) ⟨C.drew,RM.drew,Ap0.drew,Ap1.drew,Ap2.drew,Av1.drew,Av2.drew,E1.drew⟩ ?_
 clear C RM Ap0 Ap1 Ap2 Av1 Av2 E1
 rintro W ⟨C,RM,Ap0,Ap1,Ap2,Av1,Av2,E1⟩
 refine (sel_e' (h01) (RM.part (by omega) (by omega)) Ap1 Av1 (fun e=>by omega) (fun e=>by omega)).mono ?_
 rintro e W ⟨rfl,hc,hv⟩
 replace C:=C.into hc
 replace RM:=hc.room RM
 replace Ap0:=Ap0.keep hc oa
 replace Ap1:=Ap1.keep hc oa
 replace Ap2:=Ap2.keep hc oa
 clear Av1
 replace Av2:=Av2.keep hc oa
 replace E1:=E1.keep hc oa
 clear hc
 obtain ⟨f2,qf2⟩:∃ g,g = selF c Y B:=⟨_,rfl⟩
 rw [←qf2] at hv
 replace qf2:=hd qf2
 have E2:=hv
 clear hv
 go_wp2_with fail
 go_still_tail 10,(by kernel_rfl)
 go_wp2_with fail
 refine cG (fun W=>Chg (Rg bv ov 15) w W∧Room W bv ov 15∧Elt W bp op X∧Elt W bp (op + 5) Y∧Elt W bp (op + 10) Z∧Elt W bv (ov + 10) D∧Elt W bv ov f1∧Elt W bv (ov + 5) f2) ⟨C.drew,RM.drew,Ap0.drew,Ap1.drew,Ap2.drew,Av2.drew,E1.drew,E2.drew⟩ ?_
 clear C RM Ap0 Ap1 Ap2 Av2 E1 E2
 rintro W ⟨C,RM,Ap0,Ap1,Ap2,Av2,E1,E2⟩
 refine (sel_e' (h01) (RM.part (by omega) (by omega)) Ap2 Av2 (fun e=>by omega) (fun e=>by omega)).mono ?_
 rintro e W ⟨rfl,hc,hv⟩
 replace C:=C.into hc
 replace RM:=hc.room RM
 replace Ap0:=Ap0.keep hc oa
 replace Ap1:=Ap1.keep hc oa
 replace Ap2:=Ap2.keep hc oa
 clear Av2
 replace E1:=E1.keep hc oa
 replace E2:=E2.keep hc oa
 clear hc
 obtain ⟨f3,qf3⟩:∃ g,g = selF c Z D:=⟨_,rfl⟩
 rw [←qf3] at hv
 replace qf3:=hd qf3
 have E3:=hv
 clear hv
 go_wp2_with fail
 go_ret
 obtain rfl:=qf1.out
 obtain rfl:=qf2.out
 obtain rfl:=qf3.out
 exact ⟨rfl,C,_,_,_,E1,E2,E3,rp.sel rq⟩
theorem pcNeg_e {bv ov:Nat} {p:Pt} {c:Int} {w:World} (h01:c = 1∨c = 0) (hp:PC w bv ov p) :
  Calls Tryz.prog 95 #[Ptr bv ov,.int .i64 c] w (fun e w'=>e = .returned (Ptr bv ov)∧Chg (Rg bv ov 20) w w'∧PC w' bv ov (selP c (-p) p)):=by
 have RM:=hp.room
 obtain ⟨X,Y,Z,T,Av0,Av1,Av2,Av3,rp⟩:=hp
 have C:Chg (Rg bv ov 20) w w:=.refl _ _
 go_enter Tryz.func95,Tryz.ntmps95
 go_wp2_with fail
 go_still_tail 7,(by kernel_rfl)
 go_wp2_with fail
 refine cG (fun W=>Chg (Rg bv ov 20) w W∧Room W bv ov 20∧Elt W bv ov X∧Elt W bv (ov + 5) Y∧Elt W bv (ov + 10) Z∧Elt W bv (ov + 15) T) ⟨C.drew,RM.drew,Av0.drew,Av1.drew,Av2.drew,Av3.drew⟩ ?_
 clear C RM Av0 Av1 Av2 Av3
 rintro W ⟨C,RM,Av0,Av1,Av2,Av3⟩
 refine (swap_e h01 Av0 Av1 (fun e=>by omega)).mono ?_
 rintro e W ⟨rfl,hc,hv,hu⟩
 replace C:=C.step hc (fun _ _ hj h=>by rcases h with ⟨h1,h2,h3⟩ | ⟨h1,h2,h3⟩<;>first | omega | (exact ⟨h1,by omega,by omega⟩))
 replace RM:=hc.room RM
 clear Av0
 clear Av1
 replace Av2:=Av2.keep hc (off_ru oa oa)
 replace Av3:=Av3.keep hc (off_ru oa oa)
 clear hc
 obtain ⟨f1,qf1⟩:∃ g,g = selF c Y X:=⟨_,rfl⟩
 rw [←qf1] at hv
 replace qf1:=hd qf1
 have E1:=hv
 clear hv
 obtain ⟨f2,qf2⟩:∃ g,g = selF c X Y:=⟨_,rfl⟩
 rw [←qf2] at hu
 replace qf2:=hd qf2
 have E2:=hu
 clear hu
 go_wp2_with fail
 refine region_mix [(0,true),(1,true),(2,true),(4,true),(5,true),(6,true),(8,true),(9,true),(10,true),(11,true),(3,false),(7,false),(12,false)] (by kernel_rfl) (by kernel_rfl) ?_
 simp only [pick,List.map_cons,List.map_nil,List.getD_cons_zero,List.getD_cons_succ]
 repeat (refine wpMix_blind' (fun ne K hK=>?_);go_simp;refine hK _ ?_;clear hK K ne;simp only [Act.put,iA,iB,iC])
 refine wpMix_world (fun K hK=>?_)
 go_wp2_with fail
 go_wp2_with fail
 repeat (refine wpMix_blind' (fun ne K hK=>?_);go_simp;refine hK _ ?_;clear hK K ne;simp only [Act.put,iA,iB,iC])
 refine wpMix_world (fun K hK=>?_)
 go_wp2_with fail
 go_wp2_with fail
 obtain ⟨n1,ln1⟩:∃ n,W.heap.size = n:=⟨_,rfl⟩
 rw [ln1]
 have hb:=aB [z73] W
 have zn1:w.heap.size ≤ n1:=ln1 ▸ C.size
 have y3:bv < n1:=ln1 ▸ RM.lt (by decide)
 replace C:=C.trans (Chg.of_below hb)
 replace RM:=RM.later hb
 replace Av2:=Av2.keep (Chg.of_below (R:=R0) hb) (fun _ _ h=>h)
 replace Av3:=Av3.keep (Chg.of_below (R:=R0) hb) (fun _ _ h=>h)
 replace E1:=E1.keep (Chg.of_below (R:=R0) hb) (fun _ _ h=>h)
 replace E2:=E2.keep (Chg.of_below (R:=R0) hb) (fun _ _ h=>h)
 have K1_0:=(aH [z73] W 0 (List.replicate 5 (.int .u64 0)) 73 rfl).room (n:=5) rfl
 rw [ln1] at K1_0
 refine cG (fun W=>Chg (Rg bv ov 20) w W∧Room W bv ov 20∧Elt W bv (ov + 10) Z∧Elt W bv (ov + 15) T∧Elt W bv ov f1∧Elt W bv (ov + 5) f2∧Room W n1 0 5) ⟨C.drew,RM.drew,Av2.drew,Av3.drew,E1.drew,E2.drew,K1_0.drew⟩ ?_
 clear C RM Av2 Av3 E1 E2 K1_0 hb ln1
 rintro W ⟨C,RM,Av2,Av3,E1,E2,K1_0⟩
 refine (neg_e K1_0 Av3 (fun e=>by omega)).mono ?_
 rintro e W ⟨rfl,hc,hv⟩
 replace C:=C.loc hc (by omega)
 replace RM:=hc.room RM
 replace Av2:=Av2.keep hc oa
 replace Av3:=Av3.keep hc oa
 replace E1:=E1.keep hc oa
 replace E2:=E2.keep hc oa
 replace K1_0:=hc.room K1_0
 clear hc
 obtain ⟨f3,qf3⟩:∃ g,g = -T:=⟨_,rfl⟩
 rw [←qf3] at hv
 replace qf3:=hd qf3
 have E4:=hv
 clear hv
 go_wp2_with fail
 repeat (refine wpMix_blind' (fun ne K hK=>?_);go_simp;refine hK _ ?_;clear hK K ne;simp only [Act.put,iA,iB,iC])
 refine wpMix_world (fun K hK=>?_)
 go_wp2_with fail
 go_wp2_with fail
 refine (sel_e' (h01) (RM.part (by omega) (by omega)) E4 Av3 (fun e=>by omega) (fun e=>by omega)).mono ?_
 rintro e W ⟨rfl,hc,hv⟩
 replace C:=C.into hc
 replace RM:=hc.room RM
 replace Av2:=Av2.keep hc oa
 clear Av3
 replace E1:=E1.keep hc oa
 replace E2:=E2.keep hc oa
 replace K1_0:=hc.room K1_0
 replace E4:=E4.keep hc oa
 clear hc
 obtain ⟨f4,qf4⟩:∃ g,g = selF c f3 T:=⟨_,rfl⟩
 rw [←qf4] at hv
 replace qf4:=hd qf4
 have E5:=hv
 clear hv
 go_wp2_with fail
 repeat (refine wpMix_blind' (fun ne K hK=>?_);go_simp;refine hK _ ?_;clear hK K ne;simp only [Act.put,iA,iB,iC])
 refine wpMix_nil ?_
 go_wp2_with fail
 go_ret
 obtain rfl:=qf1.out
 obtain rfl:=qf2.out
 obtain rfl:=qf3.out
 obtain rfl:=qf4.out
 exact ⟨rfl,C,_,_,_,_,E1,E2,Av2,E5,rp.cond⟩
theorem paNeg_e {bv ov:Nat} {p:Pt} {c:Int} {w:World} (h01:c = 1∨c = 0) (hp:PA w bv ov p) :
  Calls Tryz.prog 104 #[Ptr bv ov,.int .i64 c] w (fun e w'=>e = .returned (Ptr bv ov)∧Chg (Rg bv ov 15) w w'∧PA w' bv ov (selP c (-p) p)):=by
 have RM:=hp.room
 obtain ⟨X,Y,T,Av0,Av1,Av2,rp⟩:=hp
 have C:Chg (Rg bv ov 15) w w:=.refl _ _
 go_enter Tryz.func104,Tryz.ntmps104
 go_wp2_with fail
 go_still_tail 7,(by kernel_rfl)
 go_wp2_with fail
 refine cG (fun W=>Chg (Rg bv ov 15) w W∧Room W bv ov 15∧Elt W bv ov X∧Elt W bv (ov + 5) Y∧Elt W bv (ov + 10) T) ⟨C.drew,RM.drew,Av0.drew,Av1.drew,Av2.drew⟩ ?_
 clear C RM Av0 Av1 Av2
 rintro W ⟨C,RM,Av0,Av1,Av2⟩
 refine (swap_e h01 Av0 Av1 (fun e=>by omega)).mono ?_
 rintro e W ⟨rfl,hc,hv,hu⟩
 replace C:=C.step hc (fun _ _ hj h=>by rcases h with ⟨h1,h2,h3⟩ | ⟨h1,h2,h3⟩<;>first | omega | (exact ⟨h1,by omega,by omega⟩))
 replace RM:=hc.room RM
 clear Av0
 clear Av1
 replace Av2:=Av2.keep hc (off_ru oa oa)
 clear hc
 obtain ⟨f1,qf1⟩:∃ g,g = selF c Y X:=⟨_,rfl⟩
 rw [←qf1] at hv
 replace qf1:=hd qf1
 have E1:=hv
 clear hv
 obtain ⟨f2,qf2⟩:∃ g,g = selF c X Y:=⟨_,rfl⟩
 rw [←qf2] at hu
 replace qf2:=hd qf2
 have E2:=hu
 clear hu
 go_wp2_with fail
 refine region_mix [(0,true),(1,true),(2,true),(4,true),(5,true),(6,true),(8,true),(9,true),(10,true),(11,true),(3,false),(7,false),(12,false)] (by kernel_rfl) (by kernel_rfl) ?_
 simp only [pick,List.map_cons,List.map_nil,List.getD_cons_zero,List.getD_cons_succ]
 repeat (refine wpMix_blind' (fun ne K hK=>?_);go_simp;refine hK _ ?_;clear hK K ne;simp only [Act.put,iA,iB,iC])
 refine wpMix_world (fun K hK=>?_)
 go_wp2_with fail
 go_wp2_with fail
 repeat (refine wpMix_blind' (fun ne K hK=>?_);go_simp;refine hK _ ?_;clear hK K ne;simp only [Act.put,iA,iB,iC])
 refine wpMix_world (fun K hK=>?_)
 go_wp2_with fail
 go_wp2_with fail
 obtain ⟨n1,ln1⟩:∃ n,W.heap.size = n:=⟨_,rfl⟩
 rw [ln1]
 have hb:=aB [z73] W
 have zn1:w.heap.size ≤ n1:=ln1 ▸ C.size
 have y3:bv < n1:=ln1 ▸ RM.lt (by decide)
 replace C:=C.trans (Chg.of_below hb)
 replace RM:=RM.later hb
 replace Av2:=Av2.keep (Chg.of_below (R:=R0) hb) (fun _ _ h=>h)
 replace E1:=E1.keep (Chg.of_below (R:=R0) hb) (fun _ _ h=>h)
 replace E2:=E2.keep (Chg.of_below (R:=R0) hb) (fun _ _ h=>h)
 have K1_0:=(aH [z73] W 0 (List.replicate 5 (.int .u64 0)) 73 rfl).room (n:=5) rfl
 rw [ln1] at K1_0
 refine cG (fun W=>Chg (Rg bv ov 15) w W∧Room W bv ov 15∧Elt W bv (ov + 10) T∧Elt W bv ov f1∧Elt W bv (ov + 5) f2∧Room W n1 0 5) ⟨C.drew,RM.drew,Av2.drew,E1.drew,E2.drew,K1_0.drew⟩ ?_
 clear C RM Av2 E1 E2 K1_0 hb ln1
 rintro W ⟨C,RM,Av2,E1,E2,K1_0⟩
 refine (neg_e K1_0 Av2 (fun e=>by omega)).mono ?_
 rintro e W ⟨rfl,hc,hv⟩
 replace C:=C.loc hc (by omega)
 replace RM:=hc.room RM
 replace Av2:=Av2.keep hc oa
 replace E1:=E1.keep hc oa
 replace E2:=E2.keep hc oa
 replace K1_0:=hc.room K1_0
 clear hc
 obtain ⟨f3,qf3⟩:∃ g,g = -T:=⟨_,rfl⟩
 rw [←qf3] at hv
 replace qf3:=hd qf3
 have E4:=hv
 clear hv
 go_wp2_with fail
 repeat (refine wpMix_blind' (fun ne K hK=>?_);go_simp;refine hK _ ?_;clear hK K ne;simp only [Act.put,iA,iB,iC])
 refine wpMix_world (fun K hK=>?_)
 go_wp2_with fail
 go_wp2_with fail
 refine (sel_e' (h01) (RM.part (by omega) (by omega)) E4 Av2 (fun e=>by omega) (fun e=>by omega)).mono ?_
 rintro e W ⟨rfl,hc,hv⟩
 replace C:=C.into hc
 replace RM:=hc.room RM
 clear Av2
 replace E1:=E1.keep hc oa
 replace E2:=E2.keep hc oa
 replace K1_0:=hc.room K1_0
 replace E4:=E4.keep hc oa
 clear hc
 obtain ⟨f4,qf4⟩:∃ g,g = selF c f3 T:=⟨_,rfl⟩
 rw [←qf4] at hv
 replace qf4:=hd qf4
 have E5:=hv
 clear hv
 go_wp2_with fail
 repeat (refine wpMix_blind' (fun ne K hK=>?_);go_simp;refine hK _ ?_;clear hK K ne;simp only [Act.put,iA,iB,iC])
 refine wpMix_nil ?_
 go_wp2_with fail
 go_ret
 obtain rfl:=qf1.out
 obtain rfl:=qf2.out
 obtain rfl:=qf3.out
 obtain rfl:=qf4.out
 exact ⟨rfl,C,_,_,_,E1,E2,E5,rp.cond⟩
open Go.RowKit
theorem ptSum_e {bv ov bp op bq oq:Nat} {p q:Pt} {w:World} (RM:Room w bv ov 20) (hp:P3 w bp op p) (hq:P3 w bq oq q) :
  Calls Tryz.prog 101 #[Ptr bv ov,Ptr bp op,Ptr bq oq] w (fun e w'=>e = .returned (Ptr bv ov)∧Chg (Rg bv ov 20) w w'∧P3 w' bv ov (p + q)):=by
 have C:Chg (Rg bv ov 20) w w:=.refl _ _
 go_enter Tryz.func101,Tryz.ntmps101
 go_wp2_with fail
 obtain ⟨n1,ln1⟩:∃ n,w.heap.size = n:=⟨_,rfl⟩
 rw [ln1]
 have hb:=aB [.cells (List.toArray [Ptr bp op,Ptr bq oq]) 48] w
 have zn1:w.heap.size ≤ n1:=ln1 ▸ C.size
 have y1:bv < n1:=ln1 ▸ RM.lt (by decide)
 have y2:bp < n1:=ln1 ▸ hp.lt
 have y3:bq < n1:=ln1 ▸ hq.lt
 replace C:=C.trans (Chg.of_below hb)
 replace RM:=RM.later hb
 replace hp:=hp.keep (Chg.of_below (R:=R0) hb) (fun _ _ h=>h)
 replace hq:=hq.keep (Chg.of_below (R:=R0) hb) (fun _ _ h=>h)
 have K1_0:=aH [.cells (List.toArray [Ptr bp op,Ptr bq oq]) 48] w 0 [Ptr bp op,Ptr bq oq] 48 rfl
 rw [ln1] at K1_0
 simp only [Nat.add_zero] at K1_0
 refine cG (fun W=>Chg (Rg bv ov 20) w W∧Room W bv ov 20∧P3 W bp op p∧P3 W bq oq q∧Has W n1 0 [Ptr bp op,Ptr bq oq]) ⟨C,RM,hp,hq,K1_0⟩ ?_
 clear C RM hp hq K1_0 hb ln1
 rintro W ⟨C,RM,hp,hq,K1_0⟩
 refine (check2_e K1_0 hp hq).mono ?_
 rintro e w1 ⟨rfl,hw⟩
 obtain rfl:=hw.symm
 clear K1_0
 go_wp2_with fail
 obtain ⟨n2,ln2⟩:∃ n,W.heap.size = n:=⟨_,rfl⟩
 rw [ln2]
 have hb:=aB [z79] W
 have zn2:w.heap.size ≤ n2:=ln2 ▸ C.size
 have y4:bv < n2:=ln2 ▸ RM.lt (by decide)
 have y5:bp < n2:=ln2 ▸ hp.lt
 have y6:bq < n2:=ln2 ▸ hq.lt
 replace C:=C.trans (Chg.of_below hb)
 replace RM:=RM.later hb
 replace hp:=hp.keep (Chg.of_below (R:=R0) hb) (fun _ _ h=>h)
 replace hq:=hq.keep (Chg.of_below (R:=R0) hb) (fun _ _ h=>h)
 have K2_0:=(aH [z79] W 0 (List.replicate 20 (.int .u64 0)) 79 rfl).room (n:=20) rfl
 rw [ln2] at K2_0
 refine cG (fun W=>Chg (Rg bv ov 20) w W∧Room W bv ov 20∧P3 W bp op p∧P3 W bq oq q∧Room W n2 0 20) ⟨C,RM,hp,hq,K2_0⟩ ?_
 clear C RM hp hq K2_0 hb ln2
 rintro W ⟨C,RM,hp,hq,K2_0⟩
 refine (pcOfP3_e K2_0 hq (by omega)).mono ?_
 rintro e W ⟨rfl,hc,hv⟩
 replace C:=C.loc hc (by omega)
 replace RM:=hc.room RM
 replace hp:=hp.keep hc oa
 replace hq:=hq.keep hc oa
 replace K2_0:=hc.room K2_0
 clear hc
 have E7:=hv
 clear hv
 go_wp2_with fail
 obtain ⟨n3,ln3⟩:∃ n,W.heap.size = n:=⟨_,rfl⟩
 rw [ln3]
 have hb:=aB [z90] W
 have zn3:w.heap.size ≤ n3:=ln3 ▸ C.size
 have y8:bv < n3:=ln3 ▸ RM.lt (by decide)
 have y9:bp < n3:=ln3 ▸ hp.lt
 have y10:bq < n3:=ln3 ▸ hq.lt
 have y11:n2 < n3:=ln3 ▸ K2_0.lt (by decide)
 replace C:=C.trans (Chg.of_below hb)
 replace RM:=RM.later hb
 replace hp:=hp.keep (Chg.of_below (R:=R0) hb) (fun _ _ h=>h)
 replace hq:=hq.keep (Chg.of_below (R:=R0) hb) (fun _ _ h=>h)
 replace K2_0:=K2_0.later hb
 replace E7:=E7.keep (Chg.of_below (R:=R0) hb) (fun _ _ h=>h)
 have K3_0:=(aH [z90] W 0 (List.replicate 20 (.int .u64 0)) 90 rfl).room (n:=20) rfl
 rw [ln3] at K3_0
 refine cG (fun W=>Chg (Rg bv ov 20) w W∧Room W bv ov 20∧P3 W bp op p∧P3 W bq oq q∧Room W n2 0 20∧PC W n2 0 q∧Room W n3 0 20) ⟨C,RM,hp,hq,K2_0,E7,K3_0⟩ ?_
 clear C RM hp hq K2_0 E7 K3_0 hb ln3
 rintro W ⟨C,RM,hp,hq,K2_0,E7,K3_0⟩
 refine (ptAdd_e K3_0 hp (by omega) E7 (by omega)).mono ?_
 rintro e W ⟨rfl,hc,hv⟩
 replace C:=C.loc hc (by omega)
 replace RM:=hc.room RM
 replace hp:=hp.keep hc oa
 replace hq:=hq.keep hc oa
 replace K2_0:=hc.room K2_0
 replace E7:=E7.keep hc oa
 replace K3_0:=hc.room K3_0
 clear hc
 have E12:=hv
 clear hv
 go_wp2_with fail
 refine (p3OfP1_e RM E12 (by omega)).mono ?_
 rintro e W ⟨rfl,hc,hv⟩
 replace C:=C.into hc
 replace RM:=hc.room RM
 clear hp
 clear hq
 replace K2_0:=hc.room K2_0
 replace E7:=E7.keep hc oa
 replace K3_0:=hc.room K3_0
 replace E12:=E12.keep hc oa
 clear hc
 have E13:=hv
 clear hv
 go_wp2_with fail
 go_ret
 exact ⟨rfl,C,E13⟩
open Go.RowKit
theorem by32_pos {n:Int}:0 < (by32 n).length:=by rw [by32_length];decide
theorem by32_31 {n:Int} (hn:0 ≤ n∧n < 115792089237316195423570985008687907853269984665640564039457584007913129639936):(by32 n)[31]? = some (.int .u8 (n / 452312848583266388373324160190187140051835877600158453279131187530910662656)):=by
 have e:(by32 n)[31]? = some (.int .u8 (n / 6277101735386680763835789423207666416102355444464034512896 % 18446744073709551616 / 72057594037927936 % 256)):=rfl
 rw [e];congr 2;omega
theorem Ex.aff {X Y:F} {p:Pt} (hx:p.x = X) (hy:p.y = Y):Ex X Y 1 (X * Y) p:=by
 subst hx hy
 exact ⟨one_ne_zero,by grind,by grind,by grind⟩
def decY (n:Int):F:=el (n % 57896044618658097711785492504343953926634992332820282019728792003956564819968)
def decX (n:Int):F:=selF (n / 452312848583266388373324160190187140051835877600158453279131187530910662656 / 128) (-(sqRt (decY n * decY n - 1) (decY n * decY n * cd + 1))) (sqRt (decY n * decY n - 1) (decY n * decY n * cd + 1))
theorem ptSetBytes_e {bv ov bk ok cap:Nat} {n:Int} {p:Pt} {w:World} (hn:0 ≤ n∧n < 115792089237316195423570985008687907853269984665640564039457584007913129639936) (RM:Room w bv ov 20) (X:Has w bk ok (by32 n)) (hk:bv ≠ bk) (hcap:32 ≤ cap) (hy:p.y = decY n) (hx:p.x = decX n) (hok:sqOk (decY n * decY n - 1) (decY n * decY n * cd + 1) = 1) :
  Calls Tryz.prog 41 #[Ptr bv ov,.slice (some ⟨bk,ok,none⟩) 32 cap] w (fun e w'=>e = .returned (.tuple #[Ptr bv ov,.nilIface])∧Chg (Rg bv ov 20) w w'∧P3 w' bv ov p):=by
 have C:Chg (Rg bv ov 20) w w:=.refl _ _
 go_enter Tryz.func41,Tryz.ntmps41
 go_wp2_with fail
 obtain ⟨n1,ln1⟩:∃ n,w.heap.size = n:=⟨_,rfl⟩
 rw [ln1]
 have hb:=aB [z73] w
 have zn1:w.heap.size ≤ n1:=ln1 ▸ C.size
 have y1:bv < n1:=ln1 ▸ RM.lt (by decide)
 have y2:bk < n1:=ln1 ▸ X.lt by32_pos
 replace C:=C.trans (Chg.of_below hb)
 replace RM:=RM.later hb
 replace X:=X.keep (Chg.of_below (R:=R0) hb) (fun _ _ h=>h)
 have K1_0:=(aH [z73] w 0 (List.replicate 5 (.int .u64 0)) 73 rfl).room (n:=5) rfl
 rw [ln1] at K1_0
 refine cG (fun W=>Chg (Rg bv ov 20) w W∧Room W bv ov 20∧Has W bk ok (by32 n)∧Room W n1 0 5) ⟨C,RM,X,K1_0⟩ ?_
 clear C RM X K1_0 hb ln1
 rintro W ⟨C,RM,X,K1_0⟩
 refine (setBytes_e hn K1_0 X (fun e=>by omega) hcap).mono ?_
 rintro e W ⟨rfl,hc,hv⟩
 replace C:=C.loc hc (by omega)
 replace RM:=hc.room RM
 replace X:=X.keep hc oa
 replace K1_0:=hc.room K1_0
 clear hc
 obtain ⟨f1,qf1⟩:∃ g,g = el (n % 57896044618658097711785492504343953926634992332820282019728792003956564819968):=⟨_,rfl⟩
 rw [←qf1] at hv
 replace qf1:=hd qf1
 have E3:=hv
 clear hv
 go_wp2_with fail
 obtain ⟨n2,ln2⟩:∃ n,W.heap.size = n:=⟨_,rfl⟩
 rw [ln2]
 have hb:=aB [z73] W
 have zn2:w.heap.size ≤ n2:=ln2 ▸ C.size
 have y4:bv < n2:=ln2 ▸ RM.lt (by decide)
 have y5:bk < n2:=ln2 ▸ X.lt by32_pos
 have y6:n1 < n2:=ln2 ▸ K1_0.lt (by decide)
 replace C:=C.trans (Chg.of_below hb)
 replace RM:=RM.later hb
 replace X:=X.keep (Chg.of_below (R:=R0) hb) (fun _ _ h=>h)
 replace K1_0:=K1_0.later hb
 replace E3:=E3.keep (Chg.of_below (R:=R0) hb) (fun _ _ h=>h)
 have K2_0:=(aH [z73] W 0 (List.replicate 5 (.int .u64 0)) 73 rfl).room (n:=5) rfl
 rw [ln2] at K2_0
 refine cG (fun W=>Chg (Rg bv ov 20) w W∧Room W bv ov 20∧Has W bk ok (by32 n)∧Room W n1 0 5∧Elt W n1 0 f1∧Room W n2 0 5) ⟨C,RM,X,K1_0,E3,K2_0⟩ ?_
 clear C RM X K1_0 E3 K2_0 hb ln2
 rintro W ⟨C,RM,X,K1_0,E3,K2_0⟩
 refine (sq_e K2_0 E3).mono ?_
 rintro e W ⟨rfl,hc,hv⟩
 replace C:=C.loc hc (by omega)
 replace RM:=hc.room RM
 replace X:=X.keep hc oa
 replace K1_0:=hc.room K1_0
 replace E3:=E3.keep hc oa
 replace K2_0:=hc.room K2_0
 clear hc
 obtain ⟨f2,qf2⟩:∃ g,g = f1 * f1:=⟨_,rfl⟩
 rw [←qf2] at hv
 replace qf2:=hd qf2
 have E7:=hv
 clear hv
 go_wp2_with fail
 obtain ⟨n3,ln3⟩:∃ n,W.heap.size = n:=⟨_,rfl⟩
 rw [ln3]
 have hb:=aB [z73] W
 have zn3:w.heap.size ≤ n3:=ln3 ▸ C.size
 have y8:bv < n3:=ln3 ▸ RM.lt (by decide)
 have y9:bk < n3:=ln3 ▸ X.lt by32_pos
 have y10:n1 < n3:=ln3 ▸ K1_0.lt (by decide)
 have y11:n2 < n3:=ln3 ▸ K2_0.lt (by decide)
 replace C:=C.trans (Chg.of_below hb)
 replace RM:=RM.later hb
 replace X:=X.keep (Chg.of_below (R:=R0) hb) (fun _ _ h=>h)
 replace K1_0:=K1_0.later hb
 replace E3:=E3.keep (Chg.of_below (R:=R0) hb) (fun _ _ h=>h)
 replace K2_0:=K2_0.later hb
 replace E7:=E7.keep (Chg.of_below (R:=R0) hb) (fun _ _ h=>h)
 have K3_0:=(aH [z73] W 0 (List.replicate 5 (.int .u64 0)) 73 rfl).room (n:=5) rfl
 rw [ln3] at K3_0
 refine cG (fun W=>Chg (Rg bv ov 20) w W∧Room W bv ov 20∧Has W bk ok (by32 n)∧Room W n1 0 5∧Elt W n1 0 f1∧Room W n2 0 5∧Elt W n2 0 f2∧Room W n3 0 5) ⟨C,RM,X,K1_0,E3,K2_0,E7,K3_0⟩ ?_
 clear C RM X K1_0 E3 K2_0 E7 K3_0 hb ln3
 rintro W ⟨C,RM,X,K1_0,E3,K2_0,E7,K3_0⟩
 refine (edOne_e _).mono ?_
 rintro e W ⟨n4,ln4,rfl,hb,hv⟩
 have zn4:w.heap.size ≤ n4:=Nat.le_trans C.size ln4
 have y12:bv < n4:=Nat.lt_of_lt_of_le (RM.lt (by decide)) ln4
 have y13:bk < n4:=Nat.lt_of_lt_of_le (X.lt by32_pos) ln4
 have y14:n1 < n4:=Nat.lt_of_lt_of_le (K1_0.lt (by decide)) ln4
 have y15:n2 < n4:=Nat.lt_of_lt_of_le (K2_0.lt (by decide)) ln4
 have y16:n3 < n4:=Nat.lt_of_lt_of_le (K3_0.lt (by decide)) ln4
 replace C:=C.trans (Chg.of_below hb)
 replace RM:=RM.later hb
 replace X:=X.keep (Chg.of_below (R:=R0) hb) (fun _ _ h=>h)
 replace K1_0:=K1_0.later hb
 replace E3:=E3.keep (Chg.of_below (R:=R0) hb) (fun _ _ h=>h)
 replace K2_0:=K2_0.later hb
 replace E7:=E7.keep (Chg.of_below (R:=R0) hb) (fun _ _ h=>h)
 replace K3_0:=K3_0.later hb
 clear hb
 have E17:=hv
 clear hv
 clear ln4
 go_wp2_with fail
 refine (sub_e K3_0 E7 E17 (fun e=>by omega) (fun e=>by omega)).mono ?_
 rintro e W ⟨rfl,hc,hv⟩
 replace C:=C.loc hc (by omega)
 replace RM:=hc.room RM
 replace X:=X.keep hc oa
 replace K1_0:=hc.room K1_0
 replace E3:=E3.keep hc oa
 replace K2_0:=hc.room K2_0
 replace E7:=E7.keep hc oa
 replace K3_0:=hc.room K3_0
 replace E17:=E17.keep hc oa
 clear hc
 obtain ⟨f3,qf3⟩:∃ g,g = f2 - 1:=⟨_,rfl⟩
 rw [←qf3] at hv
 replace qf3:=hd qf3
 have E18:=hv
 clear hv
 go_wp2_with fail
 obtain ⟨n5,ln5⟩:∃ n,W.heap.size = n:=⟨_,rfl⟩
 rw [ln5]
 have hb:=aB [z73] W
 have zn5:w.heap.size ≤ n5:=ln5 ▸ C.size
 have y19:bv < n5:=ln5 ▸ RM.lt (by decide)
 have y20:bk < n5:=ln5 ▸ X.lt by32_pos
 have y21:n1 < n5:=ln5 ▸ K1_0.lt (by decide)
 have y22:n2 < n5:=ln5 ▸ K2_0.lt (by decide)
 have y23:n3 < n5:=ln5 ▸ K3_0.lt (by decide)
 have y24:n4 < n5:=ln5 ▸ E17.lt
 replace C:=C.trans (Chg.of_below hb)
 replace RM:=RM.later hb
 replace X:=X.keep (Chg.of_below (R:=R0) hb) (fun _ _ h=>h)
 replace K1_0:=K1_0.later hb
 replace E3:=E3.keep (Chg.of_below (R:=R0) hb) (fun _ _ h=>h)
 replace K2_0:=K2_0.later hb
 replace E7:=E7.keep (Chg.of_below (R:=R0) hb) (fun _ _ h=>h)
 replace K3_0:=K3_0.later hb
 replace E17:=E17.keep (Chg.of_below (R:=R0) hb) (fun _ _ h=>h)
 replace E18:=E18.keep (Chg.of_below (R:=R0) hb) (fun _ _ h=>h)
 have K5_0:=(aH [z73] W 0 (List.replicate 5 (.int .u64 0)) 73 rfl).room (n:=5) rfl
 rw [ln5] at K5_0
 refine cG (fun W=>Chg (Rg bv ov 20) w W∧Room W bv ov 20∧Has W bk ok (by32 n)∧Room W n1 0 5∧Elt W n1 0 f1∧Room W n2 0 5∧Elt W n2 0 f2∧Room W n3 0 5∧Elt W n4 0 1∧Elt W n3 0 f3∧Room W n5 0 5) ⟨C,RM,X,K1_0,E3,K2_0,E7,K3_0,E17,E18,K5_0⟩ ?_
 clear C RM X K1_0 E3 K2_0 E7 K3_0 E17 E18 K5_0 hb ln5
 rintro W ⟨C,RM,X,K1_0,E3,K2_0,E7,K3_0,E17,E18,K5_0⟩
 refine (d_e _).mono ?_
 rintro e W ⟨n6,ln6,rfl,hb,hv⟩
 have zn6:w.heap.size ≤ n6:=Nat.le_trans C.size ln6
 have y25:bv < n6:=Nat.lt_of_lt_of_le (RM.lt (by decide)) ln6
 have y26:bk < n6:=Nat.lt_of_lt_of_le (X.lt by32_pos) ln6
 have y27:n1 < n6:=Nat.lt_of_lt_of_le (K1_0.lt (by decide)) ln6
 have y28:n2 < n6:=Nat.lt_of_lt_of_le (K2_0.lt (by decide)) ln6
 have y29:n3 < n6:=Nat.lt_of_lt_of_le (K3_0.lt (by decide)) ln6
 have y30:n4 < n6:=Nat.lt_of_lt_of_le (E17.lt) ln6
 have y31:n5 < n6:=Nat.lt_of_lt_of_le (K5_0.lt (by decide)) ln6
 replace C:=C.trans (Chg.of_below hb)
 replace RM:=RM.later hb
 replace X:=X.keep (Chg.of_below (R:=R0) hb) (fun _ _ h=>h)
 replace K1_0:=K1_0.later hb
 replace E3:=E3.keep (Chg.of_below (R:=R0) hb) (fun _ _ h=>h)
 replace K2_0:=K2_0.later hb
 replace E7:=E7.keep (Chg.of_below (R:=R0) hb) (fun _ _ h=>h)
 replace K3_0:=K3_0.later hb
 replace E17:=E17.keep (Chg.of_below (R:=R0) hb) (fun _ _ h=>h)
 replace E18:=E18.keep (Chg.of_below (R:=R0) hb) (fun _ _ h=>h)
 replace K5_0:=K5_0.later hb
 clear hb
 have E32:=hv
 clear hv
 clear ln6
 go_wp2_with fail
 refine (mul_e K5_0 E7 E32).mono ?_
 rintro e W ⟨rfl,hc,hv⟩
 replace C:=C.loc hc (by omega)
 replace RM:=hc.room RM
 replace X:=X.keep hc oa
 replace K1_0:=hc.room K1_0
 replace E3:=E3.keep hc oa
 replace K2_0:=hc.room K2_0
 replace E7:=E7.keep hc oa
 replace K3_0:=hc.room K3_0
 replace E17:=E17.keep hc oa
 replace E18:=E18.keep hc oa
 replace K5_0:=hc.room K5_0
 replace E32:=E32.keep hc oa
 clear hc
 obtain ⟨f4,qf4⟩:∃ g,g = f2 * cd:=⟨_,rfl⟩
 rw [←qf4] at hv
 replace qf4:=hd qf4
 have E33:=hv
 clear hv
 go_wp2_with fail
 refine (edOne_e _).mono ?_
 rintro e W ⟨n7,ln7,rfl,hb,hv⟩
 have zn7:w.heap.size ≤ n7:=Nat.le_trans C.size ln7
 have y34:bv < n7:=Nat.lt_of_lt_of_le (RM.lt (by decide)) ln7
 have y35:bk < n7:=Nat.lt_of_lt_of_le (X.lt by32_pos) ln7
 have y36:n1 < n7:=Nat.lt_of_lt_of_le (K1_0.lt (by decide)) ln7
 have y37:n2 < n7:=Nat.lt_of_lt_of_le (K2_0.lt (by decide)) ln7
 have y38:n3 < n7:=Nat.lt_of_lt_of_le (K3_0.lt (by decide)) ln7
 have y39:n4 < n7:=Nat.lt_of_lt_of_le (E17.lt) ln7
 have y40:n5 < n7:=Nat.lt_of_lt_of_le (K5_0.lt (by decide)) ln7
 have y41:n6 < n7:=Nat.lt_of_lt_of_le (E32.lt) ln7
 replace C:=C.trans (Chg.of_below hb)
 replace RM:=RM.later hb
 replace X:=X.keep (Chg.of_below (R:=R0) hb) (fun _ _ h=>h)
 replace K1_0:=K1_0.later hb
 replace E3:=E3.keep (Chg.of_below (R:=R0) hb) (fun _ _ h=>h)
 replace K2_0:=K2_0.later hb
 replace E7:=E7.keep (Chg.of_below (R:=R0) hb) (fun _ _ h=>h)
 replace K3_0:=K3_0.later hb
 replace E17:=E17.keep (Chg.of_below (R:=R0) hb) (fun _ _ h=>h)
 replace E18:=E18.keep (Chg.of_below (R:=R0) hb) (fun _ _ h=>h)
 replace K5_0:=K5_0.later hb
 replace E32:=E32.keep (Chg.of_below (R:=R0) hb) (fun _ _ h=>h)
 replace E33:=E33.keep (Chg.of_below (R:=R0) hb) (fun _ _ h=>h)
 clear hb
 have E42:=hv
 clear hv
 clear ln7
 go_wp2_with fail
 refine (add_e K5_0 E33 E42 (fun e=>by omega) (fun e=>by omega)).mono ?_
 rintro e W ⟨rfl,hc,hv⟩
 replace C:=C.loc hc (by omega)
 replace RM:=hc.room RM
 replace X:=X.keep hc oa
 replace K1_0:=hc.room K1_0
 replace E3:=E3.keep hc oa
 replace K2_0:=hc.room K2_0
 replace E7:=E7.keep hc oa
 replace K3_0:=hc.room K3_0
 replace E17:=E17.keep hc oa
 replace E18:=E18.keep hc oa
 replace K5_0:=hc.room K5_0
 replace E32:=E32.keep hc oa
 clear E33
 replace E42:=E42.keep hc oa
 clear hc
 obtain ⟨f5,qf5⟩:∃ g,g = f4 + 1:=⟨_,rfl⟩
 rw [←qf5] at hv
 replace qf5:=hd qf5
 have E43:=hv
 clear hv
 go_wp2_with fail
 obtain ⟨n8,ln8⟩:∃ n,W.heap.size = n:=⟨_,rfl⟩
 rw [ln8]
 have hb:=aB [z73] W
 have zn8:w.heap.size ≤ n8:=ln8 ▸ C.size
 have y44:bv < n8:=ln8 ▸ RM.lt (by decide)
 have y45:bk < n8:=ln8 ▸ X.lt by32_pos
 have y46:n1 < n8:=ln8 ▸ K1_0.lt (by decide)
 have y47:n2 < n8:=ln8 ▸ K2_0.lt (by decide)
 have y48:n3 < n8:=ln8 ▸ K3_0.lt (by decide)
 have y49:n4 < n8:=ln8 ▸ E17.lt
 have y50:n5 < n8:=ln8 ▸ K5_0.lt (by decide)
 have y51:n6 < n8:=ln8 ▸ E32.lt
 have y52:n7 < n8:=ln8 ▸ E42.lt
 replace C:=C.trans (Chg.of_below hb)
 replace RM:=RM.later hb
 replace X:=X.keep (Chg.of_below (R:=R0) hb) (fun _ _ h=>h)
 replace K1_0:=K1_0.later hb
 replace E3:=E3.keep (Chg.of_below (R:=R0) hb) (fun _ _ h=>h)
 replace K2_0:=K2_0.later hb
 replace E7:=E7.keep (Chg.of_below (R:=R0) hb) (fun _ _ h=>h)
 replace K3_0:=K3_0.later hb
 replace E17:=E17.keep (Chg.of_below (R:=R0) hb) (fun _ _ h=>h)
 replace E18:=E18.keep (Chg.of_below (R:=R0) hb) (fun _ _ h=>h)
 replace K5_0:=K5_0.later hb
 replace E32:=E32.keep (Chg.of_below (R:=R0) hb) (fun _ _ h=>h)
 replace E42:=E42.keep (Chg.of_below (R:=R0) hb) (fun _ _ h=>h)
 replace E43:=E43.keep (Chg.of_below (R:=R0) hb) (fun _ _ h=>h)
 have K8_0:=(aH [z73] W 0 (List.replicate 5 (.int .u64 0)) 73 rfl).room (n:=5) rfl
 rw [ln8] at K8_0
 refine cG (fun W=>Chg (Rg bv ov 20) w W∧Room W bv ov 20∧Has W bk ok (by32 n)∧Room W n1 0 5∧Elt W n1 0 f1∧Room W n2 0 5∧Elt W n2 0 f2∧Room W n3 0 5∧Elt W n4 0 1∧Elt W n3 0 f3∧Room W n5 0 5∧Elt W n6 0 cd∧Elt W n7 0 1∧Elt W n5 0 f5∧Room W n8 0 5) ⟨C,RM,X,K1_0,E3,K2_0,E7,K3_0,E17,E18,K5_0,E32,E42,E43,K8_0⟩ ?_
 clear C RM X K1_0 E3 K2_0 E7 K3_0 E17 E18 K5_0 E32 E42 E43 K8_0 hb ln8
 rintro W ⟨C,RM,X,K1_0,E3,K2_0,E7,K3_0,E17,E18,K5_0,E32,E42,E43,K8_0⟩
 refine (sqrtRatio_e K8_0 E18 E43 (by omega) (by omega)).mono ?_
 rintro e W ⟨rfl,hc,hv⟩
 replace C:=C.loc hc (by omega)
 replace RM:=hc.room RM
 replace X:=X.keep hc oa
 replace K1_0:=hc.room K1_0
 replace E3:=E3.keep hc oa
 replace K2_0:=hc.room K2_0
 replace E7:=E7.keep hc oa
 replace K3_0:=hc.room K3_0
 replace E17:=E17.keep hc oa
 replace E18:=E18.keep hc oa
 replace K5_0:=hc.room K5_0
 replace E32:=E32.keep hc oa
 replace E42:=E42.keep hc oa
 replace E43:=E43.keep hc oa
 replace K8_0:=hc.room K8_0
 clear hc
 obtain ⟨f6,qf6⟩:∃ g,g = sqRt f3 f5:=⟨_,rfl⟩
 rw [←qf6] at hv
 replace qf6:=hd qf6
 have E53:=hv
 clear hv
 have sok:sqOk f3 f5 = 1:=by
  obtain rfl:=qf1.out
  obtain rfl:=qf2.out
  obtain rfl:=qf3.out
  obtain rfl:=qf4.out
  obtain rfl:=qf5.out
  obtain rfl:=qf6.out
  exact hok
 go_wp2_with fail
 obtain ⟨n9,ln9⟩:∃ n,W.heap.size = n:=⟨_,rfl⟩
 rw [ln9]
 have hb:=aB [z73] W
 have zn9:w.heap.size ≤ n9:=ln9 ▸ C.size
 have y54:bv < n9:=ln9 ▸ RM.lt (by decide)
 have y55:bk < n9:=ln9 ▸ X.lt by32_pos
 have y56:n1 < n9:=ln9 ▸ K1_0.lt (by decide)
 have y57:n2 < n9:=ln9 ▸ K2_0.lt (by decide)
 have y58:n3 < n9:=ln9 ▸ K3_0.lt (by decide)
 have y59:n4 < n9:=ln9 ▸ E17.lt
 have y60:n5 < n9:=ln9 ▸ K5_0.lt (by decide)
 have y61:n6 < n9:=ln9 ▸ E32.lt
 have y62:n7 < n9:=ln9 ▸ E42.lt
 have y63:n8 < n9:=ln9 ▸ K8_0.lt (by decide)
 replace C:=C.trans (Chg.of_below hb)
 replace RM:=RM.later hb
 replace X:=X.keep (Chg.of_below (R:=R0) hb) (fun _ _ h=>h)
 replace K1_0:=K1_0.later hb
 replace E3:=E3.keep (Chg.of_below (R:=R0) hb) (fun _ _ h=>h)
 replace K2_0:=K2_0.later hb
 replace E7:=E7.keep (Chg.of_below (R:=R0) hb) (fun _ _ h=>h)
 replace K3_0:=K3_0.later hb
 replace E17:=E17.keep (Chg.of_below (R:=R0) hb) (fun _ _ h=>h)
 replace E18:=E18.keep (Chg.of_below (R:=R0) hb) (fun _ _ h=>h)
 replace K5_0:=K5_0.later hb
 replace E32:=E32.keep (Chg.of_below (R:=R0) hb) (fun _ _ h=>h)
 replace E42:=E42.keep (Chg.of_below (R:=R0) hb) (fun _ _ h=>h)
 replace E43:=E43.keep (Chg.of_below (R:=R0) hb) (fun _ _ h=>h)
 replace K8_0:=K8_0.later hb
 replace E53:=E53.keep (Chg.of_below (R:=R0) hb) (fun _ _ h=>h)
 have K9_0:=(aH [z73] W 0 (List.replicate 5 (.int .u64 0)) 73 rfl).room (n:=5) rfl
 rw [ln9] at K9_0
 refine cG (fun W=>Chg (Rg bv ov 20) w W∧Room W bv ov 20∧Has W bk ok (by32 n)∧Room W n1 0 5∧Elt W n1 0 f1∧Room W n2 0 5∧Elt W n2 0 f2∧Room W n3 0 5∧Elt W n4 0 1∧Elt W n3 0 f3∧Room W n5 0 5∧Elt W n6 0 cd∧Elt W n7 0 1∧Elt W n5 0 f5∧Room W n8 0 5∧Elt W n8 0 f6∧Room W n9 0 5) ⟨C,RM,X,K1_0,E3,K2_0,E7,K3_0,E17,E18,K5_0,E32,E42,E43,K8_0,E53,K9_0⟩ ?_
 clear C RM X K1_0 E3 K2_0 E7 K3_0 E17 E18 K5_0 E32 E42 E43 K8_0 E53 K9_0 hb ln9
 rintro W ⟨C,RM,X,K1_0,E3,K2_0,E7,K3_0,E17,E18,K5_0,E32,E42,E43,K8_0,E53,K9_0⟩
 refine (neg_e K9_0 E53 (fun e=>by omega)).mono ?_
 rintro e W ⟨rfl,hc,hv⟩
 replace C:=C.loc hc (by omega)
 replace RM:=hc.room RM
 replace X:=X.keep hc oa
 replace K1_0:=hc.room K1_0
 replace E3:=E3.keep hc oa
 replace K2_0:=hc.room K2_0
 replace E7:=E7.keep hc oa
 replace K3_0:=hc.room K3_0
 replace E17:=E17.keep hc oa
 replace E18:=E18.keep hc oa
 replace K5_0:=hc.room K5_0
 replace E32:=E32.keep hc oa
 replace E42:=E42.keep hc oa
 replace E43:=E43.keep hc oa
 replace K8_0:=hc.room K8_0
 replace E53:=E53.keep hc oa
 replace K9_0:=hc.room K9_0
 clear hc
 obtain ⟨f7,qf7⟩:∃ g,g = -f6:=⟨_,rfl⟩
 rw [←qf7] at hv
 replace qf7:=hd qf7
 have E64:=hv
 clear hv
 have h31:=(X 31 (by rw [by32_length];decide)).1
 rw [by32_31 hn] at h31
 go_wp2_with fail
 go_wp2_with fail
 refine (sel_e' (by omega) K8_0 E64 E53 (fun e=>by omega) (fun e=>by omega)).mono ?_
 rintro e W ⟨rfl,hc,hv⟩
 replace C:=C.loc hc (by omega)
 replace RM:=hc.room RM
 replace X:=X.keep hc oa
 replace K1_0:=hc.room K1_0
 replace E3:=E3.keep hc oa
 replace K2_0:=hc.room K2_0
 replace E7:=E7.keep hc oa
 replace K3_0:=hc.room K3_0
 replace E17:=E17.keep hc oa
 replace E18:=E18.keep hc oa
 replace K5_0:=hc.room K5_0
 replace E32:=E32.keep hc oa
 replace E42:=E42.keep hc oa
 replace E43:=E43.keep hc oa
 replace K8_0:=hc.room K8_0
 clear E53
 replace K9_0:=hc.room K9_0
 replace E64:=E64.keep hc oa
 clear hc
 obtain ⟨f8,qf8⟩:∃ g,g = selF ((n / 452312848583266388373324160190187140051835877600158453279131187530910662656 / 128)) f7 f6:=⟨_,rfl⟩
 rw [←qf8] at hv
 replace qf8:=hd qf8
 have E65:=hv
 clear hv
 clear h31
 go_wp2_with fail
 refine (set_e (RM.part (by omega) (by omega)) E65).mono ?_
 rintro e W ⟨rfl,hc,hv⟩
 replace C:=C.into hc
 replace RM:=hc.room RM
 replace X:=X.keep hc oa
 replace K1_0:=hc.room K1_0
 replace E3:=E3.keep hc oa
 replace K2_0:=hc.room K2_0
 replace E7:=E7.keep hc oa
 replace K3_0:=hc.room K3_0
 replace E17:=E17.keep hc oa
 replace E18:=E18.keep hc oa
 replace K5_0:=hc.room K5_0
 replace E32:=E32.keep hc oa
 replace E42:=E42.keep hc oa
 replace E43:=E43.keep hc oa
 replace K8_0:=hc.room K8_0
 replace K9_0:=hc.room K9_0
 replace E64:=E64.keep hc oa
 replace E65:=E65.keep hc oa
 clear hc
 have E66:=hv
 clear hv
 go_wp2_with fail
 refine (set_e (RM.part (by omega) (by omega)) E3).mono ?_
 rintro e W ⟨rfl,hc,hv⟩
 replace C:=C.into hc
 replace RM:=hc.room RM
 replace X:=X.keep hc oa
 replace K1_0:=hc.room K1_0
 replace E3:=E3.keep hc oa
 replace K2_0:=hc.room K2_0
 replace E7:=E7.keep hc oa
 replace K3_0:=hc.room K3_0
 replace E17:=E17.keep hc oa
 replace E18:=E18.keep hc oa
 replace K5_0:=hc.room K5_0
 replace E32:=E32.keep hc oa
 replace E42:=E42.keep hc oa
 replace E43:=E43.keep hc oa
 replace K8_0:=hc.room K8_0
 replace K9_0:=hc.room K9_0
 replace E64:=E64.keep hc oa
 replace E65:=E65.keep hc oa
 replace E66:=E66.keep hc oa
 clear hc
 have E67:=hv
 clear hv
 go_wp2_with fail
 refine (one_e (RM.part (by omega) (by omega))).mono ?_
 rintro e W ⟨rfl,hc,hv⟩
 replace C:=C.into hc
 replace RM:=hc.room RM
 replace X:=X.keep hc oa
 replace K1_0:=hc.room K1_0
 replace E3:=E3.keep hc oa
 replace K2_0:=hc.room K2_0
 replace E7:=E7.keep hc oa
 replace K3_0:=hc.room K3_0
 replace E17:=E17.keep hc oa
 replace E18:=E18.keep hc oa
 replace K5_0:=hc.room K5_0
 replace E32:=E32.keep hc oa
 replace E42:=E42.keep hc oa
 replace E43:=E43.keep hc oa
 replace K8_0:=hc.room K8_0
 replace K9_0:=hc.room K9_0
 replace E64:=E64.keep hc oa
 replace E65:=E65.keep hc oa
 replace E66:=E66.keep hc oa
 replace E67:=E67.keep hc oa
 clear hc
 have E68:=hv
 clear hv
 go_wp2_with fail
 refine (mul_e (RM.part (by omega) (by omega)) E65 E3).mono ?_
 rintro e W ⟨rfl,hc,hv⟩
 replace C:=C.into hc
 replace RM:=hc.room RM
 replace X:=X.keep hc oa
 replace K1_0:=hc.room K1_0
 replace E3:=E3.keep hc oa
 replace K2_0:=hc.room K2_0
 replace E7:=E7.keep hc oa
 replace K3_0:=hc.room K3_0
 replace E17:=E17.keep hc oa
 replace E18:=E18.keep hc oa
 replace K5_0:=hc.room K5_0
 replace E32:=E32.keep hc oa
 replace E42:=E42.keep hc oa
 replace E43:=E43.keep hc oa
 replace K8_0:=hc.room K8_0
 replace K9_0:=hc.room K9_0
 replace E64:=E64.keep hc oa
 replace E65:=E65.keep hc oa
 replace E66:=E66.keep hc oa
 replace E67:=E67.keep hc oa
 replace E68:=E68.keep hc oa
 clear hc
 obtain ⟨f9,qf9⟩:∃ g,g = f8 * f1:=⟨_,rfl⟩
 rw [←qf9] at hv
 replace qf9:=hd qf9
 have E69:=hv
 clear hv
 go_wp2_with fail
 go_ret2
 obtain rfl:=qf1.out
 obtain rfl:=qf2.out
 obtain rfl:=qf3.out
 obtain rfl:=qf4.out
 obtain rfl:=qf5.out
 obtain rfl:=qf6.out
 obtain rfl:=qf7.out
 obtain rfl:=qf8.out
 obtain rfl:=qf9.out
 exact ⟨rfl,C,_,_,_,_,E66,E67,E68,E69,Ex.aff hx hy⟩
end Go.Proofs.Ed
