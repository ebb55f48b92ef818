/- A part of the proof of the tied card of FnTimes: Pm3. -/
import Derived.Test.YtcogfofgmbndjaaGreatDoorProg
import Derived.WalkKit
import Derived.WalkSpells
import Derived.WalkLawsBesides
import Derived.Outline
import Derived.StillTailTactics
import Derived.Deep.CutBlock
import Derived.Deep.DeepCutAuto
import Derived.Test.YtcogfofgmbndjaaGreatDoorTBh
import Derived.Test.YtcogfofgmbndjaaGreatDoorTBi
set_option maxRecDepth 100000
set_option maxHeartbeats 40000000
namespace Go.Proofs.Ed
open Go.RowKit
def XV (tA tB g1 g2 mB:Nat) (d c:Nat→Int) (p:Pt) (W:World):Prop :=
 TabC W tA 0 8 (fun j=>smul (2 * j + 1) p)∧TabA W tB 0 64 (fun j=>smul (2 * j + 1) gen)∧Has W g1 0 (ari d 256)∧Has W g2 0 (ari c 256)∧Room W mB 0 15
theorem kpV {tA tB g1 g2 mB:Nat} {d c:Nat→Int} {p:Pt}:Kp (XV tA tB g1 g2 mB d c p) (fun k=>tA ≠ k∧tB ≠ k∧g1 ≠ k∧g2 ≠ k) :=
 fun _ _ _ h hc hR=>⟨h.1.keep hc (fun _ _ hh=>(hR _ _ hh).1 rfl),h.2.1.keep hc (fun _ _ hh=>(hR _ _ hh).2.1 rfl),h.2.2.1.keep hc (fun _ _ hh=>(hR _ _ hh).2.2.1 rfl),h.2.2.2.1.keep hc (fun _ _ hh=>(hR _ _ hh).2.2.2 rfl),hc.room h.2.2.2.2⟩
theorem two_tops (a b x y:Int) (p q:Pt):zmul a p + zmul b q + (zmul a p + zmul b q) + zmul x p + zmul y q = zmul (2 * a + x) p + zmul (2 * b + y) q:=by
 rw [show 2 * a + x = a + a + x by omega,show 2 * b + y = b + b + y by omega,zmul_add,zmul_add,zmul_add,zmul_add,add_swap (zmul a p) (zmul b q),add_assoc (zmul a p + zmul a p + (zmul b q + zmul b q)),add_swap]
theorem sm_zm (j:Nat) (p:Pt):smul (2 * j + 1) p = zmul (2 * (j:Int) + 1) p:=by rw [←zmul_nat];push_cast;rfl
theorem sm_zn (j:Nat) (p:Pt):-smul (2 * j + 1) p = zmul (-(2 * (j:Int) + 1)) p:=by rw [zmul_neg,sm_zm]
theorem room115 (w:World):Room (w.alloc (Obj.cells Tryz.zeroCells115 115)) w.heap.size 0 160 :=
 (Has.new w Tryz.zeroCells115.toList 115).room (by kernel_rfl)
theorem dig_sign {d W0:Int} {h:Nat} (hh:W0 = 4 * h) (hd:d = 0∨(d % 2 = 1∧-(W0 / 2) < d∧d < W0 / 2)):d = 0∨(∃ j:Nat,j < h∧d = 2 * j + 1)∨(∃ j:Nat,j < h∧d = -(2 * j + 1)):=by
 rcases hd with h0 | ⟨h1,h2,h3⟩
 ·exact .inl h0
 ·by_cases hp:0 < d
  ·exact .inr (.inl ⟨((d - 1) / 2).toNat,by omega,by omega⟩)
  ·exact .inr (.inr ⟨((-d - 1) / 2).toNat,by omega,by omega⟩)
theorem multV_e {bv ov bs os bq oq bt ot:Nat} {n m:Int} {p:Pt} {w:World} (RM:Room w bv ov 20) (hs:Sc w bs os n) (hp:P3 w bq oq p) (ht:Sc w bt ot m) :
  Calls Tryz.prog 26 #[Ptr bv ov,Ptr bs os,Ptr bq oq,Ptr bt ot] w (fun e w'=>e = .returned (Ptr bv ov)∧Chg (Rg bv ov 20) w w'∧P3 w' bv ov (zmul n p + zmul m gen)):=by
 have C:Chg (Rg bv ov 20) w w:=.refl _ _
 have z1:bv < w.heap.size:=RM.lt (by decide)
 have z2:bq < w.heap.size:=hp.lt
 have z3:bs < w.heap.size:=hs.lt
 have z4:bt < w.heap.size:=ht.lt
 go_enter Tryz.func26,Tryz.ntmps26
 go_wp2_with fail
 obtain ⟨n1,ln1⟩:∃ n,w.heap.size = n:=⟨_,rfl⟩
 rw [ln1]
 have hb:=bA w (Obj.cells (List.toArray [Ptr bq oq]) 48)
 have K:=Has.new w [Ptr bq oq] 48
 rw [ln1] at K
 refine cG (fun W=>(Chg (Rg bv ov 20) w W∧Room W bv ov 20∧Sc W bs os n∧P3 W bq oq p∧Sc W bt ot m)∧Has W n1 0 [Ptr bq oq]) ⟨⟨C.trans (Chg.of_below hb),RM.later hb,hs.later hb,hp.keep (Chg.of_below (R:=R0) hb) (fun _ _ h=>h),ht.later hb⟩,K⟩ ?_
 clear C RM hs hp hb K ht ln1
 rintro W ⟨⟨C,RM,hs,hp,ht⟩,K⟩
 refine (check1_e K hp).mono ?_
 rintro e W1 ⟨rfl,he⟩
 obtain rfl:=he.symm
 clear he K
 go_wp2_with fail
 refine nafTab_e.mono ?_
 rintro e W ⟨n2,ln2,rfl,hb,TB⟩
 have l2:n2 < W.heap.size:=(TB 0 (by decide)).lt
 have zn2:w.heap.size ≤ n2:=Nat.le_trans C.size ln2
 replace C:=C.trans (Chg.of_below hb)
 replace RM:=RM.later hb
 replace hs:=hs.later hb
 replace ht:=ht.later hb
 replace hp:=hp.keep (Chg.of_below (R:=R0) hb) (fun _ _ h=>h)
 clear hb ln2
 go_wp2_with fail
 obtain ⟨n3,ln3⟩:∃ n,W.heap.size = n:=⟨_,rfl⟩
 rw [ln3] at l2 ⊢
 have hb:=bA W (Obj.cells Tryz.zeroCells115 115)
 have K:=room115 W
 rw [ln3] at K
 have zn3:w.heap.size ≤ n3:=ln3 ▸ C.size
 refine cG (fun W=>(Chg (Rg bv ov 20) w W∧Room W bv ov 20∧Sc W bs os n∧P3 W bq oq p∧Sc W bt ot m)∧TabA W n2 0 64 (fun j=>smul (2 * j + 1) gen)∧Room W n3 0 160) ⟨⟨C.trans (Chg.of_below hb),RM.later hb,hs.later hb,hp.keep (Chg.of_below (R:=R0) hb) (fun _ _ h=>h),ht.later hb⟩,TB.keep (Chg.of_below (R:=R0) hb) (fun _ _ h=>h),K⟩ ?_
 clear C RM hs hp hb K ht ln3 TB
 rintro W ⟨⟨C,RM,hs,hp,ht⟩,TB,K⟩
 refine (nafC_e K hp (by omega)).mono ?_
 rintro e W ⟨rfl,hc,TA⟩
 have l3:=(hc.room K).lt (by decide)
 replace C:=C.loc hc zn3
 replace RM:=hc.room RM
 replace hs:=hs.keep hc (off_all (by omega))
 replace ht:=ht.keep hc (off_all (by omega))
 replace TB:=TB.keep hc (off_all (by omega))
 clear hc hp K
 go_wp2_with fail
 refine (naf_e (.inl ⟨rfl,rfl⟩) hs).mono ?_
 rintro e W ⟨⟨d,rfl,dn,ds⟩,hb⟩
 replace dn:=hd dn
 replace ds:=hd ds
 replace l3:=Nat.lt_of_lt_of_le l3 hb.size
 replace C:=C.trans (Chg.of_below hb)
 replace RM:=RM.later hb
 replace ht:=ht.later hb
 replace TA:=TA.keep (Chg.of_below (R:=R0) hb) (fun _ _ h=>h)
 replace TB:=TB.keep (Chg.of_below (R:=R0) hb) (fun _ _ h=>h)
 clear hs hb
 repeat ((fail_if_success with_reducible refine ss 116 ?_);first | go_step | dsimp only)
 obtain ⟨n4,ln4⟩:∃ n,W.heap.size = n:=⟨_,rfl⟩
 rw [ln4] at l3 ⊢
 have hb:=bA W (Obj.cells Tryz.zeroCells116 116)
 have K:=(new116 W).room (ari_length _ _)
 rw [ln4] at K
 have zn4:w.heap.size ≤ n4:=ln4 ▸ C.size
 refine pG (fun W=>(Chg (Rg bv ov 20) w W∧Room W bv ov 20∧Sc W bt ot m)∧TabC W n3 0 8 (fun j=>smul (2 * j + 1) p)∧TabA W n2 0 64 (fun j=>smul (2 * j + 1) gen)∧Room W n4 0 256) ⟨⟨C.trans (Chg.of_below hb),RM.later hb,ht.later hb⟩,TA.keep (Chg.of_below (R:=R0) hb) (fun _ _ h=>h),TB.keep (Chg.of_below (R:=R0) hb) (fun _ _ h=>h),K⟩ ?_
 clear C RM TA TB ht hb K ln4
 rintro W ⟨⟨C,RM,ht⟩,TA,TB,K⟩
 refine wS (b:=n4) (o:=0) rfl rfl K (ari_length _ _) (ari_one _ _) size116 ?_
 simp only [Act.put]
 have hc:Chg (Rg n4 0 256) W (World.setCells W n4 0 (ari d 256)):=by have:=putL_chg (w:=W) (b:=n4) (o:=0) (vs:=ari d 256);rwa [ari_length] at this
 have G:=putL_has (w:=W) (b:=n4) (o:=0) (vs:=ari d 256) (by rw [ari_length];exact K)
 have l4:=(hc.room K).lt (by decide)
 refine pG (fun W=>((Chg (Rg bv ov 20) w W∧Room W bv ov 20∧Sc W bt ot m)∧TabC W n3 0 8 (fun j=>smul (2 * j + 1) p)∧TabA W n2 0 64 (fun j=>smul (2 * j + 1) gen)∧Has W n4 0 (ari d 256))∧n4 < W.heap.size) ⟨⟨⟨C.loc hc zn4,hc.room RM,ht.keep hc (off_all (by omega))⟩,TA.keep hc (off_all (by omega)),TB.keep hc (off_all (by omega)),G⟩,l4⟩ ?_
 clear C RM TA TB hc K G l4 ht
 rintro W ⟨⟨⟨C,RM,ht⟩,TA,TB,G⟩,l4⟩
 go_wp2_with fail
 refine (naf_e (.inr ⟨rfl,rfl⟩) ht).mono ?_
 rintro e W ⟨⟨c,rfl,cn,cs⟩,hb⟩
 replace cn:=hd cn
 replace cs:=hd cs
 replace l4:=Nat.lt_of_lt_of_le l4 hb.size
 replace C:=C.trans (Chg.of_below hb)
 replace RM:=RM.later hb
 replace TA:=TA.keep (Chg.of_below (R:=R0) hb) (fun _ _ h=>h)
 replace TB:=TB.keep (Chg.of_below (R:=R0) hb) (fun _ _ h=>h)
 replace G:=G.later hb
 clear ht hb
 repeat ((fail_if_success with_reducible refine ss 116 ?_);first | go_step | dsimp only)
 obtain ⟨n5,ln5⟩:∃ n,W.heap.size = n:=⟨_,rfl⟩
 rw [ln5] at l4 ⊢
 have hb:=bA W (Obj.cells Tryz.zeroCells116 116)
 have K:=(new116 W).room (ari_length _ _)
 rw [ln5] at K
 have zn5:w.heap.size ≤ n5:=ln5 ▸ C.size
 refine pG (fun W=>(Chg (Rg bv ov 20) w W∧Room W bv ov 20)∧TabC W n3 0 8 (fun j=>smul (2 * j + 1) p)∧TabA W n2 0 64 (fun j=>smul (2 * j + 1) gen)∧Has W n4 0 (ari d 256)∧Room W n5 0 256) ⟨⟨C.trans (Chg.of_below hb),RM.later hb⟩,TA.keep (Chg.of_below (R:=R0) hb) (fun _ _ h=>h),TB.keep (Chg.of_below (R:=R0) hb) (fun _ _ h=>h),G.later hb,K⟩ ?_
 clear C RM TA TB G hb K ln5
 rintro W ⟨⟨C,RM⟩,TA,TB,G,K⟩
 refine wS (b:=n5) (o:=0) rfl rfl K (ari_length _ _) (ari_one _ _) size116 ?_
 simp only [Act.put]
 have hc:Chg (Rg n5 0 256) W (World.setCells W n5 0 (ari c 256)):=by have:=putL_chg (w:=W) (b:=n5) (o:=0) (vs:=ari c 256);rwa [ari_length] at this
 have H:=putL_has (w:=W) (b:=n5) (o:=0) (vs:=ari c 256) (by rw [ari_length];exact K)
 have l5:=(hc.room K).lt (by decide)
 refine pG (fun W=>((Chg (Rg bv ov 20) w W∧Room W bv ov 20)∧TabC W n3 0 8 (fun j=>smul (2 * j + 1) p)∧TabA W n2 0 64 (fun j=>smul (2 * j + 1) gen)∧Has W n4 0 (ari d 256)∧Has W n5 0 (ari c 256))∧n5 < W.heap.size) ⟨⟨⟨C.loc hc zn5,hc.room RM⟩,TA.keep hc (off_all (by omega)),TB.keep hc (off_all (by omega)),G.keep hc (by intro i _ h;have:=h.1;omega),H⟩,l5⟩ ?_
 clear C RM TA TB hc K G H l5
 rintro W ⟨⟨⟨C,RM⟩,TA,TB,G,H⟩,l5⟩
 go_upto_block 0 with fail
 go_cut [] (fun wx=>wx = W)
 case first =>
  go_wp2_with fail
  go_loopg [14] 256 (fun g s14 wx=>wx = W∧∃ j:Nat,j ≤ 256∧g = j∧s14 = .int .i64 ((j:Int) - 1))
  case atStart=>exact ⟨rfl,256,by omega,rfl,rfl⟩
  case round =>
   obtain ⟨rfl,j,hj,hg,rfl⟩:=hrel
   by_cases hlt:1 ≤ j
   ·obtain ⟨i,rfl⟩:∃ i,j = i + 1:=⟨j - 1,by omega⟩
    have e1:((i + 1:Nat):Int) - 1 = (i:Int):=by omega
    have q1:IntKind.i64.wrap ((i:Int) - 1) = (i:Int) - 1:=i64_word _ (by omega)
    rw [e1]
    have q2:(i:Int) < 256:=by omega
    have ci:=(G.cellA (i:=i) (by omega)).1
    have ce:=(H.cellA (i:=i) (by omega)).1
    rw [Nat.zero_add] at ci ce
    obtain ⟨x,qx⟩:∃ x,d i = x:=⟨_,rfl⟩
    obtain ⟨y,qy⟩:∃ y,c i = y:=⟨_,rfl⟩
    rw [qx] at ci
    rw [qy] at ce
    clear qx qy
    by_cases h0:x = 0
    ·subst h0
     by_cases h1:y = 0
     ·subst h1
      go_wp2_with fail
      go_roundg i
      case measure=>omega
      case rel=>exact ⟨rfl,i,by omega,rfl,rfl⟩
     ·go_wp2_with fail
      go_meet
      rfl
    ·go_wp2_with fail
     go_meet
     rfl
   ·obtain rfl:j = 0:=by omega
    go_wp2_with fail
    go_meet
    rfl
 case rest =>
 obtain rfl:=hcut
 repeat ((fail_if_success with_reducible show wpList _ _ _ (⟨some 52,_,_,_,_,_⟩ :: _) _ _);(first | go_values | go_skip | go_guarded | go_step | go_upon | dsimp only))
 obtain ⟨n6,ln6⟩:∃ n,wc.heap.size = n:=⟨_,rfl⟩
 rw [ln6] at l5
 simp only [ln6]
 have zn6:w.heap.size ≤ n6:=ln6 ▸ C.size
 have hb:=aB [z79,z106,z90,z93] wc
 have K0:=(aH [z79,z106,z90,z93] wc 0 (List.replicate 20 (.int .u64 0)) 79 rfl).room (n:=20) rfl
 have K1:=(aH [z79,z106,z90,z93] wc 1 (List.replicate 15 (.int .u64 0)) 106 rfl).room (n:=15) rfl
 have K2:=(aH [z79,z106,z90,z93] wc 2 (List.replicate 20 (.int .u64 0)) 90 rfl).room (n:=20) rfl
 have K3:=(aH [z79,z106,z90,z93] wc 3 (List.replicate 15 (.int .u64 0)) 93 rfl).room (n:=15) rfl
 rw [ln6] at K0 K1 K2 K3
 refine pG (fun W=>MS w W bv ov n6 20 (n6 + 1 + 1) (n6 + 1 + 1 + 1) (XV n3 n2 n4 n5 (n6 + 1) d c p)) ⟨C.trans (Chg.of_below hb),RM.later hb,K0,K2,K3,TA.keep (Chg.of_below (R:=R0) hb) (fun _ _ h=>h),TB.keep (Chg.of_below (R:=R0) hb) (fun _ _ h=>h),G.later hb,H.later hb,K1⟩ ?_
 clear C RM TA TB G H hb K0 K1 K2 K3 ln6
 rintro W S
 have kp:=kpV (tA:=n3) (tB:=n2) (g1:=n4) (g2:=n5) (mB:=n6 + 1) (d:=d) (c:=c) (p:=p)
 go_wp2_with fail
 refine (p2Zero_e S.B).mono ?_
 rintro e W ⟨rfl,hc,h2⟩
 replace S:=S.step kp hc ⟨by omega,by omega,by omega,by omega⟩ (.inr (by omega))
 clear hc
 go_wp2_with fail
 go_loopg [13] 256 (fun g s13 wx=>∃ j:Nat,j ≤ 256∧g = j∧s13 = .int .i64 ((j:Int) - 1)∧MS w wx bv ov n6 20 (n6 + 1 + 1) (n6 + 1 + 1 + 1) (XV n3 n2 n4 n5 (n6 + 1) d c p)∧P2 wx (n6 + 1 + 1 + 1) 0 (zmul (top d (256 - j)) p + zmul (top c (256 - j)) gen))
 case atStart=>exact ⟨256,by omega,rfl,rfl,S,by rw [show top d (256 - 256) = 0 from rfl,show top c (256 - 256) = 0 from rfl,zmul_zero,zmul_zero,add_zero];exact h2⟩
 case round =>
  clear S h2
  obtain ⟨j,hj,hg,rfl,S,h2⟩:=hrel
  by_cases hlt:1 ≤ j
  ·obtain ⟨i,rfl⟩:∃ i,j = i + 1:=⟨j - 1,by omega⟩
   have e1:((i + 1:Nat):Int) - 1 = (i:Int):=by omega
   have q1:IntKind.i64.wrap ((i:Int) - 1) = (i:Int) - 1:=i64_word _ (by omega)
   rw [e1]
   rw [show 256 - (i + 1) = 255 - i by omega] at h2
   have q2:(i:Int) < 256:=by omega
   go_wp2_with fail
   refine (ptDbl_e S.A h2 (by omega)).mono ?_
   rintro e W ⟨rfl,hc,h1⟩
   replace S:=S.step kp hc ⟨by omega,by omega,by omega,by omega⟩ (.inr (by omega))
   clear hc h2
   have ci:=(S.X.2.2.1.cellA (i:=i) (by omega)).1
   obtain ⟨x,qx⟩:∃ x,d i = x:=⟨_,rfl⟩
   rw [Nat.zero_add,qx] at ci
   have sg:=dig_sign (h:=8) rfl (ds.out i)
   rw [qx] at sg
   go_upto_if 64 with fail
   go_cut [] (fun wx=>MS w wx bv ov n6 20 (n6 + 1 + 1) (n6 + 1 + 1 + 1) (XV n3 n2 n4 n5 (n6 + 1) d c p)∧P1 wx (n6 + 1 + 1) 0 ((zmul (top d (255 - i)) p + zmul (top c (255 - i)) gen) + (zmul (top d (255 - i)) p + zmul (top c (255 - i)) gen) + zmul x p))
   case first =>
    rcases sg with h0 | ⟨jj,hj,e⟩ | ⟨jj,hj,e⟩
    ·subst h0
     go_wp2_with fail
     go_meet
     exact ⟨S,by rw [zmul_zero,add_zero];exact h1⟩
    ·subst e
     have g1:0 < 2 * (jj:Int) + 1:=by omega
     go_wp2_with fail
     refine (p3OfP1_e S.V h1 (by omega)).mono ?_
     rintro e W ⟨rfl,hc,h3⟩
     replace S:=S.step kp hc ⟨by omega,by omega,by omega,by omega⟩ (.inl ⟨rfl,rfl,rfl⟩)
     clear hc h1 ci
     have ci:=(S.X.2.2.1.cellA (i:=i) (by omega)).1
     rw [Nat.zero_add,qx] at ci
     go_wp2_with fail
     refine (nafSelC_e hj S.X.1 S.M).mono ?_
     rintro e W ⟨rfl,hc,h5⟩
     replace S:=S.step kp hc ⟨by omega,by omega,by omega,by omega⟩ (.inr (by omega))
     replace h3:=h3.keep hc (off_all (by omega))
     clear hc ci
     go_wp2_with fail
     refine (ptAdd_e S.A h3 (by omega) h5 (by omega)).mono ?_
     rintro e W ⟨rfl,hc,h4⟩
     replace S:=S.step kp hc ⟨by omega,by omega,by omega,by omega⟩ (.inr (by omega))
     clear hc h3 h5
     go_wp2_with fail
     go_meet
     exact ⟨S,by rw [sm_zm] at h4;exact h4⟩
    ·subst e
     have g1:¬ 0 < -(2 * (jj:Int) + 1):=by omega
     have g2:-(2 * (jj:Int) + 1) < 0:=by omega
     have g3:IntKind.i8.wrap (2 * (jj:Int) + 1) = 2 * (jj:Int) + 1:=i8w (by omega)
     have g4:0 < 2 * (jj:Int) + 1:=by omega
     go_wp2_with fail
     refine (p3OfP1_e S.V h1 (by omega)).mono ?_
     rintro e W ⟨rfl,hc,h3⟩
     replace S:=S.step kp hc ⟨by omega,by omega,by omega,by omega⟩ (.inl ⟨rfl,rfl,rfl⟩)
     clear hc h1 ci
     have ci:=(S.X.2.2.1.cellA (i:=i) (by omega)).1
     rw [Nat.zero_add,qx] at ci
     go_wp2_with fail
     refine (nafSelC_e hj S.X.1 S.M).mono ?_
     rintro e W ⟨rfl,hc,h5⟩
     replace S:=S.step kp hc ⟨by omega,by omega,by omega,by omega⟩ (.inr (by omega))
     replace h3:=h3.keep hc (off_all (by omega))
     clear hc ci
     go_wp2_with fail
     refine (ptSub_e S.A h3 (by omega) h5 (by omega)).mono ?_
     rintro e W ⟨rfl,hc,h4⟩
     replace S:=S.step kp hc ⟨by omega,by omega,by omega,by omega⟩ (.inr (by omega))
     clear hc h3 h5
     go_wp2_with fail
     go_meet
     exact ⟨S,by rw [sm_zn] at h4;exact h4⟩
   case rest =>
   clear S h1 ci sg
   obtain ⟨S,h1⟩:=hcut
   replace qx:=hd qx
   have ci:=(S.X.2.2.2.1.cellA (i:=i) (by omega)).1
   obtain ⟨y,qy⟩:∃ y,c i = y:=⟨_,rfl⟩
   rw [Nat.zero_add,qy] at ci
   have sg:=dig_sign (h:=64) rfl (cs.out i)
   rw [qy] at sg
   go_upto_if 97 with fail
   go_cut [] (fun wx=>MS w wx bv ov n6 20 (n6 + 1 + 1) (n6 + 1 + 1 + 1) (XV n3 n2 n4 n5 (n6 + 1) d c p)∧P1 wx (n6 + 1 + 1) 0 ((zmul (top d (255 - i)) p + zmul (top c (255 - i)) gen) + (zmul (top d (255 - i)) p + zmul (top c (255 - i)) gen) + zmul x p + zmul y gen))
   case first =>
    rcases sg with h0 | ⟨jj,hj,e⟩ | ⟨jj,hj,e⟩
    ·subst h0
     go_wp2_with fail
     go_meet
     exact ⟨S,by rw [zmul_zero,add_zero];exact h1⟩
    ·subst e
     have g1:0 < 2 * (jj:Int) + 1:=by omega
     go_wp2_with fail
     refine (p3OfP1_e S.V h1 (by omega)).mono ?_
     rintro e W ⟨rfl,hc,h3⟩
     replace S:=S.step kp hc ⟨by omega,by omega,by omega,by omega⟩ (.inl ⟨rfl,rfl,rfl⟩)
     clear hc h1 ci
     have ci:=(S.X.2.2.2.1.cellA (i:=i) (by omega)).1
     rw [Nat.zero_add,qy] at ci
     go_wp2_with fail
     refine (nafSelA_e hj S.X.2.1 S.X.2.2.2.2).mono ?_
     rintro e W ⟨rfl,hc,h5⟩
     replace S:=S.step kp hc ⟨by omega,by omega,by omega,by omega⟩ (.inr (by omega))
     replace h3:=h3.keep hc (off_all (by omega))
     clear hc ci
     go_wp2_with fail
     refine (ptAddA_e S.A h3 (by omega) h5 (by omega)).mono ?_
     rintro e W ⟨rfl,hc,h4⟩
     replace S:=S.step kp hc ⟨by omega,by omega,by omega,by omega⟩ (.inr (by omega))
     clear hc h3 h5
     go_wp2_with fail
     go_meet
     exact ⟨S,by rw [sm_zm] at h4;exact h4⟩
    ·subst e
     have g1:¬ 0 < -(2 * (jj:Int) + 1):=by omega
     have g2:-(2 * (jj:Int) + 1) < 0:=by omega
     have g3:IntKind.i8.wrap (2 * (jj:Int) + 1) = 2 * (jj:Int) + 1:=i8w (by omega)
     have g4:0 < 2 * (jj:Int) + 1:=by omega
     go_wp2_with fail
     refine (p3OfP1_e S.V h1 (by omega)).mono ?_
     rintro e W ⟨rfl,hc,h3⟩
     replace S:=S.step kp hc ⟨by omega,by omega,by omega,by omega⟩ (.inl ⟨rfl,rfl,rfl⟩)
     clear hc h1 ci
     have ci:=(S.X.2.2.2.1.cellA (i:=i) (by omega)).1
     rw [Nat.zero_add,qy] at ci
     go_wp2_with fail
     refine (nafSelA_e hj S.X.2.1 S.X.2.2.2.2).mono ?_
     rintro e W ⟨rfl,hc,h5⟩
     replace S:=S.step kp hc ⟨by omega,by omega,by omega,by omega⟩ (.inr (by omega))
     replace h3:=h3.keep hc (off_all (by omega))
     clear hc ci
     go_wp2_with fail
     refine (ptSubA_e S.A h3 (by omega) h5 (by omega)).mono ?_
     rintro e W ⟨rfl,hc,h4⟩
     replace S:=S.step kp hc ⟨by omega,by omega,by omega,by omega⟩ (.inr (by omega))
     clear hc h3 h5
     go_wp2_with fail
     go_meet
     exact ⟨S,by rw [sm_zn] at h4;exact h4⟩
   case rest =>
   clear S h1 ci sg
   obtain ⟨S,h1⟩:=hcut
   rw [two_tops,←qx.out,←qy,show 2 * top d (255 - i) + d i = top d (256 - i) by rw [show 256 - i = (255 - i) + 1 by omega,top_succ,show 255 - (255 - i) = i by omega],show 2 * top c (255 - i) + c i = top c (256 - i) by rw [show 256 - i = (255 - i) + 1 by omega,top_succ,show 255 - (255 - i) = i by omega]] at h1
   replace qy:=hd qy
   go_wp2_with fail
   refine (p2OfP1_e S.B h1 (by omega)).mono ?_
   rintro e W ⟨rfl,hc,h2⟩
   replace S:=S.step kp hc ⟨by omega,by omega,by omega,by omega⟩ (.inr (by omega))
   clear hc h1
   go_wp2_with fail
   go_roundg i
   case measure=>omega
   case rel=>exact ⟨i,by omega,rfl,rfl,S,h2⟩
  ·obtain rfl:j = 0:=by omega
   rw [show 256 - 0 = 256 from rfl,dn.out,cn.out] at h2
   go_wp2_with fail
   refine (p3OfP2_e S.V h2 (by omega)).mono ?_
   rintro e W ⟨rfl,hc,h3⟩
   replace S:=S.step kp hc ⟨by omega,by omega,by omega,by omega⟩ (.inl ⟨rfl,rfl,rfl⟩)
   clear hc h2
   go_wp2_with fail
   go_ret
   exact ⟨rfl,S.C,h3⟩
end Go.Proofs.Ed
