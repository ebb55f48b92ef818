/- A part of the proof of the tied card of FnTimes: Tab, Sel, Bt0, Cpy. -/
import Derived.Test.YtcogfofgmbndjaaGreatDoorProg
import Derived.WalkKit
import Derived.WalkSpells
import Derived.WalkLawsBesides
import Derived.Outline
import Derived.StillTailTactics
import Derived.Test.YtcogfofgmbndjaaGreatDoorTAv
import Derived.Test.YtcogfofgmbndjaaGreatDoorTAu
set_option maxRecDepth 100000
set_option maxHeartbeats 40000000
namespace Go.Proofs.Ed
open Go.RowKit
def TabC (w:World) (b o m:Nat) (f:Nat→Pt):Prop:=∀ j,j < m→PC w b (o + j * 20) (f j)
theorem TabC.keep {R:Nat→Nat→Prop} {w w':World} {b o m:Nat} {f:Nat→Pt} (r:TabC w b o m f) (h:Chg R w w') (hR:Off R b o (m * 20)):TabC w' b o m f :=
 fun j hj=>(r j hj).keep h (off_part hR (by omega) (by omega))
theorem TabC.drew {w:World} {b o m:Nat} {f:Nat→Pt} (r:TabC w b o m f):TabC w.drew b o m f:=r
theorem TabC.snoc {w:World} {b o m:Nat} {f:Nat→Pt} (r:TabC w b o m f) {q:Pt} (hq:q = f m) (h:PC w b (o + m * 20) q):TabC w b o (m + 1) f:=fun j hj=>by
 by_cases e:j < m
 ·exact r j e
 ·obtain rfl:j = m:=by omega
  rw [←hq];exact h
def TabA (w:World) (b o m:Nat) (f:Nat→Pt):Prop:=∀ j,j < m→PA w b (o + j * 15) (f j)
theorem TabA.keep {R:Nat→Nat→Prop} {w w':World} {b o m:Nat} {f:Nat→Pt} (r:TabA w b o m f) (h:Chg R w w') (hR:Off R b o (m * 15)):TabA w' b o m f :=
 fun j hj=>(r j hj).keep h (off_part hR (by omega) (by omega))
theorem TabA.drew {w:World} {b o m:Nat} {f:Nat→Pt} (r:TabA w b o m f):TabA w.drew b o m f:=r
theorem TabA.snoc {w:World} {b o m:Nat} {f:Nat→Pt} (r:TabA w b o m f) {q:Pt} (hq:q = f m) (h:PA w b (o + m * 15) q):TabA w b o (m + 1) f:=fun j hj=>by
 by_cases e:j < m
 ·exact r j e
 ·obtain rfl:j = m:=by omega
  rw [←hq];exact h
theorem size90:∀ w,(sizeOf 90).run Tryz.prog w = .ok 20 w:=fun w=>by simp [go_sem]
theorem tabC_e {bv ov bp op:Nat} {p:Pt} {w:World} (RM:Room w bv ov 160) (hp:P3 w bp op p) (hb:bv ≠ bp) :
  Calls Tryz.prog 47 #[Ptr bv ov,Ptr bp op] w (fun e w'=>e = .returned (.tuple #[])∧Chg (Rg bv ov 160) w w'∧TabC w' bv ov 8 (fun j=>smul (j + 1) p)):=by
 have C:Chg (Rg bv ov 160) w w:=.refl _ _
 go_enter Tryz.func47,Tryz.ntmps47
 go_wp2_with fail
 refine (pcOfP3_e (RM.part (by omega) (by omega)) hp (by omega)).mono ?_
 rintro e W ⟨rfl,hc,hv⟩
 replace C:=C.into hc
 replace RM:=hc.room RM
 replace hp:=hp.keep hc oa
 clear hc
 have E1:=hv
 clear hv
 repeat ((fail_if_success with_reducible refine ss 75 ?_);first | go_step | dsimp only)
 obtain ⟨n1,ln1⟩:∃ n,W.heap.size = n:=⟨_,rfl⟩
 rw [ln1]
 have hb:=aB [z75] W
 have zn1:w.heap.size ≤ n1:=ln1 ▸ C.size
 have y2:bv < n1:=ln1 ▸ RM.lt (by decide)
 have y3:bp < n1:=ln1 ▸ hp.lt
 replace C:=C.trans (Chg.of_below hb)
 replace RM:=RM.later hb
 replace hp:=hp.keep (Chg.of_below (R:=R0) hb) (fun _ _ h=>h)
 replace E1:=E1.keep (Chg.of_below (R:=R0) hb) (fun _ _ h=>h)
 have K1_0:=(aH [z75] W 0 (List.replicate 20 (.int .u64 0)) 75 rfl).room (n:=20) rfl
 rw [ln1] at K1_0
 refine pG (fun W=>Chg (Rg bv ov 160) w W∧Room W bv ov 160∧P3 W bp op p∧PC W bv ov p∧Room W n1 0 20) ⟨C,RM,hp,E1,K1_0⟩ ?_
 clear C RM hp E1 K1_0 hb ln1
 rintro W ⟨C,RM,hp,E1,K1_0⟩
 refine wS (b:=n1) (o:=0) (vs:=(List.replicate 20 (.int .u64 0))) rfl rfl K1_0 rfl (fun v hv=>by rw [List.eq_of_mem_replicate hv];rfl) size75 ?_
 simp only [Act.put]
 have hc:Chg (Rg n1 0 20) W (World.setCells W n1 0 (List.replicate 20 (.int .u64 0))):=putL_chg (w:=W) (b:=n1) (o:=0) (vs:=(List.replicate 20 (.int .u64 0)))
 replace C:=C.loc hc (by omega)
 replace RM:=hc.room RM
 replace hp:=hp.keep hc oa
 replace E1:=E1.keep hc oa
 replace K1_0:=hc.room K1_0
 clear hc
 refine pG (fun W=>Chg (Rg bv ov 160) w W∧Room W bv ov 160∧P3 W bp op p∧PC W bv ov p∧Room W n1 0 20) ⟨C,RM,hp,E1,K1_0⟩ ?_
 clear C RM hp E1 K1_0
 rintro W ⟨C,RM,hp,E1,K1_0⟩
 repeat ((fail_if_success with_reducible refine ss 90 ?_);first | go_step | dsimp only)
 obtain ⟨n2,ln2⟩:∃ n,W.heap.size = n:=⟨_,rfl⟩
 rw [ln2]
 have hb:=aB [z90] W
 have zn2:w.heap.size ≤ n2:=ln2 ▸ C.size
 have y4:bv < n2:=ln2 ▸ RM.lt (by decide)
 have y5:bp < n2:=ln2 ▸ hp.lt
 have y6:n1 < n2:=ln2 ▸ K1_0.lt (by decide)
 replace C:=C.trans (Chg.of_below hb)
 replace RM:=RM.later hb
 replace hp:=hp.keep (Chg.of_below (R:=R0) hb) (fun _ _ h=>h)
 replace E1:=E1.keep (Chg.of_below (R:=R0) hb) (fun _ _ h=>h)
 replace K1_0:=K1_0.later hb
 have K2_0:=(aH [z90] W 0 (List.replicate 20 (.int .u64 0)) 90 rfl).room (n:=20) rfl
 rw [ln2] at K2_0
 refine pG (fun W=>Chg (Rg bv ov 160) w W∧Room W bv ov 160∧P3 W bp op p∧PC W bv ov p∧Room W n1 0 20∧Room W n2 0 20) ⟨C,RM,hp,E1,K1_0,K2_0⟩ ?_
 clear C RM hp E1 K1_0 K2_0 hb ln2
 rintro W ⟨C,RM,hp,E1,K1_0,K2_0⟩
 refine wS (b:=n2) (o:=0) (vs:=(List.replicate 20 (.int .u64 0))) rfl rfl K2_0 rfl (fun v hv=>by rw [List.eq_of_mem_replicate hv];rfl) size90 ?_
 simp only [Act.put]
 have hc:Chg (Rg n2 0 20) W (World.setCells W n2 0 (List.replicate 20 (.int .u64 0))):=putL_chg (w:=W) (b:=n2) (o:=0) (vs:=(List.replicate 20 (.int .u64 0)))
 replace C:=C.loc hc (by omega)
 replace RM:=hc.room RM
 replace hp:=hp.keep hc oa
 replace E1:=E1.keep hc oa
 replace K1_0:=hc.room K1_0
 replace K2_0:=hc.room K2_0
 clear hc
 refine pG (fun W=>Chg (Rg bv ov 160) w W∧Room W bv ov 160∧P3 W bp op p∧PC W bv ov p∧Room W n1 0 20∧Room W n2 0 20) ⟨C,RM,hp,E1,K1_0,K2_0⟩ ?_
 clear C RM hp E1 K1_0 K2_0
 rintro W ⟨C,RM,hp,E1,K1_0,K2_0⟩
 go_wp2_with fail
 go_loopw [6] (fun i W=>∃ k:Nat,k ≤ 7∧i = .int .i64 k∧Chg (Rg bv ov 160) w W∧Room W bv ov 160∧P3 W bp op p∧Room W n1 0 20∧Room W n2 0 20∧TabC W bv ov (k + 1) (fun j=>smul (j + 1) p)) (fun i _=>7 - (intOf i).toNat)
 case atStart=>exact ⟨0,by omega,rfl,C,RM,hp,K1_0,K2_0,fun j hj=>by obtain rfl:j = 0:=(by omega);show PC W bv ov (smul 1 p);rw [smul_one];exact E1⟩
 case round =>
  clear C RM hp K1_0 K2_0 E1
  obtain ⟨k,hk,rfl,C,RM,hp,K1_0,K2_0,T⟩:=hrel
  by_cases hlt:k < 7
  ·have E:PC wr bv (ov + k * 20) (smul (k + 1) p):=T k (by omega)
   have RMk:Room wr bv (ov + (k + 1) * 20) 20:=RM.part (by omega) (by omega)
   go_wp2_with fail
   have wk:IntKind.i64.wrap ((k:Int) + 1) = (k:Int) + 1:=by simp [IntKind.wrap,IntKind.bits,IntKind.signed];omega
   have h8:(k:Int) + 1 < 8:=by omega
   have h0:0 ≤ (k:Int) + 1:=by omega
   have k8:(k:Int) < 8:=by omega
   refine region_mix [(0,true),(1,true),(2,true),(3,true),(4,true),(5,true),(6,true),(7,true),(8,true),(9,true),(10,true),(11,true),(12,false),(13,false),(14,false)] (by kernel_rfl) (by kernel_rfl) ?_
   simp only [pick,List.map_cons,List.map_nil,List.getD_cons_zero,List.getD_cons_succ]
   repeat (refine wpMix_blind' (fun ne K hK=>?_);go_simp;refine hK _ ?_;clear hK K ne;simp only [Act.put,iA,iB,iC])
   refine wpMix_world (fun K hK=>?_)
   go_wp2_with fail
   refine cG (fun W=>Chg (Rg bv ov 160) w W∧Room W bv ov 160∧P3 W bp op p∧Room W n1 0 20∧Room W n2 0 20∧TabC W bv ov (k + 1) (fun j=>smul (j + 1) p)∧PC W bv (ov + k * 20) (smul (k + 1) p)∧Room W bv (ov + (k + 1) * 20) 20) ⟨C.drew,RM.drew,hp.drew,K1_0.drew,K2_0.drew,T.drew,E.drew,RMk.drew⟩ ?_
   clear C RM hp K1_0 K2_0 T E RMk
   rintro W ⟨C,RM,hp,K1_0,K2_0,T,E,RMk⟩
   refine (ptAdd_e K2_0 hp (by omega) E (by omega)).mono ?_
   rintro e W ⟨rfl,hc,hv⟩
   replace C:=C.loc hc (by omega)
   replace RM:=hc.room RM
   replace hp:=hp.keep hc oa
   replace K1_0:=hc.room K1_0
   replace K2_0:=hc.room K2_0
   replace T:=T.keep hc oa
   replace E:=E.keep hc oa
   replace RMk:=hc.room RMk
   clear hc
   have E7:=hv
   clear hv
   go_wp2_with fail
   repeat (refine wpMix_blind' (fun ne K hK=>?_);go_simp;refine hK _ ?_;clear hK K ne;simp only [Act.put,iA,iB,iC])
   refine wpMix_world (fun K hK=>?_)
   go_wp2_with fail
   refine (p3OfP1_e K1_0 E7 (by omega)).mono ?_
   rintro e W ⟨rfl,hc,hv⟩
   replace C:=C.loc hc (by omega)
   replace RM:=hc.room RM
   replace hp:=hp.keep hc oa
   replace K1_0:=hc.room K1_0
   replace K2_0:=hc.room K2_0
   replace T:=T.keep hc oa
   replace E:=E.keep hc oa
   replace RMk:=hc.room RMk
   replace E7:=E7.keep hc oa
   clear hc
   have E8:=hv
   clear hv
   go_wp2_with fail
   repeat (refine wpMix_blind' (fun ne K hK=>?_);go_simp;refine hK _ ?_;clear hK K ne;simp only [Act.put,iA,iB,iC])
   refine wpMix_world (fun K hK=>?_)
   go_wp2_with fail
   refine (pcOfP3_e RMk E8 (by omega)).mono ?_
   rintro e W ⟨rfl,hc,hv⟩
   replace C:=C.into hc
   replace RM:=hc.room RM
   replace hp:=hp.keep hc oa
   replace K1_0:=hc.room K1_0
   replace K2_0:=hc.room K2_0
   replace T:=T.keep hc oa
   replace E:=E.keep hc oa
   replace RMk:=hc.room RMk
   replace E7:=E7.keep hc oa
   replace E8:=E8.keep hc oa
   clear hc
   have E9:=hv
   clear hv
   go_wp2_with fail
   repeat (refine wpMix_blind' (fun ne K hK=>?_);go_simp;refine hK _ ?_;clear hK K ne;simp only [Act.put,iA,iB,iC])
   refine wpMix_nil ?_
   go_wp2_with fail
   exact ⟨⟨k + 1,by omega,by push_cast;rfl,C,RM,hp,K1_0,K2_0,T.snoc (by show p + smul (k + 1) p = smul (k + 1 + 1) p;rw [smul_succ (k + 1),add_comm]) E9⟩,by simp [intOf];omega⟩
  ·have:k = 7:=by omega
   subst this
   go_wp2_with fail
   go_end0
   exact ⟨rfl,C,T⟩
theorem tabA_e {bv ov bp op:Nat} {p:Pt} {w:World} (RM:Room w bv ov 120) (hp:P3 w bp op p) (hb:bv ≠ bp) :
  Calls Tryz.prog 100 #[Ptr bv ov,Ptr bp op] w (fun e w'=>e = .returned (.tuple #[])∧Chg (Rg bv ov 120) w w'∧TabA w' bv ov 8 (fun j=>smul (j + 1) p)):=by
 have C:Chg (Rg bv ov 120) w w:=.refl _ _
 go_enter Tryz.func100,Tryz.ntmps100
 go_wp2_with fail
 refine (paOfP3_e (RM.part (by omega) (by omega)) hp (by omega)).mono ?_
 rintro e W ⟨rfl,hc,hv⟩
 replace C:=C.into hc
 replace RM:=hc.room RM
 replace hp:=hp.keep hc oa
 clear hc
 have E1:=hv
 clear hv
 repeat ((fail_if_success with_reducible refine ss 75 ?_);first | go_step | dsimp only)
 obtain ⟨n1,ln1⟩:∃ n,W.heap.size = n:=⟨_,rfl⟩
 rw [ln1]
 have hb:=aB [z75] W
 have zn1:w.heap.size ≤ n1:=ln1 ▸ C.size
 have y2:bv < n1:=ln1 ▸ RM.lt (by decide)
 have y3:bp < n1:=ln1 ▸ hp.lt
 replace C:=C.trans (Chg.of_below hb)
 replace RM:=RM.later hb
 replace hp:=hp.keep (Chg.of_below (R:=R0) hb) (fun _ _ h=>h)
 replace E1:=E1.keep (Chg.of_below (R:=R0) hb) (fun _ _ h=>h)
 have K1_0:=(aH [z75] W 0 (List.replicate 20 (.int .u64 0)) 75 rfl).room (n:=20) rfl
 rw [ln1] at K1_0
 refine pG (fun W=>Chg (Rg bv ov 120) w W∧Room W bv ov 120∧P3 W bp op p∧PA W bv ov p∧Room W n1 0 20) ⟨C,RM,hp,E1,K1_0⟩ ?_
 clear C RM hp E1 K1_0 hb ln1
 rintro W ⟨C,RM,hp,E1,K1_0⟩
 refine wS (b:=n1) (o:=0) (vs:=(List.replicate 20 (.int .u64 0))) rfl rfl K1_0 rfl (fun v hv=>by rw [List.eq_of_mem_replicate hv];rfl) size75 ?_
 simp only [Act.put]
 have hc:Chg (Rg n1 0 20) W (World.setCells W n1 0 (List.replicate 20 (.int .u64 0))):=putL_chg (w:=W) (b:=n1) (o:=0) (vs:=(List.replicate 20 (.int .u64 0)))
 replace C:=C.loc hc (by omega)
 replace RM:=hc.room RM
 replace hp:=hp.keep hc oa
 replace E1:=E1.keep hc oa
 replace K1_0:=hc.room K1_0
 clear hc
 refine pG (fun W=>Chg (Rg bv ov 120) w W∧Room W bv ov 120∧P3 W bp op p∧PA W bv ov p∧Room W n1 0 20) ⟨C,RM,hp,E1,K1_0⟩ ?_
 clear C RM hp E1 K1_0
 rintro W ⟨C,RM,hp,E1,K1_0⟩
 repeat ((fail_if_success with_reducible refine ss 90 ?_);first | go_step | dsimp only)
 obtain ⟨n2,ln2⟩:∃ n,W.heap.size = n:=⟨_,rfl⟩
 rw [ln2]
 have hb:=aB [z90] W
 have zn2:w.heap.size ≤ n2:=ln2 ▸ C.size
 have y4:bv < n2:=ln2 ▸ RM.lt (by decide)
 have y5:bp < n2:=ln2 ▸ hp.lt
 have y6:n1 < n2:=ln2 ▸ K1_0.lt (by decide)
 replace C:=C.trans (Chg.of_below hb)
 replace RM:=RM.later hb
 replace hp:=hp.keep (Chg.of_below (R:=R0) hb) (fun _ _ h=>h)
 replace E1:=E1.keep (Chg.of_below (R:=R0) hb) (fun _ _ h=>h)
 replace K1_0:=K1_0.later hb
 have K2_0:=(aH [z90] W 0 (List.replicate 20 (.int .u64 0)) 90 rfl).room (n:=20) rfl
 rw [ln2] at K2_0
 refine pG (fun W=>Chg (Rg bv ov 120) w W∧Room W bv ov 120∧P3 W bp op p∧PA W bv ov p∧Room W n1 0 20∧Room W n2 0 20) ⟨C,RM,hp,E1,K1_0,K2_0⟩ ?_
 clear C RM hp E1 K1_0 K2_0 hb ln2
 rintro W ⟨C,RM,hp,E1,K1_0,K2_0⟩
 refine wS (b:=n2) (o:=0) (vs:=(List.replicate 20 (.int .u64 0))) rfl rfl K2_0 rfl (fun v hv=>by rw [List.eq_of_mem_replicate hv];rfl) size90 ?_
 simp only [Act.put]
 have hc:Chg (Rg n2 0 20) W (World.setCells W n2 0 (List.replicate 20 (.int .u64 0))):=putL_chg (w:=W) (b:=n2) (o:=0) (vs:=(List.replicate 20 (.int .u64 0)))
 replace C:=C.loc hc (by omega)
 replace RM:=hc.room RM
 replace hp:=hp.keep hc oa
 replace E1:=E1.keep hc oa
 replace K1_0:=hc.room K1_0
 replace K2_0:=hc.room K2_0
 clear hc
 refine pG (fun W=>Chg (Rg bv ov 120) w W∧Room W bv ov 120∧P3 W bp op p∧PA W bv ov p∧Room W n1 0 20∧Room W n2 0 20) ⟨C,RM,hp,E1,K1_0,K2_0⟩ ?_
 clear C RM hp E1 K1_0 K2_0
 rintro W ⟨C,RM,hp,E1,K1_0,K2_0⟩
 go_wp2_with fail
 go_loopw [6] (fun i W=>∃ k:Nat,k ≤ 7∧i = .int .i64 k∧Chg (Rg bv ov 120) w W∧Room W bv ov 120∧P3 W bp op p∧Room W n1 0 20∧Room W n2 0 20∧TabA W bv ov (k + 1) (fun j=>smul (j + 1) p)) (fun i _=>7 - (intOf i).toNat)
 case atStart=>exact ⟨0,by omega,rfl,C,RM,hp,K1_0,K2_0,fun j hj=>by obtain rfl:j = 0:=(by omega);show PA W bv ov (smul 1 p);rw [smul_one];exact E1⟩
 case round =>
  clear C RM hp K1_0 K2_0 E1
  obtain ⟨k,hk,rfl,C,RM,hp,K1_0,K2_0,T⟩:=hrel
  by_cases hlt:k < 7
  ·have E:PA wr bv (ov + k * 15) (smul (k + 1) p):=T k (by omega)
   have RMk:Room wr bv (ov + (k + 1) * 15) 15:=RM.part (by omega) (by omega)
   go_wp2_with fail
   have wk:IntKind.i64.wrap ((k:Int) + 1) = (k:Int) + 1:=by simp [IntKind.wrap,IntKind.bits,IntKind.signed];omega
   have h8:(k:Int) + 1 < 8:=by omega
   have h0:0 ≤ (k:Int) + 1:=by omega
   have k8:(k:Int) < 8:=by omega
   refine region_mix [(0,true),(1,true),(2,true),(3,true),(4,true),(5,true),(6,true),(7,true),(8,true),(9,true),(10,true),(11,true),(12,false),(13,false),(14,false)] (by kernel_rfl) (by kernel_rfl) ?_
   simp only [pick,List.map_cons,List.map_nil,List.getD_cons_zero,List.getD_cons_succ]
   repeat (refine wpMix_blind' (fun ne K hK=>?_);go_simp;refine hK _ ?_;clear hK K ne;simp only [Act.put,iA,iB,iC])
   refine wpMix_world (fun K hK=>?_)
   go_wp2_with fail
   refine cG (fun W=>Chg (Rg bv ov 120) w W∧Room W bv ov 120∧P3 W bp op p∧Room W n1 0 20∧Room W n2 0 20∧TabA W bv ov (k + 1) (fun j=>smul (j + 1) p)∧PA W bv (ov + k * 15) (smul (k + 1) p)∧Room W bv (ov + (k + 1) * 15) 15) ⟨C.drew,RM.drew,hp.drew,K1_0.drew,K2_0.drew,T.drew,E.drew,RMk.drew⟩ ?_
   clear C RM hp K1_0 K2_0 T E RMk
   rintro W ⟨C,RM,hp,K1_0,K2_0,T,E,RMk⟩
   refine (ptAddA_e K2_0 hp (by omega) E (by omega)).mono ?_
   rintro e W ⟨rfl,hc,hv⟩
   replace C:=C.loc hc (by omega)
   replace RM:=hc.room RM
   replace hp:=hp.keep hc oa
   replace K1_0:=hc.room K1_0
   replace K2_0:=hc.room K2_0
   replace T:=T.keep hc oa
   replace E:=E.keep hc oa
   replace RMk:=hc.room RMk
   clear hc
   have E7:=hv
   clear hv
   go_wp2_with fail
   repeat (refine wpMix_blind' (fun ne K hK=>?_);go_simp;refine hK _ ?_;clear hK K ne;simp only [Act.put,iA,iB,iC])
   refine wpMix_world (fun K hK=>?_)
   go_wp2_with fail
   refine (p3OfP1_e K1_0 E7 (by omega)).mono ?_
   rintro e W ⟨rfl,hc,hv⟩
   replace C:=C.loc hc (by omega)
   replace RM:=hc.room RM
   replace hp:=hp.keep hc oa
   replace K1_0:=hc.room K1_0
   replace K2_0:=hc.room K2_0
   replace T:=T.keep hc oa
   replace E:=E.keep hc oa
   replace RMk:=hc.room RMk
   replace E7:=E7.keep hc oa
   clear hc
   have E8:=hv
   clear hv
   go_wp2_with fail
   repeat (refine wpMix_blind' (fun ne K hK=>?_);go_simp;refine hK _ ?_;clear hK K ne;simp only [Act.put,iA,iB,iC])
   refine wpMix_world (fun K hK=>?_)
   go_wp2_with fail
   refine (paOfP3_e RMk E8 (by omega)).mono ?_
   rintro e W ⟨rfl,hc,hv⟩
   replace C:=C.into hc
   replace RM:=hc.room RM
   replace hp:=hp.keep hc oa
   replace K1_0:=hc.room K1_0
   replace K2_0:=hc.room K2_0
   replace T:=T.keep hc oa
   replace E:=E.keep hc oa
   replace RMk:=hc.room RMk
   replace E7:=E7.keep hc oa
   replace E8:=E8.keep hc oa
   clear hc
   have E9:=hv
   clear hv
   go_wp2_with fail
   repeat (refine wpMix_blind' (fun ne K hK=>?_);go_simp;refine hK _ ?_;clear hK K ne;simp only [Act.put,iA,iB,iC])
   refine wpMix_nil ?_
   go_wp2_with fail
   exact ⟨⟨k + 1,by omega,by push_cast;rfl,C,RM,hp,K1_0,K2_0,T.snoc (by show p + smul (k + 1) p = smul (k + 1 + 1) p;rw [smul_succ (k + 1),add_comm]) E9⟩,by simp [intOf];omega⟩
  ·have:k = 7:=by omega
   subst this
   go_wp2_with fail
   go_end0
   exact ⟨rfl,C,T⟩
theorem nafC_e {bv ov bp op:Nat} {p:Pt} {w:World} (RM:Room w bv ov 160) (hp:P3 w bp op p) (hb:bv ≠ bp) :
  Calls Tryz.prog 60 #[Ptr bv ov,Ptr bp op] w (fun e w'=>e = .returned (.tuple #[])∧Chg (Rg bv ov 160) w w'∧TabC w' bv ov 8 (fun j=>smul (2 * j + 1) p)):=by
 have C:Chg (Rg bv ov 160) w w:=.refl _ _
 go_enter Tryz.func60,Tryz.ntmps60
 go_wp2_with fail
 refine (pcOfP3_e (RM.part (by omega) (by omega)) hp (by omega)).mono ?_
 rintro e W ⟨rfl,hc,hv⟩
 replace C:=C.into hc
 replace RM:=hc.room RM
 replace hp:=hp.keep hc oa
 clear hc
 have E1:=hv
 clear hv
 repeat ((fail_if_success with_reducible refine ss 75 ?_);first | go_step | dsimp only)
 obtain ⟨n1,ln1⟩:∃ n,W.heap.size = n:=⟨_,rfl⟩
 rw [ln1]
 have hb:=aB [z75] W
 have zn1:w.heap.size ≤ n1:=ln1 ▸ C.size
 have y2:bv < n1:=ln1 ▸ RM.lt (by decide)
 have y3:bp < n1:=ln1 ▸ hp.lt
 replace C:=C.trans (Chg.of_below hb)
 replace RM:=RM.later hb
 replace hp:=hp.keep (Chg.of_below (R:=R0) hb) (fun _ _ h=>h)
 replace E1:=E1.keep (Chg.of_below (R:=R0) hb) (fun _ _ h=>h)
 have K1_0:=(aH [z75] W 0 (List.replicate 20 (.int .u64 0)) 75 rfl).room (n:=20) rfl
 rw [ln1] at K1_0
 refine pG (fun W=>Chg (Rg bv ov 160) w W∧Room W bv ov 160∧P3 W bp op p∧PC W bv ov p∧Room W n1 0 20) ⟨C,RM,hp,E1,K1_0⟩ ?_
 clear C RM hp E1 K1_0 hb ln1
 rintro W ⟨C,RM,hp,E1,K1_0⟩
 refine wS (b:=n1) (o:=0) (vs:=(List.replicate 20 (.int .u64 0))) rfl rfl K1_0 rfl (fun v hv=>by rw [List.eq_of_mem_replicate hv];rfl) size75 ?_
 simp only [Act.put]
 have hc:Chg (Rg n1 0 20) W (World.setCells W n1 0 (List.replicate 20 (.int .u64 0))):=putL_chg (w:=W) (b:=n1) (o:=0) (vs:=(List.replicate 20 (.int .u64 0)))
 replace C:=C.loc hc (by omega)
 replace RM:=hc.room RM
 replace hp:=hp.keep hc oa
 replace E1:=E1.keep hc oa
 replace K1_0:=hc.room K1_0
 clear hc
 refine pG (fun W=>Chg (Rg bv ov 160) w W∧Room W bv ov 160∧P3 W bp op p∧PC W bv ov p∧Room W n1 0 20) ⟨C,RM,hp,E1,K1_0⟩ ?_
 clear C RM hp E1 K1_0
 rintro W ⟨C,RM,hp,E1,K1_0⟩
 go_wp2_with fail
 refine (ptSum_e K1_0 hp hp).mono ?_
 rintro e W ⟨rfl,hc,hv⟩
 replace C:=C.loc hc (by omega)
 replace RM:=hc.room RM
 replace hp:=hp.keep hc oa
 replace E1:=E1.keep hc oa
 replace K1_0:=hc.room K1_0
 clear hc
 have E4:=hv
 clear hv
 repeat ((fail_if_success with_reducible refine ss 75 ?_);first | go_step | dsimp only)
 obtain ⟨n2,ln2⟩:∃ n,W.heap.size = n:=⟨_,rfl⟩
 rw [ln2]
 have hb:=aB [z75] W
 have zn2:w.heap.size ≤ n2:=ln2 ▸ C.size
 have y5:bv < n2:=ln2 ▸ RM.lt (by decide)
 have y6:bp < n2:=ln2 ▸ hp.lt
 have y7:n1 < n2:=ln2 ▸ K1_0.lt (by decide)
 replace C:=C.trans (Chg.of_below hb)
 replace RM:=RM.later hb
 replace hp:=hp.keep (Chg.of_below (R:=R0) hb) (fun _ _ h=>h)
 replace E1:=E1.keep (Chg.of_below (R:=R0) hb) (fun _ _ h=>h)
 replace K1_0:=K1_0.later hb
 replace E4:=E4.keep (Chg.of_below (R:=R0) hb) (fun _ _ h=>h)
 have K2_0:=(aH [z75] W 0 (List.replicate 20 (.int .u64 0)) 75 rfl).room (n:=20) rfl
 rw [ln2] at K2_0
 refine pG (fun W=>Chg (Rg bv ov 160) w W∧Room W bv ov 160∧P3 W bp op p∧PC W bv ov p∧Room W n1 0 20∧P3 W n1 0 (p + p)∧Room W n2 0 20) ⟨C,RM,hp,E1,K1_0,E4,K2_0⟩ ?_
 clear C RM hp E1 K1_0 E4 K2_0 hb ln2
 rintro W ⟨C,RM,hp,E1,K1_0,E4,K2_0⟩
 refine wS (b:=n2) (o:=0) (vs:=(List.replicate 20 (.int .u64 0))) rfl rfl K2_0 rfl (fun v hv=>by rw [List.eq_of_mem_replicate hv];rfl) size75 ?_
 simp only [Act.put]
 have hc:Chg (Rg n2 0 20) W (World.setCells W n2 0 (List.replicate 20 (.int .u64 0))):=putL_chg (w:=W) (b:=n2) (o:=0) (vs:=(List.replicate 20 (.int .u64 0)))
 replace C:=C.loc hc (by omega)
 replace RM:=hc.room RM
 replace hp:=hp.keep hc oa
 replace E1:=E1.keep hc oa
 replace K1_0:=hc.room K1_0
 replace E4:=E4.keep hc oa
 replace K2_0:=hc.room K2_0
 clear hc
 refine pG (fun W=>Chg (Rg bv ov 160) w W∧Room W bv ov 160∧P3 W bp op p∧PC W bv ov p∧Room W n1 0 20∧P3 W n1 0 (p + p)∧Room W n2 0 20) ⟨C,RM,hp,E1,K1_0,E4,K2_0⟩ ?_
 clear C RM hp E1 K1_0 E4 K2_0
 rintro W ⟨C,RM,hp,E1,K1_0,E4,K2_0⟩
 repeat ((fail_if_success with_reducible refine ss 90 ?_);first | go_step | dsimp only)
 obtain ⟨n3,ln3⟩:∃ n,W.heap.size = n:=⟨_,rfl⟩
 rw [ln3]
 have hb:=aB [z90] W
 have zn3:w.heap.size ≤ n3:=ln3 ▸ C.size
 have y8:bv < n3:=ln3 ▸ RM.lt (by decide)
 have y9:bp < n3:=ln3 ▸ hp.lt
 have y10:n1 < n3:=ln3 ▸ K1_0.lt (by decide)
 have y11:n2 < n3:=ln3 ▸ K2_0.lt (by decide)
 replace C:=C.trans (Chg.of_below hb)
 replace RM:=RM.later hb
 replace hp:=hp.keep (Chg.of_below (R:=R0) hb) (fun _ _ h=>h)
 replace E1:=E1.keep (Chg.of_below (R:=R0) hb) (fun _ _ h=>h)
 replace K1_0:=K1_0.later hb
 replace E4:=E4.keep (Chg.of_below (R:=R0) hb) (fun _ _ h=>h)
 replace K2_0:=K2_0.later hb
 have K3_0:=(aH [z90] W 0 (List.replicate 20 (.int .u64 0)) 90 rfl).room (n:=20) rfl
 rw [ln3] at K3_0
 refine pG (fun W=>Chg (Rg bv ov 160) w W∧Room W bv ov 160∧P3 W bp op p∧PC W bv ov p∧Room W n1 0 20∧P3 W n1 0 (p + p)∧Room W n2 0 20∧Room W n3 0 20) ⟨C,RM,hp,E1,K1_0,E4,K2_0,K3_0⟩ ?_
 clear C RM hp E1 K1_0 E4 K2_0 K3_0 hb ln3
 rintro W ⟨C,RM,hp,E1,K1_0,E4,K2_0,K3_0⟩
 refine wS (b:=n3) (o:=0) (vs:=(List.replicate 20 (.int .u64 0))) rfl rfl K3_0 rfl (fun v hv=>by rw [List.eq_of_mem_replicate hv];rfl) size90 ?_
 simp only [Act.put]
 have hc:Chg (Rg n3 0 20) W (World.setCells W n3 0 (List.replicate 20 (.int .u64 0))):=putL_chg (w:=W) (b:=n3) (o:=0) (vs:=(List.replicate 20 (.int .u64 0)))
 replace C:=C.loc hc (by omega)
 replace RM:=hc.room RM
 replace hp:=hp.keep hc oa
 replace E1:=E1.keep hc oa
 replace K1_0:=hc.room K1_0
 replace E4:=E4.keep hc oa
 replace K2_0:=hc.room K2_0
 replace K3_0:=hc.room K3_0
 clear hc
 refine pG (fun W=>Chg (Rg bv ov 160) w W∧Room W bv ov 160∧P3 W bp op p∧PC W bv ov p∧Room W n1 0 20∧P3 W n1 0 (p + p)∧Room W n2 0 20∧Room W n3 0 20) ⟨C,RM,hp,E1,K1_0,E4,K2_0,K3_0⟩ ?_
 clear C RM hp E1 K1_0 E4 K2_0 K3_0
 rintro W ⟨C,RM,hp,E1,K1_0,E4,K2_0,K3_0⟩
 go_wp2_with fail
 go_loopw [7] (fun i W=>∃ k:Nat,k ≤ 7∧i = .int .i64 k∧Chg (Rg bv ov 160) w W∧Room W bv ov 160∧P3 W bp op p∧Room W n1 0 20∧P3 W n1 0 (p + p)∧Room W n2 0 20∧Room W n3 0 20∧TabC W bv ov (k + 1) (fun j=>smul (2 * j + 1) p)) (fun i _=>7 - (intOf i).toNat)
 case atStart=>exact ⟨0,by omega,rfl,C,RM,hp,K1_0,E4,K2_0,K3_0,fun j hj=>by obtain rfl:j = 0:=(by omega);show PC W bv ov (smul 1 p);rw [smul_one];exact E1⟩
 case round =>
  clear C RM hp K1_0 E4 K2_0 K3_0 E1
  obtain ⟨k,hk,rfl,C,RM,hp,K1_0,E4,K2_0,K3_0,T⟩:=hrel
  by_cases hlt:k < 7
  ·have E:PC wr bv (ov + k * 20) (smul (2 * k + 1) p):=T k (by omega)
   have RMk:Room wr bv (ov + (k + 1) * 20) 20:=RM.part (by omega) (by omega)
   go_wp2_with fail
   have wk:IntKind.i64.wrap ((k:Int) + 1) = (k:Int) + 1:=by simp [IntKind.wrap,IntKind.bits,IntKind.signed];omega
   have h8:(k:Int) + 1 < 8:=by omega
   have h0:0 ≤ (k:Int) + 1:=by omega
   have k8:(k:Int) < 8:=by omega
   refine region_mix [(0,true),(1,true),(2,true),(3,true),(4,true),(5,true),(6,true),(7,true),(8,true),(9,true),(10,true),(11,false),(12,false),(13,false)] (by kernel_rfl) (by kernel_rfl) ?_
   simp only [pick,List.map_cons,List.map_nil,List.getD_cons_zero,List.getD_cons_succ]
   repeat (refine wpMix_blind' (fun ne K hK=>?_);go_simp;refine hK _ ?_;clear hK K ne;simp only [Act.put,iA,iB,iC])
   refine wpMix_world (fun K hK=>?_)
   go_wp2_with fail
   refine cG (fun W=>Chg (Rg bv ov 160) w W∧Room W bv ov 160∧P3 W bp op p∧Room W n1 0 20∧P3 W n1 0 (p + p)∧Room W n2 0 20∧Room W n3 0 20∧TabC W bv ov (k + 1) (fun j=>smul (2 * j + 1) p)∧PC W bv (ov + k * 20) (smul (2 * k + 1) p)∧Room W bv (ov + (k + 1) * 20) 20) ⟨C.drew,RM.drew,hp.drew,K1_0.drew,E4.drew,K2_0.drew,K3_0.drew,T.drew,E.drew,RMk.drew⟩ ?_
   clear C RM hp K1_0 E4 K2_0 K3_0 T E RMk
   rintro W ⟨C,RM,hp,K1_0,E4,K2_0,K3_0,T,E,RMk⟩
   refine (ptAdd_e K3_0 E4 (by omega) E (by omega)).mono ?_
   rintro e W ⟨rfl,hc,hv⟩
   replace C:=C.loc hc (by omega)
   replace RM:=hc.room RM
   replace hp:=hp.keep hc oa
   replace K1_0:=hc.room K1_0
   replace E4:=E4.keep hc oa
   replace K2_0:=hc.room K2_0
   replace K3_0:=hc.room K3_0
   replace T:=T.keep hc oa
   replace E:=E.keep hc oa
   replace RMk:=hc.room RMk
   clear hc
   have E12:=hv
   clear hv
   go_wp2_with fail
   repeat (refine wpMix_blind' (fun ne K hK=>?_);go_simp;refine hK _ ?_;clear hK K ne;simp only [Act.put,iA,iB,iC])
   refine wpMix_world (fun K hK=>?_)
   go_wp2_with fail
   refine (p3OfP1_e K2_0 E12 (by omega)).mono ?_
   rintro e W ⟨rfl,hc,hv⟩
   replace C:=C.loc hc (by omega)
   replace RM:=hc.room RM
   replace hp:=hp.keep hc oa
   replace K1_0:=hc.room K1_0
   replace E4:=E4.keep hc oa
   replace K2_0:=hc.room K2_0
   replace K3_0:=hc.room K3_0
   replace T:=T.keep hc oa
   replace E:=E.keep hc oa
   replace RMk:=hc.room RMk
   replace E12:=E12.keep hc oa
   clear hc
   have E13:=hv
   clear hv
   go_wp2_with fail
   repeat (refine wpMix_blind' (fun ne K hK=>?_);go_simp;refine hK _ ?_;clear hK K ne;simp only [Act.put,iA,iB,iC])
   refine wpMix_world (fun K hK=>?_)
   go_wp2_with fail
   refine (pcOfP3_e RMk E13 (by omega)).mono ?_
   rintro e W ⟨rfl,hc,hv⟩
   replace C:=C.into hc
   replace RM:=hc.room RM
   replace hp:=hp.keep hc oa
   replace K1_0:=hc.room K1_0
   replace E4:=E4.keep hc oa
   replace K2_0:=hc.room K2_0
   replace K3_0:=hc.room K3_0
   replace T:=T.keep hc oa
   replace E:=E.keep hc oa
   replace RMk:=hc.room RMk
   replace E12:=E12.keep hc oa
   replace E13:=E13.keep hc oa
   clear hc
   have E14:=hv
   clear hv
   go_wp2_with fail
   repeat (refine wpMix_blind' (fun ne K hK=>?_);go_simp;refine hK _ ?_;clear hK K ne;simp only [Act.put,iA,iB,iC])
   refine wpMix_nil ?_
   go_wp2_with fail
   exact ⟨⟨k + 1,by omega,by push_cast;rfl,C,RM,hp,K1_0,E4,K2_0,K3_0,T.snoc (by show (p + p) + smul (2 * k + 1) p = smul (2 * (k + 1) + 1) p;rw [show 2 * (k + 1) + 1 = 2 + (2 * k + 1) by omega,smul_add 2,smul_two]) E14⟩,by simp [intOf];omega⟩
  ·have:k = 7:=by omega
   subst this
   go_wp2_with fail
   go_end0
   exact ⟨rfl,C,T⟩
theorem nafA_e {bv ov bp op:Nat} {p:Pt} {w:World} (RM:Room w bv ov 960) (hp:P3 w bp op p) (hb:bv ≠ bp) :
  Calls Tryz.prog 105 #[Ptr bv ov,Ptr bp op] w (fun e w'=>e = .returned (.tuple #[])∧Chg (Rg bv ov 960) w w'∧TabA w' bv ov 64 (fun j=>smul (2 * j + 1) p)):=by
 have C:Chg (Rg bv ov 960) w w:=.refl _ _
 go_enter Tryz.func105,Tryz.ntmps105
 go_wp2_with fail
 refine (paOfP3_e (RM.part (by omega) (by omega)) hp (by omega)).mono ?_
 rintro e W ⟨rfl,hc,hv⟩
 replace C:=C.into hc
 replace RM:=hc.room RM
 replace hp:=hp.keep hc oa
 clear hc
 have E1:=hv
 clear hv
 repeat ((fail_if_success with_reducible refine ss 75 ?_);first | go_step | dsimp only)
 obtain ⟨n1,ln1⟩:∃ n,W.heap.size = n:=⟨_,rfl⟩
 rw [ln1]
 have hb:=aB [z75] W
 have zn1:w.heap.size ≤ n1:=ln1 ▸ C.size
 have y2:bv < n1:=ln1 ▸ RM.lt (by decide)
 have y3:bp < n1:=ln1 ▸ hp.lt
 replace C:=C.trans (Chg.of_below hb)
 replace RM:=RM.later hb
 replace hp:=hp.keep (Chg.of_below (R:=R0) hb) (fun _ _ h=>h)
 replace E1:=E1.keep (Chg.of_below (R:=R0) hb) (fun _ _ h=>h)
 have K1_0:=(aH [z75] W 0 (List.replicate 20 (.int .u64 0)) 75 rfl).room (n:=20) rfl
 rw [ln1] at K1_0
 refine pG (fun W=>Chg (Rg bv ov 960) w W∧Room W bv ov 960∧P3 W bp op p∧PA W bv ov p∧Room W n1 0 20) ⟨C,RM,hp,E1,K1_0⟩ ?_
 clear C RM hp E1 K1_0 hb ln1
 rintro W ⟨C,RM,hp,E1,K1_0⟩
 refine wS (b:=n1) (o:=0) (vs:=(List.replicate 20 (.int .u64 0))) rfl rfl K1_0 rfl (fun v hv=>by rw [List.eq_of_mem_replicate hv];rfl) size75 ?_
 simp only [Act.put]
 have hc:Chg (Rg n1 0 20) W (World.setCells W n1 0 (List.replicate 20 (.int .u64 0))):=putL_chg (w:=W) (b:=n1) (o:=0) (vs:=(List.replicate 20 (.int .u64 0)))
 replace C:=C.loc hc (by omega)
 replace RM:=hc.room RM
 replace hp:=hp.keep hc oa
 replace E1:=E1.keep hc oa
 replace K1_0:=hc.room K1_0
 clear hc
 refine pG (fun W=>Chg (Rg bv ov 960) w W∧Room W bv ov 960∧P3 W bp op p∧PA W bv ov p∧Room W n1 0 20) ⟨C,RM,hp,E1,K1_0⟩ ?_
 clear C RM hp E1 K1_0
 rintro W ⟨C,RM,hp,E1,K1_0⟩
 go_wp2_with fail
 refine (ptSum_e K1_0 hp hp).mono ?_
 rintro e W ⟨rfl,hc,hv⟩
 replace C:=C.loc hc (by omega)
 replace RM:=hc.room RM
 replace hp:=hp.keep hc oa
 replace E1:=E1.keep hc oa
 replace K1_0:=hc.room K1_0
 clear hc
 have E4:=hv
 clear hv
 repeat ((fail_if_success with_reducible refine ss 75 ?_);first | go_step | dsimp only)
 obtain ⟨n2,ln2⟩:∃ n,W.heap.size = n:=⟨_,rfl⟩
 rw [ln2]
 have hb:=aB [z75] W
 have zn2:w.heap.size ≤ n2:=ln2 ▸ C.size
 have y5:bv < n2:=ln2 ▸ RM.lt (by decide)
 have y6:bp < n2:=ln2 ▸ hp.lt
 have y7:n1 < n2:=ln2 ▸ K1_0.lt (by decide)
 replace C:=C.trans (Chg.of_below hb)
 replace RM:=RM.later hb
 replace hp:=hp.keep (Chg.of_below (R:=R0) hb) (fun _ _ h=>h)
 replace E1:=E1.keep (Chg.of_below (R:=R0) hb) (fun _ _ h=>h)
 replace K1_0:=K1_0.later hb
 replace E4:=E4.keep (Chg.of_below (R:=R0) hb) (fun _ _ h=>h)
 have K2_0:=(aH [z75] W 0 (List.replicate 20 (.int .u64 0)) 75 rfl).room (n:=20) rfl
 rw [ln2] at K2_0
 refine pG (fun W=>Chg (Rg bv ov 960) w W∧Room W bv ov 960∧P3 W bp op p∧PA W bv ov p∧Room W n1 0 20∧P3 W n1 0 (p + p)∧Room W n2 0 20) ⟨C,RM,hp,E1,K1_0,E4,K2_0⟩ ?_
 clear C RM hp E1 K1_0 E4 K2_0 hb ln2
 rintro W ⟨C,RM,hp,E1,K1_0,E4,K2_0⟩
 refine wS (b:=n2) (o:=0) (vs:=(List.replicate 20 (.int .u64 0))) rfl rfl K2_0 rfl (fun v hv=>by rw [List.eq_of_mem_replicate hv];rfl) size75 ?_
 simp only [Act.put]
 have hc:Chg (Rg n2 0 20) W (World.setCells W n2 0 (List.replicate 20 (.int .u64 0))):=putL_chg (w:=W) (b:=n2) (o:=0) (vs:=(List.replicate 20 (.int .u64 0)))
 replace C:=C.loc hc (by omega)
 replace RM:=hc.room RM
 replace hp:=hp.keep hc oa
 replace E1:=E1.keep hc oa
 replace K1_0:=hc.room K1_0
 replace E4:=E4.keep hc oa
 replace K2_0:=hc.room K2_0
 clear hc
 refine pG (fun W=>Chg (Rg bv ov 960) w W∧Room W bv ov 960∧P3 W bp op p∧PA W bv ov p∧Room W n1 0 20∧P3 W n1 0 (p + p)∧Room W n2 0 20) ⟨C,RM,hp,E1,K1_0,E4,K2_0⟩ ?_
 clear C RM hp E1 K1_0 E4 K2_0
 rintro W ⟨C,RM,hp,E1,K1_0,E4,K2_0⟩
 repeat ((fail_if_success with_reducible refine ss 90 ?_);first | go_step | dsimp only)
 obtain ⟨n3,ln3⟩:∃ n,W.heap.size = n:=⟨_,rfl⟩
 rw [ln3]
 have hb:=aB [z90] W
 have zn3:w.heap.size ≤ n3:=ln3 ▸ C.size
 have y8:bv < n3:=ln3 ▸ RM.lt (by decide)
 have y9:bp < n3:=ln3 ▸ hp.lt
 have y10:n1 < n3:=ln3 ▸ K1_0.lt (by decide)
 have y11:n2 < n3:=ln3 ▸ K2_0.lt (by decide)
 replace C:=C.trans (Chg.of_below hb)
 replace RM:=RM.later hb
 replace hp:=hp.keep (Chg.of_below (R:=R0) hb) (fun _ _ h=>h)
 replace E1:=E1.keep (Chg.of_below (R:=R0) hb) (fun _ _ h=>h)
 replace K1_0:=K1_0.later hb
 replace E4:=E4.keep (Chg.of_below (R:=R0) hb) (fun _ _ h=>h)
 replace K2_0:=K2_0.later hb
 have K3_0:=(aH [z90] W 0 (List.replicate 20 (.int .u64 0)) 90 rfl).room (n:=20) rfl
 rw [ln3] at K3_0
 refine pG (fun W=>Chg (Rg bv ov 960) w W∧Room W bv ov 960∧P3 W bp op p∧PA W bv ov p∧Room W n1 0 20∧P3 W n1 0 (p + p)∧Room W n2 0 20∧Room W n3 0 20) ⟨C,RM,hp,E1,K1_0,E4,K2_0,K3_0⟩ ?_
 clear C RM hp E1 K1_0 E4 K2_0 K3_0 hb ln3
 rintro W ⟨C,RM,hp,E1,K1_0,E4,K2_0,K3_0⟩
 refine wS (b:=n3) (o:=0) (vs:=(List.replicate 20 (.int .u64 0))) rfl rfl K3_0 rfl (fun v hv=>by rw [List.eq_of_mem_replicate hv];rfl) size90 ?_
 simp only [Act.put]
 have hc:Chg (Rg n3 0 20) W (World.setCells W n3 0 (List.replicate 20 (.int .u64 0))):=putL_chg (w:=W) (b:=n3) (o:=0) (vs:=(List.replicate 20 (.int .u64 0)))
 replace C:=C.loc hc (by omega)
 replace RM:=hc.room RM
 replace hp:=hp.keep hc oa
 replace E1:=E1.keep hc oa
 replace K1_0:=hc.room K1_0
 replace E4:=E4.keep hc oa
 replace K2_0:=hc.room K2_0
 replace K3_0:=hc.room K3_0
 clear hc
 refine pG (fun W=>Chg (Rg bv ov 960) w W∧Room W bv ov 960∧P3 W bp op p∧PA W bv ov p∧Room W n1 0 20∧P3 W n1 0 (p + p)∧Room W n2 0 20∧Room W n3 0 20) ⟨C,RM,hp,E1,K1_0,E4,K2_0,K3_0⟩ ?_
 clear C RM hp E1 K1_0 E4 K2_0 K3_0
 rintro W ⟨C,RM,hp,E1,K1_0,E4,K2_0,K3_0⟩
 go_wp2_with fail
 go_loopw [7] (fun i W=>∃ k:Nat,k ≤ 63∧i = .int .i64 k∧Chg (Rg bv ov 960) w W∧Room W bv ov 960∧P3 W bp op p∧Room W n1 0 20∧P3 W n1 0 (p + p)∧Room W n2 0 20∧Room W n3 0 20∧TabA W bv ov (k + 1) (fun j=>smul (2 * j + 1) p)) (fun i _=>63 - (intOf i).toNat)
 case atStart=>exact ⟨0,by omega,rfl,C,RM,hp,K1_0,E4,K2_0,K3_0,fun j hj=>by obtain rfl:j = 0:=(by omega);show PA W bv ov (smul 1 p);rw [smul_one];exact E1⟩
 case round =>
  clear C RM hp K1_0 E4 K2_0 K3_0 E1
  obtain ⟨k,hk,rfl,C,RM,hp,K1_0,E4,K2_0,K3_0,T⟩:=hrel
  by_cases hlt:k < 63
  ·have E:PA wr bv (ov + k * 15) (smul (2 * k + 1) p):=T k (by omega)
   have RMk:Room wr bv (ov + (k + 1) * 15) 15:=RM.part (by omega) (by omega)
   go_wp2_with fail
   have wk:IntKind.i64.wrap ((k:Int) + 1) = (k:Int) + 1:=by simp [IntKind.wrap,IntKind.bits,IntKind.signed];omega
   have h8:(k:Int) + 1 < 64:=by omega
   have h0:0 ≤ (k:Int) + 1:=by omega
   have k8:(k:Int) < 64:=by omega
   refine region_mix [(0,true),(1,true),(2,true),(3,true),(4,true),(5,true),(6,true),(7,true),(8,true),(9,true),(10,true),(11,false),(12,false),(13,false)] (by kernel_rfl) (by kernel_rfl) ?_
   simp only [pick,List.map_cons,List.map_nil,List.getD_cons_zero,List.getD_cons_succ]
   repeat (refine wpMix_blind' (fun ne K hK=>?_);go_simp;refine hK _ ?_;clear hK K ne;simp only [Act.put,iA,iB,iC])
   refine wpMix_world (fun K hK=>?_)
   go_wp2_with fail
   refine cG (fun W=>Chg (Rg bv ov 960) w W∧Room W bv ov 960∧P3 W bp op p∧Room W n1 0 20∧P3 W n1 0 (p + p)∧Room W n2 0 20∧Room W n3 0 20∧TabA W bv ov (k + 1) (fun j=>smul (2 * j + 1) p)∧PA W bv (ov + k * 15) (smul (2 * k + 1) p)∧Room W bv (ov + (k + 1) * 15) 15) ⟨C.drew,RM.drew,hp.drew,K1_0.drew,E4.drew,K2_0.drew,K3_0.drew,T.drew,E.drew,RMk.drew⟩ ?_
   clear C RM hp K1_0 E4 K2_0 K3_0 T E RMk
   rintro W ⟨C,RM,hp,K1_0,E4,K2_0,K3_0,T,E,RMk⟩
   refine (ptAddA_e K3_0 E4 (by omega) E (by omega)).mono ?_
   rintro e W ⟨rfl,hc,hv⟩
   replace C:=C.loc hc (by omega)
   replace RM:=hc.room RM
   replace hp:=hp.keep hc oa
   replace K1_0:=hc.room K1_0
   replace E4:=E4.keep hc oa
   replace K2_0:=hc.room K2_0
   replace K3_0:=hc.room K3_0
   replace T:=T.keep hc oa
   replace E:=E.keep hc oa
   replace RMk:=hc.room RMk
   clear hc
   have E12:=hv
   clear hv
   go_wp2_with fail
   repeat (refine wpMix_blind' (fun ne K hK=>?_);go_simp;refine hK _ ?_;clear hK K ne;simp only [Act.put,iA,iB,iC])
   refine wpMix_world (fun K hK=>?_)
   go_wp2_with fail
   refine (p3OfP1_e K2_0 E12 (by omega)).mono ?_
   rintro e W ⟨rfl,hc,hv⟩
   replace C:=C.loc hc (by omega)
   replace RM:=hc.room RM
   replace hp:=hp.keep hc oa
   replace K1_0:=hc.room K1_0
   replace E4:=E4.keep hc oa
   replace K2_0:=hc.room K2_0
   replace K3_0:=hc.room K3_0
   replace T:=T.keep hc oa
   replace E:=E.keep hc oa
   replace RMk:=hc.room RMk
   replace E12:=E12.keep hc oa
   clear hc
   have E13:=hv
   clear hv
   go_wp2_with fail
   repeat (refine wpMix_blind' (fun ne K hK=>?_);go_simp;refine hK _ ?_;clear hK K ne;simp only [Act.put,iA,iB,iC])
   refine wpMix_world (fun K hK=>?_)
   go_wp2_with fail
   refine (paOfP3_e RMk E13 (by omega)).mono ?_
   rintro e W ⟨rfl,hc,hv⟩
   replace C:=C.into hc
   replace RM:=hc.room RM
   replace hp:=hp.keep hc oa
   replace K1_0:=hc.room K1_0
   replace E4:=E4.keep hc oa
   replace K2_0:=hc.room K2_0
   replace K3_0:=hc.room K3_0
   replace T:=T.keep hc oa
   replace E:=E.keep hc oa
   replace RMk:=hc.room RMk
   replace E12:=E12.keep hc oa
   replace E13:=E13.keep hc oa
   clear hc
   have E14:=hv
   clear hv
   go_wp2_with fail
   repeat (refine wpMix_blind' (fun ne K hK=>?_);go_simp;refine hK _ ?_;clear hK K ne;simp only [Act.put,iA,iB,iC])
   refine wpMix_nil ?_
   go_wp2_with fail
   exact ⟨⟨k + 1,by omega,by push_cast;rfl,C,RM,hp,K1_0,E4,K2_0,K3_0,T.snoc (by show (p + p) + smul (2 * k + 1) p = smul (2 * (k + 1) + 1) p;rw [show 2 * (k + 1) + 1 = 2 + (2 * k + 1) by omega,smul_add 2,smul_two]) E14⟩,by simp [intOf];omega⟩
  ·have:k = 63:=by omega
   subst this
   go_wp2_with fail
   go_end0
   exact ⟨rfl,C,T⟩
open Go.RowKit
def eqB (a b:Int):Int:=if a = b then 1 else 0
theorem byteEq_c (a b:Int) (w:World):Calls Tryz.prog 93 #[.int .u8 a,.int .u8 b] w (fun e w'=>e = .returned (.int .i64 (eqB a b))∧w' = w):=by
 by_cases h:a = b
 ·subst h
  have e:eqB a a = 1:=if_pos rfl
  go_enter Tryz.func93,Tryz.ntmps93
  go_wp2_with fail
  go_ret
  exact ⟨by rw [e];rfl,rfl⟩
 ·have e:eqB a b = 0:=if_neg h
  go_enter Tryz.func93,Tryz.ntmps93
  go_wp2_with fail
  go_ret
  exact ⟨by rw [e];rfl,rfl⟩
theorem cases17 {Q:Int→Prop} (h:∀ n:Fin 17,Q ((n.val:Int) - 8)) {x:Int} (hx:-8 ≤ x∧x ≤ 8):Q x:=by
 have:=h ⟨(x + 8).toNat,by omega⟩
 simp only at this
 rwa [show (((x + 8).toNat:Nat):Int) - 8 = x by omega] at this
theorem xabs {x:Int} (hx:-8 ≤ x∧x ≤ 8):bits BinOp.xor IntKind.i8 (x + x / 128) (x / 128) % 256 = (x.natAbs:Int) :=
 cases17 (Q:=fun x=>bits BinOp.xor IntKind.i8 (x + x / 128) (x / 128) % 256 = (x.natAbs:Int)) (by decide) hx
theorem xsign {x:Int} (hx:-8 ≤ x∧x ≤ 8):bits BinOp.and IntKind.i8 (x / 128) 1 = if x < 0 then 1 else 0 :=
 cases17 (Q:=fun x=>bits BinOp.and IntKind.i8 (x / 128) 1 = if x < 0 then 1 else 0) (by decide) hx
def upTo (n k:Nat) (p:Pt):Pt:=if n < k then smul n p else 0
theorem upTo_one (n:Nat) (p:Pt):upTo n 1 p = 0:=by
 unfold upTo;split
 ·rw [show n = 0 by omega];rfl
 ·rfl
theorem upTo_sel (n k:Nat) (p:Pt):selP (eqB (n:Int) (k:Int)) (smul k p) (upTo n k p) = upTo n (k + 1) p:=by
 unfold selP eqB upTo
 by_cases h:n = k
 ·subst h;simp
 ·rw [if_neg (by simp;omega)]
  by_cases h2:n < k
  ·rw [if_pos h2,if_pos (by omega)]
  ·rw [if_neg h2,if_neg (by omega)]
theorem eqB_01 (a b:Int):eqB a b = 1∨eqB a b = 0:=by unfold eqB;split<;>simp
theorem sign_sel (x:Int) (p:Pt):selP (if x < 0 then 1 else 0) (-smul x.natAbs p) (smul x.natAbs p) = zmul x p:=by
 unfold selP zmul
 by_cases h:x < 0
 ·rw [if_pos h,if_pos rfl,if_neg (by omega)];congr 2;omega
 ·rw [if_neg h,if_neg (by decide),if_pos (by omega)];congr 1;omega
theorem selC_e {bt ot bv ov:Nat} {p:Pt} {x:Int} {w:World} (hx:-8 ≤ x∧x ≤ 8) (T:TabC w bt ot 8 (fun j=>smul (j + 1) p)) (RM:Room w bv ov 20) (hb:bt ≠ bv) :
  Calls Tryz.prog 49 #[Ptr bt ot,Ptr bv ov,.int .i8 x] w (fun e w'=>e = .returned (.tuple #[])∧Chg (Rg bv ov 20) w w'∧PC w' bv ov (zmul x p)):=by
 have C:Chg (Rg bv ov 20) w w:=.refl _ _
 have e1:=xabs hx
 have e2:=xsign hx
 have e3:=sign_sel x p
 have hn:x.natAbs ≤ 8:=by omega
 obtain ⟨n,qn⟩:∃ n,x.natAbs = n:=⟨_,rfl⟩
 rw [qn] at e1 e3 hn
 replace e3:=hd e3
 have s01:(if x < 0 then (1:Int) else 0) = 1∨(if x < 0 then (1:Int) else 0) = 0:=by split<;>simp
 obtain ⟨sg,qs⟩:∃ sg,(if x < 0 then (1:Int) else 0) = sg:=⟨_,rfl⟩
 replace e3:=hd (qs ▸ e3.out)
 rw [qs] at e2 s01
 have sgr:IntKind.i64.wrap sg = sg:=by rcases s01 with h | h<;>rw [h]<;>rfl
 clear qn qs
 go_enter Tryz.func49,Tryz.ntmps49
 go_wp2_with fail
 refine (pcZero_e RM).mono ?_
 rintro e W ⟨rfl,hc,E⟩
 replace C:=C.trans hc
 replace T:=T.keep hc (oq (fun e=>absurd e hb))
 replace RM:=hc.room RM
 clear hc
 go_wp2_with fail
 go_loopw [8] (fun i W=>∃ k:Nat,1 ≤ k∧k ≤ 9∧i = .int .i64 k∧Chg (Rg bv ov 20) w W∧TabC W bt ot 8 (fun j=>smul (j + 1) p)∧PC W bv ov (upTo n k p)) (fun i _=>9 - (intOf i).toNat)
 case atStart=>exact ⟨1,by omega,by omega,rfl,C,T,by rw [upTo_one];exact E⟩
 case round =>
  clear C T E RM
  obtain ⟨k,h1,hk,rfl,C,T,E⟩:=hrel
  by_cases hlt:k ≤ 8
  ·have E0:PC wr bt (ot + (k - 1) * 20) (smul k p):=by have:=T (k - 1) (by omega);simp only [show k - 1 + 1 = k by omega] at this;exact this
   go_wp2_with fail
   refine (byteEq_c _ _ _).mono ?_
   rintro e w1 ⟨rfl,hw⟩
   obtain rfl:=hw.symm
   go_wp2_with fail
   refine (pcSel_e (eqB_01 n k) E0 E (by omega)).mono ?_
   rintro e W ⟨rfl,hc,hv⟩
   rw [upTo_sel] at hv
   replace C:=C.trans hc
   replace T:=T.keep hc (oq (fun e=>absurd e hb))
   clear hc E E0
   go_wp2_with fail
   exact ⟨⟨k + 1,by omega,by omega,by push_cast;rfl,C,T,hv⟩,by simp [intOf];omega⟩
  ·have:k = 9:=by omega
   subst this
   go_wp2_with fail
   refine (pcNeg_e s01 E).mono ?_
   rintro e W ⟨rfl,hc,hv⟩
   replace C:=C.trans hc
   rw [show upTo n 9 p = smul n p by unfold upTo;rw [if_pos (by omega)],e3.out] at hv
   clear hc E T
   go_wp2_with fail
   go_end0
   exact ⟨rfl,C,hv⟩
theorem selA_e {bt ot bv ov:Nat} {p:Pt} {x:Int} {w:World} (hx:-8 ≤ x∧x ≤ 8) (T:TabA w bt ot 8 (fun j=>smul (j + 1) p)) (RM:Room w bv ov 15) (hb:bt ≠ bv) :
  Calls Tryz.prog 56 #[Ptr bt ot,Ptr bv ov,.int .i8 x] w (fun e w'=>e = .returned (.tuple #[])∧Chg (Rg bv ov 15) w w'∧PA w' bv ov (zmul x p)):=by
 have C:Chg (Rg bv ov 15) w w:=.refl _ _
 have e1:=xabs hx
 have e2:=xsign hx
 have e3:=sign_sel x p
 have hn:x.natAbs ≤ 8:=by omega
 obtain ⟨n,qn⟩:∃ n,x.natAbs = n:=⟨_,rfl⟩
 rw [qn] at e1 e3 hn
 replace e3:=hd e3
 have s01:(if x < 0 then (1:Int) else 0) = 1∨(if x < 0 then (1:Int) else 0) = 0:=by split<;>simp
 obtain ⟨sg,qs⟩:∃ sg,(if x < 0 then (1:Int) else 0) = sg:=⟨_,rfl⟩
 replace e3:=hd (qs ▸ e3.out)
 rw [qs] at e2 s01
 have sgr:IntKind.i64.wrap sg = sg:=by rcases s01 with h | h<;>rw [h]<;>rfl
 clear qn qs
 go_enter Tryz.func56,Tryz.ntmps56
 go_wp2_with fail
 refine (paZero_e RM).mono ?_
 rintro e W ⟨rfl,hc,E⟩
 replace C:=C.trans hc
 replace T:=T.keep hc (oq (fun e=>absurd e hb))
 replace RM:=hc.room RM
 clear hc
 go_wp2_with fail
 go_loopw [8] (fun i W=>∃ k:Nat,1 ≤ k∧k ≤ 9∧i = .int .i64 k∧Chg (Rg bv ov 15) w W∧TabA W bt ot 8 (fun j=>smul (j + 1) p)∧PA W bv ov (upTo n k p)) (fun i _=>9 - (intOf i).toNat)
 case atStart=>exact ⟨1,by omega,by omega,rfl,C,T,by rw [upTo_one];exact E⟩
 case round =>
  clear C T E RM
  obtain ⟨k,h1,hk,rfl,C,T,E⟩:=hrel
  by_cases hlt:k ≤ 8
  ·have E0:PA wr bt (ot + (k - 1) * 15) (smul k p):=by have:=T (k - 1) (by omega);simp only [show k - 1 + 1 = k by omega] at this;exact this
   go_wp2_with fail
   refine (byteEq_c _ _ _).mono ?_
   rintro e w1 ⟨rfl,hw⟩
   obtain rfl:=hw.symm
   go_wp2_with fail
   refine (paSel_e (eqB_01 n k) E0 E (by omega)).mono ?_
   rintro e W ⟨rfl,hc,hv⟩
   rw [upTo_sel] at hv
   replace C:=C.trans hc
   replace T:=T.keep hc (oq (fun e=>absurd e hb))
   clear hc E E0
   go_wp2_with fail
   exact ⟨⟨k + 1,by omega,by omega,by push_cast;rfl,C,T,hv⟩,by simp [intOf];omega⟩
  ·have:k = 9:=by omega
   subst this
   go_wp2_with fail
   refine (paNeg_e s01 E).mono ?_
   rintro e W ⟨rfl,hc,hv⟩
   replace C:=C.trans hc
   rw [show upTo n 9 p = smul n p by unfold upTo;rw [if_pos (by omega)],e3.out] at hv
   clear hc E T
   go_wp2_with fail
   go_end0
   exact ⟨rfl,C,hv⟩
open Go.RowKit
def BT (w:World) (b m:Nat):Prop:=∀ i,i < m→TabA w b (i * 120) 8 (fun j=>smul (j + 1) (smul (256 ^ i) gen))
theorem BT.keep {R:Nat→Nat→Prop} {w w':World} {b m:Nat} (r:BT w b m) (h:Chg R w w') (hR:Off R b 0 (m * 120)):BT w' b m :=
 fun i hi=>(r i hi).keep h (off_part hR (by omega) (by omega))
theorem BT.snoc {w:World} {b m:Nat} (r:BT w b m) (h:TabA w b (m * 120) 8 (fun j=>smul (j + 1) (smul (256 ^ m) gen))):BT w b (m + 1):=fun j hj=>by
 by_cases e:j < m
 ·exact r j e
 ·obtain rfl:j = m:=by omega
  exact h
theorem room151 (w:World):Room (w.alloc (Obj.cells Tryz.zeroCells151 151)) w.heap.size 0 3840 :=
 (Has.new w Tryz.zeroCells151.toList 151).room (by kernel_rfl)
theorem dbl256 (k j:Nat):smul (2 ^ j * 256 ^ k) gen + smul (2 ^ j * 256 ^ k) gen = smul (2 ^ (j + 1) * 256 ^ k) gen:=by
 rw [←smul_add];congr 1;rw [Nat.pow_succ,Nat.mul_right_comm,Nat.mul_two]
theorem baseTab_e {w:World} :
  Calls Tryz.prog 55 #[] w (fun e w'=>∃ k,w.heap.size ≤ k∧e = .returned (Ptr k 0)∧Below w.heap.size w w'∧BT w' k 32):=by
 have C:Chg (R0) w w:=.refl _ _
 go_enter Tryz.func55,Tryz.ntmps55
 go_wp2_with fail
 obtain ⟨n1,ln1⟩:∃ n,w.heap.size = n:=⟨_,rfl⟩
 rw [ln1]
 have hb:=bA w (Obj.cells Tryz.zeroCells151 151)
 have zn1:w.heap.size ≤ n1:=ln1 ▸ C.size
 replace C:=C.trans (Chg.of_below hb)
 have RM:=room151 w
 rw [ln1] at RM
 refine cG (fun W=>Chg R0 w W∧Room W n1 0 3840) ⟨C,RM⟩ ?_
 clear C RM hb ln1
 rintro W ⟨C,RM⟩
 refine newGenerator_e.mono ?_
 rintro e W ⟨n2,ln2,rfl,hb,hp⟩
 have zn2:w.heap.size ≤ n2:=Nat.le_trans C.size ln2
 have y1:n1 < n2:=Nat.lt_of_lt_of_le (RM.lt (by decide)) ln2
 replace C:=C.trans (Chg.of_below hb)
 replace RM:=RM.later hb
 clear hb ln2
 go_wp2_with fail
 go_loopw [3] (fun i W=>∃ k:Nat,k ≤ 32∧i = .int .i64 k∧Chg R0 w W∧Room W n1 0 3840∧P3 W n2 0 (smul (256 ^ k) gen)∧BT W n1 k) (fun i _=>32 - (intOf i).toNat)
 case atStart=>exact ⟨0,by omega,rfl,C,RM,by rw [Nat.pow_zero,smul_one];exact hp,fun i hi=>absurd hi (by omega)⟩
 case round =>
  clear C RM hp
  obtain ⟨k,hk,rfl,C,RM,hp,T⟩:=hrel
  by_cases hlt:k < 32
  ·have k32:(k:Int) < 32:=by omega
   go_wp2_with fail
   refine (tabA_e (ov:=k * 120) (RM.part (by omega) (by omega)) hp (by omega)).mono ?_
   rintro e W ⟨rfl,hc,hv⟩
   replace C:=C.loc hc (by omega)
   replace RM:=hc.room RM
   replace hp:=hp.keep hc oa
   replace T:=T.keep hc oa
   replace T:=T.snoc hv
   clear hc hv
   replace hp:P3 W n2 0 (smul (2 ^ 0 * 256 ^ k) gen):=by rw [Nat.pow_zero,Nat.one_mul];exact hp
   go_wp2_with fail
   go_loopw [4] (fun i W=>∃ j:Nat,j ≤ 8∧i = .int .i64 j∧Chg R0 w W∧Room W n1 0 3840∧P3 W n2 0 (smul (2 ^ j * 256 ^ k) gen)∧BT W n1 (k + 1)) (fun i _=>8 - (intOf i).toNat)
   case atStart=>exact ⟨0,by omega,rfl,C,RM,hp,T⟩
   case round =>
    clear C RM hp T
    obtain ⟨j,hj,rfl,C,RM,hp,T⟩:=hrel
    by_cases hlt:j < 8
    ·have j8:(j:Int) < 8:=by omega
     go_wp2_with fail
     refine (ptSum_e hp.room hp hp).mono ?_
     rintro e W ⟨rfl,hc,hv⟩
     replace C:=C.loc hc (by omega)
     replace RM:=hc.room RM
     replace T:=T.keep hc oa
     clear hc hp
     go_wp2_with fail
     exact ⟨⟨j + 1,by omega,by push_cast;rfl,C,RM,(dbl256 k j) ▸ hv,T⟩,by simp [intOf];omega⟩
    ·have:j = 8:=by omega
     subst this
     go_wp2_with fail
     exact ⟨⟨k + 1,by omega,by push_cast;rfl,C,RM,by rw [Nat.pow_succ,Nat.mul_comm];exact hp,T⟩,by simp [intOf];omega⟩
  ·have:k = 32:=by omega
   subst this
   go_wp2_with fail
   go_ret
   exact ⟨n1,zn1,rfl,C.r0,T⟩
open Go.RowKit
theorem by32_one (n:Int):∀ v ∈ by32 n,v.oneCell' = true:=by
 intro v hv
 simp only [by32,by8,List.mem_append,List.mem_cons,List.not_mem_nil,or_false] at hv
 rcases hv with ((h | h) | h) | h<;>rcases h with h | h | h | h | h | h | h | h<;>subst h<;>rfl
theorem copyFe_e {bv ov bx ox:Nat} {f:F} {w:World} (RM:Room w bv ov 32) (X:Elt w bx ox f) :
  Calls Tryz.prog 97 #[Ptr bv ov,Ptr bx ox] w (fun e w'=>e = .returned (.slice (some ⟨bv,ov,none⟩) 32 32)∧Chg (Rg bv ov 32) w w'∧Has w' bv ov (by32 f.val)):=by
 have C:Chg (Rg bv ov 32) w w:=.refl _ _
 go_enter Tryz.func97,Tryz.ntmps97
 go_wp2_with fail
 refine region_mix [(0,true),(1,true),(2,true),(3,true),(4,false),(5,false)] (by kernel_rfl) (by kernel_rfl) ?_
 simp only [pick,List.map_cons,List.map_nil,List.getD_cons_zero,List.getD_cons_succ]
 repeat (refine wpMix_blind' (fun ne K hK=>?_);go_simp;refine hK _ ?_;clear hK K ne;simp only [Act.put,iA,iB,iC])
 refine wpMix_world (fun K hK=>?_)
 go_wp2_with fail
 refine cG (fun W=>Chg (Rg bv ov 32) w W∧Room W bv ov 32∧Elt W bx ox f) ⟨C.drew,RM.drew,X.drew⟩ ?_
 clear C RM X
 rintro W ⟨C,RM,X⟩
 refine (bytes_e X).mono ?_
 rintro e W ⟨k,hk,rfl,hb,hv⟩
 replace C:=C.trans (Chg.of_below hb)
 replace RM:=RM.later hb
 have y:=RM.lt (by decide)
 clear hb hk X
 go_wp2_with fail
 repeat (refine wpMix_blind' (fun ne K hK=>?_);go_simp;refine hK _ ?_;clear hK K ne;simp only [Act.put,iA,iB,iC])
 refine wpMix_world (fun K hK=>?_)
 have hcp:=run_copy_cells (P:=Tryz.prog) W 22 22 3 5 bv ov 32 32 ⟨k,0,none⟩ 32 32 (by32 f.val) (by kernel_rfl) (by kernel_rfl) rfl
  (fun j v hj=>by rw [add_plain,(hv j (List.getElem?_eq_some_iff.1 hj).1).1];exact hj)
  (fun j hj=>by obtain ⟨⟨u,hu⟩,-⟩:=RM j hj;rw [hu];rfl) (fun j hj=>(RM j hj).2) (by32_one _)
 unfold Oper.wp
 simp [execOp,resolve,invoke,builtin,Act.eval,hcp,Result.andThen,Oper.upon]
 refine hK _ _ ?_
 clear hK K hcp
 have hc:Chg (Rg bv ov 32) W (W.setCells bv ov (by32 f.val)):=putL_chg (vs:=by32 f.val)
 have hv2:Has (W.setCells bv ov (by32 f.val)) bv ov (by32 f.val):=putL_has (vs:=by32 f.val) RM
 replace C:=hd (C.trans hc)
 replace hv2:=hd hv2
 clear hc hv RM
 simp only [Act.put,iA,iB,iC]
 refine wpMix_nil ?_
 go_wp2_with fail
 go_ret
 exact ⟨rfl,C.out,hv2.out⟩
end Go.Proofs.Ed
