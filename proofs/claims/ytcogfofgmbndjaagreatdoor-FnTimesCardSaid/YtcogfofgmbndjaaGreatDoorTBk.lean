/- A part of the proof of the tied card of FnTimes: Scs, Im, Fn0. -/
import Derived.Test.YtcogfofgmbndjaaGreatDoorProg
import Derived.WalkKit
import Derived.WalkSpells
import Derived.WalkLawsBesides
import Derived.Outline
import Derived.StillTailTactics
import Derived.Test.YtcogfofgmbndjaaGreatDoorTBf
import Derived.Test.YtcogfofgmbndjaaGreatDoorTBj
import Derived.Test.YtcogfofgmbndjaaGreatDoorTBe
set_option maxRecDepth 100000
set_option maxHeartbeats 40000000
namespace Go.Proofs.Ed
open Go.RowKit
theorem newSc_e {w:World} :
  Calls Tryz.prog 42 #[] w (fun e w'=>∃ k,w.heap.size ≤ k∧e = .returned (Ptr k 0)∧Below w.heap.size w w'∧Room w' k 0 4):=by
 go_enter Tryz.func42,Tryz.ntmps42
 go_wp2_with fail
 go_ret
 exact ⟨w.heap.size,Nat.le_refl _,rfl,bA w _,(Has.new w (List.replicate 4 (.int .u64 0)) 135).room (n:=4) rfl⟩
theorem setCan_e {bv ov bk ok cap:Nat} {n:Int} {w:World} (hn:0 ≤ n∧n < LL) (RM:Room w bv ov 4) (G:Lm w) (X:Has w bk ok (by32 n)) (hcap:32 ≤ cap) :
  Calls Tryz.prog 43 #[Ptr bv ov,.slice (some ⟨bk,ok,none⟩) 32 cap] w (fun e w'=>e = .returned (.tuple #[Ptr bv ov,.nilIface])∧Chg (Rg bv ov 4) w w'∧Sc w' bv ov n):=by
 replace hn:=hd hn
 have C:Chg (Rg bv ov 4) w w:=.refl _ _
 go_enter Tryz.func43,Tryz.ntmps43
 go_wp2_with fail
 refine (isRed_c hn.out hcap G X).mono ?_
 rintro e W ⟨rfl,he⟩
 obtain rfl:=he.symm
 clear he
 have sa:∀ w,(Instr.arrayAt 99 (.slice (some ⟨bk,ok,none⟩) 32 cap)).run Tryz.prog w = .ok (Ptr bk ok) w:=fun w=>by simp [Instr.arrayAt,go_sem]
 go_wp2_with fail
 go_still_tail 5,(by kernel_rfl)
 go_wp2_with fail
 refine cG (fun W=>Chg (Rg bv ov 4) w W∧Room W bv ov 4∧Has W bk ok (by32 n)) ⟨C.drew,RM,X.drew⟩ ?_
 clear C RM X G
 rintro W ⟨C,RM,X⟩
 refine (sFrom_e RM X).mono ?_
 rintro e W ⟨rfl,hc,Y⟩
 replace C:=C.trans hc
 replace RM:=hc.room RM
 clear hc X
 go_wp2_with fail
 go_still_tail 6,(by kernel_rfl)
 go_wp2_with fail
 refine cG (fun W=>Chg (Rg bv ov 4) w W∧Room W bv ov 4∧Has W bv ov [.int .u64 (n % 18446744073709551616),.int .u64 (n / 18446744073709551616 % 18446744073709551616),.int .u64 (n / 340282366920938463463374607431768211456 % 18446744073709551616),.int .u64 (n / 6277101735386680763835789423207666416102355444464034512896 % 18446744073709551616)]) ⟨C.drew,RM,Y.drew⟩ ?_
 clear C RM Y
 rintro W ⟨C,RM,Y⟩
 refine (toM_c (um _) (um _) (um _) (um _) RM Y).mono ?_
 rintro e W ⟨rfl,hc,m,⟨k,hk⟩,M⟩
 rw [v4_words ⟨hn.out.1,Int.lt_trans hn.out.2 (by decide +kernel)⟩] at hk
 have S:Sc W bv ov n:=⟨hn.out,m,M,to_sc hk⟩
 replace C:=C.trans hc
 clear hc M hk RM Y
 go_wp2_with fail
 go_ret2
 exact ⟨rfl,C,S⟩
open Go.RowKit
theorem imPoint_e {bk ok cap:Nat} {n:Int} {p:Pt} {w:World} (hn:0 ≤ n∧n < 115792089237316195423570985008687907853269984665640564039457584007913129639936) (X:Has w bk ok (by32 n)) (hcap:32 ≤ cap) (hy:p.y = decY n) (hx:p.x = decX n) (hok:sqOk (decY n * decY n - 1) (decY n * decY n * cd + 1) = 1) :
  Calls Tryz.prog 20 #[.slice (some ⟨bk,ok,none⟩) 32 cap] w (fun e w'=>∃ k,w.heap.size ≤ k∧e = .returned (Ptr k 0)∧Below w.heap.size w w'∧P3 w' k 0 p):=by
 have z1:=X.lt (by rw [by32_length];decide)
 replace hn:=hd hn
 replace hy:=hd hy
 replace hx:=hd hx
 replace hok:=hd hok
 have C:Chg R0 w w:=.refl _ _
 go_enter Tryz.func20,Tryz.ntmps20
 go_wp2_with fail
 refine newIdentity_e.mono ?_
 rintro e W ⟨n1,ln1,rfl,hb,hp⟩
 replace C:=C.trans (Chg.of_below hb)
 replace X:=X.later hb
 clear hb
 go_wp2_with fail
 refine (ptSetBytes_e hn.out hp.room X (by omega) hcap hy.out hx.out hok.out).mono ?_
 rintro e W ⟨rfl,hc,hv⟩
 replace C:=C.loc hc ln1
 clear hc hp X
 go_wp2_with fail
 go_ret
 exact ⟨n1,ln1,rfl,C.r0,hv⟩
theorem imScalar_e {bk ok cap:Nat} {n:Int} {w:World} (hn:0 ≤ n∧n < LL) (G:Lm w) (X:Has w bk ok (by32 n)) (hcap:32 ≤ cap) :
  Calls Tryz.prog 21 #[.slice (some ⟨bk,ok,none⟩) 32 cap] w (fun e w'=>∃ k,w.heap.size ≤ k∧e = .returned (Ptr k 0)∧Below w.heap.size w w'∧Sc w' k 0 n):=by
 replace hn:=hd hn
 have C:Chg R0 w w:=.refl _ _
 go_enter Tryz.func21,Tryz.ntmps21
 go_wp2_with fail
 refine newSc_e.mono ?_
 rintro e W ⟨n1,ln1,rfl,hb,K⟩
 replace C:=C.trans (Chg.of_below hb)
 replace X:=X.later hb
 replace G:Lm W:=G.later hb
 clear hb
 go_wp2_with fail
 refine (setCan_e hn.out K G X hcap).mono ?_
 rintro e W ⟨rfl,hc,hv⟩
 replace C:=C.loc hc ln1
 clear hc K X G
 go_wp2_with fail
 go_ret
 exact ⟨n1,ln1,rfl,C.r0,hv⟩
theorem imTimes_e {b1 o1 c1 b2 o2 c2 b3 o3 c3:Nat} {N n m:Int} {p:Pt} {w:World} (hN:0 ≤ N∧N < 115792089237316195423570985008687907853269984665640564039457584007913129639936) (X1:Has w b1 o1 (by32 N)) (h1:32 ≤ c1) (hy:p.y = decY N) (hx:p.x = decX N) (hok:sqOk (decY N * decY N - 1) (decY N * decY N * cd + 1) = 1)
  (G:Lm w) (hn:0 ≤ n∧n < LL) (X2:Has w b2 o2 (by32 n)) (h2:32 ≤ c2) (hm:0 ≤ m∧m < LL) (X3:Has w b3 o3 (by32 m)) (h3:32 ≤ c3) :
  Calls Tryz.prog 7 #[.slice (some ⟨b1,o1,none⟩) 32 c1,.slice (some ⟨b2,o2,none⟩) 32 c2,.slice (some ⟨b3,o3,none⟩) 32 c3] w (fun e w'=>∃ k k1 k2 k3,w.heap.size ≤ k∧e = .returned (.slice (some ⟨k,0,none⟩) 3 3)∧Below w.heap.size w w' ∧
   Has w' k 0 [.slice (some ⟨k1,0,none⟩) 32 32,.slice (some ⟨k2,0,none⟩) 32 32,.slice (some ⟨k3,0,none⟩) 32 32]∧Has w' k1 0 (by32 (encP (zmul n p)))∧Has w' k2 0 (by32 (encP (zmul m gen)))∧Has w' k3 0 (by32 (encP (zmul n p + zmul m gen)))):=by
 replace hN:=hd hN
 replace hy:=hd hy
 replace hx:=hd hx
 replace hok:=hd hok
 replace hn:=hd hn
 replace hm:=hd hm
 have C:Chg R0 w w:=.refl _ _
 go_enter Tryz.func7,Tryz.ntmps7
 go_wp2_with fail
 refine (imPoint_e hN.out X1 h1 hy.out hx.out hok.out).mono ?_
 rintro e W ⟨q1,lq1,rfl,hb,P⟩
 replace C:=C.trans (Chg.of_below hb)
 replace X2:=X2.later hb
 replace X3:=X3.later hb
 replace G:Lm W:=G.later hb
 clear hb X1 lq1
 go_wp2_with fail
 refine (imScalar_e hn.out G X2 h2).mono ?_
 rintro e W ⟨q2,lq2,rfl,hb,S⟩
 replace C:=C.trans (Chg.of_below hb)
 replace P:=P.keep (Chg.of_below (R:=R0) hb) (fun _ _ h=>h)
 replace X3:=X3.later hb
 replace G:Lm W:=G.later hb
 clear hb X2 lq2
 go_wp2_with fail
 refine (imScalar_e hm.out G X3 h3).mono ?_
 rintro e W ⟨q3,lq3,rfl,hb,T⟩
 replace C:=C.trans (Chg.of_below hb)
 replace P:=P.keep (Chg.of_below (R:=R0) hb) (fun _ _ h=>h)
 replace S:=S.later hb
 clear hb X3 lq3 G
 go_wp2_with fail
 refine newIdentity_e.mono ?_
 rintro e W ⟨q4,lq4,rfl,hb,V⟩
 have zq4:=Nat.le_trans C.size lq4
 have yPq4:q1 < q4:=Nat.lt_of_lt_of_le P.lt lq4
 have ySq4:q2 < q4:=Nat.lt_of_lt_of_le S.lt lq4
 have yTq4:q3 < q4:=Nat.lt_of_lt_of_le T.lt lq4
 replace C:=C.trans (Chg.of_below hb)
 replace P:=P.keep (Chg.of_below (R:=R0) hb) (fun _ _ h=>h)
 replace S:=S.later hb
 replace T:=T.later hb
 clear hb lq4
 go_wp2_with fail
 refine (mult_e V.room S P).mono ?_
 rintro e W ⟨rfl,hc,V1⟩
 replace C:=C.loc hc zq4
 replace P:=P.keep hc (off_all (by omega))
 replace S:=S.keep hc (off_all (by omega))
 replace T:=T.keep hc (off_all (by omega))
 clear hc V
 go_wp2_with fail
 refine (bytesP_e V1).mono ?_
 rintro e W ⟨k1,lk1,rfl,hb,R1⟩
 replace C:=C.trans (Chg.of_below hb)
 replace P:=P.keep (Chg.of_below (R:=R0) hb) (fun _ _ h=>h)
 replace S:=S.later hb
 replace T:=T.later hb
 clear hb V1 lk1
 go_wp2_with fail
 refine newIdentity_e.mono ?_
 rintro e W ⟨q6,lq6,rfl,hb,V⟩
 have zq6:=Nat.le_trans C.size lq6
 have yPq6:q1 < q6:=Nat.lt_of_lt_of_le P.lt lq6
 have ySq6:q2 < q6:=Nat.lt_of_lt_of_le S.lt lq6
 have yTq6:q3 < q6:=Nat.lt_of_lt_of_le T.lt lq6
 have yR1q6:k1 < q6:=Nat.lt_of_lt_of_le (R1.lt (by rw [by32_length];decide)) lq6
 replace C:=C.trans (Chg.of_below hb)
 replace P:=P.keep (Chg.of_below (R:=R0) hb) (fun _ _ h=>h)
 replace S:=S.later hb
 replace T:=T.later hb
 replace R1:=R1.later hb
 clear hb lq6
 go_wp2_with fail
 refine (multB_e V.room T).mono ?_
 rintro e W ⟨rfl,hc,V1⟩
 replace C:=C.loc hc zq6
 replace P:=P.keep hc (off_all (by omega))
 replace S:=S.keep hc (off_all (by omega))
 replace T:=T.keep hc (off_all (by omega))
 replace R1:=R1.keep hc (fun _ _ h=>by have:=h.1;omega)
 clear hc V
 go_wp2_with fail
 refine (bytesP_e V1).mono ?_
 rintro e W ⟨k2,lk2,rfl,hb,R2⟩
 replace C:=C.trans (Chg.of_below hb)
 replace P:=P.keep (Chg.of_below (R:=R0) hb) (fun _ _ h=>h)
 replace S:=S.later hb
 replace T:=T.later hb
 replace R1:=R1.later hb
 clear hb V1 lk2
 go_wp2_with fail
 refine newIdentity_e.mono ?_
 rintro e W ⟨q8,lq8,rfl,hb,V⟩
 have zq8:=Nat.le_trans C.size lq8
 have yPq8:q1 < q8:=Nat.lt_of_lt_of_le P.lt lq8
 have ySq8:q2 < q8:=Nat.lt_of_lt_of_le S.lt lq8
 have yTq8:q3 < q8:=Nat.lt_of_lt_of_le T.lt lq8
 have yR1q8:k1 < q8:=Nat.lt_of_lt_of_le (R1.lt (by rw [by32_length];decide)) lq8
 have yR2q8:k2 < q8:=Nat.lt_of_lt_of_le (R2.lt (by rw [by32_length];decide)) lq8
 replace C:=C.trans (Chg.of_below hb)
 replace P:=P.keep (Chg.of_below (R:=R0) hb) (fun _ _ h=>h)
 replace S:=S.later hb
 replace T:=T.later hb
 replace R1:=R1.later hb
 replace R2:=R2.later hb
 clear hb lq8
 go_wp2_with fail
 refine (multV_e V.room S P T).mono ?_
 rintro e W ⟨rfl,hc,V1⟩
 replace C:=C.loc hc zq8
 replace P:=P.keep hc (off_all (by omega))
 replace S:=S.keep hc (off_all (by omega))
 replace T:=T.keep hc (off_all (by omega))
 replace R1:=R1.keep hc (fun _ _ h=>by have:=h.1;omega)
 replace R2:=R2.keep hc (fun _ _ h=>by have:=h.1;omega)
 clear hc V
 go_wp2_with fail
 refine (bytesP_e V1).mono ?_
 rintro e W ⟨k3,lk3,rfl,hb,R3⟩
 replace C:=C.trans (Chg.of_below hb)
 replace P:=P.keep (Chg.of_below (R:=R0) hb) (fun _ _ h=>h)
 replace S:=S.later hb
 replace T:=T.later hb
 replace R1:=R1.later hb
 replace R2:=R2.later hb
 clear hb V1 lk3
 go_wp2_with fail
 go_ret
 have hb:=bA W (Obj.cells (List.toArray [.slice (some ⟨k1,0,none⟩) 32 32,.slice (some ⟨k2,0,none⟩) 32 32,.slice (some ⟨k3,0,none⟩) 32 32]) 22)
 exact ⟨W.heap.size,k1,k2,k3,C.size,rfl,(C.trans (Chg.of_below hb)).r0,Has.new W [.slice (some ⟨k1,0,none⟩) 32 32,.slice (some ⟨k2,0,none⟩) 32 32,.slice (some ⟨k3,0,none⟩) 32 32] 22,R1.later hb,R2.later hb,R3.later hb⟩
open Go.RowKit
theorem Arg.r0 {w W:World} {a:Option Addr} {L:Nat} {f:Nat→Nat} (h:Arg w a L f) (C:Chg R0 w W):Arg W a L f:=h.later C.r0
theorem Lm.r0 {w W:World} (h:Lm w) (C:Chg R0 w W):Lm W:=Has.later h C.r0
theorem Lm.later' {w W:World} (h:Lm w) (hb:Below w.heap.size w W):Lm W:=Has.later h hb
theorem LN_LL:((LN:Nat):Int) = LL:=by decide +kernel
theorem scN_bd (f:Nat→Nat):0 ≤ ((scN f:Nat):Int)∧((scN f:Nat):Int) < LL:=by
 have:scN f < LN:=Nat.mod_lt _ LN_bd.1
 rw [←LN_LL];omega
theorem scN_256 (f:Nat→Nat):scN f < 2 ^ 256:=Nat.lt_trans (Nat.mod_lt _ LN_bd.1) (by decide +kernel)
def Res3 (w:World) (k:Nat) (A B D:Int):Prop:=∃ k1 k2 k3,Has w k 0 [.slice (some ⟨k1,0,none⟩) 32 32,.slice (some ⟨k2,0,none⟩) 32 32,.slice (some ⟨k3,0,none⟩) 32 32]∧Has w k1 0 (by32 A)∧Has w k2 0 (by32 B)∧Has w k3 0 (by32 D)
theorem Res3.later {w w':World} {k:Nat} {A B D:Int} (h:Res3 w k A B D) (hb:Below w.heap.size w w'):Res3 w' k A B D:=by
 obtain ⟨k1,k2,k3,h0,h1,h2,h3⟩:=h
 exact ⟨k1,k2,k3,h0.later hb,h1.later hb,h2.later hb,h3.later hb⟩
theorem Res3.lt {w:World} {k:Nat} {A B D:Int} (h:Res3 w k A B D):k < w.heap.size:=by
 obtain ⟨k1,k2,k3,h0,_⟩:=h
 exact h0.lt (by simp)
theorem Res3.keep {R:Nat→Nat→Prop} {w w':World} (h:Chg R w w') {k:Nat} {A B D:Int} (r:Res3 w k A B D) (hR:∀ q i,¬ R q i):Res3 w' k A B D:=by
 obtain ⟨k1,k2,k3,h0,h1,h2,h3⟩:=r
 exact ⟨k1,k2,k3,h0.keep h (fun _ _=>hR _ _),h1.keep h (fun _ _=>hR _ _),h2.keep h (fun _ _=>hR _ _),h3.keep h (fun _ _=>hR _ _)⟩
theorem imTimes3 {b1 o1 c1 b2 o2 c2 b3 o3 c3 n m:Nat} {M:Int} {t:T3} {p:Pt} {w:World} (hp:PtB t M p) (X1:Has w b1 o1 (by32 M)) (G:Lm w) (hn:0 ≤ (n:Int)∧(n:Int) < LL) (X2:Has w b2 o2 (by32 (n:Nat))) (hm:0 ≤ (m:Int)∧(m:Int) < LL) (X3:Has w b3 o3 (by32 (m:Nat))) (h1:32 ≤ c1:=by decide) (h2:32 ≤ c2:=by decide) (h3:32 ≤ c3:=by decide) :
  Calls Tryz.prog 7 #[.slice (some ⟨b1,o1,none⟩) 32 c1,.slice (some ⟨b2,o2,none⟩) 32 c2,.slice (some ⟨b3,o3,none⟩) 32 c3] w (fun e w'=>∃ k,w.heap.size ≤ k∧e = .returned (.slice (some ⟨k,0,none⟩) 3 3)∧Below w.heap.size w w'∧Res3 w' k (encP (smul n p)) (encP (smul m gen)) (encP (smul n p + smul m gen))):=by
 refine (imTimes_e hp.2.1 X1 h1 hp.2.2.1 hp.2.2.2.1 hp.2.2.2.2 G hn X2 h2 hm X3 h3).mono ?_
 rintro e w' ⟨k,k1,k2,k3,hk,he,hb,r0,r1,r2,r3⟩
 rw [zmul_nat,zmul_nat] at *
 exact ⟨k,hk,he,hb,k1,k2,k3,r0,r1,r2,r3⟩
theorem fnTimes_c {a1 a2 a3:Option Addr} {L1 c1 L2 c2 L3 c3:Nat} {ga gb gc:Nat→Nat} {w:World} (A1:Arg w a1 L1 ga) (A2:Arg w a2 L2 gb) (A3:Arg w a3 L3 gc) (G:Lm w):Calls Tryz.prog 3 #[.slice a1 L1 c1,.slice a2 L2 c2,.slice a3 L3 c3] w (fun e w'=>e = .returned (.bool true)∧Below w.heap.size w w'):=by
 replace A1:=hd A1
 replace A2:=hd A2
 replace A3:=hd A3
 replace G:=hd G
 have C:Chg R0 w w:=.refl _ _
 go_enter Tryz.func3,Tryz.ntmps3
 by_cases h1:(2147483647:Int) < L1
 ·go_wp2_with fail
  go_ret
  exact ⟨rfl,.refl _ _⟩
 by_cases h2:(2147483647:Int) < L2
 ·go_wp2_with fail
  go_ret
  exact ⟨rfl,.refl _ _⟩
 by_cases h3:(2147483647:Int) < L3
 ·go_wp2_with fail
  go_ret
  exact ⟨rfl,.refl _ _⟩
 go_wp2_with fail
 refine (edwards_v).mono ?_
 rintro e W ⟨rfl,hb⟩
 replace C:=C.trans (Chg.of_below hb)
 clear hb
 repeat ((fail_if_success with_reducible refine ss 27 ?_);first | go_step | dsimp only)
 obtain ⟨n1,ln1⟩:∃ n,W.heap.size = n:=⟨_,rfl⟩
 rw [ln1]
 have hb:=aB [Obj.cells (List.replicate 16 (.int .u32 0)).toArray 27] W
 have zn1:w.heap.size ≤ n1:=ln1 ▸ C.size
 replace C:=C.trans (Chg.of_below hb)
 have H1:=(aH [Obj.cells (List.replicate 16 (.int .u32 0)).toArray 27] W 0 _ _ rfl).room (n:=16) rfl
 rw [ln1] at H1
 simp only [Nat.add_zero] at H1
 refine pG (fun W=>Chg R0 w W∧Room W n1 0 16) ⟨C,H1⟩ ?_
 clear C H1 hb ln1
 rintro W ⟨C,H1⟩
 refine wS (b:=n1) (o:=0) (vs:=fl cd) rfl rfl H1 (fL _) (fl_one _) size27 ?_
 simp only [Act.put]
 have hc:Chg (Rg n1 0 16) W (World.setCells W n1 0 (fl cd)):=by have:=putL_chg (w:=W) (b:=n1) (o:=0) (vs:=fl cd);rwa [show (fl cd).length = 16 from (fL _)] at this
 have H2:=putL_has (w:=W) (b:=n1) (o:=0) (vs:=fl cd) (by rw [show (fl cd).length = 16 from (fL _)];exact H1)
 replace C:=C.loc hc (by omega)
 clear H1
 clear hc
 refine pG (fun W=>Chg R0 w W∧Has W n1 0 (fl cd)) ⟨C,H2⟩ ?_
 clear C H2
 rintro W ⟨C,H2⟩
 repeat ((fail_if_success with_reducible refine sl 27 ?_);first | go_step | dsimp only)
 refine wL (b:=n1) (o:=0) rfl H2 (fL _) agg27 size27 ?_
 simp only [Act.put,iA,iB,iC]
 go_wp2_with fail
 refine (lawPoint_e (Arg.r0 A1.out C)).mono ?_
 rintro e W ⟨t,M,p,kp,lkp,rfl,hb,HP,hp⟩
 have zkp:w.heap.size ≤ kp:=Nat.le_trans C.size lkp
 have y3:n1 < kp:=Nat.lt_of_lt_of_le (H2.lt (by rw [fL];decide)) lkp
 replace hp:=hd hp
 replace C:=C.trans (Chg.of_below hb)
 replace H2:=H2.later hb
 clear hb lkp
 repeat ((fail_if_success with_reducible refine ss 30 ?_);first | go_step | dsimp only)
 obtain ⟨n2,ln2⟩:∃ n,W.heap.size = n:=⟨_,rfl⟩
 rw [ln2]
 have hb:=aB [Obj.cells (List.replicate 48 (.int .u32 0)).toArray 30] W
 have zn2:w.heap.size ≤ n2:=ln2 ▸ C.size
 have y4:n1 < n2:=ln2 ▸ H2.lt (by rw [fL];decide)
 have y5:kp < n2:=ln2 ▸ HP.lt (by rw [by32_length];decide)
 replace C:=C.trans (Chg.of_below hb)
 replace H2:=H2.later hb
 replace HP:=HP.later hb
 have H6:=(aH [Obj.cells (List.replicate 48 (.int .u32 0)).toArray 30] W 0 _ _ rfl).room (n:=48) rfl
 rw [ln2] at H6
 simp only [Nat.add_zero] at H6
 refine pG (fun W=>Chg R0 w W∧Has W n1 0 (fl cd)∧Has W kp 0 (by32 M)∧Room W n2 0 48) ⟨C,H2,HP,H6⟩ ?_
 clear C H2 HP H6 hb ln2
 rintro W ⟨C,H2,HP,H6⟩
 refine wS (b:=n2) (o:=0) (vs:=(fl t.1 ++ (fl t.2.1 ++ fl t.2.2))) rfl rfl H6 (len48 (fL _) (fL _) (fL _)) (one48 (fl_one _) (fl_one _) (fl_one _)) size30 ?_
 simp only [Act.put]
 have hc:Chg (Rg n2 0 48) W (World.setCells W n2 0 (fl t.1 ++ (fl t.2.1 ++ fl t.2.2))):=by have:=putL_chg (w:=W) (b:=n2) (o:=0) (vs:=(fl t.1 ++ (fl t.2.1 ++ fl t.2.2)));rwa [show ((fl t.1 ++ (fl t.2.1 ++ fl t.2.2))).length = 48 from (len48 (fL _) (fL _) (fL _))] at this
 have H7:=putL_has (w:=W) (b:=n2) (o:=0) (vs:=(fl t.1 ++ (fl t.2.1 ++ fl t.2.2))) (by rw [show ((fl t.1 ++ (fl t.2.1 ++ fl t.2.2))).length = 48 from (len48 (fL _) (fL _) (fL _))];exact H6)
 replace C:=C.loc hc (by omega)
 replace H2:=H2.keep hc oa
 replace HP:=HP.keep hc oa
 clear H6
 clear hc
 obtain ⟨H8,H9,H10⟩:=part48 (fL _) (fL _) H7
 clear H7
 refine pG (fun W=>Chg R0 w W∧Has W n1 0 (fl cd)∧Has W kp 0 (by32 M)∧Has W n2 0 (fl t.1)∧Has W n2 16 (fl t.2.1)∧Has W n2 32 (fl t.2.2)) ⟨C,H2,HP,H8,H9,H10⟩ ?_
 clear C H2 HP H8 H9 H10
 rintro W ⟨C,H2,HP,H8,H9,H10⟩
 go_wp2_with fail
 refine (lawScalar_e (Arg.r0 A2.out C)).mono ?_
 rintro e W ⟨rfl,hb⟩
 replace C:=C.trans (Chg.of_below hb)
 replace H2:=H2.later hb
 replace HP:=HP.later hb
 replace H8:=H8.later hb
 replace H9:=H9.later hb
 replace H10:=H10.later hb
 clear hb
 go_wp2_with fail
 refine (lawScalar_e (Arg.r0 A3.out C)).mono ?_
 rintro e W ⟨rfl,hb⟩
 replace C:=C.trans (Chg.of_below hb)
 replace H2:=H2.later hb
 replace HP:=HP.later hb
 replace H8:=H8.later hb
 replace H9:=H9.later hb
 replace H10:=H10.later hb
 clear hb
 repeat ((fail_if_success with_reducible refine ss 25 ?_);first | go_step | dsimp only)
 obtain ⟨n3,ln3⟩:∃ n,W.heap.size = n:=⟨_,rfl⟩
 rw [ln3]
 have hb:=aB [Obj.cells (List.replicate 16 (.int .u32 0)).toArray 25,Obj.cells (List.replicate 16 (.int .u32 0)).toArray 25] W
 have zn3:w.heap.size ≤ n3:=ln3 ▸ C.size
 have y11:n1 < n3:=ln3 ▸ H2.lt (by rw [fL];decide)
 have y12:kp < n3:=ln3 ▸ HP.lt (by rw [by32_length];decide)
 have y13:n2 < n3:=ln3 ▸ H8.lt (by rw [fL];decide)
 replace C:=C.trans (Chg.of_below hb)
 replace H2:=H2.later hb
 replace HP:=HP.later hb
 replace H8:=H8.later hb
 replace H9:=H9.later hb
 replace H10:=H10.later hb
 have H14:=(aH [Obj.cells (List.replicate 16 (.int .u32 0)).toArray 25,Obj.cells (List.replicate 16 (.int .u32 0)).toArray 25] W 0 _ _ rfl).room (n:=16) rfl
 rw [ln3] at H14
 simp only [Nat.add_zero] at H14
 have H15:=(aH [Obj.cells (List.replicate 16 (.int .u32 0)).toArray 25,Obj.cells (List.replicate 16 (.int .u32 0)).toArray 25] W 1 _ _ rfl).room (n:=16) rfl
 rw [ln3] at H15
 refine pG (fun W=>Chg R0 w W∧Has W n1 0 (fl cd)∧Has W kp 0 (by32 M)∧Has W n2 0 (fl t.1)∧Has W n2 16 (fl t.2.1)∧Has W n2 32 (fl t.2.2)∧Room W n3 0 16∧Room W (n3 + 1) 0 16) ⟨C,H2,HP,H8,H9,H10,H14,H15⟩ ?_
 clear C H2 HP H8 H9 H10 H14 H15 hb ln3
 rintro W ⟨C,H2,HP,H8,H9,H10,H14,H15⟩
 refine wS (b:=n3) (o:=0) (vs:=nl (scN gb)) rfl rfl H14 (nL _) (nl_one _) size25 ?_
 simp only [Act.put]
 have hc:Chg (Rg n3 0 16) W (World.setCells W n3 0 (nl (scN gb))):=by have:=putL_chg (w:=W) (b:=n3) (o:=0) (vs:=nl (scN gb));rwa [show (nl (scN gb)).length = 16 from (nL _)] at this
 have H16:=putL_has (w:=W) (b:=n3) (o:=0) (vs:=nl (scN gb)) (by rw [show (nl (scN gb)).length = 16 from (nL _)];exact H14)
 replace C:=C.loc hc (by omega)
 replace H2:=H2.keep hc oa
 replace HP:=HP.keep hc oa
 replace H8:=H8.keep hc oa
 replace H9:=H9.keep hc oa
 replace H10:=H10.keep hc oa
 clear H14
 replace H15:=hc.room H15
 clear hc
 refine pG (fun W=>Chg R0 w W∧Has W n1 0 (fl cd)∧Has W kp 0 (by32 M)∧Has W n2 0 (fl t.1)∧Has W n2 16 (fl t.2.1)∧Has W n2 32 (fl t.2.2)∧Room W (n3 + 1) 0 16∧Has W n3 0 (nl (scN gb))) ⟨C,H2,HP,H8,H9,H10,H15,H16⟩ ?_
 clear C H2 HP H8 H9 H10 H15 H16
 rintro W ⟨C,H2,HP,H8,H9,H10,H15,H16⟩
 repeat ((fail_if_success with_reducible refine ss 25 ?_);first | go_step | dsimp only)
 refine wS (b:=n3 + 1) (o:=0) (vs:=nl (scN gc)) rfl rfl H15 (nL _) (nl_one _) size25 ?_
 simp only [Act.put]
 have hc:Chg (Rg (n3 + 1) 0 16) W (World.setCells W (n3 + 1) 0 (nl (scN gc))):=by have:=putL_chg (w:=W) (b:=n3 + 1) (o:=0) (vs:=nl (scN gc));rwa [show (nl (scN gc)).length = 16 from (nL _)] at this
 have H17:=putL_has (w:=W) (b:=n3 + 1) (o:=0) (vs:=nl (scN gc)) (by rw [show (nl (scN gc)).length = 16 from (nL _)];exact H15)
 replace C:=C.loc hc (by omega)
 replace H2:=H2.keep hc oa
 replace HP:=HP.keep hc oa
 replace H8:=H8.keep hc oa
 replace H9:=H9.keep hc oa
 replace H10:=H10.keep hc oa
 clear H15
 replace H16:=H16.keep hc oa
 clear hc
 refine pG (fun W=>Chg R0 w W∧Has W n1 0 (fl cd)∧Has W kp 0 (by32 M)∧Has W n2 0 (fl t.1)∧Has W n2 16 (fl t.2.1)∧Has W n2 32 (fl t.2.2)∧Has W n3 0 (nl (scN gb))∧Has W (n3 + 1) 0 (nl (scN gc))) ⟨C,H2,HP,H8,H9,H10,H16,H17⟩ ?_
 clear C H2 HP H8 H9 H10 H16 H17
 rintro W ⟨C,H2,HP,H8,H9,H10,H16,H17⟩
 go_wp2_with fail
 obtain ⟨n4,ln4⟩:∃ n,W.heap.size = n:=⟨_,rfl⟩
 have zn4:w.heap.size ≤ n4:=ln4 ▸ C.size
 have y18:n1 < n4:=ln4 ▸ H2.lt (by rw [fL];decide)
 have y19:kp < n4:=ln4 ▸ HP.lt (by rw [by32_length];decide)
 have y20:n2 < n4:=ln4 ▸ H8.lt (by rw [fL];decide)
 have y21:n3 < n4:=ln4 ▸ H16.lt (by rw [nL];decide)
 have y22:n3 + 1 < n4:=ln4 ▸ H17.lt (by rw [nL];decide)
 replace ln4:=hd ln4
 refine region_fresh 6 [] (by kernel_rfl) (by kernel_rfl) (by kernel_rfl)
  (fun i vv W=>match i with
   | 0=>vv = .slice (some ⟨kp,0,none⟩) 32 32
   | 1=>vv = .agg (nl (scN gb)).toArray
   | 2=>∃ k,vv = .slice (some ⟨k,0,none⟩) 32 32∧n4 ≤ k∧Has W k 0 (by32 (((scN gb):Nat):Int))
   | 3=>vv = .agg (nl (scN gc)).toArray
   | 4=>∃ k,vv = .slice (some ⟨k,0,none⟩) 32 32∧n4 ≤ k∧Has W k 0 (by32 (((scN gc):Nat):Int))
   | 5=>∃ k,vv = .slice (some ⟨k,0,none⟩) 3 3∧n4 ≤ k∧Res3 W k (encP (smul (scN gb) p)) (encP (smul (scN gc) gen)) (encP (smul (scN gb) p + smul (scN gc) gen))
   | _=>True) ?_ ?_ ?_
 ·intro i v u u' h hb
  split at h
  ·exact h
  ·exact h
  ·obtain ⟨k,h1,h2,h3⟩:=h;exact ⟨k,h1,h2,h3.later hb⟩
  ·exact h
  ·obtain ⟨k,h1,h2,h3⟩:=h;exact ⟨k,h1,h2,h3.later hb⟩
  ·obtain ⟨k,h1,h2,h3⟩:=h;exact ⟨k,h1,h2,h3.later hb⟩
  ·trivial
 ·simp only [List.take_succ_cons,List.take_zero,heads]
  refine ⟨?_,?_,?_,?_,?_,?_,trivial⟩
  ·intro a W1 hR hun hdep
   have t9:=hun 9 (by simp)
   simp at t9
   clear hun hdep
   go_simp
   exact Later.rfl' _
  ·intro a W1 hR hun hdep
   have t10:=hun 10 (by simp)
   simp at t10
   clear hun hdep
   exact opw_load (b:=n3) (o:=0) (gd t10) (Has.later H16 hR.off) (nL _) agg25 size25 ⟨_,rfl,Later.rfl' _,rfl,(fun h=>absurd h (by decide))⟩
  ·intro a W1 hR hun hdep
   have d43:=hdep ⟨1,.data⟩ (by simp) rfl
   simp [slotOf] at d43
   clear hun hdep
   have hle:n4 ≤ W1.heap.size:=ln4.out ▸ hR.off.size
   go_simp
   refine (bytes_v).mono ?_
   rintro e W2 ⟨k,hk,rfl,hb,hv,-⟩
   first | exact ⟨_,rfl,hb,⟨k,rfl,by omega,hv⟩⟩ | exact ⟨hb,⟨k,⟨rfl,rfl⟩,by omega,hv⟩⟩ | exact ⟨hb,⟨k,rfl,by omega,hv⟩⟩
  ·intro a W1 hR hun hdep
   have t11:=hun 11 (by simp)
   simp at t11
   clear hun hdep
   exact opw_load (b:=n3 + 1) (o:=0) (gd t11) (Has.later H17 hR.off) (nL _) agg25 size25 ⟨_,rfl,Later.rfl' _,rfl,(fun h=>absurd h (by decide))⟩
  ·intro a W1 hR hun hdep
   have d45:=hdep ⟨3,.data⟩ (by simp) rfl
   simp [slotOf] at d45
   clear hun hdep
   have hle:n4 ≤ W1.heap.size:=ln4.out ▸ hR.off.size
   go_simp
   refine (bytes_v).mono ?_
   rintro e W2 ⟨k,hk,rfl,hb,hv,-⟩
   first | exact ⟨_,rfl,hb,⟨k,rfl,by omega,hv⟩⟩ | exact ⟨hb,⟨k,⟨rfl,rfl⟩,by omega,hv⟩⟩ | exact ⟨hb,⟨k,rfl,by omega,hv⟩⟩
  ·intro a W1 hR hun hdep
   have d42:=hdep ⟨0,.data⟩ (by simp) rfl
   simp [slotOf] at d42
   obtain ⟨k44,e1,hk44,hm44⟩:=hdep ⟨2,.data⟩ (by simp) rfl
   have d44:=e1
   simp [slotOf] at d44
   obtain ⟨k46,e1,hk46,hm46⟩:=hdep ⟨4,.data⟩ (by simp) rfl
   have d46:=e1
   simp [slotOf] at d46
   clear hun hdep
   have hle:n4 ≤ W1.heap.size:=ln4.out ▸ hR.off.size
   go_simp
   refine (imTimes3 hp.out (Has.later HP hR.off) (Lm.later' (Lm.r0 G.out C) hR.off) (scN_bd gb) hm44 (scN_bd gc) hm46).mono ?_
   rintro e W2 ⟨k,hk,rfl,hb,hv⟩
   first | exact ⟨_,rfl,hb,⟨k,rfl,by omega,hv⟩⟩ | exact ⟨hb,⟨k,⟨rfl,rfl⟩,by omega,hv⟩⟩ | exact ⟨hb,⟨k,rfl,by omega,hv⟩⟩
 ·intro vs W1 hR hv hfr
  simp only [List.take_succ_cons,List.take_zero,List.drop_succ_cons,List.drop_zero,heads,Option.isSome_some,if_true] at hv ⊢
  obtain ⟨v0,v1,v2,v3,v4,v5,-⟩:=hv
  obtain ⟨k44,v2,y24,H23⟩:=v2
  obtain ⟨k46,v4,y26,H25⟩:=v4
  obtain ⟨k47,v5,y28,H27⟩:=v5
  simp only [finL,Act.put,v0,v1,v2,v3,v4,v5]
  simp only [iA,iB,iC]
  replace hR:=hR.off
  replace C:=C.trans (Chg.of_below hR)
  replace H2:=H2.later hR
  replace HP:=HP.later hR
  replace H8:=H8.later hR
  replace H9:=H9.later hR
  replace H10:=H10.later hR
  replace H16:=H16.later hR
  replace H17:=H17.later hR
  clear hR hfr v0 v1 v2 v3 v4 v5
  have z29:w.heap.size ≤ k44:=by omega
  have z30:w.heap.size ≤ k46:=by omega
  have z31:w.heap.size ≤ k47:=by omega
  refine pG (fun W=>Chg R0 w W∧Has W n1 0 (fl cd)∧Has W kp 0 (by32 M)∧Has W n2 0 (fl t.1)∧Has W n2 16 (fl t.2.1)∧Has W n2 32 (fl t.2.2)∧Has W n3 0 (nl (scN gb))∧Has W (n3 + 1) 0 (nl (scN gc))∧Has W k44 0 (by32 (((scN gb):Nat):Int))∧Has W k46 0 (by32 (((scN gc):Nat):Int))∧Res3 W k47 (encP (smul (scN gb) p)) (encP (smul (scN gc) gen)) (encP (smul (scN gb) p + smul (scN gc) gen))) ⟨C,H2,HP,H8,H9,H10,H16,H17,H23,H25,H27⟩ ?_
  clear C H2 HP H8 H9 H10 H16 H17 H23 H25 H27
  rintro W ⟨C,H2,HP,H8,H9,H10,H16,H17,H23,H25,H27⟩
  obtain ⟨j1,j2,j3,J0,J1,J2,J3⟩:=H27
  go_wp2_with fail
  obtain ⟨n5,ln5⟩:∃ n,W.heap.size = n:=⟨_,rfl⟩
  have zn5:w.heap.size ≤ n5:=ln5 ▸ C.size
  have y32:n1 < n5:=ln5 ▸ H2.lt (by rw [fL];decide)
  have y33:kp < n5:=ln5 ▸ HP.lt (by rw [by32_length];decide)
  have y34:n2 < n5:=ln5 ▸ H8.lt (by rw [fL];decide)
  have y35:n3 < n5:=ln5 ▸ H16.lt (by rw [nL];decide)
  have y36:n3 + 1 < n5:=ln5 ▸ H17.lt (by rw [nL];decide)
  have y37:k44 < n5:=ln5 ▸ H23.lt (by rw [by32_length];decide)
  have y38:k46 < n5:=ln5 ▸ H25.lt (by rw [by32_length];decide)
  have y39:k47 < n5:=ln5 ▸ J0.lt (by simp)
  have y40:j1 < n5:=ln5 ▸ J1.lt (by rw [by32_length];decide)
  have y41:j2 < n5:=ln5 ▸ J2.lt (by rw [by32_length];decide)
  have y42:j3 < n5:=ln5 ▸ J3.lt (by rw [by32_length];decide)
  replace ln5:=hd ln5
  obtain ⟨f1,qf1⟩:∃ g:T3,g = cmul (scN gb) t 256:=⟨_,rfl⟩
  replace qf1:=hd qf1
  obtain ⟨f2,qf2⟩:∃ g:T3,g = cmul (scN gc) (gx,gy,1) 256:=⟨_,rfl⟩
  replace qf2:=hd qf2
  refine region_fresh 11 [9,10] (by kernel_rfl) (by kernel_rfl) (by kernel_rfl)
   (fun i vv W=>match i with
    | 0=>vv = .agg (fl cd).toArray
    | 1=>vv = .agg (nl (scN gb)).toArray
    | 2=>vv = .agg ((fl t.1 ++ (fl t.2.1 ++ fl t.2.2))).toArray
    | 3=>vv = .agg ((fl f1.1 ++ (fl f1.2.1 ++ fl f1.2.2))).toArray
    | 4=>vv = .agg (fl cd).toArray
    | 5=>vv = .agg (nl (scN gc)).toArray
    | 6=>vv = .agg (fl cd).toArray
    | 7=>vv = .agg ((fl gx ++ (fl gy ++ fl 1))).toArray
    | 8=>vv = .agg ((fl f2.1 ++ (fl f2.2.1 ++ fl f2.2.2))).toArray
    | 9=>∃ k,vv = Ptr k 0∧n5 ≤ k∧Room W k 0 48
    | 10=>∃ k,vv = Ptr k 0∧n5 ≤ k∧Room W k 0 48
    | _=>True) ?_ ?_ ?_
  ·intro i v u u' h hb
   split at h
   ·exact h
   ·exact h
   ·exact h
   ·exact h
   ·exact h
   ·exact h
   ·exact h
   ·exact h
   ·exact h
   ·obtain ⟨k,h1,h2,h3⟩:=h;exact ⟨k,h1,h2,h3.later hb⟩
   ·obtain ⟨k,h1,h2,h3⟩:=h;exact ⟨k,h1,h2,h3.later hb⟩
   ·trivial
  ·simp only [List.take_succ_cons,List.take_zero,heads]
   refine ⟨?_,?_,?_,?_,?_,?_,?_,?_,?_,?_,?_,trivial⟩
   ·intro a W1 hR hun hdep
    have t7:=hun 7 (by simp)
    simp at t7
    clear hun hdep
    exact opw_load (b:=n1) (o:=0) (gd t7) (Has.later H2 hR.off) (fL _) agg27 size27 ⟨_,rfl,Later.rfl' _,rfl,(fun h=>absurd h (by decide))⟩
   ·intro a W1 hR hun hdep
    have t10:=hun 10 (by simp)
    simp at t10
    clear hun hdep
    exact opw_load (b:=n3) (o:=0) (gd t10) (Has.later H16 hR.off) (nL _) agg25 size25 ⟨_,rfl,Later.rfl' _,rfl,(fun h=>absurd h (by decide))⟩
   ·intro a W1 hR hun hdep
    have t8:=hun 8 (by simp)
    simp at t8
    clear hun hdep
    exact opw_load (b:=n2) (o:=0) (gd t8) (Has.later (join48 (fL _) (fL _) H8 H9 H10) hR.off) (len48 (fL _) (fL _) (fL _)) agg30 size30 ⟨_,rfl,Later.rfl' _,rfl,(fun h=>absurd h (by decide))⟩
   ·intro a W1 hR hun hdep
    have d48:=hdep ⟨0,.data⟩ (by simp) rfl
    simp [slotOf] at d48
    have d49:=hdep ⟨1,.data⟩ (by simp) rfl
    simp [slotOf] at d49
    have d50:=hdep ⟨2,.data⟩ (by simp) rfl
    simp [slotOf] at d50
    clear hun hdep
    go_simp
    refine (ctimes_t (n:=scN gb) (t:=t) (u:=f1) qf1).mono ?_
    rintro e W2 ⟨rfl,hb⟩
    first | exact hb | exact ⟨hb,rfl⟩ | exact ⟨rfl,hb⟩
   ·intro a W1 hR hun hdep
    have t7:=hun 7 (by simp)
    simp at t7
    clear hun hdep
    exact opw_load (b:=n1) (o:=0) (gd t7) (Has.later H2 hR.off) (fL _) agg27 size27 ⟨_,rfl,Later.rfl' _,rfl,(fun h=>absurd h (by decide))⟩
   ·intro a W1 hR hun hdep
    have t11:=hun 11 (by simp)
    simp at t11
    clear hun hdep
    exact opw_load (b:=n3 + 1) (o:=0) (gd t11) (Has.later H17 hR.off) (nL _) agg25 size25 ⟨_,rfl,Later.rfl' _,rfl,(fun h=>absurd h (by decide))⟩
   ·intro a W1 hR hun hdep
    have t7:=hun 7 (by simp)
    simp at t7
    clear hun hdep
    exact opw_load (b:=n1) (o:=0) (gd t7) (Has.later H2 hR.off) (fL _) agg27 size27 ⟨_,rfl,Later.rfl' _,rfl,(fun h=>absurd h (by decide))⟩
   ·intro a W1 hR hun hdep
    have d54:=hdep ⟨6,.data⟩ (by simp) rfl
    simp [slotOf] at d54
    clear hun hdep
    go_simp
    refine (base_v).mono ?_
    rintro e W2 ⟨rfl,hb⟩
    first | exact hb | exact ⟨hb,rfl⟩ | exact ⟨rfl,hb⟩
   ·intro a W1 hR hun hdep
    have d52:=hdep ⟨4,.data⟩ (by simp) rfl
    simp [slotOf] at d52
    have d53:=hdep ⟨5,.data⟩ (by simp) rfl
    simp [slotOf] at d53
    have d55:=hdep ⟨7,.data⟩ (by simp) rfl
    simp [slotOf] at d55
    clear hun hdep
    go_simp
    refine (ctimes_t (n:=scN gc) (t:=(gx,gy,1)) (u:=f2) qf2).mono ?_
    rintro e W2 ⟨rfl,hb⟩
    first | exact hb | exact ⟨hb,rfl⟩ | exact ⟨rfl,hb⟩
   ·intro a W1 hR hun hdep
    clear hun hdep
    have hle:n5 ≤ W1.heap.size:=ln5.out ▸ hR.off.size
    exact opw_alloc alloc30 ⟨_,rfl,bA _ _,⟨_,rfl,hle,(box_has W1 _ 30).room rfl⟩,fun _=>⟨rfl,by rw [size_alloc];omega,rfl⟩⟩
   ·intro a W1 hR hun hdep
    clear hun hdep
    have hle:n5 ≤ W1.heap.size:=ln5.out ▸ hR.off.size
    exact opw_alloc alloc30 ⟨_,rfl,bA _ _,⟨_,rfl,hle,(box_has W1 _ 30).room rfl⟩,fun _=>⟨rfl,by rw [size_alloc];omega,rfl⟩⟩
  ·intro vs W1 hR hv hfr
   simp only [List.take_succ_cons,List.take_zero,List.drop_succ_cons,List.drop_zero,heads,Option.isSome_some,if_true] at hv ⊢
   obtain ⟨v0,v1,v2,v3,v4,v5,v6,v7,v8,v9,v10,-⟩:=hv
   obtain ⟨k13,v9,y44,H43⟩:=v9
   obtain ⟨k14,v10,y46,H45⟩:=v10
   have y47:k13 ≠ k14:=fun e=>hfr 9 10 (by decide) (by decide) (by decide) (by decide) (by decide) (by rw [v9,v10,e])
   simp only [finL,Act.put,v0,v1,v2,v3,v4,v5,v6,v7,v8,v9,v10]
   simp only [iA,iB,iC]
   replace hR:=hR.off
   replace C:=C.trans (Chg.of_below hR)
   replace H2:=H2.later hR
   replace HP:=HP.later hR
   replace H8:=H8.later hR
   replace H9:=H9.later hR
   replace H10:=H10.later hR
   replace H16:=H16.later hR
   replace H17:=H17.later hR
   replace H23:=H23.later hR
   replace H25:=H25.later hR
   replace J0:=J0.later hR
   replace J1:=J1.later hR
   replace J2:=J2.later hR
   replace J3:=J3.later hR
   clear hR hfr v0 v1 v2 v3 v4 v5 v6 v7 v8 v9 v10
   have z48:w.heap.size ≤ k13:=by omega
   have z49:w.heap.size ≤ k14:=by omega
   refine pG (fun W=>Chg R0 w W∧Has W n1 0 (fl cd)∧Has W kp 0 (by32 M)∧Has W n2 0 (fl t.1)∧Has W n2 16 (fl t.2.1)∧Has W n2 32 (fl t.2.2)∧Has W n3 0 (nl (scN gb))∧Has W (n3 + 1) 0 (nl (scN gc))∧Has W k44 0 (by32 (((scN gb):Nat):Int))∧Has W k46 0 (by32 (((scN gc):Nat):Int))∧Has W k47 0 ([.slice (some ⟨j1,0,none⟩) 32 32,.slice (some ⟨j2,0,none⟩) 32 32,.slice (some ⟨j3,0,none⟩) 32 32])∧Has W j1 0 (by32 (encP (smul (scN gb) p)))∧Has W j2 0 (by32 (encP (smul (scN gc) gen)))∧Has W j3 0 (by32 (encP (smul (scN gb) p + smul (scN gc) gen)))∧Room W k13 0 48∧Room W k14 0 48) ⟨C,H2,HP,H8,H9,H10,H16,H17,H23,H25,J0,J1,J2,J3,H43,H45⟩ ?_
   clear C H2 HP H8 H9 H10 H16 H17 H23 H25 J0 J1 J2 J3 H43 H45
   rintro W ⟨C,H2,HP,H8,H9,H10,H16,H17,H23,H25,J0,J1,J2,J3,H43,H45⟩
   repeat ((fail_if_success with_reducible refine ss 30 ?_);first | go_step | dsimp only)
   refine wS (b:=k13) (o:=0) (vs:=(fl f1.1 ++ (fl f1.2.1 ++ fl f1.2.2))) rfl rfl H43 (len48 (fL _) (fL _) (fL _)) (one48 (fl_one _) (fl_one _) (fl_one _)) size30 ?_
   simp only [Act.put]
   have hc:Chg (Rg k13 0 48) W (World.setCells W k13 0 (fl f1.1 ++ (fl f1.2.1 ++ fl f1.2.2))):=by have:=putL_chg (w:=W) (b:=k13) (o:=0) (vs:=(fl f1.1 ++ (fl f1.2.1 ++ fl f1.2.2)));rwa [show ((fl f1.1 ++ (fl f1.2.1 ++ fl f1.2.2))).length = 48 from (len48 (fL _) (fL _) (fL _))] at this
   have H50:=putL_has (w:=W) (b:=k13) (o:=0) (vs:=(fl f1.1 ++ (fl f1.2.1 ++ fl f1.2.2))) (by rw [show ((fl f1.1 ++ (fl f1.2.1 ++ fl f1.2.2))).length = 48 from (len48 (fL _) (fL _) (fL _))];exact H43)
   replace C:=C.loc hc (by omega)
   replace H2:=H2.keep hc oa
   replace HP:=HP.keep hc oa
   replace H8:=H8.keep hc oa
   replace H9:=H9.keep hc oa
   replace H10:=H10.keep hc oa
   replace H16:=H16.keep hc oa
   replace H17:=H17.keep hc oa
   replace H23:=H23.keep hc oa
   replace H25:=H25.keep hc oa
   replace J0:=J0.keep hc oa
   replace J1:=J1.keep hc oa
   replace J2:=J2.keep hc oa
   replace J3:=J3.keep hc oa
   clear H43
   replace H45:=hc.room H45
   clear hc
   obtain ⟨H51,H52,H53⟩:=part48 (fL _) (fL _) H50
   clear H50
   refine pG (fun W=>Chg R0 w W∧Has W n1 0 (fl cd)∧Has W kp 0 (by32 M)∧Has W n2 0 (fl t.1)∧Has W n2 16 (fl t.2.1)∧Has W n2 32 (fl t.2.2)∧Has W n3 0 (nl (scN gb))∧Has W (n3 + 1) 0 (nl (scN gc))∧Has W k44 0 (by32 (((scN gb):Nat):Int))∧Has W k46 0 (by32 (((scN gc):Nat):Int))∧Has W k47 0 ([.slice (some ⟨j1,0,none⟩) 32 32,.slice (some ⟨j2,0,none⟩) 32 32,.slice (some ⟨j3,0,none⟩) 32 32])∧Has W j1 0 (by32 (encP (smul (scN gb) p)))∧Has W j2 0 (by32 (encP (smul (scN gc) gen)))∧Has W j3 0 (by32 (encP (smul (scN gb) p + smul (scN gc) gen)))∧Room W k14 0 48∧Has W k13 0 (fl f1.1)∧Has W k13 16 (fl f1.2.1)∧Has W k13 32 (fl f1.2.2)) ⟨C,H2,HP,H8,H9,H10,H16,H17,H23,H25,J0,J1,J2,J3,H45,H51,H52,H53⟩ ?_
   clear C H2 HP H8 H9 H10 H16 H17 H23 H25 J0 J1 J2 J3 H45 H51 H52 H53
   rintro W ⟨C,H2,HP,H8,H9,H10,H16,H17,H23,H25,J0,J1,J2,J3,H45,H51,H52,H53⟩
   repeat ((fail_if_success with_reducible refine ss 30 ?_);first | go_step | dsimp only)
   refine wS (b:=k14) (o:=0) (vs:=(fl f2.1 ++ (fl f2.2.1 ++ fl f2.2.2))) rfl rfl H45 (len48 (fL _) (fL _) (fL _)) (one48 (fl_one _) (fl_one _) (fl_one _)) size30 ?_
   simp only [Act.put]
   have hc:Chg (Rg k14 0 48) W (World.setCells W k14 0 (fl f2.1 ++ (fl f2.2.1 ++ fl f2.2.2))):=by have:=putL_chg (w:=W) (b:=k14) (o:=0) (vs:=(fl f2.1 ++ (fl f2.2.1 ++ fl f2.2.2)));rwa [show ((fl f2.1 ++ (fl f2.2.1 ++ fl f2.2.2))).length = 48 from (len48 (fL _) (fL _) (fL _))] at this
   have H54:=putL_has (w:=W) (b:=k14) (o:=0) (vs:=(fl f2.1 ++ (fl f2.2.1 ++ fl f2.2.2))) (by rw [show ((fl f2.1 ++ (fl f2.2.1 ++ fl f2.2.2))).length = 48 from (len48 (fL _) (fL _) (fL _))];exact H45)
   replace C:=C.loc hc (by omega)
   replace H2:=H2.keep hc oa
   replace HP:=HP.keep hc oa
   replace H8:=H8.keep hc oa
   replace H9:=H9.keep hc oa
   replace H10:=H10.keep hc oa
   replace H16:=H16.keep hc oa
   replace H17:=H17.keep hc oa
   replace H23:=H23.keep hc oa
   replace H25:=H25.keep hc oa
   replace J0:=J0.keep hc oa
   replace J1:=J1.keep hc oa
   replace J2:=J2.keep hc oa
   replace J3:=J3.keep hc oa
   clear H45
   replace H51:=H51.keep hc oa
   replace H52:=H52.keep hc oa
   replace H53:=H53.keep hc oa
   clear hc
   obtain ⟨H55,H56,H57⟩:=part48 (fL _) (fL _) H54
   clear H54
   refine pG (fun W=>Chg R0 w W∧Has W n1 0 (fl cd)∧Has W kp 0 (by32 M)∧Has W n2 0 (fl t.1)∧Has W n2 16 (fl t.2.1)∧Has W n2 32 (fl t.2.2)∧Has W n3 0 (nl (scN gb))∧Has W (n3 + 1) 0 (nl (scN gc))∧Has W k44 0 (by32 (((scN gb):Nat):Int))∧Has W k46 0 (by32 (((scN gc):Nat):Int))∧Has W k47 0 ([.slice (some ⟨j1,0,none⟩) 32 32,.slice (some ⟨j2,0,none⟩) 32 32,.slice (some ⟨j3,0,none⟩) 32 32])∧Has W j1 0 (by32 (encP (smul (scN gb) p)))∧Has W j2 0 (by32 (encP (smul (scN gc) gen)))∧Has W j3 0 (by32 (encP (smul (scN gb) p + smul (scN gc) gen)))∧Has W k13 0 (fl f1.1)∧Has W k13 16 (fl f1.2.1)∧Has W k13 32 (fl f1.2.2)∧Has W k14 0 (fl f2.1)∧Has W k14 16 (fl f2.2.1)∧Has W k14 32 (fl f2.2.2)) ⟨C,H2,HP,H8,H9,H10,H16,H17,H23,H25,J0,J1,J2,J3,H51,H52,H53,H55,H56,H57⟩ ?_
   clear C H2 HP H8 H9 H10 H16 H17 H23 H25 J0 J1 J2 J3 H51 H52 H53 H55 H56 H57
   rintro W ⟨C,H2,HP,H8,H9,H10,H16,H17,H23,H25,J0,J1,J2,J3,H51,H52,H53,H55,H56,H57⟩
   go_wp2_with fail
   obtain ⟨n6,ln6⟩:∃ n,W.heap.size = n:=⟨_,rfl⟩
   have zn6:w.heap.size ≤ n6:=ln6 ▸ C.size
   have y58:n1 < n6:=ln6 ▸ H2.lt (by rw [fL];decide)
   have y59:kp < n6:=ln6 ▸ HP.lt (by rw [by32_length];decide)
   have y60:n2 < n6:=ln6 ▸ H8.lt (by rw [fL];decide)
   have y61:n3 < n6:=ln6 ▸ H16.lt (by rw [nL];decide)
   have y62:n3 + 1 < n6:=ln6 ▸ H17.lt (by rw [nL];decide)
   have y63:k44 < n6:=ln6 ▸ H23.lt (by rw [by32_length];decide)
   have y64:k46 < n6:=ln6 ▸ H25.lt (by rw [by32_length];decide)
   have y65:k47 < n6:=ln6 ▸ J0.lt (by simp)
   have y66:j1 < n6:=ln6 ▸ J1.lt (by rw [by32_length];decide)
   have y67:j2 < n6:=ln6 ▸ J2.lt (by rw [by32_length];decide)
   have y68:j3 < n6:=ln6 ▸ J3.lt (by rw [by32_length];decide)
   have y69:k13 < n6:=ln6 ▸ H51.lt (by rw [fL];decide)
   have y70:k14 < n6:=ln6 ▸ H55.lt (by rw [fL];decide)
   replace ln6:=hd ln6
   obtain ⟨f3,qf3⟩:∃ g:Int,g = encI f1:=⟨_,rfl⟩
   replace qf3:=hd qf3
   obtain ⟨f4,qf4⟩:∃ g:Int,g = encI f2:=⟨_,rfl⟩
   replace qf4:=hd qf4
   obtain ⟨f5,qf5⟩:∃ g:T3,g = plus3 f1 f2:=⟨_,rfl⟩
   replace qf5:=hd qf5
   obtain ⟨f6,qf6⟩:∃ g:Int,g = encI f5:=⟨_,rfl⟩
   replace qf6:=hd qf6
   refine region_fresh 12 [] (by kernel_rfl) (by kernel_rfl) (by kernel_rfl)
    (fun i vv W=>match i with
     | 0=>vv = .agg (fl cd).toArray
     | 1=>vv = .agg ((fl f1.1 ++ (fl f1.2.1 ++ fl f1.2.2))).toArray
     | 2=>∃ k,vv = .slice (some ⟨k,0,none⟩) 32 32∧n6 ≤ k∧Has W k 0 (by32 f3)
     | 3=>vv = .agg (fl cd).toArray
     | 4=>vv = .agg ((fl f2.1 ++ (fl f2.2.1 ++ fl f2.2.2))).toArray
     | 5=>∃ k,vv = .slice (some ⟨k,0,none⟩) 32 32∧n6 ≤ k∧Has W k 0 (by32 f4)
     | 6=>vv = .agg (fl cd).toArray
     | 7=>vv = .agg (fl cd).toArray
     | 8=>vv = .agg ((fl f1.1 ++ (fl f1.2.1 ++ fl f1.2.2))).toArray
     | 9=>vv = .agg ((fl f2.1 ++ (fl f2.2.1 ++ fl f2.2.2))).toArray
     | 10=>vv = .agg ((fl f5.1 ++ (fl f5.2.1 ++ fl f5.2.2))).toArray
     | 11=>∃ k,vv = .slice (some ⟨k,0,none⟩) 32 32∧n6 ≤ k∧Has W k 0 (by32 f6)
     | _=>True) ?_ ?_ ?_
   ·intro i v u u' h hb
    split at h
    ·exact h
    ·exact h
    ·obtain ⟨k,h1,h2,h3⟩:=h;exact ⟨k,h1,h2,h3.later hb⟩
    ·exact h
    ·exact h
    ·obtain ⟨k,h1,h2,h3⟩:=h;exact ⟨k,h1,h2,h3.later hb⟩
    ·exact h
    ·exact h
    ·exact h
    ·exact h
    ·exact h
    ·obtain ⟨k,h1,h2,h3⟩:=h;exact ⟨k,h1,h2,h3.later hb⟩
    ·trivial
   ·simp only [List.take_succ_cons,List.take_zero,heads]
    refine ⟨?_,?_,?_,?_,?_,?_,?_,?_,?_,?_,?_,?_,trivial⟩
    ·intro a W1 hR hun hdep
     have t7:=hun 7 (by simp)
     simp at t7
     clear hun hdep
     exact opw_load (b:=n1) (o:=0) (gd t7) (Has.later H2 hR.off) (fL _) agg27 size27 ⟨_,rfl,Later.rfl' _,rfl,(fun h=>absurd h (by decide))⟩
    ·intro a W1 hR hun hdep
     have t13:=hun 13 (by simp)
     simp at t13
     clear hun hdep
     exact opw_load (b:=k13) (o:=0) (gd t13) (Has.later (join48 (fL _) (fL _) H51 H52 H53) hR.off) (len48 (fL _) (fL _) (fL _)) agg30 size30 ⟨_,rfl,Later.rfl' _,rfl,(fun h=>absurd h (by decide))⟩
    ·intro a W1 hR hun hdep
     have d57:=hdep ⟨0,.data⟩ (by simp) rfl
     simp [slotOf] at d57
     have d58:=hdep ⟨1,.data⟩ (by simp) rfl
     simp [slotOf] at d58
     clear hun hdep
     have hle:n6 ≤ W1.heap.size:=ln6.out ▸ hR.off.size
     go_simp
     refine (encode_v (t:=f1) (n:=f3) qf3).mono ?_
     rintro e W2 ⟨k,hk,rfl,hb,hv⟩
     first | exact ⟨_,rfl,hb,⟨k,rfl,by omega,hv⟩⟩ | exact ⟨hb,⟨k,⟨rfl,rfl⟩,by omega,hv⟩⟩ | exact ⟨hb,⟨k,rfl,by omega,hv⟩⟩
    ·intro a W1 hR hun hdep
     have t7:=hun 7 (by simp)
     simp at t7
     clear hun hdep
     exact opw_load (b:=n1) (o:=0) (gd t7) (Has.later H2 hR.off) (fL _) agg27 size27 ⟨_,rfl,Later.rfl' _,rfl,(fun h=>absurd h (by decide))⟩
    ·intro a W1 hR hun hdep
     have t14:=hun 14 (by simp)
     simp at t14
     clear hun hdep
     exact opw_load (b:=k14) (o:=0) (gd t14) (Has.later (join48 (fL _) (fL _) H55 H56 H57) hR.off) (len48 (fL _) (fL _) (fL _)) agg30 size30 ⟨_,rfl,Later.rfl' _,rfl,(fun h=>absurd h (by decide))⟩
    ·intro a W1 hR hun hdep
     have d60:=hdep ⟨3,.data⟩ (by simp) rfl
     simp [slotOf] at d60
     have d61:=hdep ⟨4,.data⟩ (by simp) rfl
     simp [slotOf] at d61
     clear hun hdep
     have hle:n6 ≤ W1.heap.size:=ln6.out ▸ hR.off.size
     go_simp
     refine (encode_v (t:=f2) (n:=f4) qf4).mono ?_
     rintro e W2 ⟨k,hk,rfl,hb,hv⟩
     first | exact ⟨_,rfl,hb,⟨k,rfl,by omega,hv⟩⟩ | exact ⟨hb,⟨k,⟨rfl,rfl⟩,by omega,hv⟩⟩ | exact ⟨hb,⟨k,rfl,by omega,hv⟩⟩
    ·intro a W1 hR hun hdep
     have t7:=hun 7 (by simp)
     simp at t7
     clear hun hdep
     exact opw_load (b:=n1) (o:=0) (gd t7) (Has.later H2 hR.off) (fL _) agg27 size27 ⟨_,rfl,Later.rfl' _,rfl,(fun h=>absurd h (by decide))⟩
    ·intro a W1 hR hun hdep
     have t7:=hun 7 (by simp)
     simp at t7
     clear hun hdep
     exact opw_load (b:=n1) (o:=0) (gd t7) (Has.later H2 hR.off) (fL _) agg27 size27 ⟨_,rfl,Later.rfl' _,rfl,(fun h=>absurd h (by decide))⟩
    ·intro a W1 hR hun hdep
     have t13:=hun 13 (by simp)
     simp at t13
     clear hun hdep
     exact opw_load (b:=k13) (o:=0) (gd t13) (Has.later (join48 (fL _) (fL _) H51 H52 H53) hR.off) (len48 (fL _) (fL _) (fL _)) agg30 size30 ⟨_,rfl,Later.rfl' _,rfl,(fun h=>absurd h (by decide))⟩
    ·intro a W1 hR hun hdep
     have t14:=hun 14 (by simp)
     simp at t14
     clear hun hdep
     exact opw_load (b:=k14) (o:=0) (gd t14) (Has.later (join48 (fL _) (fL _) H55 H56 H57) hR.off) (len48 (fL _) (fL _) (fL _)) agg30 size30 ⟨_,rfl,Later.rfl' _,rfl,(fun h=>absurd h (by decide))⟩
    ·intro a W1 hR hun hdep
     have d64:=hdep ⟨7,.data⟩ (by simp) rfl
     simp [slotOf] at d64
     have d65:=hdep ⟨8,.data⟩ (by simp) rfl
     simp [slotOf] at d65
     have d66:=hdep ⟨9,.data⟩ (by simp) rfl
     simp [slotOf] at d66
     clear hun hdep
     go_simp
     refine (cplus_t (s:=f1) (t:=f2) qf5).mono ?_
     rintro e W2 ⟨rfl,hb⟩
     first | exact hb | exact ⟨hb,rfl⟩ | exact ⟨rfl,hb⟩
    ·intro a W1 hR hun hdep
     have d63:=hdep ⟨6,.data⟩ (by simp) rfl
     simp [slotOf] at d63
     have d67:=hdep ⟨10,.data⟩ (by simp) rfl
     simp [slotOf] at d67
     clear hun hdep
     have hle:n6 ≤ W1.heap.size:=ln6.out ▸ hR.off.size
     go_simp
     refine (encode_v (t:=f5) (n:=f6) qf6).mono ?_
     rintro e W2 ⟨k,hk,rfl,hb,hv⟩
     first | exact ⟨_,rfl,hb,⟨k,rfl,by omega,hv⟩⟩ | exact ⟨hb,⟨k,⟨rfl,rfl⟩,by omega,hv⟩⟩ | exact ⟨hb,⟨k,rfl,by omega,hv⟩⟩
   ·intro vs W1 hR hv hfr
    simp only [List.take_succ_cons,List.take_zero,List.drop_succ_cons,List.drop_zero,heads,Option.isSome_some,if_true] at hv ⊢
    obtain ⟨v0,v1,v2,v3,v4,v5,v6,v7,v8,v9,v10,v11,-⟩:=hv
    obtain ⟨k59,v2,y72,H71⟩:=v2
    obtain ⟨k62,v5,y74,H73⟩:=v5
    obtain ⟨k68,v11,y76,H75⟩:=v11
    simp only [finL,Act.put,v0,v1,v2,v3,v4,v5,v6,v7,v8,v9,v10,v11]
    simp only [iA,iB,iC]
    replace hR:=hR.off
    replace C:=C.trans (Chg.of_below hR)
    replace H2:=H2.later hR
    replace HP:=HP.later hR
    replace H8:=H8.later hR
    replace H9:=H9.later hR
    replace H10:=H10.later hR
    replace H16:=H16.later hR
    replace H17:=H17.later hR
    replace H23:=H23.later hR
    replace H25:=H25.later hR
    replace J0:=J0.later hR
    replace J1:=J1.later hR
    replace J2:=J2.later hR
    replace J3:=J3.later hR
    replace H51:=H51.later hR
    replace H52:=H52.later hR
    replace H53:=H53.later hR
    replace H55:=H55.later hR
    replace H56:=H56.later hR
    replace H57:=H57.later hR
    clear hR hfr v0 v1 v2 v3 v4 v5 v6 v7 v8 v9 v10 v11
    have z77:w.heap.size ≤ k59:=by omega
    have z78:w.heap.size ≤ k62:=by omega
    have z79:w.heap.size ≤ k68:=by omega
    refine pG (fun W=>Chg R0 w W∧Has W n1 0 (fl cd)∧Has W kp 0 (by32 M)∧Has W n2 0 (fl t.1)∧Has W n2 16 (fl t.2.1)∧Has W n2 32 (fl t.2.2)∧Has W n3 0 (nl (scN gb))∧Has W (n3 + 1) 0 (nl (scN gc))∧Has W k44 0 (by32 (((scN gb):Nat):Int))∧Has W k46 0 (by32 (((scN gc):Nat):Int))∧Has W k47 0 ([.slice (some ⟨j1,0,none⟩) 32 32,.slice (some ⟨j2,0,none⟩) 32 32,.slice (some ⟨j3,0,none⟩) 32 32])∧Has W j1 0 (by32 (encP (smul (scN gb) p)))∧Has W j2 0 (by32 (encP (smul (scN gc) gen)))∧Has W j3 0 (by32 (encP (smul (scN gb) p + smul (scN gc) gen)))∧Has W k13 0 (fl f1.1)∧Has W k13 16 (fl f1.2.1)∧Has W k13 32 (fl f1.2.2)∧Has W k14 0 (fl f2.1)∧Has W k14 16 (fl f2.2.1)∧Has W k14 32 (fl f2.2.2)∧Has W k59 0 (by32 f3)∧Has W k62 0 (by32 f4)∧Has W k68 0 (by32 f6)) ⟨C,H2,HP,H8,H9,H10,H16,H17,H23,H25,J0,J1,J2,J3,H51,H52,H53,H55,H56,H57,H71,H73,H75⟩ ?_
    clear C H2 HP H8 H9 H10 H16 H17 H23 H25 J0 J1 J2 J3 H51 H52 H53 H55 H56 H57 H71 H73 H75
    rintro W ⟨C,H2,HP,H8,H9,H10,H16,H17,H23,H25,J0,J1,J2,J3,H51,H52,H53,H55,H56,H57,H71,H73,H75⟩
    go_wp2_with fail
    obtain ⟨n7,ln7⟩:∃ n,W.heap.size = n:=⟨_,rfl⟩
    rw [ln7]
    have hb:=aB [Obj.cells ([.slice (some ⟨k59,0,none⟩) 32 32,.slice (some ⟨k62,0,none⟩) 32 32,.slice (some ⟨k68,0,none⟩) 32 32]).toArray 22] W
    have zn7:w.heap.size ≤ n7:=ln7 ▸ C.size
    have y80:n1 < n7:=ln7 ▸ H2.lt (by rw [fL];decide)
    have y81:kp < n7:=ln7 ▸ HP.lt (by rw [by32_length];decide)
    have y82:n2 < n7:=ln7 ▸ H8.lt (by rw [fL];decide)
    have y83:n3 < n7:=ln7 ▸ H16.lt (by rw [nL];decide)
    have y84:n3 + 1 < n7:=ln7 ▸ H17.lt (by rw [nL];decide)
    have y85:k44 < n7:=ln7 ▸ H23.lt (by rw [by32_length];decide)
    have y86:k46 < n7:=ln7 ▸ H25.lt (by rw [by32_length];decide)
    have y87:k47 < n7:=ln7 ▸ J0.lt (by simp)
    have y88:j1 < n7:=ln7 ▸ J1.lt (by rw [by32_length];decide)
    have y89:j2 < n7:=ln7 ▸ J2.lt (by rw [by32_length];decide)
    have y90:j3 < n7:=ln7 ▸ J3.lt (by rw [by32_length];decide)
    have y91:k13 < n7:=ln7 ▸ H51.lt (by rw [fL];decide)
    have y92:k14 < n7:=ln7 ▸ H55.lt (by rw [fL];decide)
    have y93:k59 < n7:=ln7 ▸ H71.lt (by rw [by32_length];decide)
    have y94:k62 < n7:=ln7 ▸ H73.lt (by rw [by32_length];decide)
    have y95:k68 < n7:=ln7 ▸ H75.lt (by rw [by32_length];decide)
    replace C:=C.trans (Chg.of_below hb)
    replace H2:=H2.later hb
    replace HP:=HP.later hb
    replace H8:=H8.later hb
    replace H9:=H9.later hb
    replace H10:=H10.later hb
    replace H16:=H16.later hb
    replace H17:=H17.later hb
    replace H23:=H23.later hb
    replace H25:=H25.later hb
    replace J0:=J0.later hb
    replace J1:=J1.later hb
    replace J2:=J2.later hb
    replace J3:=J3.later hb
    replace H51:=H51.later hb
    replace H52:=H52.later hb
    replace H53:=H53.later hb
    replace H55:=H55.later hb
    replace H56:=H56.later hb
    replace H57:=H57.later hb
    replace H71:=H71.later hb
    replace H73:=H73.later hb
    replace H75:=H75.later hb
    have H96:=aH [Obj.cells ([.slice (some ⟨k59,0,none⟩) 32 32,.slice (some ⟨k62,0,none⟩) 32 32,.slice (some ⟨k68,0,none⟩) 32 32]).toArray 22] W 0 _ _ rfl
    rw [ln7] at H96
    simp only [Nat.add_zero] at H96
    refine wp_gen (fun W=>Chg R0 w W∧Has W n1 0 (fl cd)∧Has W kp 0 (by32 M)∧Has W n2 0 (fl t.1)∧Has W n2 16 (fl t.2.1)∧Has W n2 32 (fl t.2.2)∧Has W n3 0 (nl (scN gb))∧Has W (n3 + 1) 0 (nl (scN gc))∧Has W k44 0 (by32 (((scN gb):Nat):Int))∧Has W k46 0 (by32 (((scN gc):Nat):Int))∧Has W k47 0 ([.slice (some ⟨j1,0,none⟩) 32 32,.slice (some ⟨j2,0,none⟩) 32 32,.slice (some ⟨j3,0,none⟩) 32 32])∧Has W j1 0 (by32 (encP (smul (scN gb) p)))∧Has W j2 0 (by32 (encP (smul (scN gc) gen)))∧Has W j3 0 (by32 (encP (smul (scN gb) p + smul (scN gc) gen)))∧Has W k13 0 (fl f1.1)∧Has W k13 16 (fl f1.2.1)∧Has W k13 32 (fl f1.2.2)∧Has W k14 0 (fl f2.1)∧Has W k14 16 (fl f2.2.1)∧Has W k14 32 (fl f2.2.2)∧Has W k59 0 (by32 f3)∧Has W k62 0 (by32 f4)∧Has W k68 0 (by32 f6)∧Has W n7 0 ([.slice (some ⟨k59,0,none⟩) 32 32,.slice (some ⟨k62,0,none⟩) 32 32,.slice (some ⟨k68,0,none⟩) 32 32])) ⟨C,H2,HP,H8,H9,H10,H16,H17,H23,H25,J0,J1,J2,J3,H51,H52,H53,H55,H56,H57,H71,H73,H75,H96⟩ ?_
    clear C H2 HP H8 H9 H10 H16 H17 H23 H25 J0 J1 J2 J3 H51 H52 H53 H55 H56 H57 H71 H73 H75 H96 hb ln7
    rintro W ⟨C,H2,HP,H8,H9,H10,H16,H17,H23,H25,J0,J1,J2,J3,H51,H52,H53,H55,H56,H57,H71,H73,H75,H96⟩
    have v1:PJ f1 (smul (scN gb) p):=by rw [qf1.out];exact PJ.cmul (scN_256 _) hp.out.1
    have v2:PJ f2 (smul (scN gc) gen):=by rw [qf2.out];exact PJ.cmul (scN_256 _) PJ.gen
    have v3:PJ f5 (smul (scN gb) p + smul (scN gc) gen):=by rw [qf5.out];exact PJ.plus v1 v2
    have e0:f3 = encP (smul (scN gb) p):=by rw [qf3.out];exact encI_P v1
    obtain ⟨x0,hx0⟩:∃ x:Nat,encP (smul (scN gb) p) = x:=⟨Int.toNat _,(Int.toNat_of_nonneg (encP_bd _).1).symm⟩
    rw [e0,hx0] at H71
    rw [hx0] at J1
    have e1:f4 = encP (smul (scN gc) gen):=by rw [qf4.out];exact encI_P v2
    obtain ⟨x1,hx1⟩:∃ x:Nat,encP (smul (scN gc) gen) = x:=⟨Int.toNat _,(Int.toNat_of_nonneg (encP_bd _).1).symm⟩
    rw [e1,hx1] at H73
    rw [hx1] at J2
    have e2:f6 = encP (smul (scN gb) p + smul (scN gc) gen):=by rw [qf6.out];exact encI_P v3
    obtain ⟨x2,hx2⟩:∃ x:Nat,encP (smul (scN gb) p + smul (scN gc) gen) = x:=⟨Int.toNat _,(Int.toNat_of_nonneg (encP_bd _).1).symm⟩
    rw [e2,hx2] at H75
    rw [hx2] at J3
    clear e0 hx0
    clear e1 hx1
    clear e2 hx2
    have ca0:=(J0 0 (by simp)).1
    have cb0:=(H96 0 (by simp)).1
    have ca1:=(J0 1 (by simp)).1
    have cb1:=(H96 1 (by simp)).1
    have ca2:=(J0 2 (by simp)).1
    have cb2:=(H96 2 (by simp)).1
    simp at ca0 ca1 ca2 cb0 cb1 cb2
    refine wp_loop_rounds 4 ?_
    rw [rounds_succ]
    go_wp2_with fail
    refine (same_e J1 H71).mono ?_
    rintro e W1 ⟨rfl,he⟩
    obtain rfl:=he.symm
    clear he
    go_wp2_with fail
    rw [rounds_succ]
    go_wp2_with fail
    refine (same_e J2 H73).mono ?_
    rintro e W1 ⟨rfl,he⟩
    obtain rfl:=he.symm
    clear he
    go_wp2_with fail
    rw [rounds_succ]
    go_wp2_with fail
    refine (same_e J3 H75).mono ?_
    rintro e W1 ⟨rfl,he⟩
    obtain rfl:=he.symm
    clear he
    go_wp2_with fail
    rw [rounds_succ]
    go_wp2_with fail
    go_ret
    exact ⟨rfl,C.r0⟩
end Go.Proofs.Ed
