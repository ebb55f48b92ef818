/- A part of the proof of the tied card of FnTimes: Fe4, Fe5, Fe6, Fe7. -/
import Derived.Test.YtcogfofgmbndjaaGreatDoorProg
import Derived.WalkKit
import Derived.WalkSpells
import Derived.WalkLawsBesides
import Derived.Outline
import Derived.StillTailTactics
import Derived.Test.YtcogfofgmbndjaaGreatDoorTAc
import Derived.Test.YtcogfofgmbndjaaGreatDoorTAd
set_option maxRecDepth 100000
set_option maxHeartbeats 40000000
namespace Go.Proofs.Ed
open Go.RowKit
def Tail (W:World) (b o:Nat) (l:L5) (i:Nat):Prop:=∀ j,i ≤ j→j < 5→W.cell? ⟨b,o + j,none⟩ = (cells l)[j]?
theorem Tail.step {W:World} {bv ov b o i:Nat} {l:L5} (h:Tail W b o l i) (hs:Sep bv ov b o 5) (hi:i < 5) {o':Nat} (ho:o' = ov + i) (v:Value) :
  Tail (W.setCell ⟨bv,o',none⟩ v).drew b o l (i + 1):=by
 subst ho
 intro j hj hj5
 have h1:=h j (by omega) hj5
 have hb:b < W.heap.size:=by
  have:=h1
  rw [List.getElem?_eq_getElem (show j < (cells l).length from hj5)] at this
  exact lt_of_cell this
 show (W.setCell ⟨bv,ov + i,none⟩ v).cell? _ = _
 rw [(Chg.set1 W bv (ov + i) v).cell hb (by rintro ⟨e1,e2⟩;have:=hs e1.symm;omega)]
 exact h1
theorem Has.tail {w:World} {b o:Nat} {l:L5} (h:Has w b o (cells l)):Tail w b o l 0:=fun j _ hj=>(h j hj).1
theorem Tail.t0 {W:World} {b o:Nat} {l:L5} (h:Tail W b o l 0):W.cell? ⟨b,o,none⟩ = some (.int .u64 l.a):=h 0 (by omega) (by omega)
theorem Tail.t1 {W:World} {b o:Nat} {l:L5} (h:Tail W b o l 1):W.cell? ⟨b,o + 1,none⟩ = some (.int .u64 l.b):=h 1 (by omega) (by omega)
theorem Tail.t2 {W:World} {b o:Nat} {l:L5} (h:Tail W b o l 2):W.cell? ⟨b,o + 2,none⟩ = some (.int .u64 l.c):=h 2 (by omega) (by omega)
theorem Tail.t3 {W:World} {b o:Nat} {l:L5} (h:Tail W b o l 3):W.cell? ⟨b,o + 3,none⟩ = some (.int .u64 l.d):=h 3 (by omega) (by omega)
theorem Tail.t4 {W:World} {b o:Nat} {l:L5} (h:Tail W b o l 4):W.cell? ⟨b,o + 4,none⟩ = some (.int .u64 l.e):=h 4 (by omega) (by omega)
theorem Has.store {w:World} {b o:Nat} {vs:List Value} (h:Has w b o vs) (i:Nat) {o':Nat} (ho:o' = o + i) (v:Value):Has (w.setCell ⟨b,o',none⟩ v).drew b o (vs.set i v):=(h.set i ho v).drew
theorem Chg.store {w W:World} {b o:Nat} (h:Chg (Rg b o 5) w W) (i:Nat) {o':Nat} (ho:o' = o + i) (hi:i < 5) (v:Value):Chg (Rg b o 5) w (W.setCell ⟨b,o',none⟩ v).drew :=
 (h.setCell v (fun _=>⟨rfl,by omega,by omega⟩)).drew
theorem and_all (x:Int) (h:0 ≤ x∧x < 18446744073709551616):bits BinOp.and IntKind.u64 18446744073709551615 x = x:=by
 obtain ⟨n,rfl⟩:=Int.eq_ofNat_of_zero_le h.1
 have:=u64_and_nat 18446744073709551615 n (by omega) (by omega)
 rw [show ((18446744073709551615:Int)) = ((18446744073709551615:Nat):Int) by rfl,this,Nat.and_comm]
 have e:n &&& 18446744073709551615 = n % 18446744073709551616:=Nat.and_two_pow_sub_one_eq_mod n 64
 rw [e];omega
theorem and_none (x:Int) (h:0 ≤ x∧x < 18446744073709551616):bits BinOp.and IntKind.u64 0 x = 0:=by
 obtain ⟨n,rfl⟩:=Int.eq_ofNat_of_zero_le h.1
 have:=u64_and_nat 0 n (by omega) (by omega)
 rw [show ((0:Int)) = ((0:Nat):Int) by rfl,this,Nat.zero_and]
theorem or_r (x:Int) (h:0 ≤ x∧x < 18446744073709551616):bits BinOp.or IntKind.u64 x 0 = x:=by
 obtain ⟨n,rfl⟩:=Int.eq_ofNat_of_zero_le h.1
 have:=u64_or_nat n 0 (by omega) (by omega)
 rw [show ((0:Int)) = ((0:Nat):Int) by rfl,this,Nat.or_zero]
theorem or_l (x:Int) (h:0 ≤ x∧x < 18446744073709551616):bits BinOp.or IntKind.u64 0 x = x:=by
 obtain ⟨n,rfl⟩:=Int.eq_ofNat_of_zero_le h.1
 have:=u64_or_nat 0 n (by omega) (by omega)
 rw [show ((0:Int)) = ((0:Nat):Int) by rfl,this,Nat.zero_or]
theorem L5.ok.w {l:L5} (h:l.ok):l.word:=by
 obtain ⟨h1,h2,h3,h4,h5⟩:=h
 simp only [L5.word]
 omega
theorem Calls.mono' {P:Program} {f:FuncId} {args:Array Value} {w:World} {R R':Ending→World→Prop} (h:Calls P f args w R) (hr:∀ e w',R e w'→R' e w'):Calls P f args w R':=h.mono hr
theorem feAdd_c (bv ov bx ox bz oz:Nat) (x y:L5) (w:World) (hx:x.ok) (hy:y.ok) (sx:Sep bv ov bx ox 5) (sy:Sep bv ov bz oz 5) (RM:Room w bv ov 5) (X:Has w bx ox (cells x)) (Y:Has w bz oz (cells y)) :
  Calls Tryz.prog 81 #[Ptr bv ov,Ptr bx ox,Ptr bz oz] w fun e w'=>e = .returned (Ptr bv ov)∧Chg (Rg bv ov 5) w w'∧Has w' bv ov (cells (carry (addL x y))):=by
 obtain ⟨v0,v1,v2,v3,v4,V⟩:=RM.five
 replace X:=X.tail
 replace Y:=Y.tail
 have C:Chg (Rg bv ov 5) w w:=.refl _ _
 clear RM
 have wx:=hx.w
 have wy:=hy.w
 obtain ⟨x0,x1,x2,x3,x4⟩:=x
 obtain ⟨y0,y1,y2,y3,y4⟩:=y
 obtain ⟨hx0,hx1,hx2,hx3,hx4⟩:=hx
 obtain ⟨hy0,hy1,hy2,hy3,hy4⟩:=hy
 obtain ⟨wx0,wx1,wx2,wx3,wx4⟩:=wx
 obtain ⟨wy0,wy1,wy2,wy3,wy4⟩:=wy
 simp only at hx0 hx1 hx2 hx3 hx4 hy0 hy1 hy2 hy3 hy4 wx0 wx1 wx2 wx3 wx4 wy0 wy1 wy2 wy3 wy4
 replace sx:=hd sx
 replace sy:=hd sy
 replace C:=hd C
 have X0:=X.t0
 have Y0:=Y.t0
 obtain ⟨⟨c0,c1,c2,c3,c4⟩,f0,f1,f2,f3,f4⟩:=V.five
 replace X:=hd X
 replace Y:=hd Y
 replace V:=hd V
 go_enter Tryz.func81,Tryz.ntmps81
 go_wp2_with fail
 go_still_tail 12,(by kernel_rfl)
 go_wp2_with fail
 refine wp_gen (fun W=>Chg (Rg bv ov 5) w W∧Has W bv ov _∧Tail W bx ox _ 1∧Tail W bz oz _ 1) ⟨C.out.store 0 rfl (by decide) _,V.out.store 0 rfl _,X.out.step sx.out (by decide) rfl _,Y.out.step sy.out (by decide) rfl _⟩ ?_
 clear X Y V C X0 Y0 c0 c1 c2 c3 c4 f0 f1 f2 f3 f4
 rintro W ⟨C,V,X,Y⟩
 replace C:=hd C
 have X1:=X.t1
 have Y1:=Y.t1
 obtain ⟨⟨c0,c1,c2,c3,c4⟩,f0,f1,f2,f3,f4⟩:=V.five
 replace X:=hd X
 replace Y:=hd Y
 replace V:=hd V
 go_still_tail 12,(by kernel_rfl)
 go_wp2_with fail
 refine wp_gen (fun W=>Chg (Rg bv ov 5) w W∧Has W bv ov _∧Tail W bx ox _ 2∧Tail W bz oz _ 2) ⟨C.out.store 1 rfl (by decide) _,V.out.store 1 rfl _,X.out.step sx.out (by decide) rfl _,Y.out.step sy.out (by decide) rfl _⟩ ?_
 clear X Y V C X1 Y1 c0 c1 c2 c3 c4 f0 f1 f2 f3 f4
 rintro W ⟨C,V,X,Y⟩
 replace C:=hd C
 have X2:=X.t2
 have Y2:=Y.t2
 obtain ⟨⟨c0,c1,c2,c3,c4⟩,f0,f1,f2,f3,f4⟩:=V.five
 replace X:=hd X
 replace Y:=hd Y
 replace V:=hd V
 go_still_tail 12,(by kernel_rfl)
 go_wp2_with fail
 refine wp_gen (fun W=>Chg (Rg bv ov 5) w W∧Has W bv ov _∧Tail W bx ox _ 3∧Tail W bz oz _ 3) ⟨C.out.store 2 rfl (by decide) _,V.out.store 2 rfl _,X.out.step sx.out (by decide) rfl _,Y.out.step sy.out (by decide) rfl _⟩ ?_
 clear X Y V C X2 Y2 c0 c1 c2 c3 c4 f0 f1 f2 f3 f4
 rintro W ⟨C,V,X,Y⟩
 replace C:=hd C
 have X3:=X.t3
 have Y3:=Y.t3
 obtain ⟨⟨c0,c1,c2,c3,c4⟩,f0,f1,f2,f3,f4⟩:=V.five
 replace X:=hd X
 replace Y:=hd Y
 replace V:=hd V
 go_still_tail 12,(by kernel_rfl)
 go_wp2_with fail
 refine wp_gen (fun W=>Chg (Rg bv ov 5) w W∧Has W bv ov _∧Tail W bx ox _ 4∧Tail W bz oz _ 4) ⟨C.out.store 3 rfl (by decide) _,V.out.store 3 rfl _,X.out.step sx.out (by decide) rfl _,Y.out.step sy.out (by decide) rfl _⟩ ?_
 clear X Y V C X3 Y3 c0 c1 c2 c3 c4 f0 f1 f2 f3 f4
 rintro W ⟨C,V,X,Y⟩
 replace C:=hd C
 have X4:=X.t4
 have Y4:=Y.t4
 obtain ⟨⟨c0,c1,c2,c3,c4⟩,f0,f1,f2,f3,f4⟩:=V.five
 replace X:=hd X
 replace Y:=hd Y
 replace V:=hd V
 go_still_tail 12,(by kernel_rfl)
 go_wp2_with fail
 refine cG (fun W=>Chg (Rg bv ov 5) w W∧Has W bv ov (cells (addL ⟨x0,x1,x2,x3,x4⟩ ⟨y0,y1,y2,y3,y4⟩))) ⟨C.out.store 4 rfl (by decide) _,V.out.store 4 rfl _⟩ ?_
 clear X Y V C X4 Y4 c0 c1 c2 c3 c4 f0 f1 f2 f3 f4
 rintro W ⟨C,V⟩
 refine (carry_c bv ov _ _ (addL_word ⟨hx0,hx1,hx2,hx3,hx4⟩ ⟨hy0,hy1,hy2,hy3,hy4⟩) V).mono ?_
 rintro e w' ⟨rfl,hc,hv⟩
 replace C:=hd (C.trans hc)
 replace hv:=hd hv
 clear hc V
 go_wp2_with fail
 go_ret
 exact ⟨rfl,C.out,hv.out⟩
theorem feSub_c (bv ov bx ox bz oz:Nat) (x y:L5) (w:World) (hx:x.ok) (hy:y.ok) (sx:Sep bv ov bx ox 5) (sy:Sep bv ov bz oz 5) (RM:Room w bv ov 5) (X:Has w bx ox (cells x)) (Y:Has w bz oz (cells y)) :
  Calls Tryz.prog 77 #[Ptr bv ov,Ptr bx ox,Ptr bz oz] w fun e w'=>e = .returned (Ptr bv ov)∧Chg (Rg bv ov 5) w w'∧Has w' bv ov (cells (carry (subL x y))):=by
 obtain ⟨v0,v1,v2,v3,v4,V⟩:=RM.five
 replace X:=X.tail
 replace Y:=Y.tail
 have C:Chg (Rg bv ov 5) w w:=.refl _ _
 clear RM
 have wx:=hx.w
 have wy:=hy.w
 obtain ⟨x0,x1,x2,x3,x4⟩:=x
 obtain ⟨y0,y1,y2,y3,y4⟩:=y
 obtain ⟨hx0,hx1,hx2,hx3,hx4⟩:=hx
 obtain ⟨hy0,hy1,hy2,hy3,hy4⟩:=hy
 obtain ⟨wx0,wx1,wx2,wx3,wx4⟩:=wx
 obtain ⟨wy0,wy1,wy2,wy3,wy4⟩:=wy
 simp only at hx0 hx1 hx2 hx3 hx4 hy0 hy1 hy2 hy3 hy4 wx0 wx1 wx2 wx3 wx4 wy0 wy1 wy2 wy3 wy4
 replace sx:=hd sx
 replace sy:=hd sy
 replace C:=hd C
 have X0:=X.t0
 have Y0:=Y.t0
 obtain ⟨⟨c0,c1,c2,c3,c4⟩,f0,f1,f2,f3,f4⟩:=V.five
 replace X:=hd X
 replace Y:=hd Y
 replace V:=hd V
 go_enter Tryz.func77,Tryz.ntmps77
 go_wp2_with fail
 go_still_tail 13,(by kernel_rfl)
 go_wp2_with fail
 refine wp_gen (fun W=>Chg (Rg bv ov 5) w W∧Has W bv ov _∧Tail W bx ox _ 1∧Tail W bz oz _ 1) ⟨C.out.store 0 rfl (by decide) _,V.out.store 0 rfl _,X.out.step sx.out (by decide) rfl _,Y.out.step sy.out (by decide) rfl _⟩ ?_
 clear X Y V C X0 Y0 c0 c1 c2 c3 c4 f0 f1 f2 f3 f4
 rintro W ⟨C,V,X,Y⟩
 replace C:=hd C
 have X1:=X.t1
 have Y1:=Y.t1
 obtain ⟨⟨c0,c1,c2,c3,c4⟩,f0,f1,f2,f3,f4⟩:=V.five
 replace X:=hd X
 replace Y:=hd Y
 replace V:=hd V
 go_still_tail 13,(by kernel_rfl)
 go_wp2_with fail
 refine wp_gen (fun W=>Chg (Rg bv ov 5) w W∧Has W bv ov _∧Tail W bx ox _ 2∧Tail W bz oz _ 2) ⟨C.out.store 1 rfl (by decide) _,V.out.store 1 rfl _,X.out.step sx.out (by decide) rfl _,Y.out.step sy.out (by decide) rfl _⟩ ?_
 clear X Y V C X1 Y1 c0 c1 c2 c3 c4 f0 f1 f2 f3 f4
 rintro W ⟨C,V,X,Y⟩
 replace C:=hd C
 have X2:=X.t2
 have Y2:=Y.t2
 obtain ⟨⟨c0,c1,c2,c3,c4⟩,f0,f1,f2,f3,f4⟩:=V.five
 replace X:=hd X
 replace Y:=hd Y
 replace V:=hd V
 go_still_tail 13,(by kernel_rfl)
 go_wp2_with fail
 refine wp_gen (fun W=>Chg (Rg bv ov 5) w W∧Has W bv ov _∧Tail W bx ox _ 3∧Tail W bz oz _ 3) ⟨C.out.store 2 rfl (by decide) _,V.out.store 2 rfl _,X.out.step sx.out (by decide) rfl _,Y.out.step sy.out (by decide) rfl _⟩ ?_
 clear X Y V C X2 Y2 c0 c1 c2 c3 c4 f0 f1 f2 f3 f4
 rintro W ⟨C,V,X,Y⟩
 replace C:=hd C
 have X3:=X.t3
 have Y3:=Y.t3
 obtain ⟨⟨c0,c1,c2,c3,c4⟩,f0,f1,f2,f3,f4⟩:=V.five
 replace X:=hd X
 replace Y:=hd Y
 replace V:=hd V
 go_still_tail 13,(by kernel_rfl)
 go_wp2_with fail
 refine wp_gen (fun W=>Chg (Rg bv ov 5) w W∧Has W bv ov _∧Tail W bx ox _ 4∧Tail W bz oz _ 4) ⟨C.out.store 3 rfl (by decide) _,V.out.store 3 rfl _,X.out.step sx.out (by decide) rfl _,Y.out.step sy.out (by decide) rfl _⟩ ?_
 clear X Y V C X3 Y3 c0 c1 c2 c3 c4 f0 f1 f2 f3 f4
 rintro W ⟨C,V,X,Y⟩
 replace C:=hd C
 have X4:=X.t4
 have Y4:=Y.t4
 obtain ⟨⟨c0,c1,c2,c3,c4⟩,f0,f1,f2,f3,f4⟩:=V.five
 replace X:=hd X
 replace Y:=hd Y
 replace V:=hd V
 go_still_tail 13,(by kernel_rfl)
 go_wp2_with fail
 refine cG (fun W=>Chg (Rg bv ov 5) w W∧Has W bv ov (cells (subL ⟨x0,x1,x2,x3,x4⟩ ⟨y0,y1,y2,y3,y4⟩))) ⟨C.out.store 4 rfl (by decide) _,V.out.store 4 rfl _⟩ ?_
 clear X Y V C X4 Y4 c0 c1 c2 c3 c4 f0 f1 f2 f3 f4
 rintro W ⟨C,V⟩
 refine (carry_c bv ov _ _ (subL_word ⟨hx0,hx1,hx2,hx3,hx4⟩ ⟨hy0,hy1,hy2,hy3,hy4⟩) V).mono ?_
 rintro e w' ⟨rfl,hc,hv⟩
 replace C:=hd (C.trans hc)
 replace hv:=hd hv
 clear hc V
 go_wp2_with fail
 go_ret
 exact ⟨rfl,C.out,hv.out⟩
open Go.RowKit
theorem mask1 (w:World):Calls Tryz.prog 117 #[.int .i64 1] w fun e w'=>e = .returned (.int .u64 18446744073709551615)∧w' = w:=by
 go_enter Tryz.func117,Tryz.ntmps117
 go_wp2
 go_ret
 exact ⟨rfl,rfl⟩
theorem mask0 (w:World):Calls Tryz.prog 117 #[.int .i64 0] w fun e w'=>e = .returned (.int .u64 0)∧w' = w:=by
 go_enter Tryz.func117,Tryz.ntmps117
 go_wp2
 go_ret
 exact ⟨rfl,rfl⟩
theorem not_all:bits BinOp.xor IntKind.u64 IntKind.u64.max 18446744073709551615 = 0:=by kernel_rfl
theorem not_none:bits BinOp.xor IntKind.u64 IntKind.u64.max 0 = 18446744073709551615:=by kernel_rfl
theorem feSelect1_c (bv ov bx ox bz oz:Nat) (x y:L5) (w:World) (hx:x.ok) (hy:y.ok) (sx:Sep bv ov bx ox 5) (sy:Sep bv ov bz oz 5) (RM:Room w bv ov 5) (X:Has w bx ox (cells x)) (Y:Has w bz oz (cells y)) :
  Calls Tryz.prog 84 #[Ptr bv ov,Ptr bx ox,Ptr bz oz,.int .i64 1] w fun e w'=>e = .returned (Ptr bv ov)∧Chg (Rg bv ov 5) w w'∧Has w' bv ov (cells (x)):=by
 obtain ⟨v0,v1,v2,v3,v4,V⟩:=RM.five
 replace X:=X.tail
 replace Y:=Y.tail
 have C:Chg (Rg bv ov 5) w w:=.refl _ _
 clear RM
 have wx:=hx.w
 have wy:=hy.w
 obtain ⟨x0,x1,x2,x3,x4⟩:=x
 obtain ⟨y0,y1,y2,y3,y4⟩:=y
 obtain ⟨hx0,hx1,hx2,hx3,hx4⟩:=hx
 obtain ⟨hy0,hy1,hy2,hy3,hy4⟩:=hy
 obtain ⟨wx0,wx1,wx2,wx3,wx4⟩:=wx
 obtain ⟨wy0,wy1,wy2,wy3,wy4⟩:=wy
 simp only at hx0 hx1 hx2 hx3 hx4 hy0 hy1 hy2 hy3 hy4 wx0 wx1 wx2 wx3 wx4 wy0 wy1 wy2 wy3 wy4
 have a0:=and_all x0 wx0
 have n0:=and_none y0 wy0
 have r0:=or_r x0 wx0
 have a1:=and_all x1 wx1
 have n1:=and_none y1 wy1
 have r1:=or_r x1 wx1
 have a2:=and_all x2 wx2
 have n2:=and_none y2 wy2
 have r2:=or_r x2 wx2
 have a3:=and_all x3 wx3
 have n3:=and_none y3 wy3
 have r3:=or_r x3 wx3
 have a4:=and_all x4 wx4
 have n4:=and_none y4 wy4
 have r4:=or_r x4 wx4
 have nt1:=not_all
 have nt2:=not_none
 replace sx:=hd sx
 replace sy:=hd sy
 replace C:=hd C
 have X0:=X.t0
 have Y0:=Y.t0
 obtain ⟨⟨c0,c1,c2,c3,c4⟩,f0,f1,f2,f3,f4⟩:=V.five
 replace X:=hd X
 replace Y:=hd Y
 replace V:=hd V
 go_enter Tryz.func84,Tryz.ntmps84
 go_wp2_with fail
 refine (mask1 _).mono ?_
 rintro e w1 ⟨rfl,h1⟩
 obtain rfl:=h1.symm
 go_wp2_with fail
 go_wp2_with fail
 go_still_tail 17,(by kernel_rfl)
 go_wp2_with fail
 refine wp_gen (fun W=>Chg (Rg bv ov 5) w W∧Has W bv ov _∧Tail W bx ox _ 1∧Tail W bz oz _ 1) ⟨C.out.store 0 rfl (by decide) _,V.out.store 0 rfl _,X.out.step sx.out (by decide) rfl _,Y.out.step sy.out (by decide) rfl _⟩ ?_
 clear X Y V C X0 Y0 c0 c1 c2 c3 c4 f0 f1 f2 f3 f4
 rintro W ⟨C,V,X,Y⟩
 replace C:=hd C
 have X1:=X.t1
 have Y1:=Y.t1
 obtain ⟨⟨c0,c1,c2,c3,c4⟩,f0,f1,f2,f3,f4⟩:=V.five
 replace X:=hd X
 replace Y:=hd Y
 replace V:=hd V
 go_still_tail 17,(by kernel_rfl)
 go_wp2_with fail
 refine wp_gen (fun W=>Chg (Rg bv ov 5) w W∧Has W bv ov _∧Tail W bx ox _ 2∧Tail W bz oz _ 2) ⟨C.out.store 1 rfl (by decide) _,V.out.store 1 rfl _,X.out.step sx.out (by decide) rfl _,Y.out.step sy.out (by decide) rfl _⟩ ?_
 clear X Y V C X1 Y1 c0 c1 c2 c3 c4 f0 f1 f2 f3 f4
 rintro W ⟨C,V,X,Y⟩
 replace C:=hd C
 have X2:=X.t2
 have Y2:=Y.t2
 obtain ⟨⟨c0,c1,c2,c3,c4⟩,f0,f1,f2,f3,f4⟩:=V.five
 replace X:=hd X
 replace Y:=hd Y
 replace V:=hd V
 go_still_tail 17,(by kernel_rfl)
 go_wp2_with fail
 refine wp_gen (fun W=>Chg (Rg bv ov 5) w W∧Has W bv ov _∧Tail W bx ox _ 3∧Tail W bz oz _ 3) ⟨C.out.store 2 rfl (by decide) _,V.out.store 2 rfl _,X.out.step sx.out (by decide) rfl _,Y.out.step sy.out (by decide) rfl _⟩ ?_
 clear X Y V C X2 Y2 c0 c1 c2 c3 c4 f0 f1 f2 f3 f4
 rintro W ⟨C,V,X,Y⟩
 replace C:=hd C
 have X3:=X.t3
 have Y3:=Y.t3
 obtain ⟨⟨c0,c1,c2,c3,c4⟩,f0,f1,f2,f3,f4⟩:=V.five
 replace X:=hd X
 replace Y:=hd Y
 replace V:=hd V
 go_still_tail 17,(by kernel_rfl)
 go_wp2_with fail
 refine wp_gen (fun W=>Chg (Rg bv ov 5) w W∧Has W bv ov _∧Tail W bx ox _ 4∧Tail W bz oz _ 4) ⟨C.out.store 3 rfl (by decide) _,V.out.store 3 rfl _,X.out.step sx.out (by decide) rfl _,Y.out.step sy.out (by decide) rfl _⟩ ?_
 clear X Y V C X3 Y3 c0 c1 c2 c3 c4 f0 f1 f2 f3 f4
 rintro W ⟨C,V,X,Y⟩
 replace C:=hd C
 have X4:=X.t4
 have Y4:=Y.t4
 obtain ⟨⟨c0,c1,c2,c3,c4⟩,f0,f1,f2,f3,f4⟩:=V.five
 replace X:=hd X
 replace Y:=hd Y
 replace V:=hd V
 go_still_tail 17,(by kernel_rfl)
 go_wp2_with fail
 go_wp2_with fail
 go_ret
 exact ⟨rfl,(C.out.store 4 rfl (by decide) _),(V.out.store 4 rfl _)⟩
theorem feSelect0_c (bv ov bx ox bz oz:Nat) (x y:L5) (w:World) (hx:x.ok) (hy:y.ok) (sx:Sep bv ov bx ox 5) (sy:Sep bv ov bz oz 5) (RM:Room w bv ov 5) (X:Has w bx ox (cells x)) (Y:Has w bz oz (cells y)) :
  Calls Tryz.prog 84 #[Ptr bv ov,Ptr bx ox,Ptr bz oz,.int .i64 0] w fun e w'=>e = .returned (Ptr bv ov)∧Chg (Rg bv ov 5) w w'∧Has w' bv ov (cells (y)):=by
 obtain ⟨v0,v1,v2,v3,v4,V⟩:=RM.five
 replace X:=X.tail
 replace Y:=Y.tail
 have C:Chg (Rg bv ov 5) w w:=.refl _ _
 clear RM
 have wx:=hx.w
 have wy:=hy.w
 obtain ⟨x0,x1,x2,x3,x4⟩:=x
 obtain ⟨y0,y1,y2,y3,y4⟩:=y
 obtain ⟨hx0,hx1,hx2,hx3,hx4⟩:=hx
 obtain ⟨hy0,hy1,hy2,hy3,hy4⟩:=hy
 obtain ⟨wx0,wx1,wx2,wx3,wx4⟩:=wx
 obtain ⟨wy0,wy1,wy2,wy3,wy4⟩:=wy
 simp only at hx0 hx1 hx2 hx3 hx4 hy0 hy1 hy2 hy3 hy4 wx0 wx1 wx2 wx3 wx4 wy0 wy1 wy2 wy3 wy4
 have a0:=and_none x0 wx0
 have n0:=and_all y0 wy0
 have r0:=or_l y0 wy0
 have a1:=and_none x1 wx1
 have n1:=and_all y1 wy1
 have r1:=or_l y1 wy1
 have a2:=and_none x2 wx2
 have n2:=and_all y2 wy2
 have r2:=or_l y2 wy2
 have a3:=and_none x3 wx3
 have n3:=and_all y3 wy3
 have r3:=or_l y3 wy3
 have a4:=and_none x4 wx4
 have n4:=and_all y4 wy4
 have r4:=or_l y4 wy4
 have nt1:=not_all
 have nt2:=not_none
 replace sx:=hd sx
 replace sy:=hd sy
 replace C:=hd C
 have X0:=X.t0
 have Y0:=Y.t0
 obtain ⟨⟨c0,c1,c2,c3,c4⟩,f0,f1,f2,f3,f4⟩:=V.five
 replace X:=hd X
 replace Y:=hd Y
 replace V:=hd V
 go_enter Tryz.func84,Tryz.ntmps84
 go_wp2_with fail
 refine (mask0 _).mono ?_
 rintro e w1 ⟨rfl,h1⟩
 obtain rfl:=h1.symm
 go_wp2_with fail
 go_wp2_with fail
 go_still_tail 17,(by kernel_rfl)
 go_wp2_with fail
 refine wp_gen (fun W=>Chg (Rg bv ov 5) w W∧Has W bv ov _∧Tail W bx ox _ 1∧Tail W bz oz _ 1) ⟨C.out.store 0 rfl (by decide) _,V.out.store 0 rfl _,X.out.step sx.out (by decide) rfl _,Y.out.step sy.out (by decide) rfl _⟩ ?_
 clear X Y V C X0 Y0 c0 c1 c2 c3 c4 f0 f1 f2 f3 f4
 rintro W ⟨C,V,X,Y⟩
 replace C:=hd C
 have X1:=X.t1
 have Y1:=Y.t1
 obtain ⟨⟨c0,c1,c2,c3,c4⟩,f0,f1,f2,f3,f4⟩:=V.five
 replace X:=hd X
 replace Y:=hd Y
 replace V:=hd V
 go_still_tail 17,(by kernel_rfl)
 go_wp2_with fail
 refine wp_gen (fun W=>Chg (Rg bv ov 5) w W∧Has W bv ov _∧Tail W bx ox _ 2∧Tail W bz oz _ 2) ⟨C.out.store 1 rfl (by decide) _,V.out.store 1 rfl _,X.out.step sx.out (by decide) rfl _,Y.out.step sy.out (by decide) rfl _⟩ ?_
 clear X Y V C X1 Y1 c0 c1 c2 c3 c4 f0 f1 f2 f3 f4
 rintro W ⟨C,V,X,Y⟩
 replace C:=hd C
 have X2:=X.t2
 have Y2:=Y.t2
 obtain ⟨⟨c0,c1,c2,c3,c4⟩,f0,f1,f2,f3,f4⟩:=V.five
 replace X:=hd X
 replace Y:=hd Y
 replace V:=hd V
 go_still_tail 17,(by kernel_rfl)
 go_wp2_with fail
 refine wp_gen (fun W=>Chg (Rg bv ov 5) w W∧Has W bv ov _∧Tail W bx ox _ 3∧Tail W bz oz _ 3) ⟨C.out.store 2 rfl (by decide) _,V.out.store 2 rfl _,X.out.step sx.out (by decide) rfl _,Y.out.step sy.out (by decide) rfl _⟩ ?_
 clear X Y V C X2 Y2 c0 c1 c2 c3 c4 f0 f1 f2 f3 f4
 rintro W ⟨C,V,X,Y⟩
 replace C:=hd C
 have X3:=X.t3
 have Y3:=Y.t3
 obtain ⟨⟨c0,c1,c2,c3,c4⟩,f0,f1,f2,f3,f4⟩:=V.five
 replace X:=hd X
 replace Y:=hd Y
 replace V:=hd V
 go_still_tail 17,(by kernel_rfl)
 go_wp2_with fail
 refine wp_gen (fun W=>Chg (Rg bv ov 5) w W∧Has W bv ov _∧Tail W bx ox _ 4∧Tail W bz oz _ 4) ⟨C.out.store 3 rfl (by decide) _,V.out.store 3 rfl _,X.out.step sx.out (by decide) rfl _,Y.out.step sy.out (by decide) rfl _⟩ ?_
 clear X Y V C X3 Y3 c0 c1 c2 c3 c4 f0 f1 f2 f3 f4
 rintro W ⟨C,V,X,Y⟩
 replace C:=hd C
 have X4:=X.t4
 have Y4:=Y.t4
 obtain ⟨⟨c0,c1,c2,c3,c4⟩,f0,f1,f2,f3,f4⟩:=V.five
 replace X:=hd X
 replace Y:=hd Y
 replace V:=hd V
 go_still_tail 17,(by kernel_rfl)
 go_wp2_with fail
 go_wp2_with fail
 go_ret
 exact ⟨rfl,(C.out.store 4 rfl (by decide) _),(V.out.store 4 rfl _)⟩
open Go.RowKit
def Puts (w:World) (b o:Nat) (f:F) (e:Ending) (w':World):Prop:=e = .returned (Ptr b o)∧Chg (Rg b o 5) w w'∧Elt w' b o f
def Makes (w:World) (f:F) (e:Ending) (w':World):Prop:=∃ k,w.heap.size ≤ k∧e = .returned (Ptr k 0)∧Below w.heap.size w w'∧Elt w' k 0 f
theorem add_e {bv ov bx ox bz oz:Nat} {f g:F} {w:World} (RM:Room w bv ov 5) (X:Elt w bx ox f) (Y:Elt w bz oz g) (sx:Sep bv ov bx ox 5) (sy:Sep bv ov bz oz 5) :
  Calls Tryz.prog 81 #[Ptr bv ov,Ptr bx ox,Ptr bz oz] w (Puts w bv ov (f + g)):=by
 obtain ⟨x,hx,rfl,X⟩:=X
 obtain ⟨y,hy,rfl,Y⟩:=Y
 exact (feAdd_c bv ov bx ox bz oz x y w hx hy sx sy RM X Y).mono fun _ _ h=>⟨h.1,h.2.1,_,carry_ok (addL_word hx hy),by rw [carry_fe,addL_fe],h.2.2⟩
theorem sub_e {bv ov bx ox bz oz:Nat} {f g:F} {w:World} (RM:Room w bv ov 5) (X:Elt w bx ox f) (Y:Elt w bz oz g) (sx:Sep bv ov bx ox 5) (sy:Sep bv ov bz oz 5) :
  Calls Tryz.prog 77 #[Ptr bv ov,Ptr bx ox,Ptr bz oz] w (Puts w bv ov (f - g)):=by
 obtain ⟨x,hx,rfl,X⟩:=X
 obtain ⟨y,hy,rfl,Y⟩:=Y
 exact (feSub_c bv ov bx ox bz oz x y w hx hy sx sy RM X Y).mono fun _ _ h=>⟨h.1,h.2.1,_,carry_ok (subL_word hx hy),by rw [carry_fe,subL_fe],h.2.2⟩
theorem sel1_e {bv ov bx ox bz oz:Nat} {f g:F} {w:World} (RM:Room w bv ov 5) (X:Elt w bx ox f) (Y:Elt w bz oz g) (sx:Sep bv ov bx ox 5) (sy:Sep bv ov bz oz 5) :
  Calls Tryz.prog 84 #[Ptr bv ov,Ptr bx ox,Ptr bz oz,.int .i64 1] w (Puts w bv ov f):=by
 obtain ⟨x,hx,rfl,X⟩:=X
 obtain ⟨y,hy,rfl,Y⟩:=Y
 exact (feSelect1_c bv ov bx ox bz oz x y w hx hy sx sy RM X Y).mono fun _ _ h=>⟨h.1,h.2.1,_,hx,rfl,h.2.2⟩
theorem sel0_e {bv ov bx ox bz oz:Nat} {f g:F} {w:World} (RM:Room w bv ov 5) (X:Elt w bx ox f) (Y:Elt w bz oz g) (sx:Sep bv ov bx ox 5) (sy:Sep bv ov bz oz 5) :
  Calls Tryz.prog 84 #[Ptr bv ov,Ptr bx ox,Ptr bz oz,.int .i64 0] w (Puts w bv ov g):=by
 obtain ⟨x,hx,rfl,X⟩:=X
 obtain ⟨y,hy,rfl,Y⟩:=Y
 exact (feSelect0_c bv ov bx ox bz oz x y w hx hy sx sy RM X Y).mono fun _ _ h=>⟨h.1,h.2.1,_,hy,rfl,h.2.2⟩
theorem sel_e {bv ov bx ox bz oz:Nat} {f g:F} {w:World} {c:Int} (hc:c = 1∨c = 0) (RM:Room w bv ov 5) (X:Elt w bx ox f) (Y:Elt w bz oz g) (sx:Sep bv ov bx ox 5) (sy:Sep bv ov bz oz 5) :
  Calls Tryz.prog 84 #[Ptr bv ov,Ptr bx ox,Ptr bz oz,.int .i64 c] w (Puts w bv ov (if c = 1 then f else g)):=by
 rcases hc with rfl | rfl
 ·exact sel1_e RM X Y sx sy
 ·exact sel0_e RM X Y sx sy
theorem mul_e {bv ov bx ox bz oz:Nat} {f g:F} {w:World} (RM:Room w bv ov 5) (X:Elt w bx ox f) (Y:Elt w bz oz g) :
  Calls Tryz.prog 79 #[Ptr bv ov,Ptr bx ox,Ptr bz oz] w (Puts w bv ov (f * g)):=by
 obtain ⟨x,hx,rfl,X⟩:=X
 obtain ⟨y,hy,rfl,Y⟩:=Y
 go_enter Tryz.func79,Tryz.ntmps79
 go_wp2_with fail
 have H:Calls Tryz.prog 111 #[Ptr bv ov,Ptr bx ox,Ptr bz oz] w fun e w'=>e = .returned (.tuple #[])∧Chg (Rg bv ov 5) w w'∧Has w' bv ov (cells (redc (r0 x y) (r1 x y) (r2 x y) (r3 x y) (r4 x y))):=by
  go_enter Tryz.func111,Tryz.ntmps111
  go_wp2_with fail
  refine (feMulGeneric_c bv ov bx ox bz oz x y w hx hy RM X Y).mono ?_
  rintro e w' ⟨rfl,h⟩
  go_wp2_with fail
  go_end0
  exact ⟨rfl,h⟩
 refine H.mono ?_
 rintro e w' ⟨rfl,hc,hv⟩
 replace hc:=hd hc
 replace hv:=hd hv
 go_wp2_with fail
 go_ret
 obtain ⟨b0,b1,b2,b3,b4⟩:=r_wide hx hy
 exact ⟨rfl,hc.out,_,redc_ok b0 b1 b2 b3 b4,by rw [redc_fe,mul_fe],hv.out⟩
theorem sq_e {bv ov bx ox:Nat} {f:F} {w:World} (RM:Room w bv ov 5) (X:Elt w bx ox f) :
  Calls Tryz.prog 76 #[Ptr bv ov,Ptr bx ox] w (Puts w bv ov (f * f)):=by
 obtain ⟨x,hx,rfl,X⟩:=X
 go_enter Tryz.func76,Tryz.ntmps76
 go_wp2_with fail
 have H:Calls Tryz.prog 109 #[Ptr bv ov,Ptr bx ox] w fun e w'=>e = .returned (.tuple #[])∧Chg (Rg bv ov 5) w w'∧Has w' bv ov (cells (redc (r0 x x) (r1 x x) (r2 x x) (r3 x x) (r4 x x))):=by
  go_enter Tryz.func109,Tryz.ntmps109
  go_wp2_with fail
  refine (feSquareGeneric_c bv ov bx ox x w hx RM X).mono ?_
  rintro e w' ⟨rfl,h⟩
  go_wp2_with fail
  go_end0
  exact ⟨rfl,h⟩
 refine H.mono ?_
 rintro e w' ⟨rfl,hc,hv⟩
 replace hc:=hd hc
 replace hv:=hd hv
 go_wp2_with fail
 go_ret
 obtain ⟨b0,b1,b2,b3,b4⟩:=r_wide hx hx
 exact ⟨rfl,hc.out,_,redc_ok b0 b1 b2 b3 b4,by rw [redc_fe,mul_fe],hv.out⟩
theorem chg5 {w W:World} {b o:Nat} (h:Chg (Rg b o 5) w W) (v0 v1 v2 v3 v4:Value) :
  Chg (Rg b o 5) w (((((W.setCell ⟨b,o,none⟩ v0).setCell ⟨b,o + 1,none⟩ v1).setCell ⟨b,o + 2,none⟩ v2).setCell ⟨b,o + 3,none⟩ v3).setCell ⟨b,o + 4,none⟩ v4) :=
 ((((h.setCell _ (fun _=>⟨rfl,by omega,by omega⟩)).setCell _ (fun _=>⟨rfl,by omega,by omega⟩)).setCell _ (fun _=>⟨rfl,by omega,by omega⟩)).setCell _ (fun _=>⟨rfl,by omega,by omega⟩)).setCell _ (fun _=>⟨rfl,by omega,by omega⟩)
theorem has5 {W:World} {b o:Nat} (h:Room W b o 5) (v0 v1 v2 v3 v4:Value) :
  Has (((((W.setCell ⟨b,o,none⟩ v0).setCell ⟨b,o + 1,none⟩ v1).setCell ⟨b,o + 2,none⟩ v2).setCell ⟨b,o + 3,none⟩ v3).setCell ⟨b,o + 4,none⟩ v4) b o [v0,v1,v2,v3,v4]:=by
 obtain ⟨u0,u1,u2,u3,u4,h⟩:=h.five
 exact ((((h.set 0 rfl v0).set 1 rfl v1).set 2 rfl v2).set 3 rfl v3).set 4 rfl v4
theorem set_e {bv ov bx ox:Nat} {f:F} {w:World} (RM:Room w bv ov 5) (X:Elt w bx ox f) :
  Calls Tryz.prog 85 #[Ptr bv ov,Ptr bx ox] w (Puts w bv ov f):=by
 obtain ⟨x,hx,rfl,X⟩:=X
 obtain ⟨⟨c0,c1,c2,c3,c4⟩,_⟩:=X.five
 have H:=chg5 (Chg.refl (Rg bv ov 5) w) (.int .u64 x.a) (.int .u64 x.b) (.int .u64 x.c) (.int .u64 x.d) (.int .u64 x.e)
 have K:=has5 RM (.int .u64 x.a) (.int .u64 x.b) (.int .u64 x.c) (.int .u64 x.d) (.int .u64 x.e)
 obtain ⟨u0,u1,u2,u3,u4,V⟩:=RM.five
 obtain ⟨⟨g0,g1,g2,g3,g4⟩,i0,i1,i2,i3,i4⟩:=V.five
 replace H:=hd H
 replace K:=hd K
 clear RM V X
 go_enter Tryz.func85,Tryz.ntmps85
 go_wp2_with fail
 go_ret
 exact ⟨rfl,H.out,x,hx,rfl,K.out⟩
open Go.RowKit
theorem fe_zero:fe ⟨0,0,0,0,0⟩ = 0:=rfl
theorem fe_one:fe ⟨1,0,0,0,0⟩ = 1:=el_one
theorem feZero_e (w:World):Calls Tryz.prog 116 #[] w (Makes w 0):=by
 go_enter Tryz.func116,Tryz.ntmps116
 go_wp2
 go_ret
 exact ⟨w.heap.size,Nat.le_refl _,rfl,bA _ _,⟨0,0,0,0,0⟩,by simp [L5.ok],fe_zero,Has.new w (cells ⟨0,0,0,0,0⟩) 73⟩
theorem feOne_e (w:World):Calls Tryz.prog 118 #[] w (Makes w 1):=by
 go_enter Tryz.func118,Tryz.ntmps118
 go_wp2
 go_ret
 exact ⟨w.heap.size,Nat.le_refl _,rfl,bA _ _,⟨1,0,0,0,0⟩,by simp [L5.ok],fe_one,Has.new w (cells ⟨1,0,0,0,0⟩) 73⟩
theorem sqrtM1_val:fe ⟨1718705420411056,234908883556509,2233514472574048,2117202627021982,765476049583133⟩ = ri:=by
 unfold ri fe;decide +kernel
theorem sqrtM1_e (w:World):Calls Tryz.prog 114 #[] w (Makes w ri):=by
 go_enter Tryz.func114,Tryz.ntmps114
 go_wp2
 go_ret
 exact ⟨w.heap.size,Nat.le_refl _,rfl,bA _ _,⟨1718705420411056,234908883556509,2233514472574048,2117202627021982,765476049583133⟩,by simp [L5.ok],sqrtM1_val,Has.new w (cells ⟨1718705420411056,234908883556509,2233514472574048,2117202627021982,765476049583133⟩) 73⟩
theorem Elt.facts {w:World} {b o:Nat} {f:F} (h:Elt w b o f):∃ l:L5,l.ok∧fe l = f∧(w.cell? ⟨b,o,none⟩ = some (.int .u64 l.a)∧w.cell? ⟨b,o + 1,none⟩ = some (.int .u64 l.b)∧w.cell? ⟨b,o + 2,none⟩ = some (.int .u64 l.c)∧w.cell? ⟨b,o + 3,none⟩ = some (.int .u64 l.d)∧w.cell? ⟨b,o + 4,none⟩ = some (.int .u64 l.e)):=by
 obtain ⟨l,h1,h2,h3⟩:=h
 exact ⟨l,h1,h2,h3.five.1⟩
theorem zero_e {bv ov:Nat} {w:World} (RM:Room w bv ov 5):Calls Tryz.prog 107 #[Ptr bv ov] w (Puts w bv ov 0):=by
 go_enter Tryz.func107,Tryz.ntmps107
 go_wp2_with fail
 refine (feZero_e _).mono ?_
 rintro e W ⟨k,hk,rfl,hb,hz⟩
 replace RM:=RM.later hb
 obtain ⟨l,h1,h2,c0,c1,c2,c3,c4⟩:=hz.facts
 have H:=chg5 (Chg.of_below (R:=Rg bv ov 5) hb) (.int .u64 l.a) (.int .u64 l.b) (.int .u64 l.c) (.int .u64 l.d) (.int .u64 l.e)
 have K:=has5 RM (.int .u64 l.a) (.int .u64 l.b) (.int .u64 l.c) (.int .u64 l.d) (.int .u64 l.e)
 obtain ⟨u0,u1,u2,u3,u4,V⟩:=RM.five
 obtain ⟨⟨g0,g1,g2,g3,g4⟩,i0,i1,i2,i3,i4⟩:=V.five
 replace H:=hd H
 replace K:=hd K
 replace h2:=hd h2
 have c0:W.cell? ⟨k,1,none⟩ = some (.int .u64 l.b):=by simpa using c1
 have c0:W.cell? ⟨k,2,none⟩ = some (.int .u64 l.c):=by simpa using c2
 have c0:W.cell? ⟨k,3,none⟩ = some (.int .u64 l.d):=by simpa using c3
 have c0:W.cell? ⟨k,4,none⟩ = some (.int .u64 l.e):=by simpa using c4
 clear RM V hz hb
 go_wp2_with fail
 go_ret
 exact ⟨rfl,H.out,l,h1,h2.out,K.out⟩
theorem one_e {bv ov:Nat} {w:World} (RM:Room w bv ov 5):Calls Tryz.prog 86 #[Ptr bv ov] w (Puts w bv ov 1):=by
 go_enter Tryz.func86,Tryz.ntmps86
 go_wp2_with fail
 refine (feOne_e _).mono ?_
 rintro e W ⟨k,hk,rfl,hb,hz⟩
 replace RM:=RM.later hb
 obtain ⟨l,h1,h2,c0,c1,c2,c3,c4⟩:=hz.facts
 have H:=chg5 (Chg.of_below (R:=Rg bv ov 5) hb) (.int .u64 l.a) (.int .u64 l.b) (.int .u64 l.c) (.int .u64 l.d) (.int .u64 l.e)
 have K:=has5 RM (.int .u64 l.a) (.int .u64 l.b) (.int .u64 l.c) (.int .u64 l.d) (.int .u64 l.e)
 obtain ⟨u0,u1,u2,u3,u4,V⟩:=RM.five
 obtain ⟨⟨g0,g1,g2,g3,g4⟩,i0,i1,i2,i3,i4⟩:=V.five
 replace H:=hd H
 replace K:=hd K
 replace h2:=hd h2
 have c0:W.cell? ⟨k,1,none⟩ = some (.int .u64 l.b):=by simpa using c1
 have c0:W.cell? ⟨k,2,none⟩ = some (.int .u64 l.c):=by simpa using c2
 have c0:W.cell? ⟨k,3,none⟩ = some (.int .u64 l.d):=by simpa using c3
 have c0:W.cell? ⟨k,4,none⟩ = some (.int .u64 l.e):=by simpa using c4
 clear RM V hz hb
 go_wp2_with fail
 go_ret
 exact ⟨rfl,H.out,l,h1,h2.out,K.out⟩
theorem sep_new {b o k o' n B:Nat} (h:b < B) (hk:B ≤ k):Sep b o k o' n:=fun e=>by omega
theorem neg_e {bv ov bx ox:Nat} {f:F} {w:World} (RM:Room w bv ov 5) (X:Elt w bx ox f) (sx:Sep bv ov bx ox 5) :
  Calls Tryz.prog 83 #[Ptr bv ov,Ptr bx ox] w (Puts w bv ov (-f)):=by
 go_enter Tryz.func83,Tryz.ntmps83
 go_wp2_with fail
 refine (feZero_e _).mono ?_
 rintro e W ⟨k,hk,rfl,hb,hz⟩
 have hs:Sep bv ov k 0 5:=sep_new (RM.lt (by decide)) hk
 replace RM:=RM.later hb
 replace X:=X.keep (Chg.of_below (R:=R0) hb) (fun _ _ h=>h)
 replace hb:=hd hb
 go_wp2_with fail
 refine (sub_e RM hz X hs sx).mono ?_
 rintro e W2 ⟨rfl,hc,hv⟩
 replace hc:=hd ((Chg.of_below hb.out).trans hc)
 clear hz RM X hb
 go_wp2_with fail
 go_ret
 have e0:0 - f = -f:=by grind
 exact ⟨rfl,hc.out,e0 ▸ hv⟩
theorem edOne_e (w:World):Calls Tryz.prog 78 #[] w (Makes w 1):=by
 go_enter Tryz.func78,Tryz.ntmps78
 go_wp2_with fail
 have RM:Room (w.alloc (.cells #[.int .u64 0,.int .u64 0,.int .u64 0,.int .u64 0,.int .u64 0] 73)) w.heap.size 0 5 :=
  (Has.new w [.int .u64 0,.int .u64 0,.int .u64 0,.int .u64 0,.int .u64 0] 73).room rfl
 refine (one_e RM).mono ?_
 rintro e W ⟨rfl,hc,hv⟩
 have hb:Below w.heap.size w W:=((Chg.of_below (R:=R0) (bA w _)).step hc (fun j i hj h=>by obtain ⟨h,_⟩:=h;omega)).r0
 go_wp2_with fail
 go_ret
 exact ⟨w.heap.size,Nat.le_refl _,rfl,hb,hv⟩
end Go.Proofs.Ed
