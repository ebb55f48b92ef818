/- A part of the proof of the tied card of FnTimes: Fb5. -/
import Derived.Test.YtcogfofgmbndjaaGreatDoorProg
import Derived.WalkKit
import Derived.WalkSpells
import Derived.WalkLawsBesides
import Derived.Outline
import Derived.StillTailTactics
import Derived.Test.YtcogfofgmbndjaaGreatDoorTAp
set_option maxRecDepth 100000
set_option maxHeartbeats 40000000
namespace Go.Proofs.Ed
open Go.RowKit
theorem xor_nat (a b:Nat) (ha:a < 18446744073709551616) (hb:b < 18446744073709551616):bits BinOp.xor IntKind.u64 (a:Int) (b:Int) = ((a ^^^ b:Nat):Int):=u64_xor_nat a b ha hb
theorem xor_facts (x y:Int) (hx:0 ≤ x∧x < 18446744073709551616) (hy:0 ≤ y∧y < 18446744073709551616):∃ t,bits BinOp.xor IntKind.u64 x y = t∧(0 ≤ t∧t < 18446744073709551616)∧bits BinOp.xor IntKind.u64 x t = y∧bits BinOp.xor IntKind.u64 y t = x:=by
 obtain ⟨x,rfl⟩:=Int.eq_ofNat_of_zero_le hx.1
 obtain ⟨y,rfl⟩:=Int.eq_ofNat_of_zero_le hy.1
 have hx':x < 2 ^ 64:=by omega
 have hy':y < 2 ^ 64:=by omega
 have ht:x ^^^ y < 2 ^ 64:=Nat.xor_lt_two_pow hx' hy'
 refine ⟨((x ^^^ y:Nat):Int),xor_nat x y (by omega) (by omega),by omega,?_,?_⟩
 ·rw [xor_nat x _ (by omega) (by omega),←Nat.xor_assoc,Nat.xor_self,Nat.zero_xor]
 ·rw [xor_nat y _ (by omega) (by omega),Nat.xor_comm x y,←Nat.xor_assoc,Nat.xor_self,Nat.zero_xor]
theorem xor_none (x:Int) (hx:0 ≤ x∧x < 18446744073709551616):bits BinOp.xor IntKind.u64 x 0 = x:=by
 obtain ⟨x,rfl⟩:=Int.eq_ofNat_of_zero_le hx.1
 have:=xor_nat x 0 (by omega) (by omega)
 rw [show ((0:Int)) = ((0:Nat):Int) by rfl,this,Nat.xor_zero]
theorem Has.off5 {w:World} {b o:Nat} {vs:List Value} (h:Has w b o vs) (hl:vs.length = 5) {b' o':Nat} (v:Value) (hn:b = b'→o + 5 ≤ o'∨o' < o):Has (w.setCell ⟨b',o',none⟩ v) b o vs:=h.off v (fun e=>by rw [hl];exact hn e)
theorem Chg.two {a b a' b' n m:Nat} {w W:World} (h:Chg (Ru (Rg a b n) (Rg a' b' m)) w W) {k o:Nat} (v:Value) (hk:(k = a∧b ≤ o∧o < b + n)∨(k = a'∧b' ≤ o∧o < b' + m)):Chg (Ru (Rg a b n) (Rg a' b' m)) w (W.setCell ⟨k,o,none⟩ v) :=
 h.setCell v (fun _=>hk)
theorem swap1_c (bv ov bx ox:Nat) (x y:L5) (w:World) (hx:x.ok) (hy:y.ok) (hs:bv = bx→ov + 5 ≤ ox∨ox + 5 ≤ ov) (X:Has w bv ov (cells x)) (Y:Has w bx ox (cells y)) :
  Calls Tryz.prog 125 #[Ptr bv ov,Ptr bx ox,.int .i64 1] w fun e w'=>e = .returned (.tuple #[])∧Chg (Ru (Rg bv ov 5) (Rg bx ox 5)) w w'∧Has w' bv ov (cells y)∧Has w' bx ox (cells x):=by
 have C:Chg (Ru (Rg bv ov 5) (Rg bx ox 5)) w w:=.refl _ _
 have wx:=hx.w;have wy:=hy.w
 obtain ⟨x0,x1,x2,x3,x4⟩:=x;obtain ⟨y0,y1,y2,y3,y4⟩:=y
 obtain ⟨wx0,wx1,wx2,wx3,wx4⟩:=wx;obtain ⟨wy0,wy1,wy2,wy3,wy4⟩:=wy
 simp only at wx0 wx1 wx2 wx3 wx4 wy0 wy1 wy2 wy3 wy4
 obtain ⟨t0,e0,bt0,r0,q0⟩:=xor_facts x0 y0 wx0 wy0
 have n0:=and_all t0 bt0
 obtain ⟨t1,e1,bt1,r1,q1⟩:=xor_facts x1 y1 wx1 wy1
 have n1:=and_all t1 bt1
 obtain ⟨t2,e2,bt2,r2,q2⟩:=xor_facts x2 y2 wx2 wy2
 have n2:=and_all t2 bt2
 obtain ⟨t3,e3,bt3,r3,q3⟩:=xor_facts x3 y3 wx3 wy3
 have n3:=and_all t3 bt3
 obtain ⟨t4,e4,bt4,r4,q4⟩:=xor_facts x4 y4 wx4 wy4
 have n4:=and_all t4 bt4
 clear hx hy
 replace hs:=hd hs
 obtain ⟨⟨c0,c1,c2,c3,c4⟩,f0,f1,f2,f3,f4⟩:=X.five
 obtain ⟨⟨d0,d1,d2,d3,d4⟩,g0,g1,g2,g3,g4⟩:=Y.five
 have k0:∀ v,(w.setCell ⟨bv,ov,none⟩ v).cell? ⟨bx,ox,none⟩ = some (.int .u64 y0):=fun v=>((Y.off5 rfl (b':=bv) (o':=ov) v (by intro e;have:=hs.out e.symm;omega)).five).1.1
 replace X:=hd X;replace Y:=hd Y;replace C:=hd C
 go_enter Tryz.func125,Tryz.ntmps125
 go_wp2_with fail
 refine (mask1 _).mono ?_
 rintro e w1 ⟨rfl,h1⟩
 obtain rfl:=h1.symm;clear h1
 go_wp2_with fail
 go_still (by kernel_rfl)
 go_wp2_with fail
 refine wp_gen (fun W=>Chg (Ru (Rg bv ov 5) (Rg bx ox 5)) w W∧Has W bv ov [.int .u64 y0,.int .u64 x1,.int .u64 x2,.int .u64 x3,.int .u64 x4]∧Has W bx ox [.int .u64 x0,.int .u64 y1,.int .u64 y2,.int .u64 y3,.int .u64 y4]) ⟨((C.out.two (k:=bv) (o:=ov) _ (.inl ⟨rfl,by omega,by omega⟩)).two (k:=bx) (o:=ox) _ (.inr ⟨rfl,by omega,by omega⟩)).drew,((X.out.set 0 rfl _).off5 rfl _ (by intro e;have:=hs.out e;omega)).drew,((Y.out.off5 rfl _ (by intro e;have:=hs.out e.symm;omega)).set 0 rfl _).drew⟩ ?_
 clear X Y C c0 c1 c2 c3 c4 f0 f1 f2 f3 f4 d0 d1 d2 d3 d4 g0 g1 g2 g3 g4 k0
 rintro W ⟨C,X,Y⟩
 obtain ⟨⟨c0,c1,c2,c3,c4⟩,f0,f1,f2,f3,f4⟩:=X.five
 obtain ⟨⟨d0,d1,d2,d3,d4⟩,g0,g1,g2,g3,g4⟩:=Y.five
 have k1:∀ v,(W.setCell ⟨bv,ov + 1,none⟩ v).cell? ⟨bx,ox + 1,none⟩ = some (.int .u64 y1):=fun v=>((Y.off5 rfl (b':=bv) (o':=ov + 1) v (by intro e;have:=hs.out e.symm;omega)).five).1.2.1
 replace X:=hd X;replace Y:=hd Y;replace C:=hd C
 go_still (by kernel_rfl)
 go_wp2_with fail
 refine wp_gen (fun W=>Chg (Ru (Rg bv ov 5) (Rg bx ox 5)) w W∧Has W bv ov [.int .u64 y0,.int .u64 y1,.int .u64 x2,.int .u64 x3,.int .u64 x4]∧Has W bx ox [.int .u64 x0,.int .u64 x1,.int .u64 y2,.int .u64 y3,.int .u64 y4]) ⟨((C.out.two (k:=bv) (o:=ov + 1) _ (.inl ⟨rfl,by omega,by omega⟩)).two (k:=bx) (o:=ox + 1) _ (.inr ⟨rfl,by omega,by omega⟩)).drew,((X.out.set 1 rfl _).off5 rfl _ (by intro e;have:=hs.out e;omega)).drew,((Y.out.off5 rfl _ (by intro e;have:=hs.out e.symm;omega)).set 1 rfl _).drew⟩ ?_
 clear X Y C c0 c1 c2 c3 c4 f0 f1 f2 f3 f4 d0 d1 d2 d3 d4 g0 g1 g2 g3 g4 k1
 rintro W ⟨C,X,Y⟩
 obtain ⟨⟨c0,c1,c2,c3,c4⟩,f0,f1,f2,f3,f4⟩:=X.five
 obtain ⟨⟨d0,d1,d2,d3,d4⟩,g0,g1,g2,g3,g4⟩:=Y.five
 have k2:∀ v,(W.setCell ⟨bv,ov + 2,none⟩ v).cell? ⟨bx,ox + 2,none⟩ = some (.int .u64 y2):=fun v=>((Y.off5 rfl (b':=bv) (o':=ov + 2) v (by intro e;have:=hs.out e.symm;omega)).five).1.2.2.1
 replace X:=hd X;replace Y:=hd Y;replace C:=hd C
 go_still (by kernel_rfl)
 go_wp2_with fail
 refine wp_gen (fun W=>Chg (Ru (Rg bv ov 5) (Rg bx ox 5)) w W∧Has W bv ov [.int .u64 y0,.int .u64 y1,.int .u64 y2,.int .u64 x3,.int .u64 x4]∧Has W bx ox [.int .u64 x0,.int .u64 x1,.int .u64 x2,.int .u64 y3,.int .u64 y4]) ⟨((C.out.two (k:=bv) (o:=ov + 2) _ (.inl ⟨rfl,by omega,by omega⟩)).two (k:=bx) (o:=ox + 2) _ (.inr ⟨rfl,by omega,by omega⟩)).drew,((X.out.set 2 rfl _).off5 rfl _ (by intro e;have:=hs.out e;omega)).drew,((Y.out.off5 rfl _ (by intro e;have:=hs.out e.symm;omega)).set 2 rfl _).drew⟩ ?_
 clear X Y C c0 c1 c2 c3 c4 f0 f1 f2 f3 f4 d0 d1 d2 d3 d4 g0 g1 g2 g3 g4 k2
 rintro W ⟨C,X,Y⟩
 obtain ⟨⟨c0,c1,c2,c3,c4⟩,f0,f1,f2,f3,f4⟩:=X.five
 obtain ⟨⟨d0,d1,d2,d3,d4⟩,g0,g1,g2,g3,g4⟩:=Y.five
 have k3:∀ v,(W.setCell ⟨bv,ov + 3,none⟩ v).cell? ⟨bx,ox + 3,none⟩ = some (.int .u64 y3):=fun v=>((Y.off5 rfl (b':=bv) (o':=ov + 3) v (by intro e;have:=hs.out e.symm;omega)).five).1.2.2.2.1
 replace X:=hd X;replace Y:=hd Y;replace C:=hd C
 go_still (by kernel_rfl)
 go_wp2_with fail
 refine wp_gen (fun W=>Chg (Ru (Rg bv ov 5) (Rg bx ox 5)) w W∧Has W bv ov [.int .u64 y0,.int .u64 y1,.int .u64 y2,.int .u64 y3,.int .u64 x4]∧Has W bx ox [.int .u64 x0,.int .u64 x1,.int .u64 x2,.int .u64 x3,.int .u64 y4]) ⟨((C.out.two (k:=bv) (o:=ov + 3) _ (.inl ⟨rfl,by omega,by omega⟩)).two (k:=bx) (o:=ox + 3) _ (.inr ⟨rfl,by omega,by omega⟩)).drew,((X.out.set 3 rfl _).off5 rfl _ (by intro e;have:=hs.out e;omega)).drew,((Y.out.off5 rfl _ (by intro e;have:=hs.out e.symm;omega)).set 3 rfl _).drew⟩ ?_
 clear X Y C c0 c1 c2 c3 c4 f0 f1 f2 f3 f4 d0 d1 d2 d3 d4 g0 g1 g2 g3 g4 k3
 rintro W ⟨C,X,Y⟩
 obtain ⟨⟨c0,c1,c2,c3,c4⟩,f0,f1,f2,f3,f4⟩:=X.five
 obtain ⟨⟨d0,d1,d2,d3,d4⟩,g0,g1,g2,g3,g4⟩:=Y.five
 have k4:∀ v,(W.setCell ⟨bv,ov + 4,none⟩ v).cell? ⟨bx,ox + 4,none⟩ = some (.int .u64 y4):=fun v=>((Y.off5 rfl (b':=bv) (o':=ov + 4) v (by intro e;have:=hs.out e.symm;omega)).five).1.2.2.2.2
 replace X:=hd X;replace Y:=hd Y;replace C:=hd C
 go_still (by kernel_rfl)
 go_wp2_with fail
 go_end0
 refine ⟨rfl,?_⟩
 exact ⟨((C.out.two (k:=bv) (o:=ov + 4) _ (.inl ⟨rfl,by omega,by omega⟩)).two (k:=bx) (o:=ox + 4) _ (.inr ⟨rfl,by omega,by omega⟩)).drew,((X.out.set 4 rfl _).off5 rfl _ (by intro e;have:=hs.out e;omega)).drew,((Y.out.off5 rfl _ (by intro e;have:=hs.out e.symm;omega)).set 4 rfl _).drew⟩
theorem swap0_c (bv ov bx ox:Nat) (x y:L5) (w:World) (hx:x.ok) (hy:y.ok) (hs:bv = bx→ov + 5 ≤ ox∨ox + 5 ≤ ov) (X:Has w bv ov (cells x)) (Y:Has w bx ox (cells y)) :
  Calls Tryz.prog 125 #[Ptr bv ov,Ptr bx ox,.int .i64 0] w fun e w'=>e = .returned (.tuple #[])∧Chg (Ru (Rg bv ov 5) (Rg bx ox 5)) w w'∧Has w' bv ov (cells x)∧Has w' bx ox (cells y):=by
 have C:Chg (Ru (Rg bv ov 5) (Rg bx ox 5)) w w:=.refl _ _
 have wx:=hx.w;have wy:=hy.w
 obtain ⟨x0,x1,x2,x3,x4⟩:=x;obtain ⟨y0,y1,y2,y3,y4⟩:=y
 obtain ⟨wx0,wx1,wx2,wx3,wx4⟩:=wx;obtain ⟨wy0,wy1,wy2,wy3,wy4⟩:=wy
 simp only at wx0 wx1 wx2 wx3 wx4 wy0 wy1 wy2 wy3 wy4
 obtain ⟨t0,e0,bt0,r0,q0⟩:=xor_facts x0 y0 wx0 wy0
 have n0:=and_none t0 bt0
 replace r0:=xor_none x0 wx0
 replace q0:=xor_none y0 wy0
 obtain ⟨t1,e1,bt1,r1,q1⟩:=xor_facts x1 y1 wx1 wy1
 have n1:=and_none t1 bt1
 replace r1:=xor_none x1 wx1
 replace q1:=xor_none y1 wy1
 obtain ⟨t2,e2,bt2,r2,q2⟩:=xor_facts x2 y2 wx2 wy2
 have n2:=and_none t2 bt2
 replace r2:=xor_none x2 wx2
 replace q2:=xor_none y2 wy2
 obtain ⟨t3,e3,bt3,r3,q3⟩:=xor_facts x3 y3 wx3 wy3
 have n3:=and_none t3 bt3
 replace r3:=xor_none x3 wx3
 replace q3:=xor_none y3 wy3
 obtain ⟨t4,e4,bt4,r4,q4⟩:=xor_facts x4 y4 wx4 wy4
 have n4:=and_none t4 bt4
 replace r4:=xor_none x4 wx4
 replace q4:=xor_none y4 wy4
 clear hx hy
 replace hs:=hd hs
 obtain ⟨⟨c0,c1,c2,c3,c4⟩,f0,f1,f2,f3,f4⟩:=X.five
 obtain ⟨⟨d0,d1,d2,d3,d4⟩,g0,g1,g2,g3,g4⟩:=Y.five
 have k0:∀ v,(w.setCell ⟨bv,ov,none⟩ v).cell? ⟨bx,ox,none⟩ = some (.int .u64 y0):=fun v=>((Y.off5 rfl (b':=bv) (o':=ov) v (by intro e;have:=hs.out e.symm;omega)).five).1.1
 replace X:=hd X;replace Y:=hd Y;replace C:=hd C
 go_enter Tryz.func125,Tryz.ntmps125
 go_wp2_with fail
 refine (mask0 _).mono ?_
 rintro e w1 ⟨rfl,h1⟩
 obtain rfl:=h1.symm;clear h1
 go_wp2_with fail
 go_still (by kernel_rfl)
 go_wp2_with fail
 refine wp_gen (fun W=>Chg (Ru (Rg bv ov 5) (Rg bx ox 5)) w W∧Has W bv ov [.int .u64 x0,.int .u64 x1,.int .u64 x2,.int .u64 x3,.int .u64 x4]∧Has W bx ox [.int .u64 y0,.int .u64 y1,.int .u64 y2,.int .u64 y3,.int .u64 y4]) ⟨((C.out.two (k:=bv) (o:=ov) _ (.inl ⟨rfl,by omega,by omega⟩)).two (k:=bx) (o:=ox) _ (.inr ⟨rfl,by omega,by omega⟩)).drew,((X.out.set 0 rfl _).off5 rfl _ (by intro e;have:=hs.out e;omega)).drew,((Y.out.off5 rfl _ (by intro e;have:=hs.out e.symm;omega)).set 0 rfl _).drew⟩ ?_
 clear X Y C c0 c1 c2 c3 c4 f0 f1 f2 f3 f4 d0 d1 d2 d3 d4 g0 g1 g2 g3 g4 k0
 rintro W ⟨C,X,Y⟩
 obtain ⟨⟨c0,c1,c2,c3,c4⟩,f0,f1,f2,f3,f4⟩:=X.five
 obtain ⟨⟨d0,d1,d2,d3,d4⟩,g0,g1,g2,g3,g4⟩:=Y.five
 have k1:∀ v,(W.setCell ⟨bv,ov + 1,none⟩ v).cell? ⟨bx,ox + 1,none⟩ = some (.int .u64 y1):=fun v=>((Y.off5 rfl (b':=bv) (o':=ov + 1) v (by intro e;have:=hs.out e.symm;omega)).five).1.2.1
 replace X:=hd X;replace Y:=hd Y;replace C:=hd C
 go_still (by kernel_rfl)
 go_wp2_with fail
 refine wp_gen (fun W=>Chg (Ru (Rg bv ov 5) (Rg bx ox 5)) w W∧Has W bv ov [.int .u64 x0,.int .u64 x1,.int .u64 x2,.int .u64 x3,.int .u64 x4]∧Has W bx ox [.int .u64 y0,.int .u64 y1,.int .u64 y2,.int .u64 y3,.int .u64 y4]) ⟨((C.out.two (k:=bv) (o:=ov + 1) _ (.inl ⟨rfl,by omega,by omega⟩)).two (k:=bx) (o:=ox + 1) _ (.inr ⟨rfl,by omega,by omega⟩)).drew,((X.out.set 1 rfl _).off5 rfl _ (by intro e;have:=hs.out e;omega)).drew,((Y.out.off5 rfl _ (by intro e;have:=hs.out e.symm;omega)).set 1 rfl _).drew⟩ ?_
 clear X Y C c0 c1 c2 c3 c4 f0 f1 f2 f3 f4 d0 d1 d2 d3 d4 g0 g1 g2 g3 g4 k1
 rintro W ⟨C,X,Y⟩
 obtain ⟨⟨c0,c1,c2,c3,c4⟩,f0,f1,f2,f3,f4⟩:=X.five
 obtain ⟨⟨d0,d1,d2,d3,d4⟩,g0,g1,g2,g3,g4⟩:=Y.five
 have k2:∀ v,(W.setCell ⟨bv,ov + 2,none⟩ v).cell? ⟨bx,ox + 2,none⟩ = some (.int .u64 y2):=fun v=>((Y.off5 rfl (b':=bv) (o':=ov + 2) v (by intro e;have:=hs.out e.symm;omega)).five).1.2.2.1
 replace X:=hd X;replace Y:=hd Y;replace C:=hd C
 go_still (by kernel_rfl)
 go_wp2_with fail
 refine wp_gen (fun W=>Chg (Ru (Rg bv ov 5) (Rg bx ox 5)) w W∧Has W bv ov [.int .u64 x0,.int .u64 x1,.int .u64 x2,.int .u64 x3,.int .u64 x4]∧Has W bx ox [.int .u64 y0,.int .u64 y1,.int .u64 y2,.int .u64 y3,.int .u64 y4]) ⟨((C.out.two (k:=bv) (o:=ov + 2) _ (.inl ⟨rfl,by omega,by omega⟩)).two (k:=bx) (o:=ox + 2) _ (.inr ⟨rfl,by omega,by omega⟩)).drew,((X.out.set 2 rfl _).off5 rfl _ (by intro e;have:=hs.out e;omega)).drew,((Y.out.off5 rfl _ (by intro e;have:=hs.out e.symm;omega)).set 2 rfl _).drew⟩ ?_
 clear X Y C c0 c1 c2 c3 c4 f0 f1 f2 f3 f4 d0 d1 d2 d3 d4 g0 g1 g2 g3 g4 k2
 rintro W ⟨C,X,Y⟩
 obtain ⟨⟨c0,c1,c2,c3,c4⟩,f0,f1,f2,f3,f4⟩:=X.five
 obtain ⟨⟨d0,d1,d2,d3,d4⟩,g0,g1,g2,g3,g4⟩:=Y.five
 have k3:∀ v,(W.setCell ⟨bv,ov + 3,none⟩ v).cell? ⟨bx,ox + 3,none⟩ = some (.int .u64 y3):=fun v=>((Y.off5 rfl (b':=bv) (o':=ov + 3) v (by intro e;have:=hs.out e.symm;omega)).five).1.2.2.2.1
 replace X:=hd X;replace Y:=hd Y;replace C:=hd C
 go_still (by kernel_rfl)
 go_wp2_with fail
 refine wp_gen (fun W=>Chg (Ru (Rg bv ov 5) (Rg bx ox 5)) w W∧Has W bv ov [.int .u64 x0,.int .u64 x1,.int .u64 x2,.int .u64 x3,.int .u64 x4]∧Has W bx ox [.int .u64 y0,.int .u64 y1,.int .u64 y2,.int .u64 y3,.int .u64 y4]) ⟨((C.out.two (k:=bv) (o:=ov + 3) _ (.inl ⟨rfl,by omega,by omega⟩)).two (k:=bx) (o:=ox + 3) _ (.inr ⟨rfl,by omega,by omega⟩)).drew,((X.out.set 3 rfl _).off5 rfl _ (by intro e;have:=hs.out e;omega)).drew,((Y.out.off5 rfl _ (by intro e;have:=hs.out e.symm;omega)).set 3 rfl _).drew⟩ ?_
 clear X Y C c0 c1 c2 c3 c4 f0 f1 f2 f3 f4 d0 d1 d2 d3 d4 g0 g1 g2 g3 g4 k3
 rintro W ⟨C,X,Y⟩
 obtain ⟨⟨c0,c1,c2,c3,c4⟩,f0,f1,f2,f3,f4⟩:=X.five
 obtain ⟨⟨d0,d1,d2,d3,d4⟩,g0,g1,g2,g3,g4⟩:=Y.five
 have k4:∀ v,(W.setCell ⟨bv,ov + 4,none⟩ v).cell? ⟨bx,ox + 4,none⟩ = some (.int .u64 y4):=fun v=>((Y.off5 rfl (b':=bv) (o':=ov + 4) v (by intro e;have:=hs.out e.symm;omega)).five).1.2.2.2.2
 replace X:=hd X;replace Y:=hd Y;replace C:=hd C
 go_still (by kernel_rfl)
 go_wp2_with fail
 go_end0
 refine ⟨rfl,?_⟩
 exact ⟨((C.out.two (k:=bv) (o:=ov + 4) _ (.inl ⟨rfl,by omega,by omega⟩)).two (k:=bx) (o:=ox + 4) _ (.inr ⟨rfl,by omega,by omega⟩)).drew,((X.out.set 4 rfl _).off5 rfl _ (by intro e;have:=hs.out e;omega)).drew,((Y.out.off5 rfl _ (by intro e;have:=hs.out e.symm;omega)).set 4 rfl _).drew⟩
end Go.Proofs.Ed
