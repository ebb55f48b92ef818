/- A part of the proof of the tied card of FnTimes: Fb1, Fb2, Fb3, Fb4. -/
import Derived.Test.YtcogfofgmbndjaaGreatDoorProg
import Derived.WalkKit
import Derived.WalkSpells
import Derived.WalkLawsBesides
import Derived.Outline
import Derived.StillTailTactics
import Derived.Test.YtcogfofgmbndjaaGreatDoorTAo
set_option maxRecDepth 100000
set_option maxHeartbeats 40000000
namespace Go.Proofs.Ed
open Go.RowKit
def by8 (v:Int):List Value:=[.int .u8 (v % 256),.int .u8 (v / 256 % 256),.int .u8 (v / 65536 % 256),.int .u8 (v / 16777216 % 256),.int .u8 (v / 4294967296 % 256),.int .u8 (v / 1099511627776 % 256),.int .u8 (v / 281474976710656 % 256),.int .u8 (v / 72057594037927936 % 256)]
theorem Room.eight {w:World} {k o:Nat} (h:Room w k o 8):∃ u0 u1 u2 u3 u4 u5 u6 u7,Has w k o [u0,u1,u2,u3,u4,u5,u6,u7]:=by
 obtain ⟨⟨u0,h0⟩,f0⟩:=h 0 (by omega)
 obtain ⟨⟨u1,h1⟩,f1⟩:=h 1 (by omega)
 obtain ⟨⟨u2,h2⟩,f2⟩:=h 2 (by omega)
 obtain ⟨⟨u3,h3⟩,f3⟩:=h 3 (by omega)
 obtain ⟨⟨u4,h4⟩,f4⟩:=h 4 (by omega)
 obtain ⟨⟨u5,h5⟩,f5⟩:=h 5 (by omega)
 obtain ⟨⟨u6,h6⟩,f6⟩:=h 6 (by omega)
 obtain ⟨⟨u7,h7⟩,f7⟩:=h 7 (by omega)
 refine ⟨u0,u1,u2,u3,u4,u5,u6,u7,fun i hi=>?_⟩
 match i,hi with
 | 0,_=>exact ⟨h0,f0⟩
 | 1,_=>exact ⟨h1,f1⟩
 | 2,_=>exact ⟨h2,f2⟩
 | 3,_=>exact ⟨h3,f3⟩
 | 4,_=>exact ⟨h4,f4⟩
 | 5,_=>exact ⟨h5,f5⟩
 | 6,_=>exact ⟨h6,f6⟩
 | 7,_=>exact ⟨h7,f7⟩
theorem Has.eight {w:World} {k o:Nat} {u0 u1 u2 u3 u4 u5 u6 u7:Value} (h:Has w k o [u0,u1,u2,u3,u4,u5,u6,u7]) :
  (w.cell? ⟨k,o,none⟩ = some u0∧w.cell? ⟨k,o + 1,none⟩ = some u1∧w.cell? ⟨k,o + 2,none⟩ = some u2∧w.cell? ⟨k,o + 3,none⟩ = some u3∧w.cell? ⟨k,o + 4,none⟩ = some u4∧w.cell? ⟨k,o + 5,none⟩ = some u5∧w.cell? ⟨k,o + 6,none⟩ = some u6∧w.cell? ⟨k,o + 7,none⟩ = some u7) ∧
  (w.frozen? ⟨k,o,none⟩ = false∧w.frozen? ⟨k,o + 1,none⟩ = false∧w.frozen? ⟨k,o + 2,none⟩ = false∧w.frozen? ⟨k,o + 3,none⟩ = false∧w.frozen? ⟨k,o + 4,none⟩ = false∧w.frozen? ⟨k,o + 5,none⟩ = false∧w.frozen? ⟨k,o + 6,none⟩ = false∧w.frozen? ⟨k,o + 7,none⟩ = false):=by
 have h0:=h 0 (by simp)
 have h1:=h 1 (by simp)
 have h2:=h 2 (by simp)
 have h3:=h 3 (by simp)
 have h4:=h 4 (by simp)
 have h5:=h 5 (by simp)
 have h6:=h 6 (by simp)
 have h7:=h 7 (by simp)
 simp only [Nat.add_zero] at h0
 exact ⟨⟨h0.1,h1.1,h2.1,h3.1,h4.1,h5.1,h6.1,h7.1⟩,⟨h0.2,h1.2,h2.2,h3.2,h4.2,h5.2,h6.2,h7.2⟩⟩
theorem putLe_c (k o len cap:Nat) (v:Int) (w:World) (h8:8 ≤ len) (hl:len ≤ 64) (h0:0 ≤ v) (h1:v < 18446744073709551616) (RM:Room w k o 8) :
  Calls Tryz.prog 142 #[.slice (some ⟨k,o,none⟩) len cap,.int .u64 v] w fun e w'=>e = .returned (.tuple #[])∧Chg (Rg k o 8) w w'∧Has w' k o (by8 v):=by
 obtain ⟨u0,u1,u2,u3,u4,u5,u6,u7,V⟩:=RM.eight
 have C:Chg (Rg k o 8) w w:=Chg.refl _ _
 obtain ⟨⟨c0,c1,c2,c3,c4,c5,c6,c7⟩,f0,f1,f2,f3,f4,f5,f6,f7⟩:=V.eight
 replace V:=hd V
 replace C:=hd C
 clear RM
 go_enter Tryz.func142,Tryz.ntmps142
 go_wp2_with fail
 refine wp_loop_rounds 9 ?_
 rw [rounds_succ]
 go_wp2_with fail
 refine rounds_gen (fun W=>Chg (Rg k o 8) w W∧Has W k o [.int .u8 (v % 256),u1,u2,u3,u4,u5,u6,u7]) ⟨C.out.setCell _ (fun _=>⟨rfl,by omega,by omega⟩),V.out.set 0 rfl _⟩ ?_
 clear V C c0 c1 c2 c3 c4 c5 c6 c7 f0 f1 f2 f3 f4 f5 f6 f7
 rintro W ⟨C,V⟩
 obtain ⟨⟨c0,c1,c2,c3,c4,c5,c6,c7⟩,f0,f1,f2,f3,f4,f5,f6,f7⟩:=V.eight
 replace V:=hd V
 replace C:=hd C
 rw [rounds_succ]
 go_wp2_with fail
 refine rounds_gen (fun W=>Chg (Rg k o 8) w W∧Has W k o [.int .u8 (v % 256),.int .u8 (v / 256 % 256),u2,u3,u4,u5,u6,u7]) ⟨C.out.setCell _ (fun _=>⟨rfl,by omega,by omega⟩),V.out.set 1 rfl _⟩ ?_
 clear V C c0 c1 c2 c3 c4 c5 c6 c7 f0 f1 f2 f3 f4 f5 f6 f7
 rintro W ⟨C,V⟩
 obtain ⟨⟨c0,c1,c2,c3,c4,c5,c6,c7⟩,f0,f1,f2,f3,f4,f5,f6,f7⟩:=V.eight
 replace V:=hd V
 replace C:=hd C
 rw [rounds_succ]
 go_wp2_with fail
 refine rounds_gen (fun W=>Chg (Rg k o 8) w W∧Has W k o [.int .u8 (v % 256),.int .u8 (v / 256 % 256),.int .u8 (v / 65536 % 256),u3,u4,u5,u6,u7]) ⟨C.out.setCell _ (fun _=>⟨rfl,by omega,by omega⟩),V.out.set 2 rfl _⟩ ?_
 clear V C c0 c1 c2 c3 c4 c5 c6 c7 f0 f1 f2 f3 f4 f5 f6 f7
 rintro W ⟨C,V⟩
 obtain ⟨⟨c0,c1,c2,c3,c4,c5,c6,c7⟩,f0,f1,f2,f3,f4,f5,f6,f7⟩:=V.eight
 replace V:=hd V
 replace C:=hd C
 rw [rounds_succ]
 go_wp2_with fail
 refine rounds_gen (fun W=>Chg (Rg k o 8) w W∧Has W k o [.int .u8 (v % 256),.int .u8 (v / 256 % 256),.int .u8 (v / 65536 % 256),.int .u8 (v / 16777216 % 256),u4,u5,u6,u7]) ⟨C.out.setCell _ (fun _=>⟨rfl,by omega,by omega⟩),V.out.set 3 rfl _⟩ ?_
 clear V C c0 c1 c2 c3 c4 c5 c6 c7 f0 f1 f2 f3 f4 f5 f6 f7
 rintro W ⟨C,V⟩
 obtain ⟨⟨c0,c1,c2,c3,c4,c5,c6,c7⟩,f0,f1,f2,f3,f4,f5,f6,f7⟩:=V.eight
 replace V:=hd V
 replace C:=hd C
 rw [rounds_succ]
 go_wp2_with fail
 refine rounds_gen (fun W=>Chg (Rg k o 8) w W∧Has W k o [.int .u8 (v % 256),.int .u8 (v / 256 % 256),.int .u8 (v / 65536 % 256),.int .u8 (v / 16777216 % 256),.int .u8 (v / 4294967296 % 256),u5,u6,u7]) ⟨C.out.setCell _ (fun _=>⟨rfl,by omega,by omega⟩),V.out.set 4 rfl _⟩ ?_
 clear V C c0 c1 c2 c3 c4 c5 c6 c7 f0 f1 f2 f3 f4 f5 f6 f7
 rintro W ⟨C,V⟩
 obtain ⟨⟨c0,c1,c2,c3,c4,c5,c6,c7⟩,f0,f1,f2,f3,f4,f5,f6,f7⟩:=V.eight
 replace V:=hd V
 replace C:=hd C
 rw [rounds_succ]
 go_wp2_with fail
 refine rounds_gen (fun W=>Chg (Rg k o 8) w W∧Has W k o [.int .u8 (v % 256),.int .u8 (v / 256 % 256),.int .u8 (v / 65536 % 256),.int .u8 (v / 16777216 % 256),.int .u8 (v / 4294967296 % 256),.int .u8 (v / 1099511627776 % 256),u6,u7]) ⟨C.out.setCell _ (fun _=>⟨rfl,by omega,by omega⟩),V.out.set 5 rfl _⟩ ?_
 clear V C c0 c1 c2 c3 c4 c5 c6 c7 f0 f1 f2 f3 f4 f5 f6 f7
 rintro W ⟨C,V⟩
 obtain ⟨⟨c0,c1,c2,c3,c4,c5,c6,c7⟩,f0,f1,f2,f3,f4,f5,f6,f7⟩:=V.eight
 replace V:=hd V
 replace C:=hd C
 rw [rounds_succ]
 go_wp2_with fail
 refine rounds_gen (fun W=>Chg (Rg k o 8) w W∧Has W k o [.int .u8 (v % 256),.int .u8 (v / 256 % 256),.int .u8 (v / 65536 % 256),.int .u8 (v / 16777216 % 256),.int .u8 (v / 4294967296 % 256),.int .u8 (v / 1099511627776 % 256),.int .u8 (v / 281474976710656 % 256),u7]) ⟨C.out.setCell _ (fun _=>⟨rfl,by omega,by omega⟩),V.out.set 6 rfl _⟩ ?_
 clear V C c0 c1 c2 c3 c4 c5 c6 c7 f0 f1 f2 f3 f4 f5 f6 f7
 rintro W ⟨C,V⟩
 obtain ⟨⟨c0,c1,c2,c3,c4,c5,c6,c7⟩,f0,f1,f2,f3,f4,f5,f6,f7⟩:=V.eight
 replace V:=hd V
 replace C:=hd C
 rw [rounds_succ]
 go_wp2_with fail
 refine rounds_gen (fun W=>Chg (Rg k o 8) w W∧Has W k o [.int .u8 (v % 256),.int .u8 (v / 256 % 256),.int .u8 (v / 65536 % 256),.int .u8 (v / 16777216 % 256),.int .u8 (v / 4294967296 % 256),.int .u8 (v / 1099511627776 % 256),.int .u8 (v / 281474976710656 % 256),.int .u8 (v / 72057594037927936)]) ⟨C.out.setCell _ (fun _=>⟨rfl,by omega,by omega⟩),V.out.set 7 rfl _⟩ ?_
 clear V C c0 c1 c2 c3 c4 c5 c6 c7 f0 f1 f2 f3 f4 f5 f6 f7
 rintro W ⟨C,V⟩
 obtain ⟨⟨c0,c1,c2,c3,c4,c5,c6,c7⟩,f0,f1,f2,f3,f4,f5,f6,f7⟩:=V.eight
 replace V:=hd V
 replace C:=hd C
 rw [rounds_succ]
 go_wp2_with fail
 go_end0
 refine ⟨rfl,C.out,?_⟩
 have e:v / 72057594037927936 % 256 = v / 72057594037927936:=by omega
 have H:=V.out
 unfold by8
 rw [e]
 exact H
open Go.RowKit
theorem or_shn (k:Nat) (hk:k ≤ 64) (x l:Nat) (hl:l < 2 ^ k):bits BinOp.or IntKind.u64 ((x * 2 ^ k % 2 ^ 64:Nat):Int) (l:Int) = ((x * 2 ^ k % 2 ^ 64 + l:Nat):Int):=by
 have e:x * 2 ^ k % 2 ^ 64 = (x % 2 ^ (64 - k)) * 2 ^ k:=by
  rw [show (2:Nat) ^ 64 = 2 ^ (64 - k) * 2 ^ k by rw [←Nat.pow_add];congr 1;omega,Nat.mul_mod_mul_right]
 have hlt:x * 2 ^ k % 2 ^ 64 < 2 ^ 64:=Nat.mod_lt _ (by decide)
 have hl2:l < 2 ^ 64:=Nat.lt_of_lt_of_le hl (Nat.pow_le_pow_right (by decide) hk)
 rw [u64_or_nat _ l (by omega) (by omega)]
 congr 1
 rw [e]
 have:=Nat.shiftLeft_add_eq_or_of_lt hl (x % 2 ^ (64 - k))
 rw [Nat.shiftLeft_eq] at this
 exact this.symm
theorem or_sh (k:Nat) (hk:k ≤ 64) (s x l:Int) (hs:s = ((2 ^ k:Nat):Int)) (hx:0 ≤ x) (h0:0 ≤ l) (hl:l < s):bits BinOp.or IntKind.u64 (IntKind.u64.wrap (x * s)) l = x * s % 18446744073709551616 + l:=by
 rw [wrap_u64]
 subst hs
 obtain ⟨x,rfl⟩:=Int.eq_ofNat_of_zero_le hx
 obtain ⟨l,rfl⟩:=Int.eq_ofNat_of_zero_le h0
 have:=or_shn k hk x l (by omega)
 rw [show ((x:Int) * ((2 ^ k:Nat):Int) % 18446744073709551616) = ((x * 2 ^ k % 2 ^ 64:Nat):Int) by rw [Int.natCast_emod,Int.natCast_mul]<;>rfl,this,Int.natCast_add,Int.natCast_emod,Int.natCast_mul]<;>rfl
def by32 (n:Int):List Value:=by8 (n % 18446744073709551616) ++ by8 (n / 18446744073709551616 % 18446744073709551616) ++ by8 (n / 340282366920938463463374607431768211456 % 18446744073709551616) ++ by8 (n / 6277101735386680763835789423207666416102355444464034512896 % 18446744073709551616)
theorem by8_length (v:Int):(by8 v).length = 8:=rfl
theorem by32_length (v:Int):(by32 v).length = 32:=rfl
theorem bytes_c (b o k:Nat) (f:F) (w:World) (X:Elt w b o f) (RM:Room w k 0 32) :
  Calls Tryz.prog 135 #[Ptr b o,Ptr k 0] w fun e w'=>e = .returned (.slice (some ⟨k,0,none⟩) 32 32)∧Chg (Rg k 0 32) w w'∧Has w' k 0 (by32 f.val):=by
 obtain ⟨l,hl,hf,X⟩:=X
 obtain ⟨⟨x0,x1,x2,x3,x4⟩,_⟩:=X.five
 have hn:0 ≤ (f.val:Int)∧(f.val:Int) < 57896044618658097711785492504343953926634992332820282019728792003956564819949:=⟨by omega,by have:=f.isLt;unfold P at this;omega⟩
 go_enter Tryz.func135,Tryz.ntmps135
 go_wp2_with fail
 have hk:=RM.lt (by decide)
 refine cG (fun W=>Chg R0 w W∧Elt W w.heap.size 0 f∧Room W k 0 32) ⟨Chg.of_below (bA _ _),⟨l,hl,hf,Has.new w (cells l) 73⟩,RM.later (bA _ _)⟩ ?_
 clear X x0 x1 x2 x3 x4 RM hf hl
 rintro W ⟨C,X,RM⟩
 generalize hz:w.heap.size = n0 at *
 refine (reduce_e X).mono ?_
 rintro e W1 ⟨rfl,hc,hv⟩
 replace C:=C.step (R':=Rg n0 0 5) hc (fun _ _ hj h=>absurd h.1 (by omega))
 replace RM:=hc.room RM
 clear hc X W
 generalize hN:(f.val:Int) = N at *
 unfold limbs at hv
 obtain ⟨a,ha⟩:∃ a,N % 2251799813685248 = a:=⟨_,rfl⟩
 obtain ⟨b1,hb⟩:∃ a,N / 2251799813685248 % 2251799813685248 = a:=⟨_,rfl⟩
 obtain ⟨c,hcc⟩:∃ a,N / 5070602400912917605986812821504 % 2251799813685248 = a:=⟨_,rfl⟩
 obtain ⟨d,hd1⟩:∃ a,N / 11417981541647679048466287755595961091061972992 % 2251799813685248 = a:=⟨_,rfl⟩
 obtain ⟨g,he⟩:∃ a,N / 25711008708143844408671393477458601640355247900524685364822016 = a:=⟨_,rfl⟩
 rw [ha,hb,hcc,hd1,he] at hv
 have q1:0 ≤ a∧a < 2251799813685248:=by omega
 have q2:0 ≤ b1∧b1 < 2251799813685248:=by omega
 have q3:0 ≤ c∧c < 2251799813685248:=by omega
 have q4:0 ≤ d∧d < 2251799813685248:=by omega
 have q5:0 ≤ g∧g < 2251799813685248:=by omega
 have o0:=or_sh 51 (by decide) 2251799813685248 b1 a rfl q2.1 q1.1 q1.2
 have o1:=or_sh 38 (by decide) 274877906944 c (b1 / 8192) rfl q3.1 (by omega) (by omega)
 have o2:=or_sh 25 (by decide) 33554432 d (c / 67108864) rfl q4.1 (by omega) (by omega)
 have o3:=or_sh 12 (by decide) 4096 g (d / 549755813888) rfl q5.1 (by omega) (by omega)
 have e0:b1 * 2251799813685248 % 18446744073709551616 + a = N % 18446744073709551616:=by omega
 have e1:c * 274877906944 % 18446744073709551616 + b1 / 8192 = N / 18446744073709551616 % 18446744073709551616:=by omega
 have e2:d * 33554432 % 18446744073709551616 + c / 67108864 = N / 340282366920938463463374607431768211456 % 18446744073709551616:=by omega
 have e3:g * 4096 % 18446744073709551616 + d / 549755813888 = N / 6277101735386680763835789423207666416102355444464034512896 % 18446744073709551616:=by omega
 rw [e0] at o0;rw [e1] at o1;rw [e2] at o2;rw [e3] at o3
 clear e0 e1 e2 e3 ha hb hcc hd1 he hn q1 q2 q3 q4 q5
 obtain ⟨⟨x0,x1,x2,x3,x4⟩,_⟩:=hv.five
 simp only [Nat.zero_add] at x1 x2 x3 x4
 replace hz:=hd hz
 replace hN:=hd hN
 replace C:=hd C
 replace RM:=hd RM
 replace hv:=hd hv
 go_wp2_with fail
 clear o0 o1 o2 o3 x0 x1 x2 x3 x4 hv
 replace C:=C.out.mono (R':=Rg k 0 32) (fun _ _ _ h=>h.elim)
 replace RM:=RM.out
 refine (putLe_c k 0 32 32 (N % 18446744073709551616) _ (by decide) (by decide) (by omega) (by omega) (RM.part (by omega) (by omega))).mono ?_
 rintro e W2 ⟨rfl,hc,V0⟩
 replace C:=C.trans (hc.mono (R':=Rg k 0 32) (fun _ _ _ h=>⟨h.1,by have:=h.2.1;omega,by have:=h.2.2;omega⟩))
 replace RM:=hc.room RM
 replace V0:=hd V0
 clear hc
 replace C:=hd C
 replace RM:=hd RM
 go_wp2_with fail
 replace C:=C.out
 replace RM:=RM.out
 refine (putLe_c k 8 24 24 (N / 18446744073709551616 % 18446744073709551616) _ (by decide) (by decide) (by omega) (by omega) (RM.part (by omega) (by omega))).mono ?_
 rintro e W3 ⟨rfl,hc,V1⟩
 replace C:=C.trans (hc.mono (R':=Rg k 0 32) (fun _ _ _ h=>⟨h.1,by have:=h.2.1;omega,by have:=h.2.2;omega⟩))
 replace RM:=hc.room RM
 replace V0:=hd (V0.out.keep hc (fun i hi h=>by have:=h.2.1;simp only [by8_length] at hi;omega))
 replace V1:=hd V1
 clear hc
 replace C:=hd C
 replace RM:=hd RM
 go_wp2_with fail
 replace C:=C.out
 replace RM:=RM.out
 refine (putLe_c k 16 16 16 (N / 340282366920938463463374607431768211456 % 18446744073709551616) _ (by decide) (by decide) (by omega) (by omega) (RM.part (by omega) (by omega))).mono ?_
 rintro e W4 ⟨rfl,hc,V2⟩
 replace C:=C.trans (hc.mono (R':=Rg k 0 32) (fun _ _ _ h=>⟨h.1,by have:=h.2.1;omega,by have:=h.2.2;omega⟩))
 replace RM:=hc.room RM
 replace V0:=hd (V0.out.keep hc (fun i hi h=>by have:=h.2.1;simp only [by8_length] at hi;omega))
 replace V1:=hd (V1.out.keep hc (fun i hi h=>by have:=h.2.1;simp only [by8_length] at hi;omega))
 replace V2:=hd V2
 clear hc
 replace C:=hd C
 replace RM:=hd RM
 go_wp2_with fail
 replace C:=C.out
 replace RM:=RM.out
 refine (putLe_c k 24 8 8 (N / 6277101735386680763835789423207666416102355444464034512896 % 18446744073709551616) _ (by decide) (by decide) (by omega) (by omega) (RM.part (by omega) (by omega))).mono ?_
 rintro e W5 ⟨rfl,hc,V3⟩
 replace C:=C.trans (hc.mono (R':=Rg k 0 32) (fun _ _ _ h=>⟨h.1,by have:=h.2.1;omega,by have:=h.2.2;omega⟩))
 replace RM:=hc.room RM
 replace V0:=hd (V0.out.keep hc (fun i hi h=>by have:=h.2.1;simp only [by8_length] at hi;omega))
 replace V1:=hd (V1.out.keep hc (fun i hi h=>by have:=h.2.1;simp only [by8_length] at hi;omega))
 replace V2:=hd (V2.out.keep hc (fun i hi h=>by have:=h.2.1;simp only [by8_length] at hi;omega))
 replace V3:=hd V3
 clear hc
 replace C:=hd C
 replace RM:=hd RM
 go_wp2_with fail
 replace C:=C.out
 replace RM:=RM.out
 go_ret
 refine ⟨rfl,C,?_⟩
 rw [hN.out]
 exact ((V0.out.append V1.out).append V2.out).append V3.out
theorem bytes_e {b o:Nat} {f:F} {w:World} (X:Elt w b o f) :
  Calls Tryz.prog 126 #[Ptr b o] w fun e w'=>∃ k,w.heap.size ≤ k∧e = .returned (.slice (some ⟨k,0,none⟩) 32 32)∧Below w.heap.size w w'∧Has w' k 0 (by32 f.val):=by
 go_enter Tryz.func126,Tryz.ntmps126
 go_wp2_with fail
 refine cG (fun W=>Below w.heap.size w W∧Elt W b o f∧Room W w.heap.size 0 32) ⟨bA _ _,X.keep (Chg.of_below (R:=R0) (bA _ _)) (fun _ _ h=>h),(Has.new w (List.replicate 32 (.int .u8 0)) _).room rfl⟩ ?_
 clear X
 rintro W ⟨hb,X,RM⟩
 refine (bytes_c b o _ f W X RM).mono ?_
 rintro e W1 ⟨rfl,hc,hv⟩
 replace hb:=hd ((Chg.of_below (R:=R0) hb).loc hc (Nat.le_refl _)).r0
 replace hv:=hd hv
 clear hc X RM
 go_wp2_with fail
 go_ret
 exact ⟨_,Nat.le_refl _,rfl,hb.out,hv.out⟩
def odd (f:F):Int:=(f.val:Int) % 2
theorem and1_u8 (x:Int) (h0:0 ≤ x) (h1:x < 256):bits BinOp.and IntKind.u8 x 1 = x % 2:=by
 rw [u8_and x 1 h0 h1 (by omega) (by omega)]
 have:x.toNat &&& 1 = x.toNat % 2:=Nat.and_one_is_mod _
 rw [show (1:Int).toNat = 1 by rfl,this];omega
theorem isNeg_e {b o:Nat} {f:F} {w:World} (X:Elt w b o f) :
  Calls Tryz.prog 98 #[Ptr b o] w fun e w'=>e = .returned (.int .i64 (odd f))∧Below w.heap.size w w':=by
 go_enter Tryz.func98,Tryz.ntmps98
 go_wp2_with fail
 refine (bytes_e X).mono ?_
 rintro e W ⟨k,hk,rfl,hb,hv⟩
 have c0:W.cell? ⟨k,0,none⟩ = some (.int .u8 ((f.val:Int) % 18446744073709551616 % 256)):=(hv 0 (by simp [by32_length])).1
 have a0:=and1_u8 ((f.val:Int) % 256) (by omega) (by omega)
 replace hb:=hd hb
 have e1:(f.val:Int) % 256 % 2 = odd f:=by unfold odd;omega
 rw [e1] at a0
 have o1:0 ≤ odd f∧odd f ≤ 1:=by unfold odd;omega
 clear e1 hv X
 go_wp2_with fail
 go_ret
 exact ⟨rfl,hb.out⟩
def absF (f:F):F:=if odd f = 1 then -f else f
theorem abs_e {bv ov bx ox:Nat} {f:F} {w:World} (RM:Room w bv ov 5) (X:Elt w bx ox f) (sx:Sep bv ov bx ox 5) :
  Calls Tryz.prog 115 #[Ptr bv ov,Ptr bx ox] w (Puts w bv ov (absF f)):=by
 have lv:=RM.lt (by decide)
 have lx:=X.lt
 go_enter Tryz.func115,Tryz.ntmps115
 go_wp2_with fail
 refine cG (fun W=>Chg R0 w W∧Elt W bx ox f∧Room W w.heap.size 0 5∧Room W bv ov 5) ⟨Chg.of_below (bA _ _),X.keep (Chg.of_below (R:=R0) (bA _ _)) (fun _ _ h=>h),(Has.new w z5 _).room rfl,RM.later (bA _ _)⟩ ?_
 clear X RM
 rintro W ⟨C,X,RK,RM⟩
 obtain ⟨n,ln⟩:∃ n,w.heap.size = n:=⟨_,rfl⟩
 rw [ln] at RK ⊢
 replace ln:w.heap.size ≤ n∧n ≤ w.heap.size:=by omega
 refine (neg_e RK X (fun e=>by omega)).mono ?_
 rintro e W1 ⟨rfl,hc,hv⟩
 replace X:=X.blk hc (by omega)
 replace RM:=hc.room RM
 replace C:=C.loc hc ln.1
 clear hc RK
 go_wp2_with fail
 refine (isNeg_e X).mono ?_
 rintro e W2 ⟨rfl,hb⟩
 replace C:=C.trans (Chg.of_below hb)
 replace X:=X.keep (Chg.of_below (R:=R0) hb) (fun _ _ h=>h)
 replace hv:=hv.keep (Chg.of_below (R:=R0) hb) (fun _ _ h=>h)
 replace RM:=RM.later hb
 clear hb
 have ho:odd f = 1∨odd f = 0:=by unfold odd;omega
 go_wp2_with fail
 refine (sel_e ho RM hv X (fun e=>by omega) sx).mono ?_
 rintro e W3 ⟨rfl,hc,hs⟩
 replace C:=hd ((C.mono (R':=Rg bv ov 5) (fun _ _ _ h=>h.elim)).trans hc)
 replace hs:=hd hs
 clear hc X RM hv
 go_wp2_with fail
 go_ret
 exact ⟨rfl,C.out,hs.out⟩
def sameB (xs ys:List Int):Int:=if xs = ys then 1 else 0
theorem strOfNums_eq {xs ys:List Int} (hx:∀ x ∈ xs,0 ≤ x∧x < 256) (hy:∀ x ∈ ys,0 ≤ x∧x < 256) (h1:(strOfNums xs).data.toList = (strOfNums ys).data.toList):xs = ys:=by
 rw [strOfNums_data,strOfNums_data] at h1
 induction xs generalizing ys with
 | nil=>cases ys with
  | nil=>rfl
  | cons y ys=>simp at h1
 | cons x xs ih=>cases ys with
  | nil=>simp at h1
  | cons y ys =>
   simp only [List.map_cons,List.cons.injEq] at h1
   have a:=hx x (by simp)
   have b:=hy y (by simp)
   have e:(UInt8.ofNat x.toNat).toNat = (UInt8.ofNat y.toNat).toNat:=by rw [h1.1]
   simp only [UInt8.toNat_ofNat'] at e
   have:x = y:=by omega
   rw [this,ih (fun z hz=>hx z (by simp [hz])) (fun z hz=>hy z (by simp [hz])) h1.2]
theorem cmp_c (k j o p m n l r:Nat) (xs ys:List Int) (w:World) (X:Has w k o (xs.map (.int .u8))) (Y:Has w j p (ys.map (.int .u8))) (hm:xs.length = m) (hn:ys.length = n)
  (bx:∀ x ∈ xs,0 ≤ x∧x < 256) (by':∀ x ∈ ys,0 ≤ x∧x < 256) :
  Calls Tryz.prog 132 #[.slice (some ⟨k,o,none⟩) m l,.slice (some ⟨j,p,none⟩) n r] w fun e w'=>e = .returned (.int .i64 (sameB xs ys))∧w' = w:=by
 have cx:=run_convert_bytes_arg (P:=Tryz.prog) (w:=w) 22 5 (by kernel_rfl) (by kernel_rfl) k o m l xs hm (fun i hi=>by
  rw [(X i (by simp;omega)).1,List.getElem?_map,List.getElem?_eq_getElem (by omega)]
  simp [List.getD_eq_getElem?_getD,List.getElem?_eq_getElem (show i < xs.length by omega)]) 9 (by kernel_rfl)
 have cy:=run_convert_bytes_arg (P:=Tryz.prog) (w:=w) 22 5 (by kernel_rfl) (by kernel_rfl) j p n r ys hn (fun i hi=>by
  rw [(Y i (by simp;omega)).1,List.getElem?_map,List.getElem?_eq_getElem (by omega)]
  simp [List.getD_eq_getElem?_getD,List.getElem?_eq_getElem (show i < ys.length by omega)]) 9 (by kernel_rfl)
 clear X Y
 by_cases h:xs = ys
 ·have hs:((strOfNums xs).toList == (strOfNums ys).toList) = true:=by rw [h,beq_self_eq_true]
  have e1:Hd (sameB xs ys = 1):=hd (by unfold sameB;rw [if_pos h])
  clear h
  go_enter Tryz.func132,Tryz.ntmps132
  go_wp2
  go_ret
  exact ⟨by rw [e1.out];rfl,rfl⟩
 ·have hs:((strOfNums xs).toList == (strOfNums ys).toList) = false:=by
   rw [beq_eq_false_iff_ne];exact fun e=>h (strOfNums_eq bx by' (by rw [ByteArray.toList_eq,ByteArray.toList_eq] at e;exact e))
  have e1:Hd (sameB xs ys = 0):=hd (by unfold sameB;rw [if_neg h])
  clear h
  go_enter Tryz.func132,Tryz.ntmps132
  go_wp2
  go_ret
  exact ⟨by rw [e1.out];rfl,rfl⟩
def nb8 (v:Int):List Int:=[v % 256,v / 256 % 256,v / 65536 % 256,v / 16777216 % 256,v / 4294967296 % 256,v / 1099511627776 % 256,v / 281474976710656 % 256,v / 72057594037927936 % 256]
def nb32 (n:Int):List Int:=nb8 (n % 18446744073709551616) ++ nb8 (n / 18446744073709551616 % 18446744073709551616) ++ nb8 (n / 340282366920938463463374607431768211456 % 18446744073709551616) ++ nb8 (n / 6277101735386680763835789423207666416102355444464034512896 % 18446744073709551616)
theorem by32_map (n:Int):by32 n = (nb32 n).map (.int .u8):=by simp [by32,by8,nb32,nb8]
theorem nb8_bd (v:Int):∀ x ∈ nb8 v,0 ≤ x∧x < 256:=by
 intro x hx
 simp only [nb8,List.mem_cons,List.not_mem_nil,or_false] at hx
 rcases hx with rfl | rfl | rfl | rfl | rfl | rfl | rfl | rfl<;>omega
theorem nb32_bd (n:Int):∀ x ∈ nb32 n,0 ≤ x∧x < 256:=by
 intro x hx
 simp only [nb32,List.mem_append] at hx
 rcases hx with ((hx | hx) | hx) | hx<;>exact nb8_bd _ x hx
theorem nb8_inj {v u:Int} (hv:0 ≤ v∧v < 18446744073709551616) (hu:0 ≤ u∧u < 18446744073709551616) (h:nb8 v = nb8 u):v = u:=by
 simp only [nb8,List.cons.injEq,and_true] at h
 omega
theorem nb32_inj {n m:Int} (hn:0 ≤ n∧n < 115792089237316195423570985008687907853269984665640564039457584007913129639936) (hm:0 ≤ m∧m < 115792089237316195423570985008687907853269984665640564039457584007913129639936) (h:nb32 n = nb32 m):n = m:=by
 unfold nb32 at h
 obtain ⟨h,h4⟩:=List.append_inj' h rfl
 obtain ⟨h,h3⟩:=List.append_inj' h rfl
 obtain ⟨h1,h2⟩:=List.append_inj' h rfl
 have e1:=nb8_inj (by omega) (by omega) h1
 have e2:=nb8_inj (by omega) (by omega) h2
 have e3:=nb8_inj (by omega) (by omega) h3
 have e4:=nb8_inj (by omega) (by omega) h4
 omega
theorem F.val_bd (f:F):0 ≤ (f.val:Int)∧(f.val:Int) < 57896044618658097711785492504343953926634992332820282019728792003956564819949:=⟨by omega,by have:=f.isLt;unfold P at this;omega⟩
def eqF (f g:F):Int:=if f = g then 1 else 0
theorem sameB_F (f g:F):sameB (nb32 g.val) (nb32 f.val) = eqF f g:=by
 unfold sameB eqF
 by_cases h:f = g
 ·rw [h,if_pos rfl,if_pos rfl]
 ·rw [if_neg h,if_neg]
  intro e
  apply h
  have a:=F.val_bd f
  have b:=F.val_bd g
  exact F.ext' (nb32_inj (by omega) (by omega) e).symm
theorem equal_e {bv ov bx ox:Nat} {f g:F} {w:World} (V:Elt w bv ov f) (X:Elt w bx ox g) :
  Calls Tryz.prog 113 #[Ptr bv ov,Ptr bx ox] w fun e w'=>e = .returned (.int .i64 (eqF f g))∧Below w.heap.size w w':=by
 go_enter Tryz.func113,Tryz.ntmps113
 go_wp2_with fail
 refine (bytes_e X).mono ?_
 rintro e W ⟨k,hk,rfl,hb,hx⟩
 replace V:=V.keep (Chg.of_below (R:=R0) hb) (fun _ _ h=>h)
 replace hb:=hd hb
 go_wp2_with fail
 refine (bytes_e V).mono ?_
 rintro e W2 ⟨j,hj,rfl,hb2,hy⟩
 replace hx:=hx.later hb2
 replace hb:=hd (Below.then hb.out hb2)
 rw [by32_map] at hx hy
 clear hb2 V X
 go_wp2_with fail
 refine (cmp_c k j 0 0 32 32 32 32 _ _ W2 hx hy rfl rfl (nb32_bd _) (nb32_bd _)).mono ?_
 rintro e W3 ⟨rfl,h1⟩
 obtain rfl:=h1.symm
 rw [sameB_F]
 clear hx hy
 go_wp2_with fail
 go_ret
 exact ⟨rfl,hb.out⟩
open Go.RowKit
theorem or_256 (x l:Int) (hx:0 ≤ x) (hx':x < 72057594037927936) (h0:0 ≤ l) (hl:l < 256):bits BinOp.or IntKind.u64 (x * 256) l = x * 256 + l:=by
 have:=or_sh 8 (by decide) 256 x l rfl hx h0 hl
 rw [wrap_u64] at this
 rw [show x * 256 % 18446744073709551616 = x * 256 by omega] at this
 exact this
def num8 (b0 b1 b2 b3 b4 b5 b6 b7:Int):Int:=((((((b7 * 256 + b6) * 256 + b5) * 256 + b4) * 256 + b3) * 256 + b2) * 256 + b1) * 256 + b0
def Byte (x:Int):Prop:=0 ≤ x∧x < 256
theorem le64_c (k o len cap:Nat) (b0 b1 b2 b3 b4 b5 b6 b7:Int) (w:World) (h8:8 ≤ len) (hl:len ≤ 64) (z0:Byte b0) (z1:Byte b1) (z2:Byte b2) (z3:Byte b3) (z4:Byte b4) (z5:Byte b5) (z6:Byte b6) (z7:Byte b7)
  (V:Has w k o [.int .u8 b0,.int .u8 b1,.int .u8 b2,.int .u8 b3,.int .u8 b4,.int .u8 b5,.int .u8 b6,.int .u8 b7]) :
  Calls Tryz.prog 108 #[.slice (some ⟨k,o,none⟩) len cap] w fun e w'=>e = .returned (.int .u64 (num8 b0 b1 b2 b3 b4 b5 b6 b7))∧w' = w:=by
 obtain ⟨⟨c0,c1,c2,c3,c4,c5,c6,c7⟩,_⟩:=V.eight
 clear V
 obtain ⟨y0,z0⟩:=z0
 obtain ⟨y1,z1⟩:=z1
 obtain ⟨y2,z2⟩:=z2
 obtain ⟨y3,z3⟩:=z3
 obtain ⟨y4,z4⟩:=z4
 obtain ⟨y5,z5⟩:=z5
 obtain ⟨y6,z6⟩:=z6
 obtain ⟨y7,z7⟩:=z7
 have o7:=or_l b7 (by omega)
 obtain ⟨s6,e6⟩:∃ s,s = b7 * 256 + b6:=⟨_,rfl⟩
 have t6:0 ≤ s6∧s6 < 65536:=by omega
 have o6:=or_256 b7 b6 (by omega) (by omega) (by omega) (by omega)
 rw [←e6] at o6
 obtain ⟨s5,e5⟩:∃ s,s = s6 * 256 + b5:=⟨_,rfl⟩
 have t5:0 ≤ s5∧s5 < 16777216:=by omega
 have o5:=or_256 s6 b5 (by omega) (by omega) (by omega) (by omega)
 rw [←e5] at o5
 obtain ⟨s4,e4⟩:∃ s,s = s5 * 256 + b4:=⟨_,rfl⟩
 have t4:0 ≤ s4∧s4 < 4294967296:=by omega
 have o4:=or_256 s5 b4 (by omega) (by omega) (by omega) (by omega)
 rw [←e4] at o4
 obtain ⟨s3,e3⟩:∃ s,s = s4 * 256 + b3:=⟨_,rfl⟩
 have t3:0 ≤ s3∧s3 < 1099511627776:=by omega
 have o3:=or_256 s4 b3 (by omega) (by omega) (by omega) (by omega)
 rw [←e3] at o3
 obtain ⟨s2,e2⟩:∃ s,s = s3 * 256 + b2:=⟨_,rfl⟩
 have t2:0 ≤ s2∧s2 < 281474976710656:=by omega
 have o2:=or_256 s3 b2 (by omega) (by omega) (by omega) (by omega)
 rw [←e2] at o2
 obtain ⟨s1,e1⟩:∃ s,s = s2 * 256 + b1:=⟨_,rfl⟩
 have t1:0 ≤ s1∧s1 < 72057594037927936:=by omega
 have o1:=or_256 s2 b1 (by omega) (by omega) (by omega) (by omega)
 rw [←e1] at o1
 obtain ⟨s0,e0⟩:∃ s,s = s1 * 256 + b0:=⟨_,rfl⟩
 have t0:0 ≤ s0∧s0 < 18446744073709551616:=by omega
 have o0:=or_256 s1 b0 (by omega) (by omega) (by omega) (by omega)
 rw [←e0] at o0
 have E:Hd (s0 = num8 b0 b1 b2 b3 b4 b5 b6 b7):=hd (by unfold num8;rw [e0,e1,e2,e3,e4,e5,e6])
 clear e0 e1 e2 e3 e4 e5 e6
 go_enter Tryz.func108,Tryz.ntmps108
 go_wp2_with fail
 refine wp_loop_rounds 9 ?_
 rw [rounds_succ]
 go_wp2_with fail
 rw [rounds_succ]
 go_wp2_with fail
 rw [rounds_succ]
 go_wp2_with fail
 rw [rounds_succ]
 go_wp2_with fail
 rw [rounds_succ]
 go_wp2_with fail
 rw [rounds_succ]
 go_wp2_with fail
 rw [rounds_succ]
 go_wp2_with fail
 rw [rounds_succ]
 go_wp2_with fail
 rw [rounds_succ]
 go_wp2_with fail
 go_ret
 exact ⟨by rw [←E.out];rfl,rfl⟩
theorem le64b_c (k o len cap:Nat) (b0 b1 b2 b3 b4 b5 b6 b7:Int) (w:World) (h8:8 ≤ len) (hl:len ≤ 64) (z0:Byte b0) (z1:Byte b1) (z2:Byte b2) (z3:Byte b3) (z4:Byte b4) (z5:Byte b5) (z6:Byte b6) (z7:Byte b7)
  (V:Has w k o [.int .u8 b0,.int .u8 b1,.int .u8 b2,.int .u8 b3,.int .u8 b4,.int .u8 b5,.int .u8 b6,.int .u8 b7]) :
  Calls Tryz.prog 106 #[.slice (some ⟨k,o,none⟩) len cap] w fun e w'=>e = .returned (.int .u64 (num8 b0 b1 b2 b3 b4 b5 b6 b7))∧w' = w:=by
 obtain ⟨⟨c0,c1,c2,c3,c4,c5,c6,c7⟩,_⟩:=V.eight
 clear V
 obtain ⟨y0,z0⟩:=z0
 obtain ⟨y1,z1⟩:=z1
 obtain ⟨y2,z2⟩:=z2
 obtain ⟨y3,z3⟩:=z3
 obtain ⟨y4,z4⟩:=z4
 obtain ⟨y5,z5⟩:=z5
 obtain ⟨y6,z6⟩:=z6
 obtain ⟨y7,z7⟩:=z7
 have o7:=or_l b7 (by omega)
 obtain ⟨s6,e6⟩:∃ s,s = b7 * 256 + b6:=⟨_,rfl⟩
 have t6:0 ≤ s6∧s6 < 65536:=by omega
 have o6:=or_256 b7 b6 (by omega) (by omega) (by omega) (by omega)
 rw [←e6] at o6
 obtain ⟨s5,e5⟩:∃ s,s = s6 * 256 + b5:=⟨_,rfl⟩
 have t5:0 ≤ s5∧s5 < 16777216:=by omega
 have o5:=or_256 s6 b5 (by omega) (by omega) (by omega) (by omega)
 rw [←e5] at o5
 obtain ⟨s4,e4⟩:∃ s,s = s5 * 256 + b4:=⟨_,rfl⟩
 have t4:0 ≤ s4∧s4 < 4294967296:=by omega
 have o4:=or_256 s5 b4 (by omega) (by omega) (by omega) (by omega)
 rw [←e4] at o4
 obtain ⟨s3,e3⟩:∃ s,s = s4 * 256 + b3:=⟨_,rfl⟩
 have t3:0 ≤ s3∧s3 < 1099511627776:=by omega
 have o3:=or_256 s4 b3 (by omega) (by omega) (by omega) (by omega)
 rw [←e3] at o3
 obtain ⟨s2,e2⟩:∃ s,s = s3 * 256 + b2:=⟨_,rfl⟩
 have t2:0 ≤ s2∧s2 < 281474976710656:=by omega
 have o2:=or_256 s3 b2 (by omega) (by omega) (by omega) (by omega)
 rw [←e2] at o2
 obtain ⟨s1,e1⟩:∃ s,s = s2 * 256 + b1:=⟨_,rfl⟩
 have t1:0 ≤ s1∧s1 < 72057594037927936:=by omega
 have o1:=or_256 s2 b1 (by omega) (by omega) (by omega) (by omega)
 rw [←e1] at o1
 obtain ⟨s0,e0⟩:∃ s,s = s1 * 256 + b0:=⟨_,rfl⟩
 have t0:0 ≤ s0∧s0 < 18446744073709551616:=by omega
 have o0:=or_256 s1 b0 (by omega) (by omega) (by omega) (by omega)
 rw [←e0] at o0
 have E:Hd (s0 = num8 b0 b1 b2 b3 b4 b5 b6 b7):=hd (by unfold num8;rw [e0,e1,e2,e3,e4,e5,e6])
 clear e0 e1 e2 e3 e4 e5 e6
 go_enter Tryz.func106,Tryz.ntmps106
 go_wp2_with fail
 refine wp_loop_rounds 9 ?_
 rw [rounds_succ]
 go_wp2_with fail
 rw [rounds_succ]
 go_wp2_with fail
 rw [rounds_succ]
 go_wp2_with fail
 rw [rounds_succ]
 go_wp2_with fail
 rw [rounds_succ]
 go_wp2_with fail
 rw [rounds_succ]
 go_wp2_with fail
 rw [rounds_succ]
 go_wp2_with fail
 rw [rounds_succ]
 go_wp2_with fail
 rw [rounds_succ]
 go_wp2_with fail
 go_ret
 exact ⟨by rw [←E.out];rfl,rfl⟩
open Go.RowKit
theorem Has.sub {w:World} {b o:Nat} {vs:List Value} (h:Has w b o vs) (i m:Nat) {us:List Value} (e:(vs.drop i).take m = us):Has w b (o + i) us:=by
 subst e
 intro j hj
 rw [List.length_take,List.length_drop] at hj
 obtain ⟨h1,h2⟩:=h (i + j) (by omega)
 rw [show o + (i + j) = o + i + j by omega] at h1 h2
 refine ⟨?_,h2⟩
 rw [h1,List.getElem?_take_of_lt (by omega),List.getElem?_drop]
theorem byte_mod (v:Int):Byte (v % 256):=⟨by omega,by omega⟩
theorem part0 {w0:Int} (h0:0 ≤ w0∧w0 < 18446744073709551616):num8 (w0 % 256) (w0 / 256 % 256) (w0 / 65536 % 256) (w0 / 16777216 % 256) (w0 / 4294967296 % 256) (w0 / 1099511627776 % 256) (w0 / 281474976710656 % 256) (w0 / 72057594037927936 % 256) = w0:=by
 unfold num8;omega
theorem part1 {w0 w1:Int} (h0:0 ≤ w0∧w0 < 18446744073709551616) (_h1:0 ≤ w1∧w1 < 18446744073709551616):num8 (w0 / 281474976710656 % 256) (w0 / 72057594037927936 % 256) (w1 % 256) (w1 / 256 % 256) (w1 / 65536 % 256) (w1 / 16777216 % 256) (w1 / 4294967296 % 256) (w1 / 1099511627776 % 256) = w0 / 281474976710656 + (w1 % 281474976710656) * 65536:=by
 unfold num8;omega
theorem part2 {w1 w2:Int} (h1:0 ≤ w1∧w1 < 18446744073709551616) (_h2:0 ≤ w2∧w2 < 18446744073709551616):num8 (w1 / 4294967296 % 256) (w1 / 1099511627776 % 256) (w1 / 281474976710656 % 256) (w1 / 72057594037927936 % 256) (w2 % 256) (w2 / 256 % 256) (w2 / 65536 % 256) (w2 / 16777216 % 256) = w1 / 4294967296 + (w2 % 4294967296) * 4294967296:=by
 unfold num8;omega
theorem part3 {w2 w3:Int} (h2:0 ≤ w2∧w2 < 18446744073709551616) (_h3:0 ≤ w3∧w3 < 18446744073709551616):num8 (w2 / 16777216 % 256) (w2 / 4294967296 % 256) (w2 / 1099511627776 % 256) (w2 / 281474976710656 % 256) (w2 / 72057594037927936 % 256) (w3 % 256) (w3 / 256 % 256) (w3 / 65536 % 256) = w2 / 16777216 + (w3 % 16777216) * 1099511627776:=by
 unfold num8;omega
theorem part4 {w3:Int} (h3:0 ≤ w3∧w3 < 18446744073709551616):num8 (w3 % 256) (w3 / 256 % 256) (w3 / 65536 % 256) (w3 / 16777216 % 256) (w3 / 4294967296 % 256) (w3 / 1099511627776 % 256) (w3 / 281474976710656 % 256) (w3 / 72057594037927936 % 256) = w3:=by
 unfold num8;omega
theorem limbs_words {w0 w1 w2 w3:Int} (h0:0 ≤ w0∧w0 < 18446744073709551616) (h1:0 ≤ w1∧w1 < 18446744073709551616) (h2:0 ≤ w2∧w2 < 18446744073709551616) (_h3:0 ≤ w3∧w3 < 18446744073709551616):L5.v ⟨w0 % 2251799813685248,(w0 / 281474976710656 + (w1 % 281474976710656) * 65536) / 8 % 2251799813685248,(w1 / 4294967296 + (w2 % 4294967296) * 4294967296) / 64 % 2251799813685248,(w2 / 16777216 + (w3 % 16777216) * 1099511627776) / 2 % 2251799813685248,(w3) / 4096 % 2251799813685248⟩ = (w0 + w1 * 18446744073709551616 + w2 * 340282366920938463463374607431768211456 + w3 * 6277101735386680763835789423207666416102355444464034512896) % 57896044618658097711785492504343953926634992332820282019728792003956564819968:=by
 simp only [L5.v]
 omega
theorem setBytes_c (bv ov k o cap:Nat) (w0 w1 w2 w3:Int) (w:World) (h0:0 ≤ w0∧w0 < 18446744073709551616) (h1:0 ≤ w1∧w1 < 18446744073709551616) (h2:0 ≤ w2∧w2 < 18446744073709551616) (h3:0 ≤ w3∧w3 < 18446744073709551616) (RM:Room w bv ov 5) (X:Has w k o (by8 w0 ++ by8 w1 ++ by8 w2 ++ by8 w3)) (hs:k = bv→o + 32 ≤ ov∨ov + 5 ≤ o) (hcap:32 ≤ cap) :
  Calls Tryz.prog 74 #[Ptr bv ov,.slice (some ⟨k,o,none⟩) 32 cap] w fun e w'=>e = .returned (.tuple #[Ptr bv ov,.nilIface])∧Chg (Rg bv ov 5) w w'∧Has w' bv ov (cells ⟨w0 % 2251799813685248,(w0 / 281474976710656 + (w1 % 281474976710656) * 65536) / 8 % 2251799813685248,(w1 / 4294967296 + (w2 % 4294967296) * 4294967296) / 64 % 2251799813685248,(w2 / 16777216 + (w3 % 16777216) * 1099511627776) / 2 % 2251799813685248,(w3) / 4096 % 2251799813685248⟩):=by
 obtain ⟨v0,v1,v2,v3,v4,V⟩:=RM.five
 have C:Chg (Rg bv ov 5) w w:=.refl _ _
 clear RM
 replace hs:=hd hs
 go_enter Tryz.func74,Tryz.ntmps74
 go_wp2_with fail
 refine (le64_c k (o + 0) 8 _ (w0 % 256) (w0 / 256 % 256) (w0 / 65536 % 256) (w0 / 16777216 % 256) (w0 / 4294967296 % 256) (w0 / 1099511627776 % 256) (w0 / 281474976710656 % 256) (w0 / 72057594037927936 % 256) _ (by decide) (by decide) (byte_mod _) (byte_mod _) (byte_mod _) (byte_mod _) (byte_mod _) (byte_mod _) (byte_mod _) (byte_mod _) (X.sub 0 8 rfl)).mono ?_
 rintro e W1 ⟨rfl,heq⟩
 obtain rfl:=heq.symm;clear heq
 rw [part0 h0]
 obtain ⟨m,hm⟩:∃ m,w0 = m:=⟨_,rfl⟩
 have hm2:0 ≤ m∧m < 18446744073709551616:=by omega
 have am:=and51 m hm2.1 hm2.2
 obtain ⟨⟨c0,c1,c2,c3,c4⟩,f0,f1,f2,f3,f4⟩:=V.five
 replace V:=hd V
 replace C:=hd C
 replace X:=hd X
 go_wp2_with fail
 have wl:(by8 w0 ++ by8 w1 ++ by8 w2 ++ by8 w3).length = 32:=rfl
 refine cG (fun W=>Chg (Rg bv ov 5) w W∧Has W bv ov [.int .u64 (m % 2251799813685248),v1,v2,v3,v4]∧Has W k o (by8 w0 ++ by8 w1 ++ by8 w2 ++ by8 w3)) ⟨((C.out.setCell _ (b:=bv) (o:=ov) (fun _=>⟨rfl,by omega,by omega⟩)).setCell _ (b:=bv) (o:=ov) (fun _=>⟨rfl,by omega,by omega⟩)),((V.out.set 0 rfl _).set 0 rfl _),((X.out.off _ (by rw [wl];intro e;have:=hs.out e;omega)).off _ (by rw [wl];intro e;have:=hs.out e;omega))⟩ ?_
 clear V C X c0 c1 c2 c3 c4 f0 f1 f2 f3 f4 am hm2
 subst hm
 rintro W ⟨C,V,X⟩
 go_wp2_with fail
 refine (le64_c k (o + 6) 8 _ (w0 / 281474976710656 % 256) (w0 / 72057594037927936 % 256) (w1 % 256) (w1 / 256 % 256) (w1 / 65536 % 256) (w1 / 16777216 % 256) (w1 / 4294967296 % 256) (w1 / 1099511627776 % 256) _ (by decide) (by decide) (byte_mod _) (byte_mod _) (byte_mod _) (byte_mod _) (byte_mod _) (byte_mod _) (byte_mod _) (byte_mod _) (X.sub 6 8 rfl)).mono ?_
 rintro e W1 ⟨rfl,heq⟩
 obtain rfl:=heq.symm;clear heq
 rw [part1 h0 h1]
 obtain ⟨m,hm⟩:∃ m,(w0 / 281474976710656 + (w1 % 281474976710656) * 65536) / 8 = m:=⟨_,rfl⟩
 have hm2:0 ≤ m∧m < 18446744073709551616:=by omega
 have am:=and51 m hm2.1 hm2.2
 obtain ⟨⟨c0,c1,c2,c3,c4⟩,f0,f1,f2,f3,f4⟩:=V.five
 replace V:=hd V
 replace C:=hd C
 replace X:=hd X
 go_wp2_with fail
 refine cG (fun W=>Chg (Rg bv ov 5) w W∧Has W bv ov [.int .u64 (w0 % 2251799813685248),.int .u64 (m % 2251799813685248),v2,v3,v4]∧Has W k o (by8 w0 ++ by8 w1 ++ by8 w2 ++ by8 w3)) ⟨((C.out.setCell _ (b:=bv) (o:=ov + 1) (fun _=>⟨rfl,by omega,by omega⟩)).setCell _ (b:=bv) (o:=ov + 1) (fun _=>⟨rfl,by omega,by omega⟩)),((V.out.set 1 rfl _).set 1 rfl _),((X.out.off _ (by rw [wl];intro e;have:=hs.out e;omega)).off _ (by rw [wl];intro e;have:=hs.out e;omega))⟩ ?_
 clear V C X c0 c1 c2 c3 c4 f0 f1 f2 f3 f4 am hm2
 subst hm
 rintro W ⟨C,V,X⟩
 go_wp2_with fail
 refine (le64_c k (o + 12) 8 _ (w1 / 4294967296 % 256) (w1 / 1099511627776 % 256) (w1 / 281474976710656 % 256) (w1 / 72057594037927936 % 256) (w2 % 256) (w2 / 256 % 256) (w2 / 65536 % 256) (w2 / 16777216 % 256) _ (by decide) (by decide) (byte_mod _) (byte_mod _) (byte_mod _) (byte_mod _) (byte_mod _) (byte_mod _) (byte_mod _) (byte_mod _) (X.sub 12 8 rfl)).mono ?_
 rintro e W1 ⟨rfl,heq⟩
 obtain rfl:=heq.symm;clear heq
 rw [part2 h1 h2]
 obtain ⟨m,hm⟩:∃ m,(w1 / 4294967296 + (w2 % 4294967296) * 4294967296) / 64 = m:=⟨_,rfl⟩
 have hm2:0 ≤ m∧m < 18446744073709551616:=by omega
 have am:=and51 m hm2.1 hm2.2
 obtain ⟨⟨c0,c1,c2,c3,c4⟩,f0,f1,f2,f3,f4⟩:=V.five
 replace V:=hd V
 replace C:=hd C
 replace X:=hd X
 go_wp2_with fail
 refine cG (fun W=>Chg (Rg bv ov 5) w W∧Has W bv ov [.int .u64 (w0 % 2251799813685248),.int .u64 ((w0 / 281474976710656 + (w1 % 281474976710656) * 65536) / 8 % 2251799813685248),.int .u64 (m % 2251799813685248),v3,v4]∧Has W k o (by8 w0 ++ by8 w1 ++ by8 w2 ++ by8 w3)) ⟨((C.out.setCell _ (b:=bv) (o:=ov + 2) (fun _=>⟨rfl,by omega,by omega⟩)).setCell _ (b:=bv) (o:=ov + 2) (fun _=>⟨rfl,by omega,by omega⟩)),((V.out.set 2 rfl _).set 2 rfl _),((X.out.off _ (by rw [wl];intro e;have:=hs.out e;omega)).off _ (by rw [wl];intro e;have:=hs.out e;omega))⟩ ?_
 clear V C X c0 c1 c2 c3 c4 f0 f1 f2 f3 f4 am hm2
 subst hm
 rintro W ⟨C,V,X⟩
 go_wp2_with fail
 refine (le64_c k (o + 19) 8 _ (w2 / 16777216 % 256) (w2 / 4294967296 % 256) (w2 / 1099511627776 % 256) (w2 / 281474976710656 % 256) (w2 / 72057594037927936 % 256) (w3 % 256) (w3 / 256 % 256) (w3 / 65536 % 256) _ (by decide) (by decide) (byte_mod _) (byte_mod _) (byte_mod _) (byte_mod _) (byte_mod _) (byte_mod _) (byte_mod _) (byte_mod _) (X.sub 19 8 rfl)).mono ?_
 rintro e W1 ⟨rfl,heq⟩
 obtain rfl:=heq.symm;clear heq
 rw [part3 h2 h3]
 obtain ⟨m,hm⟩:∃ m,(w2 / 16777216 + (w3 % 16777216) * 1099511627776) / 2 = m:=⟨_,rfl⟩
 have hm2:0 ≤ m∧m < 18446744073709551616:=by omega
 have am:=and51 m hm2.1 hm2.2
 obtain ⟨⟨c0,c1,c2,c3,c4⟩,f0,f1,f2,f3,f4⟩:=V.five
 replace V:=hd V
 replace C:=hd C
 replace X:=hd X
 go_wp2_with fail
 refine cG (fun W=>Chg (Rg bv ov 5) w W∧Has W bv ov [.int .u64 (w0 % 2251799813685248),.int .u64 ((w0 / 281474976710656 + (w1 % 281474976710656) * 65536) / 8 % 2251799813685248),.int .u64 ((w1 / 4294967296 + (w2 % 4294967296) * 4294967296) / 64 % 2251799813685248),.int .u64 (m % 2251799813685248),v4]∧Has W k o (by8 w0 ++ by8 w1 ++ by8 w2 ++ by8 w3)) ⟨((C.out.setCell _ (b:=bv) (o:=ov + 3) (fun _=>⟨rfl,by omega,by omega⟩)).setCell _ (b:=bv) (o:=ov + 3) (fun _=>⟨rfl,by omega,by omega⟩)),((V.out.set 3 rfl _).set 3 rfl _),((X.out.off _ (by rw [wl];intro e;have:=hs.out e;omega)).off _ (by rw [wl];intro e;have:=hs.out e;omega))⟩ ?_
 clear V C X c0 c1 c2 c3 c4 f0 f1 f2 f3 f4 am hm2
 subst hm
 rintro W ⟨C,V,X⟩
 go_wp2_with fail
 refine (le64_c k (o + 24) 8 _ (w3 % 256) (w3 / 256 % 256) (w3 / 65536 % 256) (w3 / 16777216 % 256) (w3 / 4294967296 % 256) (w3 / 1099511627776 % 256) (w3 / 281474976710656 % 256) (w3 / 72057594037927936 % 256) _ (by decide) (by decide) (byte_mod _) (byte_mod _) (byte_mod _) (byte_mod _) (byte_mod _) (byte_mod _) (byte_mod _) (byte_mod _) (X.sub 24 8 rfl)).mono ?_
 rintro e W1 ⟨rfl,heq⟩
 obtain rfl:=heq.symm;clear heq
 rw [part4 h3]
 obtain ⟨m,hm⟩:∃ m,(w3) / 4096 = m:=⟨_,rfl⟩
 have hm2:0 ≤ m∧m < 18446744073709551616:=by omega
 have am:=and51 m hm2.1 hm2.2
 obtain ⟨⟨c0,c1,c2,c3,c4⟩,f0,f1,f2,f3,f4⟩:=V.five
 replace V:=hd V
 replace C:=hd C
 replace X:=hd X
 go_wp2_with fail
 go_ret2
 subst hm
 exact ⟨rfl,((C.out.setCell _ (b:=bv) (o:=ov + 4) (fun _=>⟨rfl,by omega,by omega⟩)).setCell _ (b:=bv) (o:=ov + 4) (fun _=>⟨rfl,by omega,by omega⟩)),((V.out.set 4 rfl _).set 4 rfl _)⟩
end Go.Proofs.Ed
