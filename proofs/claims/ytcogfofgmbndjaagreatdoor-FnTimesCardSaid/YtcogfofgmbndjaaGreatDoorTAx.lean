/- A part of the proof of the tied card of FnTimes: Vf, Vs0. -/
import Derived.Test.YtcogfofgmbndjaaGreatDoorProg
import Derived.WalkKit
import Derived.WalkSpells
import Derived.WalkLawsBesides
import Derived.Outline
import Derived.StillTailTactics
import Derived.Test.YtcogfofgmbndjaaGreatDoorTAw
import Derived.Test.YtcogfofgmbndjaaGreatDoorTAv
import Derived.Test.YtcogfofgmbndjaaGreatDoorTAn
set_option maxRecDepth 100000
set_option maxHeartbeats 40000000
namespace Go.Proofs.Ed
open Go.RowKit
theorem P_lt':P = 57896044618658097711785492504343953926634992332820282019728792003956564819949:=rfl
theorem fl_nl' (a:F):fl a = nl a.val:=by unfold fl;rfl
theorem val_small {m x:Nat} (h:x = m % 57896044618658097711785492504343953926634992332820282019728792003956564819949):(el ((m % 57896044618658097711785492504343953926634992332820282019728792003956564819949:Nat):Int)).val = x:=by
 have:=el_val ((m % 57896044618658097711785492504343953926634992332820282019728792003956564819949:Nat):Int)
 rw [show ((P:Nat):Int) = 57896044618658097711785492504343953926634992332820282019728792003956564819949 from rfl] at this
 omega
theorem minus_w' {a b n:Nat} {w:World} (hs:b ≤ a) (h:Hd (n = a - b)):Calls Tryz.prog 40 #[.agg (nl a).toArray,.agg (nl b).toArray] w (fun e w'=>e = .returned (.agg (nl n).toArray)∧Below w.heap.size w w') :=
 minus_v (by have:=h.out;omega)
def fit (n:Nat):Nat→Nat
 | 0=>n
 | t + 1=>fdd (fit n t)
theorem fit_bd {n:Nat} (h:n < 13407807929942597099574024998205846127479365820592393377723561443721764030073546976801874298166903427690031858186486050853753882811946569946433649006084096) (t:Nat):fit n t < 13407807929942597099574024998205846127479365820592393377723561443721764030073546976801874298166903427690031858186486050853753882811946569946433649006084096:=by
 induction t with
 | zero=>exact h
 | succ t ih=>exact fdd_bd _ ih
theorem fit_mod (n t:Nat):fit n t % 57896044618658097711785492504343953926634992332820282019728792003956564819949 = n % 57896044618658097711785492504343953926634992332820282019728792003956564819949:=by
 induction t with
 | zero=>rfl
 | succ t ih=>exact (fdd_mod _).trans ih
theorem fit3 {n:Nat} (h:n < 13407807929942597099574024998205846127479365820592393377723561443721764030073546976801874298166903427690031858186486050853753882811946569946433649006084096):fit n 3 < HH:=fdd3 n h
theorem fit_succ (n t:Nat):fit n (t + 1) = fdd (fit n t):=rfl
theorem fit_zero (n:Nat):fit n 0 = n:=rfl
attribute [irreducible] fit
theorem or_even {x y:Nat} (hx:x ≤ 1):bits BinOp.or IntKind.u32 (x:Int) (((2 * y) % 4294967296:Nat):Int) = ((x + (2 * y) % 4294967296:Nat):Int):=by
 rw [u32_or_nat _ _ (by omega) (by omega)]
 congr 1
 have:=Nat.shiftLeft_add_eq_or_of_lt (a:=(2 * y) % 4294967296 / 2) (b:=x) (i:=1) (by omega)
 rw [Nat.shiftLeft_eq,show (2 * y) % 4294967296 / 2 * 2 ^ 1 = (2 * y) % 4294967296 by omega] at this
 rw [Nat.or_comm,←this,Nat.add_comm]
theorem and31 {x:Nat} (h:x < 4294967296):bits BinOp.and IntKind.u32 (x:Int) 2147483647 = ((x % 2147483648:Nat):Int):=by
 have:=u32_and_nat x 2147483647 h (by decide)
 rw [show ((2147483647:Int)) = ((2147483647:Nat):Int) from rfl,this]
 have e:x &&& 2147483647 = x % 2147483648:=Nat.and_two_pow_sub_one_eq_mod x 31
 rw [e]
theorem fold_v {n:Nat} {f:F} {w:World} (hn:n < 13407807929942597099574024998205846127479365820592393377723561443721764030073546976801874298166903427690031858186486050853753882811946569946433649006084096) (h:Hd (f = el (n:Nat))):Calls Tryz.prog 68 #[.agg (nl n).toArray] w (fun e w'=>e = .returned (.agg (fl f).toArray)∧Below w.heap.size w w'):=by
 have bd:=hd (fun t=>fit_bd hn t)
 have e3:=hd (fit3 hn)
 have em:=hd (fit_mod n 3)
 clear hn
 go_enter Tryz.func68,Tryz.ntmps68
 go_wp2_with fail
 have C:Chg R0 w w:=.refl _ _
 obtain ⟨n1,l1⟩:∃ n,w.heap.size = n:=⟨_,rfl⟩
 rw [l1]
 have z1:w.heap.size ≤ n1:=l1 ▸ Nat.le_refl _
 have hb:=aB [Obj.cells (nl n).toArray 25,Obj.cells (z16).toArray 25] w
 have H0:=aH [Obj.cells (nl n).toArray 25,Obj.cells (z16).toArray 25] w 0 _ _ rfl
 rw [l1] at H0
 have H1:=(aH [Obj.cells (nl n).toArray 25,Obj.cells (z16).toArray 25] w 1 _ _ rfl).room (n:=16) rfl
 rw [l1] at H1
 refine wp_gen (fun W=>Chg R0 w W∧Has W n1 0 (nl n)∧Room W (n1 + 1) 0 16) ⟨C.trans (Chg.of_below hb),H0,H1⟩ ?_
 clear C hb l1 H0 H1
 rintro W ⟨C,H0,H1⟩
 replace H0:Has W n1 0 (nl (fit n 0)):=by rw [fit_zero];exact H0
 go_loopw [8] (fun i W=>∃ t:Nat,t ≤ 3∧i = .int .i64 t∧Chg R0 w W∧Has W n1 0 (nl (fit n t))∧Room W (n1 + 1) 0 16) (fun i _=>3 - (intOf i).toNat)
 case atStart=>exact ⟨0,by omega,rfl,C,H0,H1⟩
 case round =>
  clear C H0 H1
  obtain ⟨t,ht,rfl,C,H0,H1⟩:=hrel
  by_cases hlt:t < 3
  ·have hm:=bd.out t
   have hs:=fit_succ n t
   obtain ⟨m,qm⟩:∃ m,fit n t = m:=⟨_,rfl⟩
   rw [qm] at H0 hm hs
   replace hs:=hd hs
   replace hm:=hd hm
   clear qm
   go_wp2_with fail
   rw [show decide ((t:Int) < 3) = true by rw [decide_eq_true_iff];omega]
   obtain ⟨n2,l2⟩:∃ n,wr.heap.size = n:=⟨_,rfl⟩
   rw [l2]
   have z2:w.heap.size ≤ n2:=l2 ▸ C.size
   have y1:n1 < n2:=l2 ▸ H0.lt (by rw [nL];decide)
   have y2:n1 + 1 < n2:=l2 ▸ H1.lt (by decide)
   have hb:=bA wr (Obj.cells z16.toArray 25)
   have H2:=box_has wr z16 25
   rw [l2] at H2
   refine wp_gen (fun W=>Chg R0 w W∧Has W n1 0 (nl m)∧Room W (n1 + 1) 0 16∧Has W n2 0 z16) ⟨C.trans (Chg.of_below hb),H0.later hb,H1.later hb,H2⟩ ?_
   clear C H0 H1 H2 hb l2
   rintro W ⟨C,H0,H1,H2⟩
   rw [←hiF_start m] at H2
   go_loopw [4] (fun i W=>∃ j:Nat,j ≤ 9∧i = .int .i64 ((j:Int) + 7)∧Chg R0 w W∧Has W n1 0 (nl m)∧Room W (n1 + 1) 0 16∧Has W n2 0 (lst (hiF m (j + 7)))) (fun i _=>16 - (intOf i).toNat)
   case atStart=>exact ⟨0,by omega,rfl,C,H0,H1,H2⟩
   case round =>
    clear C H0 H1 H2
    obtain ⟨j,hj,rfl,C,H0,H1,H2⟩:=hrel
    have kt:((j:Int) + 7).toNat = j + 7:=by omega
    have k0:0 ≤ (j:Int) + 7:=by omega
    by_cases hjt:j < 9
    ·have cA:=H0.cellD (i:=j + 7) (by omega)
     have cH:=H2.cellN (i:=j) (by omega)
     rw [Nat.zero_add] at cA cH
     have dA:=dig_lt m (j + 7)
     have hw:=shr_word m j
     have k1:(j:Int) + 7 < 16:=by omega
     have k2:(j:Int) < 16:=by omega
     have w7:IntKind.i64.wrap ((j:Int) + 7 - 7) = j:=i64_word' (by omega) (by omega)
     obtain ⟨x,qx⟩:∃ x,dig m (j + 7) = x:=⟨_,rfl⟩
     rw [qx] at cA dA hw
     clear qx
     by_cases h8:j < 8
     ·have k15:(j:Int) + 7 < 15:=by omega
      have cB:=H0.cellD (i:=j + 8) (by omega)
      rw [Nat.zero_add] at cB
      have dB:=dig_lt m (j + 8)
      obtain ⟨y,qy⟩:∃ y,dig m (j + 8) = y:=⟨_,rfl⟩
      rw [qy] at cB dB hw
      replace hw:=hd hw
      clear qy
      go_wp2_with fail
      have oc:=H2.off (b':=n2) (o':=j) (.int .u32 ((x:Int) / 2147483648))
      refine wp_gen (fun W=>Chg R0 w W∧Has W n1 0 (nl m)∧Room W (n1 + 1) 0 16∧Has W n2 0 ((lst (hiF m (j + 7))).set j (.int .u32 (((x / 2147483648:Nat)):Int)))∧W.cell? ⟨n2,j,none⟩ = some (.int .u32 ((x / 2147483648:Nat):Int))∧W.frozen? ⟨n2,j,none⟩ = false∧W.cell? ⟨n1,j + 8,none⟩ = some (.int .u32 y)) ⟨C.setCell _ (fun h=>absurd h (Nat.not_lt.2 z2)),H0.off _ (fun e=>by omega),(Chg.set1 _ _ _ _).room H1,H2.set j (by omega) _,setCell_same cH.1,(by rw [frozen_setCell];exact cH.2),((Chg.set1 _ _ _ _).cell (lt_of_cell cB.1) (by rintro ⟨e,-⟩;omega)).trans cB.1⟩ ?_
      clear C H0 H1 H2 cA cB cH oc
      rintro W ⟨C,H0,H1,H2,cH,fH,cB⟩
      have k88:((j:Int) + 8).toNat = j + 8:=by omega
      have k8':(j:Int) + 8 < 16:=by omega
      have k80:0 ≤ (j:Int) + 8:=by omega
      have w8:IntKind.i64.wrap ((j:Int) + 7 + 1) = (j:Int) + 8:=i64_word' (by omega) (by omega)
      have wj:IntKind.i64.wrap (j:Int) = j:=i64_word _ (by omega)
      have wj8:IntKind.i64.wrap ((j:Int) + 8) = (j:Int) + 8:=i64_word _ (by omega)
      go_still_tail 11,(by kernel_rfl)
      go_wp2_with fail
      have ob:bits BinOp.or IntKind.u32 ((x:Int) / 2147483648) ((y:Int) * 2 % 4294967296) = ((dig (m / HH) j:Nat):Int):=by
       rw [show (x:Int) / 2147483648 = ((x / 2147483648:Nat):Int) by omega,show (y:Int) * 2 % 4294967296 = ((2 * y % 4294967296:Nat):Int) by omega,or_even (by omega),hw.out]
      rw [ob]
      have h2:=H2.set j (by omega:j = 0 + j) (.int .u32 ((dig (m / HH) j:Nat):Int))
      rw [hiF_set m j rfl] at h2
      exact ⟨⟨j + 1,by omega,by congr 1<;>omega,(C.setCell _ (fun h=>absurd h (Nat.not_lt.2 z2))).drew,H0.off _ (fun e=>by omega),(Chg.set1 _ _ _ _).room H1,h2⟩,by simp [intOf];try omega⟩
     ·obtain rfl:j = 8:=by omega
      have k15:¬ ((8:Nat):Int) + 7 < 15:=by omega
      replace hw:=hd hw
      have h16:=hd (dig_small (n:=m) (j:=8 + 8) (Nat.lt_of_lt_of_le hm.out (by decide +kernel)))
      go_wp2_with fail
      have h2:=H2.set 8 (by omega:8 = 0 + 8) (.int .u32 (((x / 2147483648:Nat)):Int))
      rw [hiF_set1 m 8 (by
       have:=hw.out
       have h0:=h16.out
       rw [h0] at this
       omega)] at h2
      exact ⟨⟨9,by omega,rfl,C.setCell _ (fun h=>absurd h (Nat.not_lt.2 z2)),H0.off _ (fun e=>by omega),(Chg.set1 _ _ _ _).room H1,h2⟩,by simp [intOf]⟩
    ·obtain rfl:j = 9:=by omega
     rw [hiF_end hm.out] at H2
     rw [show (((9:Nat):Int) + 7) = 16 by rfl]
     have c7:=H0.cellD (i:=7) (by omega)
     rw [Nat.zero_add] at c7
     have d7:=dig_lt m 7
     have h0:=H0.set 7 (by omega:7 = 0 + 7) (.int .u32 ((dig m 7 % 2147483648:Nat):Int))
     rw [loF_start m] at h0
     have a7:=and31 d7
     obtain ⟨x,qx⟩:∃ x,dig m 7 = x:=⟨_,rfl⟩
     rw [qx] at c7 d7 h0 a7
     have e7:((x % 2147483648:Nat):Int) = ((x:Int) % 2147483648):=by omega
     rw [e7] at h0
     replace h0:=hd h0
     clear qx
     go_wp2_with fail
     refine wp_gen (fun W=>Chg R0 w W∧Has W n1 0 (lst (loF m 8))∧Room W (n1 + 1) 0 16∧Has W n2 0 (nl (m / HH))) ⟨C.setCell _ (fun h=>absurd h (Nat.not_lt.2 z1)),h0.out,(Chg.set1 _ _ _ _).room H1,H2.off _ (fun e=>by omega)⟩ ?_
     clear C H0 H1 H2 h0 c7 e7
     rintro W ⟨C,H0,H1,H2⟩
     go_loopw [5] (fun i W=>∃ j:Nat,8 ≤ j∧j ≤ 16∧i = .int .i64 j∧Chg R0 w W∧Has W n1 0 (lst (loF m j))∧Room W (n1 + 1) 0 16∧Has W n2 0 (nl (m / HH))) (fun i _=>16 - (intOf i).toNat)
     case atStart=>exact ⟨8,by omega,by omega,rfl,C,H0,H1,H2⟩
     case round =>
      clear C H0 H1 H2
      obtain ⟨j,hj0,hj,rfl,C,H0,H1,H2⟩:=hrel
      by_cases hjt:j < 16
      ·have cA:=H0.cellN (i:=j) hjt
       rw [Nat.zero_add] at cA
       have k1:(j:Int) < 16:=by omega
       have h0:=H0.set j (by omega:j = 0 + j) (.int .u32 0)
       rw [loF_set m j hj0] at h0
       replace h0:=hd h0
       clear H0
       go_wp2_with fail
       exact ⟨⟨j + 1,by omega,by omega,by push_cast;rfl,C.setCell _ (fun h=>absurd h (Nat.not_lt.2 z1)),h0.out,(Chg.set1 _ _ _ _).room H1,H2.off _ (fun e=>by omega)⟩,by simp [intOf];try omega⟩
      ·obtain rfl:j = 16:=by omega
       rw [loF_end] at H0
       rw [show ((16:Nat):Int) = 16 by rfl]
       go_wp2_with fail
       have hfd:fdd m = m % HH + 19 * (m / HH):=rfl
       obtain ⟨a,qa⟩:∃ a,m % HH = a:=⟨_,rfl⟩
       obtain ⟨b,qb⟩:∃ b,m / HH = b:=⟨_,rfl⟩
       rw [qa] at H0 hfd
       rw [qb] at H2 hfd
       clear qa qb
       have hfd2:=hd (hs.out.trans hfd)
       clear hfd hs
       rw [mixN_zero a (a + 19 * b)] at H0
       go_loopw [6,44] (fun c i W=>∃ k:Nat,k ≤ 16∧i = .int .i64 k∧c = .int .u64 (c19 a b k:Nat)∧Chg R0 w W∧Has W n1 0 (lst (mixN a (a + 19 * b) k))∧Room W (n1 + 1) 0 16∧Has W n2 0 (nl b)) (fun _ i _=>16 - (intOf i).toNat)
       case atStart=>exact ⟨0,by omega,rfl,by rw [c19_zero];rfl,C,H0,H1,H2⟩
       case round =>
        clear C H0 H1 H2
        obtain ⟨k,hk,rfl,rfl,C,H0,H1,H2⟩:=hrel
        by_cases hkt:k < 16
        ·have cA:=H0.cellN hkt
         have cB:=H2.cellD hkt
         rw [Nat.zero_add] at cA cB
         rw [show mixN a (a + 19 * b) k k = dig a k by simp [mixN]] at cA
         have d1:=dig_lt a k
         have d2:=dig_lt b k
         have d3:=c19_le a b k
         have e3:=c19_succ a b k
         have e4:=c19_dig a b k
         obtain ⟨x',qx⟩:∃ x,dig a k = x:=⟨_,rfl⟩
         obtain ⟨y',qy⟩:∃ x,dig b k = x:=⟨_,rfl⟩
         obtain ⟨g,qg⟩:∃ x,c19 a b k = x:=⟨_,rfl⟩
         rw [qx] at cA d1 e3 e4
         rw [qy] at cB d2 e3 e4
         rw [qg] at d3 e3 e4
         rw [qg]
         replace e3:=hd e3
         replace e4:=hd e4
         clear qx qy qg
         have k16:(k:Int) < 16:=by omega
         go_wp2_with fail
         go_still_tail 12,(by kernel_rfl)
         go_wp2_with fail
         have v1:Value.int .u32 (((g:Int) + (x' + 19 * y')) % 4294967296) = .int .u32 ((dig (a + 19 * b) k:Nat):Int):=by rw [e4.out];congr 1<;>omega
         rw [v1]
         have h0:=H0.set k (by omega:k = 0 + k) (.int .u32 ((dig (a + 19 * b) k:Nat):Int))
         rw [mixN_set _ _ _ rfl] at h0
         exact ⟨⟨k + 1,by omega,by push_cast;rfl,by rw [e3.out];congr 1<;>omega,(C.setCell _ (fun h=>absurd h (Nat.not_lt.2 z1))).drew,h0,(Chg.set1 _ _ _ _).room H1,H2.off _ (fun e=>by omega)⟩,by simp [intOf];try omega⟩
        ·obtain rfl:k = 16:=by omega
         rw [mixN_all,←hfd2.out] at H0
         go_wp2_with fail
         exact ⟨⟨t + 1,by omega,by push_cast;rfl,C,H0,H1⟩,by simp [intOf];try omega⟩
  ·obtain rfl:t = 3:=by omega
   obtain ⟨m,qm⟩:∃ m,fit n 3 = m:=⟨_,rfl⟩
   rw [qm] at H0
   have e3:=e3.out
   have em:=em.out
   rw [qm] at e3 em
   have hP:=P_lt'
   have mlt:Hd (m < 57896044618658097711785492504343953926634992332820282019728792003956564819968):=hd e3
   have fe:Hd (f = el ((m % 57896044618658097711785492504343953926634992332820282019728792003956564819949:Nat):Int)):=hd (by
    rw [h.out,em,el_eq,show ((P:Nat):Int) = 57896044618658097711785492504343953926634992332820282019728792003956564819949 from rfl];omega)
   clear qm e3 em bd
   go_wp2_with fail
   have mB:m < 2 ^ 512:=by rw [pow_512];have:=mlt.out;omega
   have pB:P < 2 ^ 512:=by rw [pow_512];rw [hP];omega
   by_cases hlt:m < P
   ·have hd1:=hd hlt
    refine wp_loop_rounds 1 ?_
    rw [rounds_succ]
    go_wp2_with fail
    refine region_fresh 3 [] (by kernel_rfl) (by kernel_rfl) (by kernel_rfl)
     (fun i v W=>match i with
      | 0=>v = .agg (nl m).toArray
      | 1=>v = .agg (nl P).toArray
      | 2=>v = .bool (decide (m < P))
      | _=>True) ?_ ?_ ?_
    ·intro i v u u' h hb
     split at h<;>exact h
    ·simp only [List.take_succ_cons,List.take_zero,heads]
     refine ⟨?_,?_,?_,trivial⟩
     ·intro a W1 hR hun hdep
      have t1:=hun 1 (by simp)
      simp at t1
      clear hun hdep
      exact opw_load (b:=n1) (o:=0) (gd t1) (Has.later H0 hR.off) (nL _) agg25 size25 ⟨_,rfl,Later.rfl' _,rfl,(fun h=>absurd h (by decide))⟩
     ·intro a W1 hR hun hdep
      clear hun hdep
      go_simp
      refine (p_v).mono ?_
      rintro e W2 ⟨rfl,hb⟩
      first | exact hb | exact ⟨hb,rfl⟩ | exact ⟨rfl,hb⟩
     ·intro a W1 hR hun hdep
      have d67:=hdep ⟨0,.data⟩ (by simp) rfl
      simp [slotOf] at d67
      have d68:=hdep ⟨1,.data⟩ (by simp) rfl
      simp [slotOf] at d68
      clear hun hdep
      go_simp
      refine (less_v mB pB).mono ?_
      rintro e W2 ⟨rfl,hb⟩
      first | exact hb | exact ⟨hb,rfl⟩ | exact ⟨rfl,hb⟩
    ·intro vs W1 hR hv hfr
     simp only [List.take_succ_cons,List.take_zero,List.drop_succ_cons,List.drop_zero,heads,Option.isSome_some,if_true] at hv ⊢
     obtain ⟨v0,v1,v2,-⟩:=hv
     simp only [finL,Act.put,v0,v1,v2]
     simp only [iA,iB,iC]
     replace hR:=hR.off
     replace C:=C.trans (Chg.of_below hR)
     replace H0:=H0.later hR
     replace H1:=H1.later hR
     clear hR hfr v0 v1 v2
     refine pG (fun W=>Chg R0 w W∧Has W n1 0 (nl m)∧Room W (n1 + 1) 0 16) ⟨C,H0,H1⟩ ?_
     clear C H0 H1
     rintro W ⟨C,H0,H1⟩
     rw [show decide (m < P) = true by rw [decide_eq_true_iff];exact hd1.out]
     repeat ((fail_if_success with_reducible refine sl 25 ?_);first | go_step | dsimp only)
     refine wL (b:=n1) (o:=0) rfl H0 (nL _) agg25 size25 ?_
     simp only [Act.put,iA,iB,iC]
     repeat ((fail_if_success with_reducible refine ss 25 ?_);first | go_step | dsimp only)
     refine wS (b:=n1 + 1) (o:=0) (vs:=nl m) rfl rfl H1 (nL _) (nl_one _) size25 ?_
     simp only [Act.put]
     have hc:Chg (Rg (n1 + 1) 0 16) W (World.setCells W (n1 + 1) 0 (nl m)):=by have:=putL_chg (w:=W) (b:=n1 + 1) (o:=0) (vs:=nl m);rwa [show (nl m).length = 16 from (nL _)] at this
     have H11:=putL_has (w:=W) (b:=n1 + 1) (o:=0) (vs:=nl m) (by rw [show (nl m).length = 16 from (nL _)];exact H1)
     replace C:=C.loc hc (by omega)
     replace H0:=H0.keep hc oa
     clear H1
     clear hc
     refine pG (fun W=>Chg R0 w W∧Has W n1 0 (nl m)∧Has W (n1 + 1) 0 (nl m)) ⟨C,H0,H11⟩ ?_
     clear C H0 H11
     rintro W ⟨C,H0,H11⟩
     go_wp2_with fail
     exact ret_cell (b:=n1 + 1) (o:=0) Tryz.results68 rfl H11 (nL _) agg25 size25 rfl ⟨by rw [fl_nl',fe.out,val_small (m:=m) (x:=m) (by have:=hd1.out;have:=P_lt';omega)],C.r0⟩
   ·have hd1:=hd hlt
    refine wp_loop_rounds 2 ?_
    rw [rounds_succ]
    go_wp2_with fail
    refine region_fresh 3 [] (by kernel_rfl) (by kernel_rfl) (by kernel_rfl)
     (fun i v W=>match i with
      | 0=>v = .agg (nl m).toArray
      | 1=>v = .agg (nl P).toArray
      | 2=>v = .bool (decide (m < P))
      | _=>True) ?_ ?_ ?_
    ·intro i v u u' h hb
     split at h<;>exact h
    ·simp only [List.take_succ_cons,List.take_zero,heads]
     refine ⟨?_,?_,?_,trivial⟩
     ·intro a W1 hR hun hdep
      have t1:=hun 1 (by simp)
      simp at t1
      clear hun hdep
      exact opw_load (b:=n1) (o:=0) (gd t1) (Has.later H0 hR.off) (nL _) agg25 size25 ⟨_,rfl,Later.rfl' _,rfl,(fun h=>absurd h (by decide))⟩
     ·intro a W1 hR hun hdep
      clear hun hdep
      go_simp
      refine (p_v).mono ?_
      rintro e W2 ⟨rfl,hb⟩
      first | exact hb | exact ⟨hb,rfl⟩ | exact ⟨rfl,hb⟩
     ·intro a W1 hR hun hdep
      have d67:=hdep ⟨0,.data⟩ (by simp) rfl
      simp [slotOf] at d67
      have d68:=hdep ⟨1,.data⟩ (by simp) rfl
      simp [slotOf] at d68
      clear hun hdep
      go_simp
      refine (less_v mB pB).mono ?_
      rintro e W2 ⟨rfl,hb⟩
      first | exact hb | exact ⟨hb,rfl⟩ | exact ⟨rfl,hb⟩
    ·intro vs W1 hR hv hfr
     simp only [List.take_succ_cons,List.take_zero,List.drop_succ_cons,List.drop_zero,heads,Option.isSome_some,if_true] at hv ⊢
     obtain ⟨v0,v1,v2,-⟩:=hv
     simp only [finL,Act.put,v0,v1,v2]
     simp only [iA,iB,iC]
     replace hR:=hR.off
     replace C:=C.trans (Chg.of_below hR)
     replace H0:=H0.later hR
     replace H1:=H1.later hR
     clear hR hfr v0 v1 v2
     refine pG (fun W=>Chg R0 w W∧Has W n1 0 (nl m)∧Room W (n1 + 1) 0 16) ⟨C,H0,H1⟩ ?_
     clear C H0 H1
     rintro W ⟨C,H0,H1⟩
     rw [show decide (m < P) = false by rw [decide_eq_false_iff_not];exact hd1.out]
     go_wp2_with fail
     go_wp2_with fail
     obtain ⟨f1,qf1⟩:∃ g:Nat,g = m - P:=⟨_,rfl⟩
     replace qf1:=hd qf1
     refine region_fresh 3 [] (by kernel_rfl) (by kernel_rfl) (by kernel_rfl)
      (fun i v W=>match i with
       | 0=>v = .agg (nl m).toArray
       | 1=>v = .agg (nl P).toArray
       | 2=>v = .agg (nl f1).toArray
       | _=>True) ?_ ?_ ?_
     ·intro i v u u' h hb
      split at h<;>exact h
     ·simp only [List.take_succ_cons,List.take_zero,heads]
      refine ⟨?_,?_,?_,trivial⟩
      ·intro a W1 hR hun hdep
       have t1:=hun 1 (by simp)
       simp at t1
       clear hun hdep
       exact opw_load (b:=n1) (o:=0) (gd t1) (Has.later H0 hR.off) (nL _) agg25 size25 ⟨_,rfl,Later.rfl' _,rfl,(fun h=>absurd h (by decide))⟩
      ·intro a W1 hR hun hdep
       clear hun hdep
       go_simp
       refine (p_v).mono ?_
       rintro e W2 ⟨rfl,hb⟩
       first | exact hb | exact ⟨hb,rfl⟩ | exact ⟨rfl,hb⟩
      ·intro a W1 hR hun hdep
       have d71:=hdep ⟨0,.data⟩ (by simp) rfl
       simp [slotOf] at d71
       have d72:=hdep ⟨1,.data⟩ (by simp) rfl
       simp [slotOf] at d72
       clear hun hdep
       go_simp
       refine (minus_w' (by have:=hd1.out;omega) qf1).mono ?_
       rintro e W2 ⟨rfl,hb⟩
       first | exact hb | exact ⟨hb,rfl⟩ | exact ⟨rfl,hb⟩
     ·intro vs W1 hR hv hfr
      simp only [List.take_succ_cons,List.take_zero,List.drop_succ_cons,List.drop_zero,heads,Option.isSome_some,if_true] at hv ⊢
      obtain ⟨v0,v1,v2,-⟩:=hv
      simp only [finL,Act.put,v0,v1,v2]
      simp only [iA,iB,iC]
      replace hR:=hR.off
      replace C:=C.trans (Chg.of_below hR)
      replace H0:=H0.later hR
      replace H1:=H1.later hR
      clear hR hfr v0 v1 v2
      refine pG (fun W=>Chg R0 w W∧Has W n1 0 (nl m)∧Room W (n1 + 1) 0 16) ⟨C,H0,H1⟩ ?_
      clear C H0 H1
      rintro W ⟨C,H0,H1⟩
      repeat ((fail_if_success with_reducible refine ss 25 ?_);first | go_step | dsimp only)
      refine wS (b:=n1) (o:=0) (vs:=nl f1) rfl rfl (H0.room (nL _)) (nL _) (nl_one _) size25 ?_
      simp only [Act.put]
      have hc:Chg (Rg n1 0 16) W (World.setCells W n1 0 (nl f1)):=by have:=putL_chg (w:=W) (b:=n1) (o:=0) (vs:=nl f1);rwa [show (nl f1).length = 16 from (nL _)] at this
      have H11:=putL_has (w:=W) (b:=n1) (o:=0) (vs:=nl f1) (by rw [show (nl f1).length = 16 from (nL _)];exact (H0.room (nL _)))
      replace C:=C.loc hc (by omega)
      clear H0
      replace H1:=hc.room H1
      clear hc
      refine pG (fun W=>Chg R0 w W∧Room W (n1 + 1) 0 16∧Has W n1 0 (nl f1)) ⟨C,H1,H11⟩ ?_
      clear C H1 H11
      rintro W ⟨C,H1,H11⟩
      go_wp2_with fail
      rw [rounds_succ]
      have hd2:=hd (show f1 < P by have:=qf1.out;have:=mlt.out;omega)
      have mB:f1 < 2 ^ 512:=by rw [pow_512];have:=hd2.out;omega
      go_wp2_with fail
      refine region_fresh 3 [] (by kernel_rfl) (by kernel_rfl) (by kernel_rfl)
       (fun i v W=>match i with
        | 0=>v = .agg (nl f1).toArray
        | 1=>v = .agg (nl P).toArray
        | 2=>v = .bool (decide (f1 < P))
        | _=>True) ?_ ?_ ?_
      ·intro i v u u' h hb
       split at h<;>exact h
      ·simp only [List.take_succ_cons,List.take_zero,heads]
       refine ⟨?_,?_,?_,trivial⟩
       ·intro a W1 hR hun hdep
        have t1:=hun 1 (by simp)
        simp at t1
        clear hun hdep
        exact opw_load (b:=n1) (o:=0) (gd t1) (Has.later H11 hR.off) (nL _) agg25 size25 ⟨_,rfl,Later.rfl' _,rfl,(fun h=>absurd h (by decide))⟩
       ·intro a W1 hR hun hdep
        clear hun hdep
        go_simp
        refine (p_v).mono ?_
        rintro e W2 ⟨rfl,hb⟩
        first | exact hb | exact ⟨hb,rfl⟩ | exact ⟨rfl,hb⟩
       ·intro a W1 hR hun hdep
        have d67:=hdep ⟨0,.data⟩ (by simp) rfl
        simp [slotOf] at d67
        have d68:=hdep ⟨1,.data⟩ (by simp) rfl
        simp [slotOf] at d68
        clear hun hdep
        go_simp
        refine (less_v mB pB).mono ?_
        rintro e W2 ⟨rfl,hb⟩
        first | exact hb | exact ⟨hb,rfl⟩ | exact ⟨rfl,hb⟩
      ·intro vs W1 hR hv hfr
       simp only [List.take_succ_cons,List.take_zero,List.drop_succ_cons,List.drop_zero,heads,Option.isSome_some,if_true] at hv ⊢
       obtain ⟨v0,v1,v2,-⟩:=hv
       simp only [finL,Act.put,v0,v1,v2]
       simp only [iA,iB,iC]
       replace hR:=hR.off
       replace C:=C.trans (Chg.of_below hR)
       replace H1:=H1.later hR
       replace H11:=H11.later hR
       clear hR hfr v0 v1 v2
       refine pG (fun W=>Chg R0 w W∧Room W (n1 + 1) 0 16∧Has W n1 0 (nl f1)) ⟨C,H1,H11⟩ ?_
       clear C H1 H11
       rintro W ⟨C,H1,H11⟩
       rw [show decide (f1 < P) = true by rw [decide_eq_true_iff];exact hd2.out]
       repeat ((fail_if_success with_reducible refine sl 25 ?_);first | go_step | dsimp only)
       refine wL (b:=n1) (o:=0) rfl H11 (nL _) agg25 size25 ?_
       simp only [Act.put,iA,iB,iC]
       repeat ((fail_if_success with_reducible refine ss 25 ?_);first | go_step | dsimp only)
       refine wS (b:=n1 + 1) (o:=0) (vs:=nl f1) rfl rfl H1 (nL _) (nl_one _) size25 ?_
       simp only [Act.put]
       have hc:Chg (Rg (n1 + 1) 0 16) W (World.setCells W (n1 + 1) 0 (nl f1)):=by have:=putL_chg (w:=W) (b:=n1 + 1) (o:=0) (vs:=nl f1);rwa [show (nl f1).length = 16 from (nL _)] at this
       have H12:=putL_has (w:=W) (b:=n1 + 1) (o:=0) (vs:=nl f1) (by rw [show (nl f1).length = 16 from (nL _)];exact H1)
       replace C:=C.loc hc (by omega)
       clear H1
       replace H11:=H11.keep hc oa
       clear hc
       refine pG (fun W=>Chg R0 w W∧Has W n1 0 (nl f1)∧Has W (n1 + 1) 0 (nl f1)) ⟨C,H11,H12⟩ ?_
       clear C H11 H12
       rintro W ⟨C,H11,H12⟩
       go_wp2_with fail
       exact ret_cell (b:=n1 + 1) (o:=0) Tryz.results68 rfl H12 (nL _) agg25 size25 rfl ⟨by rw [fl_nl',fe.out,val_small (m:=m) (x:=f1) (by have:=qf1.out;have:=hd1.out;have:=mlt.out;have:=P_lt';omega)],C.r0⟩
open Go.RowKit
theorem times_w {a b n:Nat} {w:World} (ha:Hd (a < 2 ^ (32 * 8))) (hb:Hd (b < 2 ^ (32 * 8))) (h:Hd (n = a * b)):Calls Tryz.prog 69 #[.agg (nl a).toArray,.agg (nl b).toArray] w (fun e w'=>e = .returned (.agg (nl n).toArray)∧Below w.heap.size w w'):=by
 rw [h.out];exact times_v ha.out hb.out
theorem plus_w {a b n:Nat} {w:World} (hs:a + b < 13407807929942597099574024998205846127479365820592393377723561443721764030073546976801874298166903427690031858186486050853753882811946569946433649006084096) (h:Hd (n = a + b)):Calls Tryz.prog 38 #[.agg (nl a).toArray,.agg (nl b).toArray] w (fun e w'=>e = .returned (.agg (nl n).toArray)∧Below w.heap.size w w'):=by
 have:=plus_v (a:=a) (b:=b) (w:=w)
 rw [Nat.mod_eq_of_lt (by rw [pow_512];exact hs)] at this
 rw [h.out];exact this
theorem minus_w {a b n:Nat} {w:World} (hs:b ≤ a) (h:Hd (n = a - b)):Calls Tryz.prog 40 #[.agg (nl a).toArray,.agg (nl b).toArray] w (fun e w'=>e = .returned (.agg (nl n).toArray)∧Below w.heap.size w w') :=
 minus_v (by have:=h.out;omega)
theorem fl_nl (a:F):fl a = nl a.val:=by unfold fl;rfl
theorem small_f {x:Nat} {z:Int} {f:F} {w:World} (hz:z = x) (hx:x < 4294967296) (h:f.val = x):Calls Tryz.prog 30 #[.int .i64 z] w (fun e w'=>e = .returned (.agg (fl f).toArray)∧Below w.heap.size w w'):=by
 rw [fl_nl,h,hz];exact small_v hx
theorem val_lt (a:F):a.val < 57896044618658097711785492504343953926634992332820282019728792003956564819949:=a.isLt
theorem P_lt:P = 57896044618658097711785492504343953926634992332820282019728792003956564819949:=rfl
theorem lt_256 {x:Nat} (h:x < 57896044618658097711785492504343953926634992332820282019728792003956564819949):x < 2 ^ (32 * 8):=Nat.lt_trans h (by decide)
theorem mul_512 {x y:Nat} (hx:x < 57896044618658097711785492504343953926634992332820282019728792003956564819949) (hy:y < 57896044618658097711785492504343953926634992332820282019728792003956564819949):x * y < 13407807929942597099574024998205846127479365820592393377723561443721764030073546976801874298166903427690031858186486050853753882811946569946433649006084096 :=
 Nat.lt_of_le_of_lt (Nat.mul_le_mul (Nat.le_of_lt hx) (Nat.le_of_lt hy)) (by decide +kernel)
theorem mul_v {a b c:F} {w:World} (h:Hd (c = a * b)):Calls Tryz.prog 29 #[.agg (fl a).toArray,.agg (fl b).toArray] w (fun e w'=>e = .returned (.agg (fl c).toArray)∧Below w.heap.size w w'):=by
 obtain ⟨x,qx⟩:∃ x,a.val = x:=⟨_,rfl⟩
 obtain ⟨y,qy⟩:∃ y,b.val = y:=⟨_,rfl⟩
 rw [fl_nl a,fl_nl b,qx,qy]
 have xlt:=hd (qx ▸ val_lt a)
 have ylt:=hd (qy ▸ val_lt b)
 have x256:=hd (lt_256 xlt.out)
 have y256:=hd (lt_256 ylt.out)
 replace qx:=hd qx
 replace qy:=hd qy
 have C:Chg R0 w w:=.refl _ _
 go_enter Tryz.func29,Tryz.ntmps29
 repeat ((fail_if_success with_reducible refine sl 25 ?_);first | go_step | dsimp only)
 obtain ⟨n1,ln1⟩:∃ n,w.heap.size = n:=⟨_,rfl⟩
 rw [ln1]
 have hb:=aB [Obj.cells (nl x).toArray 25,Obj.cells (nl y).toArray 25,Obj.cells (List.replicate 16 (.int .u32 0)).toArray 25] w
 have zn1:w.heap.size ≤ n1:=ln1 ▸ C.size
 replace C:=C.trans (Chg.of_below hb)
 have H1:=aH [Obj.cells (nl x).toArray 25,Obj.cells (nl y).toArray 25,Obj.cells (List.replicate 16 (.int .u32 0)).toArray 25] w 0 _ _ rfl
 rw [ln1] at H1
 simp only [Nat.add_zero] at H1
 have H2:=aH [Obj.cells (nl x).toArray 25,Obj.cells (nl y).toArray 25,Obj.cells (List.replicate 16 (.int .u32 0)).toArray 25] w 1 _ _ rfl
 rw [ln1] at H2
 have H3:=(aH [Obj.cells (nl x).toArray 25,Obj.cells (nl y).toArray 25,Obj.cells (List.replicate 16 (.int .u32 0)).toArray 25] w 2 _ _ rfl).room (n:=16) rfl
 rw [ln1] at H3
 refine pG (fun W=>Chg R0 w W∧Has W n1 0 (nl x)∧Has W (n1 + 1) 0 (nl y)∧Room W (n1 + 2) 0 16) ⟨C,H1,H2,H3⟩ ?_
 clear C H1 H2 H3 hb ln1
 rintro W ⟨C,H1,H2,H3⟩
 refine wL (b:=n1) (o:=0) rfl H1 (nL _) agg25 size25 ?_
 simp only [Act.put,iA,iB,iC]
 repeat ((fail_if_success with_reducible refine sl 25 ?_);first | go_step | dsimp only)
 refine wL (b:=n1 + 1) (o:=0) rfl H2 (nL _) agg25 size25 ?_
 simp only [Act.put,iA,iB,iC]
 obtain ⟨f1,qf1⟩:∃ g:Nat,g = x * y:=⟨_,rfl⟩
 replace qf1:=hd qf1
 go_wp2_with fail
 refine (times_w x256 y256 qf1).mono ?_
 rintro e W ⟨rfl,hb⟩
 replace C:=C.trans (Chg.of_below hb)
 replace H1:=H1.later hb
 replace H2:=H2.later hb
 replace H3:=H3.later hb
 clear hb
 obtain ⟨f2,qf2⟩:∃ g:F,g = el (f1:Nat):=⟨_,rfl⟩
 replace qf2:=hd qf2
 go_wp2_with fail
 refine (fold_v (by rw [qf1.out];exact mul_512 xlt.out ylt.out) qf2).mono ?_
 rintro e W ⟨rfl,hb⟩
 replace C:=C.trans (Chg.of_below hb)
 replace H1:=H1.later hb
 replace H2:=H2.later hb
 replace H3:=H3.later hb
 clear hb
 repeat ((fail_if_success with_reducible refine ss 25 ?_);first | go_step | dsimp only)
 refine wS (b:=n1 + 2) (o:=0) (vs:=fl f2) rfl rfl H3 (fL _) (fl_one _) size25 ?_
 simp only [Act.put]
 have hc:Chg (Rg (n1 + 2) 0 16) W (World.setCells W (n1 + 2) 0 (fl f2)):=by have:=putL_chg (w:=W) (b:=n1 + 2) (o:=0) (vs:=fl f2);rwa [show (fl f2).length = 16 from (fL _)] at this
 have H4:=putL_has (w:=W) (b:=n1 + 2) (o:=0) (vs:=fl f2) (by rw [show (fl f2).length = 16 from (fL _)];exact H3)
 replace C:=C.loc hc (by omega)
 replace H1:=H1.keep hc oa
 replace H2:=H2.keep hc oa
 clear H3
 clear hc
 refine pG (fun W=>Chg R0 w W∧Has W n1 0 (nl x)∧Has W (n1 + 1) 0 (nl y)∧Has W (n1 + 2) 0 (fl f2)) ⟨C,H1,H2,H4⟩ ?_
 clear C H1 H2 H4
 rintro W ⟨C,H1,H2,H4⟩
 go_wp2_with fail
 have e:c = f2:=by rw [h.out,qf2.out,qf1.out,←qx.out,←qy.out];push_cast;rw [el_mul,el_surj,el_surj]
 exact ret_cell (b:=n1 + 2) (o:=0) Tryz.results29 rfl H4 (fL _) agg25 size25 rfl ⟨by rw [e],C.r0⟩
theorem add_v {a b c:F} {w:World} (h:Hd (c = a + b)):Calls Tryz.prog 34 #[.agg (fl a).toArray,.agg (fl b).toArray] w (fun e w'=>e = .returned (.agg (fl c).toArray)∧Below w.heap.size w w'):=by
 obtain ⟨x,qx⟩:∃ x,a.val = x:=⟨_,rfl⟩
 obtain ⟨y,qy⟩:∃ y,b.val = y:=⟨_,rfl⟩
 rw [fl_nl a,fl_nl b,qx,qy]
 have xlt:=hd (qx ▸ val_lt a)
 have ylt:=hd (qy ▸ val_lt b)
 have x256:=hd (lt_256 xlt.out)
 have y256:=hd (lt_256 ylt.out)
 replace qx:=hd qx
 replace qy:=hd qy
 have C:Chg R0 w w:=.refl _ _
 go_enter Tryz.func34,Tryz.ntmps34
 repeat ((fail_if_success with_reducible refine sl 25 ?_);first | go_step | dsimp only)
 obtain ⟨n1,ln1⟩:∃ n,w.heap.size = n:=⟨_,rfl⟩
 rw [ln1]
 have hb:=aB [Obj.cells (nl x).toArray 25,Obj.cells (nl y).toArray 25,Obj.cells (List.replicate 16 (.int .u32 0)).toArray 25] w
 have zn1:w.heap.size ≤ n1:=ln1 ▸ C.size
 replace C:=C.trans (Chg.of_below hb)
 have H1:=aH [Obj.cells (nl x).toArray 25,Obj.cells (nl y).toArray 25,Obj.cells (List.replicate 16 (.int .u32 0)).toArray 25] w 0 _ _ rfl
 rw [ln1] at H1
 simp only [Nat.add_zero] at H1
 have H2:=aH [Obj.cells (nl x).toArray 25,Obj.cells (nl y).toArray 25,Obj.cells (List.replicate 16 (.int .u32 0)).toArray 25] w 1 _ _ rfl
 rw [ln1] at H2
 have H3:=(aH [Obj.cells (nl x).toArray 25,Obj.cells (nl y).toArray 25,Obj.cells (List.replicate 16 (.int .u32 0)).toArray 25] w 2 _ _ rfl).room (n:=16) rfl
 rw [ln1] at H3
 refine pG (fun W=>Chg R0 w W∧Has W n1 0 (nl x)∧Has W (n1 + 1) 0 (nl y)∧Room W (n1 + 2) 0 16) ⟨C,H1,H2,H3⟩ ?_
 clear C H1 H2 H3 hb ln1
 rintro W ⟨C,H1,H2,H3⟩
 refine wL (b:=n1) (o:=0) rfl H1 (nL _) agg25 size25 ?_
 simp only [Act.put,iA,iB,iC]
 repeat ((fail_if_success with_reducible refine sl 25 ?_);first | go_step | dsimp only)
 refine wL (b:=n1 + 1) (o:=0) rfl H2 (nL _) agg25 size25 ?_
 simp only [Act.put,iA,iB,iC]
 obtain ⟨f1,qf1⟩:∃ g:Nat,g = x + y:=⟨_,rfl⟩
 replace qf1:=hd qf1
 go_wp2_with fail
 refine (plus_w (by have:=xlt.out;have:=ylt.out;have:=P_lt;omega) qf1).mono ?_
 rintro e W ⟨rfl,hb⟩
 replace C:=C.trans (Chg.of_below hb)
 replace H1:=H1.later hb
 replace H2:=H2.later hb
 replace H3:=H3.later hb
 clear hb
 obtain ⟨f2,qf2⟩:∃ g:F,g = el (f1:Nat):=⟨_,rfl⟩
 replace qf2:=hd qf2
 go_wp2_with fail
 refine (fold_v (by have:=qf1.out;have:=xlt.out;have:=ylt.out;omega) qf2).mono ?_
 rintro e W ⟨rfl,hb⟩
 replace C:=C.trans (Chg.of_below hb)
 replace H1:=H1.later hb
 replace H2:=H2.later hb
 replace H3:=H3.later hb
 clear hb
 repeat ((fail_if_success with_reducible refine ss 25 ?_);first | go_step | dsimp only)
 refine wS (b:=n1 + 2) (o:=0) (vs:=fl f2) rfl rfl H3 (fL _) (fl_one _) size25 ?_
 simp only [Act.put]
 have hc:Chg (Rg (n1 + 2) 0 16) W (World.setCells W (n1 + 2) 0 (fl f2)):=by have:=putL_chg (w:=W) (b:=n1 + 2) (o:=0) (vs:=fl f2);rwa [show (fl f2).length = 16 from (fL _)] at this
 have H4:=putL_has (w:=W) (b:=n1 + 2) (o:=0) (vs:=fl f2) (by rw [show (fl f2).length = 16 from (fL _)];exact H3)
 replace C:=C.loc hc (by omega)
 replace H1:=H1.keep hc oa
 replace H2:=H2.keep hc oa
 clear H3
 clear hc
 refine pG (fun W=>Chg R0 w W∧Has W n1 0 (nl x)∧Has W (n1 + 1) 0 (nl y)∧Has W (n1 + 2) 0 (fl f2)) ⟨C,H1,H2,H4⟩ ?_
 clear C H1 H2 H4
 rintro W ⟨C,H1,H2,H4⟩
 go_wp2_with fail
 have e:c = f2:=by rw [h.out,qf2.out,qf1.out,←qx.out,←qy.out];push_cast;rw [el_add,el_surj,el_surj]
 exact ret_cell (b:=n1 + 2) (o:=0) Tryz.results34 rfl H4 (fL _) agg25 size25 rfl ⟨by rw [e],C.r0⟩
theorem sub_v {a b c:F} {w:World} (h:Hd (c = a - b)):Calls Tryz.prog 33 #[.agg (fl a).toArray,.agg (fl b).toArray] w (fun e w'=>e = .returned (.agg (fl c).toArray)∧Below w.heap.size w w'):=by
 obtain ⟨x,qx⟩:∃ x,a.val = x:=⟨_,rfl⟩
 obtain ⟨y,qy⟩:∃ y,b.val = y:=⟨_,rfl⟩
 rw [fl_nl a,fl_nl b,qx,qy]
 have xlt:=hd (qx ▸ val_lt a)
 have ylt:=hd (qy ▸ val_lt b)
 have x256:=hd (lt_256 xlt.out)
 have y256:=hd (lt_256 ylt.out)
 replace qx:=hd qx
 replace qy:=hd qy
 have C:Chg R0 w w:=.refl _ _
 go_enter Tryz.func33,Tryz.ntmps33
 go_wp2_with fail
 obtain ⟨n1,ln1⟩:∃ n,w.heap.size = n:=⟨_,rfl⟩
 rw [ln1]
 have hb:=aB [Obj.cells (nl x).toArray 25,Obj.cells (nl y).toArray 25,Obj.cells (List.replicate 16 (.int .u32 0)).toArray 25] w
 have zn1:w.heap.size ≤ n1:=ln1 ▸ C.size
 replace C:=C.trans (Chg.of_below hb)
 have H1:=aH [Obj.cells (nl x).toArray 25,Obj.cells (nl y).toArray 25,Obj.cells (List.replicate 16 (.int .u32 0)).toArray 25] w 0 _ _ rfl
 rw [ln1] at H1
 simp only [Nat.add_zero] at H1
 have H2:=aH [Obj.cells (nl x).toArray 25,Obj.cells (nl y).toArray 25,Obj.cells (List.replicate 16 (.int .u32 0)).toArray 25] w 1 _ _ rfl
 rw [ln1] at H2
 have H3:=(aH [Obj.cells (nl x).toArray 25,Obj.cells (nl y).toArray 25,Obj.cells (List.replicate 16 (.int .u32 0)).toArray 25] w 2 _ _ rfl).room (n:=16) rfl
 rw [ln1] at H3
 refine wp_gen (fun W=>Chg R0 w W∧Has W n1 0 (nl x)∧Has W (n1 + 1) 0 (nl y)∧Room W (n1 + 2) 0 16) ⟨C,H1,H2,H3⟩ ?_
 clear C H1 H2 H3 hb ln1
 rintro W ⟨C,H1,H2,H3⟩
 obtain ⟨f1,qf1⟩:∃ g:Nat,g = x + P:=⟨_,rfl⟩
 replace qf1:=hd qf1
 obtain ⟨f2,qf2⟩:∃ g:Nat,g = f1 - y:=⟨_,rfl⟩
 replace qf2:=hd qf2
 obtain ⟨f3,qf3⟩:∃ g:F,g = el (f2:Nat):=⟨_,rfl⟩
 replace qf3:=hd qf3
 refine region_fresh 6 [] (by kernel_rfl) (by kernel_rfl) (by kernel_rfl)
  (fun i v W=>match i with
   | 0=>v = .agg (nl x).toArray
   | 1=>v = .agg (nl P).toArray
   | 2=>v = .agg (nl f1).toArray
   | 3=>v = .agg (nl y).toArray
   | 4=>v = .agg (nl f2).toArray
   | 5=>v = .agg (fl f3).toArray
   | _=>True) ?_ ?_ ?_
 ·intro i v u u' h hb
  split at h<;>exact h
 ·simp only [List.take_succ_cons,List.take_zero,heads]
  refine ⟨?_,?_,?_,?_,?_,?_,trivial⟩
  ·intro a W1 hR hun hdep
   have t2:=hun 2 (by simp)
   simp at t2
   clear hun hdep
   exact opw_load (b:=n1) (o:=0) (gd t2) (Has.later H1 hR.off) (nL _) agg25 size25 ⟨_,rfl,Later.rfl' _,rfl,(fun h=>absurd h (by decide))⟩
  ·intro a W1 hR hun hdep
   clear hun hdep
   go_simp
   refine (p_v).mono ?_
   rintro e W2 ⟨rfl,hb⟩
   first | exact hb | exact ⟨hb,rfl⟩ | exact ⟨rfl,hb⟩
  ·intro a W1 hR hun hdep
   have d5:=hdep ⟨0,.data⟩ (by simp) rfl
   simp [slotOf] at d5
   have d6:=hdep ⟨1,.data⟩ (by simp) rfl
   simp [slotOf] at d6
   clear hun hdep
   go_simp
   refine (plus_w (by have:=xlt.out;have:=ylt.out;have:=P_lt;omega) qf1).mono ?_
   rintro e W2 ⟨rfl,hb⟩
   first | exact hb | exact ⟨hb,rfl⟩ | exact ⟨rfl,hb⟩
  ·intro a W1 hR hun hdep
   have t3:=hun 3 (by simp)
   simp at t3
   clear hun hdep
   exact opw_load (b:=n1 + 1) (o:=0) (gd t3) (Has.later H2 hR.off) (nL _) agg25 size25 ⟨_,rfl,Later.rfl' _,rfl,(fun h=>absurd h (by decide))⟩
  ·intro a W1 hR hun hdep
   have d7:=hdep ⟨2,.data⟩ (by simp) rfl
   simp [slotOf] at d7
   have d8:=hdep ⟨3,.data⟩ (by simp) rfl
   simp [slotOf] at d8
   clear hun hdep
   go_simp
   refine (minus_w (by have:=qf1.out;have:=ylt.out;have:=P_lt;omega) qf2).mono ?_
   rintro e W2 ⟨rfl,hb⟩
   first | exact hb | exact ⟨hb,rfl⟩ | exact ⟨rfl,hb⟩
  ·intro a W1 hR hun hdep
   have d9:=hdep ⟨4,.data⟩ (by simp) rfl
   simp [slotOf] at d9
   clear hun hdep
   go_simp
   refine (fold_v (by have:=qf1.out;have:=qf2.out;have:=xlt.out;have:=ylt.out;have:=P_lt;omega) qf3).mono ?_
   rintro e W2 ⟨rfl,hb⟩
   first | exact hb | exact ⟨hb,rfl⟩ | exact ⟨rfl,hb⟩
 ·intro vs W1 hR hv hfr
  simp only [List.take_succ_cons,List.take_zero,List.drop_succ_cons,List.drop_zero,heads,Option.isSome_some,if_true] at hv ⊢
  obtain ⟨v0,v1,v2,v3,v4,v5,-⟩:=hv
  simp only [finL,Act.put,v0,v1,v2,v3,v4,v5]
  simp only [iA,iB,iC]
  replace hR:=hR.off
  replace C:=C.trans (Chg.of_below hR)
  replace H1:=H1.later hR
  replace H2:=H2.later hR
  replace H3:=H3.later hR
  clear hR hfr v0 v1 v2 v3 v4 v5
  refine pG (fun W=>Chg R0 w W∧Has W n1 0 (nl x)∧Has W (n1 + 1) 0 (nl y)∧Room W (n1 + 2) 0 16) ⟨C,H1,H2,H3⟩ ?_
  clear C H1 H2 H3
  rintro W ⟨C,H1,H2,H3⟩
  repeat ((fail_if_success with_reducible refine ss 25 ?_);first | go_step | dsimp only)
  refine wS (b:=n1 + 2) (o:=0) (vs:=fl f3) rfl rfl H3 (fL _) (fl_one _) size25 ?_
  simp only [Act.put]
  have hc:Chg (Rg (n1 + 2) 0 16) W (World.setCells W (n1 + 2) 0 (fl f3)):=by have:=putL_chg (w:=W) (b:=n1 + 2) (o:=0) (vs:=fl f3);rwa [show (fl f3).length = 16 from (fL _)] at this
  have H4:=putL_has (w:=W) (b:=n1 + 2) (o:=0) (vs:=fl f3) (by rw [show (fl f3).length = 16 from (fL _)];exact H3)
  replace C:=C.loc hc (by omega)
  replace H1:=H1.keep hc oa
  replace H2:=H2.keep hc oa
  clear H3
  clear hc
  refine pG (fun W=>Chg R0 w W∧Has W n1 0 (nl x)∧Has W (n1 + 1) 0 (nl y)∧Has W (n1 + 2) 0 (fl f3)) ⟨C,H1,H2,H4⟩ ?_
  clear C H1 H2 H4
  rintro W ⟨C,H1,H2,H4⟩
  go_wp2_with fail
  have e:c = f3:=by
   have h1:=qf1.out;have h2:=qf2.out;have h3:=xlt.out;have h4:=ylt.out;have h5:=P_lt
   have:(f2:Int) = (x:Int) + P - y:=by omega
   rw [h.out,qf3.out,this,←qx.out,←qy.out,el_sub,el_add,el_surj,el_surj,el_P];grind
  exact ret_cell (b:=n1 + 2) (o:=0) Tryz.results33 rfl H4 (fL _) agg25 size25 rfl ⟨by rw [e],C.r0⟩
theorem sub_vz {b c:F} {w:World} (h:Hd (c = 0 - b)):Calls Tryz.prog 33 #[.agg z0.toArray,.agg (fl b).toArray] w (fun e w'=>e = .returned (.agg (fl c).toArray)∧Below w.heap.size w w'):=by
 rw [z0_fl];exact sub_v h
theorem neg_v {a c:F} {w:World} (h:Hd (c = -a)):Calls Tryz.prog 35 #[.agg (fl a).toArray] w (fun e w'=>e = .returned (.agg (fl c).toArray)∧Below w.heap.size w w'):=by
 have C:Chg R0 w w:=.refl _ _
 go_enter Tryz.func35,Tryz.ntmps35
 repeat ((fail_if_success with_reducible refine sl 25 ?_);first | go_step | dsimp only)
 obtain ⟨n1,ln1⟩:∃ n,w.heap.size = n:=⟨_,rfl⟩
 rw [ln1]
 have hb:=aB [Obj.cells (fl a).toArray 25,Obj.cells (List.replicate 16 (.int .u32 0)).toArray 25] w
 have zn1:w.heap.size ≤ n1:=ln1 ▸ C.size
 replace C:=C.trans (Chg.of_below hb)
 have H1:=aH [Obj.cells (fl a).toArray 25,Obj.cells (List.replicate 16 (.int .u32 0)).toArray 25] w 0 _ _ rfl
 rw [ln1] at H1
 simp only [Nat.add_zero] at H1
 have H2:=(aH [Obj.cells (fl a).toArray 25,Obj.cells (List.replicate 16 (.int .u32 0)).toArray 25] w 1 _ _ rfl).room (n:=16) rfl
 rw [ln1] at H2
 refine pG (fun W=>Chg R0 w W∧Has W n1 0 (fl a)∧Room W (n1 + 1) 0 16) ⟨C,H1,H2⟩ ?_
 clear C H1 H2 hb ln1
 rintro W ⟨C,H1,H2⟩
 refine wL (b:=n1) (o:=0) rfl H1 (fL _) agg25 size25 ?_
 simp only [Act.put,iA,iB,iC]
 obtain ⟨f1,qf1⟩:∃ g:F,g = 0 - a:=⟨_,rfl⟩
 replace qf1:=hd qf1
 go_wp2_with fail
 refine (sub_vz qf1).mono ?_
 rintro e W ⟨rfl,hb⟩
 replace C:=C.trans (Chg.of_below hb)
 replace H1:=H1.later hb
 replace H2:=H2.later hb
 clear hb
 repeat ((fail_if_success with_reducible refine ss 25 ?_);first | go_step | dsimp only)
 refine wS (b:=n1 + 1) (o:=0) (vs:=fl f1) rfl rfl H2 (fL _) (fl_one _) size25 ?_
 simp only [Act.put]
 have hc:Chg (Rg (n1 + 1) 0 16) W (World.setCells W (n1 + 1) 0 (fl f1)):=by have:=putL_chg (w:=W) (b:=n1 + 1) (o:=0) (vs:=fl f1);rwa [show (fl f1).length = 16 from (fL _)] at this
 have H3:=putL_has (w:=W) (b:=n1 + 1) (o:=0) (vs:=fl f1) (by rw [show (fl f1).length = 16 from (fL _)];exact H2)
 replace C:=C.loc hc (by omega)
 replace H1:=H1.keep hc oa
 clear H2
 clear hc
 refine pG (fun W=>Chg R0 w W∧Has W n1 0 (fl a)∧Has W (n1 + 1) 0 (fl f1)) ⟨C,H1,H3⟩ ?_
 clear C H1 H3
 rintro W ⟨C,H1,H3⟩
 go_wp2_with fail
 have e:c = f1:=by rw [h.out,qf1.out];grind
 exact ret_cell (b:=n1 + 1) (o:=0) Tryz.results35 rfl H3 (fL _) agg25 size25 rfl ⟨by rw [e],C.r0⟩
theorem field_v {n:Nat} {f:F} {w:World} (hn:Hd (n < 13407807929942597099574024998205846127479365820592393377723561443721764030073546976801874298166903427690031858186486050853753882811946569946433649006084096)) (h:Hd (f = el (n:Nat))):Calls Tryz.prog 36 #[.agg (nl n).toArray] w (fun e w'=>e = .returned (.agg (fl f).toArray)∧Below w.heap.size w w'):=by
 have C:Chg R0 w w:=.refl _ _
 go_enter Tryz.func36,Tryz.ntmps36
 repeat ((fail_if_success with_reducible refine sl 25 ?_);first | go_step | dsimp only)
 obtain ⟨n1,ln1⟩:∃ n,w.heap.size = n:=⟨_,rfl⟩
 rw [ln1]
 have hb:=aB [Obj.cells (nl n).toArray 25,Obj.cells (List.replicate 16 (.int .u32 0)).toArray 25] w
 have zn1:w.heap.size ≤ n1:=ln1 ▸ C.size
 replace C:=C.trans (Chg.of_below hb)
 have H1:=aH [Obj.cells (nl n).toArray 25,Obj.cells (List.replicate 16 (.int .u32 0)).toArray 25] w 0 _ _ rfl
 rw [ln1] at H1
 simp only [Nat.add_zero] at H1
 have H2:=(aH [Obj.cells (nl n).toArray 25,Obj.cells (List.replicate 16 (.int .u32 0)).toArray 25] w 1 _ _ rfl).room (n:=16) rfl
 rw [ln1] at H2
 refine pG (fun W=>Chg R0 w W∧Has W n1 0 (nl n)∧Room W (n1 + 1) 0 16) ⟨C,H1,H2⟩ ?_
 clear C H1 H2 hb ln1
 rintro W ⟨C,H1,H2⟩
 refine wL (b:=n1) (o:=0) rfl H1 (nL _) agg25 size25 ?_
 simp only [Act.put,iA,iB,iC]
 obtain ⟨f1,qf1⟩:∃ g:F,g = el (n:Nat):=⟨_,rfl⟩
 replace qf1:=hd qf1
 go_wp2_with fail
 refine (fold_v (hn.out) qf1).mono ?_
 rintro e W ⟨rfl,hb⟩
 replace C:=C.trans (Chg.of_below hb)
 replace H1:=H1.later hb
 replace H2:=H2.later hb
 clear hb
 repeat ((fail_if_success with_reducible refine ss 25 ?_);first | go_step | dsimp only)
 refine wS (b:=n1 + 1) (o:=0) (vs:=fl f1) rfl rfl H2 (fL _) (fl_one _) size25 ?_
 simp only [Act.put]
 have hc:Chg (Rg (n1 + 1) 0 16) W (World.setCells W (n1 + 1) 0 (fl f1)):=by have:=putL_chg (w:=W) (b:=n1 + 1) (o:=0) (vs:=fl f1);rwa [show (fl f1).length = 16 from (fL _)] at this
 have H3:=putL_has (w:=W) (b:=n1 + 1) (o:=0) (vs:=fl f1) (by rw [show (fl f1).length = 16 from (fL _)];exact H2)
 replace C:=C.loc hc (by omega)
 replace H1:=H1.keep hc oa
 clear H2
 clear hc
 refine pG (fun W=>Chg R0 w W∧Has W n1 0 (nl n)∧Has W (n1 + 1) 0 (fl f1)) ⟨C,H1,H3⟩ ?_
 clear C H1 H3
 rintro W ⟨C,H1,H3⟩
 go_wp2_with fail
 have e:f = f1:=by rw [h.out,qf1.out]
 exact ret_cell (b:=n1 + 1) (o:=0) Tryz.results36 rfl H3 (fL _) agg25 size25 rfl ⟨by rw [e],C.r0⟩
end Go.Proofs.Ed
