/- A part of the proof of the tied card of FnTimes: Vo, Lw0, Vf0. -/
import Derived.Test.YtcogfofgmbndjaaGreatDoorProg
import Derived.WalkKit
import Derived.WalkSpells
import Derived.WalkLawsBesides
import Derived.Outline
import Derived.StillTailTactics
import Derived.Laws.IdiomCopy
import Derived.Test.YtcogfofgmbndjaaGreatDoorTAn
import Derived.Test.YtcogfofgmbndjaaGreatDoorTAv
import Derived.Test.YtcogfofgmbndjaaGreatDoorTAp
import Derived.Test.YtcogfofgmbndjaaGreatDoorTAb
import Derived.Test.YtcogfofgmbndjaaGreatDoorTAm
set_option maxRecDepth 100000
set_option maxHeartbeats 40000000
namespace Go.Proofs.Ed
open Go.RowKit
def byL (g:Nat→Nat) (L:Nat):List Value:=(List.range L).map fun j=>.int .u8 (g j:Nat)
theorem byL_length (g:Nat→Nat) (L:Nat):(byL g L).length = L:=by simp [byL]
theorem byL_get (g:Nat→Nat) {L i:Nat} (hi:i < L):(byL g L)[i]? = some (.int .u8 (g i:Nat)):=by simp [byL,hi]
theorem byL_congr {f g:Nat→Nat} {L:Nat} (h:∀ j,j < L→f j = g j):byL f L = byL g L:=by
 simp only [byL]
 apply List.map_congr_left
 intro j hj
 rw [h j (by simpa using hj)]
theorem byL_set (f:Nat→Nat) (L i v:Nat):(byL f L).set i (.int .u8 (v:Nat)) = byL (updN f i v) L:=by
 apply List.ext_getElem?
 intro j
 by_cases hj:j < L
 ·rw [List.getElem?_set,byL_get _ hj,byL_length]
  rw [byL_get _ hj]
  by_cases h:i = j
  ·subst h;simp [hj,updN]
  ·have:j ≠ i:=fun e=>h e.symm
   simp [h,this,updN]
 ·rw [List.getElem?_eq_none (by rw [List.length_set,byL_length];omega),List.getElem?_eq_none (by rw [byL_length];omega)]
theorem Has.cellB {w:World} {b o L:Nat} {g:Nat→Nat} (h:Has w b o (byL g L)) {i:Nat} (hi:i < L):w.cell? ⟨b,o + i,none⟩ = some (.int .u8 (g i:Nat))∧w.frozen? ⟨b,o + i,none⟩ = false:=by
 have:=h i (by rw [byL_length];exact hi)
 rwa [byL_get g hi] at this
attribute [irreducible] byL
def bnum (g:Nat→Nat):Nat→Nat
 | 0=>0
 | k + 1=>bnum g k + 2 ^ (8 * k) * g k
theorem bnum_lt {g:Nat→Nat} (hg:∀ j,g j < 256) (k:Nat):bnum g k < 2 ^ (8 * k):=by
 induction k with
 | zero=>simp [bnum]
 | succ k ih =>
  have:=hg k
  unfold bnum
  rw [show 8 * (k + 1) = 8 * k + 8 by omega,Nat.pow_add]
  have h2:2 ^ (8 * k) * (g k + 1) ≤ 2 ^ (8 * k) * 2 ^ 8:=Nat.mul_le_mul_left _ (by omega)
  rw [Nat.mul_add] at h2
  omega
theorem bnum_succ (g:Nat→Nat) (k:Nat):bnum g (k + 1) = bnum g k + 2 ^ (8 * k) * g k:=rfl
theorem bnum_zero (g:Nat→Nat):bnum g 0 = 0:=rfl
attribute [irreducible] bnum
theorem dig_add_gen {n m i e:Nat} (h:32 * (i + 1) ≤ e):dig (n + 2 ^ e * m) i = dig n i:=by
 unfold dig
 obtain ⟨t,ht⟩:∃ t,e = 32 * i + (32 + t):=⟨e - 32 * i - 32,by omega⟩
 have hp:0 < 2 ^ (32 * i):=Nat.pow_pos (by decide)
 rw [ht,Nat.pow_add,Nat.mul_assoc,Nat.add_mul_div_left _ _ hp,Nat.pow_add,show 4294967296 = 2 ^ 32 by decide,Nat.mul_assoc,Nat.add_mul_mod_self_left]
theorem word_lt {n k:Nat} (hn:n < 2 ^ (8 * k)):dig n (k / 4) < 2 ^ (8 * (k % 4)):=by
 unfold dig
 refine Nat.lt_of_le_of_lt (Nat.mod_le _ _) (Nat.div_lt_of_lt_mul ?_)
 rw [←Nat.pow_add,show 32 * (k / 4) + 8 * (k % 4) = 8 * k by omega]
 exact hn
theorem of_word {n k x:Nat} (hn:n < 2 ^ (8 * k)) (hx:x < 256):(nl n).set (k / 4) (.int .u32 ((dig n (k / 4) + x * 2 ^ (8 * (k % 4)):Nat):Int)) = nl (n + 2 ^ (8 * k) * x):=by
 unfold nl
 rw [lst_set]
 apply lst_congr
 intro i _
 unfold updN
 by_cases h:i = k / 4
 ·rw [if_pos h]
  subst h
  have h1:=word_lt hn
  unfold dig at h1 ⊢
  have hp:0 < 2 ^ (32 * (k / 4)):=Nat.pow_pos (by decide)
  have e:2 ^ (8 * k) = 2 ^ (32 * (k / 4)) * 2 ^ (8 * (k % 4)):=by rw [←Nat.pow_add,show 32 * (k / 4) + 8 * (k % 4) = 8 * k by omega]
  have h2:n / 2 ^ (32 * (k / 4)) < 2 ^ (8 * (k % 4)):=Nat.div_lt_of_lt_mul (by rw [←e];exact hn)
  rw [e,Nat.mul_assoc,Nat.add_mul_div_left _ _ hp]
  have h3:2 ^ (8 * (k % 4)) * (x + 1) ≤ 2 ^ (8 * (k % 4)) * 256:=Nat.mul_le_mul_left _ (by omega)
  have h4:2 ^ (8 * (k % 4)) * 256 ≤ 4294967296:=by
   have:k % 4 = 0∨k % 4 = 1∨k % 4 = 2∨k % 4 = 3:=by omega
   rcases this with h | h | h | h<;>rw [h]<;>decide
  rw [Nat.mul_add] at h3
  rw [Nat.mul_comm x]
  generalize 2 ^ (8 * (k % 4)) * x = y at *
  generalize n / 2 ^ (32 * (k / 4)) = q at *
  omega
 ·rw [if_neg h]
  by_cases h2:i < k / 4
  ·rw [dig_add_gen (by omega)]
  ·have h3:n + 2 ^ (8 * k) * x < 2 ^ (32 * i):=by
    have h4:2 ^ (8 * k) * (x + 1) ≤ 2 ^ (8 * k) * 2 ^ 8:=Nat.mul_le_mul_left _ (by omega)
    rw [←Nat.pow_add,Nat.mul_add] at h4
    have h5:2 ^ (8 * k + 8) ≤ 2 ^ (32 * i):=Nat.pow_le_pow_right (by decide) (by omega)
    omega
   rw [dig_big h3,dig_big (by omega)]
theorem or_word {d x r:Nat} (hr:r < 4) (hd:d < 2 ^ (8 * r)) (hx:x < 256):bits BinOp.or IntKind.u32 (d:Int) ((x * 2 ^ (8 * r):Nat):Int) = ((d + x * 2 ^ (8 * r):Nat):Int):=by
 have h4:2 ^ (8 * r) * 256 ≤ 4294967296:=by
  have:r = 0∨r = 1∨r = 2∨r = 3:=by omega
  rcases this with h | h | h | h<;>rw [h]<;>decide
 have h3:(x + 1) * 2 ^ (8 * r) ≤ 256 * 2 ^ (8 * r):=Nat.mul_le_mul_right _ (by omega)
 rw [Nat.add_mul] at h3
 rw [u32_or_nat _ _ (by omega) (by omega)]
 congr 1
 have:=Nat.shiftLeft_add_eq_or_of_lt (a:=x) (b:=d) (i:=8 * r) hd
 rw [Nat.shiftLeft_eq] at this
 rw [Nat.or_comm,←this,Nat.add_comm]
theorem shl_bd {x r:Nat} (hr:r < 4) (hx:x < 256):x * 2 ^ (8 * r) < 4294967296:=by
 have h4:2 ^ (8 * r) * 256 ≤ 4294967296:=by
  have:r = 0∨r = 1∨r = 2∨r = 3:=by omega
  rcases this with h | h | h | h<;>rw [h]<;>decide
 have h3:(x + 1) * 2 ^ (8 * r) ≤ 256 * 2 ^ (8 * r):=Nat.mul_le_mul_right _ (by omega)
 have:0 < 2 ^ (8 * r):=Nat.pow_pos (by decide)
 rw [Nat.add_mul] at h3
 omega
theorem of_v {g:Nat→Nat} {L k o cap n:Nat} {w:World} (hL:L ≤ 64) (hcap:L ≤ cap) (hg:∀ j,g j < 256) (X:Has w k o (byL g L)) (hx:k < w.heap.size) (h:Hd (n = bnum g L)) :
  Calls Tryz.prog 17 #[.slice (some ⟨k,o,none⟩) L cap] w (fun e w'=>e = .returned (.agg (nl n).toArray)∧Below w.heap.size w w'):=by
 have gb:=hd hg
 clear hg
 have m1:(L:Int) ≤ 64:=by omega
 go_enter Tryz.func17,Tryz.ntmps17
 go_wp2_with fail
 have C:Chg R0 w w:=.refl _ _
 obtain ⟨n1,l1⟩:∃ n,w.heap.size = n:=⟨_,rfl⟩
 rw [l1] at hx ⊢
 have z1:w.heap.size ≤ n1:=l1 ▸ Nat.le_refl _
 have hb:=aB [Obj.cells z16.toArray 25,Obj.cells z16.toArray 25] w
 have H0:=(aH [Obj.cells z16.toArray 25,Obj.cells z16.toArray 25] w 0 _ _ rfl).room (n:=16) rfl
 have H1:=aH [Obj.cells z16.toArray 25,Obj.cells z16.toArray 25] w 1 _ _ rfl
 rw [l1] at H0 H1
 refine wp_gen (fun W=>Chg R0 w W∧Has W k o (byL g L)∧Room W n1 0 16∧Has W (n1 + 1) 0 z16) ⟨C.trans (Chg.of_below hb),X.later hb,H0,H1⟩ ?_
 clear C hb l1 X H0 H1
 rintro W ⟨C,X,H0,H1⟩
 replace H1:Has W (n1 + 1) 0 (nl (bnum g 0)):=by rw [bnum_zero,nl_zero];exact H1
 go_loopw [12] (fun i W=>∃ j:Nat,j ≤ L∧i = .int .i64 j∧Chg R0 w W∧Has W k o (byL g L)∧Room W n1 0 16∧Has W (n1 + 1) 0 (nl (bnum g j))) (fun i _=>L - (intOf i).toNat)
 case atStart=>exact ⟨0,by omega,rfl,C,X,H0,H1⟩
 case round =>
  clear C X H0 H1
  obtain ⟨j,hj,rfl,C,X,H0,H1⟩:=hrel
  by_cases hlt:j < L
  ·have cX:=(X.cellB hlt).1
   have bx:=gb.out j
   have bn:=bnum_lt gb.out j
   have hs:=bnum_succ g j
   obtain ⟨x,qx⟩:∃ x,g j = x:=⟨_,rfl⟩
   obtain ⟨m,qm⟩:∃ x,bnum g j = x:=⟨_,rfl⟩
   rw [qx] at cX bx hs
   rw [qm] at bn hs H1
   clear qx qm
   have cM:=H1.cellD (i:=j / 4) (by omega)
   rw [Nat.zero_add] at cM
   have wl:=word_lt bn
   have ow:=of_word bn bx
   rw [←hs] at ow
   obtain ⟨d,qd⟩:∃ d,dig m (j / 4) = d:=⟨_,rfl⟩
   rw [qd] at cM wl ow
   have orw:=or_word (r:=j % 4) (by omega) wl bx
   have sb:=shl_bd (r:=j % 4) (by omega) bx
   replace ow:=hd ow
   replace orw:=hd orw
   replace bn:=hd bn
   replace wl:=hd wl
   replace hs:=hd hs
   clear qd
   have q1:((j:Int)).tdiv 4 = ((j / 4:Nat):Int):=by rw [Int.tdiv_eq_ediv_of_nonneg (by omega)];omega
   have q2:((j:Int)).tmod 4 = ((j % 4:Nat):Int):=by rw [Int.tmod_eq_emod_of_nonneg (by omega)];omega
   have q3:((j / 4:Nat):Int) < 16:=by omega
   have q4:IntKind.i64.wrap ((j:Int) / 4) = ((j / 4:Nat):Int):=i64_word' (by omega) (by omega)
   have q5:IntKind.i64.wrap ((j:Int) % 4) = ((j % 4:Nat):Int):=i64_word' (by omega) (by omega)
   have q6:IntKind.i64.wrap (8 * ((j % 4:Nat):Int)) = ((8 * (j % 4):Nat):Int):=i64_word' (by omega) (by omega)
   have q7:(j:Int) / 4 < 16:=by omega
   have q8:0 ≤ (j:Int) / 4:=by omega
   have q9:((j:Int) / 4).toNat = j / 4:=by omega
   have r1:IntKind.i64.wrap (8 * ((j:Int) % 4)) = 8 * ((j:Int) % 4):=i64_word _ (by omega)
   have r2:0 ≤ 8 * ((j:Int) % 4):=by omega
   have r3:(8 * ((j:Int) % 4)).toNat = 8 * (j % 4):=by omega
   have r4:¬ 8 * ((j:Int) % 4) < 0:=by omega
   have kL:(j:Int) < L:=by omega
   go_wp2_with fail
   go_still_tail 12,(by kernel_rfl)
   go_wp2_with fail
   have e1:((x:Int) * 2 ^ (8 * (j % 4)) % 4294967296) = ((x * 2 ^ (8 * (j % 4)):Nat):Int):=by
    rw [show ((x:Int) * 2 ^ (8 * (j % 4))) = ((x * 2 ^ (8 * (j % 4)):Nat):Int) by push_cast;rfl];omega
   rw [e1,orw.out]
   have h1:=H1.set (j / 4) (by omega:j / 4 = 0 + j / 4) (.int .u32 ((d + x * 2 ^ (8 * (j % 4)):Nat):Int))
   rw [ow.out] at h1
   exact ⟨⟨j + 1,by omega,by push_cast;rfl,(C.setCell _ (fun h=>absurd h (Nat.not_lt.2 (by omega)))).drew,X.off _ (fun e=>by omega),(Chg.set1 _ _ _ _).room H0,h1⟩,by simp [intOf];omega⟩
  ·obtain rfl:j = L:=by omega
   rw [←h.out] at H1
   repeat ((fail_if_success with_reducible refine sl 25 ?_);first | go_step | dsimp only)
   refine wL (b:=n1 + 1) (o:=0) rfl H1 (nL _) agg25 size25 ?_
   simp only [Act.put,iA,iB,iC]
   repeat ((fail_if_success with_reducible refine ss 25 ?_);first | go_step | dsimp only)
   refine wS (b:=n1) (o:=0) rfl rfl H0 (nL _) (nl_one _) size25 ?_
   simp only [Act.put]
   have hc:Chg (Rg (n1) 0 16) wr (World.setCells wr (n1) 0 (nl n)):=by have:=putL_chg (w:=wr) (b:=n1) (o:=0) (vs:=nl n);rwa [show (nl n).length = 16 from (nL _)] at this
   have HR:=putL_has (w:=wr) (b:=n1) (o:=0) (vs:=nl n) (by rw [show (nl n).length = 16 from (nL _)];exact H0)
   replace C:=C.loc hc (by omega)
   clear hc H0 H1 X
   go_wp2_with fail
   exact ret_cell (b:=n1) (o:=0) Tryz.results17 rfl HR (nL _) agg25 size25 rfl ⟨rfl,C.r0⟩
def byF (n k:Nat):Nat→Nat:=fun j=>if j < k then n / 2 ^ (8 * j) % 256 else 0
theorem byF_set (n k:Nat) {v:Nat} (hv:v = n / 2 ^ (8 * k) % 256):(byL (byF n k) 32).set k (.int .u8 (v:Nat)) = byL (byF n (k + 1)) 32:=by
 rw [byL_set]
 apply byL_congr
 intro j _
 unfold updN byF
 by_cases h:j = k
 ·subst h;rw [if_pos rfl,if_pos (by omega),hv]
 ·rw [if_neg h]
  by_cases h2:j < k
  ·rw [if_pos h2,if_pos (by omega)]
  ·rw [if_neg h2,if_neg (by omega)]
theorem byte_dig (n i:Nat):dig n (i / 4) / 2 ^ (8 * (i % 4)) % 256 = n / 2 ^ (8 * i) % 256:=by
 unfold dig
 have h2:2 ^ (8 * i) = 2 ^ (32 * (i / 4)) * 2 ^ (8 * (i % 4)):=by rw [←Nat.pow_add];congr 1;omega
 rw [h2,←Nat.div_div_eq_div_mul]
 generalize n / 2 ^ (32 * (i / 4)) = m
 obtain ⟨t,ht⟩:∃ t,32 = 8 * (i % 4) + (8 + t):=⟨24 - 8 * (i % 4),by omega⟩
 rw [show 4294967296 = 2 ^ (8 * (i % 4) + (8 + t)) by rw [←ht],Nat.pow_add,Nat.mod_mul_right_div_self,Nat.pow_add]
 exact Nat.mod_mod_of_dvd _ ⟨2 ^ t,rfl⟩
theorem byL_32 (n:Nat):byL (byF n 32) 32 = [.int .u8 ((n / 1 % 256:Nat):Int),.int .u8 ((n / 256 % 256:Nat):Int),.int .u8 ((n / 65536 % 256:Nat):Int),.int .u8 ((n / 16777216 % 256:Nat):Int),.int .u8 ((n / 4294967296 % 256:Nat):Int),.int .u8 ((n / 1099511627776 % 256:Nat):Int),.int .u8 ((n / 281474976710656 % 256:Nat):Int),.int .u8 ((n / 72057594037927936 % 256:Nat):Int),.int .u8 ((n / 18446744073709551616 % 256:Nat):Int),.int .u8 ((n / 4722366482869645213696 % 256:Nat):Int),.int .u8 ((n / 1208925819614629174706176 % 256:Nat):Int),.int .u8 ((n / 309485009821345068724781056 % 256:Nat):Int),.int .u8 ((n / 79228162514264337593543950336 % 256:Nat):Int),.int .u8 ((n / 20282409603651670423947251286016 % 256:Nat):Int),.int .u8 ((n / 5192296858534827628530496329220096 % 256:Nat):Int),.int .u8 ((n / 1329227995784915872903807060280344576 % 256:Nat):Int),.int .u8 ((n / 340282366920938463463374607431768211456 % 256:Nat):Int),.int .u8 ((n / 87112285931760246646623899502532662132736 % 256:Nat):Int),.int .u8 ((n / 22300745198530623141535718272648361505980416 % 256:Nat):Int),.int .u8 ((n / 5708990770823839524233143877797980545530986496 % 256:Nat):Int),.int .u8 ((n / 1461501637330902918203684832716283019655932542976 % 256:Nat):Int),.int .u8 ((n / 374144419156711147060143317175368453031918731001856 % 256:Nat):Int),.int .u8 ((n / 95780971304118053647396689196894323976171195136475136 % 256:Nat):Int),.int .u8 ((n / 24519928653854221733733552434404946937899825954937634816 % 256:Nat):Int),.int .u8 ((n / 6277101735386680763835789423207666416102355444464034512896 % 256:Nat):Int),.int .u8 ((n / 1606938044258990275541962092341162602522202993782792835301376 % 256:Nat):Int),.int .u8 ((n / 411376139330301510538742295639337626245683966408394965837152256 % 256:Nat):Int),.int .u8 ((n / 105312291668557186697918027683670432318895095400549111254310977536 % 256:Nat):Int),.int .u8 ((n / 26959946667150639794667015087019630673637144422540572481103610249216 % 256:Nat):Int),.int .u8 ((n / 6901746346790563787434755862277025452451108972170386555162524223799296 % 256:Nat):Int),.int .u8 ((n / 1766847064778384329583297500742918515827483896875618958121606201292619776 % 256:Nat):Int),.int .u8 ((n / 452312848583266388373324160190187140051835877600158453279131187530910662656 % 256:Nat):Int)]:=by kernel_rfl
theorem by32_byL (n:Nat):byL (byF n 32) 32 = by32 (n:Nat):=by
 rw [byL_32]
 simp only [by32,by8,List.cons_append,List.nil_append,List.cons.injEq,Value.int.injEq,true_and,and_true]
 refine ⟨?_,?_,?_,?_,?_,?_,?_,?_,?_,?_,?_,?_,?_,?_,?_,?_,?_,?_,?_,?_,?_,?_,?_,?_,?_,?_,?_,?_,?_,?_,?_,?_⟩<;>omega
theorem mk32 (w:World):(Instr.makeSlice 22 (.int .i64 32) (.int .i64 32)).run Tryz.prog w = .ok (.slice (some ⟨w.heap.size,0,none⟩) 32 32) (w.alloc (.cells (List.replicate 32 (.int .u8 0)).toArray 5)):=by kernel_rfl
theorem bytes_v {n:Nat} {w:World}:Calls Tryz.prog 8 #[.agg (nl n).toArray] w (fun e w'=>∃ k,w.heap.size ≤ k∧e = .returned (.slice (some ⟨k,0,none⟩) 32 32)∧Below w.heap.size w w'∧Has w' k 0 (by32 (n:Nat))∧TY w' k 5):=by
 have hE:=hd (by32_byL n)
 have mk:=mk32
 go_enter Tryz.func8,Tryz.ntmps8
 go_wp2_with fail
 clear mk
 have C:Chg R0 w w:=.refl _ _
 obtain ⟨n1,l1⟩:∃ n,w.heap.size = n:=⟨_,rfl⟩
 rw [l1]
 have z1:w.heap.size ≤ n1:=l1 ▸ Nat.le_refl _
 have hb:=aB [Obj.cells (nl n).toArray 25,Obj.cells (List.replicate 32 (.int .u8 0)).toArray 5] w
 have H0:=aH [Obj.cells (nl n).toArray 25,Obj.cells (List.replicate 32 (.int .u8 0)).toArray 5] w 0 _ _ rfl
 rw [l1] at H0
 have T1:TY (allocL w [Obj.cells (nl n).toArray 25,Obj.cells (List.replicate 32 (.int .u8 0)).toArray 5]) (w.heap.size + 1) 5:=by have:=TY.new (w.alloc (Obj.cells (nl n).toArray 25)) (List.replicate 32 (.int .u8 0)) 5;rwa [size_alloc] at this
 rw [l1] at T1
 have H1:=aH [Obj.cells (nl n).toArray 25,Obj.cells (List.replicate 32 (.int .u8 0)).toArray 5] w 1 _ _ rfl
 rw [l1] at H1
 refine wp_gen (fun W=>Chg R0 w W∧Has W n1 0 (nl n)∧Has W (n1 + 1) 0 (List.replicate 32 (.int .u8 0))∧TY W (n1 + 1) 5) ⟨C.trans (Chg.of_below hb),H0,H1,T1⟩ ?_
 clear C hb l1 H0 H1 T1
 rintro W ⟨C,H0,H1,T1⟩
 replace H1:Has W (n1 + 1) 0 (byL (byF n 0) 32):=by rw [show byL (byF n 0) 32 = List.replicate 32 (.int .u8 0) by kernel_rfl];exact H1
 go_loopw [8] (fun i W=>∃ j:Nat,j ≤ 32∧i = .int .i64 j∧Chg R0 w W∧Has W n1 0 (nl n)∧Has W (n1 + 1) 0 (byL (byF n j) 32)∧TY W (n1 + 1) 5) (fun i _=>32 - (intOf i).toNat)
 case atStart=>exact ⟨0,by omega,rfl,C,H0,H1,T1⟩
 case round =>
  clear C H0 H1 T1
  obtain ⟨j,hj,rfl,C,H0,H1,T1⟩:=hrel
  by_cases hlt:j < 32
  ·have cX:=H0.cellD (i:=j / 4) (by omega)
   have cY:=H1.cellB (i:=j) hlt
   rw [Nat.zero_add] at cX cY
   have dX:=dig_lt n (j / 4)
   have bd:=byte_dig n j
   obtain ⟨d,qd⟩:∃ d,dig n (j / 4) = d:=⟨_,rfl⟩
   rw [qd] at cX dX bd
   replace bd:=hd bd
   clear qd
   have q1:((j:Int)).tdiv 4 = ((j / 4:Nat):Int):=by rw [Int.tdiv_eq_ediv_of_nonneg (by omega)];omega
   have q2:((j:Int)).tmod 4 = ((j % 4:Nat):Int):=by rw [Int.tmod_eq_emod_of_nonneg (by omega)];omega
   have q3:((j / 4:Nat):Int) < 16:=by omega
   have q4:IntKind.i64.wrap ((j:Int) / 4) = ((j / 4:Nat):Int):=i64_word' (by omega) (by omega)
   have q5:IntKind.i64.wrap ((j:Int) % 4) = ((j % 4:Nat):Int):=i64_word' (by omega) (by omega)
   have q7:(j:Int) / 4 < 16:=by omega
   have q8:0 ≤ (j:Int) / 4:=by omega
   have q9:((j:Int) / 4).toNat = j / 4:=by omega
   have r1:IntKind.i64.wrap (8 * ((j:Int) % 4)) = 8 * ((j:Int) % 4):=i64_word _ (by omega)
   have r2:0 ≤ 8 * ((j:Int) % 4):=by omega
   have r3:(8 * ((j:Int) % 4)).toNat = 8 * (j % 4):=by omega
   have r4:¬ 8 * ((j:Int) % 4) < 0:=by omega
   have kL:(j:Int) < 32:=by omega
   go_wp2_with fail
   have e1:((d:Int) / 2 ^ (8 * (j % 4)) % 256) = ((n / 2 ^ (8 * j) % 256:Nat):Int):=by rw [←bd.out];push_cast;rfl
   rw [e1]
   have h1:=H1.set j (by omega:j = 0 + j) (.int .u8 ((n / 2 ^ (8 * j) % 256:Nat):Int))
   rw [byF_set n j rfl] at h1
   exact ⟨⟨j + 1,by omega,by push_cast;rfl,C.setCell _ (fun h=>absurd h (Nat.not_lt.2 (by omega))),H0.off _ (fun e=>by omega),h1,(Chg.set1 _ _ _ _).ty T1⟩,by simp [intOf];omega⟩
  ·obtain rfl:j = 32:=by omega
   rw [hE.out] at H1
   go_wp2_with fail
   go_ret
   exact ⟨n1 + 1,by omega,rfl,C.r0,H1,T1⟩
open Go.RowKit
def Arg (w:World) (a:Option Addr) (L:Nat) (f:Nat→Nat):Prop :=
 (∀ j,f j < 256)∧(∀ j,L ≤ j→f j = 0)∧(0 < L→∃ b o,a = some ⟨b,o,none⟩∧∀ i,i < L→w.cell? ⟨b,o + i,none⟩ = some (.int .u8 (f i:Nat)))
theorem Arg.later {w w':World} {a:Option Addr} {L:Nat} {f:Nat→Nat} (h:Arg w a L f) (hb:Below w.heap.size w w'):Arg w' a L f:=by
 refine ⟨h.1,h.2.1,fun hL=>?_⟩
 obtain ⟨b,o,e,hc⟩:=h.2.2 hL
 refine ⟨b,o,e,fun i hi=>?_⟩
 rw [(Chg.of_below (R:=R0) hb).cell (lt_of_cell (hc i hi)) (fun h=>h)]
 exact hc i hi
theorem byL_one (f:Nat→Nat) (L:Nat):∀ v ∈ byL f L,v.oneCell' = true:=by
 intro v hv
 simp only [byL,List.mem_map] at hv
 obtain ⟨j,_,rfl⟩:=hv
 rfl
theorem copied {W:World} {k n L:Nat} {f:Nat→Nat} (R:Has W k 0 (List.replicate n (.int .u8 0))) (hf:∀ j,L ≤ j→f j = 0):Has (W.setCells k 0 (byL f (min L n))) k 0 (byL f n):=by
 have RM:Room W k 0 n:=R.room (List.length_replicate ..)
 intro i hi
 rw [byL_length] at hi
 rw [byL_get f hi]
 by_cases h:i < min L n
 ·have:=putL_has (vs:=byL f (min L n)) (w:=W) (b:=k) (o:=0) (RM.part (Nat.le_refl _) (by rw [byL_length];omega)) i (by rw [byL_length];exact h)
  rwa [byL_get f h] at this
 ·have hc:Chg (Rg k 0 (min L n)) W (W.setCells k 0 (byL f (min L n))):=by have:=putL_chg (w:=W) (b:=k) (o:=0) (vs:=byL f (min L n));rwa [byL_length] at this
  have h0:=R i (by rw [List.length_replicate];exact hi)
  rw [List.getElem?_replicate,if_pos hi] at h0
  have hk:k < W.heap.size:=lt_of_cell h0.1
  rw [hc.cell hk (fun hh=>by have:=hh.2.2;omega),hc.frozen hk,h0.1,hf i (by omega)]
  exact ⟨rfl,h0.2⟩
theorem mks32 (w:World):(Instr.makeSlice 22 (.int .i64 32) (.int .i64 32)).run Tryz.prog w = .ok (.slice (some ⟨w.heap.size,0,none⟩) 32 32) (w.alloc (Obj.cells (List.replicate 32 (.int .u8 0)).toArray 5)):=by kernel_rfl
theorem sized32_e {a:Option Addr} {L c:Nat} {f:Nat→Nat} {w:World} (A:Arg w a L f) :
  Calls Tryz.prog 15 #[.slice a L c,.int .i64 32] w (fun e w'=>∃ k,w.heap.size ≤ k∧e = .returned (.slice (some ⟨k,0,none⟩) 32 32)∧Below w.heap.size w w'∧Has w' k 0 (byL f 32)):=by
 have mk:=mks32
 have hf:=hd A.2.1
 go_enter Tryz.func15,Tryz.ntmps15
 repeat ((fail_if_success with_reducible show wpList _ _ _ (⟨some 8,_,_,_,_,_⟩ :: _) _ _);(first | go_values | go_skip | go_guarded | go_step | go_upon | dsimp only))
 clear mk
 obtain ⟨n1,l1⟩:∃ n,w.heap.size = n:=⟨_,rfl⟩
 rw [l1]
 have zn1:w.heap.size ≤ n1:=l1 ▸ Nat.le_refl _
 have hb:=bA w (Obj.cells (List.replicate 32 (.int .u8 0)).toArray 5)
 have R:=Has.new w (List.replicate 32 (.int .u8 0)) 5
 rw [l1] at R
 have C:Chg R0 w w:=.refl _ _
 refine pG (fun W=>Chg R0 w W∧Arg W a L f∧Has W n1 0 (List.replicate 32 (.int .u8 0))) ⟨C.trans (Chg.of_below hb),A.later hb,R⟩ ?_
 clear C A R hb l1
 rintro W ⟨C,A,R⟩
 have H:=copied (L:=L) R hf.out
 have RM:Room W n1 0 32:=R.room (List.length_replicate ..)
 have hc:Chg (Rg n1 0 (min L 32)) W (W.setCells n1 0 (byL f (min L 32))):=by have:=putL_chg (w:=W) (b:=n1) (o:=0) (vs:=byL f (min L 32));rwa [byL_length] at this
 have hcp:(Builtin.copy_ #[22,22] 3 #[.slice (some ⟨n1,0,none⟩) 32 32,.slice a L c]).run Tryz.prog W = .ok (goInt ((min L 32:Nat):Int)) (W.setCells n1 0 (byL f (min L 32))):=by
  by_cases hL:0 < L
  ·obtain ⟨b,o,rfl,hx⟩:=A.2.2 hL
   have:=run_copy_cells (P:=Tryz.prog) W 22 22 3 5 n1 0 32 32 ⟨b,o,none⟩ L c (byL f (min L 32)) (by kernel_rfl) (by kernel_rfl) (byL_length _ _)
    (fun j v hj=>by
     have hj2:j < min L 32:=by have:=(List.getElem?_eq_some_iff.1 hj).1;rwa [byL_length] at this
     rw [byL_get f hj2] at hj
     rw [add_plain,hx j (by omega)];exact hj)
    (fun j hj=>by rw [byL_length] at hj;obtain ⟨⟨u,hu⟩,-⟩:=RM j (by omega);rw [hu];rfl) (fun j hj=>by rw [byL_length] at hj;exact (RM j (by omega)).2) (byL_one _ _)
   rwa [byL_length] at this
  ·have h0:min L 32 = 0:=by omega
   rw [h0,show byL f 0 = [] from List.eq_nil_of_length_eq_zero (byL_length _ _)]
   exact run_copy_none (P:=Tryz.prog) W 22 22 3 5 (some ⟨n1,0,none⟩) a 32 32 L c (by kernel_rfl) (by kernel_rfl) h0
 replace C:=hd (C.step hc (fun _ _ hj h=>absurd (h.1 ▸ hj) (Nat.not_lt.2 zn1)))
 replace H:=hd H
 clear R RM hc A hf
 go_wp2_with fail
 go_ret
 exact ⟨n1,zn1,rfl,C.out.r0,H.out⟩
theorem mks64 (w:World):(Instr.makeSlice 22 (.int .i64 64) (.int .i64 64)).run Tryz.prog w = .ok (.slice (some ⟨w.heap.size,0,none⟩) 64 64) (w.alloc (Obj.cells (List.replicate 64 (.int .u8 0)).toArray 5)):=by kernel_rfl
theorem sized64_e {a:Option Addr} {L c:Nat} {f:Nat→Nat} {w:World} (A:Arg w a L f) :
  Calls Tryz.prog 15 #[.slice a L c,.int .i64 64] w (fun e w'=>∃ k,w.heap.size ≤ k∧e = .returned (.slice (some ⟨k,0,none⟩) 64 64)∧Below w.heap.size w w'∧Has w' k 0 (byL f 64)):=by
 have mk:=mks64
 have hf:=hd A.2.1
 go_enter Tryz.func15,Tryz.ntmps15
 repeat ((fail_if_success with_reducible show wpList _ _ _ (⟨some 8,_,_,_,_,_⟩ :: _) _ _);(first | go_values | go_skip | go_guarded | go_step | go_upon | dsimp only))
 clear mk
 obtain ⟨n1,l1⟩:∃ n,w.heap.size = n:=⟨_,rfl⟩
 rw [l1]
 have zn1:w.heap.size ≤ n1:=l1 ▸ Nat.le_refl _
 have hb:=bA w (Obj.cells (List.replicate 64 (.int .u8 0)).toArray 5)
 have R:=Has.new w (List.replicate 64 (.int .u8 0)) 5
 rw [l1] at R
 have C:Chg R0 w w:=.refl _ _
 refine pG (fun W=>Chg R0 w W∧Arg W a L f∧Has W n1 0 (List.replicate 64 (.int .u8 0))) ⟨C.trans (Chg.of_below hb),A.later hb,R⟩ ?_
 clear C A R hb l1
 rintro W ⟨C,A,R⟩
 have H:=copied (L:=L) R hf.out
 have RM:Room W n1 0 64:=R.room (List.length_replicate ..)
 have hc:Chg (Rg n1 0 (min L 64)) W (W.setCells n1 0 (byL f (min L 64))):=by have:=putL_chg (w:=W) (b:=n1) (o:=0) (vs:=byL f (min L 64));rwa [byL_length] at this
 have hcp:(Builtin.copy_ #[22,22] 3 #[.slice (some ⟨n1,0,none⟩) 64 64,.slice a L c]).run Tryz.prog W = .ok (goInt ((min L 64:Nat):Int)) (W.setCells n1 0 (byL f (min L 64))):=by
  by_cases hL:0 < L
  ·obtain ⟨b,o,rfl,hx⟩:=A.2.2 hL
   have:=run_copy_cells (P:=Tryz.prog) W 22 22 3 5 n1 0 64 64 ⟨b,o,none⟩ L c (byL f (min L 64)) (by kernel_rfl) (by kernel_rfl) (byL_length _ _)
    (fun j v hj=>by
     have hj2:j < min L 64:=by have:=(List.getElem?_eq_some_iff.1 hj).1;rwa [byL_length] at this
     rw [byL_get f hj2] at hj
     rw [add_plain,hx j (by omega)];exact hj)
    (fun j hj=>by rw [byL_length] at hj;obtain ⟨⟨u,hu⟩,-⟩:=RM j (by omega);rw [hu];rfl) (fun j hj=>by rw [byL_length] at hj;exact (RM j (by omega)).2) (byL_one _ _)
   rwa [byL_length] at this
  ·have h0:min L 64 = 0:=by omega
   rw [h0,show byL f 0 = [] from List.eq_nil_of_length_eq_zero (byL_length _ _)]
   exact run_copy_none (P:=Tryz.prog) W 22 22 3 5 (some ⟨n1,0,none⟩) a 64 64 L c (by kernel_rfl) (by kernel_rfl) h0
 replace C:=hd (C.step hc (fun _ _ hj h=>absurd (h.1 ▸ hj) (Nat.not_lt.2 zn1)))
 replace H:=hd H
 clear R RM hc A hf
 go_wp2_with fail
 go_ret
 exact ⟨n1,zn1,rfl,C.out.r0,H.out⟩
open Go.RowKit
def HH:Nat:=57896044618658097711785492504343953926634992332820282019728792003956564819968
theorem HH_pow:HH = 2 ^ 255:=by decide +kernel
def fdd (n:Nat):Nat:=n % HH + 19 * (n / HH)
theorem shr_word (n j:Nat):dig (n / HH) j = dig n (j + 7) / 2147483648 + (2 * dig n (j + 8)) % 4294967296:=by
 unfold dig
 rw [HH_pow,Nat.div_div_eq_div_mul,←Nat.pow_add,show 255 + 32 * j = 32 * (j + 7) + 31 by omega,show 32 * (j + 8) = 32 * (j + 7) + 32 by omega,Nat.pow_add,Nat.pow_add,←Nat.div_div_eq_div_mul,←Nat.div_div_eq_div_mul]
 generalize n / 2 ^ (32 * (j + 7)) = m
 omega
theorem dig_small {n j:Nat} (h:n < 2 ^ (32 * j)):dig n j = 0:=by
 unfold dig
 rw [Nat.div_eq_of_lt h]
def hiF (n i:Nat):Nat→Nat:=fun j=>if j + 7 < i then dig (n / HH) j else 0
theorem hiF_start (n:Nat):lst (hiF n 7) = z16:=by
 rw [show z16 = lst (fun _=>0) by kernel_rfl]
 exact lst_congr fun j _=>by unfold hiF;rw [if_neg (by omega)]
theorem hiF_end {n:Nat} (hn:n < 13407807929942597099574024998205846127479365820592393377723561443721764030073546976801874298166903427690031858186486050853753882811946569946433649006084096):lst (hiF n 16) = nl (n / HH):=by
 unfold nl
 refine lst_congr fun j hj=>?_
 unfold hiF
 split
 ·rfl
 ·rw [dig_small]
  refine Nat.lt_of_lt_of_le (Nat.div_lt_of_lt_mul (k:=2 ^ (32 * 9)) (Nat.lt_of_lt_of_le hn (by decide +kernel))) (Nat.pow_le_pow_right (by decide) (by omega))
theorem hiF_set (n j:Nat) {u v:Nat} (hv:v = dig (n / HH) j):((lst (hiF n (j + 7))).set j (.int .u32 (u:Nat))).set j (.int .u32 (v:Nat)) = lst (hiF n (j + 8)):=by
 rw [List.set_set,lst_set]
 apply lst_congr
 intro k _
 unfold updN hiF
 by_cases h:k = j
 ·subst h;rw [if_pos rfl,if_pos (by omega),hv]
 ·rw [if_neg h]
  by_cases h2:k + 7 < j + 7
  ·rw [if_pos h2,if_pos (by omega)]
  ·rw [if_neg h2,if_neg (by omega)]
theorem hiF_set1 (n j:Nat) {v:Nat} (hv:v = dig (n / HH) j):(lst (hiF n (j + 7))).set j (.int .u32 (v:Nat)) = lst (hiF n (j + 8)):=by
 have:=hiF_set n j (u:=0) hv
 rwa [List.set_set] at this
def loF (n i:Nat):Nat→Nat:=fun j=>if j < 7 then dig n j else if j = 7 then dig n 7 % 2147483648 else if j < i then 0 else dig n j
theorem loF_start (n:Nat):(nl n).set 7 (.int .u32 ((dig n 7 % 2147483648:Nat):Int)) = lst (loF n 8):=by
 unfold nl
 rw [lst_set]
 apply lst_congr
 intro j _
 unfold updN loF
 by_cases h:j = 7
 ·subst h;simp
 ·rw [if_neg h]
  by_cases h2:j < 7
  ·rw [if_pos h2]
  ·rw [if_neg h2,if_neg h,if_neg (by omega)]
theorem loF_set (n i:Nat) (hi:8 ≤ i):(lst (loF n i)).set i (.int .u32 0) = lst (loF n (i + 1)):=by
 have:=lst_set (loF n i) i 0
 rw [show ((0:Nat):Int) = 0 from rfl] at this
 rw [this]
 apply lst_congr
 intro j _
 unfold updN loF
 by_cases h:j = i
 ·subst h;rw [if_pos rfl,if_neg (by omega),if_neg (by omega),if_pos (by omega)]
 ·rw [if_neg h]
  by_cases h2:j < 7
  ·rw [if_pos h2,if_pos h2]
  ·rw [if_neg h2,if_neg h2]
   by_cases h3:j = 7
   ·rw [if_pos h3,if_pos h3]
   ·rw [if_neg h3,if_neg h3]
    by_cases h4:j < i
    ·rw [if_pos h4,if_pos (by omega)]
    ·rw [if_neg h4,if_neg (by omega)]
theorem low_word255 (n j:Nat):dig (n % HH) j = if j < 7 then dig n j else if j = 7 then dig n 7 % 2147483648 else 0:=by
 rw [HH_pow]
 by_cases h:j < 7
 ·rw [if_pos h]
  unfold dig
  obtain ⟨t,ht⟩:∃ t,255 = 32 * j + (32 + t):=⟨223 - 32 * j,by omega⟩
  rw [ht,Nat.pow_add,Nat.mod_mul_right_div_self,Nat.pow_add]
  exact Nat.mod_mod_of_dvd _ ⟨2 ^ t,rfl⟩
 ·rw [if_neg h]
  by_cases h2:j = 7
  ·subst h2
   rw [if_pos rfl]
   unfold dig
   rw [show 255 = 32 * 7 + 31 by decide,Nat.pow_add,Nat.mod_mul_right_div_self]
   omega
  ·rw [if_neg h2]
   apply dig_small
   exact Nat.lt_of_lt_of_le (Nat.mod_lt _ (Nat.pow_pos (by decide))) (Nat.pow_le_pow_right (by decide) (by omega))
theorem loF_end (n:Nat):lst (loF n 16) = nl (n % HH):=by
 unfold nl
 apply lst_congr
 intro j hj
 rw [low_word255]
 unfold loF
 by_cases h:j < 7
 ·rw [if_pos h,if_pos h]
 ·rw [if_neg h,if_neg h]
  by_cases h2:j = 7
  ·rw [if_pos h2,if_pos h2]
  ·rw [if_neg h2,if_neg h2,if_pos hj]
def c19 (a b k:Nat):Nat:=(a % 2 ^ (32 * k) + 19 * (b % 2 ^ (32 * k))) / 2 ^ (32 * k)
theorem c19_zero (a b:Nat):c19 a b 0 = 0:=by simp [c19,Nat.mod_one]
theorem c19_le (a b k:Nat):c19 a b k < 20:=by
 unfold c19
 have hp:0 < 2 ^ (32 * k):=Nat.pow_pos (by decide)
 have h1:=Nat.mod_lt a hp
 have h2:=Nat.mod_lt b hp
 apply Nat.div_lt_of_lt_mul
 omega
theorem c19_succ (a b k:Nat):c19 a b (k + 1) = (c19 a b k + (dig a k + 19 * dig b k)) / 4294967296:=by
 have hp:0 < 2 ^ (32 * k):=Nat.pow_pos (by decide)
 unfold c19
 rw [mod2,mod2,show 32 * (k + 1) = 32 * k + 32 by omega,Nat.pow_add]
 generalize 2 ^ (32 * k) = X at *
 rw [show a % X + X * dig a k + 19 * (b % X + X * dig b k) = (a % X + 19 * (b % X)) + X * (dig a k + 19 * dig b k) by grind,←Nat.div_div_eq_div_mul,Nat.add_mul_div_left _ _ hp]
theorem c19_dig (a b k:Nat):dig (a + 19 * b) k = (c19 a b k + (dig a k + 19 * dig b k)) % 4294967296:=by
 have hp:0 < 2 ^ (32 * k):=Nat.pow_pos (by decide)
 unfold c19 dig
 generalize 2 ^ (32 * k) = X at *
 have h1:=Nat.div_add_mod a X
 have h2:=Nat.div_add_mod b X
 have e:a + 19 * b = (a % X + 19 * (b % X)) + X * (a / X + 19 * (b / X)):=by
  rw [Nat.mul_add,show X * (19 * (b / X)) = 19 * (X * (b / X)) by grind];omega
 rw [e,Nat.add_mul_div_left _ _ hp]
 omega
theorem fdd_bd (n:Nat) (h:n < 13407807929942597099574024998205846127479365820592393377723561443721764030073546976801874298166903427690031858186486050853753882811946569946433649006084096):fdd n < 13407807929942597099574024998205846127479365820592393377723561443721764030073546976801874298166903427690031858186486050853753882811946569946433649006084096:=by
 unfold fdd HH;omega
theorem fdd3 (n:Nat) (h:n < 13407807929942597099574024998205846127479365820592393377723561443721764030073546976801874298166903427690031858186486050853753882811946569946433649006084096):fdd (fdd (fdd n)) < HH:=by
 unfold fdd HH;omega
theorem fdd_mod (n:Nat):fdd n % 57896044618658097711785492504343953926634992332820282019728792003956564819949 = n % 57896044618658097711785492504343953926634992332820282019728792003956564819949:=by
 unfold fdd HH;omega
end Go.Proofs.Ed
