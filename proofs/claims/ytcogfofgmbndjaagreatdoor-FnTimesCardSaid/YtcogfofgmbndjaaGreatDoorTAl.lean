/- A part of the proof of the tied card of FnTimes: Val. -/
import Derived.Test.YtcogfofgmbndjaaGreatDoorProg
import Derived.WalkKit
import Derived.WalkSpells
import Derived.WalkLawsBesides
import Derived.Outline
import Derived.StillTailTactics
import Derived.Test.YtcogfofgmbndjaaGreatDoorTAb
import Derived.Test.YtcogfofgmbndjaaGreatDoorTAc
import Derived.Test.YtcogfofgmbndjaaGreatDoorTAk
set_option maxRecDepth 100000
set_option maxHeartbeats 40000000
namespace Go.Proofs.Ed
open Go.RowKit
def lst (f:Nat→Nat):List Value:=(List.range 16).map fun j=>.int .u32 (f j:Nat)
def dig (n j:Nat):Nat:=n / 2 ^ (32 * j) % 4294967296
def nl (n:Nat):List Value:=lst (dig n)
theorem lst_length (f:Nat→Nat):(lst f).length = 16:=by simp [lst]
theorem nL (n:Nat):(nl n).length = 16:=lst_length _
theorem lst_get (f:Nat→Nat) {i:Nat} (hi:i < 16):(lst f)[i]? = some (.int .u32 (f i:Nat)):=by
 simp [lst,hi]
theorem lst_one (f:Nat→Nat):∀ v ∈ lst f,v.oneCell' = true:=by
 intro v hv
 simp only [lst,List.mem_map] at hv
 obtain ⟨j,-,rfl⟩:=hv
 rfl
theorem nl_one (n:Nat):∀ v ∈ nl n,v.oneCell' = true:=lst_one _
theorem lst_congr {f g:Nat→Nat} (h:∀ j,j < 16→f j = g j):lst f = lst g:=by
 simp only [lst]
 apply List.map_congr_left
 intro j hj
 rw [h j (by simpa using hj)]
def updN (f:Nat→Nat) (i v:Nat):Nat→Nat:=fun j=>if j = i then v else f j
theorem lst_set (f:Nat→Nat) (i v:Nat):(lst f).set i (.int .u32 (v:Nat)) = lst (updN f i v):=by
 apply List.ext_getElem?
 intro j
 by_cases hj:j < 16
 ·rw [List.getElem?_set,lst_get _ hj,lst_length]
  rw [lst_get _ hj]
  by_cases h:i = j
  ·subst h;simp [hj,updN]
  ·have:j ≠ i:=fun e=>h e.symm
   simp [h,this,updN]
 ·rw [List.getElem?_eq_none (by rw [List.length_set,lst_length];omega),List.getElem?_eq_none (by rw [lst_length];omega)]
theorem dig_lt (n j:Nat):dig n j < 4294967296:=Nat.mod_lt _ (by decide)
theorem Has.cellN {w:World} {b o:Nat} {f:Nat→Nat} (h:Has w b o (lst f)) {i:Nat} (hi:i < 16):w.cell? ⟨b,o + i,none⟩ = some (.int .u32 (f i:Nat))∧w.frozen? ⟨b,o + i,none⟩ = false:=by
 have:=h i (by rw [lst_length];exact hi)
 rwa [lst_get f hi] at this
def wv (f:Nat→Nat):Nat→Nat
 | 0=>0
 | k + 1=>wv f k + 2 ^ (32 * k) * f k
theorem wv_lt {f:Nat→Nat} (h:∀ j,f j < 4294967296) (k:Nat):wv f k < 2 ^ (32 * k):=by
 induction k with
 | zero=>simp [wv]
 | succ k ih =>
  have h1:=h k
  unfold wv
  rw [show 32 * (k + 1) = 32 * k + 32 by omega,Nat.pow_add]
  have h2:2 ^ (32 * k) * (f k + 1) ≤ 2 ^ (32 * k) * 2 ^ 32:=Nat.mul_le_mul_left _ (by omega)
  rw [Nat.mul_add] at h2
  omega
theorem wv_mod {f:Nat→Nat} (h:∀ j,f j < 4294967296) (k t:Nat):wv f (k + t) % 2 ^ (32 * k) = wv f k:=by
 induction t with
 | zero=>exact Nat.mod_eq_of_lt (wv_lt h k)
 | succ t ih =>
  rw [←Nat.add_assoc]
  show (wv f (k + t) + 2 ^ (32 * (k + t)) * f (k + t)) % _ = _
  rw [show 32 * (k + t) = 32 * k + 32 * t by omega,Nat.pow_add,Nat.mul_assoc,Nat.add_mul_mod_self_left,ih]
theorem dig_wv {f:Nat→Nat} (h:∀ j,f j < 4294967296) {j:Nat} (hj:j < 16):dig (wv f 16) j = f j:=by
 unfold dig
 have h1:=wv_mod h (j + 1) (15 - j)
 rw [show j + 1 + (15 - j) = 16 by omega] at h1
 have h2:wv f (j + 1) = wv f j + 2 ^ (32 * j) * f j:=rfl
 have h3:=wv_lt h j
 have h5:=h j
 have hp:0 < 2 ^ (32 * j):=Nat.pow_pos (by decide)
 generalize wv f 16 = n at *
 have h4:2 ^ (32 * (j + 1)) = 2 ^ (32 * j) * 4294967296:=by rw [show 32 * (j + 1) = 32 * j + 32 by omega,Nat.pow_add]
 rw [h4,Nat.mod_mul,h2] at h1
 have h6:=Nat.mod_lt n hp
 generalize 2 ^ (32 * j) = X at *
 generalize n / X % 4294967296 = d at *
 have h7:n % X = wv f j:=by
  have:=congrArg (· % X) h1
  simp only [Nat.add_mul_mod_self_left] at this
  rw [Nat.mod_eq_of_lt h6,Nat.mod_eq_of_lt h3] at this
  exact this
 rw [h7] at h1
 exact Nat.eq_of_mul_eq_mul_left hp (by omega)
theorem lst_wv {f:Nat→Nat} (h:∀ j,f j < 4294967296):lst f = nl (wv f 16):=(lst_congr fun _ hj=>dig_wv h hj).symm
theorem wv_dig {n:Nat} (k:Nat):wv (dig n) k = n % 2 ^ (32 * k):=by
 induction k with
 | zero=>simp [wv,Nat.mod_one]
 | succ k ih =>
  show wv (dig n) k + 2 ^ (32 * k) * dig n k = _
  rw [ih,show 32 * (k + 1) = 32 * k + 32 by omega,Nat.pow_add,Nat.mod_mul]
  rfl
theorem agg25:∀ w,(isAgg 25).run Tryz.prog w = .ok true w:=fun w=>by simp [isAgg,go_sem]
theorem size25:∀ w,(sizeOf 25).run Tryz.prog w = .ok 16 w:=fun w=>by simp [go_sem]
theorem agg27:∀ w,(isAgg 27).run Tryz.prog w = .ok true w:=fun w=>by simp [isAgg,go_sem]
theorem size27:∀ w,(sizeOf 27).run Tryz.prog w = .ok 16 w:=fun w=>by simp [go_sem]
theorem agg30:∀ w,(isAgg 30).run Tryz.prog w = .ok true w:=fun w=>by simp [isAgg,go_sem]
theorem size30:∀ w,(sizeOf 30).run Tryz.prog w = .ok 48 w:=fun w=>by simp [go_sem]
attribute [irreducible] lst nl
theorem box_has (w:World) (vs:List Value) (T:TypeId):Has (w.alloc (.cells vs.toArray T)) w.heap.size 0 vs:=Has.new w vs T
theorem Below.of_chg {w w':World} (h:Chg R0 w w'):Below w.heap.size w w':=h.r0
theorem Has.cellD {w:World} {b o n:Nat} (h:Has w b o (nl n)) {i:Nat} (hi:i < 16):w.cell? ⟨b,o + i,none⟩ = some (.int .u32 (dig n i:Nat))∧w.frozen? ⟨b,o + i,none⟩ = false :=
 Has.cellN (f:=dig n) (by unfold nl at h;exact h) hi
theorem mod2 {n k:Nat}:n % 2 ^ (32 * (k + 1)) = n % 2 ^ (32 * k) + 2 ^ (32 * k) * dig n k:=by
 rw [show 32 * (k + 1) = 32 * k + 32 by omega,Nat.pow_add,Nat.mod_mul];rfl
theorem pow512 {k:Nat} (hk:k < 16) (s:Nat):dig (s % 2 ^ 512) k = dig s k:=by
 unfold dig
 obtain ⟨t,ht⟩:∃ t,512 = 32 * k + (32 + t):=⟨480 - 32 * k,by omega⟩
 rw [ht,Nat.pow_add,Nat.mod_mul_right_div_self,Nat.pow_add]
 exact Nat.mod_mod_of_dvd _ ⟨2 ^ t,rfl⟩
def cry (a b k:Nat):Nat:=(a % 2 ^ (32 * k) + b % 2 ^ (32 * k)) / 2 ^ (32 * k)
theorem cry_le (a b k:Nat):cry a b k ≤ 1:=by
 unfold cry
 have hp:0 < 2 ^ (32 * k):=Nat.pow_pos (by decide)
 have h1:=Nat.mod_lt a hp
 have h2:=Nat.mod_lt b hp
 have:(a % 2 ^ (32 * k) + b % 2 ^ (32 * k)) / 2 ^ (32 * k) < 2:=Nat.div_lt_of_lt_mul (by omega)
 omega
theorem cry_zero (a b:Nat):cry a b 0 = 0:=by simp [cry,Nat.mod_one]
theorem cry_div (a b k:Nat):(a + b) / 2 ^ (32 * k) = cry a b k + a / 2 ^ (32 * k) + b / 2 ^ (32 * k):=by
 unfold cry
 have hp:0 < 2 ^ (32 * k):=Nat.pow_pos (by decide)
 generalize 2 ^ (32 * k) = X at *
 have h1:=Nat.div_add_mod a X
 have h2:=Nat.div_add_mod b X
 have:a + b = (a % X + b % X) + X * (a / X + b / X):=by rw [Nat.mul_add];omega
 rw [this,Nat.add_mul_div_left _ _ hp]
 omega
theorem cry_succ (a b k:Nat):cry a b (k + 1) = (cry a b k + dig a k + dig b k) / 4294967296:=by
 have hp:0 < 2 ^ (32 * k):=Nat.pow_pos (by decide)
 unfold cry
 rw [mod2,mod2,show 32 * (k + 1) = 32 * k + 32 by omega,Nat.pow_add]
 generalize 2 ^ (32 * k) = X at *
 rw [show a % X + X * dig a k + (b % X + X * dig b k) = (a % X + b % X) + X * (dig a k + dig b k) by rw [Nat.mul_add];omega,←Nat.div_div_eq_div_mul,Nat.add_mul_div_left _ _ hp,Nat.add_assoc]
theorem sum_dig {a b k:Nat} (hk:k < 16):dig ((a + b) % 2 ^ 512) k = (cry a b k + dig a k + dig b k) % 4294967296:=by
 rw [pow512 hk]
 show (a + b) / 2 ^ (32 * k) % 4294967296 = _
 rw [cry_div]
 unfold dig
 omega
def mixN (a b k:Nat):Nat→Nat:=fun j=>if j < k then dig b j else dig a j
theorem mixN_zero (a b:Nat):nl a = lst (mixN a b 0):=by unfold nl;exact lst_congr fun j _=>by simp [mixN]
theorem mixN_all (a b:Nat):lst (mixN a b 16) = nl b:=by unfold nl;exact lst_congr fun j hj=>by simp [mixN,hj]
theorem mixN_set (a b k:Nat) {v:Nat} (hv:v = dig b k):(lst (mixN a b k)).set k (.int .u32 (v:Nat)) = lst (mixN a b (k + 1)):=by
 rw [lst_set]
 apply lst_congr
 intro j _
 subst hv
 unfold updN mixN
 by_cases h:j = k
 ·subst h;simp
 ·rw [if_neg h]
  by_cases h2:j < k
  ·rw [if_pos h2,if_pos (by omega)]
  ·rw [if_neg h2,if_neg (by omega)]
theorem cellsFrom_row {P:Program} {w:World} {b o n:Nat} {vs:List Value} (h:Has w b o vs) (hn:vs.length = n):(loadCellsFrom ⟨b,o,none⟩ 0 n #[]).run P w = .ok vs.toArray w:=by
 have hl:=run_loadCells_list (P:=P) w ⟨b,o,none⟩ vs (fun j v hj=>by
  rw [add_plain]
  have:=(h j (List.getElem?_eq_some_iff.1 hj).1).1
  rw [this];exact hj)
 rw [hn] at hl
 simpa [loadCells] using hl
theorem getD_tmps {a:Act} {s:Nat} {v:Value} (h:a.tmps.getD s undef = v):a.tmps[s]?.getD undef = v:=by rw [←h,Array.getD_eq_getD_getElem?]
theorem ret_cell {P:Program} {fn:Func} {R:Ending→World→Prop} {a:Act} {w:World} {s:Nat} {T:TypeId} {b o n:Nat} {vs:List Value} (hr:fn.results = #[.cell s T]) (hs:a.tmps.getD s undef = Ptr b o)
  (h:Has w b o vs) (hn:vs.length = n) (hT:∀ w,(isAgg T).run P w = .ok true w) (hS:∀ w,(sizeOf T).run P w = .ok n w) (hd:a.defers = []) (hR:R (.returned (.agg vs.toArray)) w):bodyPost P fn R .ret a w:=by
 refine bodyPost_ret (v:=.agg vs.toArray) ?_ hd hR
 have h1:=cellsFrom_row (P:=P) h hn
 have h2:=getD_tmps hs
 simp [results,hr,h2,asAddr,go_sem,h1,hT,hS]
theorem ret_cell2 {P:Program} {fn:Func} {R:Ending→World→Prop} {a:Act} {w:World} {s s':Nat} {T:TypeId} {b o n:Nat} {vs:List Value} {v:Value} (hr:fn.results = #[.cell s T,.tmp s']) (hs:a.tmps.getD s undef = Ptr b o) (hs':a.tmps.getD s' undef = v)
  (h:Has w b o vs) (hn:vs.length = n) (hT:∀ w,(isAgg T).run P w = .ok true w) (hS:∀ w,(sizeOf T).run P w = .ok n w) (hd:a.defers = []) (hR:R (.returned (.tuple #[.agg vs.toArray,v])) w):bodyPost P fn R .ret a w:=by
 refine bodyPost_ret (v:=.tuple #[.agg vs.toArray,v]) ?_ hd hR
 have h1:=cellsFrom_row (P:=P) h hn
 have h2:=getD_tmps hs
 have h3:=getD_tmps hs'
 simp [results,hr,h2,h3,asAddr,go_sem,h1,hT,hS]
def z16:List Value:=List.replicate 16 (.int .u32 0)
theorem plus_v {a b:Nat} {w:World}:Calls Tryz.prog 38 #[.agg (nl a).toArray,.agg (nl b).toArray] w (fun e w'=>e = .returned (.agg (nl ((a + b) % 2 ^ 512)).toArray)∧Below w.heap.size w w'):=by
 go_enter Tryz.func38,Tryz.ntmps38
 go_wp2_with fail
 have C:Chg R0 w w:=.refl _ _
 obtain ⟨n1,l1⟩:∃ n,w.heap.size = n:=⟨_,rfl⟩
 rw [l1]
 have z1:w.heap.size ≤ n1:=l1 ▸ Nat.le_refl _
 have hb:=aB [Obj.cells (nl a).toArray 25,Obj.cells (nl b).toArray 25,Obj.cells z16.toArray 25] w
 have H1:=aH [Obj.cells (nl a).toArray 25,Obj.cells (nl b).toArray 25,Obj.cells z16.toArray 25] w 0 _ _ rfl
 have H2:=aH [Obj.cells (nl a).toArray 25,Obj.cells (nl b).toArray 25,Obj.cells z16.toArray 25] w 1 _ _ rfl
 have H3:=(aH [Obj.cells (nl a).toArray 25,Obj.cells (nl b).toArray 25,Obj.cells z16.toArray 25] w 2 _ _ rfl).room (n:=16) rfl
 rw [l1] at H1 H2 H3
 refine wp_gen (fun W=>Chg R0 w W∧Has W n1 0 (nl a)∧Has W (n1 + 1) 0 (nl b)∧Room W (n1 + 1 + 1) 0 16) ⟨C.trans (Chg.of_below hb),H1,H2,H3⟩ ?_
 clear C hb H1 H2 H3
 rintro W ⟨C,H1,H2,H3⟩
 rw [mixN_zero a ((a + b) % 2 ^ 512)] at H1
 go_loopw [5,7] (fun c i W=>∃ k:Nat,k ≤ 16∧i = .int .i64 k∧c = .int .u64 (cry a b k:Nat)∧Chg R0 w W∧Has W n1 0 (lst (mixN a ((a + b) % 2 ^ 512) k))∧Has W (n1 + 1) 0 (nl b)∧Room W (n1 + 1 + 1) 0 16) (fun _ i _=>16 - (intOf i).toNat)
 case atStart=>exact ⟨0,by omega,rfl,by rw [cry_zero];rfl,C,H1,H2,H3⟩
 case round =>
  clear C H1 H2 H3
  obtain ⟨k,hk,rfl,rfl,C,H1,H2,H3⟩:=hrel
  by_cases hlt:k < 16
  ·have c1:=H1.cellN hlt
   have c2:=H2.cellD hlt
   rw [Nat.zero_add] at c1 c2
   rw [show mixN a ((a + b) % 2 ^ 512) k k = dig a k by simp [mixN]] at c1
   have d1:=dig_lt a k
   have d2:=dig_lt b k
   have d3:=cry_le a b k
   have e3:=cry_succ a b k
   have e4:=sum_dig (a:=a) (b:=b) hlt
   go_wp2_with fail
   go_still_tail 11,(by kernel_rfl)
   go_wp2_with fail
   have hv:Value.int .u32 (((cry a b k:Nat) + ((dig a k:Nat) + (dig b k:Nat)):Int) % 4294967296) = .int .u32 ((dig ((a + b) % 2 ^ 512) k:Nat):Int):=by rw [e4];congr 1;omega
   rw [hv]
   have h1:=H1.set k (by omega:k = 0 + k) (.int .u32 ((dig ((a + b) % 2 ^ 512) k:Nat):Int))
   rw [mixN_set _ _ _ rfl] at h1
   exact ⟨⟨k + 1,by omega,by push_cast;rfl,by rw [e3];congr 1;omega,(C.setCell _ (fun h=>absurd h (Nat.not_lt.2 z1))).drew,h1,H2.off _ (fun e=>by omega),(Chg.set1 _ _ _ _).room H3⟩,by simp [intOf];omega⟩
  ·obtain rfl:k = 16:=by omega
   rw [mixN_all] at H1
   repeat ((fail_if_success with_reducible refine sl 25 ?_);first | go_step | dsimp only)
   refine wL (b:=n1) (o:=0) rfl H1 (nL _) agg25 size25 ?_
   simp only [Act.put,iA,iB,iC]
   repeat ((fail_if_success with_reducible refine ss 25 ?_);first | go_step | dsimp only)
   refine wS (b:=n1 + 1 + 1) (o:=0) rfl rfl H3 (nL _) (nl_one _) size25 ?_
   simp only [Act.put]
   have hc:Chg (Rg (n1 + 1 + 1) 0 16) wr (wr.setCells (n1 + 1 + 1) 0 (nl ((a + b) % 2 ^ 512))):=by have:=putL_chg (w:=wr) (b:=n1 + 1 + 1) (o:=0) (vs:=nl ((a + b) % 2 ^ 512));rwa [nL] at this
   have H:=putL_has (w:=wr) (b:=n1 + 1 + 1) (o:=0) (vs:=nl ((a + b) % 2 ^ 512)) (by rw [nL];exact H3)
   replace C:=C.loc hc (by omega)
   clear hc H1 H2 H3
   go_wp2_with fail
   exact ret_cell (b:=n1 + 1 + 1) (o:=0) Tryz.results38 rfl H (nL _) agg25 size25 rfl ⟨rfl,C.r0⟩
end Go.Proofs.Ed
