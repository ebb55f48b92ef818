/- A part of the proof of the tied card of FnTimes: Mem, Prm, Fld, Grp, Asc. -/
import Derived.WalkKit
set_option maxRecDepth 100000
set_option maxHeartbeats 40000000
namespace Go.Proofs.Ed
open Go.RowKit
abbrev z73:Obj:=.cells (List.replicate 5 (.int .u64 0)).toArray 73
abbrev z75:Obj:=.cells (List.replicate 20 (.int .u64 0)).toArray 75
abbrev z79:Obj:=.cells (List.replicate 20 (.int .u64 0)).toArray 79
abbrev z90:Obj:=.cells (List.replicate 20 (.int .u64 0)).toArray 90
abbrev z93:Obj:=.cells (List.replicate 15 (.int .u64 0)).toArray 93
abbrev z106:Obj:=.cells (List.replicate 15 (.int .u64 0)).toArray 106
theorem iA {α:Type} {l:List α} {i:Nat} {a:α}:l.toArray.setIfInBounds i a = (l.set i a).toArray:=List.setIfInBounds_toArray ..
theorem iB {α:Type} {l:List α} {n:Nat} {a b:α}:(a :: l).set (n + 1) b = a :: l.set n b:=rfl
theorem iC {α:Type} {l:List α} {a b:α}:(a :: l).set 0 b = b :: l:=rfl
theorem gd {a:Act} {s:Nat} {v:Value} (h:a.tmps[s]?.getD undef = v):a.eval (.tmp s) = v:=by
 show a.tmps.getD s undef = _
 rw [Array.getD_eq_getD_getElem?]
 exact h
def Has (w:World) (b o:Nat) (vs:List Value):Prop :=
 ∀ i,i < vs.length→w.cell? ⟨b,o + i,none⟩ = vs[i]?∧w.frozen? ⟨b,o + i,none⟩ = false
def Room (w:World) (b o n:Nat):Prop :=
 ∀ i,i < n→(∃ v,w.cell? ⟨b,o + i,none⟩ = some v)∧w.frozen? ⟨b,o + i,none⟩ = false
def ObjChg (ex:Nat→Prop) (x y:Option Obj):Prop :=
 x = y∨∃ c c' e f,x = some (.cells c e f)∧y = some (.cells c' e f)∧c'.size = c.size∧∀ i,¬ ex i→c'[i]? = c[i]?
theorem ObjChg.refl (ex:Nat→Prop) (x:Option Obj):ObjChg ex x x:=.inl rfl
theorem ObjChg.trans {ex:Nat→Prop} {x y z:Option Obj} (h:ObjChg ex x y) (k:ObjChg ex y z):ObjChg ex x z:=by
 rcases h with rfl | ⟨c,c',e,f,rfl,rfl,hs,hc⟩
 ·exact k
 ·rcases k with rfl | ⟨c2,c3,e2,f2,h2,rfl,hs2,hc2⟩
  ·exact .inr ⟨c,c',e,f,rfl,rfl,hs,hc⟩
  ·cases h2
   exact .inr ⟨c,c3,e,f,rfl,rfl,hs2.trans hs,fun i hi=>(hc2 i hi).trans (hc i hi)⟩
theorem ObjChg.mono {ex ex':Nat→Prop} {x y:Option Obj} (h:ObjChg ex x y) (hm:∀ i,ex i→ex' i):ObjChg ex' x y:=by
 rcases h with rfl | ⟨c,c',e,f,rfl,rfl,hs,hc⟩
 ·exact .inl rfl
 ·exact .inr ⟨c,c',e,f,rfl,rfl,hs,fun i hi=>hc i (fun h=>hi (hm i h))⟩
structure Chg (R:Nat→Nat→Prop) (w w':World):Prop where
 os:w'.os = w.os
 tape:w'.tape = w.tape
 output:w'.output = w.output
 size:w.heap.size ≤ w'.heap.size
 obj:∀ k,k < w.heap.size→ObjChg (R k) w.heap[k]? w'.heap[k]?
theorem Chg.refl (R:Nat→Nat→Prop) (w:World):Chg R w w:=⟨rfl,rfl,rfl,Nat.le_refl _,fun _ _=>.refl _ _⟩
theorem Chg.mono {R R':Nat→Nat→Prop} {w w':World} (h:Chg R w w') (hm:∀ k i,k < w.heap.size→R k i→R' k i):Chg R' w w' :=
 ⟨h.os,h.tape,h.output,h.size,fun k hk=>(h.obj k hk).mono (fun i=>hm k i hk)⟩
theorem Chg.step {R R':Nat→Nat→Prop} {a b c:World} (h:Chg R a b) (k:Chg R' b c) (hm:∀ j i,j < a.heap.size→R' j i→R j i):Chg R a c :=
 ⟨k.os.trans h.os,k.tape.trans h.tape,k.output.trans h.output,Nat.le_trans h.size k.size,
  fun j hj=>(h.obj j hj).trans ((k.obj j (Nat.lt_of_lt_of_le hj h.size)).mono fun i=>hm j i hj)⟩
theorem Chg.trans {R:Nat→Nat→Prop} {a b c:World} (h:Chg R a b) (k:Chg R b c):Chg R a c:=h.step k fun _ _ _ h=>h
theorem Chg.of_below {R:Nat→Nat→Prop} {w w':World} (h:Below w.heap.size w w'):Chg R w w' :=
 ⟨h.os,h.tape,h.output,h.size,fun k hk=>.inl (h.block k hk).symm⟩
theorem Chg.below {R:Nat→Nat→Prop} {w w':World} (h:Chg R w w') (hR:∀ k i,k < w.heap.size→¬ R k i):Below w.heap.size w w':=by
 refine ⟨h.os,h.tape,h.output,h.size,fun k hk=>?_⟩
 rcases h.obj k hk with e | ⟨c,c',e,f,h1,h2,hs,hc⟩
 ·exact e.symm
 ·rw [h1,h2]
  have:c' = c:=Array.ext_getElem? fun i=>hc i (hR k i hk)
  rw [this]
theorem cell_of_obj {w:World} {b o:Nat} {c:Array Value} {e:TypeId} {f:Nat × Nat} (h:w.heap[b]? = some (.cells c e f)):w.cell? ⟨b,o,none⟩ = c[o]?:=by
 simp [World.cell?,h]
theorem frozen_of_obj {w:World} {b o:Nat} {c:Array Value} {e:TypeId} {f:Nat × Nat} (h:w.heap[b]? = some (.cells c e f)):w.frozen? ⟨b,o,none⟩ = (decide (f.1 ≤ o) && decide (o < f.2)):=by
 simp [World.frozen?,h]
theorem Chg.cell {R:Nat→Nat→Prop} {w w':World} (h:Chg R w w') {b o:Nat} (hb:b < w.heap.size) (hR:¬ R b o):w'.cell? ⟨b,o,none⟩ = w.cell? ⟨b,o,none⟩:=by
 rcases h.obj b hb with e | ⟨c,c',e,f,h1,h2,hs,hc⟩
 ·simp [World.cell?,e]
 ·rw [cell_of_obj h1,cell_of_obj h2,hc o hR]
theorem Chg.frozen {R:Nat→Nat→Prop} {w w':World} (h:Chg R w w') {b o:Nat} (hb:b < w.heap.size):w'.frozen? ⟨b,o,none⟩ = w.frozen? ⟨b,o,none⟩:=by
 rcases h.obj b hb with e | ⟨c,c',e,f,h1,h2,hs,hc⟩
 ·simp [World.frozen?,e]
 ·rw [frozen_of_obj h1,frozen_of_obj h2]
theorem lt_of_cell {w:World} {b o:Nat} {v:Value} (h:w.cell? ⟨b,o,none⟩ = some v):b < w.heap.size:=by
 rcases Nat.lt_or_ge b w.heap.size with h' | h'
 ·exact h'
 ·simp [World.cell?,Array.getElem?_eq_none h'] at h
theorem Chg.room {R:Nat→Nat→Prop} {w w':World} (h:Chg R w w') {b o n:Nat} (r:Room w b o n):Room w' b o n:=by
 intro i hi
 obtain ⟨⟨v,hv⟩,hf⟩:=r i hi
 have hb:=lt_of_cell hv
 refine ⟨?_,by rw [h.frozen hb];exact hf⟩
 rcases h.obj b hb with e | ⟨c,c',e,f,h1,h2,hs,hc⟩
 ·exact ⟨v,by rw [←hv];simp [World.cell?,e]⟩
 ·rw [cell_of_obj h1] at hv
  rw [cell_of_obj h2]
  have:o + i < c'.size:=by
   rw [hs]
   rcases Nat.lt_or_ge (o + i) c.size with h' | h'
   ·exact h'
   ·rw [Array.getElem?_eq_none h'] at hv;cases hv
  exact ⟨c'[o + i],by simp [this]⟩
theorem Has.room {w:World} {b o n:Nat} {vs:List Value} (h:Has w b o vs) (hn:vs.length = n):Room w b o n:=by
 intro i hi
 obtain ⟨h1,h2⟩:=h i (by omega)
 exact ⟨⟨vs[i]'(by omega),by rw [h1];simp⟩,h2⟩
theorem Has.lt {w:World} {b o:Nat} {vs:List Value} (h:Has w b o vs) (hn:0 < vs.length):b < w.heap.size:=by
 obtain ⟨h1,_⟩:=h 0 hn
 rw [List.getElem?_eq_getElem hn] at h1
 exact lt_of_cell h1
theorem Room.lt {w:World} {b o n:Nat} (h:Room w b o n) (hn:0 < n):b < w.heap.size:=by
 obtain ⟨⟨v,h1⟩,_⟩:=h 0 hn
 exact lt_of_cell h1
theorem Has.keep {R:Nat→Nat→Prop} {w w':World} (h:Chg R w w') {b o:Nat} {vs:List Value} (r:Has w b o vs) (hR:∀ i,i < vs.length→¬ R b (o + i)):Has w' b o vs:=by
 intro i hi
 have hb:=r.lt (by omega)
 obtain ⟨h1,h2⟩:=r i hi
 exact ⟨by rw [h.cell hb (hR i hi),h1],by rw [h.frozen hb,h2]⟩
theorem Room.part {w:World} {b o n:Nat} (h:Room w b o n) {o' n':Nat} (h1:o ≤ o') (h2:o' + n' ≤ o + n):Room w b o' n':=by
 intro i hi
 have:=h (o' - o + i) (by omega)
 rwa [show o + (o' - o + i) = o' + i by omega] at this
theorem Has.part {w:World} {b o:Nat} {us vs ws:List Value} (h:Has w b o (us ++ vs ++ ws)):Has w b (o + us.length) vs:=by
 intro i hi
 obtain ⟨h1,h2⟩:=h (us.length + i) (by simp;omega)
 rw [show o + (us.length + i) = o + us.length + i by omega] at h1 h2
 refine ⟨?_,h2⟩
 rw [h1,List.append_assoc,List.getElem?_append_right (by omega),show us.length + i - us.length = i by omega,List.getElem?_append_left hi]
theorem Has.append {w:World} {b o:Nat} {us vs:List Value} (h:Has w b o us) (k:Has w b (o + us.length) vs):Has w b o (us ++ vs):=by
 intro i hi
 rcases Nat.lt_or_ge i us.length with h' | h'
 ·rw [List.getElem?_append_left h'];exact h i h'
 ·rw [List.getElem?_append_right h']
  have:=k (i - us.length) (by simp at hi;omega)
  rwa [show o + us.length + (i - us.length) = o + i by omega] at this
theorem Chg.alloc {R:Nat→Nat→Prop} {w w':World} (h:Chg R w w') (o:Obj):Chg R w (w'.alloc o) :=
 h.step (R':=fun _ _=>False) (.of_below ((Below.refl _ _).alloc (Nat.le_refl _) _)) (fun _ _ _ h=>h.elim)
theorem Chg.drew {R:Nat→Nat→Prop} {w w':World} (h:Chg R w w'):Chg R w w'.drew:=⟨h.os,h.tape,h.output,h.size,h.obj⟩
theorem Chg.set1 (w:World) (b o:Nat) (v:Value):Chg (fun k i=>k = b∧i = o) w (w.setCell ⟨b,o,none⟩ v):=by
 refine ⟨rfl,rfl,rfl,by simp [World.setCell],fun k hk=>?_⟩
 by_cases hkb:k = b
 ·subst hkb
  simp only [World.setCell,Array.getElem?_modify,if_true]
  cases hx:w.heap[k]? with
  | none=>exact .inl rfl
  | some x =>
   cases x with
   | cells c e f =>
    refine .inr ⟨c,c.setIfInBounds o v,e,f,rfl,by simp,by simp,fun i hi=>?_⟩
    rw [Array.getElem?_setIfInBounds,if_neg (fun h=>hi (by simp [h]))]
   | _=>exact .inl rfl
 ·simp only [World.setCell,Array.getElem?_modify,if_neg (Ne.symm hkb)]
  exact .inl rfl
theorem Chg.setCell {R:Nat→Nat→Prop} {w w':World} (h:Chg R w w') {b o:Nat} (v:Value) (hR:b < w.heap.size→R b o):Chg R w (w'.setCell ⟨b,o,none⟩ v) :=
 h.step (Chg.set1 w' b o v) (fun j i hj hh=>by obtain ⟨rfl,rfl⟩:=hh;exact hR hj)
theorem size_setCell (w:World) (a:Addr) (v:Value):(w.setCell a v).heap.size = w.heap.size:=by simp [World.setCell]
def Rg (b o n:Nat):Nat→Nat→Prop:=fun k i=>k = b∧o ≤ i∧i < o + n
def Ru (R R':Nat→Nat→Prop):Nat→Nat→Prop:=fun k i=>R k i∨R' k i
def R0:Nat→Nat→Prop:=fun _ _=>False
theorem Chg.r0 {w w':World} (h:Chg R0 w w'):Below w.heap.size w w':=h.below fun _ _ _ h=>h
theorem setCell_same {w:World} {b o:Nat} {v:Value} {u:Value} (h:w.cell? ⟨b,o,none⟩ = some u):(w.setCell ⟨b,o,none⟩ v).cell? ⟨b,o,none⟩ = some v:=by
 have hb:=lt_of_cell h
 cases hx:w.heap[b]? with
 | none=>simp [World.cell?,hx] at h
 | some x =>
  cases x with
  | cells c e f =>
   have hm:(w.setCell ⟨b,o,none⟩ v).heap[b]? = some (.cells (c.setIfInBounds o v) e f):=by
    simp [World.setCell,Array.getElem?_modify,hx]
   rw [cell_of_obj hx] at h
   rw [cell_of_obj hm,Array.getElem?_setIfInBounds]
   have:o < c.size:=by
    rcases Nat.lt_or_ge o c.size with h' | h'
    ·exact h'
    ·rw [Array.getElem?_eq_none h'] at h;cases h
   simp [this]
  | _=>simp [World.cell?,hx] at h
theorem Has.new (w:World) (vs:List Value) (t:TypeId):Has (w.alloc (.cells vs.toArray t)) w.heap.size 0 vs:=by
 have h:(w.alloc (.cells vs.toArray t)).heap[w.heap.size]? = some (.cells vs.toArray t (0,0)):=by
  show (w.heap.push _)[w.heap.size]? = _
  simp
 intro i hi
 rw [cell_of_obj h,frozen_of_obj h]
 simp
theorem Has.later {w w':World} {b o:Nat} {vs:List Value} (r:Has w b o vs) (h:Below w.heap.size w w'):Has w' b o vs :=
 r.keep (Chg.of_below (R:=R0) h) (fun _ _ h=>h)
theorem Room.later {w w':World} {b o n:Nat} (r:Room w b o n) (h:Below w.heap.size w w'):Room w' b o n :=
 (Chg.of_below (R:=R0) h).room r
theorem bA (w:World) (o:Obj):Below w.heap.size w (w.alloc o):=(Below.refl _ _).alloc (Nat.le_refl _) _
theorem Below.then {a b c:World} (h:Below a.heap.size a b) (k:Below b.heap.size b c):Below a.heap.size a c:=h.trans (k.mono h.size)
theorem cG {P:Program} {f:FuncId} {args:Array Value} {R:Ending→World→Prop} {W:World} (K:World→Prop) (hK:K W) (h:∀ W',K W'→Calls P f args W' R):Calls P f args W R:=h W hK
theorem rounds_gen {P:Program} {c:Code} {Q:Exit→Act→World→Prop} {n:Nat} {a:Act} {W:World} (K:World→Prop) (hK:K W) (h:∀ W',K W'→Code.rounds P c Q n a W'):Code.rounds P c Q n a W:=h W hK
theorem post_gen {P:Program} {fn:Func} {R:Ending→World→Prop} {e:Exit} {a:Act} {W:World} (K:World→Prop) (hK:K W) (h:∀ W',K W'→bodyPost P fn R e a W'):bodyPost P fn R e a W:=h W hK
def IsPrime (n:Nat):Prop:=2 ≤ n∧∀ m,m ∣ n→m = 1∨m = n
theorem IsPrime.pos {n:Nat} (h:IsPrime n):0 < n:=by have:=h.1;omega
theorem IsPrime.coprime {q m:Nat} (hq:IsPrime q) (h:¬ q ∣ m):Nat.Coprime m q:=by
 unfold Nat.Coprime
 rcases hq.2 _ (Nat.gcd_dvd_right m q) with h1 | h1
 ·exact h1
 ·exact absurd (h1 ▸ Nat.gcd_dvd_left m q) h
theorem IsPrime.dvd_mul {q a b:Nat} (hq:IsPrime q) (h:q ∣ a * b):q ∣ a∨q ∣ b:=by
 by_cases ha:q ∣ a
 ·exact .inl ha
 ·exact .inr ((hq.coprime ha).symm.dvd_of_dvd_mul_left h)
def noDiv (n:Nat):Nat→Nat→Bool
 | 0,d=>decide (n < d * d)
 | f + 1,d=>if n < d * d then true else if n % d = 0 then false else noDiv n f (d + 1)
theorem noDiv_sound (n:Nat):∀ f d,noDiv n f d = true→∀ m,d ≤ m→m * m ≤ n→¬ m ∣ n:=by
 intro f
 induction f with
 | zero =>
  intro d h m hm hmm _
  simp [noDiv] at h
  have:=Nat.mul_le_mul hm hm
  omega
 | succ f ih =>
  intro d h m hm hmm hd
  simp only [noDiv] at h
  split at h
  ·have:=Nat.mul_le_mul hm hm
   omega
  ·split at h
   ·simp at h
   ·rename_i h1 h2
    by_cases e:m = d
    ·subst e;exact h2 (Nat.mod_eq_zero_of_dvd hd)
    ·exact ih (d + 1) h m (by omega) hmm hd
theorem prime_of_noDiv (n f:Nat) (h2:2 ≤ n) (h:noDiv n f 2 = true):IsPrime n:=by
 refine ⟨h2,fun m hm=>?_⟩
 obtain ⟨k,hk⟩:=hm
 have hn:0 < n:=by omega
 rcases Nat.lt_or_ge m 2 with hm2 | hm2
 ·left
  rcases m with _ | _ | m
  ·simp at hk;omega
  ·rfl
  ·omega
 ·right
  rcases Nat.lt_or_ge k 2 with hk2 | hk2
  ·rcases k with _ | _ | k
   ·simp at hk;omega
   ·simp at hk;exact hk.symm
   ·omega
  ·exfalso
   rcases Nat.le_total m k with hmk | hmk
   ·exact noDiv_sound n f 2 h m hm2 (by rw [hk];exact Nat.mul_le_mul_left m hmk) ⟨k,hk⟩
   ·exact noDiv_sound n f 2 h k hk2 (by rw [hk];exact Nat.mul_le_mul_right k hmk) ⟨m,by rw [hk,Nat.mul_comm]⟩
theorem pow_gcd (a n x y:Nat):a ^ x % n = 1 % n→a ^ y % n = 1 % n→a ^ (Nat.gcd x y) % n = 1 % n:=by
 induction x,y using Nat.gcd.induction with
 | H0 y=>intro _ h;simpa using h
 | H1 x y hx ih =>
  intro h1 h2
  rw [Nat.gcd_rec]
  refine ih ?_ h1
  have e:a ^ y = (a ^ x) ^ (y / x) * a ^ (y % x):=by
   rw [←Nat.pow_mul,←Nat.pow_add,Nat.div_add_mod]
  have h3:(a ^ x) ^ (y / x) % n = 1 % n:=by
   rw [Nat.pow_mod,h1,←Nat.pow_mod,Nat.one_pow]
  rw [e,Nat.mul_mod,h3,←Nat.mul_mod,Nat.one_mul] at h2
  exact h2
def prod:List Nat→Nat
 | []=>1
 | q :: t=>q * prod t
theorem dvd_prod (fs:List Nat):(∀ q ∈ fs,IsPrime q)→∀ m,1 < m→m ∣ prod fs→∃ q ∈ fs,q ∣ m:=by
 induction fs with
 | nil=>intro _ m hm h;simp only [prod] at h;have:=Nat.le_of_dvd (by omega) h;omega
 | cons q t ih =>
  intro hp m hm h
  by_cases hq:q ∣ m
  ·exact ⟨q,by simp,hq⟩
  ·have hc:=(hp q (by simp)).coprime hq
   obtain ⟨r,hr,hrm⟩:=ih (fun r hr=>hp r (by simp [hr])) m hm (hc.dvd_of_dvd_mul_left h)
   exact ⟨r,by simp [hr],hrm⟩
theorem pigeons:∀ (N:Nat) (f:Nat→Nat),(∀ i,i < N→f i < N)→(∀ i j,i < N→j < N→f i = f j→i = j)→∀ y,y < N→∃ i,i < N∧f i = y:=by
 intro N
 induction N with
 | zero=>intro f _ _ y hy;omega
 | succ N ih =>
  intro f hf hi y hy
  by_cases hN:f N = N
  ·by_cases hyN:y = N
   ·exact ⟨N,by omega,by omega⟩
   ·obtain ⟨i,hi1,hi2⟩:=ih f (fun i h=>by
     have h1:=hf i (by omega)
     have h2:f i ≠ N:=fun e=>by have:=hi i N (by omega) (by omega) (by omega);omega
     omega) (fun i j h1 h2 h3=>hi i j (by omega) (by omega) h3) y (by omega)
    exact ⟨i,by omega,hi2⟩
  ·have hfN:=hf N (by omega)
   by_cases hyN:y = f N
   ·exact ⟨N,by omega,hyN.symm⟩
   ·obtain ⟨i,hi1,hi2⟩:=ih (fun i=>if f i = N then f N else f i) (fun i h=>by
      split
      ·omega
      ·have:=hf i (by omega);omega) (fun i j h1 h2 h3=>by
      split at h3<;>split at h3
      ·exact hi i j (by omega) (by omega) (by omega)
      ·have:=hi N j (by omega) (by omega) (by omega);omega
      ·have:=hi i N (by omega) (by omega) (by omega);omega
      ·exact hi i j (by omega) (by omega) h3) (if y = N then f N else y) (by split<;>omega)
    refine ⟨i,by omega,?_⟩
    split at hi2<;>split at hi2
    ·omega
    ·omega
    ·rename_i h1 h2
     have:=hi i N (by omega) (by omega) (by omega);omega
    ·exact hi2
theorem lucas (n a:Nat) (hn:2 ≤ n) (fs:List Nat) (hp:∀ q ∈ fs,IsPrime q) (hprod:prod fs = n - 1)
  (h1:a ^ (n - 1) % n = 1) (hq:∀ q ∈ fs,a ^ ((n - 1) / q) % n ≠ 1) :
  IsPrime n∧∀ b,b % n ≠ 0→b ^ (n - 1) % n = 1:=by
 have h1n:1 % n = 1:=Nat.mod_eq_of_lt (by omega)
 have hord:∀ k,0 < k→k < n - 1→a ^ k % n ≠ 1:=by
  intro k hk hkn e
  have hg:=pow_gcd a n k (n - 1) (by rw [e,h1n]) (by rw [h1,h1n])
  rw [h1n] at hg
  obtain ⟨m,hm⟩:=Nat.gcd_dvd_right k (n - 1)
  have hgk:=Nat.le_of_dvd hk (Nat.gcd_dvd_left k (n - 1))
  generalize Nat.gcd k (n - 1) = g at *
  have hm1:1 < m:=by
   rcases m with _ | _ | m
   ·simp at hm;omega
   ·simp at hm;omega
   ·omega
  obtain ⟨q,hqf,c,hc⟩:=dvd_prod fs hp m hm1 (by rw [hprod];exact ⟨g,by rw [hm,Nat.mul_comm]⟩)
  apply hq q hqf
  have hq0:=(hp q hqf).pos
  have:(n - 1) / q = g * c:=by
   rw [hm,hc]
   rw [show g * (q * c) = q * (g * c) by rw [Nat.mul_left_comm]]
   exact Nat.mul_div_cancel_left _ hq0
  rw [this,Nat.pow_mul,Nat.pow_mod,hg,Nat.one_pow,h1n]
 have hunit:∀ k,k ≤ n - 1→a ^ k * a ^ (n - 1 - k) % n = 1:=by
  intro k hk
  rw [←Nat.pow_add,show k + (n - 1 - k) = n - 1 by omega,h1]
 have hne:∀ k,k < n - 1→a ^ k % n ≠ 0:=by
  intro k hk e
  have:=hunit k (by omega)
  rw [Nat.mul_mod,e] at this
  simp at this
 have hsurj:=pigeons (n - 1) (fun k=>a ^ k % n - 1) (fun k hk=>by
   have:=Nat.mod_lt (a ^ k) (show 0 < n by omega)
   have:=hne k hk
   omega) (by
  have key:∀ i j,i ≤ j→j < n - 1→a ^ i % n = a ^ j % n→i = j:=by
   intro i j hij hj e
   rcases Nat.lt_or_ge i j with hlt | hge
   ·exfalso
    apply hord (j - i) (by omega) (by omega)
    have hu:=hunit i (by omega)
    have e2:a ^ j = a ^ i * a ^ (j - i):=by rw [←Nat.pow_add];congr 1;omega
    have:a ^ (n - 1 - i) * a ^ j % n = 1:=by
     rw [Nat.mul_mod,←e,←Nat.mul_mod,Nat.mul_comm,hu]
    rw [e2,←Nat.mul_assoc,Nat.mul_mod,Nat.mul_comm (a ^ (n - 1 - i)),hu,Nat.one_mul,Nat.mod_mod] at this
    exact this
   ·omega
  intro i j hi hj e
  have:=hne i hi
  have:=hne j hj
  have e':a ^ i % n = a ^ j % n:=by omega
  rcases Nat.le_total i j with h | h
  ·exact key i j h hj e'
  ·exact (key j i h hi e'.symm).symm)
 have hfermat:∀ b,b % n ≠ 0→b ^ (n - 1) % n = 1:=by
  intro b hb
  have hlt:=Nat.mod_lt b (show 0 < n by omega)
  obtain ⟨k,hk,e⟩:=hsurj (b % n - 1) (by omega)
  have:=hne k hk
  have e':b % n = a ^ k % n:=by omega
  rw [Nat.pow_mod,e',←Nat.pow_mod,←Nat.pow_mul,Nat.mul_comm,Nat.pow_mul,Nat.pow_mod,h1,Nat.one_pow,h1n]
 refine ⟨⟨hn,fun m hm=>?_⟩,hfermat⟩
 obtain ⟨c,hc⟩:=hm
 by_cases hmn:m = n
 ·exact .inr hmn
 ·left
  have hm0:m ≠ 0:=by rintro rfl;simp at hc;omega
  have hle:m ≤ n:=Nat.le_of_dvd (by omega) ⟨c,hc⟩
  have hf:=hfermat m (by rw [Nat.mod_eq_of_lt (by omega)];exact hm0)
  have hd1:m ∣ m ^ (n - 1):=by
   obtain ⟨t,ht⟩:∃ t,n - 1 = t + 1:=⟨n - 2,by omega⟩
   rw [ht,Nat.pow_succ];exact Nat.dvd_mul_left _ _
  have hd2:m ∣ 1:=by
   have h3:=Nat.div_add_mod (m ^ (n - 1)) n
   rw [hf] at h3
   have h4:m ∣ n * (m ^ (n - 1) / n):=⟨c * (m ^ (n - 1) / n),by rw [←Nat.mul_assoc,←hc]⟩
   rw [←h3] at hd1
   exact (Nat.dvd_add_right h4).1 hd1
  exact Nat.dvd_one.1 hd2
def pw (b n:Nat):Nat→Nat→Nat
 | 0,_=>1 % n
 | f + 1,e=>if e % 2 = 1 then pw b n f (e / 2) * pw b n f (e / 2) % n * b % n else pw b n f (e / 2) * pw b n f (e / 2) % n
theorem pw_eq (b n:Nat):∀ f e,e < 2 ^ f→pw b n f e = b ^ e % n:=by
 intro f
 induction f with
 | zero=>intro e h;simp at h;subst h;simp [pw]
 | succ f ih =>
  intro e h
  have hs:=ih (e / 2) (by rw [Nat.pow_succ] at h;omega)
  have h0:pw b n f (e / 2) * pw b n f (e / 2) % n = b ^ (2 * (e / 2)) % n:=by
   rw [hs,←Nat.mul_mod,←Nat.pow_add,Nat.two_mul]
  simp only [pw,h0]
  split
  ·rename_i h1
   rw [Nat.mod_mul_mod,←Nat.pow_succ]
   congr 2;omega
  ·congr 2;omega
theorem lucas_check (n a:Nat) (fs:List Nat) (hp:∀ q ∈ fs,IsPrime q) (hc:(decide (2 ≤ n) && decide (n < 2 ^ 256) && decide (prod fs = n - 1) && decide (pw a n 256 (n - 1) = 1) && fs.all fun q=>decide (pw a n 256 ((n - 1) / q) ≠ 1)) = true) :
  IsPrime n∧∀ b,b % n ≠ 0→b ^ (n - 1) % n = 1:=by
 simp only [Bool.and_eq_true,decide_eq_true_eq,List.all_eq_true] at hc
 obtain ⟨⟨⟨⟨h2,hlt⟩,hpr⟩,h1⟩,hq⟩:=hc
 refine lucas n a h2 fs hp hpr ?_ ?_
 ·rw [pw_eq a n 256 _ (by omega)] at h1;exact h1
 ·intro q hm e
  apply hq q hm
  rw [pw_eq a n 256 _ (Nat.lt_of_le_of_lt (Nat.div_le_self _ _) (by omega)),e]
theorem all_nil {p:Nat→Prop}:∀ q ∈ ([]:List Nat),p q:=by simp
theorem all_cons {p:Nat→Prop} {a:Nat} {l:List Nat} (h:p a) (t:∀ q ∈ l,p q):∀ q ∈ a :: l,p q:=by
 intro q hq
 rcases List.mem_cons.1 hq with rfl | hq
 ·exact h
 ·exact t q hq
theorem prime_2:IsPrime 2:=prime_of_noDiv 2 4000 (by decide) (by decide +kernel)
theorem prime_3:IsPrime 3:=prime_of_noDiv 3 4000 (by decide) (by decide +kernel)
theorem prime_65147:IsPrime 65147:=prime_of_noDiv 65147 4000 (by decide) (by decide +kernel)
theorem prime_353:IsPrime 353:=prime_of_noDiv 353 4000 (by decide) (by decide +kernel)
theorem prime_57467:IsPrime 57467:=prime_of_noDiv 57467 4000 (by decide) (by decide +kernel)
theorem prime_132049:IsPrime 132049:=prime_of_noDiv 132049 4000 (by decide) (by decide +kernel)
theorem prime_1923133:IsPrime 1923133:=prime_of_noDiv 1923133 4000 (by decide) (by decide +kernel)
theorem prime_31:IsPrime 31:=prime_of_noDiv 31 4000 (by decide) (by decide +kernel)
theorem prime_107:IsPrime 107:=prime_of_noDiv 107 4000 (by decide) (by decide +kernel)
theorem prime_223:IsPrime 223:=prime_of_noDiv 223 4000 (by decide) (by decide +kernel)
theorem prime_4153:IsPrime 4153:=prime_of_noDiv 4153 4000 (by decide) (by decide +kernel)
theorem prime_430751:IsPrime 430751:=prime_of_noDiv 430751 4000 (by decide) (by decide +kernel)
theorem lucas_31757755568855353:IsPrime 31757755568855353∧∀ b,b % 31757755568855353 ≠ 0→b ^ (31757755568855353 - 1) % 31757755568855353 = 1 :=
 lucas_check 31757755568855353 10 [2,2,2,3,31,107,223,4153,430751] (all_cons prime_2 (all_cons prime_2 (all_cons prime_2 (all_cons prime_3 (all_cons prime_31 (all_cons prime_107 (all_cons prime_223 (all_cons prime_4153 (all_cons prime_430751 all_nil))))))))) (by decide +kernel)
theorem prime_31757755568855353:IsPrime 31757755568855353:=lucas_31757755568855353.1
theorem prime_5:IsPrime 5:=prime_of_noDiv 5 4000 (by decide) (by decide +kernel)
theorem prime_75707:IsPrime 75707:=prime_of_noDiv 75707 4000 (by decide) (by decide +kernel)
theorem prime_13:IsPrime 13:=prime_of_noDiv 13 4000 (by decide) (by decide +kernel)
theorem prime_2437:IsPrime 2437:=prime_of_noDiv 2437 4000 (by decide) (by decide +kernel)
theorem prime_569003:IsPrime 569003:=prime_of_noDiv 569003 4000 (by decide) (by decide +kernel)
theorem lucas_2773320623:IsPrime 2773320623∧∀ b,b % 2773320623 ≠ 0→b ^ (2773320623 - 1) % 2773320623 = 1 :=
 lucas_check 2773320623 5 [2,2437,569003] (all_cons prime_2 (all_cons prime_2437 (all_cons prime_569003 all_nil))) (by decide +kernel)
theorem prime_2773320623:IsPrime 2773320623:=lucas_2773320623.1
theorem lucas_72106336199:IsPrime 72106336199∧∀ b,b % 72106336199 ≠ 0→b ^ (72106336199 - 1) % 72106336199 = 1 :=
 lucas_check 72106336199 7 [2,13,2773320623] (all_cons prime_2 (all_cons prime_13 (all_cons prime_2773320623 all_nil))) (by decide +kernel)
theorem prime_72106336199:IsPrime 72106336199:=lucas_72106336199.1
theorem prime_7:IsPrime 7:=prime_of_noDiv 7 4000 (by decide) (by decide +kernel)
theorem prime_19:IsPrime 19:=prime_of_noDiv 19 4000 (by decide) (by decide +kernel)
theorem prime_47:IsPrime 47:=prime_of_noDiv 47 4000 (by decide) (by decide +kernel)
theorem prime_127:IsPrime 127:=prime_of_noDiv 127 4000 (by decide) (by decide +kernel)
theorem prime_8574133:IsPrime 8574133:=prime_of_noDiv 8574133 4000 (by decide) (by decide +kernel)
theorem lucas_1919519569386763:IsPrime 1919519569386763∧∀ b,b % 1919519569386763 ≠ 0→b ^ (1919519569386763 - 1) % 1919519569386763 = 1 :=
 lucas_check 1919519569386763 2 [2,3,7,19,47,47,127,8574133] (all_cons prime_2 (all_cons prime_3 (all_cons prime_7 (all_cons prime_19 (all_cons prime_47 (all_cons prime_47 (all_cons prime_127 (all_cons prime_8574133 all_nil)))))))) (by decide +kernel)
theorem prime_1919519569386763:IsPrime 1919519569386763:=lucas_1919519569386763.1
theorem lucas_75445702479781427272750846543864801:IsPrime 75445702479781427272750846543864801∧∀ b,b % 75445702479781427272750846543864801 ≠ 0→b ^ (75445702479781427272750846543864801 - 1) % 75445702479781427272750846543864801 = 1 :=
 lucas_check 75445702479781427272750846543864801 7 [2,2,2,2,2,3,3,5,5,75707,72106336199,1919519569386763] (all_cons prime_2 (all_cons prime_2 (all_cons prime_2 (all_cons prime_2 (all_cons prime_2 (all_cons prime_3 (all_cons prime_3 (all_cons prime_5 (all_cons prime_5 (all_cons prime_75707 (all_cons prime_72106336199 (all_cons prime_1919519569386763 all_nil)))))))))))) (by decide +kernel)
theorem prime_75445702479781427272750846543864801:IsPrime 75445702479781427272750846543864801:=lucas_75445702479781427272750846543864801.1
theorem lucas_74058212732561358302231226437062788676166966415465897661863160754340907:IsPrime 74058212732561358302231226437062788676166966415465897661863160754340907∧∀ b,b % 74058212732561358302231226437062788676166966415465897661863160754340907 ≠ 0→b ^ (74058212732561358302231226437062788676166966415465897661863160754340907 - 1) % 74058212732561358302231226437062788676166966415465897661863160754340907 = 1 :=
 lucas_check 74058212732561358302231226437062788676166966415465897661863160754340907 2 [2,3,353,57467,132049,1923133,31757755568855353,75445702479781427272750846543864801] (all_cons prime_2 (all_cons prime_3 (all_cons prime_353 (all_cons prime_57467 (all_cons prime_132049 (all_cons prime_1923133 (all_cons prime_31757755568855353 (all_cons prime_75445702479781427272750846543864801 all_nil)))))))) (by decide +kernel)
theorem prime_74058212732561358302231226437062788676166966415465897661863160754340907:IsPrime 74058212732561358302231226437062788676166966415465897661863160754340907:=lucas_74058212732561358302231226437062788676166966415465897661863160754340907.1
theorem lucas_57896044618658097711785492504343953926634992332820282019728792003956564819949:IsPrime 57896044618658097711785492504343953926634992332820282019728792003956564819949∧∀ b,b % 57896044618658097711785492504343953926634992332820282019728792003956564819949 ≠ 0→b ^ (57896044618658097711785492504343953926634992332820282019728792003956564819949 - 1) % 57896044618658097711785492504343953926634992332820282019728792003956564819949 = 1 :=
 lucas_check 57896044618658097711785492504343953926634992332820282019728792003956564819949 2 [2,2,3,65147,74058212732561358302231226437062788676166966415465897661863160754340907] (all_cons prime_2 (all_cons prime_2 (all_cons prime_3 (all_cons prime_65147 (all_cons prime_74058212732561358302231226437062788676166966415465897661863160754340907 all_nil))))) (by decide +kernel)
theorem prime_57896044618658097711785492504343953926634992332820282019728792003956564819949:IsPrime 57896044618658097711785492504343953926634992332820282019728792003956564819949:=lucas_57896044618658097711785492504343953926634992332820282019728792003956564819949.1
def P:Nat:=57896044618658097711785492504343953926634992332820282019728792003956564819949
theorem P_prime:IsPrime P:=prime_57896044618658097711785492504343953926634992332820282019728792003956564819949
theorem P_fermat (b:Nat) (h:b % P ≠ 0):b ^ (P - 1) % P = 1:=by
 unfold P at h ⊢
 exact lucas_57896044618658097711785492504343953926634992332820282019728792003956564819949.2 b h
theorem P_pos:0 < P:=by decide
instance:NeZero P:=⟨by decide⟩
abbrev F:=Fin P
def el (x:Int):F:=⟨(x % (P:Int)).toNat,by have:=Int.emod_lt_of_pos x (show (0:Int) < P by decide);have:=Int.emod_nonneg x (show (P:Int) ≠ 0 by decide);omega⟩
theorem el_val (x:Int):((el x).val:Int) = x % (P:Int):=by
 have:=Int.emod_nonneg x (show (P:Int) ≠ 0 by decide)
 simp only [el];omega
theorem F.ext' {a b:F} (h:(a.val:Int) = b.val):a = b:=Fin.ext (by omega)
theorem val_add (a b:F):((a + b).val:Int) = ((a.val:Int) + b.val) % (P:Int):=by
 rw [Fin.val_add];push_cast;rfl
theorem val_mul (a b:F):((a * b).val:Int) = ((a.val:Int) * b.val) % (P:Int):=by
 rw [Fin.val_mul];push_cast;rfl
theorem el_add (x y:Int):el (x + y) = el x + el y:=F.ext' (by rw [val_add,el_val,el_val,el_val,←Int.add_emod])
theorem el_mul (x y:Int):el (x * y) = el x * el y:=F.ext' (by rw [val_mul,el_val,el_val,el_val,←Int.mul_emod])
theorem el_zero:el 0 = 0:=rfl
theorem el_one:el 1 = 1:=by decide
theorem el_sub (x y:Int):el (x - y) = el x - el y:=by
 have h:=el_add (x - y) y
 rw [Int.sub_add_cancel] at h
 grind
theorem el_neg (x:Int):el (-x) = -el x:=by
 have h:=el_sub 0 x
 rw [el_zero] at h
 rw [Int.zero_sub] at h
 grind
theorem el_eq {x y:Int}:el x = el y ↔ x % (P:Int) = y % (P:Int):=by
 constructor
 ·intro h;rw [←el_val,←el_val,h]
 ·intro h;exact F.ext' (by rw [el_val,el_val,h])
theorem el_emod (x:Int):el (x % (P:Int)) = el x:=el_eq.2 (Int.emod_emod_of_dvd _ (Int.dvd_refl _))
theorem el_P:el P = 0:=by rw [←el_emod];simp [el_zero]
theorem el_surj (a:F):el (a.val:Int) = a:=F.ext' (by rw [el_val];exact Int.emod_eq_of_lt (by omega) (by have:=a.isLt;omega))
def pow (a:F):Nat→F
 | 0=>1
 | n + 1=>pow a n * a
theorem pow_succ (a:F) (n:Nat):pow a (n + 1) = pow a n * a:=rfl
theorem pow_zero (a:F):pow a 0 = 1:=rfl
theorem pow_one (a:F):pow a 1 = a:=by rw [pow_succ,pow_zero];grind
theorem pow_add (a:F) (m n:Nat):pow a (m + n) = pow a m * pow a n:=by
 induction n with
 | zero=>rw [pow_zero];simp only [Nat.add_zero];grind
 | succ n ih=>rw [←Nat.add_assoc,pow_succ,pow_succ,ih];grind
theorem pow_mul (a:F) (m n:Nat):pow a (m * n) = pow (pow a m) n:=by
 induction n with
 | zero=>rfl
 | succ n ih=>rw [Nat.mul_succ,pow_add,pow_succ,ih]
theorem mul_pow (a b:F) (n:Nat):pow (a * b) n = pow a n * pow b n:=by
 induction n with
 | zero=>rw [pow_zero,pow_zero,pow_zero];grind
 | succ n ih=>rw [pow_succ,pow_succ,pow_succ,ih];grind
theorem one_pow (n:Nat):pow 1 n = 1:=by
 induction n with
 | zero=>rfl
 | succ n ih=>rw [pow_succ,ih];grind
theorem pow_val (a:F) (n:Nat):(pow a n).val = a.val ^ n % P:=by
 induction n with
 | zero=>rw [pow_zero,Nat.pow_zero];decide
 | succ n ih=>rw [pow_succ,Fin.val_mul,ih,Nat.pow_succ,Nat.mod_mul_mod]
attribute [irreducible] pow
theorem one_ne_zero:(1:F) ≠ 0:=by decide
theorem fermat {a:F} (h:a ≠ 0):pow a (P - 1) = 1:=by
 apply Fin.ext
 rw [pow_val,P_fermat]
 ·decide
 ·intro e;apply h;apply Fin.ext;rw [Nat.mod_eq_of_lt a.isLt] at e;rw [e];decide
def inv (a:F):F:=pow a (P - 2)
theorem P_sub:P - 1 = (P - 2) + 1:=by decide
theorem mul_inv {a:F} (h:a ≠ 0):a * inv a = 1:=by
 have:=fermat h
 rw [P_sub,pow_succ] at this
 unfold inv;grind
theorem inv_zero:inv 0 = 0:=by
 unfold inv
 rw [show P - 2 = (P - 3) + 1 by decide,pow_succ];grind
theorem inv_one:inv 1 = 1:=one_pow _
attribute [irreducible] inv
theorem mul_eq_zero {a b:F} (h:a * b = 0):a = 0∨b = 0:=by
 by_cases ha:a = 0
 ·exact .inl ha
 ·right
  have:=mul_inv ha
  grind
theorem mul_ne_zero {a b:F} (ha:a ≠ 0) (hb:b ≠ 0):a * b ≠ 0:=fun h=>(mul_eq_zero h).elim ha hb
theorem mul_cancel {a b c:F} (ha:a ≠ 0) (h:a * b = a * c):b = c:=by
 have:=mul_inv ha
 grind
theorem inv_mul (a b:F):inv (a * b) = inv a * inv b:=by
 by_cases ha:a = 0
 ·subst ha;rw [show (0:F) * b = 0 by grind,inv_zero];grind
 ·by_cases hb:b = 0
  ·subst hb;rw [show a * (0:F) = 0 by grind,inv_zero];grind
  ·have h1:=mul_inv ha
   have h2:=mul_inv hb
   have h3:=mul_inv (mul_ne_zero ha hb)
   exact mul_cancel (mul_ne_zero ha hb) (by grind)
theorem inv_ne_zero {a:F} (h:a ≠ 0):inv a ≠ 0:=by
 intro e
 have:=mul_inv h
 rw [e] at this
 apply one_ne_zero;grind
theorem two_ne_zero:(2:F) ≠ 0:=by decide
theorem sq_eq {a b:F} (h:a * a = b * b):a = b∨a = -b:=by
 rcases mul_eq_zero (a:=a - b) (b:=a + b) (by grind) with h | h
 ·left;grind
 ·right;grind
def cd:F:=⟨37095705934669439343138083508754565189542113879843219016388785533085940283555,by decide⟩
def ri:F:=⟨19681161376707505956807079304988542015446066515923890162744021073123829784752,by decide⟩
theorem ri_sq:ri * ri = -1:=by decide +kernel
theorem cd_eq:cd * 121666 = -121665:=by decide +kernel
theorem cd_ne:cd ≠ 0:=by decide +kernel
theorem half_P:2 * ((P - 1) / 2) = P - 1:=by decide
theorem cd_half:pow cd ((P - 1) / 2) = -1:=by
 apply Fin.ext
 rw [pow_val,←pw_eq cd.val P 256 _ (by decide +kernel)]
 decide +kernel
theorem cd_nonsq (r:F):r * r ≠ cd:=by
 intro h
 have h0:r ≠ 0:=by rintro rfl;apply cd_ne;rw [←h];grind
 have h1:=cd_half
 rw [←h,mul_pow,←pow_add,←Nat.two_mul,half_P,fermat h0] at h1
 exact absurd h1 (by decide)
attribute [irreducible] cd ri
def On (x y:F):Prop:=y * y - x * x = 1 + cd * x * x * y * y
theorem den_ne {x1 y1 x2 y2 e:F} (h1:On x1 y1) (h2:On x2 y2) (he:e * e = 1):cd * x1 * x2 * y1 * y2 ≠ e:=by
 intro h
 unfold On at h1 h2
 have hi:=ri_sq
 have he0:e ≠ 0:=by rintro rfl;apply one_ne_zero;grind
 have k1:(ri * x1 + e * y1) * (ri * x1 + e * y1) = cd * ((x1 * y1 * (ri * x2 + y2)) * (x1 * y1 * (ri * x2 + y2))):=by grind
 have k2:(ri * x1 - e * y1) * (ri * x1 - e * y1) = cd * ((x1 * y1 * (ri * x2 - y2)) * (x1 * y1 * (ri * x2 - y2))):=by grind
 have hx1:x1 ≠ 0:=by rintro rfl;apply he0;grind
 have hy1:y1 ≠ 0:=by rintro rfl;apply he0;grind
 have hx2:x2 ≠ 0:=by rintro rfl;apply he0;grind
 by_cases z:ri * x2 + y2 = 0
 ·have z':ri * x2 - y2 ≠ 0:=by
   intro z'
   have hri:ri ≠ 0:=by
    intro e0
    rw [e0] at hi
    have:(1:F) = 0:=by grind
    exact one_ne_zero this
   have:(2:F) * (ri * x2) = 0:=by grind
   exact mul_ne_zero two_ne_zero (mul_ne_zero hri hx2) this
  have hz:=mul_ne_zero (mul_ne_zero hx1 hy1) z'
  have hm:=mul_inv hz
  apply cd_nonsq ((ri * x1 - e * y1) * inv (x1 * y1 * (ri * x2 - y2)))
  generalize inv (x1 * y1 * (ri * x2 - y2)) = t at *
  generalize x1 * y1 * (ri * x2 - y2) = s at *
  generalize ri * x1 - e * y1 = r at *
  clear k1 h h1 h2
  grind
 ·have hz:=mul_ne_zero (mul_ne_zero hx1 hy1) z
  have hm:=mul_inv hz
  apply cd_nonsq ((ri * x1 + e * y1) * inv (x1 * y1 * (ri * x2 + y2)))
  generalize inv (x1 * y1 * (ri * x2 + y2)) = t at *
  generalize x1 * y1 * (ri * x2 + y2) = s at *
  generalize ri * x1 + e * y1 = r at *
  clear k2 h h1 h2
  grind
theorem den_p {x1 y1 x2 y2:F} (h1:On x1 y1) (h2:On x2 y2):1 + cd * x1 * x2 * y1 * y2 ≠ 0:=by
 intro h
 exact den_ne h1 h2 (e:=-1) (by grind) (by grind)
theorem den_m {x1 y1 x2 y2:F} (h1:On x1 y1) (h2:On x2 y2):1 - cd * x1 * x2 * y1 * y2 ≠ 0:=by
 intro h
 exact den_ne h1 h2 (e:=1) (by grind) (by grind)
structure Pt where
 x:F
 y:F
 on:On x y
theorem Pt.ext' {p q:Pt} (hx:p.x = q.x) (hy:p.y = q.y):p = q:=by
 cases p;cases q;simp only at hx hy;subst hx hy;rfl
theorem on_add {x1 y1 x2 y2 i1 i2:F} (h1:On x1 y1) (h2:On x2 y2) (h3:(1 + cd * x1 * x2 * y1 * y2) * i1 = 1) (h4:(1 - cd * x1 * x2 * y1 * y2) * i2 = 1) :
  On ((x1 * y2 + x2 * y1) * i1) ((y1 * y2 + x1 * x2) * i2):=by
 unfold On at *
 grind
def Pt.add (p q:Pt):Pt where
 x:=(p.x * q.y + q.x * p.y) * inv (1 + cd * p.x * q.x * p.y * q.y)
 y:=(p.y * q.y + p.x * q.x) * inv (1 - cd * p.x * q.x * p.y * q.y)
 on:=on_add p.on q.on (mul_inv (den_p p.on q.on)) (mul_inv (den_m p.on q.on))
def Pt.zero:Pt where
 x:=0
 y:=1
 on:=by unfold On;grind
def Pt.neg (p:Pt):Pt where
 x:=-p.x
 y:=p.y
 on:=by have:=p.on;unfold On at *;grind
instance:Add Pt:=⟨Pt.add⟩
instance:Zero Pt:=⟨Pt.zero⟩
instance:Neg Pt:=⟨Pt.neg⟩
theorem add_x (p q:Pt):(p + q).x = (p.x * q.y + q.x * p.y) * inv (1 + cd * p.x * q.x * p.y * q.y):=rfl
theorem add_y (p q:Pt):(p + q).y = (p.y * q.y + p.x * q.x) * inv (1 - cd * p.x * q.x * p.y * q.y):=rfl
theorem zero_x:(0:Pt).x = 0:=rfl
theorem zero_y:(0:Pt).y = 1:=rfl
theorem neg_x (p:Pt):(-p).x = -p.x:=rfl
theorem neg_y (p:Pt):(-p).y = p.y:=rfl
theorem add_x' (p q:Pt):(p + q).x * (1 + cd * p.x * q.x * p.y * q.y) = p.x * q.y + q.x * p.y:=by
 have:=mul_inv (den_p p.on q.on)
 rw [add_x];grind
theorem add_y' (p q:Pt):(p + q).y * (1 - cd * p.x * q.x * p.y * q.y) = p.y * q.y + p.x * q.x:=by
 have:=mul_inv (den_m p.on q.on)
 rw [add_y];grind
theorem add_comm (p q:Pt):p + q = q + p:=by
 apply Pt.ext'
 ·rw [add_x,add_x,show cd * p.x * q.x * p.y * q.y = cd * q.x * p.x * q.y * p.y by grind];grind
 ·rw [add_y,add_y,show cd * p.x * q.x * p.y * q.y = cd * q.x * p.x * q.y * p.y by grind];grind
theorem den_zp (a c x y:F):a + c * x * 0 * y * 1 = a:=by grind
theorem den_zm (a c x y:F):a - c * x * 0 * y * 1 = a:=by grind
theorem add_zero (p:Pt):p + 0 = p:=by
 apply Pt.ext'
 ·rw [add_x,zero_x,zero_y,den_zp,inv_one];grind
 ·rw [add_y,zero_x,zero_y,den_zm,inv_one];grind
theorem zero_add (p:Pt):0 + p = p:=by rw [add_comm,add_zero]
theorem add_neg (p:Pt):p + -p = 0:=by
 apply Pt.ext'
 ·rw [add_x,zero_x,neg_x,neg_y,show p.x * p.y + -p.x * p.y = 0 by grind];grind
 ·have h:=add_y' p (-p)
  have hn:=den_m p.on (-p).on
  rw [neg_x,neg_y] at h hn
  have h2:=p.on
  unfold On at h2
  rw [zero_y]
  exact mul_cancel hn (by grind)
theorem neg_add (p:Pt):-p + p = 0:=by rw [add_comm,add_neg]
theorem assoc_x (d x1 y1 x2 y2 x3 y3:F) (h1:y1*y1 - x1*x1 = 1 + d*x1*x1*y1*y1) (h2:y2*y2 - x2*x2 = 1 + d*x2*x2*y2*y2)
  (h3:y3*y3 - x3*x3 = 1 + d*x3*x3*y3*y3) :
  ((x1*y2+x2*y1)*y3*(1-d*x1*x2*y1*y2) + x3*(y1*y2+x1*x2)*(1+d*x1*x2*y1*y2)) * ((1+d*x2*x3*y2*y3)*(1-d*x2*x3*y2*y3) + d*(x2*y3+x3*y2)*(y2*y3+x2*x3)*x1*y1)
  = (x1*(y2*y3+x2*x3)*(1+d*x2*x3*y2*y3) + (x2*y3+x3*y2)*y1*(1-d*x2*x3*y2*y3)) * ((1+d*x1*x2*y1*y2)*(1-d*x1*x2*y1*y2) + d*(x1*y2+x2*y1)*(y1*y2+x1*x2)*x3*y3):=by grind
theorem assoc_y (d x1 y1 x2 y2 x3 y3:F) (h1:y1*y1 - x1*x1 = 1 + d*x1*x1*y1*y1) (h2:y2*y2 - x2*x2 = 1 + d*x2*x2*y2*y2)
  (h3:y3*y3 - x3*x3 = 1 + d*x3*x3*y3*y3) :
  ((y1*y2+x1*x2)*y3*(1+d*x1*x2*y1*y2) + x3*(x1*y2+x2*y1)*(1-d*x1*x2*y1*y2)) * ((1+d*x2*x3*y2*y3)*(1-d*x2*x3*y2*y3) - d*(x2*y3+x3*y2)*(y2*y3+x2*x3)*x1*y1)
  = (y1*(y2*y3+x2*x3)*(1+d*x2*x3*y2*y3) + (x2*y3+x3*y2)*x1*(1-d*x2*x3*y2*y3)) * ((1+d*x1*x2*y1*y2)*(1-d*x1*x2*y1*y2) - d*(x1*y2+x2*y1)*(y1*y2+x1*x2)*x3*y3):=by grind
theorem sum_x (d x1 y1 x2 y2 x3 y3 a b s:F) (h1:a * (1+d*x1*x2*y1*y2) = x1*y2+x2*y1) (h2:b * (1-d*x1*x2*y1*y2) = y1*y2+x1*x2)
  (h3:s * (1 + d*a*x3*b*y3) = a*y3+x3*b) :
  s * ((1+d*x1*x2*y1*y2)*(1-d*x1*x2*y1*y2) + d*(x1*y2+x2*y1)*(y1*y2+x1*x2)*x3*y3) = (x1*y2+x2*y1)*y3*(1-d*x1*x2*y1*y2) + x3*(y1*y2+x1*x2)*(1+d*x1*x2*y1*y2):=by
 rw [←h1,←h2]
 generalize 1+d*x1*x2*y1*y2 = u at *
 generalize 1-d*x1*x2*y1*y2 = v at *
 clear h1 h2
 grind
theorem sum_xd (d x1 y1 x2 y2 x3 y3 a b:F) (h1:a * (1+d*x1*x2*y1*y2) = x1*y2+x2*y1) (h2:b * (1-d*x1*x2*y1*y2) = y1*y2+x1*x2) :
  (1+d*x1*x2*y1*y2)*(1-d*x1*x2*y1*y2) + d*(x1*y2+x2*y1)*(y1*y2+x1*x2)*x3*y3 = ((1+d*x1*x2*y1*y2)*(1-d*x1*x2*y1*y2)) * (1 + d*a*x3*b*y3):=by
 rw [←h1,←h2]
 generalize 1+d*x1*x2*y1*y2 = u at *
 generalize 1-d*x1*x2*y1*y2 = v at *
 clear h1 h2
 grind
theorem sum_y (d x1 y1 x2 y2 x3 y3 a b s:F) (h1:a * (1+d*x1*x2*y1*y2) = x1*y2+x2*y1) (h2:b * (1-d*x1*x2*y1*y2) = y1*y2+x1*x2)
  (h3:s * (1 - d*a*x3*b*y3) = b*y3+a*x3) :
  s * ((1+d*x1*x2*y1*y2)*(1-d*x1*x2*y1*y2) - d*(x1*y2+x2*y1)*(y1*y2+x1*x2)*x3*y3) = (y1*y2+x1*x2)*y3*(1+d*x1*x2*y1*y2) + x3*(x1*y2+x2*y1)*(1-d*x1*x2*y1*y2):=by
 rw [←h1,←h2]
 generalize 1+d*x1*x2*y1*y2 = u at *
 generalize 1-d*x1*x2*y1*y2 = v at *
 clear h1 h2
 grind
theorem sum_yd (d x1 y1 x2 y2 x3 y3 a b:F) (h1:a * (1+d*x1*x2*y1*y2) = x1*y2+x2*y1) (h2:b * (1-d*x1*x2*y1*y2) = y1*y2+x1*x2) :
  (1+d*x1*x2*y1*y2)*(1-d*x1*x2*y1*y2) - d*(x1*y2+x2*y1)*(y1*y2+x1*x2)*x3*y3 = ((1+d*x1*x2*y1*y2)*(1-d*x1*x2*y1*y2)) * (1 - d*a*x3*b*y3):=by
 rw [←h1,←h2]
 generalize 1+d*x1*x2*y1*y2 = u at *
 generalize 1-d*x1*x2*y1*y2 = v at *
 clear h1 h2
 grind
theorem cross {s t g h k l:F} (hg:g ≠ 0) (hk:k ≠ 0) (h1:s * g = h) (h2:t * k = l) (h3:h * k = l * g):s = t:=by
 apply mul_cancel (mul_ne_zero hg hk)
 subst h1 h2
 grind
theorem add_assoc (p q r:Pt):p + q + r = p + (q + r):=by
 have hpq:=mul_ne_zero (den_p p.on q.on) (den_m p.on q.on)
 have hqr:=mul_ne_zero (den_p q.on r.on) (den_m q.on r.on)
 have ax:=add_x' p q
 have ay:=add_y' p q
 have bx:=add_x' q r
 have by':=add_y' q r
 apply Pt.ext'
 ·have cx:=add_x' (p + q) r
  have ex:=add_x' (q + r) p
  have G1:=sum_xd cd p.x p.y q.x q.y r.x r.y (p + q).x (p + q).y ax ay
  have G2:=sum_xd cd q.x q.y r.x r.y p.x p.y (q + r).x (q + r).y bx by'
  have S1:=sum_x cd p.x p.y q.x q.y r.x r.y (p + q).x (p + q).y _ ax ay cx
  have S2:=sum_x cd q.x q.y r.x r.y p.x p.y (q + r).x (q + r).y _ bx by' ex
  rw [add_comm p (q + r)]
  refine cross (by rw [G1];exact mul_ne_zero hpq (den_p (p + q).on r.on)) (by rw [G2];exact mul_ne_zero hqr (den_p (q + r).on p.on)) S1 S2 ?_
  have:=assoc_x cd p.x p.y q.x q.y r.x r.y p.on q.on r.on
  rw [this]
  congr 1
  grind
 ·have cx:=add_y' (p + q) r
  have ex:=add_y' (q + r) p
  have G1:=sum_yd cd p.x p.y q.x q.y r.x r.y (p + q).x (p + q).y ax ay
  have G2:=sum_yd cd q.x q.y r.x r.y p.x p.y (q + r).x (q + r).y bx by'
  have S1:=sum_y cd p.x p.y q.x q.y r.x r.y (p + q).x (p + q).y _ ax ay cx
  have S2:=sum_y cd q.x q.y r.x r.y p.x p.y (q + r).x (q + r).y _ bx by' ex
  rw [add_comm p (q + r)]
  refine cross (by rw [G1];exact mul_ne_zero hpq (den_m (p + q).on r.on)) (by rw [G2];exact mul_ne_zero hqr (den_m (q + r).on p.on)) S1 S2 ?_
  have:=assoc_y cd p.x p.y q.x q.y r.x r.y p.on q.on r.on
  rw [this]
  congr 1
  grind
end Go.Proofs.Ed
