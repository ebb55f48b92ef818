/- A part of the proof of the tied card of FnTimes: Fe8. -/
import Derived.Test.YtcogfofgmbndjaaGreatDoorProg
import Derived.WalkKit
import Derived.WalkSpells
import Derived.WalkLawsBesides
import Derived.Outline
import Derived.StillTailTactics
import Derived.Test.YtcogfofgmbndjaaGreatDoorTAj
set_option maxRecDepth 100000
set_option maxHeartbeats 40000000
namespace Go.Proofs.Ed
open Go.RowKit
def allocL (w:World):List Obj→World
 | []=>w
 | o :: t=>allocL (w.alloc o) t
theorem aB (os:List Obj):∀ w:World,Below w.heap.size w (allocL w os):=by
 induction os with
 | nil=>exact fun w=>Below.refl _ _
 | cons o t ih=>exact fun w=>Below.then (bA w o) (ih _)
theorem size_alloc (w:World) (o:Obj):(w.alloc o).heap.size = w.heap.size + 1:=by simp
theorem aH (os:List Obj):∀ (w:World) (i:Nat) (vs:List Value) (t:TypeId),os[i]? = some (.cells vs.toArray t)→Has (allocL w os) (w.heap.size + i) 0 vs:=by
 induction os with
 | nil=>intro w i vs t h;simp at h
 | cons o tl ih =>
  intro w i vs t h
  cases i with
  | zero =>
   simp only [List.getElem?_cons_zero,Option.some.injEq] at h
   subst h
   exact (Has.new w vs t).later (aB tl _)
  | succ i =>
   have:=ih (w.alloc o) i vs t (by simpa using h)
   rw [size_alloc] at this
   rwa [show w.heap.size + (i + 1) = w.heap.size + 1 + i by omega]
def z5:List Value:=[.int .u64 0,.int .u64 0,.int .u64 0,.int .u64 0,.int .u64 0]
theorem Chg.loc {R:Nat→Nat→Prop} {w W W1:World} {k o n:Nat} (C:Chg R w W) (hc:Chg (Rg k o n) W W1) (hk:w.heap.size ≤ k):Chg R w W1 :=
 C.step hc (fun _ _ hj h=>absurd (h.1 ▸ hj) (Nat.not_lt.2 hk))
theorem Elt.blk {w W:World} {k o n b p:Nat} {f:F} (r:Elt w b p f) (hc:Chg (Rg k o n) w W) (h:b ≠ k):Elt W b p f:=r.keep hc (oq (fun e=>absurd e h))
theorem Elt.mulp {w:World} {b o a c d:Nat} {f:F} (h:Elt w b o (pow f a * pow f c)) (e:a + c = d):Elt w b o (pow f d):=by rw [←e,pow_add];exact h
theorem Elt.pow1 {w:World} {b o:Nat} {f:F} (h:Elt w b o f):Elt w b o (pow f 1):=by rw [pow_one];exact h
theorem Elt.exp {w:World} {b o a c:Nat} {f:F} (h:Elt w b o (pow f a)) (e:a = c):Elt w b o (pow f c):=e ▸ h
theorem sq_step (E k:Nat):E * 2 ^ k + E * 2 ^ k = E * 2 ^ (k + 1):=by rw [Nat.pow_succ,←Nat.mul_assoc,Nat.mul_two]
theorem inv_e {bv ov bx ox:Nat} {f:F} {w:World} (RM:Room w bv ov 5) (X:Elt w bx ox f) :
  Calls Tryz.prog 96 #[Ptr bv ov,Ptr bx ox] w (Puts w bv ov (inv f)):=by
 go_enter Tryz.func96,Tryz.ntmps96
 go_wp2_with fail
 have hb:=aB [.cells #[.int .u64 0,.int .u64 0,.int .u64 0,.int .u64 0,.int .u64 0] 73,.cells #[.int .u64 0,.int .u64 0,.int .u64 0,.int .u64 0,.int .u64 0] 73,.cells #[.int .u64 0,.int .u64 0,.int .u64 0,.int .u64 0,.int .u64 0] 73,.cells #[.int .u64 0,.int .u64 0,.int .u64 0,.int .u64 0,.int .u64 0] 73,.cells #[.int .u64 0,.int .u64 0,.int .u64 0,.int .u64 0,.int .u64 0] 73,.cells #[.int .u64 0,.int .u64 0,.int .u64 0,.int .u64 0,.int .u64 0] 73,.cells #[.int .u64 0,.int .u64 0,.int .u64 0,.int .u64 0,.int .u64 0] 73,.cells #[.int .u64 0,.int .u64 0,.int .u64 0,.int .u64 0,.int .u64 0] 73,.cells #[.int .u64 0,.int .u64 0,.int .u64 0,.int .u64 0,.int .u64 0] 73] w
 have K0:Room (allocL w [.cells #[.int .u64 0,.int .u64 0,.int .u64 0,.int .u64 0,.int .u64 0] 73,.cells #[.int .u64 0,.int .u64 0,.int .u64 0,.int .u64 0,.int .u64 0] 73,.cells #[.int .u64 0,.int .u64 0,.int .u64 0,.int .u64 0,.int .u64 0] 73,.cells #[.int .u64 0,.int .u64 0,.int .u64 0,.int .u64 0,.int .u64 0] 73,.cells #[.int .u64 0,.int .u64 0,.int .u64 0,.int .u64 0,.int .u64 0] 73,.cells #[.int .u64 0,.int .u64 0,.int .u64 0,.int .u64 0,.int .u64 0] 73,.cells #[.int .u64 0,.int .u64 0,.int .u64 0,.int .u64 0,.int .u64 0] 73,.cells #[.int .u64 0,.int .u64 0,.int .u64 0,.int .u64 0,.int .u64 0] 73,.cells #[.int .u64 0,.int .u64 0,.int .u64 0,.int .u64 0,.int .u64 0] 73]) (w.heap.size + 0) 0 5:=(aH [.cells #[.int .u64 0,.int .u64 0,.int .u64 0,.int .u64 0,.int .u64 0] 73,.cells #[.int .u64 0,.int .u64 0,.int .u64 0,.int .u64 0,.int .u64 0] 73,.cells #[.int .u64 0,.int .u64 0,.int .u64 0,.int .u64 0,.int .u64 0] 73,.cells #[.int .u64 0,.int .u64 0,.int .u64 0,.int .u64 0,.int .u64 0] 73,.cells #[.int .u64 0,.int .u64 0,.int .u64 0,.int .u64 0,.int .u64 0] 73,.cells #[.int .u64 0,.int .u64 0,.int .u64 0,.int .u64 0,.int .u64 0] 73,.cells #[.int .u64 0,.int .u64 0,.int .u64 0,.int .u64 0,.int .u64 0] 73,.cells #[.int .u64 0,.int .u64 0,.int .u64 0,.int .u64 0,.int .u64 0] 73,.cells #[.int .u64 0,.int .u64 0,.int .u64 0,.int .u64 0,.int .u64 0] 73] w 0 z5 73 rfl).room rfl
 have K1:Room (allocL w [.cells #[.int .u64 0,.int .u64 0,.int .u64 0,.int .u64 0,.int .u64 0] 73,.cells #[.int .u64 0,.int .u64 0,.int .u64 0,.int .u64 0,.int .u64 0] 73,.cells #[.int .u64 0,.int .u64 0,.int .u64 0,.int .u64 0,.int .u64 0] 73,.cells #[.int .u64 0,.int .u64 0,.int .u64 0,.int .u64 0,.int .u64 0] 73,.cells #[.int .u64 0,.int .u64 0,.int .u64 0,.int .u64 0,.int .u64 0] 73,.cells #[.int .u64 0,.int .u64 0,.int .u64 0,.int .u64 0,.int .u64 0] 73,.cells #[.int .u64 0,.int .u64 0,.int .u64 0,.int .u64 0,.int .u64 0] 73,.cells #[.int .u64 0,.int .u64 0,.int .u64 0,.int .u64 0,.int .u64 0] 73,.cells #[.int .u64 0,.int .u64 0,.int .u64 0,.int .u64 0,.int .u64 0] 73]) (w.heap.size + 1) 0 5:=(aH [.cells #[.int .u64 0,.int .u64 0,.int .u64 0,.int .u64 0,.int .u64 0] 73,.cells #[.int .u64 0,.int .u64 0,.int .u64 0,.int .u64 0,.int .u64 0] 73,.cells #[.int .u64 0,.int .u64 0,.int .u64 0,.int .u64 0,.int .u64 0] 73,.cells #[.int .u64 0,.int .u64 0,.int .u64 0,.int .u64 0,.int .u64 0] 73,.cells #[.int .u64 0,.int .u64 0,.int .u64 0,.int .u64 0,.int .u64 0] 73,.cells #[.int .u64 0,.int .u64 0,.int .u64 0,.int .u64 0,.int .u64 0] 73,.cells #[.int .u64 0,.int .u64 0,.int .u64 0,.int .u64 0,.int .u64 0] 73,.cells #[.int .u64 0,.int .u64 0,.int .u64 0,.int .u64 0,.int .u64 0] 73,.cells #[.int .u64 0,.int .u64 0,.int .u64 0,.int .u64 0,.int .u64 0] 73] w 1 z5 73 rfl).room rfl
 have K2:Room (allocL w [.cells #[.int .u64 0,.int .u64 0,.int .u64 0,.int .u64 0,.int .u64 0] 73,.cells #[.int .u64 0,.int .u64 0,.int .u64 0,.int .u64 0,.int .u64 0] 73,.cells #[.int .u64 0,.int .u64 0,.int .u64 0,.int .u64 0,.int .u64 0] 73,.cells #[.int .u64 0,.int .u64 0,.int .u64 0,.int .u64 0,.int .u64 0] 73,.cells #[.int .u64 0,.int .u64 0,.int .u64 0,.int .u64 0,.int .u64 0] 73,.cells #[.int .u64 0,.int .u64 0,.int .u64 0,.int .u64 0,.int .u64 0] 73,.cells #[.int .u64 0,.int .u64 0,.int .u64 0,.int .u64 0,.int .u64 0] 73,.cells #[.int .u64 0,.int .u64 0,.int .u64 0,.int .u64 0,.int .u64 0] 73,.cells #[.int .u64 0,.int .u64 0,.int .u64 0,.int .u64 0,.int .u64 0] 73]) (w.heap.size + 2) 0 5:=(aH [.cells #[.int .u64 0,.int .u64 0,.int .u64 0,.int .u64 0,.int .u64 0] 73,.cells #[.int .u64 0,.int .u64 0,.int .u64 0,.int .u64 0,.int .u64 0] 73,.cells #[.int .u64 0,.int .u64 0,.int .u64 0,.int .u64 0,.int .u64 0] 73,.cells #[.int .u64 0,.int .u64 0,.int .u64 0,.int .u64 0,.int .u64 0] 73,.cells #[.int .u64 0,.int .u64 0,.int .u64 0,.int .u64 0,.int .u64 0] 73,.cells #[.int .u64 0,.int .u64 0,.int .u64 0,.int .u64 0,.int .u64 0] 73,.cells #[.int .u64 0,.int .u64 0,.int .u64 0,.int .u64 0,.int .u64 0] 73,.cells #[.int .u64 0,.int .u64 0,.int .u64 0,.int .u64 0,.int .u64 0] 73,.cells #[.int .u64 0,.int .u64 0,.int .u64 0,.int .u64 0,.int .u64 0] 73] w 2 z5 73 rfl).room rfl
 have K3:Room (allocL w [.cells #[.int .u64 0,.int .u64 0,.int .u64 0,.int .u64 0,.int .u64 0] 73,.cells #[.int .u64 0,.int .u64 0,.int .u64 0,.int .u64 0,.int .u64 0] 73,.cells #[.int .u64 0,.int .u64 0,.int .u64 0,.int .u64 0,.int .u64 0] 73,.cells #[.int .u64 0,.int .u64 0,.int .u64 0,.int .u64 0,.int .u64 0] 73,.cells #[.int .u64 0,.int .u64 0,.int .u64 0,.int .u64 0,.int .u64 0] 73,.cells #[.int .u64 0,.int .u64 0,.int .u64 0,.int .u64 0,.int .u64 0] 73,.cells #[.int .u64 0,.int .u64 0,.int .u64 0,.int .u64 0,.int .u64 0] 73,.cells #[.int .u64 0,.int .u64 0,.int .u64 0,.int .u64 0,.int .u64 0] 73,.cells #[.int .u64 0,.int .u64 0,.int .u64 0,.int .u64 0,.int .u64 0] 73]) (w.heap.size + 3) 0 5:=(aH [.cells #[.int .u64 0,.int .u64 0,.int .u64 0,.int .u64 0,.int .u64 0] 73,.cells #[.int .u64 0,.int .u64 0,.int .u64 0,.int .u64 0,.int .u64 0] 73,.cells #[.int .u64 0,.int .u64 0,.int .u64 0,.int .u64 0,.int .u64 0] 73,.cells #[.int .u64 0,.int .u64 0,.int .u64 0,.int .u64 0,.int .u64 0] 73,.cells #[.int .u64 0,.int .u64 0,.int .u64 0,.int .u64 0,.int .u64 0] 73,.cells #[.int .u64 0,.int .u64 0,.int .u64 0,.int .u64 0,.int .u64 0] 73,.cells #[.int .u64 0,.int .u64 0,.int .u64 0,.int .u64 0,.int .u64 0] 73,.cells #[.int .u64 0,.int .u64 0,.int .u64 0,.int .u64 0,.int .u64 0] 73,.cells #[.int .u64 0,.int .u64 0,.int .u64 0,.int .u64 0,.int .u64 0] 73] w 3 z5 73 rfl).room rfl
 have K4:Room (allocL w [.cells #[.int .u64 0,.int .u64 0,.int .u64 0,.int .u64 0,.int .u64 0] 73,.cells #[.int .u64 0,.int .u64 0,.int .u64 0,.int .u64 0,.int .u64 0] 73,.cells #[.int .u64 0,.int .u64 0,.int .u64 0,.int .u64 0,.int .u64 0] 73,.cells #[.int .u64 0,.int .u64 0,.int .u64 0,.int .u64 0,.int .u64 0] 73,.cells #[.int .u64 0,.int .u64 0,.int .u64 0,.int .u64 0,.int .u64 0] 73,.cells #[.int .u64 0,.int .u64 0,.int .u64 0,.int .u64 0,.int .u64 0] 73,.cells #[.int .u64 0,.int .u64 0,.int .u64 0,.int .u64 0,.int .u64 0] 73,.cells #[.int .u64 0,.int .u64 0,.int .u64 0,.int .u64 0,.int .u64 0] 73,.cells #[.int .u64 0,.int .u64 0,.int .u64 0,.int .u64 0,.int .u64 0] 73]) (w.heap.size + 4) 0 5:=(aH [.cells #[.int .u64 0,.int .u64 0,.int .u64 0,.int .u64 0,.int .u64 0] 73,.cells #[.int .u64 0,.int .u64 0,.int .u64 0,.int .u64 0,.int .u64 0] 73,.cells #[.int .u64 0,.int .u64 0,.int .u64 0,.int .u64 0,.int .u64 0] 73,.cells #[.int .u64 0,.int .u64 0,.int .u64 0,.int .u64 0,.int .u64 0] 73,.cells #[.int .u64 0,.int .u64 0,.int .u64 0,.int .u64 0,.int .u64 0] 73,.cells #[.int .u64 0,.int .u64 0,.int .u64 0,.int .u64 0,.int .u64 0] 73,.cells #[.int .u64 0,.int .u64 0,.int .u64 0,.int .u64 0,.int .u64 0] 73,.cells #[.int .u64 0,.int .u64 0,.int .u64 0,.int .u64 0,.int .u64 0] 73,.cells #[.int .u64 0,.int .u64 0,.int .u64 0,.int .u64 0,.int .u64 0] 73] w 4 z5 73 rfl).room rfl
 have K5:Room (allocL w [.cells #[.int .u64 0,.int .u64 0,.int .u64 0,.int .u64 0,.int .u64 0] 73,.cells #[.int .u64 0,.int .u64 0,.int .u64 0,.int .u64 0,.int .u64 0] 73,.cells #[.int .u64 0,.int .u64 0,.int .u64 0,.int .u64 0,.int .u64 0] 73,.cells #[.int .u64 0,.int .u64 0,.int .u64 0,.int .u64 0,.int .u64 0] 73,.cells #[.int .u64 0,.int .u64 0,.int .u64 0,.int .u64 0,.int .u64 0] 73,.cells #[.int .u64 0,.int .u64 0,.int .u64 0,.int .u64 0,.int .u64 0] 73,.cells #[.int .u64 0,.int .u64 0,.int .u64 0,.int .u64 0,.int .u64 0] 73,.cells #[.int .u64 0,.int .u64 0,.int .u64 0,.int .u64 0,.int .u64 0] 73,.cells #[.int .u64 0,.int .u64 0,.int .u64 0,.int .u64 0,.int .u64 0] 73]) (w.heap.size + 5) 0 5:=(aH [.cells #[.int .u64 0,.int .u64 0,.int .u64 0,.int .u64 0,.int .u64 0] 73,.cells #[.int .u64 0,.int .u64 0,.int .u64 0,.int .u64 0,.int .u64 0] 73,.cells #[.int .u64 0,.int .u64 0,.int .u64 0,.int .u64 0,.int .u64 0] 73,.cells #[.int .u64 0,.int .u64 0,.int .u64 0,.int .u64 0,.int .u64 0] 73,.cells #[.int .u64 0,.int .u64 0,.int .u64 0,.int .u64 0,.int .u64 0] 73,.cells #[.int .u64 0,.int .u64 0,.int .u64 0,.int .u64 0,.int .u64 0] 73,.cells #[.int .u64 0,.int .u64 0,.int .u64 0,.int .u64 0,.int .u64 0] 73,.cells #[.int .u64 0,.int .u64 0,.int .u64 0,.int .u64 0,.int .u64 0] 73,.cells #[.int .u64 0,.int .u64 0,.int .u64 0,.int .u64 0,.int .u64 0] 73] w 5 z5 73 rfl).room rfl
 have K6:Room (allocL w [.cells #[.int .u64 0,.int .u64 0,.int .u64 0,.int .u64 0,.int .u64 0] 73,.cells #[.int .u64 0,.int .u64 0,.int .u64 0,.int .u64 0,.int .u64 0] 73,.cells #[.int .u64 0,.int .u64 0,.int .u64 0,.int .u64 0,.int .u64 0] 73,.cells #[.int .u64 0,.int .u64 0,.int .u64 0,.int .u64 0,.int .u64 0] 73,.cells #[.int .u64 0,.int .u64 0,.int .u64 0,.int .u64 0,.int .u64 0] 73,.cells #[.int .u64 0,.int .u64 0,.int .u64 0,.int .u64 0,.int .u64 0] 73,.cells #[.int .u64 0,.int .u64 0,.int .u64 0,.int .u64 0,.int .u64 0] 73,.cells #[.int .u64 0,.int .u64 0,.int .u64 0,.int .u64 0,.int .u64 0] 73,.cells #[.int .u64 0,.int .u64 0,.int .u64 0,.int .u64 0,.int .u64 0] 73]) (w.heap.size + 6) 0 5:=(aH [.cells #[.int .u64 0,.int .u64 0,.int .u64 0,.int .u64 0,.int .u64 0] 73,.cells #[.int .u64 0,.int .u64 0,.int .u64 0,.int .u64 0,.int .u64 0] 73,.cells #[.int .u64 0,.int .u64 0,.int .u64 0,.int .u64 0,.int .u64 0] 73,.cells #[.int .u64 0,.int .u64 0,.int .u64 0,.int .u64 0,.int .u64 0] 73,.cells #[.int .u64 0,.int .u64 0,.int .u64 0,.int .u64 0,.int .u64 0] 73,.cells #[.int .u64 0,.int .u64 0,.int .u64 0,.int .u64 0,.int .u64 0] 73,.cells #[.int .u64 0,.int .u64 0,.int .u64 0,.int .u64 0,.int .u64 0] 73,.cells #[.int .u64 0,.int .u64 0,.int .u64 0,.int .u64 0,.int .u64 0] 73,.cells #[.int .u64 0,.int .u64 0,.int .u64 0,.int .u64 0,.int .u64 0] 73] w 6 z5 73 rfl).room rfl
 have K7:Room (allocL w [.cells #[.int .u64 0,.int .u64 0,.int .u64 0,.int .u64 0,.int .u64 0] 73,.cells #[.int .u64 0,.int .u64 0,.int .u64 0,.int .u64 0,.int .u64 0] 73,.cells #[.int .u64 0,.int .u64 0,.int .u64 0,.int .u64 0,.int .u64 0] 73,.cells #[.int .u64 0,.int .u64 0,.int .u64 0,.int .u64 0,.int .u64 0] 73,.cells #[.int .u64 0,.int .u64 0,.int .u64 0,.int .u64 0,.int .u64 0] 73,.cells #[.int .u64 0,.int .u64 0,.int .u64 0,.int .u64 0,.int .u64 0] 73,.cells #[.int .u64 0,.int .u64 0,.int .u64 0,.int .u64 0,.int .u64 0] 73,.cells #[.int .u64 0,.int .u64 0,.int .u64 0,.int .u64 0,.int .u64 0] 73,.cells #[.int .u64 0,.int .u64 0,.int .u64 0,.int .u64 0,.int .u64 0] 73]) (w.heap.size + 7) 0 5:=(aH [.cells #[.int .u64 0,.int .u64 0,.int .u64 0,.int .u64 0,.int .u64 0] 73,.cells #[.int .u64 0,.int .u64 0,.int .u64 0,.int .u64 0,.int .u64 0] 73,.cells #[.int .u64 0,.int .u64 0,.int .u64 0,.int .u64 0,.int .u64 0] 73,.cells #[.int .u64 0,.int .u64 0,.int .u64 0,.int .u64 0,.int .u64 0] 73,.cells #[.int .u64 0,.int .u64 0,.int .u64 0,.int .u64 0,.int .u64 0] 73,.cells #[.int .u64 0,.int .u64 0,.int .u64 0,.int .u64 0,.int .u64 0] 73,.cells #[.int .u64 0,.int .u64 0,.int .u64 0,.int .u64 0,.int .u64 0] 73,.cells #[.int .u64 0,.int .u64 0,.int .u64 0,.int .u64 0,.int .u64 0] 73,.cells #[.int .u64 0,.int .u64 0,.int .u64 0,.int .u64 0,.int .u64 0] 73] w 7 z5 73 rfl).room rfl
 have K8:Room (allocL w [.cells #[.int .u64 0,.int .u64 0,.int .u64 0,.int .u64 0,.int .u64 0] 73,.cells #[.int .u64 0,.int .u64 0,.int .u64 0,.int .u64 0,.int .u64 0] 73,.cells #[.int .u64 0,.int .u64 0,.int .u64 0,.int .u64 0,.int .u64 0] 73,.cells #[.int .u64 0,.int .u64 0,.int .u64 0,.int .u64 0,.int .u64 0] 73,.cells #[.int .u64 0,.int .u64 0,.int .u64 0,.int .u64 0,.int .u64 0] 73,.cells #[.int .u64 0,.int .u64 0,.int .u64 0,.int .u64 0,.int .u64 0] 73,.cells #[.int .u64 0,.int .u64 0,.int .u64 0,.int .u64 0,.int .u64 0] 73,.cells #[.int .u64 0,.int .u64 0,.int .u64 0,.int .u64 0,.int .u64 0] 73,.cells #[.int .u64 0,.int .u64 0,.int .u64 0,.int .u64 0,.int .u64 0] 73]) (w.heap.size + 8) 0 5:=(aH [.cells #[.int .u64 0,.int .u64 0,.int .u64 0,.int .u64 0,.int .u64 0] 73,.cells #[.int .u64 0,.int .u64 0,.int .u64 0,.int .u64 0,.int .u64 0] 73,.cells #[.int .u64 0,.int .u64 0,.int .u64 0,.int .u64 0,.int .u64 0] 73,.cells #[.int .u64 0,.int .u64 0,.int .u64 0,.int .u64 0,.int .u64 0] 73,.cells #[.int .u64 0,.int .u64 0,.int .u64 0,.int .u64 0,.int .u64 0] 73,.cells #[.int .u64 0,.int .u64 0,.int .u64 0,.int .u64 0,.int .u64 0] 73,.cells #[.int .u64 0,.int .u64 0,.int .u64 0,.int .u64 0,.int .u64 0] 73,.cells #[.int .u64 0,.int .u64 0,.int .u64 0,.int .u64 0,.int .u64 0] 73,.cells #[.int .u64 0,.int .u64 0,.int .u64 0,.int .u64 0,.int .u64 0] 73] w 8 z5 73 rfl).room rfl
 have lx:=X.lt
 have lv:=RM.lt (by decide)
 replace X:=(X.keep (Chg.of_below (R:=R0) hb) (fun _ _ h=>h)).pow1
 replace RM:=RM.later hb
 have C:Chg R0 w (allocL w [.cells #[.int .u64 0,.int .u64 0,.int .u64 0,.int .u64 0,.int .u64 0] 73,.cells #[.int .u64 0,.int .u64 0,.int .u64 0,.int .u64 0,.int .u64 0] 73,.cells #[.int .u64 0,.int .u64 0,.int .u64 0,.int .u64 0,.int .u64 0] 73,.cells #[.int .u64 0,.int .u64 0,.int .u64 0,.int .u64 0,.int .u64 0] 73,.cells #[.int .u64 0,.int .u64 0,.int .u64 0,.int .u64 0,.int .u64 0] 73,.cells #[.int .u64 0,.int .u64 0,.int .u64 0,.int .u64 0,.int .u64 0] 73,.cells #[.int .u64 0,.int .u64 0,.int .u64 0,.int .u64 0,.int .u64 0] 73,.cells #[.int .u64 0,.int .u64 0,.int .u64 0,.int .u64 0,.int .u64 0] 73,.cells #[.int .u64 0,.int .u64 0,.int .u64 0,.int .u64 0,.int .u64 0] 73]):=Chg.of_below hb
 simp only [Nat.add_zero] at K0
 refine cG (fun W=>Chg R0 w W∧Room W bv ov 5∧Elt W bx ox (pow f 1)∧Room W (w.heap.size) 0 5∧Room W (w.heap.size + 1) 0 5∧Room W (w.heap.size + 2) 0 5∧Room W (w.heap.size + 3) 0 5∧Room W (w.heap.size + 4) 0 5∧Room W (w.heap.size + 5) 0 5∧Room W (w.heap.size + 6) 0 5∧Room W (w.heap.size + 7) 0 5∧Room W (w.heap.size + 8) 0 5) ⟨C,RM,X,K0,K1,K2,K3,K4,K5,K6,K7,K8⟩ ?_
 clear hb C RM X K0 K1 K2 K3 K4 K5 K6 K7 K8
 rintro W ⟨C,RM,X,K0,K1,K2,K3,K4,K5,K6,K7,K8⟩
 refine (sq_e K0 X).mono ?_
 rintro e W ⟨rfl,hc,hv⟩
 replace C:=C.loc hc (by omega)
 replace RM:=hc.room RM
 replace X:=X.blk hc (by omega)
 replace K1:=hc.room K1
 replace K2:=hc.room K2
 replace K3:=hc.room K3
 replace K4:=hc.room K4
 replace K5:=hc.room K5
 replace K6:=hc.room K6
 replace K7:=hc.room K7
 replace K8:=hc.room K8
 have K0n:=hv.mulp (d:=2) rfl
 clear hc hv
 clear K0
 have K0:=K0n
 clear K0n
 go_wp2_with fail
 refine (sq_e K8 K0).mono ?_
 rintro e W ⟨rfl,hc,hv⟩
 replace C:=C.loc hc (by omega)
 replace RM:=hc.room RM
 replace X:=X.blk hc (by omega)
 replace K0:=K0.blk hc (by omega)
 replace K1:=hc.room K1
 replace K2:=hc.room K2
 replace K3:=hc.room K3
 replace K4:=hc.room K4
 replace K5:=hc.room K5
 replace K6:=hc.room K6
 replace K7:=hc.room K7
 have K8n:=hv.mulp (d:=4) rfl
 clear hc hv
 clear K8
 have K8:=K8n
 clear K8n
 go_wp2_with fail
 refine (sq_e K8.room K8).mono ?_
 rintro e W ⟨rfl,hc,hv⟩
 replace C:=C.loc hc (by omega)
 replace RM:=hc.room RM
 replace X:=X.blk hc (by omega)
 replace K0:=K0.blk hc (by omega)
 replace K1:=hc.room K1
 replace K2:=hc.room K2
 replace K3:=hc.room K3
 replace K4:=hc.room K4
 replace K5:=hc.room K5
 replace K6:=hc.room K6
 replace K7:=hc.room K7
 have K8n:=hv.mulp (d:=8) rfl
 clear hc hv
 clear K8
 have K8:=K8n
 clear K8n
 go_wp2_with fail
 refine (mul_e K1 K8 X).mono ?_
 rintro e W ⟨rfl,hc,hv⟩
 replace C:=C.loc hc (by omega)
 replace RM:=hc.room RM
 replace X:=X.blk hc (by omega)
 replace K0:=K0.blk hc (by omega)
 replace K2:=hc.room K2
 replace K3:=hc.room K3
 replace K4:=hc.room K4
 replace K5:=hc.room K5
 replace K6:=hc.room K6
 replace K7:=hc.room K7
 replace K8:=K8.blk hc (by omega)
 have K1n:=hv.mulp (d:=9) rfl
 clear hc hv
 clear K1
 have K1:=K1n
 clear K1n
 go_wp2_with fail
 refine (mul_e K2 K1 K0).mono ?_
 rintro e W ⟨rfl,hc,hv⟩
 replace C:=C.loc hc (by omega)
 replace RM:=hc.room RM
 replace X:=X.blk hc (by omega)
 replace K0:=K0.blk hc (by omega)
 replace K1:=K1.blk hc (by omega)
 replace K3:=hc.room K3
 replace K4:=hc.room K4
 replace K5:=hc.room K5
 replace K6:=hc.room K6
 replace K7:=hc.room K7
 replace K8:=K8.blk hc (by omega)
 have K2n:=hv.mulp (d:=11) rfl
 clear hc hv
 clear K2
 have K2:=K2n
 clear K2n
 go_wp2_with fail
 refine (sq_e K8.room K2).mono ?_
 rintro e W ⟨rfl,hc,hv⟩
 replace C:=C.loc hc (by omega)
 replace RM:=hc.room RM
 replace X:=X.blk hc (by omega)
 replace K0:=K0.blk hc (by omega)
 replace K1:=K1.blk hc (by omega)
 replace K2:=K2.blk hc (by omega)
 replace K3:=hc.room K3
 replace K4:=hc.room K4
 replace K5:=hc.room K5
 replace K6:=hc.room K6
 replace K7:=hc.room K7
 have K8n:=hv.mulp (d:=22) rfl
 clear hc hv
 clear K8
 have K8:=K8n
 clear K8n
 go_wp2_with fail
 refine (mul_e K3 K8 K1).mono ?_
 rintro e W ⟨rfl,hc,hv⟩
 replace C:=C.loc hc (by omega)
 replace RM:=hc.room RM
 replace X:=X.blk hc (by omega)
 replace K0:=K0.blk hc (by omega)
 replace K1:=K1.blk hc (by omega)
 replace K2:=K2.blk hc (by omega)
 replace K4:=hc.room K4
 replace K5:=hc.room K5
 replace K6:=hc.room K6
 replace K7:=hc.room K7
 replace K8:=K8.blk hc (by omega)
 have K3n:=hv.mulp (d:=31) rfl
 clear hc hv
 clear K3
 have K3:=K3n
 clear K3n
 go_wp2_with fail
 refine (sq_e K8.room K3).mono ?_
 rintro e W ⟨rfl,hc,hv⟩
 replace C:=C.loc hc (by omega)
 replace RM:=hc.room RM
 replace X:=X.blk hc (by omega)
 replace K0:=K0.blk hc (by omega)
 replace K1:=K1.blk hc (by omega)
 replace K2:=K2.blk hc (by omega)
 replace K3:=K3.blk hc (by omega)
 replace K4:=hc.room K4
 replace K5:=hc.room K5
 replace K6:=hc.room K6
 replace K7:=hc.room K7
 have K8n:=hv.mulp (d:=62) rfl
 clear hc hv
 clear K8
 have K8:=K8n
 clear K8n
 go_wp2_with fail
 go_loopw [14] (fun i W=>∃ k:Nat,k ≤ 4∧i = .int .i64 k∧Chg R0 w W∧Room W bv ov 5∧Elt W bx ox (pow f 1)∧Elt W (w.heap.size) 0 (pow f 2)∧Elt W (w.heap.size + 1) 0 (pow f 9)∧Elt W (w.heap.size + 2) 0 (pow f 11)∧Elt W (w.heap.size + 3) 0 (pow f 31)∧Room W (w.heap.size + 4) 0 5∧Room W (w.heap.size + 5) 0 5∧Room W (w.heap.size + 6) 0 5∧Room W (w.heap.size + 7) 0 5∧Elt W (w.heap.size + 8) 0 (pow f (62 * 2 ^ k))) (fun i _=>4 - (intOf i).toNat)
 case atStart=>exact ⟨0,by omega,rfl,C,RM,X,K0,K1,K2,K3,K4,K5,K6,K7,K8.exp rfl⟩
 case round =>
  clear C RM X K0 K1 K2 K3 K4 K5 K6 K7 K8
  obtain ⟨k,hk,rfl,C,RM,X,K0,K1,K2,K3,K4,K5,K6,K7,K8⟩:=hrel
  by_cases hlt:k < 4
  ·go_wp2_with fail
   refine (sq_e K8.room K8).mono ?_
   rintro e W ⟨rfl,hc,hv⟩
   replace C:=C.loc hc (by omega)
   replace RM:=hc.room RM
   replace X:=X.blk hc (by omega)
   replace K0:=K0.blk hc (by omega)
   replace K1:=K1.blk hc (by omega)
   replace K2:=K2.blk hc (by omega)
   replace K3:=K3.blk hc (by omega)
   replace K4:=hc.room K4
   replace K5:=hc.room K5
   replace K6:=hc.room K6
   replace K7:=hc.room K7
   have K8n:=hv.mulp (sq_step 62 k)
   clear hc hv
   go_wp2_with fail
   go_roundw
   case rel=>exact ⟨k + 1,by omega,by go_num,C,RM,X,K0,K1,K2,K3,K4,K5,K6,K7,K8n⟩
   case measure=>simp [intOf];omega
  ·obtain rfl:k = 4:=by omega
   replace K8:=K8.exp (c:=992) rfl
   clear hk hlt
   go_wp2_with fail
   refine (mul_e K4 K8 K3).mono ?_
   rintro e W ⟨rfl,hc,hv⟩
   replace C:=C.loc hc (by omega)
   replace RM:=hc.room RM
   replace X:=X.blk hc (by omega)
   replace K0:=K0.blk hc (by omega)
   replace K1:=K1.blk hc (by omega)
   replace K2:=K2.blk hc (by omega)
   replace K3:=K3.blk hc (by omega)
   replace K5:=hc.room K5
   replace K6:=hc.room K6
   replace K7:=hc.room K7
   replace K8:=K8.blk hc (by omega)
   have K4n:=hv.mulp (d:=1023) rfl
   clear hc hv
   clear K4
   have K4:=K4n
   clear K4n
   go_wp2_with fail
   refine (sq_e K8.room K4).mono ?_
   rintro e W ⟨rfl,hc,hv⟩
   replace C:=C.loc hc (by omega)
   replace RM:=hc.room RM
   replace X:=X.blk hc (by omega)
   replace K0:=K0.blk hc (by omega)
   replace K1:=K1.blk hc (by omega)
   replace K2:=K2.blk hc (by omega)
   replace K3:=K3.blk hc (by omega)
   replace K4:=K4.blk hc (by omega)
   replace K5:=hc.room K5
   replace K6:=hc.room K6
   replace K7:=hc.room K7
   have K8n:=hv.mulp (d:=2046) rfl
   clear hc hv
   clear K8
   have K8:=K8n
   clear K8n
   go_wp2_with fail
   go_loopw [15] (fun i W=>∃ k:Nat,k ≤ 9∧i = .int .i64 k∧Chg R0 w W∧Room W bv ov 5∧Elt W bx ox (pow f 1)∧Elt W (w.heap.size) 0 (pow f 2)∧Elt W (w.heap.size + 1) 0 (pow f 9)∧Elt W (w.heap.size + 2) 0 (pow f 11)∧Elt W (w.heap.size + 3) 0 (pow f 31)∧Elt W (w.heap.size + 4) 0 (pow f 1023)∧Room W (w.heap.size + 5) 0 5∧Room W (w.heap.size + 6) 0 5∧Room W (w.heap.size + 7) 0 5∧Elt W (w.heap.size + 8) 0 (pow f (2046 * 2 ^ k))) (fun i _=>9 - (intOf i).toNat)
   case atStart=>exact ⟨0,by omega,rfl,C,RM,X,K0,K1,K2,K3,K4,K5,K6,K7,K8.exp rfl⟩
   case round =>
    clear C RM X K0 K1 K2 K3 K4 K5 K6 K7 K8
    obtain ⟨k,hk,rfl,C,RM,X,K0,K1,K2,K3,K4,K5,K6,K7,K8⟩:=hrel
    by_cases hlt:k < 9
    ·go_wp2_with fail
     refine (sq_e K8.room K8).mono ?_
     rintro e W ⟨rfl,hc,hv⟩
     replace C:=C.loc hc (by omega)
     replace RM:=hc.room RM
     replace X:=X.blk hc (by omega)
     replace K0:=K0.blk hc (by omega)
     replace K1:=K1.blk hc (by omega)
     replace K2:=K2.blk hc (by omega)
     replace K3:=K3.blk hc (by omega)
     replace K4:=K4.blk hc (by omega)
     replace K5:=hc.room K5
     replace K6:=hc.room K6
     replace K7:=hc.room K7
     have K8n:=hv.mulp (sq_step 2046 k)
     clear hc hv
     go_wp2_with fail
     go_roundw
     case rel=>exact ⟨k + 1,by omega,by go_num,C,RM,X,K0,K1,K2,K3,K4,K5,K6,K7,K8n⟩
     case measure=>simp [intOf];omega
    ·obtain rfl:k = 9:=by omega
     replace K8:=K8.exp (c:=1047552) rfl
     clear hk hlt
     go_wp2_with fail
     refine (mul_e K5 K8 K4).mono ?_
     rintro e W ⟨rfl,hc,hv⟩
     replace C:=C.loc hc (by omega)
     replace RM:=hc.room RM
     replace X:=X.blk hc (by omega)
     replace K0:=K0.blk hc (by omega)
     replace K1:=K1.blk hc (by omega)
     replace K2:=K2.blk hc (by omega)
     replace K3:=K3.blk hc (by omega)
     replace K4:=K4.blk hc (by omega)
     replace K6:=hc.room K6
     replace K7:=hc.room K7
     replace K8:=K8.blk hc (by omega)
     have K5n:=hv.mulp (d:=1048575) rfl
     clear hc hv
     clear K5
     have K5:=K5n
     clear K5n
     go_wp2_with fail
     refine (sq_e K8.room K5).mono ?_
     rintro e W ⟨rfl,hc,hv⟩
     replace C:=C.loc hc (by omega)
     replace RM:=hc.room RM
     replace X:=X.blk hc (by omega)
     replace K0:=K0.blk hc (by omega)
     replace K1:=K1.blk hc (by omega)
     replace K2:=K2.blk hc (by omega)
     replace K3:=K3.blk hc (by omega)
     replace K4:=K4.blk hc (by omega)
     replace K5:=K5.blk hc (by omega)
     replace K6:=hc.room K6
     replace K7:=hc.room K7
     have K8n:=hv.mulp (d:=2097150) rfl
     clear hc hv
     clear K8
     have K8:=K8n
     clear K8n
     go_wp2_with fail
     go_loopw [16] (fun i W=>∃ k:Nat,k ≤ 19∧i = .int .i64 k∧Chg R0 w W∧Room W bv ov 5∧Elt W bx ox (pow f 1)∧Elt W (w.heap.size) 0 (pow f 2)∧Elt W (w.heap.size + 1) 0 (pow f 9)∧Elt W (w.heap.size + 2) 0 (pow f 11)∧Elt W (w.heap.size + 3) 0 (pow f 31)∧Elt W (w.heap.size + 4) 0 (pow f 1023)∧Elt W (w.heap.size + 5) 0 (pow f 1048575)∧Room W (w.heap.size + 6) 0 5∧Room W (w.heap.size + 7) 0 5∧Elt W (w.heap.size + 8) 0 (pow f (2097150 * 2 ^ k))) (fun i _=>19 - (intOf i).toNat)
     case atStart=>exact ⟨0,by omega,rfl,C,RM,X,K0,K1,K2,K3,K4,K5,K6,K7,K8.exp rfl⟩
     case round =>
      clear C RM X K0 K1 K2 K3 K4 K5 K6 K7 K8
      obtain ⟨k,hk,rfl,C,RM,X,K0,K1,K2,K3,K4,K5,K6,K7,K8⟩:=hrel
      by_cases hlt:k < 19
      ·go_wp2_with fail
       refine (sq_e K8.room K8).mono ?_
       rintro e W ⟨rfl,hc,hv⟩
       replace C:=C.loc hc (by omega)
       replace RM:=hc.room RM
       replace X:=X.blk hc (by omega)
       replace K0:=K0.blk hc (by omega)
       replace K1:=K1.blk hc (by omega)
       replace K2:=K2.blk hc (by omega)
       replace K3:=K3.blk hc (by omega)
       replace K4:=K4.blk hc (by omega)
       replace K5:=K5.blk hc (by omega)
       replace K6:=hc.room K6
       replace K7:=hc.room K7
       have K8n:=hv.mulp (sq_step 2097150 k)
       clear hc hv
       go_wp2_with fail
       go_roundw
       case rel=>exact ⟨k + 1,by omega,by go_num,C,RM,X,K0,K1,K2,K3,K4,K5,K6,K7,K8n⟩
       case measure=>simp [intOf];omega
      ·obtain rfl:k = 19:=by omega
       replace K8:=K8.exp (c:=1099510579200) rfl
       clear hk hlt
       go_wp2_with fail
       refine (mul_e K8.room K8 K5).mono ?_
       rintro e W ⟨rfl,hc,hv⟩
       replace C:=C.loc hc (by omega)
       replace RM:=hc.room RM
       replace X:=X.blk hc (by omega)
       replace K0:=K0.blk hc (by omega)
       replace K1:=K1.blk hc (by omega)
       replace K2:=K2.blk hc (by omega)
       replace K3:=K3.blk hc (by omega)
       replace K4:=K4.blk hc (by omega)
       replace K5:=K5.blk hc (by omega)
       replace K6:=hc.room K6
       replace K7:=hc.room K7
       have K8n:=hv.mulp (d:=1099511627775) rfl
       clear hc hv
       clear K8
       have K8:=K8n
       clear K8n
       go_wp2_with fail
       refine (sq_e K8.room K8).mono ?_
       rintro e W ⟨rfl,hc,hv⟩
       replace C:=C.loc hc (by omega)
       replace RM:=hc.room RM
       replace X:=X.blk hc (by omega)
       replace K0:=K0.blk hc (by omega)
       replace K1:=K1.blk hc (by omega)
       replace K2:=K2.blk hc (by omega)
       replace K3:=K3.blk hc (by omega)
       replace K4:=K4.blk hc (by omega)
       replace K5:=K5.blk hc (by omega)
       replace K6:=hc.room K6
       replace K7:=hc.room K7
       have K8n:=hv.mulp (d:=2199023255550) rfl
       clear hc hv
       clear K8
       have K8:=K8n
       clear K8n
       go_wp2_with fail
       go_loopw [17] (fun i W=>∃ k:Nat,k ≤ 9∧i = .int .i64 k∧Chg R0 w W∧Room W bv ov 5∧Elt W bx ox (pow f 1)∧Elt W (w.heap.size) 0 (pow f 2)∧Elt W (w.heap.size + 1) 0 (pow f 9)∧Elt W (w.heap.size + 2) 0 (pow f 11)∧Elt W (w.heap.size + 3) 0 (pow f 31)∧Elt W (w.heap.size + 4) 0 (pow f 1023)∧Elt W (w.heap.size + 5) 0 (pow f 1048575)∧Room W (w.heap.size + 6) 0 5∧Room W (w.heap.size + 7) 0 5∧Elt W (w.heap.size + 8) 0 (pow f (2199023255550 * 2 ^ k))) (fun i _=>9 - (intOf i).toNat)
       case atStart=>exact ⟨0,by omega,rfl,C,RM,X,K0,K1,K2,K3,K4,K5,K6,K7,K8.exp rfl⟩
       case round =>
        clear C RM X K0 K1 K2 K3 K4 K5 K6 K7 K8
        obtain ⟨k,hk,rfl,C,RM,X,K0,K1,K2,K3,K4,K5,K6,K7,K8⟩:=hrel
        by_cases hlt:k < 9
        ·go_wp2_with fail
         refine (sq_e K8.room K8).mono ?_
         rintro e W ⟨rfl,hc,hv⟩
         replace C:=C.loc hc (by omega)
         replace RM:=hc.room RM
         replace X:=X.blk hc (by omega)
         replace K0:=K0.blk hc (by omega)
         replace K1:=K1.blk hc (by omega)
         replace K2:=K2.blk hc (by omega)
         replace K3:=K3.blk hc (by omega)
         replace K4:=K4.blk hc (by omega)
         replace K5:=K5.blk hc (by omega)
         replace K6:=hc.room K6
         replace K7:=hc.room K7
         have K8n:=hv.mulp (sq_step 2199023255550 k)
         clear hc hv
         go_wp2_with fail
         go_roundw
         case rel=>exact ⟨k + 1,by omega,by go_num,C,RM,X,K0,K1,K2,K3,K4,K5,K6,K7,K8n⟩
         case measure=>simp [intOf];omega
        ·obtain rfl:k = 9:=by omega
         replace K8:=K8.exp (c:=1125899906841600) rfl
         clear hk hlt
         go_wp2_with fail
         refine (mul_e K6 K8 K4).mono ?_
         rintro e W ⟨rfl,hc,hv⟩
         replace C:=C.loc hc (by omega)
         replace RM:=hc.room RM
         replace X:=X.blk hc (by omega)
         replace K0:=K0.blk hc (by omega)
         replace K1:=K1.blk hc (by omega)
         replace K2:=K2.blk hc (by omega)
         replace K3:=K3.blk hc (by omega)
         replace K4:=K4.blk hc (by omega)
         replace K5:=K5.blk hc (by omega)
         replace K7:=hc.room K7
         replace K8:=K8.blk hc (by omega)
         have K6n:=hv.mulp (d:=1125899906842623) rfl
         clear hc hv
         clear K6
         have K6:=K6n
         clear K6n
         go_wp2_with fail
         refine (sq_e K8.room K6).mono ?_
         rintro e W ⟨rfl,hc,hv⟩
         replace C:=C.loc hc (by omega)
         replace RM:=hc.room RM
         replace X:=X.blk hc (by omega)
         replace K0:=K0.blk hc (by omega)
         replace K1:=K1.blk hc (by omega)
         replace K2:=K2.blk hc (by omega)
         replace K3:=K3.blk hc (by omega)
         replace K4:=K4.blk hc (by omega)
         replace K5:=K5.blk hc (by omega)
         replace K6:=K6.blk hc (by omega)
         replace K7:=hc.room K7
         have K8n:=hv.mulp (d:=2251799813685246) rfl
         clear hc hv
         clear K8
         have K8:=K8n
         clear K8n
         go_wp2_with fail
         go_loopw [18] (fun i W=>∃ k:Nat,k ≤ 49∧i = .int .i64 k∧Chg R0 w W∧Room W bv ov 5∧Elt W bx ox (pow f 1)∧Elt W (w.heap.size) 0 (pow f 2)∧Elt W (w.heap.size + 1) 0 (pow f 9)∧Elt W (w.heap.size + 2) 0 (pow f 11)∧Elt W (w.heap.size + 3) 0 (pow f 31)∧Elt W (w.heap.size + 4) 0 (pow f 1023)∧Elt W (w.heap.size + 5) 0 (pow f 1048575)∧Elt W (w.heap.size + 6) 0 (pow f 1125899906842623)∧Room W (w.heap.size + 7) 0 5∧Elt W (w.heap.size + 8) 0 (pow f (2251799813685246 * 2 ^ k))) (fun i _=>49 - (intOf i).toNat)
         case atStart=>exact ⟨0,by omega,rfl,C,RM,X,K0,K1,K2,K3,K4,K5,K6,K7,K8.exp rfl⟩
         case round =>
          clear C RM X K0 K1 K2 K3 K4 K5 K6 K7 K8
          obtain ⟨k,hk,rfl,C,RM,X,K0,K1,K2,K3,K4,K5,K6,K7,K8⟩:=hrel
          by_cases hlt:k < 49
          ·go_wp2_with fail
           refine (sq_e K8.room K8).mono ?_
           rintro e W ⟨rfl,hc,hv⟩
           replace C:=C.loc hc (by omega)
           replace RM:=hc.room RM
           replace X:=X.blk hc (by omega)
           replace K0:=K0.blk hc (by omega)
           replace K1:=K1.blk hc (by omega)
           replace K2:=K2.blk hc (by omega)
           replace K3:=K3.blk hc (by omega)
           replace K4:=K4.blk hc (by omega)
           replace K5:=K5.blk hc (by omega)
           replace K6:=K6.blk hc (by omega)
           replace K7:=hc.room K7
           have K8n:=hv.mulp (sq_step 2251799813685246 k)
           clear hc hv
           go_wp2_with fail
           go_roundw
           case rel=>exact ⟨k + 1,by omega,by go_num,C,RM,X,K0,K1,K2,K3,K4,K5,K6,K7,K8n⟩
           case measure=>simp [intOf];omega
          ·obtain rfl:k = 49:=by omega
           replace K8:=K8.exp (c:=1267650600228228275596796362752) rfl
           clear hk hlt
           go_wp2_with fail
           refine (mul_e K7 K8 K6).mono ?_
           rintro e W ⟨rfl,hc,hv⟩
           replace C:=C.loc hc (by omega)
           replace RM:=hc.room RM
           replace X:=X.blk hc (by omega)
           replace K0:=K0.blk hc (by omega)
           replace K1:=K1.blk hc (by omega)
           replace K2:=K2.blk hc (by omega)
           replace K3:=K3.blk hc (by omega)
           replace K4:=K4.blk hc (by omega)
           replace K5:=K5.blk hc (by omega)
           replace K6:=K6.blk hc (by omega)
           replace K8:=K8.blk hc (by omega)
           have K7n:=hv.mulp (d:=1267650600228229401496703205375) rfl
           clear hc hv
           clear K7
           have K7:=K7n
           clear K7n
           go_wp2_with fail
           refine (sq_e K8.room K7).mono ?_
           rintro e W ⟨rfl,hc,hv⟩
           replace C:=C.loc hc (by omega)
           replace RM:=hc.room RM
           replace X:=X.blk hc (by omega)
           replace K0:=K0.blk hc (by omega)
           replace K1:=K1.blk hc (by omega)
           replace K2:=K2.blk hc (by omega)
           replace K3:=K3.blk hc (by omega)
           replace K4:=K4.blk hc (by omega)
           replace K5:=K5.blk hc (by omega)
           replace K6:=K6.blk hc (by omega)
           replace K7:=K7.blk hc (by omega)
           have K8n:=hv.mulp (d:=2535301200456458802993406410750) rfl
           clear hc hv
           clear K8
           have K8:=K8n
           clear K8n
           go_wp2_with fail
           go_loopw [19] (fun i W=>∃ k:Nat,k ≤ 99∧i = .int .i64 k∧Chg R0 w W∧Room W bv ov 5∧Elt W bx ox (pow f 1)∧Elt W (w.heap.size) 0 (pow f 2)∧Elt W (w.heap.size + 1) 0 (pow f 9)∧Elt W (w.heap.size + 2) 0 (pow f 11)∧Elt W (w.heap.size + 3) 0 (pow f 31)∧Elt W (w.heap.size + 4) 0 (pow f 1023)∧Elt W (w.heap.size + 5) 0 (pow f 1048575)∧Elt W (w.heap.size + 6) 0 (pow f 1125899906842623)∧Elt W (w.heap.size + 7) 0 (pow f 1267650600228229401496703205375)∧Elt W (w.heap.size + 8) 0 (pow f (2535301200456458802993406410750 * 2 ^ k))) (fun i _=>99 - (intOf i).toNat)
           case atStart=>exact ⟨0,by omega,rfl,C,RM,X,K0,K1,K2,K3,K4,K5,K6,K7,K8.exp rfl⟩
           case round =>
            clear C RM X K0 K1 K2 K3 K4 K5 K6 K7 K8
            obtain ⟨k,hk,rfl,C,RM,X,K0,K1,K2,K3,K4,K5,K6,K7,K8⟩:=hrel
            by_cases hlt:k < 99
            ·go_wp2_with fail
             refine (sq_e K8.room K8).mono ?_
             rintro e W ⟨rfl,hc,hv⟩
             replace C:=C.loc hc (by omega)
             replace RM:=hc.room RM
             replace X:=X.blk hc (by omega)
             replace K0:=K0.blk hc (by omega)
             replace K1:=K1.blk hc (by omega)
             replace K2:=K2.blk hc (by omega)
             replace K3:=K3.blk hc (by omega)
             replace K4:=K4.blk hc (by omega)
             replace K5:=K5.blk hc (by omega)
             replace K6:=K6.blk hc (by omega)
             replace K7:=K7.blk hc (by omega)
             have K8n:=hv.mulp (sq_step 2535301200456458802993406410750 k)
             clear hc hv
             go_wp2_with fail
             go_roundw
             case rel=>exact ⟨k + 1,by omega,by go_num,C,RM,X,K0,K1,K2,K3,K4,K5,K6,K7,K8n⟩
             case measure=>simp [intOf];omega
            ·obtain rfl:k = 99:=by omega
             replace K8:=K8.exp (c:=1606938044258990275541962092339894951921974764381296132096000) rfl
             clear hk hlt
             go_wp2_with fail
             refine (mul_e K8.room K8 K7).mono ?_
             rintro e W ⟨rfl,hc,hv⟩
             replace C:=C.loc hc (by omega)
             replace RM:=hc.room RM
             replace X:=X.blk hc (by omega)
             replace K0:=K0.blk hc (by omega)
             replace K1:=K1.blk hc (by omega)
             replace K2:=K2.blk hc (by omega)
             replace K3:=K3.blk hc (by omega)
             replace K4:=K4.blk hc (by omega)
             replace K5:=K5.blk hc (by omega)
             replace K6:=K6.blk hc (by omega)
             replace K7:=K7.blk hc (by omega)
             have K8n:=hv.mulp (d:=1606938044258990275541962092341162602522202993782792835301375) rfl
             clear hc hv
             clear K8
             have K8:=K8n
             clear K8n
             go_wp2_with fail
             refine (sq_e K8.room K8).mono ?_
             rintro e W ⟨rfl,hc,hv⟩
             replace C:=C.loc hc (by omega)
             replace RM:=hc.room RM
             replace X:=X.blk hc (by omega)
             replace K0:=K0.blk hc (by omega)
             replace K1:=K1.blk hc (by omega)
             replace K2:=K2.blk hc (by omega)
             replace K3:=K3.blk hc (by omega)
             replace K4:=K4.blk hc (by omega)
             replace K5:=K5.blk hc (by omega)
             replace K6:=K6.blk hc (by omega)
             replace K7:=K7.blk hc (by omega)
             have K8n:=hv.mulp (d:=3213876088517980551083924184682325205044405987565585670602750) rfl
             clear hc hv
             clear K8
             have K8:=K8n
             clear K8n
             go_wp2_with fail
             go_loopw [20] (fun i W=>∃ k:Nat,k ≤ 49∧i = .int .i64 k∧Chg R0 w W∧Room W bv ov 5∧Elt W bx ox (pow f 1)∧Elt W (w.heap.size) 0 (pow f 2)∧Elt W (w.heap.size + 1) 0 (pow f 9)∧Elt W (w.heap.size + 2) 0 (pow f 11)∧Elt W (w.heap.size + 3) 0 (pow f 31)∧Elt W (w.heap.size + 4) 0 (pow f 1023)∧Elt W (w.heap.size + 5) 0 (pow f 1048575)∧Elt W (w.heap.size + 6) 0 (pow f 1125899906842623)∧Elt W (w.heap.size + 7) 0 (pow f 1267650600228229401496703205375)∧Elt W (w.heap.size + 8) 0 (pow f (3213876088517980551083924184682325205044405987565585670602750 * 2 ^ k))) (fun i _=>49 - (intOf i).toNat)
             case atStart=>exact ⟨0,by omega,rfl,C,RM,X,K0,K1,K2,K3,K4,K5,K6,K7,K8.exp rfl⟩
             case round =>
              clear C RM X K0 K1 K2 K3 K4 K5 K6 K7 K8
              obtain ⟨k,hk,rfl,C,RM,X,K0,K1,K2,K3,K4,K5,K6,K7,K8⟩:=hrel
              by_cases hlt:k < 49
              ·go_wp2_with fail
               refine (sq_e K8.room K8).mono ?_
               rintro e W ⟨rfl,hc,hv⟩
               replace C:=C.loc hc (by omega)
               replace RM:=hc.room RM
               replace X:=X.blk hc (by omega)
               replace K0:=K0.blk hc (by omega)
               replace K1:=K1.blk hc (by omega)
               replace K2:=K2.blk hc (by omega)
               replace K3:=K3.blk hc (by omega)
               replace K4:=K4.blk hc (by omega)
               replace K5:=K5.blk hc (by omega)
               replace K6:=K6.blk hc (by omega)
               replace K7:=K7.blk hc (by omega)
               have K8n:=hv.mulp (sq_step 3213876088517980551083924184682325205044405987565585670602750 k)
               clear hc hv
               go_wp2_with fail
               go_roundw
               case rel=>exact ⟨k + 1,by omega,by go_num,C,RM,X,K0,K1,K2,K3,K4,K5,K6,K7,K8n⟩
               case measure=>simp [intOf];omega
              ·obtain rfl:k = 49:=by omega
               replace K8:=K8.exp (c:=1809251394333065553493296640760748560207343510400633813116523624223735808000) rfl
               clear hk hlt
               go_wp2_with fail
               refine (mul_e K8.room K8 K6).mono ?_
               rintro e W ⟨rfl,hc,hv⟩
               replace C:=C.loc hc (by omega)
               replace RM:=hc.room RM
               replace X:=X.blk hc (by omega)
               replace K0:=K0.blk hc (by omega)
               replace K1:=K1.blk hc (by omega)
               replace K2:=K2.blk hc (by omega)
               replace K3:=K3.blk hc (by omega)
               replace K4:=K4.blk hc (by omega)
               replace K5:=K5.blk hc (by omega)
               replace K6:=K6.blk hc (by omega)
               replace K7:=K7.blk hc (by omega)
               have K8n:=hv.mulp (d:=1809251394333065553493296640760748560207343510400633813116524750123642650623) rfl
               clear hc hv
               clear K8
               have K8:=K8n
               clear K8n
               go_wp2_with fail
               refine (sq_e K8.room K8).mono ?_
               rintro e W ⟨rfl,hc,hv⟩
               replace C:=C.loc hc (by omega)
               replace RM:=hc.room RM
               replace X:=X.blk hc (by omega)
               replace K0:=K0.blk hc (by omega)
               replace K1:=K1.blk hc (by omega)
               replace K2:=K2.blk hc (by omega)
               replace K3:=K3.blk hc (by omega)
               replace K4:=K4.blk hc (by omega)
               replace K5:=K5.blk hc (by omega)
               replace K6:=K6.blk hc (by omega)
               replace K7:=K7.blk hc (by omega)
               have K8n:=hv.mulp (d:=3618502788666131106986593281521497120414687020801267626233049500247285301246) rfl
               clear hc hv
               clear K8
               have K8:=K8n
               clear K8n
               go_wp2_with fail
               refine (sq_e K8.room K8).mono ?_
               rintro e W ⟨rfl,hc,hv⟩
               replace C:=C.loc hc (by omega)
               replace RM:=hc.room RM
               replace X:=X.blk hc (by omega)
               replace K0:=K0.blk hc (by omega)
               replace K1:=K1.blk hc (by omega)
               replace K2:=K2.blk hc (by omega)
               replace K3:=K3.blk hc (by omega)
               replace K4:=K4.blk hc (by omega)
               replace K5:=K5.blk hc (by omega)
               replace K6:=K6.blk hc (by omega)
               replace K7:=K7.blk hc (by omega)
               have K8n:=hv.mulp (d:=7237005577332262213973186563042994240829374041602535252466099000494570602492) rfl
               clear hc hv
               clear K8
               have K8:=K8n
               clear K8n
               go_wp2_with fail
               refine (sq_e K8.room K8).mono ?_
               rintro e W ⟨rfl,hc,hv⟩
               replace C:=C.loc hc (by omega)
               replace RM:=hc.room RM
               replace X:=X.blk hc (by omega)
               replace K0:=K0.blk hc (by omega)
               replace K1:=K1.blk hc (by omega)
               replace K2:=K2.blk hc (by omega)
               replace K3:=K3.blk hc (by omega)
               replace K4:=K4.blk hc (by omega)
               replace K5:=K5.blk hc (by omega)
               replace K6:=K6.blk hc (by omega)
               replace K7:=K7.blk hc (by omega)
               have K8n:=hv.mulp (d:=14474011154664524427946373126085988481658748083205070504932198000989141204984) rfl
               clear hc hv
               clear K8
               have K8:=K8n
               clear K8n
               go_wp2_with fail
               refine (sq_e K8.room K8).mono ?_
               rintro e W ⟨rfl,hc,hv⟩
               replace C:=C.loc hc (by omega)
               replace RM:=hc.room RM
               replace X:=X.blk hc (by omega)
               replace K0:=K0.blk hc (by omega)
               replace K1:=K1.blk hc (by omega)
               replace K2:=K2.blk hc (by omega)
               replace K3:=K3.blk hc (by omega)
               replace K4:=K4.blk hc (by omega)
               replace K5:=K5.blk hc (by omega)
               replace K6:=K6.blk hc (by omega)
               replace K7:=K7.blk hc (by omega)
               have K8n:=hv.mulp (d:=28948022309329048855892746252171976963317496166410141009864396001978282409968) rfl
               clear hc hv
               clear K8
               have K8:=K8n
               clear K8n
               go_wp2_with fail
               refine (sq_e K8.room K8).mono ?_
               rintro e W ⟨rfl,hc,hv⟩
               replace C:=C.loc hc (by omega)
               replace RM:=hc.room RM
               replace X:=X.blk hc (by omega)
               replace K0:=K0.blk hc (by omega)
               replace K1:=K1.blk hc (by omega)
               replace K2:=K2.blk hc (by omega)
               replace K3:=K3.blk hc (by omega)
               replace K4:=K4.blk hc (by omega)
               replace K5:=K5.blk hc (by omega)
               replace K6:=K6.blk hc (by omega)
               replace K7:=K7.blk hc (by omega)
               have K8n:=hv.mulp (d:=57896044618658097711785492504343953926634992332820282019728792003956564819936) rfl
               clear hc hv
               clear K8
               have K8:=K8n
               clear K8n
               go_wp2_with fail
               refine (mul_e RM K8 K2).mono ?_
               rintro e W ⟨rfl,hc,hv⟩
               have hf:=C.mono (R':=Rg bv ov 5) (fun _ _ _ h=>h.elim)
               replace hf:=hd (hf.trans hc)
               replace hv:=hd (hv.mulp (d:=57896044618658097711785492504343953926634992332820282019728792003956564819947) rfl)
               clear hc C RM X K0 K1 K2 K3 K4 K5 K6 K7 K8
               go_wp2_with fail
               go_ret
               exact ⟨rfl,hf.out,by have h:=hv.out;unfold inv;exact h.exp (c:=P - 2) (show 57896044618658097711785492504343953926634992332820282019728792003956564819947 = P - 2 by decide)⟩
theorem pow22523_e {bv ov bx ox:Nat} {f:F} {w:World} (RM:Room w bv ov 5) (X:Elt w bx ox f) :
  Calls Tryz.prog 112 #[Ptr bv ov,Ptr bx ox] w (Puts w bv ov (pow f 7237005577332262213973186563042994240829374041602535252466099000494570602493)):=by
 go_enter Tryz.func112,Tryz.ntmps112
 go_wp2_with fail
 have hb:=aB [.cells #[.int .u64 0,.int .u64 0,.int .u64 0,.int .u64 0,.int .u64 0] 73,.cells #[.int .u64 0,.int .u64 0,.int .u64 0,.int .u64 0,.int .u64 0] 73,.cells #[.int .u64 0,.int .u64 0,.int .u64 0,.int .u64 0,.int .u64 0] 73] w
 have K0:Room (allocL w [.cells #[.int .u64 0,.int .u64 0,.int .u64 0,.int .u64 0,.int .u64 0] 73,.cells #[.int .u64 0,.int .u64 0,.int .u64 0,.int .u64 0,.int .u64 0] 73,.cells #[.int .u64 0,.int .u64 0,.int .u64 0,.int .u64 0,.int .u64 0] 73]) (w.heap.size + 0) 0 5:=(aH [.cells #[.int .u64 0,.int .u64 0,.int .u64 0,.int .u64 0,.int .u64 0] 73,.cells #[.int .u64 0,.int .u64 0,.int .u64 0,.int .u64 0,.int .u64 0] 73,.cells #[.int .u64 0,.int .u64 0,.int .u64 0,.int .u64 0,.int .u64 0] 73] w 0 z5 73 rfl).room rfl
 have K1:Room (allocL w [.cells #[.int .u64 0,.int .u64 0,.int .u64 0,.int .u64 0,.int .u64 0] 73,.cells #[.int .u64 0,.int .u64 0,.int .u64 0,.int .u64 0,.int .u64 0] 73,.cells #[.int .u64 0,.int .u64 0,.int .u64 0,.int .u64 0,.int .u64 0] 73]) (w.heap.size + 1) 0 5:=(aH [.cells #[.int .u64 0,.int .u64 0,.int .u64 0,.int .u64 0,.int .u64 0] 73,.cells #[.int .u64 0,.int .u64 0,.int .u64 0,.int .u64 0,.int .u64 0] 73,.cells #[.int .u64 0,.int .u64 0,.int .u64 0,.int .u64 0,.int .u64 0] 73] w 1 z5 73 rfl).room rfl
 have K2:Room (allocL w [.cells #[.int .u64 0,.int .u64 0,.int .u64 0,.int .u64 0,.int .u64 0] 73,.cells #[.int .u64 0,.int .u64 0,.int .u64 0,.int .u64 0,.int .u64 0] 73,.cells #[.int .u64 0,.int .u64 0,.int .u64 0,.int .u64 0,.int .u64 0] 73]) (w.heap.size + 2) 0 5:=(aH [.cells #[.int .u64 0,.int .u64 0,.int .u64 0,.int .u64 0,.int .u64 0] 73,.cells #[.int .u64 0,.int .u64 0,.int .u64 0,.int .u64 0,.int .u64 0] 73,.cells #[.int .u64 0,.int .u64 0,.int .u64 0,.int .u64 0,.int .u64 0] 73] w 2 z5 73 rfl).room rfl
 have lx:=X.lt
 have lv:=RM.lt (by decide)
 replace X:=(X.keep (Chg.of_below (R:=R0) hb) (fun _ _ h=>h)).pow1
 replace RM:=RM.later hb
 have C:Chg R0 w (allocL w [.cells #[.int .u64 0,.int .u64 0,.int .u64 0,.int .u64 0,.int .u64 0] 73,.cells #[.int .u64 0,.int .u64 0,.int .u64 0,.int .u64 0,.int .u64 0] 73,.cells #[.int .u64 0,.int .u64 0,.int .u64 0,.int .u64 0,.int .u64 0] 73]):=Chg.of_below hb
 simp only [Nat.add_zero] at K0
 refine cG (fun W=>Chg R0 w W∧Room W bv ov 5∧Elt W bx ox (pow f 1)∧Room W (w.heap.size) 0 5∧Room W (w.heap.size + 1) 0 5∧Room W (w.heap.size + 2) 0 5) ⟨C,RM,X,K0,K1,K2⟩ ?_
 clear hb C RM X K0 K1 K2
 rintro W ⟨C,RM,X,K0,K1,K2⟩
 refine (sq_e K0 X).mono ?_
 rintro e W ⟨rfl,hc,hv⟩
 replace C:=C.loc hc (by omega)
 replace RM:=hc.room RM
 replace X:=X.blk hc (by omega)
 replace K1:=hc.room K1
 replace K2:=hc.room K2
 have K0n:=hv.mulp (d:=2) rfl
 clear hc hv
 clear K0
 have K0:=K0n
 clear K0n
 go_wp2_with fail
 refine (sq_e K1 K0).mono ?_
 rintro e W ⟨rfl,hc,hv⟩
 replace C:=C.loc hc (by omega)
 replace RM:=hc.room RM
 replace X:=X.blk hc (by omega)
 replace K0:=K0.blk hc (by omega)
 replace K2:=hc.room K2
 have K1n:=hv.mulp (d:=4) rfl
 clear hc hv
 clear K1
 have K1:=K1n
 clear K1n
 go_wp2_with fail
 refine (sq_e K1.room K1).mono ?_
 rintro e W ⟨rfl,hc,hv⟩
 replace C:=C.loc hc (by omega)
 replace RM:=hc.room RM
 replace X:=X.blk hc (by omega)
 replace K0:=K0.blk hc (by omega)
 replace K2:=hc.room K2
 have K1n:=hv.mulp (d:=8) rfl
 clear hc hv
 clear K1
 have K1:=K1n
 clear K1n
 go_wp2_with fail
 refine (mul_e K1.room X K1).mono ?_
 rintro e W ⟨rfl,hc,hv⟩
 replace C:=C.loc hc (by omega)
 replace RM:=hc.room RM
 replace X:=X.blk hc (by omega)
 replace K0:=K0.blk hc (by omega)
 replace K2:=hc.room K2
 have K1n:=hv.mulp (d:=9) rfl
 clear hc hv
 clear K1
 have K1:=K1n
 clear K1n
 go_wp2_with fail
 refine (mul_e K0.room K0 K1).mono ?_
 rintro e W ⟨rfl,hc,hv⟩
 replace C:=C.loc hc (by omega)
 replace RM:=hc.room RM
 replace X:=X.blk hc (by omega)
 replace K1:=K1.blk hc (by omega)
 replace K2:=hc.room K2
 have K0n:=hv.mulp (d:=11) rfl
 clear hc hv
 clear K0
 have K0:=K0n
 clear K0n
 go_wp2_with fail
 refine (sq_e K0.room K0).mono ?_
 rintro e W ⟨rfl,hc,hv⟩
 replace C:=C.loc hc (by omega)
 replace RM:=hc.room RM
 replace X:=X.blk hc (by omega)
 replace K1:=K1.blk hc (by omega)
 replace K2:=hc.room K2
 have K0n:=hv.mulp (d:=22) rfl
 clear hc hv
 clear K0
 have K0:=K0n
 clear K0n
 go_wp2_with fail
 refine (mul_e K0.room K1 K0).mono ?_
 rintro e W ⟨rfl,hc,hv⟩
 replace C:=C.loc hc (by omega)
 replace RM:=hc.room RM
 replace X:=X.blk hc (by omega)
 replace K1:=K1.blk hc (by omega)
 replace K2:=hc.room K2
 have K0n:=hv.mulp (d:=31) rfl
 clear hc hv
 clear K0
 have K0:=K0n
 clear K0n
 go_wp2_with fail
 refine (sq_e K1.room K0).mono ?_
 rintro e W ⟨rfl,hc,hv⟩
 replace C:=C.loc hc (by omega)
 replace RM:=hc.room RM
 replace X:=X.blk hc (by omega)
 replace K0:=K0.blk hc (by omega)
 replace K2:=hc.room K2
 have K1n:=hv.mulp (d:=62) rfl
 clear hc hv
 clear K1
 have K1:=K1n
 clear K1n
 go_wp2_with fail
 go_loopw [8] (fun i W=>∃ k:Nat,k ≤ 4∧i = .int .i64 ((k + 1:Nat):Int)∧Chg R0 w W∧Room W bv ov 5∧Elt W bx ox (pow f 1)∧Elt W (w.heap.size) 0 (pow f 31)∧Elt W (w.heap.size + 1) 0 (pow f (62 * 2 ^ k))∧Room W (w.heap.size + 2) 0 5) (fun i _=>5 - (intOf i).toNat)
 case atStart=>exact ⟨0,by omega,rfl,C,RM,X,K0,K1.exp rfl,K2⟩
 case round =>
  clear C RM X K0 K1 K2
  obtain ⟨k,hk,rfl,C,RM,X,K0,K1,K2⟩:=hrel
  by_cases hlt:k < 4
  ·go_wp2_with fail
   refine (sq_e K1.room K1).mono ?_
   rintro e W ⟨rfl,hc,hv⟩
   replace C:=C.loc hc (by omega)
   replace RM:=hc.room RM
   replace X:=X.blk hc (by omega)
   replace K0:=K0.blk hc (by omega)
   replace K2:=hc.room K2
   have K1n:=hv.mulp (sq_step 62 k)
   clear hc hv
   go_wp2_with fail
   go_roundw
   case rel=>exact ⟨k + 1,by omega,by go_num,C,RM,X,K0,K1n,K2⟩
   case measure=>simp [intOf];omega
  ·obtain rfl:k = 4:=by omega
   replace K1:=K1.exp (c:=992) rfl
   clear hk hlt
   go_wp2_with fail
   refine (mul_e K0.room K1 K0).mono ?_
   rintro e W ⟨rfl,hc,hv⟩
   replace C:=C.loc hc (by omega)
   replace RM:=hc.room RM
   replace X:=X.blk hc (by omega)
   replace K1:=K1.blk hc (by omega)
   replace K2:=hc.room K2
   have K0n:=hv.mulp (d:=1023) rfl
   clear hc hv
   clear K0
   have K0:=K0n
   clear K0n
   go_wp2_with fail
   refine (sq_e K1.room K0).mono ?_
   rintro e W ⟨rfl,hc,hv⟩
   replace C:=C.loc hc (by omega)
   replace RM:=hc.room RM
   replace X:=X.blk hc (by omega)
   replace K0:=K0.blk hc (by omega)
   replace K2:=hc.room K2
   have K1n:=hv.mulp (d:=2046) rfl
   clear hc hv
   clear K1
   have K1:=K1n
   clear K1n
   go_wp2_with fail
   go_loopw [9] (fun i W=>∃ k:Nat,k ≤ 9∧i = .int .i64 ((k + 1:Nat):Int)∧Chg R0 w W∧Room W bv ov 5∧Elt W bx ox (pow f 1)∧Elt W (w.heap.size) 0 (pow f 1023)∧Elt W (w.heap.size + 1) 0 (pow f (2046 * 2 ^ k))∧Room W (w.heap.size + 2) 0 5) (fun i _=>10 - (intOf i).toNat)
   case atStart=>exact ⟨0,by omega,rfl,C,RM,X,K0,K1.exp rfl,K2⟩
   case round =>
    clear C RM X K0 K1 K2
    obtain ⟨k,hk,rfl,C,RM,X,K0,K1,K2⟩:=hrel
    by_cases hlt:k < 9
    ·go_wp2_with fail
     refine (sq_e K1.room K1).mono ?_
     rintro e W ⟨rfl,hc,hv⟩
     replace C:=C.loc hc (by omega)
     replace RM:=hc.room RM
     replace X:=X.blk hc (by omega)
     replace K0:=K0.blk hc (by omega)
     replace K2:=hc.room K2
     have K1n:=hv.mulp (sq_step 2046 k)
     clear hc hv
     go_wp2_with fail
     go_roundw
     case rel=>exact ⟨k + 1,by omega,by go_num,C,RM,X,K0,K1n,K2⟩
     case measure=>simp [intOf];omega
    ·obtain rfl:k = 9:=by omega
     replace K1:=K1.exp (c:=1047552) rfl
     clear hk hlt
     go_wp2_with fail
     refine (mul_e K1.room K1 K0).mono ?_
     rintro e W ⟨rfl,hc,hv⟩
     replace C:=C.loc hc (by omega)
     replace RM:=hc.room RM
     replace X:=X.blk hc (by omega)
     replace K0:=K0.blk hc (by omega)
     replace K2:=hc.room K2
     have K1n:=hv.mulp (d:=1048575) rfl
     clear hc hv
     clear K1
     have K1:=K1n
     clear K1n
     go_wp2_with fail
     refine (sq_e K2 K1).mono ?_
     rintro e W ⟨rfl,hc,hv⟩
     replace C:=C.loc hc (by omega)
     replace RM:=hc.room RM
     replace X:=X.blk hc (by omega)
     replace K0:=K0.blk hc (by omega)
     replace K1:=K1.blk hc (by omega)
     have K2n:=hv.mulp (d:=2097150) rfl
     clear hc hv
     clear K2
     have K2:=K2n
     clear K2n
     go_wp2_with fail
     go_loopw [10] (fun i W=>∃ k:Nat,k ≤ 19∧i = .int .i64 ((k + 1:Nat):Int)∧Chg R0 w W∧Room W bv ov 5∧Elt W bx ox (pow f 1)∧Elt W (w.heap.size) 0 (pow f 1023)∧Elt W (w.heap.size + 1) 0 (pow f 1048575)∧Elt W (w.heap.size + 2) 0 (pow f (2097150 * 2 ^ k))) (fun i _=>20 - (intOf i).toNat)
     case atStart=>exact ⟨0,by omega,rfl,C,RM,X,K0,K1,K2.exp rfl⟩
     case round =>
      clear C RM X K0 K1 K2
      obtain ⟨k,hk,rfl,C,RM,X,K0,K1,K2⟩:=hrel
      by_cases hlt:k < 19
      ·go_wp2_with fail
       refine (sq_e K2.room K2).mono ?_
       rintro e W ⟨rfl,hc,hv⟩
       replace C:=C.loc hc (by omega)
       replace RM:=hc.room RM
       replace X:=X.blk hc (by omega)
       replace K0:=K0.blk hc (by omega)
       replace K1:=K1.blk hc (by omega)
       have K2n:=hv.mulp (sq_step 2097150 k)
       clear hc hv
       go_wp2_with fail
       go_roundw
       case rel=>exact ⟨k + 1,by omega,by go_num,C,RM,X,K0,K1,K2n⟩
       case measure=>simp [intOf];omega
      ·obtain rfl:k = 19:=by omega
       replace K2:=K2.exp (c:=1099510579200) rfl
       clear hk hlt
       go_wp2_with fail
       refine (mul_e K1.room K2 K1).mono ?_
       rintro e W ⟨rfl,hc,hv⟩
       replace C:=C.loc hc (by omega)
       replace RM:=hc.room RM
       replace X:=X.blk hc (by omega)
       replace K0:=K0.blk hc (by omega)
       replace K2:=K2.blk hc (by omega)
       have K1n:=hv.mulp (d:=1099511627775) rfl
       clear hc hv
       clear K1
       have K1:=K1n
       clear K1n
       go_wp2_with fail
       refine (sq_e K1.room K1).mono ?_
       rintro e W ⟨rfl,hc,hv⟩
       replace C:=C.loc hc (by omega)
       replace RM:=hc.room RM
       replace X:=X.blk hc (by omega)
       replace K0:=K0.blk hc (by omega)
       replace K2:=K2.blk hc (by omega)
       have K1n:=hv.mulp (d:=2199023255550) rfl
       clear hc hv
       clear K1
       have K1:=K1n
       clear K1n
       go_wp2_with fail
       go_loopw [11] (fun i W=>∃ k:Nat,k ≤ 9∧i = .int .i64 ((k + 1:Nat):Int)∧Chg R0 w W∧Room W bv ov 5∧Elt W bx ox (pow f 1)∧Elt W (w.heap.size) 0 (pow f 1023)∧Elt W (w.heap.size + 1) 0 (pow f (2199023255550 * 2 ^ k))∧Elt W (w.heap.size + 2) 0 (pow f 1099510579200)) (fun i _=>10 - (intOf i).toNat)
       case atStart=>exact ⟨0,by omega,rfl,C,RM,X,K0,K1.exp rfl,K2⟩
       case round =>
        clear C RM X K0 K1 K2
        obtain ⟨k,hk,rfl,C,RM,X,K0,K1,K2⟩:=hrel
        by_cases hlt:k < 9
        ·go_wp2_with fail
         refine (sq_e K1.room K1).mono ?_
         rintro e W ⟨rfl,hc,hv⟩
         replace C:=C.loc hc (by omega)
         replace RM:=hc.room RM
         replace X:=X.blk hc (by omega)
         replace K0:=K0.blk hc (by omega)
         replace K2:=K2.blk hc (by omega)
         have K1n:=hv.mulp (sq_step 2199023255550 k)
         clear hc hv
         go_wp2_with fail
         go_roundw
         case rel=>exact ⟨k + 1,by omega,by go_num,C,RM,X,K0,K1n,K2⟩
         case measure=>simp [intOf];omega
        ·obtain rfl:k = 9:=by omega
         replace K1:=K1.exp (c:=1125899906841600) rfl
         clear hk hlt
         go_wp2_with fail
         refine (mul_e K0.room K1 K0).mono ?_
         rintro e W ⟨rfl,hc,hv⟩
         replace C:=C.loc hc (by omega)
         replace RM:=hc.room RM
         replace X:=X.blk hc (by omega)
         replace K1:=K1.blk hc (by omega)
         replace K2:=K2.blk hc (by omega)
         have K0n:=hv.mulp (d:=1125899906842623) rfl
         clear hc hv
         clear K0
         have K0:=K0n
         clear K0n
         go_wp2_with fail
         refine (sq_e K1.room K0).mono ?_
         rintro e W ⟨rfl,hc,hv⟩
         replace C:=C.loc hc (by omega)
         replace RM:=hc.room RM
         replace X:=X.blk hc (by omega)
         replace K0:=K0.blk hc (by omega)
         replace K2:=K2.blk hc (by omega)
         have K1n:=hv.mulp (d:=2251799813685246) rfl
         clear hc hv
         clear K1
         have K1:=K1n
         clear K1n
         go_wp2_with fail
         go_loopw [12] (fun i W=>∃ k:Nat,k ≤ 49∧i = .int .i64 ((k + 1:Nat):Int)∧Chg R0 w W∧Room W bv ov 5∧Elt W bx ox (pow f 1)∧Elt W (w.heap.size) 0 (pow f 1125899906842623)∧Elt W (w.heap.size + 1) 0 (pow f (2251799813685246 * 2 ^ k))∧Elt W (w.heap.size + 2) 0 (pow f 1099510579200)) (fun i _=>50 - (intOf i).toNat)
         case atStart=>exact ⟨0,by omega,rfl,C,RM,X,K0,K1.exp rfl,K2⟩
         case round =>
          clear C RM X K0 K1 K2
          obtain ⟨k,hk,rfl,C,RM,X,K0,K1,K2⟩:=hrel
          by_cases hlt:k < 49
          ·go_wp2_with fail
           refine (sq_e K1.room K1).mono ?_
           rintro e W ⟨rfl,hc,hv⟩
           replace C:=C.loc hc (by omega)
           replace RM:=hc.room RM
           replace X:=X.blk hc (by omega)
           replace K0:=K0.blk hc (by omega)
           replace K2:=K2.blk hc (by omega)
           have K1n:=hv.mulp (sq_step 2251799813685246 k)
           clear hc hv
           go_wp2_with fail
           go_roundw
           case rel=>exact ⟨k + 1,by omega,by go_num,C,RM,X,K0,K1n,K2⟩
           case measure=>simp [intOf];omega
          ·obtain rfl:k = 49:=by omega
           replace K1:=K1.exp (c:=1267650600228228275596796362752) rfl
           clear hk hlt
           go_wp2_with fail
           refine (mul_e K1.room K1 K0).mono ?_
           rintro e W ⟨rfl,hc,hv⟩
           replace C:=C.loc hc (by omega)
           replace RM:=hc.room RM
           replace X:=X.blk hc (by omega)
           replace K0:=K0.blk hc (by omega)
           replace K2:=K2.blk hc (by omega)
           have K1n:=hv.mulp (d:=1267650600228229401496703205375) rfl
           clear hc hv
           clear K1
           have K1:=K1n
           clear K1n
           go_wp2_with fail
           refine (sq_e K2.room K1).mono ?_
           rintro e W ⟨rfl,hc,hv⟩
           replace C:=C.loc hc (by omega)
           replace RM:=hc.room RM
           replace X:=X.blk hc (by omega)
           replace K0:=K0.blk hc (by omega)
           replace K1:=K1.blk hc (by omega)
           have K2n:=hv.mulp (d:=2535301200456458802993406410750) rfl
           clear hc hv
           clear K2
           have K2:=K2n
           clear K2n
           go_wp2_with fail
           go_loopw [13] (fun i W=>∃ k:Nat,k ≤ 99∧i = .int .i64 ((k + 1:Nat):Int)∧Chg R0 w W∧Room W bv ov 5∧Elt W bx ox (pow f 1)∧Elt W (w.heap.size) 0 (pow f 1125899906842623)∧Elt W (w.heap.size + 1) 0 (pow f 1267650600228229401496703205375)∧Elt W (w.heap.size + 2) 0 (pow f (2535301200456458802993406410750 * 2 ^ k))) (fun i _=>100 - (intOf i).toNat)
           case atStart=>exact ⟨0,by omega,rfl,C,RM,X,K0,K1,K2.exp rfl⟩
           case round =>
            clear C RM X K0 K1 K2
            obtain ⟨k,hk,rfl,C,RM,X,K0,K1,K2⟩:=hrel
            by_cases hlt:k < 99
            ·go_wp2_with fail
             refine (sq_e K2.room K2).mono ?_
             rintro e W ⟨rfl,hc,hv⟩
             replace C:=C.loc hc (by omega)
             replace RM:=hc.room RM
             replace X:=X.blk hc (by omega)
             replace K0:=K0.blk hc (by omega)
             replace K1:=K1.blk hc (by omega)
             have K2n:=hv.mulp (sq_step 2535301200456458802993406410750 k)
             clear hc hv
             go_wp2_with fail
             go_roundw
             case rel=>exact ⟨k + 1,by omega,by go_num,C,RM,X,K0,K1,K2n⟩
             case measure=>simp [intOf];omega
            ·obtain rfl:k = 99:=by omega
             replace K2:=K2.exp (c:=1606938044258990275541962092339894951921974764381296132096000) rfl
             clear hk hlt
             go_wp2_with fail
             refine (mul_e K1.room K2 K1).mono ?_
             rintro e W ⟨rfl,hc,hv⟩
             replace C:=C.loc hc (by omega)
             replace RM:=hc.room RM
             replace X:=X.blk hc (by omega)
             replace K0:=K0.blk hc (by omega)
             replace K2:=K2.blk hc (by omega)
             have K1n:=hv.mulp (d:=1606938044258990275541962092341162602522202993782792835301375) rfl
             clear hc hv
             clear K1
             have K1:=K1n
             clear K1n
             go_wp2_with fail
             refine (sq_e K1.room K1).mono ?_
             rintro e W ⟨rfl,hc,hv⟩
             replace C:=C.loc hc (by omega)
             replace RM:=hc.room RM
             replace X:=X.blk hc (by omega)
             replace K0:=K0.blk hc (by omega)
             replace K2:=K2.blk hc (by omega)
             have K1n:=hv.mulp (d:=3213876088517980551083924184682325205044405987565585670602750) rfl
             clear hc hv
             clear K1
             have K1:=K1n
             clear K1n
             go_wp2_with fail
             go_loopw [14] (fun i W=>∃ k:Nat,k ≤ 49∧i = .int .i64 ((k + 1:Nat):Int)∧Chg R0 w W∧Room W bv ov 5∧Elt W bx ox (pow f 1)∧Elt W (w.heap.size) 0 (pow f 1125899906842623)∧Elt W (w.heap.size + 1) 0 (pow f (3213876088517980551083924184682325205044405987565585670602750 * 2 ^ k))∧Elt W (w.heap.size + 2) 0 (pow f 1606938044258990275541962092339894951921974764381296132096000)) (fun i _=>50 - (intOf i).toNat)
             case atStart=>exact ⟨0,by omega,rfl,C,RM,X,K0,K1.exp rfl,K2⟩
             case round =>
              clear C RM X K0 K1 K2
              obtain ⟨k,hk,rfl,C,RM,X,K0,K1,K2⟩:=hrel
              by_cases hlt:k < 49
              ·go_wp2_with fail
               refine (sq_e K1.room K1).mono ?_
               rintro e W ⟨rfl,hc,hv⟩
               replace C:=C.loc hc (by omega)
               replace RM:=hc.room RM
               replace X:=X.blk hc (by omega)
               replace K0:=K0.blk hc (by omega)
               replace K2:=K2.blk hc (by omega)
               have K1n:=hv.mulp (sq_step 3213876088517980551083924184682325205044405987565585670602750 k)
               clear hc hv
               go_wp2_with fail
               go_roundw
               case rel=>exact ⟨k + 1,by omega,by go_num,C,RM,X,K0,K1n,K2⟩
               case measure=>simp [intOf];omega
              ·obtain rfl:k = 49:=by omega
               replace K1:=K1.exp (c:=1809251394333065553493296640760748560207343510400633813116523624223735808000) rfl
               clear hk hlt
               go_wp2_with fail
               refine (mul_e K0.room K1 K0).mono ?_
               rintro e W ⟨rfl,hc,hv⟩
               replace C:=C.loc hc (by omega)
               replace RM:=hc.room RM
               replace X:=X.blk hc (by omega)
               replace K1:=K1.blk hc (by omega)
               replace K2:=K2.blk hc (by omega)
               have K0n:=hv.mulp (d:=1809251394333065553493296640760748560207343510400633813116524750123642650623) rfl
               clear hc hv
               clear K0
               have K0:=K0n
               clear K0n
               go_wp2_with fail
               refine (sq_e K0.room K0).mono ?_
               rintro e W ⟨rfl,hc,hv⟩
               replace C:=C.loc hc (by omega)
               replace RM:=hc.room RM
               replace X:=X.blk hc (by omega)
               replace K1:=K1.blk hc (by omega)
               replace K2:=K2.blk hc (by omega)
               have K0n:=hv.mulp (d:=3618502788666131106986593281521497120414687020801267626233049500247285301246) rfl
               clear hc hv
               clear K0
               have K0:=K0n
               clear K0n
               go_wp2_with fail
               refine (sq_e K0.room K0).mono ?_
               rintro e W ⟨rfl,hc,hv⟩
               replace C:=C.loc hc (by omega)
               replace RM:=hc.room RM
               replace X:=X.blk hc (by omega)
               replace K1:=K1.blk hc (by omega)
               replace K2:=K2.blk hc (by omega)
               have K0n:=hv.mulp (d:=7237005577332262213973186563042994240829374041602535252466099000494570602492) rfl
               clear hc hv
               clear K0
               have K0:=K0n
               clear K0n
               go_wp2_with fail
               refine (mul_e RM K0 X).mono ?_
               rintro e W ⟨rfl,hc,hv⟩
               have hf:=C.mono (R':=Rg bv ov 5) (fun _ _ _ h=>h.elim)
               replace hf:=hd (hf.trans hc)
               replace hv:=hd (hv.mulp (d:=7237005577332262213973186563042994240829374041602535252466099000494570602493) rfl)
               clear hc C RM X K0 K1 K2
               go_wp2_with fail
               go_ret
               exact ⟨rfl,hf.out,hv.out.exp (show 7237005577332262213973186563042994240829374041602535252466099000494570602493 = _ by decide)⟩
end Go.Proofs.Ed
