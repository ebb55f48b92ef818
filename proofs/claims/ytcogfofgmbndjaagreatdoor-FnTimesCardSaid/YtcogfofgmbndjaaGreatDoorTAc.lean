/- A part of the proof of the tied card of FnTimes: Mix, Fe1, Fe2. -/
import Derived.StillTactics
import Derived.Test.YtcogfofgmbndjaaGreatDoorProg
import Derived.WalkKit
import Derived.WalkSpells
import Derived.WalkLawsBesides
import Derived.Outline
import Derived.StillTailTactics
import Derived.Test.YtcogfofgmbndjaaGreatDoorTAb
set_option maxRecDepth 100000
set_option maxHeartbeats 40000000
namespace Go.Proofs.Ed
open Go.RowKit
section
variable {P : Program} {ops : Array Oper} {E : Act → World → Prop} {Q : Exit → Act → World → Prop}
def noQ:Exit→Act→World→Prop:=fun _ _ _=>False
theorem noQ_lets (h:LetsOut noQ):False:=by obtain ⟨_,_,h⟩:=h;exact h
theorem wp_ofN {o:Oper} {a:Act} {w:World} {K:Act→World→Prop} (h:o.wp P a w K noQ):o.wp P a w K Q:=by
 unfold Oper.wp at *
 generalize (execOp a.eval o).run P w = r at *
 cases r with
 | ok n w' =>
  cases n<;>simp only [Oper.upon] at h ⊢ <;>
   first
    | exact h
    | exact Calls.mono h (fun e w'' he=>by
      cases e
      ·exact he
      ·exact he.elim
      ·exact (noQ_lets he).elim)
 | halt x w'=>cases x<;>simp only [Oper.upon] at h ⊢<;>exact h.elim
def wpAnyN (P:Program) (ops:Array Oper) (E:Act→World→Prop):Nat→Array Bool→Act→World→Prop
 | 0,listed,a,w=>Region.ready .any ops listed = []∧E a w
 | fuel + 1,listed,a,w=>(Region.ready .any ops listed = []→E a w) ∧
  ∀ i ∈ Region.ready .any ops listed,∃ o,ops[i]? = some o∧o.guard = none∧o.wp P a w (wpAnyN P ops E fuel (listed.setIfInBounds i true)) noQ
theorem wpAny_ofN (h:∀ a w,E a w→Q .normal a w):∀ (fuel:Nat) (listed:Array Bool) (a:Act) (w:World),wpAnyN P ops E fuel listed a w→wpAny P .any ops Q fuel listed a w
 | 0,_,_,_,hh=>⟨hh.1,h _ _ hh.2⟩
 | fuel + 1,listed,a,w,hh=>⟨fun h0=>h _ _ (hh.1 h0),fun i hi=>by
   obtain ⟨o,ho,hg,hw⟩:=hh.2 i hi
   unfold wpOp
   simp only [ho]
   rw [if_pos (by simp [Region.wanted,hg])]
   exact .inl (wp_ofN (Oper.wp_mono (fun a' w'=>wpAny_ofN h fuel _ a' w') hw))⟩
def Blind (P:Program) (o:Oper) (a:Act) (v:Value):Prop:=∀ w,(execOp a.eval o).run P w = .ok (.value v) w
theorem Blind.wp {o:Oper} {a:Act} {v:Value} {w:World} {K:Act→World→Prop} (h:Blind P o a v) (hK:K (a.put o.dst v) w):o.wp P a w K Q:=by
 unfold Oper.wp
 rw [h w]
 exact hK
theorem Blind.put {oi:Oper} {a:Act} {v:Value} (hs:∀ cs b,oi.op ≠ .select cs b) (h:Blind P oi a v) (dst:Option Tmp) (u:Value) (hd:∀ d,dst = some d→d ∉ oi.looksAt ops):Blind P oi (a.put dst u) v:=fun w=>by
 rw [execOp_put oi hs a dst u hd];exact h w
theorem wpN_put {oi oj:Oper} {v:Value} (hap:oi.apart ops oj = true) (hsi:∀ cs b,oi.op ≠ .select cs b) (hsj:∀ cs b,oj.op ≠ .select cs b) {K:Act→World→Prop} {a:Act} {w:World}
  (hy:Blind P oi a v) (h:oj.wp P (a.put oi.dst v) w K noQ):oj.wp P a w (fun a' w'=>Blind P oi a' v∧K (a'.put oi.dst v) w') noQ:=by
 obtain ⟨h1,h2,h3⟩:=Oper.apart_spec hap
 have keep:∀ (a:Act),Blind P oi a v→∀ u,Blind P oi (a.put oj.dst u) v:=fun a hy u=>hy.put hsi oj.dst u h3
 unfold Oper.wp at *
 rw [execOp_put oj hsj a oi.dst v h1] at h
 generalize (execOp a.eval oj).run P w = r at *
 cases r with
 | ok n w' =>
  cases n<;>simp only [Oper.upon] at h ⊢
  case value u=>exact ⟨keep a hy u,by rw [←Act.put_comm a v u h2];exact h⟩
  case skip=>exact ⟨keep a hy _,by rw [←Act.put_comm a v undef h2];exact h⟩
  case enter f args =>
   refine Calls.mono h (fun e w'' he=>?_)
   cases e
   ·exact ⟨keep a hy _,by rw [←Act.put_comm a v _ h2];exact he⟩
   ·exact he
   ·exact (noQ_lets he).elim
  case row r args=>exact Rows.mono h (fun u w'' he=>⟨keep a hy _,by rw [←Act.put_comm a v _ h2];exact he⟩)
  case defer d =>
   have e:(({ tmps:=a.tmps,defers:=d :: a.defers }:Act).put oj.dst undef).eval = (a.put oj.dst undef).eval:=by
    funext x;cases oj.dst<;>cases x<;>rfl
   refine ⟨fun w=>by rw [e];exact (hy.put hsi oj.dst undef h3) w,?_⟩
   rw [Act.put_defers,Act.put_comm _ v undef h2] at h
   exact h
  all_goals exact h.elim
 | halt x w'=>cases x<;>simp only [Oper.upon] at h ⊢<;>exact h.elim
theorem wpAnyN_first {i:Nat} {oi:Oper} {v:Value} (hi:ops[i]? = some oi) (hg:oi.guard = none) (hsel:∀ (j:Nat) (o:Oper) cs b,ops[j]? = some o→o.op ≠ .select cs b) :
  ∀ (fuel:Nat) (listed:Array Bool) (a:Act) (w:World),
   (∀ j oj,ops[j]? = some oj→j ≠ i→listed.getD j true = false→(∀ e ∈ oj.after,Region.binds .any e = true→e.on ≠ i)→oi.apart ops oj = true) →
   i ∈ Region.ready .any ops listed→Blind P oi a v →
   wpAnyN P ops E fuel (listed.setIfInBounds i true) (a.put oi.dst v) w→wpAnyN P ops E (fuel + 1) listed a w:=by
 intro fuel
 induction fuel with
 | zero =>
  intro listed a w _ hr hy H
  refine ⟨fun h=>(by rw [h] at hr;cases hr),fun j hj=>?_⟩
  by_cases hji:j = i
  ·subst hji;exact ⟨oi,hi,hg,hy.wp H⟩
  ·have:=ready_mono hj hji
   rw [H.1] at this
   cases this
 | succ fuel ih =>
  intro listed a w hfree hr hy H
  refine ⟨fun h=>(by rw [h] at hr;cases hr),fun j hj=>?_⟩
  by_cases hji:j = i
  ·subst hji;exact ⟨oi,hi,hg,hy.wp H⟩
  ·obtain ⟨o',ho',hg',h1⟩:=H.2 j (ready_mono hj hji)
   obtain ⟨hjun,oj,hoj,hall⟩:=mem_ready.1 hj
   have:o' = oj:=Option.some.inj (ho'.symm.trans hoj)
   subst this
   have hnot:∀ e ∈ o'.after,Region.binds .any e = true→e.on ≠ i:=fun e he hb heq=>by
    have h1:=hall e he hb
    have h0:=(mem_ready.1 hr).1
    rw [heq] at h1
    rcases Nat.lt_or_ge i listed.size with h' | h'
    ·simp [h'] at h0 h1;rw [h0] at h1;cases h1
    ·simp [Array.getElem?_eq_none h'] at h1
   refine ⟨o',ho',hg',?_⟩
   have h2:=wpN_put (hfree j o' hoj hji hjun hnot) (fun cs b=>hsel i oi cs b hi) (fun cs b=>hsel j o' cs b hoj) hy h1
   have hfree':∀ k ok,ops[k]? = some ok→k ≠ i→(listed.setIfInBounds j true).getD k true = false →
     (∀ e ∈ ok.after,Region.binds .any e = true→e.on ≠ i)→oi.apart ops ok = true:=fun k ok hk hki hun hno=>by
    refine hfree k ok hk hki ?_ hno
    by_cases hjk:j = k
    ·subst hjk;exact hjun
    ·rw [getD_set_ne true hjk] at hun;exact hun
   refine Oper.wp_mono (fun a' w' h3=>ih (listed.setIfInBounds j true) a' w' hfree' (ready_mono hr (Ne.symm hji)) h3.1 ?_) h2
   rw [Array.setIfInBounds_comm _ _ hji]
   exact h3.2
def mixB (ops:Array Oper):List (Nat × Bool)→Array Bool→Bool
 | [],listed=>(Region.ready .any ops listed).isEmpty
 | (i,true) :: t,listed=>(Region.ready .any ops listed).contains i && Region.free .any ops listed i && mixB ops t (listed.setIfInBounds i true)
 | (i,false) :: t,listed=>decide (Region.ready .any ops listed = [i]) && mixB ops t (listed.setIfInBounds i true)
def wpMix (P:Program) (ops:Array Oper) (E:Act→World→Prop):List (Oper × Bool)→Act→World→Prop
 | [],a,w=>E a w
 | (o,true) :: t,a,w=>∃ v,Blind P o a v∧wpMix P ops E t (a.put o.dst v) w
 | (o,false) :: t,a,w=>o.wp P a w (wpMix P ops E t) noQ
theorem wpMix_nil {a:Act} {w:World} (h:E a w):wpMix P ops E [] a w:=h
theorem wpMix_blind {o:Oper} {t:List (Oper × Bool)} {a:Act} {w:World} (v:Value) (h:Blind P o a v) (hK:wpMix P ops E t (a.put o.dst v) w):wpMix P ops E ((o,true) :: t) a w:=⟨v,h,hK⟩
theorem wpMix_world {o:Oper} {t:List (Oper × Bool)} {a:Act} {w:World} (h:∀ K:Act→World→Prop,(∀ a w,wpMix P ops E t a w→K a w)→o.wp P a w K noQ):wpMix P ops E ((o,false) :: t) a w:=h _ fun _ _ h=>h
theorem wpMix_blind' {o:Oper} {t:List (Oper × Bool)} {a:Act} {w:World} (h:∀ (_:Nonempty World) (K:Value→Prop),(∀ v,wpMix P ops E t (a.put o.dst v) w→K v)→∃ v,(∀ w,(execOp a.eval o).run P w = .ok (.value v) w)∧K v):wpMix P ops E ((o,true) :: t) a w:=by
 obtain ⟨v,h1,h2⟩:=h ⟨w⟩ _ fun _ h=>h
 exact ⟨v,h1,h2⟩
theorem wpAnyN_mix (hsel:Region.noSelect ops = true) (hgs:∀ o ∈ ops,o.guard = none):∀ (s:List (Nat × Bool)) (s':List (Oper × Bool)) (listed:Array Bool) (a:Act) (w:World),
  s'.map (fun x=>some x.1) = s.map (fun x=>ops[x.1]?)→s'.map (·.2) = s.map (·.2)→mixB ops s listed = true→wpMix P ops E s' a w→wpAnyN P ops E s.length listed a w
 | [],s',listed,a,w,h1,h2,hB,h=>by
  cases s' with
  | nil=>exact ⟨by simpa [mixB] using hB,h⟩
  | cons x t=>simp at h1
 | (i,b) :: t,s',listed,a,w,h1,h2,hB,h=>by
  cases s' with
  | nil=>simp at h1
  | cons x t' =>
   obtain ⟨o,b'⟩:=x
   simp only [List.map_cons,List.cons.injEq] at h1 h2
   obtain ⟨h1,h1'⟩:=h1
   obtain ⟨h2,h2'⟩:=h2
   subst h2
   have hg:o.guard = none:=hgs o (Array.mem_of_getElem? h1.symm)
   cases b' with
   | true =>
    simp only [mixB,Bool.and_eq_true] at hB
    obtain ⟨⟨hr,hf⟩,hB'⟩:=hB
    obtain ⟨v,hv,hK⟩:=h
    exact wpAnyN_first h1.symm hg (Region.noSelect_spec hsel) t.length listed a w (Region.free_spec h1.symm hf) (by simpa using hr) hv (wpAnyN_mix hsel hgs t t' _ _ _ h1' h2' hB' hK)
   | false =>
    simp only [mixB,Bool.and_eq_true,decide_eq_true_eq] at hB
    refine ⟨fun h0=>(by rw [h0] at hB;cases hB.1),fun j hj=>?_⟩
    rw [hB.1] at hj
    have:j = i:=by simpa using hj
    subst this
    exact ⟨o,h1.symm,hg,Oper.wp_mono (fun a' w' hK=>wpAnyN_mix hsel hgs t t' _ _ _ h1' h2' hB.2 hK) h⟩
def pick (l:List Oper) (s:List (Nat × Bool)):List (Oper × Bool):=s.map fun x=>(l.getD x.1 default,x.2)
theorem region_mix {id:Nat} {l:List Oper} {a:Act} {w:World} (s:List (Nat × Bool)) (hm:P.follows .mixedOrders = true)
  (hB:(Region.noSelect l.toArray && l.all (fun o=>o.guard.isNone) && s.all (fun x=>decide (x.1 < l.length)) && decide (s.length = l.length) && mixB l.toArray s (Array.replicate l.toArray.size false)) = true)
  (h:wpMix P l.toArray (Q .normal) (pick l s) a w.drew):(Code.region id l.toArray true).wp P Q a w:=by
 simp only [Bool.and_eq_true,List.all_eq_true,decide_eq_true_eq] at hB
 obtain ⟨⟨⟨⟨h1,h2⟩,h3⟩,h4⟩,h5⟩:=hB
 refine wp_region_any hm (wpAny_ofN (E:=Q .normal) (fun _ _ h=>h) _ _ _ _ ?_)
 have:=wpAnyN_mix (E:=Q .normal) h1 (fun o ho=>by simpa using h2 o (by simpa using ho)) s (pick l s) (Array.replicate l.toArray.size false) a w.drew ?_ ?_ h5 h
 ·rw [h4] at this;simpa using this
 ·unfold pick
  rw [List.map_map]
  apply List.map_congr_left
  intro x hx
  have:=h3 x hx
  simp [List.getD_eq_getElem?_getD,this]
 ·unfold pick
  rw [List.map_map]
  rfl
end
open Go.RowKit
theorem mul19_c (x:Int) (w:World) (h0:0 ≤ x) (h1:x ≤ 970881267037344821) :
  Calls Tryz.prog 130 #[.int .u64 x] w fun e w'=>e = .returned (.int .u64 (19 * x))∧w' = w:=by
 go_enter Tryz.func130,Tryz.ntmps130
 go_wp2
 go_ret
 exact ⟨congrArg (fun n=>Ending.returned (Value.int .u64 n)) (show x + (x + x * 8) * 2 = 19 * x by omega),rfl⟩
def Mid (w0:World) (b o:Nat) (v0 v1 v2 v3 v4:Int) (W:World):Prop :=
 Chg (Rg b o 5) w0 W∧Has W b o [.int .u64 v0,.int .u64 v1,.int .u64 v2,.int .u64 v3,.int .u64 v4]
theorem Mid.s0 {w0 W:World} {b o:Nat} {v0 v1 v2 v3 v4:Int} (h:Mid w0 b o v0 v1 v2 v3 v4 W) (x:Int):Mid w0 b o x v1 v2 v3 v4 (W.setCell ⟨b,o,none⟩ (.int .u64 x)).drew :=
 ⟨(h.1.setCell _ (fun _=>⟨rfl,by omega,by omega⟩)).drew,(h.2.set 0 rfl _).drew⟩
theorem Mid.s1 {w0 W:World} {b o:Nat} {v0 v1 v2 v3 v4:Int} (h:Mid w0 b o v0 v1 v2 v3 v4 W) (x:Int):Mid w0 b o v0 x v2 v3 v4 (W.setCell ⟨b,o + 1,none⟩ (.int .u64 x)).drew :=
 ⟨(h.1.setCell _ (fun _=>⟨rfl,by omega,by omega⟩)).drew,(h.2.set 1 rfl _).drew⟩
theorem Mid.s2 {w0 W:World} {b o:Nat} {v0 v1 v2 v3 v4:Int} (h:Mid w0 b o v0 v1 v2 v3 v4 W) (x:Int):Mid w0 b o v0 v1 x v3 v4 (W.setCell ⟨b,o + 2,none⟩ (.int .u64 x)).drew :=
 ⟨(h.1.setCell _ (fun _=>⟨rfl,by omega,by omega⟩)).drew,(h.2.set 2 rfl _).drew⟩
theorem Mid.s3 {w0 W:World} {b o:Nat} {v0 v1 v2 v3 v4:Int} (h:Mid w0 b o v0 v1 v2 v3 v4 W) (x:Int):Mid w0 b o v0 v1 v2 x v4 (W.setCell ⟨b,o + 3,none⟩ (.int .u64 x)).drew :=
 ⟨(h.1.setCell _ (fun _=>⟨rfl,by omega,by omega⟩)).drew,(h.2.set 3 rfl _).drew⟩
theorem Mid.s4 {w0 W:World} {b o:Nat} {v0 v1 v2 v3 v4:Int} (h:Mid w0 b o v0 v1 v2 v3 v4 W) (x:Int):Mid w0 b o v0 v1 v2 v3 x (W.setCell ⟨b,o + 4,none⟩ (.int .u64 x)).drew :=
 ⟨(h.1.setCell _ (fun _=>⟨rfl,by omega,by omega⟩)).drew,(h.2.set 4 rfl _).drew⟩
theorem Mid.undrew {w0 W:World} {b o:Nat} {v0 v1 v2 v3 v4:Int} (h:Mid w0 b o v0 v1 v2 v3 v4 W.drew):Mid w0 b o v0 v1 v2 v3 v4 W:=⟨⟨h.1.os,h.1.tape,h.1.output,h.1.size,h.1.obj⟩,h.2⟩
theorem carry_c (b o:Nat) (l:L5) (w:World) (hl:l.word) (h:Has w b o (cells l)) :
  Calls Tryz.prog 110 #[Ptr b o] w fun e w'=>e = .returned (Ptr b o)∧Chg (Rg b o 5) w w'∧Has w' b o (cells (carry l)):=by
 obtain ⟨l0,l1,l2,l3,l4⟩:=l
 obtain ⟨⟨g0,k0⟩,⟨g1,k1⟩,⟨g2,k2⟩,⟨g3,k3⟩,⟨g4,k4⟩⟩:=hl
 have M:Mid w b o l0 l1 l2 l3 l4 w:=⟨.refl _ _,h⟩
 simp only at g0 g1 g2 g3 g4 k0 k1 k2 k3 k4
 obtain ⟨⟨c0,c1,c2,c3,c4⟩,f0,f1,f2,f3,f4⟩:=M.2.five
 have m0:=and51 l0 g0 k0
 have m1:=and51 l1 g1 k1
 have m2:=and51 l2 g2 k2
 have m3:=and51 l3 g3 k3
 have m4:=and51 l4 g4 k4
 clear h
 go_enter Tryz.func110,Tryz.ntmps110
 go_wp2
 go_still_tail 15,(by kernel_rfl)
 still_call (mul19_c _ _ (by omega) (by omega))
 repeat still_step
 refine wpStill_nil ?_
 go_wp2
 refine wp_gen _ (M.s0 _) ?_
 clear c0 c1 c2 c3 c4 f0 f1 f2 f3 f4 M
 intro W M
 obtain ⟨⟨c0,c1,c2,c3,c4⟩,f0,f1,f2,f3,f4⟩:=M.2.five
 go_still_tail 14,(by kernel_rfl)
 go_wp2
 refine wp_gen _ (M.s4 _) ?_
 clear c0 c1 c2 c3 c4 f0 f1 f2 f3 f4 M
 intro W M
 obtain ⟨⟨c0,c1,c2,c3,c4⟩,f0,f1,f2,f3,f4⟩:=M.2.five
 go_still_tail 14,(by kernel_rfl)
 go_wp2
 refine wp_gen _ (M.s3 _) ?_
 clear c0 c1 c2 c3 c4 f0 f1 f2 f3 f4 M
 intro W M
 obtain ⟨⟨c0,c1,c2,c3,c4⟩,f0,f1,f2,f3,f4⟩:=M.2.five
 go_still_tail 14,(by kernel_rfl)
 go_wp2
 go_ret
 exact ⟨rfl,((M.s2 _).s1 _).undrew.1,((M.s2 _).s1 _).undrew.2⟩
open Go.RowKit
def add64Entry:Array Value→Sem Value:=fun args=>do
 let (x, y, c) ← Extern.MathBitsCarry.three "Add64" args
 pure (Extern.MathBitsCarry.pair ((x + y + c) % Extern.MathBitsCarry.m64) ((x + y + c) / Extern.MathBitsCarry.m64))
def sub64Entry:Array Value→Sem Value:=fun args=>do
 let (x, y, b) ← Extern.MathBitsCarry.three "Sub64" args
 pure (Extern.MathBitsCarry.pair ((x + Extern.MathBitsCarry.m64 - y - b) % Extern.MathBitsCarry.m64) (if x < y + b then 1 else 0))
theorem run_add64 (P:Program) (x y c:Nat) (hc:c ≤ 1) (w:World) :
  (add64Entry #[.int .u64 x,.int .u64 y,.int .u64 c]).run P w =
   .ok (.tuple #[.int .u64 (((x + y + c) % 18446744073709551616:Nat):Int),.int .u64 (((x + y + c) / 18446744073709551616:Nat):Int)]) w:=by
 have:c = 0∨c = 1:=by omega
 rcases this with rfl | rfl<;>rfl
theorem run_sub64 (P:Program) (x y b:Nat) (hb:b ≤ 1) (w:World) :
  (sub64Entry #[.int .u64 x,.int .u64 y,.int .u64 b]).run P w =
   .ok (.tuple #[.int .u64 (((x + 18446744073709551616 - y - b) % 18446744073709551616:Nat):Int),.int .u64 ((if x < y + b then 1 else 0:Nat):Int)]) w:=by
 have:b = 0∨b = 1:=by omega
 rcases this with rfl | rfl<;>rfl
theorem add64 (x y c:Int) (hx:0 ≤ x) (hy:0 ≤ y) (hc0:0 ≤ c) (hc:c ≤ 1) (w:World):(callFunc 121 #[.int .u64 x,.int .u64 y,.int .u64 c]).run Tryz.prog w =
  .ok (.value (.tuple #[.int .u64 ((x + y + c) % 18446744073709551616),.int .u64 ((x + y + c) / 18446744073709551616)])) w:=by
 obtain ⟨x,rfl⟩:=Int.eq_ofNat_of_zero_le hx
 obtain ⟨y,rfl⟩:=Int.eq_ofNat_of_zero_le hy
 obtain ⟨c,rfl⟩:=Int.eq_ofNat_of_zero_le hc0
 rw [run_callFunc_extern Tryz.func121 (by kernel_rfl) (by kernel_rfl) (by kernel_rfl) (e:=add64Entry) (by kernel_rfl),run_add64 _ x y c (by omega)]
 simp only [Result.andThen]
 congr 5<;>omega
theorem add64_0 (x y:Int) (hx:0 ≤ x) (hy:0 ≤ y) (w:World):(callFunc 121 #[.int .u64 x,.int .u64 y,.int .u64 0]).run Tryz.prog w =
  .ok (.value (.tuple #[.int .u64 ((x + y) % 18446744073709551616),.int .u64 ((x + y) / 18446744073709551616)])) w:=by
 simpa using add64 x y 0 hx hy (Int.le_refl 0) (by decide) w
theorem and32 (x:Int) (h:0 ≤ x) (h2:x < 18446744073709551616):bits BinOp.and IntKind.u64 x 4294967295 = x % 4294967296:=by
 obtain ⟨n,rfl⟩:=Int.eq_ofNat_of_zero_le h
 have:=u64_and_nat n 4294967295 (by omega) (by omega)
 rw [show ((4294967295:Int)) = ((4294967295:Nat):Int) by rfl,this]
 have e:n &&& 4294967295 = n % 4294967296:=Nat.and_two_pow_sub_one_eq_mod n 32
 rw [e];rfl
theorem bd32 {x y:Int} (hx:0 ≤ x) (hx':x ≤ 4294967295) (hy:0 ≤ y) (hy':y ≤ 4294967295):0 ≤ x * y∧x * y ≤ 18446744065119617025:=by
 refine ⟨Int.mul_nonneg hx hy,?_⟩
 have h1:x * y ≤ x * 4294967295:=Int.mul_le_mul_of_nonneg_left hy' hx
 omega
theorem mul64_lo (x1 x0 y1 y0:Int):∃ k,(4294967296 * x1 + x0) * (4294967296 * y1 + y0) = 18446744073709551616 * (x1 * y1) + 4294967296 * (x1 * y0) + 4294967296 * (x0 * y1) + x0 * y0 + 0 * k:=⟨0,by grind⟩
theorem mul64_c (x y:Int) (w:World) (hx:0 ≤ x) (hx':x < 18446744073709551616) (hy:0 ≤ y) (hy':y < 18446744073709551616) :
  Calls Tryz.prog 120 #[.int .u64 x,.int .u64 y] w fun e w'=>e = .returned (.tuple #[.int .u64 (x * y / 18446744073709551616),.int .u64 (x * y % 18446744073709551616)])∧w' = w:=by
 have ax:=and32 x hx hx'
 have ay:=and32 y hy hy'
 generalize hx0:x % 4294967296 = x0 at *
 generalize hy0:y % 4294967296 = y0 at *
 generalize hx1:x / 4294967296 = x1 at *
 generalize hy1:y / 4294967296 = y1 at *
 have b1:0 ≤ x0∧x0 ≤ 4294967295:=by omega
 have b2:0 ≤ y0∧y0 ≤ 4294967295:=by omega
 have b3:0 ≤ x1∧x1 ≤ 4294967295:=by omega
 have b4:0 ≤ y1∧y1 ≤ 4294967295:=by omega
 have p00:=bd32 b1.1 b1.2 b2.1 b2.2
 have p01:=bd32 b1.1 b1.2 b4.1 b4.2
 have p10:=bd32 b3.1 b3.2 b2.1 b2.2
 have p11:=bd32 b3.1 b3.2 b4.1 b4.2
 have hp:x * y = 18446744073709551616 * (x1 * y1) + 4294967296 * (x1 * y0) + 4294967296 * (x0 * y1) + x0 * y0:=by
  have e1:x = 4294967296 * x1 + x0:=by omega
  have e2:y = 4294967296 * y1 + y0:=by omega
  rw [e1,e2];grind
 have at1:=and32 (x1 * y0 + x0 * y0 / 4294967296) (by omega) (by omega)
 have h1:Hd (x1 * y1 + (x1 * y0 + x0 * y0 / 4294967296) / 4294967296 + ((x1 * y0 + x0 * y0 / 4294967296) % 4294967296 + x0 * y1) / 4294967296 = x * y / 18446744073709551616):=hd (by rw [hp];omega)
 clear hp hx0 hy0
 go_enter Tryz.func120,Tryz.ntmps120
 go_wp2
 go_ret2
 exact ⟨ret_int2 h1.out (wrap_u64 _),rfl⟩
abbrev U128 (r:Int):Value:=.agg #[.int .u64 (r % 18446744073709551616),.int .u64 (r / 18446744073709551616)]
theorem agg2 {k:IntKind} {a b c d:Int} (h:a = c) (h':b = d):Value.agg #[.int k a,.int k b] = .agg #[.int k c,.int k d]:=by rw [h,h']
theorem umul_c (x y:Int) (w:World) (hx:0 ≤ x) (hx':x < 18446744073709551616) (hy:0 ≤ y) (hy':y < 18446744073709551616) :
  Calls Tryz.prog 136 #[.int .u64 x,.int .u64 y] w fun e w'=>e = .returned (U128 (x * y))∧Below w.heap.size w w':=by
 go_enter Tryz.func136,Tryz.ntmps136
 go_wp2_with (go_at_call 120;refine (mul64_c _ _ _ hx hx' hy hy').mono ?_;rintro e w' ⟨rfl,rfl⟩)
 exact bodyPost_ret (v:=U128 (x * y)) (by simp [results,Tryz.results136,go_sem]) rfl ⟨rfl,(Below.refl _ _).alloc (Nat.le_refl _) _⟩
theorem uadd_c (r x y:Int) (w:World) (hr:0 ≤ r) (hp:0 ≤ x * y) (h1:r + x * y < 340282366920938463463374607431768211456)
  (hx:0 ≤ x) (hx':x < 18446744073709551616) (hy:0 ≤ y) (hy':y < 18446744073709551616) :
  Calls Tryz.prog 139 #[U128 r,.int .u64 x,.int .u64 y] w fun e w'=>e = .returned (U128 (r + x * y))∧Below w.heap.size w w':=by
 go_enter Tryz.func139,Tryz.ntmps139
 go_wp2_with (first | (go_at_call 120;refine (mul64_c _ _ _ hx hx' hy hy').mono ?_;rintro e w' ⟨rfl,rfl⟩) | simp only [add64_0 (x * y % 18446744073709551616) (r % 18446744073709551616) (by omega) (by omega)] | simp only [add64 (x * y / 18446744073709551616) (r / 18446744073709551616) _ (by omega) (by omega) (show 0 ≤ (x * y % 18446744073709551616 + r % 18446744073709551616) / 18446744073709551616 by omega) (by omega)])
 exact bodyPost_ret (v:=U128 (r + x * y)) (by simp [results,Tryz.results139,go_sem];omega) rfl ⟨rfl,((Below.refl _ _).alloc (Nat.le_refl _) _).alloc (by simp) _⟩
theorem uadd19_c (r x y:Int) (w:World) (hr:0 ≤ r) (hp:0 ≤ 19 * x * y) (h1:r + 19 * x * y < 340282366920938463463374607431768211456)
  (hx:0 ≤ x) (hx':x ≤ 970881267037344821) (hy:0 ≤ y) (hy':y < 18446744073709551616) :
  Calls Tryz.prog 138 #[U128 r,.int .u64 x,.int .u64 y] w fun e w'=>e = .returned (U128 (r + 19 * x * y))∧Below w.heap.size w w':=by
 go_enter Tryz.func138,Tryz.ntmps138
 go_wp2_with (first | (go_at_call 130;refine (mul19_c x _ hx hx').mono ?_;rintro e w' ⟨rfl,rfl⟩) | (go_at_call 120;refine (mul64_c (19 * x) y _ (by omega) (by omega) (by omega) (by omega)).mono ?_;rintro e w' ⟨rfl,rfl⟩) | simp only [add64_0 ((19 * x) * y % 18446744073709551616) (r % 18446744073709551616) (by omega) (by omega)] | simp only [add64 ((19 * x) * y / 18446744073709551616) (r / 18446744073709551616) _ (by omega) (by omega) (show 0 ≤ ((19 * x) * y % 18446744073709551616 + r % 18446744073709551616) / 18446744073709551616 by omega) (by omega)])
 exact bodyPost_ret (v:=U128 (r + 19 * x * y)) (by simp [results,Tryz.results138,go_sem];omega) rfl ⟨rfl,((Below.refl _ _).alloc (Nat.le_refl _) _).alloc (by simp) _⟩
theorem uadd38_c (r x y:Int) (w:World) (hr:0 ≤ r) (hp:0 ≤ 19 * x * (y * 2)) (h1:r + 19 * x * (y * 2) < 340282366920938463463374607431768211456)
  (hx:0 ≤ x) (hx':x ≤ 970881267037344821) (hy:0 ≤ y) (hy':y < 9223372036854775808) :
  Calls Tryz.prog 137 #[U128 r,.int .u64 x,.int .u64 y] w fun e w'=>e = .returned (U128 (r + 19 * x * (y * 2)))∧Below w.heap.size w w':=by
 go_enter Tryz.func137,Tryz.ntmps137
 go_wp2_with (first | (go_at_call 130;refine (mul19_c x _ hx hx').mono ?_;rintro e w' ⟨rfl,rfl⟩) | (go_at_call 120;refine (mul64_c (19 * x) (y * 2) _ (by omega) (by omega) (by omega) (by omega)).mono ?_;rintro e w' ⟨rfl,rfl⟩) | simp only [add64_0 ((19 * x) * (y * 2) % 18446744073709551616) (r % 18446744073709551616) (by omega) (by omega)] | simp only [add64 ((19 * x) * (y * 2) / 18446744073709551616) (r / 18446744073709551616) _ (by omega) (by omega) (show 0 ≤ ((19 * x) * (y * 2) % 18446744073709551616 + r % 18446744073709551616) / 18446744073709551616 by omega) (by omega)])
 exact bodyPost_ret (v:=U128 (r + 19 * x * (y * 2))) (by simp [results,Tryz.results137,go_sem];omega) rfl ⟨rfl,((Below.refl _ _).alloc (Nat.le_refl _) _).alloc (by simp) _⟩
theorem or13 (h l:Int) (h0:0 ≤ h) (h1:h < 2251799813685248) (l0:0 ≤ l) (l1:l < 8192):bits BinOp.or IntKind.u64 (h * 8192) l = h * 8192 + l:=by
 obtain ⟨n,rfl⟩:=Int.eq_ofNat_of_zero_le h0
 obtain ⟨m,rfl⟩:=Int.eq_ofNat_of_zero_le l0
 have:=u64_or_nat (n * 8192) m (by omega) (by omega)
 rw [show ((n:Int) * 8192) = ((n * 8192:Nat):Int) by omega,this]
 have e:n * 8192 ||| m = n * 8192 + m:=by
  have:=Nat.shiftLeft_add_eq_or_of_lt (a:=n) (b:=m) (i:=13) (by omega)
  rw [Nat.shiftLeft_eq] at this
  exact this.symm
 rw [e];omega
theorem shr51_c (r:Int) (w:World) (hr:0 ≤ r) (h1:r < 41538374868278621028243970633760768) :
  Calls Tryz.prog 140 #[U128 r] w fun e w'=>e = .returned (.int .u64 (r / 2251799813685248))∧Below w.heap.size w w':=by
 have ho:=or13 (r / 18446744073709551616) (r % 18446744073709551616 / 2251799813685248) (by omega) (by omega) (by omega) (by omega)
 go_enter Tryz.func140,Tryz.ntmps140
 go_wp2
 go_ret
 exact ⟨ret_int (by omega),(Below.refl _ _).alloc (Nat.le_refl _) _⟩
end Go.Proofs.Ed
