/- A part of the proof of the tied card of FnTimes: Eql, Regs, Vr. -/
import Derived.DeepKeys
import Derived.Test.YtcogfofgmbndjaaGreatDoorProg
import Derived.WalkKit
import Derived.WalkSpells
import Derived.WalkLawsBesides
import Derived.Outline
import Derived.StillTailTactics
import Derived.Test.YtcogfofgmbndjaaGreatDoorTAv
import Derived.Test.YtcogfofgmbndjaaGreatDoorTAy
set_option maxRecDepth 100000
set_option maxHeartbeats 40000000
namespace Go.Proofs.Ed
open Go.RowKit
theorem part23 (f:Nat→Nat) {i:Nat} (hi:i < 16) (w:World):(part 23 (lst f).toArray i).run Tryz.prog w = .ok (.int .u32 (f i:Nat)) w:=by
 have h:=lst_get f hi
 simp [part,go_sem,h]
theorem eql23 (d a b:Nat) (w:World):(Op.equalIn (d + 1) 23 (.int .u32 (a:Nat)) (.int .u32 (b:Nat))).run Tryz.prog w = .ok ((a:Int) == b) w:=by
 simp [Op.equalIn,go_sem]
theorem cells23:Tryz.prog.cellsOf 23 = 1:=by kernel_rfl
theorem items23 (d:Nat) (f g:Nat→Nat) (w:World):∀ is:List Nat,(∀ i ∈ is,i < 16)→(Op.eqItems (d + 1) 23 1 (lst f).toArray (lst g).toArray is).run Tryz.prog w = .ok (decide (∀ i ∈ is,f i = g i)) w
 | [],_=>by simp [Op.eqItems]
 | i :: is,h=>by
  have hi:=h i (by simp)
  have ih:=items23 d f g w is (fun j hj=>h j (by simp [hj]))
  have p1:=part23 f hi w
  have p2:=part23 g hi w
  have p3:=eql23 d (f i) (g i) w
  simp only [Op.eqItems,Nat.mul_one,Sem.run_bind,p1,p2,p3,Result.andThen_ok]
  by_cases e:f i = g i
  ·have e2:((f i:Int) == g i) = true:=by rw [e];exact beq_self_eq_true _
   rw [e2]
   rw [if_neg (show ¬ ((!true) = true) by decide),ih]
   have e3:decide (∀ j ∈ is,f j = g j) = decide (∀ j ∈ i :: is,f j = g j):=by
    rw [decide_eq_decide,List.forall_mem_cons]
    exact ⟨fun h=>⟨e,h⟩,fun h=>h.2⟩
   rw [e3]
  ·have e2:((f i:Int) == g i) = false:=by rw [beq_eq_false_iff_ne];omega
   rw [e2]
   have e3:decide (∀ j ∈ i :: is,f j = g j) = false:=by
    rw [decide_eq_false_iff_not,List.forall_mem_cons]
    exact fun h=>e h.1
   rw [e3,if_pos (show (!false) = true by decide)]
   rfl
theorem und25:Tryz.prog.underlying 25 = some (.array 16 23):=by kernel_rfl
theorem run_equal25 (f g:Nat→Nat) (w:World):(Op.equal 25 (.agg (lst f).toArray) (.agg (lst g).toArray)).run Tryz.prog w = .ok (decide (∀ i ∈ List.range 16,f i = g i)) w:=by
 show (Op.equalIn (9999 + 1) 25 _ _).run Tryz.prog w = _
 rw [run_equalIn_array w 9999 _ _ und25 (i:=(Tryz.prog.info? 23).get (by kernel_rfl)) (by kernel_rfl),cells23]
 exact items23 9998 f g w _ (fun i hi=>by simpa using hi)
theorem fl_lst (a:F):fl a = lst (dig a.val):=by unfold fl nl;rfl
theorem dig_inj {a b:F}:(∀ i ∈ List.range 16,dig a.val i = dig b.val i) ↔ a = b:=by
 constructor
 ·intro h
  have h1:=wv_dig (n:=a.val) 16
  have h2:=wv_dig (n:=b.val) 16
  have:∀ k,k ≤ 16→wv (dig a.val) k = wv (dig b.val) k:=by
   intro k
   induction k with
   | zero=>intro _;rfl
   | succ k ih =>
    intro hk
    show wv _ k + _ = wv _ k + _
    rw [ih (by omega),h k (by simp;omega)]
  rw [this 16 (Nat.le_refl _)] at h1
  rw [h1] at h2
  rw [Nat.mod_eq_of_lt (Nat.lt_of_lt_of_le a.isLt (by decide +kernel)),Nat.mod_eq_of_lt (Nat.lt_of_lt_of_le b.isLt (by decide +kernel))] at h2
  exact Fin.ext h2
 ·rintro rfl;intros;rfl
theorem run_equalF (a b:F) (w:World):(Op.equal 25 (.agg (fl a).toArray) (.agg (fl b).toArray)).run Tryz.prog w = .ok (decide (a = b)) w:=by
 have e3:decide (∀ i ∈ List.range 16,dig a.val i = dig b.val i) = decide (a = b):=by rw [decide_eq_decide];exact dig_inj
 rw [fl_lst,fl_lst,run_equal25,e3]
theorem guard25:Tryz.prog.eqGuardType Tryz.prog.depth 25 = false:=by kernel_rfl
theorem blind_eql {a:Act} {dst:Option Tmp} {ty t2:TypeId} {x y:Operand} {pos:String} {aft:Array Edge} {u v:F} (hx:a.eval x = .agg (fl u).toArray) (hy:a.eval y = .agg (fl v).toArray) :
  Blind Tryz.prog ⟨dst,.binOp .eql 25 x y t2,ty,pos,aft,none⟩ a (.bool (decide (u = v))):=fun w=>by
 have:=run_equalF u v w
 simp only [execOp,hx,hy]
 simp [eqGuard,binOp,this,go_sem]
theorem blind_neq {a:Act} {dst:Option Tmp} {ty t2:TypeId} {x y:Operand} {pos:String} {aft:Array Edge} {u v:F} (hx:a.eval x = .agg (fl u).toArray) (hy:a.eval y = .agg (fl v).toArray) :
  Blind Tryz.prog ⟨dst,.binOp .neq 25 x y t2,ty,pos,aft,none⟩ a (.bool (!decide (u = v))):=fun w=>by
 have:=run_equalF u v w
 simp only [execOp,hx,hy]
 simp [eqGuard,binOp,this,go_sem]
open Go.RowKit
def RS (B k:Nat) (vs:List Value) (a b:World):Prop:=Chg (Rg B 0 k) a b∧(Has a B 0 vs→Has b B 0 vs)
theorem RS.refl (B k:Nat) (vs:List Value) (a:World):RS B k vs a a:=⟨.refl _ _,fun h=>h⟩
theorem RS.trans {B k:Nat} {vs:List Value} {a b c:World} (h:RS B k vs a b) (h2:RS B k vs b c):RS B k vs a c:=⟨h.1.trans h2.1,fun x=>h2.2 (h.2 x)⟩
theorem RS.of_below {B k:Nat} {vs:List Value} {a b:World} (h:Below a.heap.size a b):RS B k vs a b:=⟨Chg.of_below h,fun x=>x.later h⟩
theorem RS.keep {B k:Nat} {vs:List Value} {a b:World} (h:RS B k vs a.drew b) {c o:Nat} {us:List Value} (r:Has a c o us) (hc:c ≠ B):Has b c o us:=Has.keep (w:=a.drew) h.1 r (oq (fun e=>absurd e hc))
theorem RS.room {B k:Nat} {vs:List Value} {a b:World} (h:RS B k vs a.drew b) {c o n:Nat} (r:Room a c o n):Room b c o n:=Chg.room (w:=a.drew) h.1 r
section
variable {P : Program} {Q : Exit → Act → World → Prop}
theorem opw_store {a:Act} {W:World} {K:Act→World→Prop} {dst:Option Tmp} {T ty:TypeId} {x y:Operand} {pos:String} {aft:Array Edge} {b o n:Nat} {vs:List Value}
  (hx:a.eval x = Ptr b o) (hy:a.eval y = .agg vs.toArray) (h:Room W b o n) (hn:vs.length = n) (h1:∀ v ∈ vs,v.oneCell' = true) (hS:∀ w,(sizeOf T).run P w = .ok n w)
  (hK:K (a.put dst undef) (W.setCells b o vs)):Oper.wp P ⟨dst,.store T x y,ty,pos,aft,none⟩ a W K Q:=by
 have:=store_row h hn h1 hS
 unfold Oper.wp
 simp only [execOp,hx,hy,Sem.run_bind,this,Result.andThen_ok]
 exact hK
theorem RS.store {B k:Nat} {vs:List Value} {W:World} (h:Room W B 0 k) (hn:vs.length = k):RS B k vs W (W.setCells B 0 vs)∧Has (W.setCells B 0 vs) B 0 vs:=by
 have h1:=putL_has (w:=W) (b:=B) (o:=0) (vs:=vs) (by rw [hn];exact h)
 have h2:=putL_chg (w:=W) (b:=B) (o:=0) (vs:=vs)
 rw [hn] at h2
 exact ⟨⟨h2,fun _=>h1⟩,h1⟩
theorem region_rs {id:Nat} {l:List Oper} {T:List Value} {w:World} (n B k:Nat) (vs:List Value) (hm:P.follows .mixedOrders = true) (hp:plainOps l T.length = true) (htl:tailOk l n = true)
  (φ:Nat→Value→World→Prop) (hφ:∀ i v a b,φ i v a→RS B k vs a b→φ i v b)
  (hop:heads (l.take n) 0 (fun i o=>∀ (a:Act) (W:World),RS B k vs w.drew W →
   (∀ s:Nat,(∀ o ∈ l,o.dst ≠ some s)→a.tmps.getD s undef = T.toArray.getD s undef) →
   (∀ e ∈ o.after.toList,Region.binds .any e = true→φ e.on (slotOf l.toArray a e.on) W) →
   o.wp P a W (fun a' W'=>∃ v,a' = a.put o.dst v∧RS B k vs W W'∧φ i (if o.dst.isSome then v else undef) W') Q))
  (hend:∀ (us:Nat→Value) (W:World),RS B k vs w.drew W→heads (l.take n) 0 (fun i o=>φ i (if o.dst.isSome then us i else undef) W)→wpList P l.toArray Q (l.drop n) (finL us (l.take n) 0 ⟨T.toArray,[]⟩) W) :
  (Code.region id l.toArray true).wp P Q ⟨T.toArray,[]⟩ w:=by
 have tk:∀ (i:Nat) (o:Oper),i < n→l[i]? = some o→(l.take n)[i]? = some o:=fun i o hi ho=>by rw [List.getElem?_take,if_pos hi];exact ho
 refine region_tail n hm hp htl (RS B k vs) (RS.refl B k vs) (fun _ _ _ h h2=>h.trans h2) φ hφ
  (fun i o hi ho=>by have:=heads_at hop i o (tk i o hi ho);rwa [Nat.zero_add] at this)
  (fun us W hR h=>hend us W hR (heads_of fun j o hj=>by
   rw [Nat.zero_add]
   rw [List.getElem?_take] at hj
   split at hj
   ·exact h j o (by assumption) hj
   ·cases hj))
end
open Go.RowKit
theorem oddF_v {a:F} {w:World}:Calls Tryz.prog 32 #[.agg (fl a).toArray] w (fun e w'=>e = .returned (.bool (decide (odd a = 1)))∧Below w.heap.size w w'):=by
 rw [fl_nl,show decide (odd a = 1) = decide (a.val % 2 = 1) by rw [decide_eq_decide];unfold odd;omega]
 exact odd_v
theorem odd_t {a:F} {w:World} (h:Hd (odd a = 1)):Calls Tryz.prog 32 #[.agg (fl a).toArray] w (fun e w'=>e = .returned (.bool true)∧Below w.heap.size w w'):=by
 have:=oddF_v (a:=a) (w:=w)
 rwa [show decide (odd a = 1) = true by rw [decide_eq_true_iff];exact h.out] at this
theorem odd_n {a:F} {w:World} (h:Hd (¬ odd a = 1)):Calls Tryz.prog 32 #[.agg (fl a).toArray] w (fun e w'=>e = .returned (.bool false)∧Below w.heap.size w w'):=by
 have:=oddF_v (a:=a) (w:=w)
 rwa [show decide (odd a = 1) = false by rw [decide_eq_false_iff_not];exact h.out] at this
theorem ne_t {a b:F} (h:¬ a = b):(!decide (a = b)) = true:=by rw [decide_eq_false h];rfl
theorem ne_n {a b:F} (h:a = b):(!decide (a = b)) = false:=by rw [decide_eq_true h];rfl
theorem rtF_of {x r:F} (h1:r = rt1 x):(odd r = 1→rtF x = -r)∧(¬ odd r = 1→rtF x = r):=by
 subst h1
 unfold rtF absF
 exact ⟨fun h=>if_pos h,fun h=>if_neg h⟩
theorem rt1_y {x r:F} (h:r = pow x E3) (hc:r * r = x):r = rt1 x:=by
 subst h;unfold rt1;rw [if_pos hc]
theorem rt1_n {x r:F} (h:r = pow x E3) (hc:¬ r * r = x):r * spI = rt1 x:=by
 subst h;unfold rt1;rw [if_neg hc]
theorem ratio1_v {x f:F} {b:Bool} {be bi:Nat} {w:World} (hf:Hd (f = rtF x)) (hb:Hd (b = decide (f * f = x))) (HE:Has w be 0 (nl E3)) (HI:Has w bi 0 (fl spI)):Calls Tryz.prog 73 #[.agg (fl x).toArray,Ptr be 0,Ptr bi 0] w (fun e w'=>e = .returned (.tuple #[.agg (fl f).toArray,.bool b])∧Below w.heap.size w w'):=by
 have C:Chg R0 w w:=.refl _ _
 go_enter Tryz.func73,Tryz.ntmps73
 repeat ((fail_if_success with_reducible refine sl 25 ?_);first | go_step | dsimp only)
 obtain ⟨n1,ln1⟩:∃ n,w.heap.size = n:=⟨_,rfl⟩
 rw [ln1]
 have hb:=aB [Obj.cells (fl x).toArray 25,Obj.cells (List.replicate 16 (.int .u32 0)).toArray 25] w
 have zn1:w.heap.size ≤ n1:=ln1 ▸ C.size
 have y1:be < n1:=ln1 ▸ HE.lt (by rw [nL];decide)
 have y2:bi < n1:=ln1 ▸ HI.lt (by rw [fL];decide)
 replace C:=C.trans (Chg.of_below hb)
 replace HE:=HE.later hb
 replace HI:=HI.later hb
 have H3:=aH [Obj.cells (fl x).toArray 25,Obj.cells (List.replicate 16 (.int .u32 0)).toArray 25] w 0 _ _ rfl
 rw [ln1] at H3
 simp only [Nat.add_zero] at H3
 have H4:=(aH [Obj.cells (fl x).toArray 25,Obj.cells (List.replicate 16 (.int .u32 0)).toArray 25] w 1 _ _ rfl).room (n:=16) rfl
 rw [ln1] at H4
 refine pG (fun W=>Chg R0 w W∧Has W be 0 (nl E3)∧Has W bi 0 (fl spI)∧Has W n1 0 (fl x)∧Room W (n1 + 1) 0 16) ⟨C,HE,HI,H3,H4⟩ ?_
 clear C HE HI H3 H4 hb ln1
 rintro W ⟨C,HE,HI,H3,H4⟩
 refine wL (b:=n1) (o:=0) rfl H3 (fL _) agg25 size25 ?_
 simp only [Act.put,iA,iB,iC]
 repeat ((fail_if_success with_reducible refine sl 25 ?_);first | go_step | dsimp only)
 refine wL (b:=be) (o:=0) rfl HE (nL _) agg25 size25 ?_
 simp only [Act.put,iA,iB,iC]
 obtain ⟨f1,qf1⟩:∃ g:F,g = pow x E3:=⟨_,rfl⟩
 replace qf1:=hd qf1
 go_wp2_with fail
 refine (pow_v (by decide +kernel) qf1).mono ?_
 rintro e W ⟨rfl,hb⟩
 replace C:=C.trans (Chg.of_below hb)
 replace HE:=HE.later hb
 replace HI:=HI.later hb
 replace H3:=H3.later hb
 replace H4:=H4.later hb
 clear hb
 repeat ((fail_if_success with_reducible refine ss 25 ?_);first | go_step | dsimp only)
 obtain ⟨n2,ln2⟩:∃ n,W.heap.size = n:=⟨_,rfl⟩
 rw [ln2]
 have hb:=aB [Obj.cells (List.replicate 16 (.int .u32 0)).toArray 25] W
 have zn2:w.heap.size ≤ n2:=ln2 ▸ C.size
 have y5:be < n2:=ln2 ▸ HE.lt (by rw [nL];decide)
 have y6:bi < n2:=ln2 ▸ HI.lt (by rw [fL];decide)
 have y7:n1 < n2:=ln2 ▸ H3.lt (by rw [fL];decide)
 have y8:n1 + 1 < n2:=ln2 ▸ H4.lt (by decide)
 replace C:=C.trans (Chg.of_below hb)
 replace HE:=HE.later hb
 replace HI:=HI.later hb
 replace H3:=H3.later hb
 replace H4:=H4.later hb
 have H9:=(aH [Obj.cells (List.replicate 16 (.int .u32 0)).toArray 25] W 0 _ _ rfl).room (n:=16) rfl
 rw [ln2] at H9
 simp only [Nat.add_zero] at H9
 refine pG (fun W=>Chg R0 w W∧Has W be 0 (nl E3)∧Has W bi 0 (fl spI)∧Has W n1 0 (fl x)∧Room W (n1 + 1) 0 16∧Room W n2 0 16) ⟨C,HE,HI,H3,H4,H9⟩ ?_
 clear C HE HI H3 H4 H9 hb ln2
 rintro W ⟨C,HE,HI,H3,H4,H9⟩
 refine wS (b:=n2) (o:=0) (vs:=fl f1) rfl rfl H9 (fL _) (fl_one _) size25 ?_
 simp only [Act.put]
 have hc:Chg (Rg n2 0 16) W (World.setCells W n2 0 (fl f1)):=by have:=putL_chg (w:=W) (b:=n2) (o:=0) (vs:=fl f1);rwa [show (fl f1).length = 16 from (fL _)] at this
 have H10:=putL_has (w:=W) (b:=n2) (o:=0) (vs:=fl f1) (by rw [show (fl f1).length = 16 from (fL _)];exact H9)
 replace C:=C.loc hc (by omega)
 replace HE:=HE.keep hc oa
 replace HI:=HI.keep hc oa
 replace H3:=H3.keep hc oa
 replace H4:=hc.room H4
 clear H9
 clear hc
 refine pG (fun W=>Chg R0 w W∧Has W be 0 (nl E3)∧Has W bi 0 (fl spI)∧Has W n1 0 (fl x)∧Room W (n1 + 1) 0 16∧Has W n2 0 (fl f1)) ⟨C,HE,HI,H3,H4,H10⟩ ?_
 clear C HE HI H3 H4 H10
 rintro W ⟨C,HE,HI,H3,H4,H10⟩
 go_wp2_with fail
 obtain ⟨f2,qf2⟩:∃ g:F,g = f1 * f1:=⟨_,rfl⟩
 replace qf2:=hd qf2
 refine region_fresh 4 [] (by kernel_rfl) (by kernel_rfl) (by kernel_rfl)
  (fun i v W=>match i with
   | 0=>v = .agg (fl f1).toArray
   | 1=>v = .agg (fl f1).toArray
   | 2=>v = .agg (fl f2).toArray
   | 3=>v = .agg (fl x).toArray
   | _=>True) ?_ ?_ ?_
 ·intro i v u u' h hb
  split at h<;>exact h
 ·simp only [List.take_succ_cons,List.take_zero,heads]
  refine ⟨?_,?_,?_,?_,trivial⟩
  ·intro a W1 hR hun hdep
   have t6:=hun 6 (by simp)
   simp at t6
   clear hun hdep
   exact opw_load (b:=n2) (o:=0) (gd t6) (Has.later H10 hR.off) (fL _) agg25 size25 ⟨_,rfl,Later.rfl' _,rfl,(fun h=>absurd h (by decide))⟩
  ·intro a W1 hR hun hdep
   have t6:=hun 6 (by simp)
   simp at t6
   clear hun hdep
   exact opw_load (b:=n2) (o:=0) (gd t6) (Has.later H10 hR.off) (fL _) agg25 size25 ⟨_,rfl,Later.rfl' _,rfl,(fun h=>absurd h (by decide))⟩
  ·intro a W1 hR hun hdep
   have d10:=hdep ⟨0,.data⟩ (by simp) rfl
   simp [slotOf] at d10
   have d11:=hdep ⟨1,.data⟩ (by simp) rfl
   simp [slotOf] at d11
   clear hun hdep
   go_simp
   refine (mul_v qf2).mono ?_
   rintro e W2 ⟨rfl,hb⟩
   first | exact hb | exact ⟨hb,rfl⟩ | exact ⟨rfl,hb⟩
  ·intro a W1 hR hun hdep
   have t3:=hun 3 (by simp)
   simp at t3
   clear hun hdep
   exact opw_load (b:=n1) (o:=0) (gd t3) (Has.later H3 hR.off) (fL _) agg25 size25 ⟨_,rfl,Later.rfl' _,rfl,(fun h=>absurd h (by decide))⟩
 ·intro vs W1 hR hv hfr
  simp only [List.take_succ_cons,List.take_zero,List.drop_succ_cons,List.drop_zero,heads,Option.isSome_some,if_true] at hv ⊢
  obtain ⟨v0,v1,v2,v3,-⟩:=hv
  simp only [finL,Act.put,v0,v1,v2,v3]
  simp only [iA,iB,iC]
  replace hR:=hR.off
  replace C:=C.trans (Chg.of_below hR)
  replace HE:=HE.later hR
  replace HI:=HI.later hR
  replace H3:=H3.later hR
  replace H4:=H4.later hR
  replace H10:=H10.later hR
  clear hR hfr v0 v1 v2 v3
  refine pG (fun W=>Chg R0 w W∧Has W be 0 (nl E3)∧Has W bi 0 (fl spI)∧Has W n1 0 (fl x)∧Room W (n1 + 1) 0 16∧Has W n2 0 (fl f1)) ⟨C,HE,HI,H3,H4,H10⟩ ?_
  clear C HE HI H3 H4 H10
  rintro W ⟨C,HE,HI,H3,H4,H10⟩
  repeat ((fail_if_success show wpList _ _ _ (⟨_,.binOp _ _ _ _ _,_,_,_,_⟩ :: _) _ _);(first | go_step | dsimp only))
  refine wpList_blind rfl (blind_neq (u:=f2) (v:=x) rfl rfl) ?_
  simp only [Act.put,iA,iB,iC]
  by_cases hc:f2 = x
  ·rw [ne_n hc]
   replace hc:=hd hc
   by_cases hq:odd f1 = 1
   ·have ho:=hd hq
    clear hq
    repeat ((fail_if_success with_reducible refine sl 25 ?_);first | go_step | dsimp only)
    refine wL (b:=n2) (o:=0) rfl H10 (fL _) agg25 size25 ?_
    simp only [Act.put,iA,iB,iC]
    go_wp2_with fail
    refine (odd_t ho).mono ?_
    rintro e W ⟨rfl,hb⟩
    replace C:=C.trans (Chg.of_below hb)
    replace HE:=HE.later hb
    replace HI:=HI.later hb
    replace H3:=H3.later hb
    replace H4:=H4.later hb
    replace H10:=H10.later hb
    clear hb
    repeat ((fail_if_success with_reducible refine sl 25 ?_);first | go_step | dsimp only)
    refine wL (b:=n2) (o:=0) rfl H10 (fL _) agg25 size25 ?_
    simp only [Act.put,iA,iB,iC]
    obtain ⟨f3,qf3⟩:∃ g:F,g = -f1:=⟨_,rfl⟩
    replace qf3:=hd qf3
    go_wp2_with fail
    refine (neg_v qf3).mono ?_
    rintro e W ⟨rfl,hb⟩
    replace C:=C.trans (Chg.of_below hb)
    replace HE:=HE.later hb
    replace HI:=HI.later hb
    replace H3:=H3.later hb
    replace H4:=H4.later hb
    replace H10:=H10.later hb
    clear hb
    repeat ((fail_if_success with_reducible refine ss 25 ?_);first | go_step | dsimp only)
    refine wS (b:=n2) (o:=0) (vs:=fl f3) rfl rfl (H10.room (fL _)) (fL _) (fl_one _) size25 ?_
    simp only [Act.put]
    have hc:Chg (Rg n2 0 16) W (World.setCells W n2 0 (fl f3)):=by have:=putL_chg (w:=W) (b:=n2) (o:=0) (vs:=fl f3);rwa [show (fl f3).length = 16 from (fL _)] at this
    have H11:=putL_has (w:=W) (b:=n2) (o:=0) (vs:=fl f3) (by rw [show (fl f3).length = 16 from (fL _)];exact (H10.room (fL _)))
    replace C:=C.loc hc (by omega)
    replace HE:=HE.keep hc oa
    replace HI:=HI.keep hc oa
    replace H3:=H3.keep hc oa
    replace H4:=hc.room H4
    clear H10
    clear hc
    refine pG (fun W=>Chg R0 w W∧Has W be 0 (nl E3)∧Has W bi 0 (fl spI)∧Has W n1 0 (fl x)∧Room W (n1 + 1) 0 16∧Has W n2 0 (fl f3)) ⟨C,HE,HI,H3,H4,H11⟩ ?_
    clear C HE HI H3 H4 H11
    rintro W ⟨C,HE,HI,H3,H4,H11⟩
    go_wp2_with fail
    obtain ⟨f4,qf4⟩:∃ g:F,g = f3 * f3:=⟨_,rfl⟩
    replace qf4:=hd qf4
    refine region_rs 7 (n1 + 1) 16 (fl f3) (by kernel_rfl) (by kernel_rfl) (by kernel_rfl)
     (fun i v W=>match i with
      | 0=>v = .agg (fl f3).toArray
      | 1=>v = .agg (fl f3).toArray
      | 2=>v = .agg (fl f3).toArray
      | 3=>v = .agg (fl f4).toArray
      | 4=>v = .agg (fl x).toArray
      | 5=>v = .bool (decide (f4 = x))
      | 6=>Has W (n1 + 1) 0 (fl f3)
      | _=>True) ?_ ?_ ?_
    ·intro i v u u' h hb
     split at h
     ·exact h
     ·exact h
     ·exact h
     ·exact h
     ·exact h
     ·exact h
     ·exact hb.2 h
     ·trivial
    ·simp only [List.take_succ_cons,List.take_zero,heads]
     refine ⟨?_,?_,?_,?_,?_,?_,?_,trivial⟩
     ·intro a W1 hR hun hdep
      have t6:=hun 6 (by simp)
      simp at t6
      clear hun hdep
      exact opw_load (b:=n2) (o:=0) (gd t6) (RS.keep hR H11 (by omega)) (fL _) agg25 size25 ⟨_,rfl,RS.refl _ _ _ _,rfl⟩
     ·intro a W1 hR hun hdep
      have t6:=hun 6 (by simp)
      simp at t6
      clear hun hdep
      exact opw_load (b:=n2) (o:=0) (gd t6) (RS.keep hR H11 (by omega)) (fL _) agg25 size25 ⟨_,rfl,RS.refl _ _ _ _,rfl⟩
     ·intro a W1 hR hun hdep
      have t6:=hun 6 (by simp)
      simp at t6
      clear hun hdep
      exact opw_load (b:=n2) (o:=0) (gd t6) (RS.keep hR H11 (by omega)) (fL _) agg25 size25 ⟨_,rfl,RS.refl _ _ _ _,rfl⟩
     ·intro a W1 hR hun hdep
      have d23:=hdep ⟨1,.data⟩ (by simp) rfl
      simp [slotOf] at d23
      have d24:=hdep ⟨2,.data⟩ (by simp) rfl
      simp [slotOf] at d24
      clear hun hdep
      go_simp
      refine (mul_v qf4).mono ?_
      rintro e W2 ⟨rfl,hb⟩
      first | exact RS.of_below hb | exact ⟨RS.of_below hb,rfl⟩ | exact ⟨rfl,RS.of_below hb⟩
     ·intro a W1 hR hun hdep
      have t3:=hun 3 (by simp)
      simp at t3
      clear hun hdep
      exact opw_load (b:=n1) (o:=0) (gd t3) (RS.keep hR H3 (by omega)) (fL _) agg25 size25 ⟨_,rfl,RS.refl _ _ _ _,rfl⟩
     ·intro a W1 hR hun hdep
      have d25:=hdep ⟨3,.data⟩ (by simp) rfl
      simp [slotOf] at d25
      have d26:=hdep ⟨4,.data⟩ (by simp) rfl
      simp [slotOf] at d26
      clear hun hdep
      exact Blind.wp (blind_eql (u:=f4) (v:=x) (gd d25) (gd d26)) ⟨_,rfl,RS.refl _ _ _ _,rfl⟩
     ·intro a W1 hR hun hdep
      have t4:=hun 4 (by simp)
      simp at t4
      have d22:=hdep ⟨0,.data⟩ (by simp) rfl
      simp [slotOf] at d22
      clear hun hdep
      exact opw_store (b:=n1 + 1) (o:=0) (gd t4) (gd d22) (RS.room hR H4) (fL _) (fl_one _) size25 ⟨undef,rfl,RS.store (RS.room hR H4) (fL _)⟩
    ·intro vs W1 hR hv
     simp only [List.take_succ_cons,List.take_zero,List.drop_succ_cons,List.drop_zero,heads,Option.isSome_some,if_true] at hv ⊢
     obtain ⟨v0,v1,v2,v3,v4,v5,v6,-⟩:=hv
     simp only [finL,Act.put,v0,v1,v2,v3,v4,v5]
     simp only [iA,iB,iC]
     replace HE:=RS.keep hR HE (by omega)
     replace HI:=RS.keep hR HI (by omega)
     replace H3:=RS.keep hR H3 (by omega)
     clear H4
     replace H11:=RS.keep hR H11 (by omega)
     replace C:=(C.drew).loc hR.1 (by omega)
     have H12:=v6
     clear hR v0 v1 v2 v3 v4 v5 v6
     refine pG (fun W=>Chg R0 w W∧Has W be 0 (nl E3)∧Has W bi 0 (fl spI)∧Has W n1 0 (fl x)∧Has W n2 0 (fl f3)∧Has W (n1 + 1) 0 (fl f3)) ⟨C,HE,HI,H3,H11,H12⟩ ?_
     clear C HE HI H3 H11 H12
     rintro W ⟨C,HE,HI,H3,H11,H12⟩
     go_wp2_with fail
     have e1:f = f3:=by rw [hf.out,(rtF_of (rt1_y qf1.out (by rw [←qf2.out];exact hc.out)) |>.1 ho.out)];rw [qf3.out]
     exact ret_cell2 (b:=n1 + 1) (o:=0) Tryz.results73 rfl rfl H12 (fL _) agg25 size25 rfl ⟨by rw [hb.out,e1,←qf4.out];rfl,C.r0⟩
   ·have ho:=hd hq
    clear hq
    repeat ((fail_if_success with_reducible refine sl 25 ?_);first | go_step | dsimp only)
    refine wL (b:=n2) (o:=0) rfl H10 (fL _) agg25 size25 ?_
    simp only [Act.put,iA,iB,iC]
    go_wp2_with fail
    refine (odd_n ho).mono ?_
    rintro e W ⟨rfl,hb⟩
    replace C:=C.trans (Chg.of_below hb)
    replace HE:=HE.later hb
    replace HI:=HI.later hb
    replace H3:=H3.later hb
    replace H4:=H4.later hb
    replace H10:=H10.later hb
    clear hb
    go_wp2_with fail
    obtain ⟨f3,qf3⟩:∃ g:F,g = f1 * f1:=⟨_,rfl⟩
    replace qf3:=hd qf3
    refine region_rs 7 (n1 + 1) 16 (fl f1) (by kernel_rfl) (by kernel_rfl) (by kernel_rfl)
     (fun i v W=>match i with
      | 0=>v = .agg (fl f1).toArray
      | 1=>v = .agg (fl f1).toArray
      | 2=>v = .agg (fl f1).toArray
      | 3=>v = .agg (fl f3).toArray
      | 4=>v = .agg (fl x).toArray
      | 5=>v = .bool (decide (f3 = x))
      | 6=>Has W (n1 + 1) 0 (fl f1)
      | _=>True) ?_ ?_ ?_
    ·intro i v u u' h hb
     split at h
     ·exact h
     ·exact h
     ·exact h
     ·exact h
     ·exact h
     ·exact h
     ·exact hb.2 h
     ·trivial
    ·simp only [List.take_succ_cons,List.take_zero,heads]
     refine ⟨?_,?_,?_,?_,?_,?_,?_,trivial⟩
     ·intro a W1 hR hun hdep
      have t6:=hun 6 (by simp)
      simp at t6
      clear hun hdep
      exact opw_load (b:=n2) (o:=0) (gd t6) (RS.keep hR H10 (by omega)) (fL _) agg25 size25 ⟨_,rfl,RS.refl _ _ _ _,rfl⟩
     ·intro a W1 hR hun hdep
      have t6:=hun 6 (by simp)
      simp at t6
      clear hun hdep
      exact opw_load (b:=n2) (o:=0) (gd t6) (RS.keep hR H10 (by omega)) (fL _) agg25 size25 ⟨_,rfl,RS.refl _ _ _ _,rfl⟩
     ·intro a W1 hR hun hdep
      have t6:=hun 6 (by simp)
      simp at t6
      clear hun hdep
      exact opw_load (b:=n2) (o:=0) (gd t6) (RS.keep hR H10 (by omega)) (fL _) agg25 size25 ⟨_,rfl,RS.refl _ _ _ _,rfl⟩
     ·intro a W1 hR hun hdep
      have d23:=hdep ⟨1,.data⟩ (by simp) rfl
      simp [slotOf] at d23
      have d24:=hdep ⟨2,.data⟩ (by simp) rfl
      simp [slotOf] at d24
      clear hun hdep
      go_simp
      refine (mul_v qf3).mono ?_
      rintro e W2 ⟨rfl,hb⟩
      first | exact RS.of_below hb | exact ⟨RS.of_below hb,rfl⟩ | exact ⟨rfl,RS.of_below hb⟩
     ·intro a W1 hR hun hdep
      have t3:=hun 3 (by simp)
      simp at t3
      clear hun hdep
      exact opw_load (b:=n1) (o:=0) (gd t3) (RS.keep hR H3 (by omega)) (fL _) agg25 size25 ⟨_,rfl,RS.refl _ _ _ _,rfl⟩
     ·intro a W1 hR hun hdep
      have d25:=hdep ⟨3,.data⟩ (by simp) rfl
      simp [slotOf] at d25
      have d26:=hdep ⟨4,.data⟩ (by simp) rfl
      simp [slotOf] at d26
      clear hun hdep
      exact Blind.wp (blind_eql (u:=f3) (v:=x) (gd d25) (gd d26)) ⟨_,rfl,RS.refl _ _ _ _,rfl⟩
     ·intro a W1 hR hun hdep
      have t4:=hun 4 (by simp)
      simp at t4
      have d22:=hdep ⟨0,.data⟩ (by simp) rfl
      simp [slotOf] at d22
      clear hun hdep
      exact opw_store (b:=n1 + 1) (o:=0) (gd t4) (gd d22) (RS.room hR H4) (fL _) (fl_one _) size25 ⟨undef,rfl,RS.store (RS.room hR H4) (fL _)⟩
    ·intro vs W1 hR hv
     simp only [List.take_succ_cons,List.take_zero,List.drop_succ_cons,List.drop_zero,heads,Option.isSome_some,if_true] at hv ⊢
     obtain ⟨v0,v1,v2,v3,v4,v5,v6,-⟩:=hv
     simp only [finL,Act.put,v0,v1,v2,v3,v4,v5]
     simp only [iA,iB,iC]
     replace HE:=RS.keep hR HE (by omega)
     replace HI:=RS.keep hR HI (by omega)
     replace H3:=RS.keep hR H3 (by omega)
     clear H4
     replace H10:=RS.keep hR H10 (by omega)
     replace C:=(C.drew).loc hR.1 (by omega)
     have H11:=v6
     clear hR v0 v1 v2 v3 v4 v5 v6
     refine pG (fun W=>Chg R0 w W∧Has W be 0 (nl E3)∧Has W bi 0 (fl spI)∧Has W n1 0 (fl x)∧Has W n2 0 (fl f1)∧Has W (n1 + 1) 0 (fl f1)) ⟨C,HE,HI,H3,H10,H11⟩ ?_
     clear C HE HI H3 H10 H11
     rintro W ⟨C,HE,HI,H3,H10,H11⟩
     go_wp2_with fail
     have e1:f = f1:=by rw [hf.out,(rtF_of (rt1_y qf1.out (by rw [←qf2.out];exact hc.out)) |>.2 ho.out)]
     exact ret_cell2 (b:=n1 + 1) (o:=0) Tryz.results73 rfl rfl H11 (fL _) agg25 size25 rfl ⟨by rw [hb.out,e1,←qf3.out];rfl,C.r0⟩
  ·rw [ne_t hc]
   replace hc:=hd hc
   repeat ((fail_if_success with_reducible refine sl 25 ?_);first | go_step | dsimp only)
   refine wL (b:=n2) (o:=0) rfl H10 (fL _) agg25 size25 ?_
   simp only [Act.put,iA,iB,iC]
   repeat ((fail_if_success with_reducible refine sl 25 ?_);first | go_step | dsimp only)
   refine wL (b:=bi) (o:=0) rfl HI (fL _) agg25 size25 ?_
   simp only [Act.put,iA,iB,iC]
   obtain ⟨f3,qf3⟩:∃ g:F,g = f1 * spI:=⟨_,rfl⟩
   replace qf3:=hd qf3
   go_wp2_with fail
   refine (mul_v qf3).mono ?_
   rintro e W ⟨rfl,hb⟩
   replace C:=C.trans (Chg.of_below hb)
   replace HE:=HE.later hb
   replace HI:=HI.later hb
   replace H3:=H3.later hb
   replace H4:=H4.later hb
   replace H10:=H10.later hb
   clear hb
   repeat ((fail_if_success with_reducible refine ss 25 ?_);first | go_step | dsimp only)
   refine wS (b:=n2) (o:=0) (vs:=fl f3) rfl rfl (H10.room (fL _)) (fL _) (fl_one _) size25 ?_
   simp only [Act.put]
   have hc:Chg (Rg n2 0 16) W (World.setCells W n2 0 (fl f3)):=by have:=putL_chg (w:=W) (b:=n2) (o:=0) (vs:=fl f3);rwa [show (fl f3).length = 16 from (fL _)] at this
   have H11:=putL_has (w:=W) (b:=n2) (o:=0) (vs:=fl f3) (by rw [show (fl f3).length = 16 from (fL _)];exact (H10.room (fL _)))
   replace C:=C.loc hc (by omega)
   replace HE:=HE.keep hc oa
   replace HI:=HI.keep hc oa
   replace H3:=H3.keep hc oa
   replace H4:=hc.room H4
   clear H10
   clear hc
   refine pG (fun W=>Chg R0 w W∧Has W be 0 (nl E3)∧Has W bi 0 (fl spI)∧Has W n1 0 (fl x)∧Room W (n1 + 1) 0 16∧Has W n2 0 (fl f3)) ⟨C,HE,HI,H3,H4,H11⟩ ?_
   clear C HE HI H3 H4 H11
   rintro W ⟨C,HE,HI,H3,H4,H11⟩
   by_cases hq:odd f3 = 1
   ·have ho:=hd hq
    clear hq
    repeat ((fail_if_success with_reducible refine sl 25 ?_);first | go_step | dsimp only)
    refine wL (b:=n2) (o:=0) rfl H11 (fL _) agg25 size25 ?_
    simp only [Act.put,iA,iB,iC]
    go_wp2_with fail
    refine (odd_t ho).mono ?_
    rintro e W ⟨rfl,hb⟩
    replace C:=C.trans (Chg.of_below hb)
    replace HE:=HE.later hb
    replace HI:=HI.later hb
    replace H3:=H3.later hb
    replace H4:=H4.later hb
    replace H11:=H11.later hb
    clear hb
    repeat ((fail_if_success with_reducible refine sl 25 ?_);first | go_step | dsimp only)
    refine wL (b:=n2) (o:=0) rfl H11 (fL _) agg25 size25 ?_
    simp only [Act.put,iA,iB,iC]
    obtain ⟨f4,qf4⟩:∃ g:F,g = -f3:=⟨_,rfl⟩
    replace qf4:=hd qf4
    go_wp2_with fail
    refine (neg_v qf4).mono ?_
    rintro e W ⟨rfl,hb⟩
    replace C:=C.trans (Chg.of_below hb)
    replace HE:=HE.later hb
    replace HI:=HI.later hb
    replace H3:=H3.later hb
    replace H4:=H4.later hb
    replace H11:=H11.later hb
    clear hb
    repeat ((fail_if_success with_reducible refine ss 25 ?_);first | go_step | dsimp only)
    refine wS (b:=n2) (o:=0) (vs:=fl f4) rfl rfl (H11.room (fL _)) (fL _) (fl_one _) size25 ?_
    simp only [Act.put]
    have hc:Chg (Rg n2 0 16) W (World.setCells W n2 0 (fl f4)):=by have:=putL_chg (w:=W) (b:=n2) (o:=0) (vs:=fl f4);rwa [show (fl f4).length = 16 from (fL _)] at this
    have H12:=putL_has (w:=W) (b:=n2) (o:=0) (vs:=fl f4) (by rw [show (fl f4).length = 16 from (fL _)];exact (H11.room (fL _)))
    replace C:=C.loc hc (by omega)
    replace HE:=HE.keep hc oa
    replace HI:=HI.keep hc oa
    replace H3:=H3.keep hc oa
    replace H4:=hc.room H4
    clear H11
    clear hc
    refine pG (fun W=>Chg R0 w W∧Has W be 0 (nl E3)∧Has W bi 0 (fl spI)∧Has W n1 0 (fl x)∧Room W (n1 + 1) 0 16∧Has W n2 0 (fl f4)) ⟨C,HE,HI,H3,H4,H12⟩ ?_
    clear C HE HI H3 H4 H12
    rintro W ⟨C,HE,HI,H3,H4,H12⟩
    go_wp2_with fail
    obtain ⟨f5,qf5⟩:∃ g:F,g = f4 * f4:=⟨_,rfl⟩
    replace qf5:=hd qf5
    refine region_rs 7 (n1 + 1) 16 (fl f4) (by kernel_rfl) (by kernel_rfl) (by kernel_rfl)
     (fun i v W=>match i with
      | 0=>v = .agg (fl f4).toArray
      | 1=>v = .agg (fl f4).toArray
      | 2=>v = .agg (fl f4).toArray
      | 3=>v = .agg (fl f5).toArray
      | 4=>v = .agg (fl x).toArray
      | 5=>v = .bool (decide (f5 = x))
      | 6=>Has W (n1 + 1) 0 (fl f4)
      | _=>True) ?_ ?_ ?_
    ·intro i v u u' h hb
     split at h
     ·exact h
     ·exact h
     ·exact h
     ·exact h
     ·exact h
     ·exact h
     ·exact hb.2 h
     ·trivial
    ·simp only [List.take_succ_cons,List.take_zero,heads]
     refine ⟨?_,?_,?_,?_,?_,?_,?_,trivial⟩
     ·intro a W1 hR hun hdep
      have t6:=hun 6 (by simp)
      simp at t6
      clear hun hdep
      exact opw_load (b:=n2) (o:=0) (gd t6) (RS.keep hR H12 (by omega)) (fL _) agg25 size25 ⟨_,rfl,RS.refl _ _ _ _,rfl⟩
     ·intro a W1 hR hun hdep
      have t6:=hun 6 (by simp)
      simp at t6
      clear hun hdep
      exact opw_load (b:=n2) (o:=0) (gd t6) (RS.keep hR H12 (by omega)) (fL _) agg25 size25 ⟨_,rfl,RS.refl _ _ _ _,rfl⟩
     ·intro a W1 hR hun hdep
      have t6:=hun 6 (by simp)
      simp at t6
      clear hun hdep
      exact opw_load (b:=n2) (o:=0) (gd t6) (RS.keep hR H12 (by omega)) (fL _) agg25 size25 ⟨_,rfl,RS.refl _ _ _ _,rfl⟩
     ·intro a W1 hR hun hdep
      have d23:=hdep ⟨1,.data⟩ (by simp) rfl
      simp [slotOf] at d23
      have d24:=hdep ⟨2,.data⟩ (by simp) rfl
      simp [slotOf] at d24
      clear hun hdep
      go_simp
      refine (mul_v qf5).mono ?_
      rintro e W2 ⟨rfl,hb⟩
      first | exact RS.of_below hb | exact ⟨RS.of_below hb,rfl⟩ | exact ⟨rfl,RS.of_below hb⟩
     ·intro a W1 hR hun hdep
      have t3:=hun 3 (by simp)
      simp at t3
      clear hun hdep
      exact opw_load (b:=n1) (o:=0) (gd t3) (RS.keep hR H3 (by omega)) (fL _) agg25 size25 ⟨_,rfl,RS.refl _ _ _ _,rfl⟩
     ·intro a W1 hR hun hdep
      have d25:=hdep ⟨3,.data⟩ (by simp) rfl
      simp [slotOf] at d25
      have d26:=hdep ⟨4,.data⟩ (by simp) rfl
      simp [slotOf] at d26
      clear hun hdep
      exact Blind.wp (blind_eql (u:=f5) (v:=x) (gd d25) (gd d26)) ⟨_,rfl,RS.refl _ _ _ _,rfl⟩
     ·intro a W1 hR hun hdep
      have t4:=hun 4 (by simp)
      simp at t4
      have d22:=hdep ⟨0,.data⟩ (by simp) rfl
      simp [slotOf] at d22
      clear hun hdep
      exact opw_store (b:=n1 + 1) (o:=0) (gd t4) (gd d22) (RS.room hR H4) (fL _) (fl_one _) size25 ⟨undef,rfl,RS.store (RS.room hR H4) (fL _)⟩
    ·intro vs W1 hR hv
     simp only [List.take_succ_cons,List.take_zero,List.drop_succ_cons,List.drop_zero,heads,Option.isSome_some,if_true] at hv ⊢
     obtain ⟨v0,v1,v2,v3,v4,v5,v6,-⟩:=hv
     simp only [finL,Act.put,v0,v1,v2,v3,v4,v5]
     simp only [iA,iB,iC]
     replace HE:=RS.keep hR HE (by omega)
     replace HI:=RS.keep hR HI (by omega)
     replace H3:=RS.keep hR H3 (by omega)
     clear H4
     replace H12:=RS.keep hR H12 (by omega)
     replace C:=(C.drew).loc hR.1 (by omega)
     have H13:=v6
     clear hR v0 v1 v2 v3 v4 v5 v6
     refine pG (fun W=>Chg R0 w W∧Has W be 0 (nl E3)∧Has W bi 0 (fl spI)∧Has W n1 0 (fl x)∧Has W n2 0 (fl f4)∧Has W (n1 + 1) 0 (fl f4)) ⟨C,HE,HI,H3,H12,H13⟩ ?_
     clear C HE HI H3 H12 H13
     rintro W ⟨C,HE,HI,H3,H12,H13⟩
     go_wp2_with fail
     have e1:f = f4:=by rw [hf.out,(rtF_of (by rw [qf3.out];exact rt1_n qf1.out (by rw [←qf2.out];exact hc.out)) |>.1 ho.out)];rw [qf4.out]
     exact ret_cell2 (b:=n1 + 1) (o:=0) Tryz.results73 rfl rfl H13 (fL _) agg25 size25 rfl ⟨by rw [hb.out,e1,←qf5.out];rfl,C.r0⟩
   ·have ho:=hd hq
    clear hq
    repeat ((fail_if_success with_reducible refine sl 25 ?_);first | go_step | dsimp only)
    refine wL (b:=n2) (o:=0) rfl H11 (fL _) agg25 size25 ?_
    simp only [Act.put,iA,iB,iC]
    go_wp2_with fail
    refine (odd_n ho).mono ?_
    rintro e W ⟨rfl,hb⟩
    replace C:=C.trans (Chg.of_below hb)
    replace HE:=HE.later hb
    replace HI:=HI.later hb
    replace H3:=H3.later hb
    replace H4:=H4.later hb
    replace H11:=H11.later hb
    clear hb
    go_wp2_with fail
    obtain ⟨f4,qf4⟩:∃ g:F,g = f3 * f3:=⟨_,rfl⟩
    replace qf4:=hd qf4
    refine region_rs 7 (n1 + 1) 16 (fl f3) (by kernel_rfl) (by kernel_rfl) (by kernel_rfl)
     (fun i v W=>match i with
      | 0=>v = .agg (fl f3).toArray
      | 1=>v = .agg (fl f3).toArray
      | 2=>v = .agg (fl f3).toArray
      | 3=>v = .agg (fl f4).toArray
      | 4=>v = .agg (fl x).toArray
      | 5=>v = .bool (decide (f4 = x))
      | 6=>Has W (n1 + 1) 0 (fl f3)
      | _=>True) ?_ ?_ ?_
    ·intro i v u u' h hb
     split at h
     ·exact h
     ·exact h
     ·exact h
     ·exact h
     ·exact h
     ·exact h
     ·exact hb.2 h
     ·trivial
    ·simp only [List.take_succ_cons,List.take_zero,heads]
     refine ⟨?_,?_,?_,?_,?_,?_,?_,trivial⟩
     ·intro a W1 hR hun hdep
      have t6:=hun 6 (by simp)
      simp at t6
      clear hun hdep
      exact opw_load (b:=n2) (o:=0) (gd t6) (RS.keep hR H11 (by omega)) (fL _) agg25 size25 ⟨_,rfl,RS.refl _ _ _ _,rfl⟩
     ·intro a W1 hR hun hdep
      have t6:=hun 6 (by simp)
      simp at t6
      clear hun hdep
      exact opw_load (b:=n2) (o:=0) (gd t6) (RS.keep hR H11 (by omega)) (fL _) agg25 size25 ⟨_,rfl,RS.refl _ _ _ _,rfl⟩
     ·intro a W1 hR hun hdep
      have t6:=hun 6 (by simp)
      simp at t6
      clear hun hdep
      exact opw_load (b:=n2) (o:=0) (gd t6) (RS.keep hR H11 (by omega)) (fL _) agg25 size25 ⟨_,rfl,RS.refl _ _ _ _,rfl⟩
     ·intro a W1 hR hun hdep
      have d23:=hdep ⟨1,.data⟩ (by simp) rfl
      simp [slotOf] at d23
      have d24:=hdep ⟨2,.data⟩ (by simp) rfl
      simp [slotOf] at d24
      clear hun hdep
      go_simp
      refine (mul_v qf4).mono ?_
      rintro e W2 ⟨rfl,hb⟩
      first | exact RS.of_below hb | exact ⟨RS.of_below hb,rfl⟩ | exact ⟨rfl,RS.of_below hb⟩
     ·intro a W1 hR hun hdep
      have t3:=hun 3 (by simp)
      simp at t3
      clear hun hdep
      exact opw_load (b:=n1) (o:=0) (gd t3) (RS.keep hR H3 (by omega)) (fL _) agg25 size25 ⟨_,rfl,RS.refl _ _ _ _,rfl⟩
     ·intro a W1 hR hun hdep
      have d25:=hdep ⟨3,.data⟩ (by simp) rfl
      simp [slotOf] at d25
      have d26:=hdep ⟨4,.data⟩ (by simp) rfl
      simp [slotOf] at d26
      clear hun hdep
      exact Blind.wp (blind_eql (u:=f4) (v:=x) (gd d25) (gd d26)) ⟨_,rfl,RS.refl _ _ _ _,rfl⟩
     ·intro a W1 hR hun hdep
      have t4:=hun 4 (by simp)
      simp at t4
      have d22:=hdep ⟨0,.data⟩ (by simp) rfl
      simp [slotOf] at d22
      clear hun hdep
      exact opw_store (b:=n1 + 1) (o:=0) (gd t4) (gd d22) (RS.room hR H4) (fL _) (fl_one _) size25 ⟨undef,rfl,RS.store (RS.room hR H4) (fL _)⟩
    ·intro vs W1 hR hv
     simp only [List.take_succ_cons,List.take_zero,List.drop_succ_cons,List.drop_zero,heads,Option.isSome_some,if_true] at hv ⊢
     obtain ⟨v0,v1,v2,v3,v4,v5,v6,-⟩:=hv
     simp only [finL,Act.put,v0,v1,v2,v3,v4,v5]
     simp only [iA,iB,iC]
     replace HE:=RS.keep hR HE (by omega)
     replace HI:=RS.keep hR HI (by omega)
     replace H3:=RS.keep hR H3 (by omega)
     clear H4
     replace H11:=RS.keep hR H11 (by omega)
     replace C:=(C.drew).loc hR.1 (by omega)
     have H12:=v6
     clear hR v0 v1 v2 v3 v4 v5 v6
     refine pG (fun W=>Chg R0 w W∧Has W be 0 (nl E3)∧Has W bi 0 (fl spI)∧Has W n1 0 (fl x)∧Has W n2 0 (fl f3)∧Has W (n1 + 1) 0 (fl f3)) ⟨C,HE,HI,H3,H11,H12⟩ ?_
     clear C HE HI H3 H11 H12
     rintro W ⟨C,HE,HI,H3,H11,H12⟩
     go_wp2_with fail
     have e1:f = f3:=by rw [hf.out,(rtF_of (by rw [qf3.out];exact rt1_n qf1.out (by rw [←qf2.out];exact hc.out)) |>.2 ho.out)]
     exact ret_cell2 (b:=n1 + 1) (o:=0) Tryz.results73 rfl rfl H12 (fL _) agg25 size25 rfl ⟨by rw [hb.out,e1,←qf4.out];rfl,C.r0⟩
end Go.Proofs.Ed
