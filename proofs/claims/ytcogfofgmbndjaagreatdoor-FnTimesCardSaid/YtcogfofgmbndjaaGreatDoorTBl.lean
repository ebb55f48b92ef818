/- A part of the proof of the tied card of FnTimes: Rw. -/
import Derived.Test.YtcogfofgmbndjaaGreatDoorRows
import Derived.ProofKit
import Derived.LaidMore
import Derived.OpenShut
import Derived.Stop.Joined
import Derived.Test.YtcogfofgmbndjaaGreatDoorTBk
set_option maxRecDepth 100000
set_option maxHeartbeats 40000000
namespace Go.Proofs.YtcogfofgmbndjaaGreatDoor
open Go.ChangeShapes Go.WideShapes Go.ChangeAt Go.RowKit Go.Proofs.Ed
theorem Tryz.own:ownKnob Tryz.prog.godebug = none:=by kernel_rfl
theorem Tryz.laidOut:laidOutB Tryz.prog = true:=by kernel_rfl
theorem cells5:Tryz.prog.cellsOf 5 = 1:=by kernel_rfl
theorem cells99:Tryz.prog.cellsOf 99 = 32:=by kernel_rfl
theorem gS : Tryz.prog.globalNamed "curveandscalars/pub/edwards.scalarMinusOneBytes" = some 0 := by kernel_rfl
theorem tS:(Tryz.prog.globals[0]?).map (·.type) = some 99:=by kernel_rfl
abbrev laidS : List (String × DataW Unit) := [("curveandscalars/pub/edwards.scalarMinusOneBytes", Rows.laid_curveandscalars_pub_edwards_scalarMinusOneBytes)]
theorem door_met (os:Os) (args:Array Value):laidMetH Tryz.prog laidS ((World.doorLaid Tryz.prog 400 os).forCall (fun _ _=>0) ⟨#[],args,[]⟩).memory :=
 laidMetH_of_parts3 (fuel:=8) (laidMet_of_run' 8 (by kernel_rfl) (by kernel_rfl)) (by kernel_rfl) (by kernel_rfl)
def lits99:List Int:=[236,211,245,92,26,99,18,88,214,156,247,162,222,249,222,20,0,0,0,0,0,0,0,0,0,0,0,0,0,0,0,16]
theorem lits99_by:by8 6346243789798364140 ++ by8 1503914060200516822 ++ by8 0 ++ by8 1152921504606846976 = lits99.map (.int .u8):=by kernel_rfl
theorem lm_of {W:World} (h:laidMetH Tryz.prog laidS W):Lm W:=by
 rw [MakeChecks.laidMetH_plain _ _ _ (by kernel_rfl)] at h
 obtain ⟨ps,⟨g0,t0,cs0,f0,p0,q0,hg0,ht0,hv0,hd0,_,hps⟩,_,hz⟩:=h
 obtain rfl:=Option.some.inj (gS.symm.trans hg0)
 obtain rfl:=Option.some.inj (tS.symm.trans ht0)
 obtain ⟨xs,m1,_,hx,hlen,hn,hel⟩:=DataW.trod_array Tryz.underlying99 hd0
 rw [cells99] at hlen
 rw [cells5] at hel
 have hx1:lits99.map (fun k=>DataW.lit (.int .u8 k)) = xs.map (·.1):=by
  have:=(Prod.mk.inj hx).1
  exact DataW.agg.inj this
 have hsz:cs0.size = 32:=by rw [←Array.length_toList];exact hlen
 obtain ⟨⟨c,t,hobj⟩,-⟩:=hz 0 0 (by rw [hps,hsz];exact List.mem_append.2 (.inl (List.mem_append.2 (.inl (MemPlace.mem_row.2 ⟨0,by decide,rfl⟩)))))
 unfold Lm
 rw [lits99_by]
 intro i hi
 have hi32:i < 32:=by simpa [lits99] using hi
 have h1:=hel i hi32
 rw [Nat.mul_one] at h1
 obtain ⟨y,hy⟩:∃ y,xs[i]? = some y:=⟨xs[i]'(by omega),List.getElem?_eq_getElem (by omega)⟩
 rw [hy] at h1
 obtain ⟨k,e1,e2,_⟩:=DataW.trod_int Tryz.underlying5 h1
 have e3:=congrArg (fun l=>l[i]?) hx1
 simp only [List.getElem?_map,hy,e2,Option.map_some] at e3
 have e4:lits99[i]? = some k:=by
  cases hk:lits99[i]? with
  | none=>rw [hk] at e3;cases e3
  | some z=>rw [hk] at e3;simp at e3;rw [e3]
 have e5:cs0.toList[i]? = some (.int .u8 k):=by
  have:=congrArg (fun l=>l[0]?) e1
  simpa [List.getElem?_take,List.getElem?_drop] using this
 rw [List.getElem?_map,e4]
 refine ⟨?_,?_⟩
 ·rw [World.var?_cell gS hv0,Nat.zero_add,←Array.getElem?_toList,e5];rfl
 ·rw [frozen_of_obj hobj];simp
theorem arg_of {H:Type} {enc:TypeId × Value→H} {W:World} {a0:Option Addr} {len cap:Nat} {d0:DataW H} {p:List MemPlace}
  (h0:DataW.Trod enc Tryz.prog W 0 (fun _=>true) true 22 (.slice a0 len cap) d0 p):∃ f,Arg W a0 len f:=by
 obtain ⟨fuel,hf⟩:=h0
 rcases open_ints Tryz.underlying22 Tryz.underlying5 cells5 hf with ⟨hcs,hx⟩ | ⟨a,len',cap',zs,hcs,_,hl,hm,hz,hx,hcell,hwz⟩
 ·simp [Value.cells] at hcs
  obtain ⟨rfl,rfl,rfl⟩:=hcs
  exact ⟨fun _=>0,fun _=>Nat.zero_lt_succ _,fun _ _=>rfl,fun h=>absurd h (Nat.lt_irrefl 0)⟩
 ·simp [Value.cells] at hcs
  obtain ⟨rfl,rfl,rfl⟩:=hcs
  simp only [if_true] at hz
  have hb:∀ i,i < zs.length→0 ≤ zs.getD i 0∧zs.getD i 0 < 256:=fun i hi=>by
   have:=hwz (zs.getD i 0) (by rw [List.getD_eq_getElem?_getD,List.getElem?_eq_getElem hi];exact List.getElem_mem _)
   have h1:IntKind.u8.min = 0:=rfl
   have h2:IntKind.u8.max = 255:=rfl
   simp only [Lit.wf,Bool.and_eq_true,decide_eq_true_eq] at this
   omega
  refine ⟨fun j=>if j < len then (zs.getD j 0).toNat else 0,fun j=>?_,fun j hj=>if_neg (by omega),fun hL=>?_⟩
  ·show (if j < len then (zs.getD j 0).toNat else 0) < 256
   split
   ·have:=hb j (by omega);omega
   ·decide
  ·have h0:=hcell 0 (by omega)
   obtain ⟨b,o,s⟩:=a
   obtain rfl:s = none:=by simpa [Addr.add] using World.cell?_spot h0
   refine ⟨b,o,rfl,fun i hi=>?_⟩
   have h1:=hcell i (by omega)
   have h2:=hb i (by omega)
   rw [WideShapes.add_plain] at h1
   rw [h1]
   show _ = some (Value.int .u8 ((if i < len then (zs.getD i 0).toNat else 0:Nat):Int))
   rw [if_pos hi,Int.toNat_of_nonneg h2.1]
theorem fnTimes_lifted (os:Os) (started:os.Started) (H:Type) (enc:TypeId × Value→H) :
  ReturnsInHanded {} Tryz.checked os 3 .any (fun w args=>(Rows.fnTimesSpec.pre enc Tryz.prog Tryz.f3 [] false w args∧laidMetH Tryz.prog laidS w)∧sizedMet enc Tryz.prog Tryz.f3 (OpenSpec.ofChange Rows.fnTimesSpec) false w args)
   (Rows.fnTimesSpec.post enc Tryz.prog Tryz.f3 false true false false):=by
 refine returnsInHanded_of_change_and (C:=Tryz.checked) (X:=fun w _=>laidMetH Tryz.prog laidS w) (fun _ _ _ hh h=>h.of_heap hh) Tryz.own started (by kernel_rfl) Tryz.func3
  (ChangeSpec.witness_shaped (enc:=enc) (C:=Tryz.checked) (os:=os) (X:=fun w _=>laidMetH Tryz.prog laidS w) false (World.doorLaid Tryz.prog 400 os) #[.slice none 0 0,.slice none 0 0,.slice none 0 0] 8 rfl (World.shaped_of_RefB (by kernel_rfl) (by kernel_rfl)) (by kernel_rfl) (by kernel_rfl) (by kernel_rfl) (door_met os _)) ?_
 intro W base args ds gs before hval0 hW _ _ hL _
 have hval:∀ (j:Nat) t v,Tryz.f3.params[j]? = some t→args[j]? = some v→Value.okWide Tryz.prog W .any base t v:=hval0
 have hW':=hW
 obtain ⟨p,q,hA0,hV,rfl,hfz,hnd⟩:=hW
 have hA:DataW.TrodAll enc Tryz.prog W 0 (fun _=>true) true Tryz.f3.params.toList args.toList ds p:=hA0
 rw [Tryz.params3] at hA hval
 obtain ⟨v0,v1,v2,d0,d1,d2,p0,p1,p2,rfl,rfl,rfl,h0,h1,h2⟩:=trodAll_three hA
 obtain ⟨rfl,rfl⟩:=trodVars_none hV
 obtain ⟨a0,len0,cap0,rfl⟩:=okWide_slice Tryz.underlying22 (hval 0 22 v0 rfl rfl)
 obtain ⟨a1,len1,cap1,rfl⟩:=okWide_slice Tryz.underlying22 (hval 1 22 v1 rfl rfl)
 obtain ⟨a2,len2,cap2,rfl⟩:=okWide_slice Tryz.underlying22 (hval 2 22 v2 rfl rfl)
 clear hA0 hval0
 simp only [List.append_nil] at hW'
 obtain ⟨f0,A0⟩:=arg_of h0
 obtain ⟨f1,A1⟩:=arg_of h1
 obtain ⟨f2,A2⟩:=arg_of h2
 have hlt:∀ x ∈ p0 ++ p1 ++ p2,x.block < W.heap.size:=fun x hx=>by simpa using hW'.lt x (by simpa using hx)
 refine (fnTimes_c (c1:=cap0) (c2:=cap1) (c3:=cap2) A0 A1 A2 (lm_of hL)).mono fun e W' ⟨he,hw⟩=>?_
 subst he
 have harg0:DataW.Trod enc Tryz.prog W' 0 (fun b=>decide (b < W.heap.size)) true 22 (.slice a0 len0 cap0) d0 p0 :=
  Below.trod Tryz.laidOut (by kernel_rfl) (of_decide_eq_true (by kernel_rfl)) h0 hw (fun x hx=>hlt x (by simp [hx]))
 have harg1:DataW.Trod enc Tryz.prog W' 0 (fun b=>decide (b < W.heap.size)) true 22 (.slice a1 len1 cap1) d1 p1 :=
  Below.trod Tryz.laidOut (by kernel_rfl) (of_decide_eq_true (by kernel_rfl)) h1 hw (fun x hx=>hlt x (by simp [hx]))
 have harg2:DataW.Trod enc Tryz.prog W' 0 (fun b=>decide (b < W.heap.size)) true 22 (.slice a2 len2 cap2) d2 p2 :=
  Below.trod Tryz.laidOut (by kernel_rfl) (of_decide_eq_true (by kernel_rfl)) h2 hw (fun x hx=>hlt x (by simp [hx]))
 refine ⟨_,rfl,_,_,_,[],_,[],hW',?_,trodAll_mk3 harg0 harg1 harg2,rfl,hw.frame _,fun h=>by cases h⟩
 exact trodAll_mk1 (shut_bool Tryz.underlying4 _)
theorem fnTimes_holds:Rows.FnTimesSaid :=
 OpenClaim.holds_of_wide 3 Tryz.f3 rfl rfl rfl rfl rfl rfl rfl ⟨rfl,rfl,rfl,rfl,rfl⟩ rfl rfl rfl rfl rfl (by kernel_rfl) Tryz.func3 (by kernel_rfl)
  (of_decide_eq_true (by kernel_rfl)) (by unfold Func.isWrapper;first | (rw [if_pos (by decide +kernel)];kernel_rfl) | (rw [if_neg (by decide +kernel)];exact ⟨rfl,rfl⟩))
  (fun os started H enc _=>fnTimes_lifted os started H enc)
end Go.Proofs.YtcogfofgmbndjaaGreatDoor
