/- Part 7 of the proof of the law FnDeep: for every input the law returns true, the inputs read as they did, and memory that was there is as it was; under the conditions of the given row alone. -/
import Derived.Test.YtihmcipajjakgaaGreatDoorCards
import Derived.Test.YtihmcipajjakgaaGreatDoorTie
import Derived.WalkKit
import Derived.ProofKit
import Derived.OpenShut
import Derived.ShutString
import Derived.ChangeMaps5
import Derived.Lay
import Derived.JoinedOf
import Derived.ChangeVars
import Derived.SevenTiedAt
import Derived.MakeChecks
import Derived.ShapedOpen
import Derived.Test.YtihmcipajjakgaaGreatDoorA6
set_option linter.all false
set_option linter.unusedVariables false
namespace Go.Proofs.YtihmcipajjakgaaGreatDoor.fnDeep
open Go.Proofs Go.ChangeShapes Go.WideShapes Go.ChangeAt Go.RowKit Go.ChangeMaps
theorem laidOut : laidOutB Tryz.prog = true := by kernel_rfl
theorem own : ownKnob Tryz.prog.godebug = none := by kernel_rfl
set_option maxRecDepth 100000 in
theorem lifted (os : Os) (started : os.Started) (H : Type) (enc : TypeId × Value → H) :
    ReturnsInHanded {} Tryz.checked os 5 .any (fun w args => (Rows.fnDeepSpec.pre enc Tryz.prog Tryz.f5 Rows.fnDeepRow.domain false w args ∧ laidMetH Tryz.prog Rows.fnDeepRow.laid w) ∧ sizedMet enc Tryz.prog Tryz.f5 (OpenSpec.ofChange Rows.fnDeepSpec) false w args)
      (Rows.fnDeepSpec.post enc Tryz.prog Tryz.f5 false true false false) := by
  refine returnsInHanded_of_change_and (C := Tryz.checked) (X := fun w _ => laidMetH Tryz.prog Rows.fnDeepRow.laid w) (fun _ _ _ hh h => h.of_heap hh) own started (by kernel_rfl) Tryz.func5
    (ChangeSpec.witness_shaped (enc := enc) (C := Tryz.checked) (os := os) (X := fun w _ => laidMetH Tryz.prog Rows.fnDeepRow.laid w) false (World.laidAll Tryz.prog os Rows.fnDeepRow.laid) #[.slice none 0 0] 8 (World.laidAll_os _ _ _)
      (World.shaped_of_ZipB (by kernel_rfl) (by kernel_rfl)) (by kernel_rfl) (by kernel_rfl) (by kernel_rfl)
      (by rw [MakeChecks.laidMetH_plain _ _ _ (by kernel_rfl)]; exact laidMet_laidAll _ (by kernel_rfl) (by kernel_rfl))) ?_
  intro W base args ds gs before hval0 hW hc _ hL _
  have hval : ∀ (j : Nat) t v, Tryz.f5.params[j]? = some t → args[j]? = some v → Value.okWide Tryz.prog W .any base t v := hval0
  have hW' := hW
  obtain ⟨p, q, hA0, hV, rfl, _, _⟩ := hW
  have hA : DataW.TrodAll enc Tryz.prog W 0 (fun _ => true) true Tryz.f5.params.toList args.toList ds p := hA0
  rw [Tryz.params5] at hA hval
  obtain ⟨v0, d0, rfl, rfl, h0⟩ := trodAll_one hA
  obtain ⟨rfl, rfl⟩ := trodVars_none hV
  have hk0 := h0
  obtain ⟨sq0, sn0, sc0, ls0, rfl, hs0⟩ := open_larg Tryz.underlying35 Tryz.underlying4 (by kernel_rfl) (hval 0 35 v0 rfl rfl) h0
  simp only [List.append_nil] at hW'
  have walk : Calls Tryz.prog 5 #[.slice sq0 sn0 sc0] W fun e w' => e = .returned (.bool true) ∧ Sat (outOf W) w' (allBlocks W) :=
    callE_out Tryz.call5 (fnDeep_ok hs0 (sat_init W) fun w' h => ⟨rfl, h⟩)
  refine walk.mono fun e W' ⟨he, hw⟩ => ?_
  subst he
  have stays0 := WideElems.Trod_stays (base := 0) (sp' := fun b => decide (b < W.heap.size)) laidOut (by kernel_rfl) (of_decide_eq_true (by kernel_rfl)) hk0 (fun x hx => same_of_sat hw (by simpa using hW'.lt x (by simp [hx]))) (fun x hx => by simpa using hW'.lt x (by simp [hx]))
  exact ⟨_, rfl, _, _, _, [], _, [], hW', trodAll_mk1 (shut_bool Tryz.underlying4 _), trodAll_mk1 (stays0), rfl, kept_of_sat hw _, fun h => by cases h⟩
theorem andB {a b : Bool} (h : a = true) (k : b = true) : (a && b) = true := by rw [h, k]; rfl
set_option maxHeartbeats 6400000 in
theorem closed : joinedFacts Tryz.pinned.checked.prog 5 Tryz.f5 Rows.fnDeepSpec Rows.fnDeepRow = true := by
  unfold joinedFacts
  repeat' (with_reducible refine andB ?_ ?_)
  all_goals (as_aux_lemma => kernel_rfl)
theorem said : Rows.FnDeepSaid :=
  OpenClaim.holds_of_wide 5 Tryz.f5 rfl rfl rfl rfl rfl rfl rfl ⟨rfl, rfl, rfl, rfl, rfl⟩ rfl rfl rfl rfl rfl (by as_aux_lemma => kernel_rfl) Tryz.func5 closed
    (of_decide_eq_true (by kernel_rfl)) (by unfold Func.isWrapper; first | (rw [if_pos (by decide +kernel)]; kernel_rfl) | (rw [if_neg (by decide +kernel)]; exact ⟨rfl, rfl⟩))
    (fun os started H enc _ => lifted os started H enc)
theorem plain (f : FuncId) (fn : Func) (hf : Tryz.pinned.checked.prog.funcNamed "pub-paratext/laws.FnDeep" = some f) (hfn : Tryz.pinned.checked.prog.funcs[f]? = some fn) :
    true = Tryz.pinned.checked.prog.looks [] ∧ ∀ (j : Nat) t, fn.params[j]? = some t → Tryz.pinned.checked.prog.wantsStandIn t = false := by
  obtain rfl : f = 5 := Option.some.inj ((show Tryz.prog.funcNamed "pub-paratext/laws.FnDeep" = some 5 by kernel_rfl).symm.trans hf) |>.symm
  obtain rfl : fn = Tryz.f5 := (Option.some.inj (Tryz.func5.symm.trans hfn)).symm
  refine ⟨by kernel_rfl, fun j t ht => ?_⟩
  rw [Tryz.params5] at ht
  have hm : t ∈ [35] := by simpa using Array.mem_of_getElem? ht
  have hall : ([35].all fun u => !Tryz.prog.wantsStandIn u) = true := by kernel_rfl
  exact (show Tryz.prog.wantsStandIn t = false by simpa using List.all_eq_true.1 hall t hm)
theorem card_holds : Rows.FnDeepCardSaid :=
  Claim7.holds_tied_plain_at .later [] [.data, .data, .data, .data, .sentinel, .sentinel, .data, .pinned] true (true, "4b91f1ee749023fd45c988ff08afc56fd869f341644e989b4d09f5589a277338") true said (fun _ h => by cases h) (by kernel_rfl) (fun _ h => by cases h) fnDeep_row_tie rfl ⟨rfl, rfl⟩ (by kernel_rfl) rfl plain (by kernel_rfl)
#print axioms card_holds
end Go.Proofs.YtihmcipajjakgaaGreatDoor.fnDeep

