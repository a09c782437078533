/- Part 5 of the proof of the law FnKeptTree: for every input the law returns true, the inputs read as they did, and memory that was there is as it was; under the conditions of the given row alone. -/
import Derived.Test.YtgbgadkldalkbaaGreatDoorCards
import Derived.Test.YtgbgadkldalkbaaGreatDoorTie
import Derived.WalkKit
import Derived.ProofKit
import Derived.OpenShut
import Derived.ShutString
import Derived.ChangeMaps5
import Derived.Lay
import Derived.JoinedOf
import Derived.ChangeVars
import Derived.SevenTiedAt
import Derived.MakeChecks
import Derived.ShapedOpen
import Derived.Test.YtgbgadkldalkbaaGreatDoorA4
set_option linter.all false
set_option linter.unusedVariables false
namespace Go.Proofs.YtgbgadkldalkbaaGreatDoor.fnKeptTree
open Go.Proofs Go.ChangeShapes Go.WideShapes Go.ChangeAt Go.RowKit Go.ChangeMaps
theorem laidOut : laidOutB Tryz.prog = true := by kernel_rfl
theorem own : ownKnob Tryz.prog.godebug = none := by kernel_rfl
set_option maxRecDepth 100000 in
theorem lifted (os : Os) (started : os.Started) (H : Type) (enc : TypeId × Value → H) :
 ReturnsInHanded {} Tryz.checked os 5 .any (fun w args => (Rows.fnKeptTreeSpec.pre enc Tryz.prog Tryz.f5 Rows.fnKeptTreeRow.domain false w args ∧ laidMetH Tryz.prog Rows.fnKeptTreeRow.laid w) ∧ sizedMet enc Tryz.prog Tryz.f5 (OpenSpec.ofChange Rows.fnKeptTreeSpec) false w args)
  (Rows.fnKeptTreeSpec.post enc Tryz.prog Tryz.f5 false true false false) := by
 refine returnsInHanded_of_change_and (C := Tryz.checked) (X := fun w _ => laidMetH Tryz.prog Rows.fnKeptTreeRow.laid w) (fun _ _ _ hh h => h.of_heap hh) own started (by kernel_rfl) Tryz.func5
  (ChangeSpec.witness_shaped (enc := enc) (C := Tryz.checked) (os := os) (X := fun w _ => laidMetH Tryz.prog Rows.fnKeptTreeRow.laid w) false (World.laidAll Tryz.prog os Rows.fnKeptTreeRow.laid) #[.int .u8 0, .slice none 0 0] 8 (World.laidAll_os _ _ _)
   (World.shaped_of_ZipB (by kernel_rfl) (by kernel_rfl)) (by kernel_rfl) (by kernel_rfl) (by kernel_rfl)
   (by rw [MakeChecks.laidMetH_plain _ _ _ (by kernel_rfl)]; exact laidMet_laidAll _ (by kernel_rfl) (by kernel_rfl))) ?_
 intro W base args ds gs before hval0 hW hc _ hL _
 have hval : ∀ (j : Nat) t v, Tryz.f5.params[j]? = some t → args[j]? = some v → Value.okWide Tryz.prog W .any base t v := hval0
 have hW' := hW
 obtain ⟨p, q, hA0, hV, rfl, _, _⟩ := hW
 have hA : DataW.TrodAll enc Tryz.prog W 0 (fun _ => true) true Tryz.f5.params.toList args.toList ds p := hA0
 rw [Tryz.params5] at hA hval
 obtain ⟨v0, vs0, d0, ds0, p0, q0, hargs0, rfl, rfl, h0, r0⟩ := trodAll_cons hA
 obtain ⟨v1, vs1, d1, ds1, p1, q1, hargs1, rfl, rfl, h1, r1⟩ := trodAll_cons r0
 obtain ⟨hvs, rfl, rfl⟩ := trodAll_nil r1
 obtain rfl : args = #[v0, v1] := by cases args; simp_all
 obtain ⟨rfl, rfl⟩ := trodVars_none hV
 obtain ⟨n0, rfl, rfl, rfl, wn0⟩ := open_int Tryz.underlying5 (hval 0 5 v0 rfl rfl) h0
 obtain ⟨m0, hm0, rfl⟩ := u8_of wn0
 have hk1 := h1
 obtain ⟨sq1, sn1, sc1, ls1, rfl, hs1⟩ := open_sarg Tryz.underlying40 Tryz.underlying9 (by kernel_rfl) (hval 1 40 v1 rfl rfl) h1
 simp only [List.append_nil, List.nil_append] at hW'
 have walk : Calls Tryz.prog 5 #[.int .u8 (m0 : Nat), .slice sq1 sn1 sc1] W fun e w' => e = .returned (.bool true) ∧ Sat (outOf W) w' (allBlocks W) :=
  callE_out Tryz.call5 (fnKeptTree_ok hm0 hs1 (sat_init W) fun w' h => ⟨rfl, h⟩)
 refine walk.mono fun e W' ⟨he, hw⟩ => ?_
 subst he
 have stays1 := WideElems.Trod_stays (base := 0) (sp' := fun b => decide (b < W.heap.size)) laidOut (by kernel_rfl) (of_decide_eq_true (by kernel_rfl)) hk1 (fun x hx => same_of_sat hw (by simpa using hW'.lt x (by simp [hx]))) (fun x hx => by simpa using hW'.lt x (by simp [hx]))
 exact ⟨_, rfl, _, _, _, [], _, [], hW', trodAll_cons_mk (shut_bool Tryz.underlying4 _) trodAll_mk0, trodAll_cons_mk (shut_int Tryz.underlying5 wn0) (trodAll_cons_mk (stays1) trodAll_mk0), rfl, kept_of_sat hw _, fun h => by cases h⟩
theorem andB {a b : Bool} (h : a = true) (k : b = true) : (a && b) = true := by rw [h, k]; rfl
set_option maxHeartbeats 6400000 in
theorem closed : joinedFacts Tryz.pinned.checked.prog 5 Tryz.f5 Rows.fnKeptTreeSpec Rows.fnKeptTreeRow = true := by
 unfold joinedFacts
 repeat' (with_reducible refine andB ?_ ?_)
 all_goals (as_aux_lemma => kernel_rfl)
theorem said : Rows.FnKeptTreeSaid :=
 OpenClaim.holds_of_wide 5 Tryz.f5 rfl rfl rfl rfl rfl rfl rfl ⟨rfl, rfl, rfl, rfl, rfl⟩ rfl rfl rfl rfl rfl (by as_aux_lemma => kernel_rfl) Tryz.func5 closed
  (of_decide_eq_true (by kernel_rfl)) (by unfold Func.isWrapper; first | (rw [if_pos (by decide +kernel)]; kernel_rfl) | (rw [if_neg (by decide +kernel)]; exact ⟨rfl, rfl⟩))
  (fun os started H enc _ => lifted os started H enc)
theorem plain (f : FuncId) (fn : Func) (hf : Tryz.pinned.checked.prog.funcNamed "pub-paratext/laws.FnKeptTree" = some f) (hfn : Tryz.pinned.checked.prog.funcs[f]? = some fn) :
 true = Tryz.pinned.checked.prog.looks [] ∧ ∀ (j : Nat) t, fn.params[j]? = some t → Tryz.pinned.checked.prog.wantsStandIn t = false := by
 obtain rfl : f = 5 := Option.some.inj ((show Tryz.prog.funcNamed "pub-paratext/laws.FnKeptTree" = some 5 by kernel_rfl).symm.trans hf) |>.symm
 obtain rfl : fn = Tryz.f5 := (Option.some.inj (Tryz.func5.symm.trans hfn)).symm
 refine ⟨by kernel_rfl, fun j t ht => ?_⟩
 rw [Tryz.params5] at ht
 have hm : t ∈ [5, 40] := by simpa using Array.mem_of_getElem? ht
 have hall : ([5, 40].all fun u => !Tryz.prog.wantsStandIn u) = true := by kernel_rfl
 exact (show Tryz.prog.wantsStandIn t = false by simpa using List.all_eq_true.1 hall t hm)
theorem card_holds : Rows.FnKeptTreeCardSaid :=
 Claim7.holds_tied_plain_at .later [] [.data, .data, .data, .data, .sentinel, .sentinel, .data, .pinned] true (true, "f5ab134a7a32835e893a3712aa8a21049d6fa39dc2ba8da59add3fb8d26df578") true said (fun _ h => by cases h) (by kernel_rfl) (fun _ h => by cases h) fnKeptTree_row_tie rfl ⟨rfl, rfl⟩ (by kernel_rfl) rfl plain (by kernel_rfl)
#print axioms card_holds
end Go.Proofs.YtgbgadkldalkbaaGreatDoor.fnKeptTree

