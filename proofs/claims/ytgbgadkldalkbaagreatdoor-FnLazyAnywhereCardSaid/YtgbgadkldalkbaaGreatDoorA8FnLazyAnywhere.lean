/- Part 8 of the proof of the law FnLazyAnywhere: for every input the law returns true, the inputs read as they did, and memory that was there is as it was; under the conditions of the given row alone. -/
import Derived.Test.YtgbgadkldalkbaaGreatDoorCards
import Derived.Test.YtgbgadkldalkbaaGreatDoorTie
import Derived.WalkKit
import Derived.ProofKit
import Derived.OpenShut
import Derived.ShutString
import Derived.ChangeMaps5
import Derived.Lay
import Derived.JoinedOf
import Derived.ChangeVars
import Derived.SevenTiedAt
import Derived.MakeChecks
import Derived.ShapedOpen
import Derived.Test.YtgbgadkldalkbaaGreatDoorA7
set_option linter.all false
set_option linter.unusedVariables false
namespace Go.Proofs.YtgbgadkldalkbaaGreatDoor.fnLazyAnywhere
open Go.Proofs Go.ChangeShapes Go.WideShapes Go.ChangeAt Go.RowKit Go.ChangeMaps
theorem laidOut : laidOutB Tryz.prog = true := by kernel_rfl
theorem own : ownKnob Tryz.prog.godebug = none := by kernel_rfl
set_option maxRecDepth 100000 in
theorem lifted (os : Os) (started : os.Started) (H : Type) (enc : TypeId × Value → H) :
 ReturnsInHanded {} Tryz.checked os 6 .any (fun w args => (Rows.fnLazyAnywhereSpec.pre enc Tryz.prog Tryz.f6 Rows.fnLazyAnywhereRow.domain false w args ∧ laidMetH Tryz.prog Rows.fnLazyAnywhereRow.laid w) ∧ sizedMet enc Tryz.prog Tryz.f6 (OpenSpec.ofChange Rows.fnLazyAnywhereSpec) false w args)
  (Rows.fnLazyAnywhereSpec.post enc Tryz.prog Tryz.f6 false true false false) := by
 refine returnsInHanded_of_change_and (C := Tryz.checked) (X := fun w _ => laidMetH Tryz.prog Rows.fnLazyAnywhereRow.laid w) (fun _ _ _ hh h => h.of_heap hh) own started (by kernel_rfl) Tryz.func6
  (ChangeSpec.witness_shaped (enc := enc) (C := Tryz.checked) (os := os) (X := fun w _ => laidMetH Tryz.prog Rows.fnLazyAnywhereRow.laid w) false (World.laidAll Tryz.prog os Rows.fnLazyAnywhereRow.laid) #[.slice none 0 0, .slice none 0 0, .slice none 0 0] 8 (World.laidAll_os _ _ _)
   (World.shaped_of_ZipB (by kernel_rfl) (by kernel_rfl)) (by kernel_rfl) (by kernel_rfl) (by kernel_rfl)
   (by rw [MakeChecks.laidMetH_plain _ _ _ (by kernel_rfl)]; exact laidMet_laidAll _ (by kernel_rfl) (by kernel_rfl))) ?_
 intro W base args ds gs before hval0 hW hc _ hL _
 have hval : ∀ (j : Nat) t v, Tryz.f6.params[j]? = some t → args[j]? = some v → Value.okWide Tryz.prog W .any base t v := hval0
 have hW' := hW
 obtain ⟨p, q, hA0, hV, rfl, _, _⟩ := hW
 have hA : DataW.TrodAll enc Tryz.prog W 0 (fun _ => true) true Tryz.f6.params.toList args.toList ds p := hA0
 rw [Tryz.params6] at hA hval
 obtain ⟨v0, vs0, d0, ds0, p0, q0, hargs0, rfl, rfl, h0, r0⟩ := trodAll_cons hA
 obtain ⟨v1, vs1, d1, ds1, p1, q1, hargs1, rfl, rfl, h1, r1⟩ := trodAll_cons r0
 obtain ⟨v2, vs2, d2, ds2, p2, q2, hargs2, rfl, rfl, h2, r2⟩ := trodAll_cons r1
 obtain ⟨hvs, rfl, rfl⟩ := trodAll_nil r2
 obtain rfl : args = #[v0, v1, v2] := by cases args; simp_all
 obtain ⟨rfl, rfl⟩ := trodVars_none hV
 have hk0 := h0
 obtain ⟨sq0, sn0, sc0, ls0, rfl, hs0⟩ := open_sarg Tryz.underlying40 Tryz.underlying9 (by kernel_rfl) (hval 0 40 v0 rfl rfl) h0
 have hk1 := h1
 obtain ⟨sq1, sn1, sc1, ls1, rfl, hs1⟩ := open_larg Tryz.underlying36 Tryz.underlying4 (by kernel_rfl) (hval 1 36 v1 rfl rfl) h1
 have hk2 := h2
 obtain ⟨sq2, sn2, sc2, ls2, rfl, hs2⟩ := open_barg Tryz.underlying22 Tryz.underlying5 (by kernel_rfl) (hval 2 22 v2 rfl rfl) h2
 simp only [List.append_nil, List.nil_append] at hW'
 have walk : Calls Tryz.prog 6 #[.slice sq0 sn0 sc0, .slice sq1 sn1 sc1, .slice sq2 sn2 sc2] W fun e w' => e = .returned (.bool true) ∧ Sat (outOf W) w' (allBlocks W) :=
  callE_out Tryz.call6 (fnLazyAnywhere_ok hs0 hs1 hs2 (sat_init W) fun w' h => ⟨rfl, h⟩)
 refine walk.mono fun e W' ⟨he, hw⟩ => ?_
 subst he
 have stays0 := WideElems.Trod_stays (base := 0) (sp' := fun b => decide (b < W.heap.size)) laidOut (by kernel_rfl) (of_decide_eq_true (by kernel_rfl)) hk0 (fun x hx => same_of_sat hw (by simpa using hW'.lt x (by simp [hx]))) (fun x hx => by simpa using hW'.lt x (by simp [hx]))
 have stays1 := WideElems.Trod_stays (base := 0) (sp' := fun b => decide (b < W.heap.size)) laidOut (by kernel_rfl) (of_decide_eq_true (by kernel_rfl)) hk1 (fun x hx => same_of_sat hw (by simpa using hW'.lt x (by simp [hx]))) (fun x hx => by simpa using hW'.lt x (by simp [hx]))
 have stays2 := WideElems.Trod_stays (base := 0) (sp' := fun b => decide (b < W.heap.size)) laidOut (by kernel_rfl) (of_decide_eq_true (by kernel_rfl)) hk2 (fun x hx => same_of_sat hw (by simpa using hW'.lt x (by simp [hx]))) (fun x hx => by simpa using hW'.lt x (by simp [hx]))
 exact ⟨_, rfl, _, _, _, [], _, [], hW', trodAll_cons_mk (shut_bool Tryz.underlying4 _) trodAll_mk0, trodAll_cons_mk (stays0) (trodAll_cons_mk (stays1) (trodAll_cons_mk (stays2) trodAll_mk0)), rfl, kept_of_sat hw _, fun h => by cases h⟩
theorem andB {a b : Bool} (h : a = true) (k : b = true) : (a && b) = true := by rw [h, k]; rfl
set_option maxHeartbeats 6400000 in
theorem closed : joinedFacts Tryz.pinned.checked.prog 6 Tryz.f6 Rows.fnLazyAnywhereSpec Rows.fnLazyAnywhereRow = true := by
 unfold joinedFacts
 repeat' (with_reducible refine andB ?_ ?_)
 all_goals (as_aux_lemma => kernel_rfl)
theorem said : Rows.FnLazyAnywhereSaid :=
 OpenClaim.holds_of_wide 6 Tryz.f6 rfl rfl rfl rfl rfl rfl rfl ⟨rfl, rfl, rfl, rfl, rfl⟩ rfl rfl rfl rfl rfl (by as_aux_lemma => kernel_rfl) Tryz.func6 closed
  (of_decide_eq_true (by kernel_rfl)) (by unfold Func.isWrapper; first | (rw [if_pos (by decide +kernel)]; kernel_rfl) | (rw [if_neg (by decide +kernel)]; exact ⟨rfl, rfl⟩))
  (fun os started H enc _ => lifted os started H enc)
theorem plain (f : FuncId) (fn : Func) (hf : Tryz.pinned.checked.prog.funcNamed "pub-paratext/laws.FnLazyAnywhere" = some f) (hfn : Tryz.pinned.checked.prog.funcs[f]? = some fn) :
 true = Tryz.pinned.checked.prog.looks [] ∧ ∀ (j : Nat) t, fn.params[j]? = some t → Tryz.pinned.checked.prog.wantsStandIn t = false := by
 obtain rfl : f = 6 := Option.some.inj ((show Tryz.prog.funcNamed "pub-paratext/laws.FnLazyAnywhere" = some 6 by kernel_rfl).symm.trans hf) |>.symm
 obtain rfl : fn = Tryz.f6 := (Option.some.inj (Tryz.func6.symm.trans hfn)).symm
 refine ⟨by kernel_rfl, fun j t ht => ?_⟩
 rw [Tryz.params6] at ht
 have hm : t ∈ [40, 36, 22] := by simpa using Array.mem_of_getElem? ht
 have hall : ([40, 36, 22].all fun u => !Tryz.prog.wantsStandIn u) = true := by kernel_rfl
 exact (show Tryz.prog.wantsStandIn t = false by simpa using List.all_eq_true.1 hall t hm)
theorem card_holds : Rows.FnLazyAnywhereCardSaid :=
 Claim7.holds_tied_plain_at .later [] [.data, .data, .data, .data, .sentinel, .sentinel, .data, .pinned] true (true, "f5ab134a7a32835e893a3712aa8a21049d6fa39dc2ba8da59add3fb8d26df578") true said (fun _ h => by cases h) (by kernel_rfl) (fun _ h => by cases h) fnLazyAnywhere_row_tie rfl ⟨rfl, rfl⟩ (by kernel_rfl) rfl plain (by kernel_rfl)
#print axioms card_holds
end Go.Proofs.YtgbgadkldalkbaaGreatDoor.fnLazyAnywhere

