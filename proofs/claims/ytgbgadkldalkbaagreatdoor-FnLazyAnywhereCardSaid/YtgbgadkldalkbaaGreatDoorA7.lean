/- Part 7 of the proof of the law FnLazyAnywhere: for every input the law returns true, the inputs read as they did, and memory that was there is as it was; under the conditions of the given row alone. -/
import Derived.Deep.Slices
import Derived.ChangeArms
import Derived.Test.YtgbgadkldalkbaaGreatDoorA6
set_option linter.all false
set_option linter.unusedVariables false
namespace Go.Proofs.YtgbgadkldalkbaaGreatDoor
open Go.Proofs Go.ChangeShapes Go.WideShapes Go.Deep
theorem open_larg {P : Program} {H : Type} {enc : TypeId × Value → H} {W : World} {r : Reach} {b0 : Nat} {t e : TypeId} {v : Value} {d : DataW H} {ps : List MemPlace} (ht : P.underlying t = some (.slice e)) (he : P.underlying e = some .bool) (hc : P.cellsOf e = 1)
 (hval : Value.okWide P W r b0 t v) (h : DataW.Trod enc P W 0 (fun _ => true) true t v d ps) : ∃ q n c vs, v = .slice q n c ∧ LArg (outOf W) (allBlocks W) q n vs := by
 obtain ⟨a0, len, cap, rfl⟩ := okWide_slice ht hval
 obtain ⟨fuel, hf⟩ := h
 rcases open_slice1 ht hc hf with ⟨hcs, hx⟩ | ⟨a, len', cap', m, n, V, D, Pl, hcs, _, hl, hm, hz, hx, hcell⟩
 ·simp [Value.cells] at hcs
  obtain ⟨rfl, rfl, rfl⟩ := hcs
  exact ⟨none, 0, 0, [], rfl, ⟨rfl, fun i hi => by simp at hi⟩⟩
 ·simp [Value.cells] at hcs
  obtain ⟨rfl, rfl, rfl⟩ := hcs
  simp only [if_true] at hz
  refine ⟨some a, len, cap, (List.range len).map fun i => match V i with | .bool k => k | _ => false, rfl, ⟨by simp, fun i hi => ?_⟩⟩
  simp only [List.length_map, List.length_range] at hi
  refine ⟨a, rfl, fun w hw => ?_⟩
  obtain ⟨h1, h2⟩ := hcell i (by omega)
  obtain ⟨k, h3, _⟩ := DataW.trod_bool he h2
  have h5 : V i = .bool k := (List.cons.inj h3).1
  rw [cell_of_sat hw h1, List.getElem_map, List.getElem_range, h5]
end Go.Proofs.YtgbgadkldalkbaaGreatDoor


set_option linter.unusedVariables false
namespace Go.Proofs.YtgbgadkldalkbaaGreatDoor
open Go.Proofs Go.ChangeShapes Go.WideShapes Go.Deep
theorem open_barg {P : Program} {H : Type} {enc : TypeId × Value → H} {W : World} {r : Reach} {b0 : Nat} {t e : TypeId} {v : Value} {d : DataW H} {ps : List MemPlace} (ht : P.underlying t = some (.slice e)) (he : P.underlying e = some (.int .u8)) (hc : P.cellsOf e = 1)
 (hval : Value.okWide P W r b0 t v) (h : DataW.Trod enc P W 0 (fun _ => true) true t v d ps) : ∃ q n c vs, v = .slice q n c ∧ BArg (outOf W) (allBlocks W) q n vs := by
 obtain ⟨a0, len, cap, rfl⟩ := okWide_slice ht hval
 obtain ⟨fuel, hf⟩ := h
 rcases open_slice1 ht hc hf with ⟨hcs, hx⟩ | ⟨a, len', cap', m, n, V, D, Pl, hcs, _, hl, hm, hz, hx, hcell⟩
 ·simp [Value.cells] at hcs
  obtain ⟨rfl, rfl, rfl⟩ := hcs
  exact ⟨none, 0, 0, [], rfl, ⟨rfl, fun i hi => by simp at hi⟩⟩
 ·simp [Value.cells] at hcs
  obtain ⟨rfl, rfl, rfl⟩ := hcs
  simp only [if_true] at hz
  refine ⟨some a, len, cap, (List.range len).map fun i => match V i with | .int _ n => UInt8.ofNat n.toNat | _ => 0, rfl, ⟨by simp, fun i hi => ?_⟩⟩
  simp only [List.length_map, List.length_range] at hi
  refine ⟨a, rfl, fun w hw => ?_⟩
  obtain ⟨h1, h2⟩ := hcell i (by omega)
  obtain ⟨k, h3, _, h4⟩ := DataW.trod_int he h2
  have h5 : V i = .int .u8 k := (List.cons.inj h3).1
  obtain ⟨j, hj, rfl⟩ := u8_of h4
  rw [cell_of_sat hw h1, List.getElem_map, List.getElem_range, h5]
  simp
  omega
end Go.Proofs.YtgbgadkldalkbaaGreatDoor

