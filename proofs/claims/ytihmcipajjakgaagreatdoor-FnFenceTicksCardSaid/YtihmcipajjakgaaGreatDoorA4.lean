/- Part 4 of the proof of the law FnFenceTicks: for every input the law returns true, the inputs read as they did, and memory that was there is as it was; under the conditions of the given row alone. -/
import Derived.Lib.UnsafeStr
import Derived.Lib.BufferWrite
import Derived.Lib.BufferRead
import Derived.Laws.IdiomStrings
import Derived.Laws.MakeOwn
import Derived.Laws.Slices
import Derived.Shelf.Bytes.GrowSlice
import Derived.Laws.Externs
import Derived.Lib.Bytealg
import Derived.Lib.MakeNoZero
import Derived.Lib.Builder
import Derived.Test.YtihmcipajjakgaaGreatDoorA3
set_option linter.all false
set_option linter.unusedVariables false
set_option maxRecDepth 20000
namespace Go.Proofs.YtihmcipajjakgaaGreatDoor
open Go.Proofs
namespace g_bytes_Buffer_grow
noncomputable def body : Code := bodyOf Tryz.f236
def k3 (R : EP) (x0 : OA) (x1 : Int) (x5 : Int) (w : World) : Prop :=
 nilP x0 fun a44 =>
 stV w ((a44.add 1).add 0) (.int .i64 0) fun w45 =>
 nilP x0 fun a46 =>
 ∃ (v47q : OA), ∃ (v47n : Nat), ∃ (v47c : Nat), w45.cell? a46 = some (.slice v47q v47n v47c) ∧
 ∃ (r48q : OA), ∃ (r48n : Nat), ∃ (r48c : Nat), ∃ w49, (Instr.sliceAt ty_S_uint8 (.slice v47q v47n v47c) none (some (.int .i64 (IntKind.i64.wrap (x5 + x1)))) none).run P w45 = .ok (.slice r48q r48n r48c) w49 ∧
 nilP x0 fun a50 =>
 stV w49 (a50.add 0) (.slice r48q r48n r48c) fun w51 =>
 R (.returned (.int .i64 x5)) w51

def k2 (R : EP) (x0 : OA) (x1 : Int) (x5 : Int) (x38 : Bool) (w : World) : Prop :=
 br x38
 (∃ (r13q : OA), ∃ (r13n : Nat), ∃ (r13c : Nat), ∃ w14, (Instr.makeSlice ty_S_uint8 (.int .i64 x1) (.int .i64 64)).run P w = .ok (.slice r13q r13n r13c) w14 ∧
 nilP x0 fun a15 =>
 stV w14 (a15.add 0) (.slice r13q r13n r13c) fun w16 =>
 R (.returned (.int .i64 0)) w16)
 (nilP x0 fun a17 =>
 ∃ (v18q : OA), ∃ (v18n : Nat), ∃ (v18c : Nat), w.cell? a17 = some (.slice v18q v18n v18c) ∧
 ∃ (r19 : Int), ∃ w20, (Builtin.cap_ #[ty_S_uint8] ty_int #[.slice v18q v18n v18c]).run P w = .ok (.int .i64 r19) w20 ∧
 (2 : Int) ≠ 0 ∧
 br (decide (x1 ≤ (IntKind.i64.wrap ((IntKind.i64.wrap (Int.tdiv r19 2)) - x5))))
 (tk w20 fun w21 =>
 nilP x0 fun a22 =>
 nilP x0 fun a23 =>
 nilP x0 fun a24 =>
 ∃ (v25q : OA), ∃ (v25n : Nat), ∃ (v25c : Nat), w21.cell? a22 = some (.slice v25q v25n v25c) ∧
 ∃ (v26q : OA), ∃ (v26n : Nat), ∃ (v26c : Nat), w21.cell? a23 = some (.slice v26q v26n v26c) ∧
 ∃ (v27 : Int), w21.cell? (a24.add 1) = some (.int .i64 v27) ∧
 ∃ (r28q : OA), ∃ (r28n : Nat), ∃ (r28c : Nat), (∀ w, (Instr.sliceAt ty_S_uint8 (.slice v26q v26n v26c) (some (.int .i64 v27)) none none).run P w = .ok (.slice r28q r28n r28c) w) ∧
 ∃ (r29 : Int), ∃ w30, (Builtin.copy_ #[ty_S_uint8, ty_S_uint8] ty_int #[.slice v25q v25n v25c, .slice r28q r28n r28c]).run P w21 = .ok (.int .i64 r29) w30 ∧
 k3 R x0 x1 x5 w30)
 (br (decide (r19 > (IntKind.i64.wrap ((IntKind.i64.wrap (9223372036854775807 - r19)) - x1))))
 (∃ (v31 : Value), w20.cell? ⟨9, 0, none⟩ = some v31 ∧
 False)
 (tk w20 fun w32 =>
 nilP x0 fun a33 =>
 nilP x0 fun a34 =>
 nilP x0 fun a35 =>
 ∃ (v36q : OA), ∃ (v36n : Nat), ∃ (v36c : Nat), w32.cell? a33 = some (.slice v36q v36n v36c) ∧
 ∃ (v37 : Int), w32.cell? (a34.add 1) = some (.int .i64 v37) ∧
 ∃ (r38q : OA), ∃ (r38n : Nat), ∃ (r38c : Nat), (∀ w, (Instr.sliceAt ty_S_uint8 (.slice v36q v36n v36c) (some (.int .i64 v37)) none none).run P w = .ok (.slice r38q r38n r38c) w) ∧
 ∃ (v39 : Int), w32.cell? (a35.add 1) = some (.int .i64 v39) ∧
 callE P i_bytes_growSlice #[.slice r38q r38n r38c, .int .i64 (IntKind.i64.wrap (v39 + x1))] (fun e w41 => ∃ (r40q : OA), ∃ (r40n : Nat), ∃ (r40c : Nat), e = .returned (.slice r40q r40n r40c) ∧
 nilP x0 fun a42 =>
 stV w41 (a42.add 0) (.slice r40q r40n r40c) fun w43 =>
 k3 R x0 x1 x5 w43) w32)))

def k1 (R : EP) (x0 : OA) (x1 : Int) (x5 : Int) (w : World) : Prop :=
 callE P i_bytes_Buffer_tryGrowByReslice #[.pointer x0, .int .i64 x1] (fun e w8 => ∃ (r7_0 : Int), ∃ (r7_1 : Bool), e = .returned (.tuple #[.int .i64 r7_0, .bool r7_1]) ∧
 br r7_1
 (R (.returned (.int .i64 r7_0)) w8)
 (nilP x0 fun a9 =>
 ∃ (v10q : OA), ∃ (v10n : Nat), ∃ (v10c : Nat), w8.cell? a9 = some (.slice v10q v10n v10c) ∧
 ∃ (r11 : Bool), ∃ w12, (do eqGuard .eql ty_S_uint8 (.tmp 33) (.const (.slice none 0 0)) (.slice v10q v10n v10c) (.slice none 0 0); binOp .eql ty_S_uint8 (.slice v10q v10n v10c) (.slice none 0 0)).run P w8 = .ok (.bool r11) w12 ∧
 k2 R x0 x1 x5 (r11 && (decide (x1 ≤ 64))) w12)) w

end g_bytes_Buffer_grow
def g_bytes_Buffer_grow (R : EP) (x0 : OA) (x1 : Int) (w : World) : Prop :=
 callE P i_bytes_Buffer_Len #[.pointer x0] (fun e w2 => ∃ (r1 : Int), e = .returned (.int .i64 r1) ∧
 br (r1 == 0)
 (nilP x0 fun a3 =>
 ∃ (v4 : Int), w2.cell? (a3.add 1) = some (.int .i64 v4) ∧
 br (v4 != 0)
 (callE P i_bytes_Buffer_Reset #[.pointer x0] (fun e w6 => e = .returned (.tuple #[]) ∧
 g_bytes_Buffer_grow.k1 R x0 x1 r1 w6) w2)
 (g_bytes_Buffer_grow.k1 R x0 x1 r1 w2))
 (g_bytes_Buffer_grow.k1 R x0 x1 r1 w2)) w

noncomputable def g_bytes_Buffer_grow.ac (R : EP) : AC :=
  (.seq (.leaf (sel [0] g_bytes_Buffer_grow.body)) (.seq (.leaf (sel [1, 0] g_bytes_Buffer_grow.body)) (.seq (.leaf (sel [1, 1, 0] g_bytes_Buffer_grow.body)) (.mark (leaf [(0, .s .ptr), (1, .s (.int .i64)), (5, .s (.int .i64))] (g_bytes_Buffer_grow.k1 R)) (.seq (.leaf (sel [1, 1, 1, 0] g_bytes_Buffer_grow.body)) (.seq (.seq (.leaf (sel [1, 1, 1, 1, 0, 0] g_bytes_Buffer_grow.body)) (.mark (leaf [(0, .s .ptr), (1, .s (.int .i64)), (5, .s (.int .i64)), (38, .s .bool)] (g_bytes_Buffer_grow.k2 R)) (.leaf (sel [1, 1, 1, 1, 0, 1] g_bytes_Buffer_grow.body)))) (.seq (.leaf (sel [1, 1, 1, 1, 1, 0] g_bytes_Buffer_grow.body)) (.seq (.seq (.leaf (sel [1, 1, 1, 1, 1, 1, 0, 0] g_bytes_Buffer_grow.body)) (.cond 54 (.draw (.pure 0 (.pure 1 (.pure 2 (.pure 4 (.pure 5 (.pure 6 (.pure 8 (.pure 9 (.pure 10 (.load 3 (.load 7 (.load 11 (.pure 12 (.one 13 .done)))))))))))))) (sel [1, 1, 1, 1, 1, 1, 0, 1, 0] g_bytes_Buffer_grow.body)) (.seq (.leaf (sel [1, 1, 1, 1, 1, 1, 0, 1, 1, 0] g_bytes_Buffer_grow.body)) (.cond 74 (.leaf (sel [1, 1, 1, 1, 1, 1, 0, 1, 1, 1, 0] g_bytes_Buffer_grow.body)) (.draw (.pure 0 (.pure 1 (.pure 2 (.pure 3 (.pure 5 (.pure 6 (.pure 7 (.pure 10 (.pure 11 (.pure 12 (.pure 14 (.load 4 (.load 8 (.pure 9 (.load 13 (.pure 15 (.one 16 (.pure 17 (.pure 18 (.one 19 .done)))))))))))))))))))) (sel [1, 1, 1, 1, 1, 1, 0, 1, 1, 1, 1] g_bytes_Buffer_grow.body)))))) (.mark (leaf [(0, .s .ptr), (1, .s (.int .i64)), (5, .s (.int .i64))] (g_bytes_Buffer_grow.k3 R)) (.leaf (sel [1, 1, 1, 1, 1, 1, 1] g_bytes_Buffer_grow.body)))))))))))
theorem g_bytes_Buffer_grow.good (R : EP) : Good P 110 (g_bytes_Buffer_grow.ac R) (QF P [.tmp 4] R) :=
  ⟨trivial, ⟨trivial, ⟨trivial, ⟨⟨trivial, ⟨⟨trivial, ⟨trivial, cutE (by intro x0 x1 x5 x38 ρ w; kernel_rfl)⟩⟩, ⟨trivial, ⟨⟨trivial, ⟨⟨by kernel_rfl, by kernel_rfl, fun _ _ _ h => h⟩, ⟨trivial, ⟨trivial, ⟨by kernel_rfl, by kernel_rfl, fun _ _ _ h => h⟩⟩⟩⟩⟩, ⟨trivial, cutE (by intro x0 x1 x5 ρ w; kernel_rfl)⟩⟩⟩⟩⟩, cutE (by intro x0 x1 x5 ρ w; kernel_rfl)⟩⟩⟩⟩
theorem g_bytes_Buffer_grow.eq (R : EP) (x0 : OA) (x1 : Int) (w : World) : g_bytes_Buffer_grow R x0 x1 w = vcA P 110 (g_bytes_Buffer_grow.ac R) (QF P [.tmp 4] R) (fr0 [.pointer x0, .int .i64 x1]) w := by kernel_rfl
theorem g_bytes_Buffer_grow.sound {R : EP} {x0 : OA} {x1 : Int} {w : World} (h : g_bytes_Buffer_grow R x0 x1 w) : callE P i_bytes_Buffer_grow #[.pointer x0, .int .i64 x1] R w :=
  callE_fin (c := g_bytes_Buffer_grow.body) Tryz.func236 Tryz.call236 (by kernel_rfl) (by kernel_rfl) (by kernel_rfl) (by kernel_rfl) (by kernel_rfl) (g_bytes_Buffer_grow.good R) (g_bytes_Buffer_grow.eq R x0 x1 w) h
namespace g_bytes_Buffer_Len
noncomputable def body : Code := bodyOf Tryz.f237
end g_bytes_Buffer_Len
def g_bytes_Buffer_Len (R : EP) (x0 : OA) (w : World) : Prop :=
 tk w fun w1 =>
 nilP x0 fun a2 =>
 nilP x0 fun a3 =>
 ∃ (v4q : OA), ∃ (v4n : Nat), ∃ (v4c : Nat), w1.cell? a2 = some (.slice v4q v4n v4c) ∧
 ∃ (v5 : Int), w1.cell? (a3.add 1) = some (.int .i64 v5) ∧
 R (.returned (.int .i64 (IntKind.i64.wrap ((v4n : Int) - v5)))) w1

noncomputable def g_bytes_Buffer_Len.ac (R : EP) : AC :=
  (.seq (.leaf (sel [0] g_bytes_Buffer_Len.body)) (.seq (.draw (.pure 0 (.pure 1 (.pure 2 (.pure 5 (.pure 6 (.pure 7 (.load 3 (.pure 4 (.load 8 (.pure 9 (.pure 10 .done))))))))))) (sel [1, 0] g_bytes_Buffer_Len.body)) (.leaf (sel [1, 1] g_bytes_Buffer_Len.body))))
theorem g_bytes_Buffer_Len.good (R : EP) : Good P 13 (g_bytes_Buffer_Len.ac R) (QF P [.tmp 2] R) :=
  ⟨trivial, ⟨⟨by kernel_rfl, by kernel_rfl, fun _ _ _ h => h⟩, trivial⟩⟩
theorem g_bytes_Buffer_Len.eq (R : EP) (x0 : OA) (w : World) : g_bytes_Buffer_Len R x0 w = vcA P 13 (g_bytes_Buffer_Len.ac R) (QF P [.tmp 2] R) (fr0 [.pointer x0]) w := by kernel_rfl
theorem g_bytes_Buffer_Len.sound {R : EP} {x0 : OA} {w : World} (h : g_bytes_Buffer_Len R x0 w) : callE P i_bytes_Buffer_Len #[.pointer x0] R w :=
  callE_fin (c := g_bytes_Buffer_Len.body) Tryz.func237 Tryz.call237 (by kernel_rfl) (by kernel_rfl) (by kernel_rfl) (by kernel_rfl) (by kernel_rfl) (g_bytes_Buffer_Len.good R) (g_bytes_Buffer_Len.eq R x0 w) h
namespace g_bytes_Buffer_tryGrowByReslice
noncomputable def body : Code := bodyOf Tryz.f235
end g_bytes_Buffer_tryGrowByReslice
def g_bytes_Buffer_tryGrowByReslice (R : EP) (x0 : OA) (x1 : Int) (w : World) : Prop :=
 nilP x0 fun a1 =>
 ∃ (v2q : OA), ∃ (v2n : Nat), ∃ (v2c : Nat), w.cell? a1 = some (.slice v2q v2n v2c) ∧
 nilP x0 fun a3 =>
 ∃ (v4q : OA), ∃ (v4n : Nat), ∃ (v4c : Nat), w.cell? a3 = some (.slice v4q v4n v4c) ∧
 ∃ (r5 : Int), ∃ w6, (Builtin.cap_ #[ty_S_uint8] ty_int #[.slice v4q v4n v4c]).run P w = .ok (.int .i64 r5) w6 ∧
 br (decide (x1 ≤ (IntKind.i64.wrap (r5 - (v2n : Int)))))
 (nilP x0 fun a7 =>
 ∃ (v8q : OA), ∃ (v8n : Nat), ∃ (v8c : Nat), w6.cell? a7 = some (.slice v8q v8n v8c) ∧
 ∃ (r9q : OA), ∃ (r9n : Nat), ∃ (r9c : Nat), ∃ w10, (Instr.sliceAt ty_S_uint8 (.slice v8q v8n v8c) none (some (.int .i64 (IntKind.i64.wrap ((v2n : Int) + x1)))) none).run P w6 = .ok (.slice r9q r9n r9c) w10 ∧
 nilP x0 fun a11 =>
 stV w10 (a11.add 0) (.slice r9q r9n r9c) fun w12 =>
 R (.returned (.tuple #[.int .i64 (v2n : Int), .bool true])) w12)
 (R (.returned (.tuple #[.int .i64 0, .bool false])) w6)

noncomputable def g_bytes_Buffer_tryGrowByReslice.ac (R : EP) : AC :=
  (.leaf (sel [] g_bytes_Buffer_tryGrowByReslice.body))
theorem g_bytes_Buffer_tryGrowByReslice.good (R : EP) : Good P 33 (g_bytes_Buffer_tryGrowByReslice.ac R) (QF P [.tmp 4, .tmp 5] R) :=
  trivial
theorem g_bytes_Buffer_tryGrowByReslice.eq (R : EP) (x0 : OA) (x1 : Int) (w : World) : g_bytes_Buffer_tryGrowByReslice R x0 x1 w = vcA P 33 (g_bytes_Buffer_tryGrowByReslice.ac R) (QF P [.tmp 4, .tmp 5] R) (fr0 [.pointer x0, .int .i64 x1]) w := by kernel_rfl
theorem g_bytes_Buffer_tryGrowByReslice.sound {R : EP} {x0 : OA} {x1 : Int} {w : World} (h : g_bytes_Buffer_tryGrowByReslice R x0 x1 w) : callE P i_bytes_Buffer_tryGrowByReslice #[.pointer x0, .int .i64 x1] R w :=
  callE_fin (c := g_bytes_Buffer_tryGrowByReslice.body) Tryz.func235 Tryz.call235 (by kernel_rfl) (by kernel_rfl) (by kernel_rfl) (by kernel_rfl) (by kernel_rfl) (g_bytes_Buffer_tryGrowByReslice.good R) (g_bytes_Buffer_tryGrowByReslice.eq R x0 x1 w) h
end Go.Proofs.YtihmcipajjakgaaGreatDoor

set_option linter.unusedVariables false
namespace Go.Proofs.YtihmcipajjakgaaGreatDoor
open Go.Proofs Go.IntWalk
variable {σ : Out} {w : World} {L L' : List Chunk} {R : Ending → World → Prop}

noncomputable def rowU8 : Row P ty_S_uint8 ty_uint8 1 1 :=
  ⟨(P.info? ty_uint8).getD default, ((P.info? ty_uint8).bind (·.zero)).getD default, by kernel_rfl, by kernel_rfl, by kernel_rfl, by kernel_rfl, by kernel_rfl, by kernel_rfl, by decide⟩
def bc (l : List UInt8) : List Value := l.map fun c => .int .u8 (c.toNat : Int)
@[simp] theorem bc_length (l : List UInt8) : (bc l).length = l.length := by simp [bc]
theorem bc_append (a b : List UInt8) : bc (a ++ b) = bc a ++ bc b := by simp [bc]
theorem bc_get {l : List UInt8} {j : Nat} (h : j < l.length) : (bc l)[j]? = some (.int .u8 (l[j].toNat : Int)) := by simp [bc, h]
theorem bc_one {l : List UInt8} : ∀ v ∈ bc l, v.oneCell' = true := by
  intro v hv
  obtain ⟨c, _, rfl⟩ := List.mem_map.1 hv
  rfl
abbrev By (q : Option Addr) (n c : Nat) (l : List UInt8) (M : List Chunk) : Prop := Sl 1 ty_uint8 q n c (bc l) M
theorem By.len {q : Option Addr} {n c : Nat} {l : List UInt8} {M : List Chunk} (h : By q n c l M) : n = l.length := by
  have := h.1
  rw [bc_length] at this
  omega
theorem By.nil : By none 0 0 [] [] := Sl.nil 1 ty_uint8

theorem byteCells_bs (s : List UInt8) : Go.byteCells (bs s) = bc s := by
  simp [Go.byteCells, bc, bs]
theorem By.appS {q : Option Addr} {n c : Nat} {l : List UInt8} {M : List Chunk} (hS : By q n c l M) (h : Sat σ w (M ++ L)) (s : List UInt8) (h0 : s ≠ [] ∨ q ≠ none) (hb : n + s.length ≤ 1099511627776)
    {K : Option Addr → Nat → Nat → World → Prop} (hK : ∀ q' c' w' M', By q' (n + s.length) c' (l ++ s) M' → Sat σ w' (M' ++ L) → q' ≠ none → c ≤ c' → K q' (n + s.length) c' w') :
    ∃ q' n' c' w', (Builtin.append_ #[ty_S_uint8, ty_string] ty_S_uint8 #[.slice q n c, .string (bs s)]).run P w = .ok (.slice q' n' c') w' ∧ K q' n' c' w' := by
  have hsrc := Src.ofString (P := P) (w := w) (tx := ty_string) (by kernel_rfl) (bs s)
  rw [bs_size, byteCells_bs] at hsrc
  have h0' : 0 < s.length ∨ q ≠ none := by
    rcases h0 with h | h
    · exact .inl (List.length_pos_iff.2 h)
    · exact .inr h
  obtain ⟨q', c', w', M', hr, hS', h', h1, h2⟩ := Sat.app rowU8 (ty := ty_S_uint8) hS h hsrc h0' (by omega) (by omega)
  refine ⟨q', _, c', w', hr, hK q' c' w' M' ?_ h' h1 h2⟩
  show Sl _ _ _ _ _ (bc (l ++ s)) _
  rw [bc_append]
  exact hS'
theorem By.app1 {q : Option Addr} {n c : Nat} {l : List UInt8} {M : List Chunk} (hS : By q n c l M) (h : Sat σ w (M ++ L)) (k : UInt8) (hb : n + 1 ≤ 1099511627776)
    {K : Option Addr → Nat → Nat → World → Prop} (hK : ∀ q' c' w' M', By q' (n + 1) c' (l ++ [k]) M' → Sat σ w' (M' ++ L) → K q' (n + 1) c' w') :
    ∃ rq rn rc w1, (Instr.buildSlice ty_S_uint8 1 #[(0, .int .u8 (k.toNat : Int))]).run P w = .ok (.slice rq rn rc) w1 ∧
    ∃ q' n' c' w', (Builtin.append_ #[ty_S_uint8, ty_S_uint8] ty_S_uint8 #[.slice q n c, .slice rq rn rc]).run P w1 = .ok (.slice q' n' c') w' ∧ K q' n' c' w' := by
  refine Sat.app1 rowU8 hS h (v := .int .u8 (k.toNat : Int)) rfl (by simp [Value.cells, Value.oneCell']) (by kernel_rfl) (by omega) (by omega) (by decide) fun q' c' w' M' h1 h2 => hK q' c' w' M' ?_ h2
  show Sl _ _ _ _ _ (bc (l ++ [k])) _
  rw [bc_append]
  exact h1
theorem By.str {q : Option Addr} {n c : Nat} {l : List UInt8} {M : List Chunk} (hS : By q n c l M) (h : Sat σ w (M ++ L)) :
    (convert ty_S_uint8 ty_string (.slice q n c)).run P w = .ok (.string (bs l)) w := by
  have hn := hS.len
  subst hn
  obtain ⟨_, _, ⟨rfl, hn0, rfl, rfl⟩ | ⟨b, sp, rfl, rfl, h3⟩⟩ := hS
  · obtain rfl := List.eq_nil_of_length_eq_zero hn0
    exact Lib.run_convert_nil_bytes w _ _ ty_uint8 0 (by kernel_rfl) (by kernel_rfl) (by kernel_rfl)
  · refine run_convert_bytes_back w _ _ ty_uint8 ⟨b, 0, none⟩ c l (by kernel_rfl) (by kernel_rfl) (by kernel_rfl) fun j hj => ?_
    rw [Addr.add_zero_lit]
    refine h.ld (.head _) ?_
    rw [List.getElem?_append_left (by rw [bc_length]; exact hj), bc_get hj]
theorem sliceLH {P : Program} {t e : TypeId} {i : TypeInfo} (ht : P.underlying t = some (.slice e)) (hi : P.info? e = some i) (a : Option Addr) (n c l m : Nat) (h1 : l ≤ m) (h2 : m ≤ c) (w : World) :
    (Instr.sliceAt t (.slice a n c) (some (.int .i64 l)) (some (.int .i64 m)) none).run P w = .ok (.slice (if c = l then a else a.map (·.add (l * i.size))) (m - l) (c - l)) w := by
  simp [Instr.sliceAt, Instr.slice, Instr.sliceBounds, run_underlying ht, sizeOf, typeInfo, hi, run_sliceBound w .i64 (m : Int) c .sliceAcap (by omega) (by omega), run_sliceBound w .i64 (l : Int) m .sliceB (by omega) (by omega)]
theorem sliceF {P : Program} {t e : TypeId} {i : TypeInfo} (ht : P.underlying t = some (.slice e)) (hi : P.info? e = some i) (a : Option Addr) (n c l : Nat) (h1 : l ≤ n) (w : World) :
    (Instr.sliceAt t (.slice a n c) (some (.int .i64 l)) none none).run P w = .ok (.slice (if c = l then a else a.map (·.add (l * i.size))) (n - l) (c - l)) w := by
  simp [Instr.sliceAt, Instr.slice, Instr.sliceBounds, run_underlying ht, sizeOf, typeInfo, hi, run_sliceBound w .i64 (l : Int) n .sliceB (by omega) (by omega)]
theorem sliceT {P : Program} {t e : TypeId} {i : TypeInfo} (ht : P.underlying t = some (.slice e)) (hi : P.info? e = some i) (a : Option Addr) (n c m : Nat) (h2 : m ≤ c) (w : World) :
    (Instr.sliceAt t (.slice a n c) none (some (.int .i64 m)) none).run P w = .ok (.slice a m c) w := by
  have e1 : ∀ a : Addr, a.add 0 = a := fun a => rfl
  simp [Instr.sliceAt, Instr.slice, Instr.sliceBounds, run_underlying ht, sizeOf, typeInfo, hi, run_sliceBound w .i64 (m : Int) c .sliceAcap (by omega) (by omega), e1]

theorem capRun {P : Program} (t ty : TypeId) (q : Option Addr) (n c : Nat) (e : TypeId) (ht : P.underlying t = some (.slice e)) (w : World) : (Builtin.cap_ #[t] ty #[.slice q n c]).run P w = .ok (.int .i64 c) w := by
  simp [Builtin.cap_, underlying, ht, goInt]
abbrev bufC (b : Nat) (q : Option Addr) (n c : Nat) (lr : Int) : Chunk := (b, cel [.slice q n c, .int .i64 0, .int .i8 lr] ty_bytes_Buffer)
def Buf (b : Nat) (l : List UInt8) (M : List Chunk) : Prop := ∃ q c lr M0, M = bufC b q l.length c lr :: M0 ∧ By q l.length c l M0 ∧ c ≤ 9223372036854775807
theorem tryGrow_ok {b : Nat} {q : Option Addr} {n c m : Nat} {lr : Int} (h : Sat σ w (bufC b q n c lr :: L)) (hnc : n ≤ c) (hc : c ≤ 9223372036854775807) (hn : n < 4611686018427387904) (hm : m < 4611686018427387904)
    (h1 : n + m ≤ c → ∀ w, Sat σ w (bufC b q (n + m) c lr :: L) → R (.returned (.tuple #[.int .i64 n, .bool true])) w)
    (h0 : c < n + m → ∀ w, Sat σ w (bufC b q n c lr :: L) → R (.returned (.tuple #[.int .i64 0, .bool false])) w) :
    callE P i_bytes_Buffer_tryGrowByReslice #[.pointer (some ⟨b, 0, none⟩), .int .i64 m] R w := by
  refine g_bytes_Buffer_tryGrowByReslice.sound ?_
  refine nilP_some ?_
  refine ⟨_, _, _, Sat.ld h (by first | assumption | (repeat (first | exact .head _ | apply List.Mem.tail))) (by exact rfl), ?_⟩
  refine nilP_some ?_
  refine ⟨_, _, _, Sat.ld h (by first | assumption | (repeat (first | exact .head _ | apply List.Mem.tail))) (by exact rfl), ?_⟩
  refine ⟨_, _, capRun _ _ _ _ _ _ rowU8.ht w, ?_⟩
  rw [i64_in _ (by omega)]
  by_cases hm' : n + m ≤ c
  · refine br_true (by simp; omega) ?_
    refine nilP_some ?_
    refine ⟨_, _, _, Sat.ld h (by first | assumption | (repeat (first | exact .head _ | apply List.Mem.tail))) (by exact rfl), ?_⟩
    rw [i64_in _ (by omega), show ((n : Int) + m) = ((n + m : Nat) : Int) by omega]
    refine ⟨_, _, _, _, sliceT rowU8.ht rowU8.hi q n c (n + m) hm' w, ?_⟩
    refine nilP_some ?_
    refine Sat.st h (k := 0) rfl (Nat.le_of_ble_eq_true rfl) trivial (by first | (dsimp only [List.set]; exact rfl) | exact rfl) fun w h => ?_
    exact h1 hm' _ h
  · refine br_false (by simp; omega) ?_
    exact h0 (by omega) _ h
theorem bufLen_ok {b : Nat} {q : Option Addr} {n c : Nat} {lr : Int} (h : Sat σ w (bufC b q n c lr :: L)) (hn : n < 4611686018427387904) (hR : ∀ w, Sat σ w (bufC b q n c lr :: L) → R (.returned (.int .i64 n)) w) :
    callE P i_bytes_Buffer_Len #[.pointer (some ⟨b, 0, none⟩)] R w := by
  refine g_bytes_Buffer_Len.sound ?_
  refine Sat.tk h fun w h => ?_
  refine nilP_some (nilP_some ?_)
  refine ⟨_, _, _, Sat.ld h (by first | assumption | (repeat (first | exact .head _ | apply List.Mem.tail))) (by exact rfl), ?_⟩
  refine ⟨_, Sat.ld h (by first | assumption | (repeat (first | exact .head _ | apply List.Mem.tail))) (by exact rfl), ?_⟩
  rw [i64_in _ (by omega), Int.sub_zero]
  exact hR _ h
end Go.Proofs.YtihmcipajjakgaaGreatDoor


set_option linter.unusedVariables false
set_option maxRecDepth 20000
namespace Go.Proofs.YtihmcipajjakgaaGreatDoor
open Go.Proofs
noncomputable abbrev x_internal_abi_NoEscape : Func := Tryz.f188
theorem xf_internal_abi_NoEscape : P.funcs[i_internal_abi_NoEscape]? = some x_internal_abi_NoEscape := Tryz.func188
noncomputable abbrev x_internal_bytealg_MakeNoZero : Func := Tryz.f189
theorem xf_internal_bytealg_MakeNoZero : P.funcs[i_internal_bytealg_MakeNoZero]? = some x_internal_bytealg_MakeNoZero := Tryz.func189
theorem cf_bytes_growSlice : ∀ args w, (callFunc i_bytes_growSlice args).run P w = .ok (.enter i_bytes_growSlice args) w := Tryz.call238
end Go.Proofs.YtihmcipajjakgaaGreatDoor


set_option linter.unusedVariables false
namespace Go.Proofs.YtihmcipajjakgaaGreatDoor
open Go.Proofs Go.Shelf
def lays290_ren : Go.Shelf.Ren := ⟨fun | 290 => 238 | 324 => 239 | n => n, fun | 37 => 47 | 3 => 3 | 0 => 0 | 4 => 4 | 20 => 20 | 75 => 170 | 5 => 5 | 80 => 56 | 9 => 9 | n => n, fun | 14 => 9 | n => n⟩
theorem lays290 : Go.Proofs.LaysM.n290 Tryz.prog lays290_ren := {
  mixed := by kernel_rfl
  f290 := Tryz.func238.trans (congrArg some (by kernel_rfl))
  f324 := Tryz.func239.trans (congrArg some (by kernel_rfl))
  t0 := Tryz.underlying0
  a0 := Tryz.isAgg0
  z0 := Tryz.sizeOf0
  v0 := Tryz.zeroValue0
  t3 := Tryz.underlying3
  a3 := Tryz.isAgg3
  z3 := Tryz.sizeOf3
  v3 := Tryz.zeroValue3
  t4 := Tryz.underlying4
  a4 := Tryz.isAgg4
  z4 := Tryz.sizeOf4
  v4 := Tryz.zeroValue4
  t20 := Tryz.underlying20
  a20 := Tryz.isAgg20
  z20 := Tryz.sizeOf20
  v20 := Tryz.zeroValue20
  t37 := Tryz.underlying47
  a37 := Tryz.isAgg47
  z37 := Tryz.sizeOf47
  v37 := Tryz.zeroValue47
  t75 := Tryz.underlying170
  a75 := Tryz.isAgg170
  z75 := Tryz.sizeOf170
  v75 := Tryz.zeroValue170
  g14 := by kernel_rfl
  t5 := Tryz.underlying5
  a5 := Tryz.isAgg5
  z5 := Tryz.sizeOf5
  v5 := Tryz.zeroValue5
  t9 := Tryz.underlying9
  a9 := Tryz.isAgg9
  z9 := Tryz.sizeOf9
  v9 := Tryz.zeroValue9
  t80 := Tryz.underlying56
  a80 := Tryz.isAgg56
  z80 := Tryz.sizeOf56
  v80 := Tryz.zeroValue56
  i0 := by kernel_rfl
  i3 := by kernel_rfl
  i4 := by kernel_rfl
  i5 := by kernel_rfl
  i9 := by kernel_rfl
  i20 := by kernel_rfl
  i37 := by kernel_rfl
  i75 := by kernel_rfl
  i80 := by kernel_rfl
  m14 := by kernel_rfl }
end Go.Proofs.YtihmcipajjakgaaGreatDoor


set_option linter.unusedVariables false
namespace Go.Proofs.YtihmcipajjakgaaGreatDoor
open Go.Proofs Go.IntWalk
variable {σ : Out} {w : World} {L L' : List Chunk} {R : Ending → World → Prop}

theorem ext_of {f : FuncId} {fn : Func} {e : Array Value → Sem Value} {args : Array Value} {v : Value} {w' : World} (hf : P.funcs[f]? = some fn) (hname : (fn.name == "runtime.NumGoroutine") = false)
    (hb : fn.body.isNone = true) (hn : Extern.findNext fn = none) (he : Extern.find fn = some e) (hr : (e args).run P w = .ok v w') (h : R (.returned v) w') : callE P f args R w := by
  refine .inr ⟨v, w', ?_, h⟩
  rw [run_callFunc_extern hf hname hb hn he, hr]
  rfl
theorem noEscape_ok {x : Value} (h : R (.returned x) w) : callE P i_internal_abi_NoEscape #[x] R w :=
  ext_of (e := Extern.AbiNoEscape.same) xf_internal_abi_NoEscape (by kernel_rfl) (by kernel_rfl) (by kernel_rfl) (by kernel_rfl) rfl h
end Go.Proofs.YtihmcipajjakgaaGreatDoor


set_option linter.unusedVariables false
namespace Go.Proofs.YtihmcipajjakgaaGreatDoor
open Go.Proofs
theorem bin_eql {P : Program} {t : TypeId} {a b : Value} {r : Bool} {w : World} {x y : Operand} (h1 : (eqGuard .eql t x y a b).run P w = .ok () w) (h2 : binOp .eql t a b = (do pure (.bool (← Op.equal t a b))))
    (h : (Op.equal t a b).run P w = .ok r w) : (do eqGuard .eql t x y a b; binOp .eql t a b).run P w = .ok (.bool r) w := by
  rw [h2]
  simp only [Sem.run_bind, h1, h, Result.andThen_ok]
  rfl
theorem bin_neq {P : Program} {t : TypeId} {a b : Value} {r : Bool} {w : World} {x y : Operand} (h1 : (eqGuard .neq t x y a b).run P w = .ok () w) (h2 : binOp .neq t a b = (do pure (.bool (!(← Op.equal t a b)))))
    (h : (Op.equal t a b).run P w = .ok r w) : (do eqGuard .neq t x y a b; binOp .neq t a b).run P w = .ok (.bool (!r)) w := by
  rw [h2]
  simp only [Sem.run_bind, h1, h, Result.andThen_ok]
  rfl
variable {P : Program}
theorem equal_slice_nil {t e : TypeId} (hu : P.underlying t = some (.slice e)) (q : Option Addr) (n c : Nat) (w : World) : (Op.equal t (.slice q n c) (.slice none 0 0)).run P w = .ok q.isNone w :=
  have h : ∀ d, (Op.equalIn (d + 1) t (.slice q n c) (.slice none 0 0)).run P w = .ok q.isNone w := fun d => by
    cases q <;> simp [Op.equalIn, run_underlying hu]
  h 9999
theorem eq_slice_nil {t e : TypeId} {x y : Operand} (hu : P.underlying t = some (.slice e)) (q : Option Addr) (n c : Nat) (w : World) :
    (do eqGuard .eql t x y (.slice q n c) (.slice none 0 0); binOp .eql t (.slice q n c) (.slice none 0 0)).run P w = .ok (.bool q.isNone) w :=
  bin_eql rfl rfl (equal_slice_nil hu q n c w)
theorem equal_ptr_nil {t e : TypeId} (hu : P.underlying t = some (.pointer e)) (q : Option Addr) (w : World) : (Op.equal t (.pointer q) (.pointer none)).run P w = .ok q.isNone w :=
  have h : ∀ d, (Op.equalIn (d + 1) t (.pointer q) (.pointer none)).run P w = .ok q.isNone w := fun d => by
    cases q <;> simp [Op.equalIn, run_underlying hu]
  h 9999
theorem ptrNil_eq {t e : TypeId} {x y : Operand} (hu : P.underlying t = some (.pointer e)) (q : Option Addr) (w : World) :
    (do eqGuard .eql t x y (.pointer q) (.pointer none); binOp .eql t (.pointer q) (.pointer none)).run P w = .ok (.bool q.isNone) w :=
  bin_eql rfl rfl (equal_ptr_nil hu q w)
theorem neq_ptr_nil {t e : TypeId} {x y : Operand} (hu : P.underlying t = some (.pointer e)) (q : Option Addr) (w : World) :
    (do eqGuard .neq t x y (.pointer q) (.pointer none); binOp .neq t (.pointer q) (.pointer none)).run P w = .ok (.bool (!q.isNone)) w :=
  bin_neq rfl rfl (equal_ptr_nil hu q w)
theorem equal_ptr_same {t e : TypeId} (hu : P.underlying t = some (.pointer e)) {i : TypeInfo} (hi : P.info? e = some i) (hs : i.size ≠ 0) (b : Nat) (w : World) : (Op.equal t (.pointer (some ⟨b, 0, none⟩)) (.pointer (some ⟨b, 0, none⟩))).run P w = .ok true w :=
  have h : ∀ d, (Op.equalIn (d + 1) t (.pointer (some ⟨b, 0, none⟩)) (.pointer (some ⟨b, 0, none⟩))).run P w = .ok true w := fun d => by
    simp [Op.equalIn, run_underlying hu, sizeOf, typeInfo, hi, hs, sameAddr]
  h 9999
theorem neq_ptr_same {t e : TypeId} {x y : Operand} (hu : P.underlying t = some (.pointer e)) {i : TypeInfo} (hi : P.info? e = some i) (hs : i.size ≠ 0) (b : Nat) (w : World) :
    (do eqGuard .neq t x y (.pointer (some ⟨b, 0, none⟩)) (.pointer (some ⟨b, 0, none⟩)); binOp .neq t (.pointer (some ⟨b, 0, none⟩)) (.pointer (some ⟨b, 0, none⟩))).run P w = .ok (.bool false) w :=
  bin_neq rfl rfl (equal_ptr_same hu hi hs b w)
theorem neq_func_nil {t : TypeId} {ps rs : Array TypeId} {vr : Bool} {x y : Operand} (hu : P.underlying t = some (.func ps rs vr)) (k : FuncId) (f g : Array Value) (w : World) :
    (do eqGuard .neq t x y (.func (.func k) f g) .nilFunc; binOp .neq t (.func (.func k) f g) .nilFunc).run P w = .ok (.bool true) w := by
  have h : ∀ d, (Op.equalIn (d + 1) t (.func (.func k) f g) .nilFunc).run P w = .ok false w := fun d => by
    simp [Op.equalIn, run_underlying hu]
  exact bin_neq rfl rfl (h 9999)
theorem neq_nil_nil {t : TypeId} {ps rs : Array TypeId} {vr : Bool} {x y : Operand} (hu : P.underlying t = some (.func ps rs vr)) (w : World) :
    (do eqGuard .neq t x y .nilFunc .nilFunc; binOp .neq t .nilFunc .nilFunc).run P w = .ok (.bool false) w := by
  have h : ∀ d, (Op.equalIn (d + 1) t .nilFunc .nilFunc).run P w = .ok true w := fun d => by
    simp [Op.equalIn, run_underlying hu]
  exact bin_neq rfl rfl (h 9999)
end Go.Proofs.YtihmcipajjakgaaGreatDoor


set_option linter.unusedVariables false
namespace Go.Proofs.YtihmcipajjakgaaGreatDoor
open Go.Proofs Go.IntWalk Go.RowKit
variable {σ : Out} {w : World} {L L' : List Chunk} {R : Ending → World → Prop}

theorem Sat.newRow (h : Sat σ w L) {w' : World} (hb : Below w.heap.size w w') {cs : Array Value} {e : TypeId} (hr : w'.heap[w.heap.size]? = some (.cells cs e)) : Sat σ w' ((w.heap.size, cel cs.toList e) :: L) := by
  refine ⟨hb.os.trans h.os, hb.output.trans h.out, ?_, ?_⟩
  · simp only [List.map_cons, List.nodup_cons]
    refine ⟨fun hm => ?_, h.nodup⟩
    obtain ⟨c, hc, he⟩ := List.mem_map.1 hm
    exact Nat.lt_irrefl _ (he ▸ h.lt hc)
  · intro c hc
    cases hc with
    | head => simpa [cel] using hr
    | tail _ hc =>
      rw [hb.block _ (h.lt hc)]
      exact h.at_ _ hc
theorem callE_calls {f : FuncId} {args : Array Value} (hc : ∀ args w, (callFunc f args).run P w = .ok (.enter f args) w) (h : Calls P f args w R) : callE P f args R w := .inl ⟨hc, h⟩

theorem growSlice_ok {q : Option Addr} {n c m : Nat} {l : List UInt8} {M : List Chunk} (hS : By q n c l M) (h : Sat σ w (M ++ L)) (hm : 1 ≤ m) (hcm : c < n + m) (hb : n + m ≤ 1099511627776)
    (hR : ∀ w b c' sp, n + m ≤ c' → c' ≤ 9223372036854775807 → By (some ⟨b, 0, none⟩) n c' l [(b, cel (bc l ++ sp) ty_uint8)] → Sat σ w ((b, cel (bc l ++ sp) ty_uint8) :: (M ++ L)) → R (.returned (.slice (some ⟨b, 0, none⟩) n c')) w) :
    callE P i_bytes_growSlice #[.slice q n c, .int .i64 m] R w := by
  have hn := hS.len
  have hS0 := hS
  obtain ⟨hl, hnc, ⟨rfl, rfl, rfl, rfl⟩ | ⟨b, sp, rfl, rfl, h3⟩⟩ := hS
  · have hl0 : l = [] := List.eq_nil_of_length_eq_zero (by omega)
    subst hl0
    refine callE_calls cf_bytes_growSlice ((Any.bytes_growSlice_nil (P := P) lays290 m w hm (by omega)).mono ?_)
    rintro e w' ⟨cap2, cells, rfl, hr, hsz, hge, hle, hbl⟩
    have := h.newRow hbl hr
    have ht5 : lays290_ren.t 5 = ty_uint8 := rfl
    rw [ht5] at this
    refine hR w' _ cap2 cells.toList (by omega) (by unfold maxLen at hle; exact hle) ⟨by simp [bc], by omega, .inr ⟨_, cells.toList, rfl, rfl, ?_⟩⟩ this
    simp [bc, hsz]
  · have hg := h.at_ _ (.head _)
    refine callE_calls cf_bytes_growSlice ((Any.bytes_growSlice_row (P := P) lays290 b n c m (bc l ++ sp).toArray w hg (by simpa using h3) hnc hm (by omega) (by omega) ?_).mono ?_)
    · intro v hv
      rw [hn] at hv
      rw [show (bc l ++ sp).toArray.toList.take l.length = bc l from by rw [← bc_length l]; simp] at hv
      exact bc_one v hv
    · rintro e w' ⟨cap2, cells, rfl, hr, hsz, htk, hge, hle, hbl⟩
      have htk' : cells.toList.take n = bc l := by rw [htk, hn, ← bc_length l]; simp
      have hcs : cells.toList = bc l ++ cells.toList.drop n := by rw [← htk', List.take_append_drop]
      have := h.newRow hbl hr
      rw [hcs] at this
      refine hR w' _ cap2 (cells.toList.drop n) hge (by unfold maxLen at hle; exact hle) ⟨by simp; omega, by omega, .inr ⟨_, _, rfl, rfl, ?_⟩⟩ this
      rw [← hcs, Array.length_toList]; omega
theorem By.raw {q : Option Addr} {n c : Nat} {l : List UInt8} {M : List Chunk} (h : By q n c l M) : (q = none ∧ n = 0 ∧ c = 0 ∧ M = []) ∨ ∃ b sp, q = some ⟨b, 0, none⟩ ∧ M = [(b, cel (bc l ++ sp) ty_uint8)] ∧ (bc l ++ sp).length = c := by
  obtain ⟨_, _, h | ⟨b, sp, h1, h2, h3⟩⟩ := h
  · exact .inl h
  · exact .inr ⟨b, sp, h1, h2, by omega⟩
theorem grow_ok {b : Nat} {q : Option Addr} {c m : Nat} {lr : Int} {l : List UInt8} {M : List Chunk} (h : Sat σ w (bufC b q l.length c lr :: (M ++ L))) (hS : By q l.length c l M) (hm : 1 ≤ m) (hcm : c < l.length + m) (hb : l.length + m ≤ 1099511627776)
    (hR : ∀ w g c' sp lr, l.length + m ≤ c' → c' ≤ 9223372036854775807 → (bc l ++ sp).length = c' → Sat σ w (bufC b (some ⟨g, 0, none⟩) (l.length + m) c' lr :: (g, cel (bc l ++ sp) ty_uint8) :: L) → R (.returned (.int .i64 l.length)) w) :
    callE P i_bytes_Buffer_grow #[.pointer (some ⟨b, 0, none⟩), .int .i64 m] R w := by
  have hnc := hS.2.1
  refine g_bytes_Buffer_grow.sound ?_
  refine bufLen_ok h (by omega) fun w h => ⟨_, rfl, ?_⟩
  have key2 : ∀ w, Sat σ w (bufC b q l.length c lr :: (M ++ L)) → 1 ≤ m → tk w fun w32 =>
      nilP (some ⟨b, 0, none⟩) fun a33 => nilP (some ⟨b, 0, none⟩) fun a34 => nilP (some ⟨b, 0, none⟩) fun a35 =>
      ∃ (v36q : Option Addr), ∃ (v36n : Nat), ∃ (v36c : Nat), w32.cell? a33 = some (.slice v36q v36n v36c) ∧
      ∃ (v37 : Int), w32.cell? (a34.add 1) = some (.int .i64 v37) ∧
      ∃ (r38q : Option Addr), ∃ (r38n : Nat), ∃ (r38c : Nat), (∀ w, (Instr.sliceAt ty_S_uint8 (.slice v36q v36n v36c) (some (.int .i64 v37)) none none).run P w = .ok (.slice r38q r38n r38c) w) ∧
      ∃ (v39 : Int), w32.cell? (a35.add 1) = some (.int .i64 v39) ∧
      callE P i_bytes_growSlice #[.slice r38q r38n r38c, .int .i64 (IntKind.i64.wrap (v39 + (m : Int)))] (fun e w41 => ∃ (r40q : Option Addr), ∃ (r40n : Nat), ∃ (r40c : Nat), e = .returned (.slice r40q r40n r40c) ∧
      nilP (some ⟨b, 0, none⟩) fun a42 => stV w41 (a42.add 0) (.slice r40q r40n r40c) fun w43 => g_bytes_Buffer_grow.k3 R (some ⟨b, 0, none⟩) m l.length w43) w32 := by
    intro w h _
    refine Sat.tk h fun w h => ?_
    refine nilP_some (nilP_some (nilP_some ?_))
    refine ⟨_, _, _, Sat.ld h (by first | assumption | (repeat (first | exact .head _ | apply List.Mem.tail))) (by exact rfl), ?_⟩
    refine ⟨_, Sat.ld h (by first | assumption | (repeat (first | exact .head _ | apply List.Mem.tail))) (by exact rfl), ?_⟩
    refine ⟨_, _, _, fun w => sliceF rowU8.ht rowU8.hi q l.length c 0 (by omega) w, ?_⟩
    refine ⟨_, Sat.ld h (by first | assumption | (repeat (first | exact .head _ | apply List.Mem.tail))) (by exact rfl), ?_⟩
    rw [Int.zero_add, i64_in _ (by omega)]
    have e0 : (if c = 0 then q else q.map (·.add (0 * rowU8.i.size))) = q := by
      rw [Nat.zero_mul]
      split
      · rfl
      · cases q <;> rfl
    rw [e0, Nat.sub_zero, Nat.sub_zero]
    have h : Sat σ w (M ++ (bufC b q l.length c lr :: L)) := h.re (by intro _; simp only [List.append_eq, cnt_append, cnt_cons, cnt_nil] <;> omega)
    refine growSlice_ok hS h hm hcm hb fun w g c' sp h1 h2 h3 h => ⟨_, _, _, rfl, nilP_some ?_⟩
    have h : Sat σ w (bufC b q l.length c lr :: (g, cel (bc l ++ sp) ty_uint8) :: (M ++ L)) := h.re (by intro _; simp only [List.append_eq, cnt_append, cnt_cons, cnt_nil] <;> omega)
    refine Sat.st h (k := 0) rfl (Nat.le_of_ble_eq_true rfl) trivial (by first | (dsimp only [List.set]; exact rfl) | exact rfl) fun w h => ?_
    refine nilP_some ?_
    refine Sat.st h (k := 0) rfl (Nat.le_of_ble_eq_true rfl) trivial (by first | (dsimp only [List.set]; exact rfl) | exact rfl) fun w h => ?_
    refine nilP_some ?_
    refine ⟨_, _, _, Sat.ld h (by first | assumption | (repeat (first | exact .head _ | apply List.Mem.tail))) (by exact rfl), ?_⟩
    rw [i64_in _ (by omega), show ((l.length : Int) + m) = ((l.length + m : Nat) : Int) by omega]
    refine ⟨_, _, _, _, sliceT rowU8.ht rowU8.hi _ _ c' (l.length + m) h1 w, ?_⟩
    refine nilP_some ?_
    refine Sat.st h (k := 0) rfl (Nat.le_of_ble_eq_true rfl) trivial (by first | (dsimp only [List.set]; exact rfl) | exact rfl) fun w h => ?_
    have h4 : (bc l ++ sp).length = c' := by
      obtain ⟨_, _, ⟨h, _⟩ | ⟨b', sp', e1, e2, h3⟩⟩ := h3
      · cases h
      · simp only [List.cons.injEq, Prod.mk.injEq] at e2
        have : cel (bc l ++ sp) ty_uint8 = cel (bc l ++ sp') ty_uint8 := e2.1.2
        simp only [cel, Obj.cells.injEq, and_true] at this
        have e3 : bc l ++ sp = bc l ++ sp' := by simpa using congrArg Array.toList this
        rw [e3]; omega
    refine hR w g c' sp lr h1 h2 h4 ?_
    have h : Sat σ w (bufC b (some ⟨g, 0, none⟩) (l.length + m) c' lr :: (g, cel (bc l ++ sp) ty_uint8) :: (M ++ L)) := h
    exact h.less M (by intro _; simp only [List.append_eq, cnt_append, cnt_cons, cnt_nil] <;> omega)
  have key : ∀ w, Sat σ w (bufC b q l.length c lr :: (M ++ L)) → g_bytes_Buffer_grow.k1 R (some ⟨b, 0, none⟩) m l.length w := by
    intro w h
    refine tryGrow_ok h hnc (by omega) (by omega) (by omega) (fun hh => absurd hh (by omega)) fun _ w h => ⟨_, _, rfl, ?_⟩
    refine br_false rfl ?_
    refine nilP_some ?_
    refine ⟨_, _, _, Sat.ld h (by first | assumption | (repeat (first | exact .head _ | apply List.Mem.tail))) (by exact rfl), ?_⟩
    refine ⟨_, _, eq_slice_nil rowU8.ht q _ c w, ?_⟩
    rcases hS.raw with ⟨rfl, hl0, rfl, rfl⟩ | ⟨g, sp, rfl, rfl, h3⟩
    · obtain rfl := List.eq_nil_of_length_eq_zero hl0
      by_cases h64 : m ≤ 64
      · refine br_true (by simp; omega) ?_
        have hmk := run_makeSlice (P := P) (w := w) ty_S_uint8 ty_uint8 rowU8.i rowU8.z rowU8.ht rowU8.hi rowU8.hz .i64 .i64 (m : Int) 64 (by omega) (by omega) (by rw [rowU8.hs]; decide) (by rw [rowU8.hb]; decide) (by omega)
        refine ⟨_, _, _, _, hmk, nilP_some ?_⟩
        rw [rowU8.hs]
        have hal := h.alc (madeCells rowU8.z.cells ((64 : Int).toNat * 1)).toList ty_uint8
        rw [show YtihmcipajjakgaaGreatDoor.alc w (madeCells rowU8.z.cells ((64 : Int).toNat * 1)).toList.toArray ty_uint8 = w.alloc (.cells (madeCells rowU8.z.cells ((64 : Int).toNat * 1)) ty_uint8) from by rw [Array.toArray_toList]; rfl] at hal
        generalize w.heap.size = g at hal ⊢
        refine Sat.st hal (k := 1) rfl (Nat.le_of_ble_eq_true rfl) trivial rfl fun w h => ?_
        refine hR w g 64 (madeCells rowU8.z.cells ((64 : Int).toNat * 1)).toList lr (by simpa using h64) (by omega) ?_ ?_
        · show ([] ++ (madeCells rowU8.z.cells ((64 : Int).toNat * 1)).toList).length = 64
          rw [List.nil_append, Array.length_toList, size_madeCells]; decide
        · have e : m = ([] : List UInt8).length + m := by simp
          rw [← e]
          have h : Sat σ w ((g, cel (madeCells rowU8.z.cells ((64 : Int).toNat * 1)).toList ty_uint8) :: bufC b (some ⟨g, 0, none⟩) m 64 lr :: L) := h
          exact h.up1
      · refine br_false (by simp; omega) ?_
        refine nilP_some ?_
        refine ⟨_, _, _, Sat.ld h (by first | assumption | (repeat (first | exact .head _ | apply List.Mem.tail))) (by exact rfl), ?_⟩
        refine ⟨_, _, capRun _ _ _ _ _ _ rowU8.ht w, by decide, ?_⟩
        refine br_false (by rw [show Int.tdiv ((0 : Nat) : Int) 2 = 0 from rfl]; simp (disch := omega) only [i64_in]; simp; omega) ?_
        refine br_false (by simp (disch := omega) only [i64_in]; simp; omega) ?_
        exact key2 w h (by omega)
    · refine br_false (by simp) ?_
      refine nilP_some ?_
      refine ⟨_, _, _, Sat.ld h (by first | assumption | (repeat (first | exact .head _ | apply List.Mem.tail))) (by exact rfl), ?_⟩
      refine ⟨_, _, capRun _ _ _ _ _ _ rowU8.ht w, by decide, ?_⟩
      have hd : Int.tdiv (c : Int) 2 = ((c / 2 : Nat) : Int) := by rw [Int.tdiv_eq_ediv_of_nonneg (by omega)]; omega
      rw [hd]
      refine br_false (by simp (disch := omega) only [i64_in]; simp; omega) ?_
      refine br_false (by simp (disch := omega) only [i64_in]; simp; omega) ?_
      exact key2 w h (by omega)
  refine br_split (fun h0 => ?_) (fun _ => key w h)
  refine nilP_some ?_
  refine ⟨_, Sat.ld h (by first | assumption | (repeat (first | exact .head _ | apply List.Mem.tail))) (by exact rfl), ?_⟩
  exact br_false rfl (key w h)
theorem u8size : (P.info? ty_uint8).map (·.size) = some 1 := by kernel_rfl
theorem byS_mk {b n c : Nat} {l : List UInt8} {sp : List Value} (hn : n = l.length) (h : (bc l ++ sp).length = c) : By (some ⟨b, 0, none⟩) n c l [(b, cel (bc l ++ sp) ty_uint8)] := by
  refine ⟨by rw [bc_length]; omega, ?_, .inr ⟨b, sp, rfl, rfl, by omega⟩⟩
  rw [List.length_append, bc_length] at h
  omega
theorem Sat.row {g : Nat} {cs : List Value} {e : TypeId} (h : Sat σ w ((g, cel cs e) :: L)) (o : Nat) (vs : List Value) (hl : o + vs.length ≤ cs.length) :
    Sat σ (w.setRow g (cs.take o ++ vs ++ cs.drop (o + vs.length)).toArray) ((g, cel (cs.take o ++ vs ++ cs.drop (o + vs.length)) e) :: L) := by
  have hg := h.at_ _ (.head _)
  refine ⟨h.os, h.out, h.nodup, fun c hc => ?_⟩
  cases hc with
  | head =>
    simp only [World.setRow, Array.getElem?_modify, if_true]
    rw [show w.heap[g]? = _ from hg]
    simp [cel]
  | tail _ hc =>
    have hne : g ≠ c.1 := by
      intro h1
      have := h.nodup
      simp only [List.map_cons, List.nodup_cons] at this
      exact this.1 (by rw [h1]; exact List.mem_map.2 ⟨c, hc, rfl⟩)
    simp only [World.setRow, Array.getElem?_modify, if_neg hne]
    exact h.at_ _ (.tail _ hc)
theorem writeK_ok {b g c : Nat} {lr : Int} {l s : List UInt8} {sp : List Value} (h : Sat σ w (bufC b (some ⟨g, 0, none⟩) (l.length + s.length) c lr :: (g, cel (bc l ++ sp) ty_uint8) :: L)) (hc : (bc l ++ sp).length = c) (hle : l.length + s.length ≤ c) (hc2 : c ≤ 9223372036854775807)
    (hR : ∀ w M, Buf b (l ++ s) M → Sat σ w (M ++ L) → R (.returned (.tuple #[.int .i64 s.length, .nilIface])) w) : g_bytes_Buffer_WriteString.k1 R (some ⟨b, 0, none⟩) (bs s) l.length w := by
  refine nilP_some ?_
  refine ⟨_, _, _, Sat.ld h (by first | assumption | (repeat (first | exact .head _ | apply List.Mem.tail))) (by exact rfl), ?_⟩
  refine ⟨_, _, _, _, sliceF rowU8.ht rowU8.hi _ (l.length + s.length) c l.length (by omega) w, ?_⟩
  have h : Sat σ w ((g, cel (bc l ++ sp) ty_uint8) :: bufC b (some ⟨g, 0, none⟩) (l.length + s.length) c lr :: L) := h.up1
  have hg := h.at_ _ (.head _)
  by_cases h0 : c = l.length
  · have hs : s = [] := List.eq_nil_of_length_eq_zero (by omega)
    subst hs
    rw [if_pos h0]
    have hcp := Lib.run_copy_row_string (P := P) w ty_S_uint8 ty_string ty_int ty_uint8 g 0 (l.length + ([] : List UInt8).length - l.length) (c - l.length) (bs []) (bc l ++ sp).toArray ty_uint8 rowU8.ht u8size hg (by simp) (by simp)
    refine ⟨_, _, hcp, ?_⟩
    have hrow := h.row 0 [] (by simp)
    have e1 : ((bc l ++ sp).toArray.toList.take 0 ++ Lib.byteCells (bs []).data.toList ++ (bc l ++ sp).toArray.toList.drop (0 + (bs []).size)) = (bc l ++ sp).take 0 ++ [] ++ (bc l ++ sp).drop (0 + ([] : List Value).length) := by
      simp [Lib.byteCells]
    rw [e1]
    have e2 : (bc l ++ sp).take 0 ++ [] ++ (bc l ++ sp).drop (0 + ([] : List Value).length) = bc l ++ sp := by simp
    rw [e2] at hrow ⊢
    refine hR _ (bufC b (some ⟨g, 0, none⟩) (l ++ []).length c lr :: [(g, cel (bc (l ++ []) ++ sp) ty_uint8)]) ⟨_, c, lr, _, rfl, byS_mk rfl (by rw [List.append_nil]; exact hc), hc2⟩ ?_
    rw [List.append_nil]
    exact hrow.up1
  · rw [if_neg h0]
    rw [rowU8.hs, Nat.mul_one]
    have e1 : (some (⟨g, 0, none⟩ : Addr)).map (·.add l.length) = some ⟨g, l.length, none⟩ := by simp [Addr.add_zero_lit]
    rw [e1]
    have hcp := Lib.run_copy_row_string (P := P) w ty_S_uint8 ty_string ty_int ty_uint8 g l.length (l.length + s.length - l.length) (c - l.length) (bs s) (bc l ++ sp).toArray ty_uint8 rowU8.ht u8size hg (by simp) (by simp at hc ⊢; omega)
    refine ⟨_, _, hcp, ?_⟩
    have hb : Lib.byteCells (bs s).data.toList = bc s := by simp [Lib.byteCells, bc, bs]
    rw [hb, bs_size]
    have hrow := h.row l.length (bc s) (by simp at hc ⊢; omega)
    rw [bc_length] at hrow
    have e2 : (bc l ++ sp).take l.length = bc l := by rw [← bc_length l, List.take_left]
    have e3 : (bc l ++ sp).drop (l.length + s.length) = sp.drop s.length := by
      rw [List.drop_append, List.drop_eq_nil_of_le (by rw [bc_length]; omega), bc_length, Nat.add_sub_cancel_left]; rfl
    rw [e2, e3] at hrow
    refine hR _ (bufC b (some ⟨g, 0, none⟩) (l ++ s).length c lr :: [(g, cel (bc (l ++ s) ++ sp.drop s.length) ty_uint8)]) ⟨_, c, lr, _, rfl, byS_mk rfl ?_, hc2⟩ ?_
    · simp at hc ⊢; omega
    · rw [List.length_append, bc_append]
      simp only [e2, e3]
      exact hrow.up1
end Go.Proofs.YtihmcipajjakgaaGreatDoor


set_option linter.unusedVariables false
namespace Go.Proofs.YtihmcipajjakgaaGreatDoor
open Go.Proofs Go.IntWalk Go.RowKit
variable {σ : Out} {w : World} {L L' : List Chunk} {R : Ending → World → Prop}
theorem copyNil (w : World) : (Builtin.copy_ #[ty_S_uint8, ty_string] ty_int #[.slice none 0 0, .string (bs [])]).run P w = .ok (.int .i64 0) w := by
  have h : P.underlying ty_S_uint8 = some (.slice ty_uint8) := rowU8.ht
  have h2 : P.info? ty_uint8 = some rowU8.i := rowU8.hi
  have h3 := firstCells_string (P := P) (bs []) w
  have h4 : (Builtin.lenOf (.string (bs []))).run P w = .ok 0 w := rfl
  have h5 : rowU8.i.size = 1 := rowU8.hs
  have h6 : (Builtin.firstCells 1 0 (.string (bs []))).run P w = .ok (Go.byteCells (bs [])).toArray w := h3
  simp [Builtin.copy_, run_underlying h, sizeOf, typeInfo, h2, goInt, h4, h5, h6]
theorem writeS_ok {b : Nat} {l s : List UInt8} {M : List Chunk} (hB : Buf b l M) (h : Sat σ w (M ++ L)) (hb : l.length + s.length ≤ 1099511627776)
    (hR : ∀ w M', Buf b (l ++ s) M' → Sat σ w (M' ++ L) → R (.returned (.tuple #[.int .i64 s.length, .nilIface])) w) : callE P i_bytes_Buffer_WriteString #[.pointer (some ⟨b, 0, none⟩), .string (bs s)] R w := by
  obtain ⟨q, c, lr, M0, rfl, hS, hc⟩ := hB
  have hnc := hS.2.1
  refine g_bytes_Buffer_WriteString.sound ?_
  refine nilP_some ?_
  refine Sat.st h (k := 0) rfl (Nat.le_of_ble_eq_true rfl) trivial (by first | (dsimp only [List.set]; exact rfl) | exact rfl) fun w h => ?_
  have h : Sat σ w (bufC b q l.length c 0 :: (M0 ++ L)) := h
  rw [bs_size]
  refine tryGrow_ok h hnc hc (by omega) (by omega) (fun hh w h => ⟨_, _, rfl, br_false rfl ?_⟩) (fun hh w h => ⟨_, _, rfl, br_true rfl ?_⟩)
  · rcases hS.raw with ⟨rfl, hl0, rfl, rfl⟩ | ⟨g, sp, rfl, rfl, h3⟩
    · obtain rfl := List.eq_nil_of_length_eq_zero hl0
      obtain rfl : s = [] := List.eq_nil_of_length_eq_zero (by simpa using hh)
      refine nilP_some ?_
      refine ⟨_, _, _, Sat.ld h (by first | assumption | (repeat (first | exact .head _ | apply List.Mem.tail))) (by exact rfl), ?_⟩
      refine ⟨_, _, _, _, sliceF rowU8.ht rowU8.hi none 0 0 0 (by omega) w, ?_⟩
      refine ⟨_, _, copyNil w, ?_⟩
      exact hR w _ ⟨none, 0, 0, [], rfl, By.nil, by omega⟩ h
    · exact writeK_ok h h3 hh hc fun w M' hB h => hR w M' hB h
  · refine grow_ok h hS (by omega) hh hb fun w g c' sp lr h1 h2 h3 h => ⟨_, rfl, ?_⟩
    exact writeK_ok h h3 h1 h2 fun w M' hB h => hR w M' hB h
theorem writeB_ok {b : Nat} {l : List UInt8} {k : UInt8} {M : List Chunk} (hB : Buf b l M) (h : Sat σ w (M ++ L)) (hb : l.length + 1 ≤ 1099511627776)
    (hR : ∀ w M', Buf b (l ++ [k]) M' → Sat σ w (M' ++ L) → R (.returned .nilIface) w) : callE P i_bytes_Buffer_WriteByte #[.pointer (some ⟨b, 0, none⟩), .int .u8 (k.toNat : Int)] R w := by
  obtain ⟨q, c, lr, M0, rfl, hS, hc⟩ := hB
  have hnc := hS.2.1
  refine g_bytes_Buffer_WriteByte.sound ?_
  refine nilP_some ?_
  refine Sat.st h (k := 0) rfl (Nat.le_of_ble_eq_true rfl) trivial (by first | (dsimp only [List.set]; exact rfl) | exact rfl) fun w h => ?_
  have h : Sat σ w (bufC b q l.length c 0 :: (M0 ++ L)) := h
  have key : ∀ w g c' sp lr, l.length + 1 ≤ c' → c' ≤ 9223372036854775807 → (bc l ++ sp).length = c' → Sat σ w (bufC b (some ⟨g, 0, none⟩) (l.length + 1) c' lr :: (g, cel (bc l ++ sp) ty_uint8) :: L) →
      g_bytes_Buffer_WriteByte.k1 R (some ⟨b, 0, none⟩) (k.toNat : Int) (l.length : Int) w := by
    intro w g c' sp lr h1 h2 h3 h
    refine nilP_some ?_
    refine ⟨_, _, _, Sat.ld h (by first | assumption | (repeat (first | exact .head _ | apply List.Mem.tail))) (by exact rfl), ?_⟩
    refine ⟨by omega, by omega, nilP_some ?_⟩
    simp only [Addr.add_lit, Int.toNat_natCast, Nat.mul_one, Nat.zero_add, Nat.add_zero]
    simp only [List.length_append, bc_length] at h3
    refine Sat.st h (k := 1) rfl (by simp; omega) trivial rfl fun w h => ?_
    have e : (bc l ++ sp).set l.length (.int .u8 (k.toNat : Int)) = bc (l ++ [k]) ++ sp.drop 1 := by
      rw [List.set_append_right _ _ (by simp), bc_length, Nat.sub_self, bc_append]
      cases sp with
      | nil => simp at h3; omega
      | cons x sp => simp [bc]
    have h : Sat σ w (bufC b (some ⟨g, 0, none⟩) (l.length + 1) c' lr :: (g, cel ((bc l ++ sp).set l.length (.int .u8 (k.toNat : Int))) ty_uint8) :: L) := h
    rw [e] at h
    refine hR w (bufC b (some ⟨g, 0, none⟩) (l ++ [k]).length c' lr :: [(g, cel (bc (l ++ [k]) ++ sp.drop 1) ty_uint8)]) ⟨_, c', lr, _, rfl, byS_mk rfl (by simp; omega), h2⟩ ?_
    rw [List.length_append]
    exact h
  refine tryGrow_ok (m := 1) h hnc hc (by omega) (by omega) (fun hh w h => ⟨_, _, rfl, br_false rfl ?_⟩) (fun hh w h => ⟨_, _, rfl, br_true rfl ?_⟩)
  · rcases hS.raw with ⟨rfl, hl0, rfl, rfl⟩ | ⟨g, sp, rfl, rfl, h3⟩
    · omega
    · exact key w g c sp 0 hh hc h3 h
  · exact grow_ok (m := 1) h hS (by omega) hh hb fun w g c' sp lr h1 h2 h3 h => ⟨_, rfl, key w g c' sp lr h1 h2 h3 h⟩
theorem bufStr_ok {b : Nat} {l : List UInt8} {M : List Chunk} (hB : Buf b l M) (h : Sat σ w (M ++ L)) (hR : ∀ w, Sat σ w (M ++ L) → R (.returned (.string (bs l))) w) :
    callE P i_bytes_Buffer_String #[.pointer (some ⟨b, 0, none⟩)] R w := by
  obtain ⟨q, c, lr, M0, rfl, hS, hc⟩ := hB
  refine g_bytes_Buffer_String.sound ?_
  refine ⟨_, _, ptrNil_eq (e := ty_bytes_Buffer) (by kernel_rfl) _ w, br_false rfl ?_⟩
  refine Sat.tk h fun w h => ?_
  refine nilP_some (nilP_some ?_)
  refine ⟨_, _, _, Sat.ld h (by first | assumption | (repeat (first | exact .head _ | apply List.Mem.tail))) (by exact rfl), ?_⟩
  refine ⟨_, Sat.ld h (by first | assumption | (repeat (first | exact .head _ | apply List.Mem.tail))) (by exact rfl), ?_⟩
  refine ⟨_, _, _, fun w => sliceF rowU8.ht rowU8.hi q l.length c 0 (by omega) w, ?_⟩
  have e0 : (if c = 0 then q else q.map (·.add (0 * rowU8.i.size))) = q := by
    rw [Nat.zero_mul]
    split
    · rfl
    · cases q <;> rfl
  rw [e0, Nat.sub_zero, Nat.sub_zero]
  have h' : Sat σ w (M0 ++ (bufC b q l.length c lr :: L)) := h.re (by intro _; simp only [List.append_eq, cnt_append, cnt_cons, cnt_nil] <;> omega)
  exact ⟨_, _, hS.str h', hR w h⟩
theorem bufNew (b : Nat) : Buf b [] [(b, cel [.slice none 0 0, .int .i64 0, .int .i8 0] ty_bytes_Buffer)] := ⟨none, 0, 0, [], rfl, By.nil, by omega⟩
end Go.Proofs.YtihmcipajjakgaaGreatDoor


set_option linter.unusedVariables false
namespace Go.Proofs.YtihmcipajjakgaaGreatDoor
open Go.Proofs Go.IntWalk Go.RowKit
variable {σ : Out} {w : World} {L L' : List Chunk} {R : Ending → World → Prop}
abbrev bldC (b : Nat) (p q : Option Addr) (n c : Nat) : Chunk := (b, cel [.pointer p, .slice q n c] ty_strings_Builder)
def Bld (b : Nat) (g : Bool) (l : List UInt8) (M : List Chunk) : Prop :=
  ∃ p q c M0, M = bldC b p q l.length c :: M0 ∧ By q l.length c l M0 ∧ (p = none ∨ p = some ⟨b, 0, none⟩) ∧ q.isSome = g ∧ (g = true → 0 < c)
theorem bldNew (b : Nat) : Bld b false [] [(b, cel [.pointer none, .slice none 0 0] ty_strings_Builder)] := ⟨none, none, 0, [], rfl, By.nil, .inl rfl, rfl, by simp⟩
theorem Sat.shape (h : Sat σ w L) {b : Nat} {cs : List Value} {e : TypeId} (hm : (b, cel cs e) ∈ L) : w.shape? b = some (e, cs.length) := by
  have := h.at_ _ hm
  simp only [cel] at this
  simp [World.shape?, this]
theorem copyCheck_ok {b : Nat} {p q : Option Addr} {n c : Nat} (h : Sat σ w (bldC b p q n c :: L)) (hp : p = none ∨ p = some ⟨b, 0, none⟩)
    (hR : ∀ w, Sat σ w (bldC b (some ⟨b, 0, none⟩) q n c :: L) → R (.returned (.tuple #[])) w) : callE P i_strings_Builder_copyCheck #[.pointer (some ⟨b, 0, none⟩)] R w := by
  have hu : P.underlying ty_P_strings_Builder = some (.pointer ty_strings_Builder) := by kernel_rfl
  have hun : P.underlying ty_unsafe_Pointer = some .unsafePointer := by kernel_rfl
  have hi : P.info? ty_strings_Builder = some ((P.info? ty_strings_Builder).getD default) := by kernel_rfl
  have hs : ((P.info? ty_strings_Builder).getD default).size = 2 := by kernel_rfl
  have hsh := h.shape (.head _)
  refine g_strings_Builder_copyCheck.sound ?_
  refine nilP_some ?_
  refine ⟨_, Sat.ld h (by first | assumption | (repeat (first | exact .head _ | apply List.Mem.tail))) (by exact rfl), ?_⟩
  refine ⟨_, _, ptrNil_eq hu _ w, ?_⟩
  rcases hp with rfl | rfl
  · refine br_true rfl ?_
    refine ⟨_, _, Lib.run_to_unsafe w ⟨b, 0, none⟩ hu hun hi (by rw [hs]; decide) hsh (Nat.zero_lt_succ _), ?_⟩
    refine noEscape_ok ⟨_, rfl, ?_⟩
    refine ⟨_, _, Lib.run_from_unsafe w ⟨b, 0, none⟩ hun hu hi hsh (by kernel_rfl), ?_⟩
    refine nilP_some ?_
    refine Sat.st h (k := 0) rfl (Nat.le_of_ble_eq_true rfl) trivial (by first | (dsimp only [List.set]; exact rfl) | exact rfl) fun w h => ?_
    exact hR _ h
  · refine br_false rfl ?_
    refine nilP_some ?_
    refine ⟨_, Sat.ld h (by first | assumption | (repeat (first | exact .head _ | apply List.Mem.tail))) (by exact rfl), ?_⟩
    refine ⟨_, _, neq_ptr_same hu hi (by rw [hs]; decide) b w, br_false rfl ?_⟩
    exact hR _ h
theorem bldS_ok {b : Nat} {g : Bool} {l s : List UInt8} {M : List Chunk} (hB : Bld b g l M) (h : Sat σ w (M ++ L)) (h0 : s ≠ [] ∨ g = true) (hb : l.length + s.length ≤ 1099511627776)
    (hR : ∀ w M', Bld b true (l ++ s) M' → Sat σ w (M' ++ L) → R (.returned (.tuple #[.int .i64 s.length, .nilIface])) w) : callE P i_strings_Builder_WriteString #[.pointer (some ⟨b, 0, none⟩), .string (bs s)] R w := by
  obtain ⟨p, q, c, M0, rfl, hS, hp, hg, hc⟩ := hB
  refine g_strings_Builder_WriteString.sound ?_
  refine copyCheck_ok h hp fun w h => ⟨rfl, ?_⟩
  refine nilP_some ?_
  refine ⟨_, _, _, Sat.ld h (by first | assumption | (repeat (first | exact .head _ | apply List.Mem.tail))) (by exact rfl), ?_⟩
  have h : Sat σ w (M0 ++ (bldC b (some ⟨b, 0, none⟩) q l.length c :: L)) := h.re (by intro _; simp only [List.append_eq, cnt_append, cnt_cons, cnt_nil] <;> omega)
  have h0' : s ≠ [] ∨ q ≠ none := h0.imp id (fun hg1 => by rw [← hg] at hg1; intro h; rw [h] at hg1; cases hg1)
  refine hS.appS h s h0' hb fun q' c' w M' hS' h hq' hcc => ?_
  have h : Sat σ w (bldC b (some ⟨b, 0, none⟩) q l.length c :: (M' ++ L)) := h.re (by intro _; simp only [List.append_eq, cnt_append, cnt_cons, cnt_nil] <;> omega)
  refine nilP_some ?_
  refine Sat.st h (k := 0) rfl (Nat.le_of_ble_eq_true rfl) trivial (by first | (dsimp only [List.set]; exact rfl) | exact rfl) fun w h => ?_
  rw [bs_size]
  have hc' : 0 < c' := by
    rcases h0 with h0 | h0
    · have := hS'.2.1
      have := List.length_pos_iff.2 h0
      omega
    · have := hc h0; omega
  rw [← List.length_append] at hS'
  refine hR w (bldC b (some ⟨b, 0, none⟩) q' (l ++ s).length c' :: M') ⟨_, _, _, _, rfl, hS', .inr rfl, Option.isSome_iff_ne_none.2 hq', fun _ => hc'⟩ ?_
  rw [List.length_append]
  exact h
theorem bldB_ok {b : Nat} {g : Bool} {l : List UInt8} {k : UInt8} {M : List Chunk} (hB : Bld b g l M) (h : Sat σ w (M ++ L)) (hb : l.length + 1 ≤ 1099511627776)
    (hR : ∀ w M', Bld b true (l ++ [k]) M' → Sat σ w (M' ++ L) → R (.returned .nilIface) w) : callE P i_strings_Builder_WriteByte #[.pointer (some ⟨b, 0, none⟩), .int .u8 (k.toNat : Int)] R w := by
  obtain ⟨p, q, c, M0, rfl, hS, hp, hg, hc⟩ := hB
  refine g_strings_Builder_WriteByte.sound ?_
  refine copyCheck_ok h hp fun w h => ⟨rfl, ?_⟩
  refine nilP_some ?_
  refine ⟨_, _, _, Sat.ld h (by first | assumption | (repeat (first | exact .head _ | apply List.Mem.tail))) (by exact rfl), ?_⟩
  have h : Sat σ w (M0 ++ (bldC b (some ⟨b, 0, none⟩) q l.length c :: L)) := h.re (by intro _; simp only [List.append_eq, cnt_append, cnt_cons, cnt_nil] <;> omega)
  refine hS.app1 h k hb fun q' c' w M' hS' h => ?_
  have h : Sat σ w (bldC b (some ⟨b, 0, none⟩) q l.length c :: (M' ++ L)) := h.re (by intro _; simp only [List.append_eq, cnt_append, cnt_cons, cnt_nil] <;> omega)
  refine nilP_some ?_
  refine Sat.st h (k := 0) rfl (Nat.le_of_ble_eq_true rfl) trivial (by first | (dsimp only [List.set]; exact rfl) | exact rfl) fun w h => ?_
  have hq' : q'.isSome = true := by
    rcases hS'.raw with ⟨_, h2, _, _⟩ | ⟨b', sp, rfl, _, _⟩
    · omega
    · rfl
  refine hR w (bldC b (some ⟨b, 0, none⟩) q' (l ++ [k]).length c' :: M') ⟨_, _, _, _, rfl, by rw [List.length_append]; exact hS', .inr rfl, hq', fun _ => by have := hS'.2.1; omega⟩ ?_
  rw [List.length_append]
  exact h
theorem Sat.freeze {b : Nat} {cs : List Value} {e : TypeId} (h : Sat σ w ((b, cel cs e) :: L)) (n : Nat) : Sat σ (w.freeze ⟨b, 0, none⟩ n) L := by
  unfold World.freeze
  split
  · exact h.tail
  · refine ⟨h.os, h.out, h.tail.nodup, fun c hc => ?_⟩
    have hne : b ≠ c.1 := by
      intro h1
      have := h.nodup
      simp only [List.map_cons, List.nodup_cons] at this
      exact this.1 (by rw [h1]; exact List.mem_map.2 ⟨c, hc, rfl⟩)
    simp only [Array.getElem?_modify, if_neg hne]
    exact h.at_ _ (.tail _ hc)
theorem bldStr_ok {b : Nat} {g : Bool} {l : List UInt8} {M : List Chunk} (hB : Bld b g l M) (h : Sat σ w (M ++ L)) (hl : l.length < 4611686018427387904) (hR : ∀ w, Sat σ w L → R (.returned (.string (bs l))) w) :
    callE P i_strings_Builder_String #[.pointer (some ⟨b, 0, none⟩)] R w := by
  obtain ⟨p, q, c, M0, rfl, hS, hp, hg, hc⟩ := hB
  refine g_strings_Builder_String.sound ?_
  refine Sat.tk h fun w h => ?_
  refine nilP_some (nilP_some ?_)
  refine ⟨_, _, _, Sat.ld h (by first | assumption | (repeat (first | exact .head _ | apply List.Mem.tail))) (by exact rfl), ?_⟩
  refine ⟨_, _, _, Sat.ld h (by first | assumption | (repeat (first | exact .head _ | apply List.Mem.tail))) (by exact rfl), ?_⟩
  rcases hS.raw with ⟨rfl, hl0, rfl, rfl⟩ | ⟨gb, sp, rfl, rfl, h3⟩
  · obtain rfl := List.eq_nil_of_length_eq_zero hl0
    refine ⟨_, _, Lib.run_unsafeSliceData_nil (P := P) (w := w) _ _ _ _, fun _ _ => rfl, ?_⟩
    refine ⟨_, _, Lib.run_unsafeString_none (P := P) (w := w) _ _ _ _, hR _ h.tail⟩
  · refine ⟨_, _, Lib.run_unsafeSliceData_row (P := P) (w := w) _ _ _ _ _ (by have := hc (by rw [← hg]; rfl); omega), fun _ _ => rfl, ?_⟩
    have h' : Sat σ w ((gb, cel (bc l ++ sp) ty_uint8) :: L) := h.tail
    by_cases hl0 : l = []
    · subst hl0
      refine ⟨_, _, Lib.run_unsafeString_none (P := P) (w := w) _ _ _ _, hR _ h'.tail⟩
    · refine ⟨_, _, Lib.run_unsafeString_row (w := w) ty_P_uint8 ty_int ty_string ty_uint8 (by kernel_rfl) (by kernel_rfl) gb _ (h'.shape (.head _)) l hl0 (by simp) (by omega) (fun j x hj => ?_), hR _ (h'.freeze _)⟩
      rw [Addr.add_zero_lit]
      have hj' := (List.getElem?_eq_some_iff.1 hj).1
      refine h'.ld (.head _) ?_
      rw [List.getElem?_append_left (by rw [bc_length]; exact hj'), bc_get hj']
      rw [(List.getElem?_eq_some_iff.1 hj).2]
end Go.Proofs.YtihmcipajjakgaaGreatDoor


set_option linter.unusedVariables false
namespace Go.Proofs.YtihmcipajjakgaaGreatDoor
open Go.Proofs Go.IntWalk Go.RowKit
variable {σ : Out} {w : World} {L L' : List Chunk} {R : Ending → World → Prop}
abbrev Prs := List (UInt8 × List UInt8)
def escB (ps : Prs) (c : UInt8) : List UInt8 := match ps.find? (fun p => p.1 == c) with | some p => p.2 | none => [c]
def escS (ps : Prs) (s : List UInt8) : List UInt8 := s.flatMap (escB ps)
def pairC : Prs → List Value
  | [] => []
  | p :: ps => .string (bs [p.1]) :: .string (bs p.2) :: pairC ps
theorem pairC_key : ∀ {ps : Prs} {j : Nat} (h : j < ps.length), (pairC ps)[2 * j]? = some (.string (bs [ps[j].1]))
  | p :: ps, 0, h => rfl
  | p :: ps, j + 1, h => by
    rw [show 2 * (j + 1) = 2 * j + 1 + 1 by omega]
    simp only [pairC, List.getElem?_cons_succ, List.getElem_cons_succ]
    exact pairC_key (by simpa using h)
theorem pairC_val : ∀ {ps : Prs} {j : Nat} (h : j < ps.length), (pairC ps)[2 * j + 1]? = some (.string (bs ps[j].2))
  | p :: ps, 0, h => rfl
  | p :: ps, j + 1, h => by
    rw [show 2 * (j + 1) + 1 = 2 * j + 1 + 1 + 1 by omega]
    simp only [pairC, List.getElem?_cons_succ, List.getElem_cons_succ]
    exact pairC_val (by simpa using h)
def small8 (ps : Prs) : Bool := ps.all fun p => p.2.length ≤ 8
theorem escB_length {ps : Prs} (h : small8 ps = true) (c : UInt8) : (escB ps c).length ≤ 8 := by
  unfold escB
  split
  · rename_i p hp
    have := List.mem_of_find?_eq_some hp
    simpa using (List.all_eq_true.1 h) p this
  · simp
theorem escS_length {ps : Prs} (h : small8 ps = true) : ∀ s : List UInt8, (escS ps s).length ≤ 8 * s.length
  | [] => by simp [escS]
  | c :: s => by
    have := escS_length h s
    have := escB_length h c
    simp only [escS, List.flatMap_cons, List.length_append, List.length_cons] at *
    omega
theorem escS_cons (ps : Prs) (c : UInt8) (s : List UInt8) : escS ps (c :: s) = escB ps c ++ escS ps s := by simp [escS]
theorem escS_append (ps : Prs) (s t : List UInt8) : escS ps (s ++ t) = escS ps s ++ escS ps t := by simp [escS]

theorem writePairs_ok {b pb c : Nat} {e : TypeId} {l s : List UInt8} {ps : Prs} {M : List Chunk} (hB : Buf b l M) (h : Sat σ w (M ++ L)) (hp : (pb, cel (pairC ps) e) ∈ L) (h8 : small8 ps = true) (hpl : ps.length < 100000)
    (hs : s.length < 4611686018427387904) (hb : l.length + 8 * s.length ≤ 1099511627776)
    (hR : ∀ w M', Buf b (l ++ escS ps s) M' → Sat σ w (M' ++ L) → R (.returned (.tuple #[])) w) :
    callE P i_zzPairs_WriteString #[.slice (some ⟨pb, 0, none⟩) (2 * ps.length) c, .pointer (some ⟨b, 0, none⟩), .string (bs s)] R w := by
  refine g_zzPairs_WriteString.sound ?_
  intro X hX
  have key : ∀ k i l w M, i + k = s.length → Buf b l M → Sat σ w (M ++ L) → l.length + 8 * k ≤ 1099511627776 → (∀ w M', Buf b (l ++ escS ps (s.drop i)) M' → Sat σ w (M' ++ L) → R (.returned (.tuple #[])) w) →
      X (some ⟨pb, 0, none⟩) (2 * ps.length) c (some ⟨b, 0, none⟩) (bs s) i w := by
    intro k
    induction k with
    | zero =>
      intro i l w M hi hB h hb hR
      refine hX _ _ _ _ _ _ _ (br_false (by simp; omega) ?_)
      refine hR w M ?_ h
      rw [List.drop_eq_nil_of_le (by omega)]
      simpa [escS] using hB
    | succ k ih =>
      intro i l w M hi hB h hb hR
      have hil : i < s.length := by omega
      rw [List.drop_eq_getElem_cons hil, escS_cons, ← List.append_assoc] at hR
      have hlen8 := escB_length h8 s[i]
      refine hX _ _ _ _ _ _ _ (br_true (by simp; omega) ?_)
      intro Y hY
      have key2 : ∀ m j w, j + m = ps.length → ps.find? (fun p => p.1 == s[i]) = (ps.drop j).find? (fun p => p.1 == s[i]) → Sat σ w (M ++ L) → Y (some ⟨pb, 0, none⟩) (2 * ps.length) c (some ⟨b, 0, none⟩) (bs s) i ((2 * j : Nat) : Int) w := by
        intro m
        induction m with
        | zero =>
          intro j w hj hf h
          refine hY _ _ _ _ _ _ _ _ (br_false (by simp; omega) ?_)
          refine ⟨by omega, by simp; omega, ?_⟩
          rw [bt_at hil]
          have he : escB ps s[i] = [s[i]] := by
            unfold escB
            rw [hf, List.drop_eq_nil_of_le (by omega)]
            rfl
          rw [he] at hR hlen8
          refine writeB_ok hB h (by omega) fun w M' hB h => ⟨_, rfl, ?_⟩
          rw [i64_inc (by omega)]
          exact ih (i + 1) _ w M' (by omega) hB h (by simp; omega) hR
        | succ m ihm =>
          intro j w hj hf h
          have hjl : j < ps.length := by omega
          refine hY _ _ _ _ _ _ _ _ (br_true (by simp; omega) ?_)
          refine Sat.tk h fun w h => ?_
          refine ⟨by omega, by simp; omega, by omega, by omega, nilP_some ?_⟩
          simp only [Addr.add_lit, Int.toNat_natCast, Nat.mul_one, Nat.zero_add]
          refine ⟨_, Sat.ld h (List.mem_append_right _ hp) (pairC_key hjl), by omega, by simp, ?_⟩
          rw [bt_at hil, show bt (bs [ps[j].1]) 0 = (ps[j].1.toNat : Int) from rfl, u8_beq]
          by_cases hk : s[i] = ps[j].1
          · refine br_true (by simp [hk]) ?_
            have e1 : IntKind.i64.wrap (((2 * j : Nat) : Int) + 1) = ((2 * j + 1 : Nat) : Int) := i64_inc (by omega)
            rw [e1]
            refine ⟨by omega, by omega, nilP_some ?_⟩
            simp only [Addr.add_lit, Int.toNat_natCast, Nat.mul_one, Nat.zero_add]
            refine ⟨_, Sat.ld h (List.mem_append_right _ hp) (pairC_val hjl), ?_⟩
            have he : escB ps s[i] = ps[j].2 := by
              unfold escB
              rw [hf, List.drop_eq_getElem_cons hjl, List.find?_cons_of_pos (by simp [hk])]
            rw [he] at hR hlen8
            refine writeS_ok hB h (by omega) fun w M' hB h => ⟨_, _, rfl, ?_⟩
            rw [i64_inc (by omega)]
            exact ih (i + 1) _ w M' (by omega) hB h (by simp; omega) hR
          · refine br_false (by simpa using hk) ?_
            have e1 : IntKind.i64.wrap (((2 * j : Nat) : Int) + 2) = ((2 * (j + 1) : Nat) : Int) := by simp (disch := omega) only [i64_in]; omega
            rw [e1]
            refine ihm (j + 1) w (by omega) ?_ h
            rw [hf, List.drop_eq_getElem_cons hjl, List.find?_cons_of_neg (by simpa using fun h => hk h.symm)]
      exact key2 ps.length 0 w (by omega) (by rw [List.drop_zero]) h
  exact key s.length 0 l w M (by omega) hB h hb (by rw [List.drop_zero]; exact hR)

theorem pairsReplace_ok {pb c : Nat} {e : TypeId} {s : List UInt8} {ps : Prs} (h : Sat σ w L) (hp : (pb, cel (pairC ps) e) ∈ L) (h8 : small8 ps = true) (hpl : ps.length < 100000) (hs : s.length < 4294967296)
    (hR : ∀ w, Sat σ w L → R (.returned (.string (bs (escS ps s)))) w) :
    callE P i_zzPairs_Replace #[.slice (some ⟨pb, 0, none⟩) (2 * ps.length) c, .string (bs s)] R w := by
  refine g_zzPairs_Replace.sound ?_
  refine Sat.bx h fun b w h => ?_
  refine writePairs_ok (bufNew b) h hp h8 hpl (by omega) (by simp; omega) fun w M hB h => ⟨rfl, ?_⟩
  rw [List.nil_append] at hB
  exact bufStr_ok hB h fun w h => ⟨_, rfl, hR w (h.less M (by intro _; simp only [List.append_eq, cnt_append, cnt_cons, cnt_nil] <;> omega))⟩

theorem buildR {t e : TypeId} {n : Nat} {ps : Array (Nat × Value)} {cs : List Value} (h : Sat σ w L) (ht : P.underlying t = some (.slice e)) (hi : P.info? e = some ((P.info? e).getD default))
    (hz : ((P.info? e).getD default).zero = some (((P.info? e).bind (·.zero)).getD default)) (hs : ((P.info? e).getD default).size = 1) (hn : n ≤ 1000) (hn0 : n ≠ 0)
    (hfill : Instr.fill (fun i => some (i * 1, 1)) ((Array.range (n * 1)).map ((((P.info? e).bind (·.zero)).getD default).cells[· % (((P.info? e).bind (·.zero)).getD default).cells.size]!)) ps.toList = some cs.toArray) {K : Option Addr → Nat → Nat → World → Prop}
    (hK : ∀ b w, Sat σ w ((b, cel cs e) :: L) → K (some ⟨b, 0, none⟩) n n w) : ∃ rq rn rc w1, (Instr.buildSlice t n ps).run P w = .ok (.slice rq rn rc) w1 ∧ K rq rn rc w1 := by
  have hrun := run_buildSlice (P := P) w t e n ps cs.toArray _ _ ht hi hz (by rw [hs]; omega) (by rw [hs]; omega) (by rw [hs]; exact hfill)
  exact ⟨_, _, _, _, hrun, hK _ _ (h.alc cs e)⟩
def htmlPs : Prs := [(34, [38, 113, 117, 111, 116, 59]), (38, [38, 97, 109, 112, 59]), (60, [38, 108, 116, 59]), (62, [38, 103, 116, 59])]
theorem buildPairs {n : Nat} {ps : Array (Nat × Value)} (pr : Prs) (h : Sat σ w L) (hn : n ≤ 1000) (hn0 : n ≠ 0)
    (hfill : Instr.fill (fun i => some (i * 1, 1)) ((Array.range (n * 1)).map ((((P.info? ty_string).bind (·.zero)).getD default).cells[· % (((P.info? ty_string).bind (·.zero)).getD default).cells.size]!)) ps.toList = some (pairC pr).toArray) {K : Option Addr → Nat → Nat → World → Prop}
    (hK : ∀ b w, Sat σ w ((b, cel (pairC pr) ty_string) :: L) → K (some ⟨b, 0, none⟩) n n w) : ∃ rq rn rc w1, (Instr.buildSlice ty_zzPairs n ps).run P w = .ok (.slice rq rn rc) w1 ∧ K rq rn rc w1 :=
  buildR h (by kernel_rfl) (by kernel_rfl) (by kernel_rfl) (by kernel_rfl) hn hn0 hfill hK
theorem htmlEscaper_ok (h : Sat σ w L) (hR : ∀ w b, Sat σ w ((b, cel (pairC htmlPs) ty_string) :: L) → R (.returned (.slice (some ⟨b, 0, none⟩) 8 8)) w) : callE P i_htmlEscaper #[] R w := by
  refine g_htmlEscaper.sound ?_
  exact buildPairs htmlPs h (by decide) (by decide) (by kernel_rfl) fun b w h => hR w b h
theorem htmlQuoteEscaper_ok (h : Sat σ w L) (hR : ∀ w b, Sat σ w ((b, cel (pairC htmlPs) ty_string) :: L) → R (.returned (.slice (some ⟨b, 0, none⟩) 8 8)) w) : callE P i_htmlQuoteEscaper #[] R w := by
  refine g_htmlQuoteEscaper.sound ?_
  exact buildPairs htmlPs h (by decide) (by decide) (by kernel_rfl) fun b w h => hR w b h
end Go.Proofs.YtihmcipajjakgaaGreatDoor


set_option linter.unusedVariables false
namespace Go.Proofs.YtihmcipajjakgaaGreatDoor
open Go.Proofs Go.IntWalk Go.RowKit
variable {σ : Out} {w : World} {L L' : List Chunk} {R : Ending → World → Prop}
def Prints (m : String) (v : Value) (T T' : List Chunk) (f : List UInt8 → List UInt8) : Prop :=
  (∀ l, l.length ≤ (f l).length) ∧
  ∀ (σ : Out) (R : Ending → World → Prop) b l M L w, Buf b l M → Sat σ w (M ++ (T ++ L)) → (f l).length ≤ 549755813888 →
    (∀ w M', Buf b (f l) M' → Sat σ w (M' ++ (T' ++ L)) → R (.returned (.tuple #[])) w) → enterE P (callMethod v m #[.pointer (some ⟨b, 0, none⟩)]) R w
inductive PrintsL (m : String) : List Value → List Chunk → List Chunk → (List UInt8 → List UInt8) → Prop where
  | nil : PrintsL m [] [] [] id
  | cons {v : Value} {vs : List Value} {T T' K K' : List Chunk} {f g : List UInt8 → List UInt8} : Prints m v T T' f → PrintsL m vs K K' g → PrintsL m (v :: vs) (T ++ K) (T' ++ K') (g ∘ f)
theorem PrintsL.mono {m : String} {vs : List Value} {K K' : List Chunk} {f : List UInt8 → List UInt8} (h : PrintsL m vs K K' f) : ∀ l, l.length ≤ (f l).length := by
  induction h with
  | nil => exact fun l => Nat.le_refl _
  | cons h1 _ ih => exact fun l => Nat.le_trans (h1.1 l) (ih _)
theorem printLoop {m : String} {b : Nat} {X : Int → World → Prop} {q : Option Addr} {n c : Nat} {e : TypeId} {vs : List Value} {RM KM KM' M : List Chunk} {l : List UInt8} {f : List UInt8 → List UInt8} {END : World → Prop} (hS : Sl 1 e q n c vs RM)
    (hX : ∀ (j : Int) w, br (decide (j < (n : Int))) (0 ≤ j ∧ j < (n : Int) ∧ nilP q fun a => ∃ (v : Value), w.cell? (a.add (Int.toNat j * 1)) = some v ∧
      enterE P (callMethod v m #[.pointer (some ⟨b, 0, none⟩)]) (fun e w' => e = .returned (.tuple #[]) ∧ X (IntKind.i64.wrap (j + 1)) w') w) (END w) → X j w)
    (hP : PrintsL m vs KM KM' f) (hB : Buf b l M) (h : Sat σ w (M ++ (RM ++ (KM ++ L)))) (hn : n < 4611686018427387904) (hb : (f l).length ≤ 549755813888)
    (hE : ∀ w M', Buf b (f l) M' → Sat σ w (M' ++ (RM ++ (KM' ++ L))) → END w) : X 0 w := by
  have hl := hS.1
  have key : ∀ (vs2 : List Value) (KM KM' : List Chunk) (f : List UInt8 → List UInt8), PrintsL m vs2 KM KM' f → ∀ (vs1 : List Value) (D : List Chunk) l M w, vs1 ++ vs2 = vs → Buf b l M → Sat σ w (M ++ (RM ++ (D ++ (KM ++ L)))) → (f l).length ≤ 549755813888 →
      (∀ w M', Buf b (f l) M' → Sat σ w (M' ++ (RM ++ (D ++ (KM' ++ L)))) → END w) → X (vs1.length : Nat) w := by
    intro vs2 KM KM' f hP
    induction hP with
    | nil =>
      intro vs1 D l M w hv hB h hb hE
      refine hX _ _ (br_false ?_ (hE w M hB h))
      rw [← hv] at hl
      simp at hl
      simp; omega
    | @cons v vs2 T T' K K' f g h1 h2 ih =>
      intro vs1 D l M w hv hB h hb hE
      have hlen : vs1.length < n := by rw [← hv] at hl; simp at hl; omega
      refine hX _ _ (br_true (by simp; omega) ⟨by omega, by omega, ?_⟩)
      have hv1 : vs[vs1.length]? = some v := by rw [← hv]; simp
      obtain ⟨_, _, ⟨rfl, h0, _, _⟩ | ⟨rb, sp, rfl, rfl, _⟩⟩ := hS
      · omega
      · refine nilP_some ?_
        simp only [Addr.add_lit, Int.toNat_natCast, Nat.mul_one, Nat.zero_add]
        refine ⟨v, Sat.ld h (List.mem_append_right _ (.head _)) ?_, ?_⟩
        · rw [List.getElem?_append_left (List.getElem?_eq_some_iff.1 hv1).1]; exact hv1
        · have hmono := h2.mono (f l)
          have h : Sat σ w (M ++ (T ++ ((rb, cel (vs ++ sp) e) :: (D ++ (K ++ L))))) := h.re (by intro _; simp only [List.append_eq, cnt_append, cnt_cons, cnt_nil] <;> omega)
          refine h1.2 σ _ b l M _ w hB h (Nat.le_trans hmono hb) fun w M' hB h => ⟨rfl, ?_⟩
          have h : Sat σ w (M' ++ ([(rb, cel (vs ++ sp) e)] ++ ((D ++ T') ++ (K ++ L)))) := h.re (by intro _; simp only [List.append_eq, cnt_append, cnt_cons, cnt_nil] <;> omega)
          rw [i64_inc (by omega)]
          have := ih (vs1 ++ [v]) (D ++ T') (f l) M' w (by simpa using hv) hB h hb (fun w M' hB h => hE w M' hB (h.re (by intro _; simp only [List.append_eq, cnt_append, cnt_cons, cnt_nil] <;> omega)))
          simpa using this
  exact key vs KM KM' f hP [] [] l M w rfl hB h hb hE

def ab (s : List UInt8) : List UInt8 → List UInt8 := fun l => l ++ s
theorem ab_le (s l : List UInt8) : l.length ≤ (ab s l).length := by simp [ab]
end Go.Proofs.YtihmcipajjakgaaGreatDoor


set_option linter.unusedVariables false
namespace Go.Proofs.YtihmcipajjakgaaGreatDoor
open Go.Proofs Go.IntWalk Go.RowKit
variable {σ : Out} {w : World} {L L' : List Chunk} {R : Ending → World → Prop}
theorem meth_Document : methB P ty_P_Document "PrintHTML" i_Document_PrintHTML = true := by kernel_rfl
theorem doc_prints {db s e : Nat} {q : Option Addr} {n c : Nat} {lk : Option Nat} {vs : List Value} {RM KM KM' : List Chunk} {f : List UInt8 → List UInt8} (hS : Sl 1 ty_Block q n c vs RM) (hn : n < 4611686018427387904)
    (hP : PrintsL "PrintHTML" vs KM KM' f) :
    Prints "PrintHTML" (.iface ty_P_Document (.pointer (some ⟨db, 0, none⟩))) (docC db s e q n c lk :: (RM ++ KM)) (docC db s e q n c lk :: (RM ++ KM')) f := by
  refine ⟨hP.mono, fun σ R b l M L w hB h hb hR => enter_meth meth_Document ?_⟩
  refine g_Document_PrintHTML.sound ?_
  refine nilP_some ?_
  refine ⟨_, _, _, Sat.ld h (List.mem_append_right _ (.head _)) rfl, ?_⟩
  intro X hX
  have h : Sat σ w (M ++ (RM ++ (KM ++ (docC db s e q n c lk :: L)))) := h.re (by intro _; simp only [List.append_eq, cnt_append, cnt_cons, cnt_nil] <;> omega)
  refine printLoop (X := fun j w => X (some ⟨b, 0, none⟩) q n c (n : Int) j w) (END := fun w => R (.returned (.tuple #[])) w) hS (fun j w hj => hX _ _ _ _ _ _ _ hj) hP hB h hn hb fun w M' hB h => ?_
  exact hR w M' hB (h.re (by intro _; simp only [List.append_eq, cnt_append, cnt_cons, cnt_nil] <;> omega))
theorem toHTML_ok {v : Value} {T T' : List Chunk} {f : List UInt8 → List UInt8} (hP : Prints "PrintHTML" v T T' f) (h : Sat σ w (T ++ L)) (hb : (f []).length ≤ 549755813888)
    (hR : ∀ w, Sat σ w (T' ++ L) → R (.returned (.string (bs (f [])))) w) : callE P i_ToHTML #[v] R w := by
  refine g_ToHTML.sound ?_
  refine Sat.bx h fun b w h => ?_
  refine hP.2 σ _ b [] _ L w (bufNew b) h hb fun w M hB h => ⟨rfl, ?_⟩
  exact bufStr_ok hB h fun w h => ⟨_, rfl, hR w (h.less M (by intro _; simp only [List.append_eq, cnt_append, cnt_cons, cnt_nil] <;> omega))⟩
end Go.Proofs.YtihmcipajjakgaaGreatDoor


set_option linter.unusedVariables false
namespace Go.Proofs.YtihmcipajjakgaaGreatDoor
open Go.Proofs Go.IntWalk Go.RowKit
variable {σ : Out} {w : World} {L L' : List Chunk} {R : Ending → World → Prop}
theorem appRoom {t ty e : TypeId} {bytes : Nat} (r : Row P t e 1 bytes) {b k c : Nat} {cs : List Value} (h : Sat σ w ((b, cel cs e) :: L)) (hk : k < cs.length) (hc : k < c) {v : Value} (hv : v.cells = #[v]) (h1 : v.oneCell' = true)
    (hfill : Instr.fill (fun i => some (i * 1, 1)) ((Array.range (1 * 1)).map (r.z.cells[· % r.z.cells.size]!)) [(0, v)] = some v.cells)
    {K : Option Addr → Nat → Nat → World → Prop} {C : World → Prop} (hC : ∀ w1 X, Sat σ w1 (X :: ((b, cel cs e) :: L)) → C w1) (hK : ∀ w', Sat σ w' ((b, cel (cs.set k v) e) :: L) → K (some ⟨b, 0, none⟩) (k + 1) c w') :
    ∃ rq rn rc w1, (Instr.buildSlice t 1 #[(0, v)]).run P w = .ok (.slice rq rn rc) w1 ∧ C w1 ∧
      ∃ q' n' c' w2, (Builtin.append_ #[t, t] ty #[.slice (some ⟨b, 0, none⟩) k c, .slice rq rn rc]).run P w1 = .ok (.slice q' n' c') w2 ∧ K q' n' c' w2 := by
  have hrun := run_buildSlice (P := P) w t e 1 #[(0, v)] v.cells r.i r.z r.ht r.hi r.hz (by rw [r.hs]; omega) (by rw [r.hs]; omega) (by rw [r.hs]; exact hfill)
  refine ⟨_, _, _, _, hrun, ?_⟩
  have ha := h.alc v.cells.toList e
  have e3 : YtihmcipajjakgaaGreatDoor.alc w v.cells.toList.toArray e = w.alloc (.cells v.cells e) := by rw [Array.toArray_toList]; rfl
  rw [e3] at ha
  generalize hw1 : w.alloc (.cells v.cells e) = w1 at ha ⊢
  generalize w.heap.size = nb at ha ⊢
  rw [hv] at ha
  have hs : Src P 1 t (.slice (some ⟨nb, 0, none⟩) 1 1) 1 [v] w1 := by
    refine Src.ofSlice w1 r.ht _ 1 1 _ (by simp) (fun j u hu => ?_) (by simp [h1])
    rw [show (Addr.add ⟨nb, 0, none⟩ j) = ⟨nb, j, none⟩ from Addr.add_zero_lit nb j]
    exact ha.ld (List.mem_cons_self ..) hu
  have hs' : Src P r.i.size t (.slice (some ⟨nb, 0, none⟩) 1 1) 1 [v] w1 := by rw [r.hs]; exact hs
  refine ⟨hC _ _ ha, _, _, _, _, run_append_room_src w1 t t ty e r.i r.ht r.hi b 0 k c _ 1 [v] hs' (by omega) ?_ ?_, hK _ ?_⟩
  · intro j hj
    simp at hj
    subst hj
    rw [r.hs, Nat.zero_add, Nat.mul_one, Nat.add_zero, ha.ld (.tail _ (.head _)) (List.getElem?_eq_getElem hk)]
    rfl
  · exact fun j hj => ha.not_frozen (.tail _ (.head _))
  · rw [r.hs]
    have hb : Sat σ w1 ((b, cel cs e) :: (nb, cel [v] e) :: L) := ha.up1
    have := setCells_sat hb (0 + k * 1) [v] (by simp; omega)
    rw [Nat.zero_add, Nat.mul_one] at this ⊢
    have e1 : cs.take k ++ [v] ++ cs.drop (k + 1) = cs.set k v := by
      rw [List.set_eq_take_append_cons_drop, if_pos hk]; simp
    rw [show [v].length = 1 from rfl, e1] at this
    exact this.less [(nb, cel [v] e)] (by intro _; simp only [List.append_eq, cnt_append, cnt_cons, cnt_nil] <;> omega)
theorem appRoom' {t ty e : TypeId} {bytes : Nat} (r : Row P t e 1 bytes) {b k c : Nat} {cs : List Value} (h : Sat σ w ((b, cel cs e) :: L)) (hk : k < cs.length) (hc : k < c) {v : Value} (hv : v.cells = #[v]) (h1 : v.oneCell' = true)
    (hfill : Instr.fill (fun i => some (i * 1, 1)) ((Array.range (1 * 1)).map (r.z.cells[· % r.z.cells.size]!)) [(0, v)] = some v.cells)
    {K : Option Addr → Nat → Nat → World → Prop} (hK : ∀ w', Sat σ w' ((b, cel (cs.set k v) e) :: L) → K (some ⟨b, 0, none⟩) (k + 1) c w') :
    ∃ rq rn rc w1, (Instr.buildSlice t 1 #[(0, v)]).run P w = .ok (.slice rq rn rc) w1 ∧
      ∃ q' n' c' w2, (Builtin.append_ #[t, t] ty #[.slice (some ⟨b, 0, none⟩) k c, .slice rq rn rc]).run P w1 = .ok (.slice q' n' c') w2 ∧ K q' n' c' w2 := by
  obtain ⟨rq, rn, rc, w1, h1, _, h2⟩ := appRoom (ty := ty) r h hk hc hv h1 hfill (C := fun _ => True) (fun _ _ _ => trivial) hK
  exact ⟨rq, rn, rc, w1, h1, h2⟩

inductive Inl where
  | plain (s : List UInt8)
  | openP (s : List UInt8) (i : Nat)
  | emphP (s : List UInt8) (co cc : Bool) (i n : Int)
  | esc (s : List UInt8)
  | code (s : List UInt8)
  | strong (m : List UInt8) (ks : List Inl)
  | del (m : List UInt8) (ks : List Inl)
  | emph (m : List UInt8) (ks : List Inl)
  | link (ks : List Inl) (url title : List UInt8) (tc : UInt8) (corner : Bool)
  | image (ks : List Inl) (url title : List UInt8) (tc : UInt8) (corner : Bool)
  | auto (text url : List UInt8)
  | tag (s : List UInt8)
  | hard
  | soft
  | task (b : Bool)
def ptrV (t : TypeId) (b : Nat) : Value := .iface t (.pointer (some ⟨b, 0, none⟩))
mutual
def InlAt : Inl → Value → List Chunk → Prop
  | .plain s, v, M => ∃ b cs e, v = ptrV ty_P_Plain b ∧ M = [(b, cel (.string (bs s) :: cs) e)]
  | .openP s i, v, M => ∃ b e, v = ptrV ty_P_openPlain b ∧ M = [(b, cel [.string (bs s), .int .i64 i] e)]
  | .emphP s co cc i n, v, M => ∃ b e, v = ptrV ty_P_emphPlain b ∧ M = [(b, cel [.string (bs s), .bool co, .bool cc, .int .i64 i, .int .i64 n] e)]
  | .esc s, v, M => ∃ b e, v = ptrV ty_P_Escaped b ∧ M = [(b, cel [.string (bs s)] e)]
  | .code s, v, M => ∃ b e, v = ptrV ty_P_Code b ∧ M = [(b, cel [.string (bs s)] e)]
  | .strong m ks, v, M => ∃ b e q n c vs RM KM, v = ptrV ty_P_Strong b ∧ M = (b, cel [.string (bs m), .slice q n c] e) :: (RM ++ KM) ∧ Sl 1 ty_Inline q n c vs RM ∧ InlsAt ks vs KM
  | .del m ks, v, M => ∃ b e q n c vs RM KM, v = ptrV ty_P_Del b ∧ M = (b, cel [.string (bs m), .slice q n c] e) :: (RM ++ KM) ∧ Sl 1 ty_Inline q n c vs RM ∧ InlsAt ks vs KM
  | .emph m ks, v, M => ∃ b e q n c vs RM KM, v = ptrV ty_P_Emph b ∧ M = (b, cel [.string (bs m), .slice q n c] e) :: (RM ++ KM) ∧ Sl 1 ty_Inline q n c vs RM ∧ InlsAt ks vs KM
  | .link ks u t tc k, v, M => ∃ b e q n c vs RM KM, v = ptrV ty_P_Link b ∧ M = (b, cel [.slice q n c, .string (bs u), .string (bs t), .int .u8 tc.toNat, .bool k] e) :: (RM ++ KM) ∧ Sl 1 ty_Inline q n c vs RM ∧ InlsAt ks vs KM
  | .image ks u t tc k, v, M => ∃ b e q n c vs RM KM, v = ptrV ty_P_Image b ∧ M = (b, cel [.slice q n c, .string (bs u), .string (bs t), .int .u8 tc.toNat, .bool k] e) :: (RM ++ KM) ∧ Sl 1 ty_Inline q n c vs RM ∧ InlsAt ks vs KM
  | .auto t u, v, M => ∃ b e, v = ptrV ty_P_AutoLink b ∧ M = [(b, cel [.string (bs t), .string (bs u)] e)]
  | .tag s, v, M => ∃ b e, v = ptrV ty_P_HTMLTag b ∧ M = [(b, cel [.string (bs s)] e)]
  | .hard, v, M => ∃ b e, v = ptrV ty_P_HardBreak b ∧ M = [(b, cel [] e)]
  | .soft, v, M => ∃ b e, v = ptrV ty_P_SoftBreak b ∧ M = [(b, cel [] e)]
  | .task k, v, M => ∃ b e, v = ptrV ty_P_Task b ∧ M = [(b, cel [.bool k] e)]
def InlsAt : List Inl → List Value → List Chunk → Prop
  | [], vs, M => vs = [] ∧ M = []
  | t :: ts, vs, M => ∃ v vs' M1 M2, vs = v :: vs' ∧ M = M1 ++ M2 ∧ InlAt t v M1 ∧ InlsAt ts vs' M2
end
theorem InlsAt.append : ∀ {a b : List Inl} {vs us : List Value} {M N : List Chunk}, InlsAt a vs M → InlsAt b us N → InlsAt (a ++ b) (vs ++ us) (M ++ N)
  | [], b, vs, us, M, N, h1, h2 => by obtain ⟨rfl, rfl⟩ := h1; exact h2
  | t :: a, b, vs, us, M, N, h1, h2 => by
    obtain ⟨v, vs', M1, M2, rfl, rfl, h3, h4⟩ := h1
    exact ⟨v, vs' ++ us, M1, M2 ++ N, rfl, by simp, h3, h4.append h2⟩
theorem InlsAt.split : ∀ {a b : List Inl} {vs : List Value} {M : List Chunk}, InlsAt (a ++ b) vs M → ∃ vs1 vs2 M1 M2, vs = vs1 ++ vs2 ∧ M = M1 ++ M2 ∧ InlsAt a vs1 M1 ∧ InlsAt b vs2 M2
  | [], b, vs, M, h => ⟨[], vs, [], M, rfl, rfl, ⟨rfl, rfl⟩, h⟩
  | t :: a, b, vs, M, h => by
    obtain ⟨v, vs', M1, M2, rfl, rfl, h3, h4⟩ := h
    obtain ⟨vs1, vs2, N1, N2, rfl, rfl, h5, h6⟩ := h4.split
    exact ⟨v :: vs1, vs2, M1 ++ N1, N2, rfl, by simp, ⟨v, vs1, M1, N1, rfl, rfl, h3, h5⟩, h6⟩
theorem InlsAt.one {t : Inl} {v : Value} {M : List Chunk} (h : InlAt t v M) : InlsAt [t] [v] M := ⟨v, [], M, [], rfl, by simp, h, rfl, rfl⟩
theorem InlsAt.length : ∀ {a : List Inl} {vs : List Value} {M : List Chunk}, InlsAt a vs M → vs.length = a.length
  | [], vs, M, h => by rw [h.1]; rfl
  | t :: a, vs, M, h => by
    obtain ⟨v, vs', M1, M2, rfl, rfl, h3, h4⟩ := h
    simp [h4.length]
def Inl.ty : Inl → TypeId
  | .plain _ => ty_P_Plain | .openP _ _ => ty_P_openPlain | .emphP _ _ _ _ _ => ty_P_emphPlain | .esc _ => ty_P_Escaped | .code _ => ty_P_Code | .strong _ _ => ty_P_Strong | .del _ _ => ty_P_Del | .emph _ _ => ty_P_Emph
  | .link _ _ _ _ _ => ty_P_Link | .image _ _ _ _ _ => ty_P_Image | .auto _ _ => ty_P_AutoLink | .tag _ => ty_P_HTMLTag | .hard => ty_P_HardBreak | .soft => ty_P_SoftBreak | .task _ => ty_P_Task
theorem InlAt.ptr {t : Inl} {v : Value} {M : List Chunk} (h : InlAt t v M) : ∃ b cs e M', v = ptrV t.ty b ∧ M = (b, cel cs e) :: M' := by
  cases t <;> first
    | (obtain ⟨b, cs, e, rfl, rfl⟩ := h; exact ⟨b, _, _, [], rfl, rfl⟩)
    | (obtain ⟨b, e, rfl, rfl⟩ := h; exact ⟨b, _, _, [], rfl, rfl⟩)
    | (obtain ⟨b, e, q, n, c, vs, RM, KM, rfl, rfl, _⟩ := h; exact ⟨b, _, _, _, rfl, rfl⟩)
end Go.Proofs.YtihmcipajjakgaaGreatDoor


set_option linter.unusedVariables false
namespace Go.Proofs.YtihmcipajjakgaaGreatDoor
open Go.Proofs Go.IntWalk Go.RowKit
variable {σ : Out} {w : World} {L L' : List Chunk} {R : Ending → World → Prop}
theorem und_open : P.underlying ty_P_openPlain = some (.pointer ty_openPlain) := by kernel_rfl
theorem und_emph : P.underlying ty_P_emphPlain = some (.pointer ty_emphPlain) := by kernel_rfl
theorem und_plain : P.underlying ty_P_Plain = some (.pointer ty_Plain) := by kernel_rfl
theorem ta_open_no {t : TypeId} {v : Value} (ht : t ≠ ty_P_openPlain) (w : World) : (Instr.typeAssert (.iface t v) ty_Inline ty_P_openPlain true).run P w = .ok (.tuple #[.pointer none, .bool false]) w :=
  ta_no (by rw [und_open]; intro ms h; cases h) und_open ht (i := (P.info? ty_P_openPlain).getD default) (by kernel_rfl) (by kernel_rfl) w
theorem ta_emph_no {t : TypeId} {v : Value} (ht : t ≠ ty_P_emphPlain) (w : World) : (Instr.typeAssert (.iface t v) ty_Inline ty_P_emphPlain true).run P w = .ok (.tuple #[.pointer none, .bool false]) w :=
  ta_no (by rw [und_emph]; intro ms h; cases h) und_emph ht (i := (P.info? ty_P_emphPlain).getD default) (by kernel_rfl) (by kernel_rfl) w
theorem ta_plain_no {t : TypeId} {v : Value} (ht : t ≠ ty_P_Plain) (w : World) : (Instr.typeAssert (.iface t v) ty_Inline ty_P_Plain true).run P w = .ok (.tuple #[.pointer none, .bool false]) w :=
  ta_no (by rw [und_plain]; intro ms h; cases h) und_plain ht (i := (P.info? ty_P_Plain).getD default) (by kernel_rfl) (by kernel_rfl) w
theorem ta_open_yes {v : Value} (w : World) : (Instr.typeAssert (.iface ty_P_openPlain v) ty_Inline ty_P_openPlain true).run P w = .ok (.tuple #[v, .bool true]) w :=
  ta_yes (by rw [und_open]; intro ms h; cases h) und_open w
theorem ta_emph_yes {v : Value} (w : World) : (Instr.typeAssert (.iface ty_P_emphPlain v) ty_Inline ty_P_emphPlain true).run P w = .ok (.tuple #[v, .bool true]) w :=
  ta_yes (by rw [und_emph]; intro ms h; cases h) und_emph w
theorem ta_plain_yes {v : Value} (w : World) : (Instr.typeAssert (.iface ty_P_Plain v) ty_Inline ty_P_Plain true).run P w = .ok (.tuple #[v, .bool true]) w :=
  ta_yes (by rw [und_plain]; intro ms h; cases h) und_plain w
theorem fillI (t : TypeId) (q : Option Addr) : Instr.fill (fun i => some (i * 1, 1)) ((Array.range (1 * 1)).map (rowInl.z.cells[· % rowInl.z.cells.size]!)) [(0, .iface t (.pointer q))] = some #[.iface t (.pointer q)] := by kernel_rfl

theorem Sl.loadAt {q : Option Addr} {n c j : Nat} {e : TypeId} {vs : List Value} {RM : List Chunk} {v : Value} {K : Addr → Prop} (hS : Sl 1 e q n c vs RM) (h : Sat σ w (RM ++ L)) (hj : vs[j]? = some v)
    (hK : ∀ b, q = some ⟨b, 0, none⟩ → w.cell? ⟨b, j, none⟩ = some v → K ⟨b, 0, none⟩) : nilP q K := by
  obtain ⟨hl, _, ⟨rfl, rfl, _, _⟩ | ⟨rb, sp, rfl, rfl, _⟩⟩ := hS
  · have := (List.getElem?_eq_some_iff.1 hj).1; omega
  · refine nilP_some (hK rb rfl (h.ld (.head _) ?_))
    rw [List.getElem?_append_left (List.getElem?_eq_some_iff.1 hj).1]; exact hj

end Go.Proofs.YtihmcipajjakgaaGreatDoor


set_option linter.unusedVariables false
set_option maxRecDepth 20000
namespace Go.Proofs.YtihmcipajjakgaaGreatDoor
open Go.Proofs
namespace g_strings_Builder_Grow
noncomputable def body : Code := bodyOf Tryz.f141
def k1 (R : EP) (x0 : OA) (x1 : Int) (w : World) : Prop :=
 tk w fun w3 =>
 nilP x0 fun a4 =>
 nilP x0 fun a5 =>
 ∃ (v6q : OA), ∃ (v6n : Nat), ∃ (v6c : Nat), w3.cell? (a4.add 1) = some (.slice v6q v6n v6c) ∧
 ∃ (v7q : OA), ∃ (v7n : Nat), ∃ (v7c : Nat), w3.cell? (a5.add 1) = some (.slice v7q v7n v7c) ∧
 ∃ (r8 : Int), ∃ w9, (Builtin.cap_ #[ty_S_uint8] ty_int #[.slice v6q v6n v6c]).run P w3 = .ok (.int .i64 r8) w9 ∧
 SameC w3 w9 (a5.add 1) 1 ∧
 br (decide ((IntKind.i64.wrap (r8 - (v7n : Int))) < x1))
 (callE P i_strings_Builder_grow #[.pointer x0, .int .i64 x1] (fun e w11 => e = .returned (.tuple #[]) ∧
 R (.returned (.tuple #[])) w11) w9)
 (R (.returned (.tuple #[])) w9)

end g_strings_Builder_Grow
def g_strings_Builder_Grow (R : EP) (x0 : OA) (x1 : Int) (w : World) : Prop :=
 callE P i_strings_Builder_copyCheck #[.pointer x0] (fun e w2 => e = .returned (.tuple #[]) ∧
 br (decide (x1 < 0))
 (False)
 (g_strings_Builder_Grow.k1 R x0 x1 w2)) w

noncomputable def g_strings_Builder_Grow.ac (R : EP) : AC :=
  (.seq (.leaf (sel [0] g_strings_Builder_Grow.body)) (.seq (.leaf (sel [1, 0] g_strings_Builder_Grow.body)) (.mark (leaf [(0, .s .ptr), (1, .s (.int .i64))] (g_strings_Builder_Grow.k1 R)) (.seq (.draw (.pure 0 (.pure 1 (.pure 2 (.pure 5 (.pure 6 (.pure 7 (.pure 11 (.load 3 (.load 8 (.pure 9 (.one 4 (.pure 10 (.pure 12 .done))))))))))))) (sel [1, 1, 0] g_strings_Builder_Grow.body)) (.leaf (sel [1, 1, 1] g_strings_Builder_Grow.body))))))
theorem g_strings_Builder_Grow.good (R : EP) : Good P 25 (g_strings_Builder_Grow.ac R) (QF P [] R) :=
  ⟨trivial, ⟨trivial, ⟨⟨⟨by kernel_rfl, by kernel_rfl, fun _ _ _ h => h⟩, trivial⟩, cutE (by intro x0 x1 ρ w; kernel_rfl)⟩⟩⟩
theorem g_strings_Builder_Grow.eq (R : EP) (x0 : OA) (x1 : Int) (w : World) : g_strings_Builder_Grow R x0 x1 w = vcA P 25 (g_strings_Builder_Grow.ac R) (QF P [] R) (fr0 [.pointer x0, .int .i64 x1]) w := by kernel_rfl
theorem g_strings_Builder_Grow.sound {R : EP} {x0 : OA} {x1 : Int} {w : World} (h : g_strings_Builder_Grow R x0 x1 w) : callE P i_strings_Builder_Grow #[.pointer x0, .int .i64 x1] R w :=
  callE_fin (c := g_strings_Builder_Grow.body) Tryz.func141 Tryz.call141 (by kernel_rfl) (by kernel_rfl) (by kernel_rfl) (by kernel_rfl) (by kernel_rfl) (g_strings_Builder_Grow.good R) (g_strings_Builder_Grow.eq R x0 x1 w) h
namespace g_strings_Builder_grow
noncomputable def body : Code := bodyOf Tryz.f176
end g_strings_Builder_grow
def g_strings_Builder_grow (R : EP) (x0 : OA) (x1 : Int) (w : World) : Prop :=
 tk w fun w1 =>
 nilP x0 fun a2 =>
 nilP x0 fun a3 =>
 ∃ (v4q : OA), ∃ (v4n : Nat), ∃ (v4c : Nat), w1.cell? (a2.add 1) = some (.slice v4q v4n v4c) ∧
 ∃ (v5q : OA), ∃ (v5n : Nat), ∃ (v5c : Nat), w1.cell? (a3.add 1) = some (.slice v5q v5n v5c) ∧
 ∃ (r6 : Int), ∃ w7, (Builtin.cap_ #[ty_S_uint8] ty_int #[.slice v4q v4n v4c]).run P w1 = .ok (.int .i64 r6) w7 ∧
 SameC w1 w7 (a3.add 1) 1 ∧
 callE P i_internal_bytealg_MakeNoZero #[.int .i64 (IntKind.i64.wrap ((IntKind.i64.wrap (2 * r6)) + x1))] (fun e w9 => ∃ (r8q : OA), ∃ (r8n : Nat), ∃ (r8c : Nat), e = .returned (.slice r8q r8n r8c) ∧
 SameC w7 w9 (a3.add 1) 1 ∧
 ∃ (r10q : OA), ∃ (r10n : Nat), ∃ (r10c : Nat), (∀ w, (Instr.sliceAt ty_S_uint8 (.slice r8q r8n r8c) none (some (.int .i64 (v5n : Int))) none).run P w = .ok (.slice r10q r10n r10c) w) ∧
 nilP x0 fun a11 =>
 ∃ (v12q : OA), ∃ (v12n : Nat), ∃ (v12c : Nat), w9.cell? (a11.add 1) = some (.slice v12q v12n v12c) ∧
 ∃ (r13 : Int), ∃ w14, (Builtin.copy_ #[ty_S_uint8, ty_S_uint8] ty_int #[.slice r10q r10n r10c, .slice v12q v12n v12c]).run P w9 = .ok (.int .i64 r13) w14 ∧
 nilP x0 fun a15 =>
 stV w14 ((a15.add 1).add 0) (.slice r10q r10n r10c) fun w16 =>
 R (.returned (.tuple #[])) w16) w7

noncomputable def g_strings_Builder_grow.ac (R : EP) : AC :=
  (.seq (.draw (.pure 0 (.pure 1 (.pure 2 (.pure 6 (.pure 9 (.pure 10 (.pure 11 (.load 3 (.load 12 (.pure 13 (.one 4 (.pure 5 (.pure 7 (.one 8 (.pure 14 (.pure 15 .done)))))))))))))))) (sel [0] g_strings_Builder_grow.body)) (.leaf (sel [1] g_strings_Builder_grow.body)))
theorem g_strings_Builder_grow.good (R : EP) : Good P 30 (g_strings_Builder_grow.ac R) (QF P [] R) :=
  ⟨⟨by kernel_rfl, by kernel_rfl, fun _ _ _ h => h⟩, trivial⟩
theorem g_strings_Builder_grow.eq (R : EP) (x0 : OA) (x1 : Int) (w : World) : g_strings_Builder_grow R x0 x1 w = vcA P 30 (g_strings_Builder_grow.ac R) (QF P [] R) (fr0 [.pointer x0, .int .i64 x1]) w := by kernel_rfl
theorem g_strings_Builder_grow.sound {R : EP} {x0 : OA} {x1 : Int} {w : World} (h : g_strings_Builder_grow R x0 x1 w) : callE P i_strings_Builder_grow #[.pointer x0, .int .i64 x1] R w :=
  callE_fin (c := g_strings_Builder_grow.body) Tryz.func176 Tryz.call176 (by kernel_rfl) (by kernel_rfl) (by kernel_rfl) (by kernel_rfl) (by kernel_rfl) (g_strings_Builder_grow.good R) (g_strings_Builder_grow.eq R x0 x1 w) h
end Go.Proofs.YtihmcipajjakgaaGreatDoor

set_option linter.unusedVariables false
namespace Go.Proofs.YtihmcipajjakgaaGreatDoor
open Go.Proofs Go.IntWalk Go.RowKit
variable {σ : Out} {w : World} {L L' : List Chunk} {R : Ending → World → Prop}
theorem makeNoZero_ok {n : Nat} (hn : n ≤ 1099511627776) (h : Sat σ w L) (hR : ∀ w b cs, n ≤ cs.length → cs.length ≤ 9223372036854775807 → Sat σ w ((b, cel cs ty_uint8) :: L) → R (.returned (.slice (some ⟨b, 0, none⟩) n cs.length)) w) :
    callE P i_internal_bytealg_MakeNoZero #[.int .i64 n] R w := by
  obtain ⟨cs, hr, h1, h2⟩ := Lib.run_makeNoZero (P := P) w x_internal_bytealg_MakeNoZero.params ty_S_uint8 ty_uint8 rowU8.ht n (by omega)
  refine ext_of (e := Extern.BytealgMakeNoZero.makeNoZero x_internal_bytealg_MakeNoZero.params #[ty_S_uint8]) xf_internal_bytealg_MakeNoZero (by kernel_rfl) (by kernel_rfl) (by kernel_rfl) (by kernel_rfl) hr ?_
  have hd : Sat σ w.drew.drew L := h.drew.drew
  have ha := hd.alc cs.toList ty_uint8
  have e3 : YtihmcipajjakgaaGreatDoor.alc w.drew.drew cs.toList.toArray ty_uint8 = w.drew.drew.alloc (.cells cs ty_uint8) := by rw [Array.toArray_toList]; rfl
  rw [e3] at ha
  have h3 := h2 (by unfold maxLen; omega)
  unfold maxLen at h3
  exact hR _ _ cs.toList (by simpa using h1) (by simpa using h3) ha
theorem copyNone (w : World) (b c : Nat) : (Builtin.copy_ #[ty_S_uint8, ty_S_uint8] ty_int #[.slice (some ⟨b, 0, none⟩) 0 c, .slice none 0 0]).run P w = .ok (.int .i64 0) w := by
  have h : P.underlying ty_S_uint8 = some (.slice ty_uint8) := rowU8.ht
  have h2 : P.info? ty_uint8 = some rowU8.i := rowU8.hi
  have h4 : (Builtin.lenOf (.slice none 0 0)).run P w = .ok 0 w := rfl
  have h5 : rowU8.i.size = 1 := rowU8.hs
  have h6 : (Builtin.firstCells 1 0 (.slice none 0 0)).run P w = .ok #[] w := run_firstCells_none w 1 0 0 0
  simp [Builtin.copy_, run_underlying h, sizeOf, typeInfo, h2, goInt, h4, h5, h6, storeCells]
theorem bldGrow_ok {b n : Nat} {M : List Chunk} (hB : Bld b false [] M) (h : Sat σ w (M ++ L)) (hn : 0 < n) (hn2 : n ≤ 1099511627776) (hR : ∀ w M', Bld b true [] M' → Sat σ w (M' ++ L) → R (.returned (.tuple #[])) w) :
    callE P i_strings_Builder_Grow #[.pointer (some ⟨b, 0, none⟩), .int .i64 n] R w := by
  obtain ⟨p, q, c, M0, rfl, hS, hp, hg, hc⟩ := hB
  have hq : q = none := by cases q <;> simp_all
  subst hq
  obtain ⟨_, _, ⟨_, _, rfl, rfl⟩ | ⟨_, _, h, _⟩⟩ := hS
  rotate_left
  · cases h
  refine g_strings_Builder_Grow.sound ?_
  refine copyCheck_ok h hp fun w h => ⟨rfl, br_false (by simp) ?_⟩
  refine Sat.tk h fun w h => ?_
  refine nilP_some (nilP_some ?_)
  refine ⟨_, _, _, Sat.ld h (by first | assumption | (repeat (first | exact .head _ | apply List.Mem.tail))) (by exact rfl), ?_⟩
  refine ⟨_, _, _, Sat.ld h (by first | assumption | (repeat (first | exact .head _ | apply List.Mem.tail))) (by exact rfl), ?_⟩
  refine ⟨_, _, capRun _ _ _ _ _ _ rowU8.ht w, fun _ _ => rfl, ?_⟩
  refine br_true (by simp (disch := omega) only [i64_in]; simp; omega) ?_
  refine g_strings_Builder_grow.sound ?_
  refine Sat.tk h fun w h => ?_
  refine nilP_some (nilP_some ?_)
  refine ⟨_, _, _, Sat.ld h (by first | assumption | (repeat (first | exact .head _ | apply List.Mem.tail))) (by exact rfl), ?_⟩
  refine ⟨_, _, _, Sat.ld h (by first | assumption | (repeat (first | exact .head _ | apply List.Mem.tail))) (by exact rfl), ?_⟩
  refine ⟨_, _, capRun _ _ _ _ _ _ rowU8.ht w, fun _ _ => rfl, ?_⟩
  have e1 : IntKind.i64.wrap (IntKind.i64.wrap (2 * ((0 : Nat) : Int)) + (n : Int)) = (n : Int) := by rw [i64_in (2 * _) (by omega), i64_in _ (by omega)]; omega
  rw [e1]
  have h0 := h
  refine makeNoZero_ok hn2 h fun w rb cs h1 h2 h => ⟨_, _, _, rfl, h0.same h (.head _) (.tail _ (.head _)) 1, ?_⟩
  refine ⟨_, _, _, fun w => sliceT rowU8.ht rowU8.hi _ n cs.length 0 (by omega) w, ?_⟩
  refine nilP_some ?_
  refine ⟨_, _, _, Sat.ld h (by first | assumption | (repeat (first | exact .head _ | apply List.Mem.tail))) (by exact rfl), ?_⟩
  refine ⟨_, _, copyNone w rb cs.length, ?_⟩
  refine nilP_some ?_
  refine Sat.st h (k := 1) rfl (Nat.le_of_ble_eq_true rfl) trivial (by first | (dsimp only [List.set]; exact rfl) | exact rfl) fun w h => ?_
  have h : Sat σ w ((rb, cel cs ty_uint8) :: bldC b (some ⟨b, 0, none⟩) (some ⟨rb, 0, none⟩) 0 cs.length :: L) := h
  refine ⟨rfl, hR w [bldC b (some ⟨b, 0, none⟩) (some ⟨rb, 0, none⟩) 0 cs.length, (rb, cel cs ty_uint8)] ⟨_, _, _, _, rfl, ⟨by simp [bc], by omega, .inr ⟨rb, cs, rfl, by simp [bc], by simp [bc]⟩⟩, .inr rfl, rfl, fun _ => by omega⟩ ?_⟩
  exact h.re (by intro _; simp only [List.append_eq, cnt_append, cnt_cons, cnt_nil] <;> omega)
def sv (ts : List (List UInt8)) : List Value := ts.map fun t => .string (bs t)
@[simp] theorem sv_length (ts : List (List UInt8)) : (sv ts).length = ts.length := by simp [sv]
theorem sv_get {ts : List (List UInt8)} {j : Nat} (h : j < ts.length) : (sv ts)[j]? = some (.string (bs ts[j])) := by simp [sv, h]
def joinL (sep : List UInt8) : List (List UInt8) → List UInt8
  | [] => []
  | t :: ts => t ++ ts.flatMap (fun u => sep ++ u)
def sumL (ts : List (List UInt8)) : Nat := (ts.map List.length).sum
theorem joinL_length (sep : List UInt8) (t : List UInt8) (ts : List (List UInt8)) : (joinL sep (t :: ts)).length = t.length + sumL ts + ts.length * sep.length := by
  simp only [joinL, List.length_append, sumL]
  induction ts with
  | nil => simp
  | cons u ts ih => simp only [List.flatMap_cons, List.length_append, List.map_cons, List.sum_cons, List.length_cons] at *; rw [Nat.add_mul]; omega
theorem Sl.rowAt {e : TypeId} {q : Option Addr} {n c : Nat} {vs : List Value} {M : List Chunk} (hS : Sl 1 e q n c vs M) (hn : 0 < n) : ∃ b sp, q = some ⟨b, 0, none⟩ ∧ M = [(b, cel (vs ++ sp) e)] := by
  obtain ⟨_, _, ⟨_, h, _, _⟩ | ⟨b, sp, h1, h2, _⟩⟩ := hS
  · omega
  · exact ⟨b, sp, h1, h2⟩
theorem join_ok {q : Option Addr} {n c : Nat} {t : List UInt8} {ts : List (List UInt8)} {AM : List Chunk} {sep : List UInt8} (hS : Sl 1 ty_string q n c (sv (t :: ts)) AM) (h : Sat σ w (AM ++ L)) (hne : 1 ≤ ts.length) (hn : n < 1073741824) (hsep : sep.length < 65536)
    (h0 : 0 < (joinL sep (t :: ts)).length) (hb : (joinL sep (t :: ts)).length < 1073741824) (hR : ∀ w, Sat σ w (AM ++ L) → R (.returned (.string (bs (joinL sep (t :: ts))))) w) : callE P i_strings_Join #[.slice q n c, .string (bs sep)] R w := by
  have hl := hS.1
  rw [sv_length, List.length_cons] at hl
  have hjl := joinL_length sep t ts
  refine g_strings_Join.sound ?_
  obtain ⟨rb, sp, rfl, rfl⟩ := hS.rowAt (by omega)
  refine br_false (by simp; omega) (br_false (by simp; omega) ?_)
  have fin : ∀ w, Sat σ w ([(rb, cel (sv (t :: ts) ++ sp) ty_string)] ++ L) → box w #[.pointer none, .slice none 0 0] ty_strings_Builder fun b5 w6 =>
      callE P i_strings_Builder_Grow #[.pointer (some ⟨b5, 0, none⟩), .int .i64 (((joinL sep (t :: ts)).length : Nat) : Int)] (fun e w8 => e = .returned (.tuple #[]) ∧
      0 ≤ (0 : Int) ∧ 0 < (n : Int) ∧
      nilP (some (⟨rb, 0, none⟩ : Addr)) fun a9 =>
      ∃ (v10 : ByteArray), w8.cell? (a9.add (Int.toNat 0 * 1)) = some (.string v10) ∧
      callE P i_strings_Builder_WriteString #[.pointer (some ⟨b5, 0, none⟩), .string v10] (fun e w12 => ∃ (r11_0 : Int), ∃ (r11_1 : Value), e = .returned (.tuple #[.int .i64 r11_0, r11_1]) ∧
      ∃ (r13q : Option Addr), ∃ (r13n : Nat), ∃ (r13c : Nat), ∃ w14, (Instr.sliceAt ty_S_string (.slice (some ⟨rb, 0, none⟩) n c) (some (.int .i64 1)) none none).run P w12 = .ok (.slice r13q r13n r13c) w14 ∧
      g_strings_Join.l2 R (bs sep) b5 r13q r13n r13c (r13n : Int) 0 w14) w8) w6 := by
    intro w h
    refine Sat.bx h fun b w h => ?_
    refine bldGrow_ok (bldNew b) h h0 (by omega) fun w M hB h => ⟨rfl, by omega, by omega, nilP_some ?_⟩
    refine ⟨bs t, Sat.ld h (List.mem_append_right _ (.head _)) rfl, ?_⟩
    refine bldS_ok hB h (.inr rfl) (by simp; omega) fun w M hB h => ⟨_, _, rfl, ?_⟩
    refine ⟨_, _, _, _, sliceF rowStr.ht rowStr.hi _ n c 1 (by omega) w, ?_⟩
    have hnc := hS.2.1
    rw [if_neg (by omega), rowStr.hs]
    simp only [Option.map_some, Addr.add_lit, Nat.zero_add, Nat.mul_one]
    rw [List.nil_append] at hB
    intro Y hY
    have key : ∀ k j (l : List UInt8) M w, j + k = ts.length → Bld b true l M → Sat σ w (M ++ ([(rb, cel (sv (t :: ts) ++ sp) ty_string)] ++ L)) → l ++ (ts.drop j).flatMap (fun u => sep ++ u) = joinL sep (t :: ts) →
        Y (bs sep) b (some ⟨rb, 1, none⟩) (n - 1) (c - 1) ((n - 1 : Nat) : Int) (j : Int) w := by
      intro k
      induction k with
      | zero =>
        intro j l M w hj hB h hl2
        rw [List.drop_eq_nil_of_le (by omega)] at hl2
        simp only [List.flatMap_nil, List.append_nil] at hl2
        refine hY _ _ _ _ _ _ _ _ (br_false (by simp; omega) ?_)
        refine bldStr_ok hB h (by rw [hl2]; omega) fun w h => ⟨_, rfl, ?_⟩
        rw [hl2]
        exact hR w h
      | succ k ih =>
        intro j l M w hj hB h hl2
        have hjl : j < ts.length := by omega
        rw [List.drop_eq_getElem_cons hjl, List.flatMap_cons, ← List.append_assoc, ← List.append_assoc] at hl2
        have hlb : (l ++ sep ++ ts[j]).length ≤ (joinL sep (t :: ts)).length := by rw [← hl2]; simp only [List.length_append]; omega
        simp only [List.length_append] at hlb
        refine hY _ _ _ _ _ _ _ _ (br_true (by simp; omega) ⟨by omega, by omega, nilP_some ?_⟩)
        simp only [Addr.add_lit, Int.toNat_natCast, Nat.mul_one]
        have hg : (sv (t :: ts) ++ sp)[1 + j]? = some (.string (bs ts[j])) := by
          rw [List.getElem?_append_left (by simp; omega), show 1 + j = j + 1 by omega, sv_get (by simp; omega)]; rfl
        refine ⟨_, Sat.ld h (List.mem_append_right _ (.head _)) hg, ?_⟩
        refine bldS_ok hB h (.inr rfl) (by omega) fun w M hB h => ⟨_, _, rfl, ?_⟩
        refine bldS_ok hB h (.inr rfl) (by simp; omega) fun w M hB h => ⟨_, _, rfl, ?_⟩
        rw [i64_inc (by omega)]
        exact ih (j + 1) _ M w (by omega) hB h hl2
    exact key ts.length 0 t M w (by omega) hB h rfl
  have sum : ∀ w (a : Nat), a = ts.length * sep.length → Sat σ w ([(rb, cel (sv (t :: ts) ++ sp) ty_string)] ++ L) → g_strings_Join.k2 R (some ⟨rb, 0, none⟩) n c (bs sep) (a : Int) w := by
    intro w a ha h X hX
    have key : ∀ k j (s : Nat), j + k = (t :: ts).length → s + sumL ((t :: ts).drop j) = (joinL sep (t :: ts)).length → X (some ⟨rb, 0, none⟩) n c (bs sep) (s : Int) (some ⟨rb, 0, none⟩) n c (n : Int) (j : Int) w := by
      intro k
      induction k with
      | zero =>
        intro j s hj hs
        rw [List.drop_eq_nil_of_le (by omega)] at hs
        simp only [sumL, List.map_nil, List.sum_nil, Nat.add_zero] at hs
        subst hs
        refine hX _ _ _ _ _ _ _ _ _ _ _ (br_false (by simp at hj; simp; omega) ?_)
        exact fin w h
      | succ k ih =>
        intro j s hj hs
        have hjl : j < (t :: ts).length := by omega
        rw [List.drop_eq_getElem_cons hjl] at hs
        simp only [sumL, List.map_cons, List.sum_cons] at hs
        have hjn : j < n := by simp at hjl; omega
        refine hX _ _ _ _ _ _ _ _ _ _ _ (br_true (by simp; omega) ⟨by omega, by omega, nilP_some ?_⟩)
        simp only [Addr.add_lit, Int.toNat_natCast, Nat.mul_one, Nat.zero_add]
        have hg : (sv (t :: ts) ++ sp)[j]? = some (.string (bs (t :: ts)[j])) := by
          rw [List.getElem?_append_left (by simp at hjl ⊢; omega), sv_get hjl]
        refine ⟨_, Sat.ld h (.head _) hg, ?_⟩
        rw [bs_size]
        refine br_false (by simp (disch := omega) only [i64_in]; simp; omega) ?_
        show X _ _ _ _ _ _ _ _ _ _ w
        rw [i64_inc (by omega), bs_size, i64_in _ (by omega), show (s : Int) + ((t :: ts)[j].length : Nat) = ((s + (t :: ts)[j].length : Nat) : Int) by omega]
        exact ih (j + 1) _ (by omega) (by simp only [sumL]; omega)
    refine key (t :: ts).length 0 a (by omega) ?_
    rw [hjl, ha]
    simp [sumL]
    omega
  have hmul : ts.length * sep.length < 1073741824 := by omega
  by_cases hs0 : sep = []
  · subst hs0
    refine br_false (by simp) ?_
    exact sum w 0 (by simp) h
  · refine br_true (by simpa using List.length_pos_iff.2 hs0) ?_
    have hn1 : IntKind.i64.wrap ((n : Int) - 1) = ((ts.length : Nat) : Int) := by simp (disch := omega) only [i64_in]; omega
    refine ⟨by rw [hn1]; omega, br_false ?_ ?_⟩
    · rw [hn1]
      have hq : Int.tdiv 9223372036854775807 (ts.length : Int) = ((9223372036854775807 / ts.length : Nat) : Int) := by
        rw [Int.tdiv_eq_ediv_of_nonneg (by omega)]; simp
      rw [hq]
      have hge : 65536 ≤ 9223372036854775807 / ts.length := by
        rw [Nat.le_div_iff_mul_le (by omega)]; omega
      have hle : 9223372036854775807 / ts.length ≤ 9223372036854775807 := Nat.div_le_self _ _
      rw [i64_in _ (by omega), bs_size]
      exact decide_eq_false (by omega)
    · show g_strings_Join.k2 R _ n c (bs sep) _ w
      rw [hn1, bs_size]
      have : IntKind.i64.wrap (0 + IntKind.i64.wrap ((sep.length : Int) * (ts.length : Int))) = ((ts.length * sep.length : Nat) : Int) := by
        have e : ((sep.length : Int) * (ts.length : Int)) = ((ts.length * sep.length : Nat) : Int) := by rw [Nat.mul_comm]; simp
        generalize ts.length * sep.length = m at hmul e ⊢
        rw [e, i64_in (m : Int) (by omega), Int.zero_add, i64_in (m : Int) (by omega)]
      rw [this]
      exact sum w _ rfl h
end Go.Proofs.YtihmcipajjakgaaGreatDoor


set_option linter.unusedVariables false
namespace Go.Proofs.YtihmcipajjakgaaGreatDoor
open Go.Proofs Go.IntWalk Go.RowKit
variable {σ : Out} {w : World} {L L' : List Chunk} {R : Ending → World → Prop}
def Inl.plain? : Inl → Option (List UInt8)
  | .plain s => some s
  | .openP s _ => some s
  | .emphP s _ _ _ _ => some s
  | _ => none
theorem toPlain_yes {t : Inl} {v : Value} {M : List Chunk} {s : List UInt8} (hI : InlAt t v M) (hs : t.plain? = some s) (hR : ∀ b cs e, M = [(b, cel (.string (bs s) :: cs) e)] → R (.returned (.pointer (some ⟨b, 0, none⟩))) w) : callE P i_toPlain #[v] R w := by
  refine g_toPlain.sound ?_
  cases t <;> simp only [Inl.plain?, Option.some.injEq, reduceCtorEq] at hs <;> subst hs
  · obtain ⟨b, cs, e, rfl, rfl⟩ := hI
    exact ⟨_, _, _, ta_plain_yes w, br_true rfl (hR b _ _ rfl)⟩
  · obtain ⟨b, e, rfl, rfl⟩ := hI
    exact ⟨_, _, _, ta_plain_no (by decide) w, br_false rfl ⟨_, _, _, ta_emph_no (by decide) w, br_false rfl ⟨_, _, _, ta_open_yes w, br_true rfl (nilP_some (hR b _ _ rfl))⟩⟩⟩
  · obtain ⟨b, e, rfl, rfl⟩ := hI
    exact ⟨_, _, _, ta_plain_no (by decide) w, br_false rfl ⟨_, _, _, ta_emph_yes w, br_true rfl (nilP_some (hR b _ _ rfl))⟩⟩
theorem Inl.not_plain {t : Inl} (h : t.plain? = none) : t.ty ≠ ty_P_Plain ∧ t.ty ≠ ty_P_openPlain ∧ t.ty ≠ ty_P_emphPlain := by
  cases t <;> simp only [Inl.plain?, reduceCtorEq] at h <;> (simp only [Inl.ty]; decide)
theorem toPlain_no {t : Inl} {v : Value} {M : List Chunk} (hI : InlAt t v M) (hs : t.plain? = none) (hR : R (.returned (.pointer none)) w) : callE P i_toPlain #[v] R w := by
  refine g_toPlain.sound ?_
  obtain ⟨h1, h2, h3⟩ := Inl.not_plain hs
  obtain ⟨b, cs, e, M', rfl, _⟩ := hI.ptr
  exact ⟨_, _, _, ta_plain_no h1 w, br_false rfl ⟨_, _, _, ta_emph_no h3 w, br_false rfl ⟨_, _, _, ta_open_no h2 w, br_false rfl hR⟩⟩⟩

theorem joinL_nil : ∀ us : List (List UInt8), joinL [] us = us.flatten
  | [] => rfl
  | u :: us => by simp [joinL, List.flatten_cons, List.flatMap_id']
theorem InlsAt.mid {a : List Inl} {t : Inl} {b : List Inl} {vs : List Value} {M : List Chunk} (h : InlsAt (a ++ t :: b) vs M) : ∃ vs1 v vs2 M1 M2 M3, vs = vs1 ++ v :: vs2 ∧ M = M1 ++ (M2 ++ M3) ∧ InlsAt a vs1 M1 ∧ InlAt t v M2 ∧ InlsAt b vs2 M3 := by
  obtain ⟨vs1, vs2, M1, M2, rfl, rfl, h1, h2⟩ := h.split
  obtain ⟨v, vs', N1, N2, rfl, rfl, h3, h4⟩ := h2
  exact ⟨vs1, v, vs', M1, N1, N2, rfl, rfl, h1, h3, h4⟩
theorem fillS (t : List UInt8) : Instr.fill (fun i => some (i * 1, 1)) ((Array.range (1 * 1)).map (rowStr.z.cells[· % rowStr.z.cells.size]!)) [(0, .string (bs t))] = some #[.string (bs t)] := by kernel_rfl

theorem mergePlain1_ok {rb s m c : Nat} {cs : List Value} {e : TypeId} {vs : List Value} {ts : List Inl} {us : List (List UInt8)} {EM : List Chunk} (hI : InlsAt ts vs EM) (hu : ts.map Inl.plain? = us.map some) (hm : vs.length = m) (h1 : 1 ≤ m) (hmb : m < 1073741824)
    (hcs : ∀ j (hj : j < m), cs[s + j]? = vs[j]?) (hpos : 0 < us.flatten.length) (hb : us.flatten.length < 1073741824) (h : Sat σ w ((rb, cel cs e) :: (EM ++ L)))
    (hR : ∀ w b EM', InlAt (.plain us.flatten) (ptrV ty_P_Plain b) EM' → Sat σ w ((rb, cel cs e) :: (EM' ++ L)) → R (.returned (.pointer (some ⟨b, 0, none⟩))) w) :
    callE P i_mergePlain1 #[.slice (some ⟨rb, s, none⟩) m c] R w := by
  have hlt := hI.length
  have hul : us.length = ts.length := by have := congrArg List.length hu; simpa using this.symm
  refine g_mergePlain1.sound ?_
  have get : ∀ j, j < m → ∃ t v a b M1 M2 M3 u, ts = a ++ t :: b ∧ EM = M1 ++ (M2 ++ M3) ∧ InlAt t v M2 ∧ t.plain? = some u ∧ us[j]? = some u ∧ cs[s + j]? = some v ∧ a.length = j := by
    intro j hj
    have hjt : j < ts.length := by omega
    have hsp : ts = ts.take j ++ (ts[j] :: ts.drop (j + 1)) := by rw [← List.drop_eq_getElem_cons hjt, List.take_append_drop]
    have hju : j < us.length := by omega
    have hp : ts[j].plain? = some us[j] := by
      have := congrArg (fun l => l[j]?) hu
      simpa [hjt, hju] using this
    have hI' := hI
    rw [hsp] at hI'
    obtain ⟨vs1, v, vs2, M1, M2, M3, rfl, rfl, h1, h2, h3⟩ := hI'.mid
    have hl1 := h1.length
    rw [List.length_take, Nat.min_eq_left (by omega)] at hl1
    refine ⟨ts[j], v, ts.take j, ts.drop (j + 1), M1, M2, M3, us[j], hsp, rfl, h2, hp, List.getElem?_eq_getElem hju, ?_, ?_⟩
    · rw [hcs j hj, List.getElem?_append_right (by omega), hl1]; simp
    · rw [List.length_take]; omega
  by_cases hm1 : m = 1
  · refine br_true (by simp [hm1]) ⟨by omega, by omega, nilP_some ?_⟩
    obtain ⟨t, v, a, b, M1, M2, M3, u, rfl, rfl, h2, hp, hu0, hc0, ha⟩ := get 0 (by omega)
    have hb0 : b = [] := by
      simp only [List.length_append, List.length_cons, ha] at hlt
      exact List.eq_nil_of_length_eq_zero (by omega)
    have ha0 : a = [] := List.eq_nil_of_length_eq_zero ha
    subst hb0 ha0
    obtain ⟨us0, rfl⟩ : ∃ x, us = [x] := by
      simp at hul
      match us, hul with
      | [x], _ => exact ⟨x, rfl⟩
    obtain rfl : us0 = u := by simpa using hu0
    simp only [Addr.add_lit, Int.toNat_zero, Nat.zero_mul, Nat.add_zero]
    refine ⟨v, Sat.ld h (.head _) hc0, ?_⟩
    refine toPlain_yes h2 hp fun bb ccs ee hM => ⟨_, rfl, ?_⟩
    refine hR w bb M2 ?_ ?_
    · rw [hM]; exact ⟨bb, ccs, ee, rfl, by simp⟩
    · exact h.less (M1 ++ M3) (by intro _; simp only [List.append_eq, cnt_append, cnt_cons, cnt_nil] <;> omega)
  · refine br_false (by simp; omega) ?_
    intro X hX
    have key : ∀ k j (q : Option Addr) (n c' : Nat) AM w, j + k = m → Sl 1 ty_string q n c' (sv (us.take j)) AM → Sat σ w (AM ++ ((rb, cel cs e) :: (EM ++ L))) → X q n c' (some ⟨rb, s, none⟩) m c (m : Int) (j : Int) w := by
      intro k
      induction k with
      | zero =>
        intro j q n c' AM w hj hS h
        refine hX _ _ _ _ _ _ _ _ _ (br_false (by simp; omega) ?_)
        rw [List.take_of_length_le (by omega)] at hS
        cases us with
        | nil => simp at hul; omega
        | cons u us =>
          have hn := hS.1
          rw [sv_length] at hn
          simp at hul hn
          have hjl := joinL_nil (u :: us)
          refine join_ok (sep := []) hS h (by omega) (by omega) (by simp) (by rw [hjl]; exact hpos) (by rw [hjl]; exact hb) fun w h => ⟨_, rfl, ?_⟩
          rw [hjl]
          refine Sat.bx h fun pb w h => ?_
          refine hR w pb [(pb, cel [.string (bs (u :: us).flatten)] ty_Plain)] ⟨pb, [], _, rfl, rfl⟩ ?_
          exact h.less (AM ++ EM) (by intro _; simp only [List.append_eq, cnt_append, cnt_cons, cnt_nil] <;> omega)
      | succ k ih =>
        intro j q n c' AM w hj hS h
        have hjm : j < m := by omega
        have hju : j < us.length := by omega
        refine hX _ _ _ _ _ _ _ _ _ (br_true (by simp; omega) ⟨by omega, by omega, nilP_some ?_⟩)
        obtain ⟨t, v, a, b, M1, M2, M3, u, rfl, rfl, h2, hp, hu0, hc0, ha⟩ := get j hjm
        simp only [Addr.add_lit, Int.toNat_natCast, Nat.mul_one]
        refine ⟨v, Sat.ld h (List.mem_append_right _ (.head _)) hc0, ?_⟩
        refine toPlain_yes h2 hp fun bb ccs ee hM => ⟨_, rfl, nilP_some ?_⟩
        subst hM
        refine ⟨_, Sat.ld h (List.mem_append_right _ (.tail _ (List.mem_append_left _ (List.mem_append_right _ (.head _))))) rfl, ?_⟩
        have hn := hS.1
        rw [sv_length, List.length_take] at hn
        refine Sat.app1 rowStr hS h (v := .string (bs u)) rfl (by simp [Value.cells, Value.oneCell']) (fillS u) (by omega) (by omega) (by decide) fun q' c'' w' M' hS' h => ?_
        rw [i64_inc (by omega)]
        refine ih (j + 1) q' (n + 1) c'' M' w' (by omega) ?_ h
        have e : sv (us.take (j + 1)) = sv (us.take j) ++ [.string (bs u)] := by
          rw [List.take_succ_eq_append_getElem hju]
          have : us[j] = u := by rw [List.getElem?_eq_getElem hju] at hu0; exact Option.some.inj hu0
          simp [sv, this]
        rw [e]; exact hS'
    exact key m 0 none 0 0 [] w (by omega) (Sl.nil 1 ty_string) h
end Go.Proofs.YtihmcipajjakgaaGreatDoor


set_option linter.unusedVariables false
namespace Go.Proofs.YtihmcipajjakgaaGreatDoor
open Go.Proofs Go.IntWalk Go.RowKit
variable {σ : Out} {w : World} {L L' : List Chunk} {R : Ending → World → Prop}
def flushP (p : List (List UInt8)) : List Inl := if p = [] then [] else [.plain p.flatten]
def mergeGo : List (List UInt8) → List Inl → List Inl
  | p, [] => flushP p
  | p, t :: ts => match t.plain? with
    | some s => mergeGo (p ++ [s]) ts
    | none => flushP p ++ t :: mergeGo [] ts
def mergeM (ts : List Inl) : List Inl := mergeGo [] ts
def plen : List Inl → Nat
  | [] => 0
  | t :: ts => (match t.plain? with | some s => s.length | none => 0) + plen ts
theorem set_mid {α : Type} {A B C : List α} {v : α} (hB : B ≠ []) : (A ++ (B ++ C)).set A.length v = (A ++ [v]) ++ (B.drop 1 ++ C) := by
  cases B with
  | nil => exact absurd rfl hB
  | cons x B => simp [List.set_append_right]
theorem fillP (v : Value) (hv : ∃ t b, v = ptrV t b) : Instr.fill (fun i => some (i * 1, 1)) ((Array.range (1 * 1)).map (rowInl.z.cells[· % rowInl.z.cells.size]!)) [(0, v)] = some v.cells := by
  obtain ⟨t, b, rfl⟩ := hv
  exact fillI t _
theorem und_PP : P.underlying ty_P_Plain = some (.pointer ty_Plain) := und_plain

theorem mergePlain_ok {pq q : Option Addr} {n c : Nat} {vs : List Value} {ts : List Inl} {RM EM : List Chunk} (hS : Sl 1 ty_Inline q n c vs RM) (hI : InlsAt ts vs EM) (hpos : ∀ t ∈ ts, ∀ s, t.plain? = some s → s ≠ []) (hb : plen ts < 1073741824) (hn : n < 1073741823)
    (h : Sat σ w (RM ++ (EM ++ L)))
    (hR : ∀ w n' vs' RM' EM', Sl 1 ty_Inline q n' c vs' RM' → n' ≤ n → InlsAt (mergeM ts) vs' EM' → Sat σ w (RM' ++ (EM' ++ L)) → R (.returned (.slice q n' c)) w) : callE P i_parseState_mergePlain #[.pointer pq, .slice q n c] R w := by
  have hl := hS.1
  have hnc := hS.2.1
  have htl := hI.length
  refine g_parseState_mergePlain.sound ?_
  refine ⟨_, _, _, _, sliceT rowInl.ht rowInl.hi q n c 0 (by omega) w, ?_⟩
  intro X hX
  obtain ⟨_, _, ⟨rfl, rfl, rfl, rfl⟩ | ⟨rb, sp, rfl, rfl, hsp⟩⟩ := hS
  · have hts : ts = [] := List.eq_nil_of_length_eq_zero (by omega)
    subst hts
    refine hX _ _ _ _ _ _ _ _ _ (br_false rfl ?_)
    refine br_false rfl (br_true rfl ?_)
    exact hR w 0 [] [] [] (Sl.nil 1 ty_Inline) (by omega) ⟨rfl, rfl⟩ (h.sub (by rw [List.nil_append]; exact List.sublist_append_right _ _))
  have hlen0 : vs.length = n := by omega
  have key : ∀ (rts : List Inl) (pts : List Inl) (us : List (List UInt8)) (ots : List Inl) (ovs junk pvs rvs : List Value) (OM PM RM : List Chunk) w,
      InlsAt ots ovs OM → InlsAt pts pvs PM → InlsAt rts rvs RM → pts.map Inl.plain? = us.map some → (∀ u ∈ us, u ≠ []) → (∀ t ∈ rts, ∀ s, t.plain? = some s → s ≠ []) → us.flatten.length + plen rts < 1073741824 →
      ovs.length + junk.length + pvs.length + rvs.length = n → mergeM ts = ots ++ mergeGo us rts →
      Sat σ w ((rb, cel (ovs ++ (junk ++ (pvs ++ (rvs ++ sp)))) ty_Inline) :: (OM ++ (PM ++ (RM ++ L)))) →
      X (some ⟨rb, 0, none⟩) n c (some ⟨rb, 0, none⟩) ovs.length c ((ovs.length + junk.length : Nat) : Int) ((ovs.length + junk.length + pvs.length : Nat) : Int) w := by
    intro rts
    induction rts with
    | nil =>
      intro pts us ots ovs junk pvs rvs OM PM RM w hO hP hRt hu hune hrne hbb hlen hm h
      obtain ⟨rfl, rfl⟩ := hRt
      have hpl := hP.length
      have hul : us.length = pts.length := by have := congrArg List.length hu; simpa using this.symm
      simp only [List.length_nil, Nat.add_zero] at hlen
      refine hX _ _ _ _ _ _ _ _ _ (br_false (by simp; omega) ?_)
      by_cases hp0 : pvs = []
      · subst hp0
        have hpts : pts = [] := by cases pts with
          | nil => rfl
          | cons _ _ => simp at hpl
        subst hpts
        have hus : us = [] := by cases us with
          | nil => rfl
          | cons _ _ => simp at hul
        subst hus
        obtain ⟨_, rfl⟩ := hP
        refine br_false (by simp) (br_true (by simp at hlen ⊢; omega) ?_)
        refine hR w ovs.length ovs [(rb, cel (ovs ++ (junk ++ sp)) ty_Inline)] OM ⟨by omega, by omega, .inr ⟨rb, junk ++ sp, rfl, rfl, ?_⟩⟩ (by omega) ?_ ?_
        · simp only [List.length_append] at hsp ⊢; simp at hlen; omega
        · rw [hm]; simpa [mergeGo, flushP] using hO
        · simp only [List.nil_append] at h; exact h.re (by intro _; simp only [List.append_eq, cnt_append, cnt_cons, cnt_nil] <;> omega)
      · have hpos1 : 0 < pvs.length := List.length_pos_iff.2 hp0
        refine br_true (by simp; omega) ?_
        refine ⟨_, _, _, _, sliceLH rowInl.ht rowInl.hi _ n c _ _ (by omega) (by omega) w, ?_⟩
        rw [if_neg (by omega), rowInl.hs]
        simp only [Option.map_some, Addr.add_lit, Nat.zero_add, Nat.mul_one]
        have hune0 : us ≠ [] := by intro h0; subst h0; simp at hul; omega
        have hfl : 0 < us.flatten.length := by
          cases us with
          | nil => exact absurd rfl hune0
          | cons u us =>
            have := List.length_pos_iff.2 (hune u (.head _))
            simp only [List.flatten_cons, List.length_append]; omega
        have h : Sat σ w ((rb, cel (ovs ++ (junk ++ (pvs ++ ([] ++ sp)))) ty_Inline) :: (PM ++ (OM ++ L))) := h.re (by intro _; simp only [List.append_eq, cnt_append, cnt_cons, cnt_nil] <;> omega)
        refine mergePlain1_ok (us := us) hP hu (by omega) (by omega) (by omega) ?_ hfl (by simp only [plen] at hbb; omega) h fun w nb EM' hN h => ⟨_, rfl, ?_⟩
        · intro j hj
          rw [List.getElem?_append_right (by omega), List.getElem?_append_right (by omega), List.getElem?_append_left (by omega)]
          congr 1; omega
        have h : Sat σ w ((rb, cel (ovs ++ ((junk ++ pvs) ++ sp)) ty_Inline) :: (EM' ++ (OM ++ L))) := by
          have e : ovs ++ (junk ++ (pvs ++ ([] ++ sp))) = ovs ++ ((junk ++ pvs) ++ sp) := by simp
          rw [← e]; exact h
        refine appRoom' rowInl h (v := ptrV ty_P_Plain nb) (by simp; omega) (by omega) rfl rfl (fillI _ _) fun w h => ?_
        rw [set_mid (by simp [hp0])] at h
        refine br_true (by simp; omega) ?_
        refine hR w (ovs.length + 1) (ovs ++ [ptrV ty_P_Plain nb]) [(rb, cel ((ovs ++ [ptrV ty_P_Plain nb]) ++ ((junk ++ pvs).drop 1 ++ sp)) ty_Inline)] (OM ++ EM') ⟨by simp, by omega, .inr ⟨rb, _, rfl, rfl, ?_⟩⟩ (by omega) ?_ ?_
        · simp only [List.length_append, List.length_drop, List.length_singleton] at hsp ⊢; omega
        · rw [hm]
          simp only [mergeGo, flushP, if_neg hune0]
          exact hO.append (InlsAt.one hN)
        · exact h.re (by intro _; simp only [List.append_eq, cnt_append, cnt_cons, cnt_nil] <;> omega)
    | cons t rts ih =>
      intro pts us ots ovs junk pvs rvs OM PM RM w hO hP hRt hu hune hrne hbb hlen hm h
      have hpl := hP.length
      have hul : us.length = pts.length := by have := congrArg List.length hu; simpa using this.symm
      obtain ⟨v, rvs', M1, M2, rfl, rfl, hv, hrest⟩ := hRt
      simp only [List.length_cons] at hlen
      refine hX _ _ _ _ _ _ _ _ _ (br_true (by simp; omega) ⟨by omega, by omega, nilP_some ?_⟩)
      simp only [Addr.add_lit, Int.toNat_natCast, Nat.mul_one, Nat.zero_add]
      have hg : (ovs ++ (junk ++ (pvs ++ (v :: rvs' ++ sp))))[ovs.length + junk.length + pvs.length]? = some v := by
        rw [List.getElem?_append_right (by omega), List.getElem?_append_right (by omega), List.getElem?_append_right (by omega)]
        rw [show ovs.length + junk.length + pvs.length - ovs.length - junk.length - pvs.length = 0 by omega]
        rfl
      refine ⟨v, Sat.ld h (.head _) hg, ?_⟩
      cases hpt : t.plain? with
      | some u =>
        refine toPlain_yes hv hpt fun bb ccs ee hM => ⟨_, rfl, ?_⟩
        refine ⟨_, _, neq_ptr_nil und_PP _ w, br_true rfl ?_⟩
        rw [i64_inc (by omega)]
        have := ih (pts ++ [t]) (us ++ [u]) ots ovs junk (pvs ++ [v]) rvs' OM (PM ++ M1) M2 w hO (hP.append (InlsAt.one hv)) hrest (by simp [hu, hpt])
          (by intro x hx; rcases List.mem_append.1 hx with hx | hx
              · exact hune x hx
              · simp at hx; subst hx; exact hrne t (.head _) _ hpt)
          (fun t' ht' => hrne t' (.tail _ ht')) (by simp only [plen, hpt] at hbb; simp only [List.flatten_append, List.flatten_cons, List.flatten_nil, List.length_append, List.append_nil]; omega) (by simp; omega) (by rw [hm, mergeGo, hpt]) ?_
        · simp only [List.length_append, List.length_singleton, ← Nat.add_assoc] at this
          exact this
        · have e : ovs ++ (junk ++ (pvs ++ [v] ++ (rvs' ++ sp))) = ovs ++ (junk ++ (pvs ++ (v :: rvs' ++ sp))) := by simp
          rw [e]; exact h.re (by intro _; simp only [List.append_eq, cnt_append, cnt_cons, cnt_nil] <;> omega)
      | none =>
        refine toPlain_no hv hpt ⟨_, rfl, ?_⟩
        refine ⟨_, _, neq_ptr_nil und_PP _ w, br_false rfl ?_⟩
        have hvp : ∃ t b, v = ptrV t b := by obtain ⟨b, _, _, _, h, _⟩ := hv.ptr; exact ⟨_, b, h⟩
        have hv1 : v.cells = #[v] ∧ v.oneCell' = true := by obtain ⟨t, b, rfl⟩ := hvp; exact ⟨rfl, rfl⟩
        have fin : ∀ (ots' : List Inl) (ovs' junk' : List Value) (OM' : List Chunk) w, InlsAt ots' ovs' OM' → mergeM ts = ots' ++ t :: mergeGo [] rts → ovs'.length + junk'.length = ovs.length + junk.length + pvs.length →
            Sat σ w ((rb, cel (ovs' ++ (junk' ++ (v :: rvs' ++ sp))) ty_Inline) :: (OM' ++ (M1 ++ (M2 ++ L)))) →
            g_parseState_mergePlain.k2 R X (some ⟨rb, 0, none⟩) n c (some ⟨rb, 0, none⟩) ovs'.length c ((ovs.length + junk.length + pvs.length : Nat) : Int) w := by
          intro ots' ovs' junk' OM' w hO' hm' hl' h
          refine br_false (by simp; omega) ⟨by omega, by omega, nilP_some ?_⟩
          simp only [Addr.add_lit, Int.toNat_natCast, Nat.mul_one, Nat.zero_add]
          have hg : (ovs' ++ (junk' ++ (v :: rvs' ++ sp)))[ovs.length + junk.length + pvs.length]? = some v := by
            rw [List.getElem?_append_right (by omega), List.getElem?_append_right (by omega)]
            rw [show ovs.length + junk.length + pvs.length - ovs'.length - junk'.length = 0 by omega]
            rfl
          refine ⟨v, Sat.ld h (.head _) hg, ?_⟩
          have e : ovs' ++ (junk' ++ (v :: rvs' ++ sp)) = ovs' ++ ((junk' ++ [v]) ++ (rvs' ++ sp)) := by simp
          rw [e] at h
          refine appRoom' rowInl h (v := v) (by simp; omega) (by omega) hv1.1 hv1.2 (fillP v hvp) fun w h => ?_
          rw [set_mid (by simp)] at h
          have e1 : IntKind.i64.wrap (((ovs.length + junk.length + pvs.length : Nat) : Int) + 1) = ((ovs.length + junk.length + pvs.length + 1 : Nat) : Int) := i64_inc (by omega)
          rw [e1]
          have := ih [] [] (ots' ++ [t]) (ovs' ++ [v]) ((junk' ++ [v]).drop 1) [] rvs' (OM' ++ M1) [] M2 w (hO'.append (InlsAt.one hv)) ⟨rfl, rfl⟩ hrest rfl (by simp) (fun t' ht' => hrne t' (.tail _ ht')) (by simp only [plen, hpt] at hbb; simp; omega)
            (by simp; omega) (by rw [hm']; simp) ?_
          · simp only [List.length_append, List.length_singleton, List.length_drop, List.length_nil, Nat.add_zero] at this
            have e2 : ovs'.length + 1 + (junk'.length + 1 - 1) = ovs.length + junk.length + pvs.length + 1 := by omega
            rw [e2] at this
            exact this
          · rw [List.nil_append]
            exact h.re (by intro _; simp only [List.append_eq, cnt_append, cnt_cons, cnt_nil] <;> omega)
        by_cases hp0 : pvs = []
        · subst hp0
          have hpts : pts = [] := by cases pts with
            | nil => rfl
            | cons _ _ => simp at hpl
          subst hpts
          have hus : us = [] := by cases us with
            | nil => rfl
            | cons _ _ => simp at hul
          subst hus
          obtain ⟨_, rfl⟩ := hP
          refine br_false (by simp) ?_
          refine fin ots ovs junk OM w hO (by rw [hm, mergeGo, hpt]; rfl) (by simp) ?_
          simp only [List.nil_append] at h
          exact h.re (by intro _; simp only [List.append_eq, cnt_append, cnt_cons, cnt_nil] <;> omega)
        · have hpos1 : 0 < pvs.length := List.length_pos_iff.2 hp0
          refine br_true (by simp; omega) ?_
          refine ⟨_, _, _, _, sliceLH rowInl.ht rowInl.hi _ n c _ _ (by omega) (by omega) w, ?_⟩
          rw [if_neg (by omega), rowInl.hs]
          simp only [Option.map_some, Addr.add_lit, Nat.zero_add, Nat.mul_one]
          have hune0 : us ≠ [] := by intro h0; subst h0; simp at hul; omega
          have hfl : 0 < us.flatten.length := by
            cases us with
            | nil => exact absurd rfl hune0
            | cons u us =>
              have := List.length_pos_iff.2 (hune u (.head _))
              simp only [List.flatten_cons, List.length_append]; omega
          have h : Sat σ w ((rb, cel (ovs ++ (junk ++ (pvs ++ (v :: rvs' ++ sp)))) ty_Inline) :: (PM ++ (OM ++ (M1 ++ (M2 ++ L))))) := h.re (by intro _; simp only [List.append_eq, cnt_append, cnt_cons, cnt_nil] <;> omega)
          refine mergePlain1_ok (us := us) hP hu (by omega) (by omega) (by omega) ?_ hfl (by simp only [plen] at hbb; omega) h fun w nb EM' hN h => ⟨_, rfl, ?_⟩
          · intro j hj
            rw [List.getElem?_append_right (by omega), List.getElem?_append_right (by omega), List.getElem?_append_left (by omega)]
            congr 1; omega
          have h : Sat σ w ((rb, cel (ovs ++ ((junk ++ pvs) ++ (v :: rvs' ++ sp))) ty_Inline) :: (EM' ++ (OM ++ (M1 ++ (M2 ++ L))))) := by
            have e : ovs ++ (junk ++ (pvs ++ (v :: rvs' ++ sp))) = ovs ++ ((junk ++ pvs) ++ (v :: rvs' ++ sp)) := by simp
            rw [← e]; exact h
          refine appRoom' rowInl h (v := ptrV ty_P_Plain nb) (by simp; omega) (by omega) rfl rfl (fillI _ _) fun w h => ?_
          rw [set_mid (by simp [hp0])] at h
          have := fin (ots ++ [.plain us.flatten]) (ovs ++ [ptrV ty_P_Plain nb]) ((junk ++ pvs).drop 1) (OM ++ EM') w (hO.append (InlsAt.one hN)) (by rw [hm, mergeGo, hpt]; simp [flushP, hune0]) (by simp; omega) (h.re (by intro _; simp only [List.append_eq, cnt_append, cnt_cons, cnt_nil] <;> omega))
          simp only [List.length_append, List.length_singleton] at this
          exact this
  have := key ts [] [] [] [] [] [] vs [] [] EM w ⟨rfl, rfl⟩ ⟨rfl, rfl⟩ hI rfl (by simp) hpos (by simpa using hb) (by simpa using hlen0) rfl (by simp only [List.nil_append]; exact h.re (by intro _; simp only [List.append_eq, cnt_append, cnt_cons, cnt_nil] <;> omega))
  exact this
end Go.Proofs.YtihmcipajjakgaaGreatDoor


set_option linter.unusedVariables false
namespace Go.Proofs.YtihmcipajjakgaaGreatDoor
open Go.Proofs Go.IntWalk Go.RowKit
variable {σ : Out} {w : World} {L L' : List Chunk} {R : Ending → World → Prop}
inductive PK where
  | nil
  | fn (f : FuncId)
  | code
def parserOf (o : Opt) (c : UInt8) : PK :=
  if c = 92 then .fn i_parseEscape else if c = 96 then .code else if c = 60 then .fn i_parseAutoLinkOrHTML else if c = 91 then .fn i_parseLinkOpen else if c = 33 then .fn i_parseImageOpen
  else if c = 95 ∨ c = 42 then .fn i_parseEmph else if c = 46 then (if o.dot then .fn i_parseDot else .nil) else if c = 45 then (if o.dash then .fn i_parseDash else .nil)
  else if c = 34 ∨ c = 39 then (if o.quote then .fn i_parseEmph else .nil) else if c = 126 then (if o.strike then .fn i_parseEmph else .nil) else if c = 10 then .fn i_parseBreak
  else if c = 38 then .fn i_parseHTMLEntity else if c = 58 then (if o.emoji then .fn i_parseEmoji else .nil) else .nil
abbrev XI := Option Addr → ByteArray → Option Addr → Nat → Nat → Int → Bool → Int → World → Prop
theorem inl_dispatch {X : XI} {b pb : Nat} {p : PS} {o : Opt} {s : List UInt8} {oq : Option Addr} {on oc : Nat} {lo : Int} {bk : Bool} {i : Nat} (hi : i < s.length) (hs : s.length < 4611686018427387904) (hpz : p.pz = some ⟨pb, 0, none⟩) (hp : p.at b ∈ L) (ho : o.at pb ∈ L) (h : Sat σ w L)
    (hK : match parserOf o s[i] with
      | .nil => g_parseState_inline.k1 R X (some ⟨b, 0, none⟩) (bs s) oq on oc lo bk i .nilFunc w
      | .fn f => g_parseState_inline.k1 R X (some ⟨b, 0, none⟩) (bs s) oq on oc lo bk i (.func (.func f) #[] #[]) w
      | .code => br (!bk) (callE P i_backtickParser_reset #[.pointer (some ⟨b, 12, none⟩)] (fun e w11 => e = .returned (.tuple #[]) ∧ g_parseState_inline.k1 R X (some ⟨b, 0, none⟩) (bs s) oq on oc lo true i (.func (.func i_backtickParser_parseCodeSpan) #[.pointer (some ⟨b, 12, none⟩)] #[]) w11) w)
          (g_parseState_inline.k1 R X (some ⟨b, 0, none⟩) (bs s) oq on oc lo bk i (.func (.func i_backtickParser_parseCodeSpan) #[.pointer (some ⟨b, 12, none⟩)] #[]) w)) :
    g_parseState_inline.bl1 R X (some ⟨b, 0, none⟩) (bs s) oq on oc lo bk i w := by
  have hld0 : w.cell? ⟨b, 0, none⟩ = some (.pointer (some ⟨pb, 0, none⟩)) := by rw [← hpz]; exact Sat.ld h hp rfl
  refine br_true (by simp; omega) ⟨by omega, by simp; omega, ?_⟩
  unfold parserOf at hK
  have hne : ∀ (d : UInt8) (m : Int), (d.toNat : Int) = m → ¬ s[i] = d → (bt (bs s) (i : Int) == m) = false := by
    intro d m hm hd; rw [bt_beq hi d m hm]; simpa using hd
  have hye : ∀ (d : UInt8) (m : Int), (d.toNat : Int) = m → s[i] = d → (bt (bs s) (i : Int) == m) = true := by
    intro d m hm hd; rw [bt_beq hi d m hm]; simpa using hd
  by_cases h92 : s[i] = 92
  · rw [if_pos h92] at hK; exact br_true (hye 92 92 rfl h92) hK
  rw [if_neg h92] at hK; refine br_false (hne 92 92 rfl h92) ?_
  by_cases h96 : s[i] = 96
  · rw [if_pos h96] at hK
    refine br_true (hye 96 96 rfl h96) ?_
    cases bk with
    | true => exact br_false rfl (nilP_some hK)
    | false => exact br_true rfl (nilP_some (by
        have hK : callE P i_backtickParser_reset #[.pointer (some ⟨b, 12, none⟩)] _ w := hK
        exact hK))
  rw [if_neg h96] at hK; refine br_false (hne 96 96 rfl h96) ?_
  by_cases h60 : s[i] = 60
  · rw [if_pos h60] at hK; exact br_true (hye 60 60 rfl h60) hK
  rw [if_neg h60] at hK; refine br_false (hne 60 60 rfl h60) ?_
  by_cases h91 : s[i] = 91
  · rw [if_pos h91] at hK; exact br_true (hye 91 91 rfl h91) hK
  rw [if_neg h91] at hK; refine br_false (hne 91 91 rfl h91) ?_
  by_cases h33 : s[i] = 33
  · rw [if_pos h33] at hK; exact br_true (hye 33 33 rfl h33) hK
  rw [if_neg h33] at hK; refine br_false (hne 33 33 rfl h33) ?_
  by_cases h95 : s[i] = 95
  · rw [if_pos (.inl h95)] at hK; exact br_true (hye 95 95 rfl h95) (br_true rfl hK)
  refine br_false (hne 95 95 rfl h95) ?_
  by_cases h42 : s[i] = 42
  · rw [if_pos (.inr h42)] at hK; exact br_true (hye 42 42 rfl h42) hK
  rw [if_neg (by simp [h95, h42])] at hK; refine br_false (hne 42 42 rfl h42) ?_
  have opt : ∀ {A B : Prop} (k : Nat) (v : Bool), o.cells[k]? = some (.bool v) → (v = true → A) → (v = false → B) →
      nilP (some (⟨b, 0, none⟩ : Addr)) fun a53 => ∃ (v54 : Option Addr), w.cell? a53 = some (.pointer v54) ∧ nilP v54 fun a55 => ∃ (v56 : Bool), w.cell? (a55.add k) = some (.bool v56) ∧ br v56 A B := by
    intro A B k v hv hA hB
    refine nilP_some ⟨_, hld0, nilP_some ?_⟩
    simp only [Addr.add_lit, Nat.zero_add]
    exact ⟨v, Sat.ld h ho hv, br_split hA hB⟩
  by_cases h46 : s[i] = 46
  · rw [if_pos h46] at hK
    refine br_true (hye 46 46 rfl h46) (opt 7 o.dot rfl (fun hv => ?_) (fun hv => ?_))
    · rw [if_pos hv] at hK; exact hK
    · rw [if_neg (by simp [hv])] at hK; exact hK
  rw [if_neg h46] at hK; refine br_false (hne 46 46 rfl h46) ?_
  by_cases h45 : s[i] = 45
  · rw [if_pos h45] at hK
    refine br_true (hye 45 45 rfl h45) (opt 8 o.dash rfl (fun hv => ?_) (fun hv => ?_))
    · rw [if_pos hv] at hK; exact hK
    · rw [if_neg (by simp [hv])] at hK; exact hK
  rw [if_neg h45] at hK; refine br_false (hne 45 45 rfl h45) ?_
  by_cases h34 : s[i] = 34
  · rw [if_pos (.inl h34)] at hK
    refine br_true (hye 34 34 rfl h34) (br_true rfl (opt 9 o.quote rfl (fun hv => ?_) (fun hv => ?_)))
    · rw [if_pos hv] at hK; exact hK
    · rw [if_neg (by simp [hv])] at hK; exact hK
  refine br_false (hne 34 34 rfl h34) ?_
  by_cases h39 : s[i] = 39
  · rw [if_pos (.inr h39)] at hK
    refine br_true (hye 39 39 rfl h39) (opt 9 o.quote rfl (fun hv => ?_) (fun hv => ?_))
    · rw [if_pos hv] at hK; exact hK
    · rw [if_neg (by simp [hv])] at hK; exact hK
  rw [if_neg (by simp [h34, h39])] at hK; refine br_false (hne 39 39 rfl h39) ?_
  by_cases h126 : s[i] = 126
  · rw [if_pos h126] at hK
    refine br_true (hye 126 126 rfl h126) (opt 1 o.strike rfl (fun hv => ?_) (fun hv => ?_))
    · rw [if_pos hv] at hK; exact hK
    · rw [if_neg (by simp [hv])] at hK; exact hK
  rw [if_neg h126] at hK; refine br_false (hne 126 126 rfl h126) ?_
  by_cases h10 : s[i] = 10
  · rw [if_pos h10] at hK; exact br_true (hye 10 10 rfl h10) hK
  rw [if_neg h10] at hK; refine br_false (hne 10 10 rfl h10) ?_
  by_cases h38 : s[i] = 38
  · rw [if_pos h38] at hK; exact br_true (hye 38 38 rfl h38) hK
  rw [if_neg h38] at hK; refine br_false (hne 38 38 rfl h38) ?_
  by_cases h58 : s[i] = 58
  · rw [if_pos h58] at hK
    refine br_true (hye 58 58 rfl h58) (opt 6 o.emoji rfl (fun hv => ?_) (fun hv => ?_))
    · rw [if_pos hv] at hK; exact hK
    · rw [if_neg (by simp [hv])] at hK; exact hK
  rw [if_neg h58] at hK; exact br_false (hne 58 58 rfl h58) hK
end Go.Proofs.YtihmcipajjakgaaGreatDoor


set_option linter.unusedVariables false
namespace Go.Proofs.YtihmcipajjakgaaGreatDoor
open Go.Proofs Go.IntWalk Go.RowKit
variable {σ : Out} {w : World} {L L' : List Chunk} {R : Ending → World → Prop}
def PS.core (p : PS) : PS := { p with em := 0, lq := none, ln := 0, lc := 0, corner := false, bt := [] }
def PS.core2 (p : PS) : PS := { p with corner := false, bt := [] }
theorem PS.core_of2 {p p' : PS} (h : p'.core2 = p.core2) : p'.core = p.core := by
  have := congrArg PS.core h
  simpa [PS.core, PS.core2] using this
def IIn (σ : Out) (b : Nat) (p : PS) (ts : List Inl) (opens : List Nat) (oq : Option Addr) (on oc : Nat) (L : List Chunk) (w : World) : Prop :=
  ∃ vs RM EM OM, Sl 1 ty_Inline p.lq p.ln p.lc vs RM ∧ InlsAt ts vs EM ∧ Sl 1 ty_int oq on oc (opens.map fun (n : Nat) => Value.int .i64 n) OM ∧ ts.length < 1073741824 ∧ Sat σ w (p.at b :: (RM ++ (EM ++ (OM ++ L))))
def sub (s : List UInt8) (i j : Nat) : List UInt8 := (s.take j).drop i
def emitM (s : List UInt8) (em i : Nat) (ts : List Inl) : List Inl := if em < i then ts ++ [.plain (sub s em i)] else ts
theorem emitI_ok {b e i : Nat} {p : PS} {ts : List Inl} {opens : List Nat} {oq : Option Addr} {on oc : Nat} (h : IIn σ b p ts opens oq on oc L w) (he : p.em = e) (hl : i ≤ p.s.length) (hn : ts.length < 1073741823)
    (hR : ∀ w p', p'.core = p.core → p'.bt = p.bt → p'.em = ((max e i : Nat) : Int) → IIn σ b p' (emitM p.s e i ts) opens oq on oc L w → R (.returned (.tuple #[])) w) :
    callE P i_parseState_emit #[.pointer (some ⟨b, 0, none⟩), .int .i64 i] R w := by
  obtain ⟨vs, RM, EM, OM, hS, hI, hO, hlen, h⟩ := h
  have hvl := hI.length
  by_cases hi : e < i
  · have h : Sat σ w (p.at b :: RM ++ (EM ++ (OM ++ L))) := h
    refine emit_ok (L := EM ++ (OM ++ L)) h ⟨hS, by omega⟩ he hi hl (by omega) fun w p' M' nb hp' hS' h => ?_
    refine hR w p' (by rw [hp']; rfl) (by rw [hp']) (by rw [hp']; show ((i : Nat) : Int) = _; congr 1; omega) ⟨_, M', EM ++ [plainC nb (sub p.s e i)], OM, hS'.1, ?_, hO, ?_, ?_⟩
    · unfold emitM; rw [if_pos hi]
      exact hI.append (InlsAt.one ⟨nb, [], _, rfl, rfl⟩)
    · unfold emitM; rw [if_pos hi]; simp; omega
    · have h : Sat σ w (p'.at b :: M' ++ (plainC nb (sub p.s e i) :: (EM ++ (OM ++ L)))) := h
      exact h.re (by intro _; simp only [List.append_eq, cnt_append, cnt_cons, cnt_nil] <;> omega)
  · refine emit_no h (by rw [he]; omega) fun w h => ?_
    refine hR w p rfl rfl (by rw [he]; congr 1; omega) ⟨vs, RM, EM, OM, hS, ?_, hO, ?_, h⟩
    · unfold emitM; rw [if_neg hi]; exact hI
    · unfold emitM; rw [if_neg hi]; exact hlen

def LeafOK (b : Nat) (p : PS) (s : List UInt8) (i : Nat) (fv : Value) (L0 : List Chunk) (res : Option (Inl × Nat × Nat)) (Q : PS → Prop) : Prop :=
  ∀ (σ : Out) (R : Ending → World → Prop) (L : List Chunk) (w : World), (∀ c ∈ L0, c ∈ L) → Sat σ w (p.at b :: L) →
    (match res with
      | none => ∀ w p' v x y, p'.core2 = p.core2 → Q p' → Sat σ w (p'.at b :: L) → R (.returned (.tuple #[v, .int .i64 x, .int .i64 y, .bool false])) w
      | some (t, st, en) => ∀ w p' v TM, p'.core2 = p.core2 → Q p' → InlAt t v TM → Sat σ w (p'.at b :: (TM ++ L)) → R (.returned (.tuple #[v, .int .i64 st, .int .i64 en, .bool true])) w) →
    enterE P (do let d ← Deferred.ofValue fv #[.pointer (some ⟨b, 0, none⟩), .string (bs s), .int .i64 i]; invoke d.target d.args) R w
def isFuncB (P : Program) (t : TypeId) : Bool := match P.underlying t with | some (.func _ _ _) => true | _ => false
theorem isFunc_out {P : Program} {t : TypeId} (h : isFuncB P t = true) : ∃ ps rs vr, P.underlying t = some (.func ps rs vr) := by
  unfold isFuncB at h
  split at h
  · rename_i a b c hd; exact ⟨_, _, _, hd⟩
  · cases h
theorem und_pf : isFuncB P ty_func_P_parseState_string_int_I_18a27a = true := by kernel_rfl
theorem neq_pf {x y : Operand} (k : FuncId) (f g : Array Value) (w : World) :
    (do eqGuard .neq ty_func_P_parseState_string_int_I_18a27a x y (.func (.func k) f g) .nilFunc; binOp .neq ty_func_P_parseState_string_int_I_18a27a (.func (.func k) f g) .nilFunc).run P w = .ok (.bool true) w := by
  obtain ⟨_, _, _, h⟩ := isFunc_out und_pf
  exact neq_func_nil h k f g w
theorem neq_pn {x y : Operand} (w : World) :
    (do eqGuard .neq ty_func_P_parseState_string_int_I_18a27a x y .nilFunc .nilFunc; binOp .neq ty_func_P_parseState_string_int_I_18a27a .nilFunc .nilFunc).run P w = .ok (.bool false) w := by
  obtain ⟨_, _, _, h⟩ := isFunc_out und_pf
  exact neq_nil_nil h w
def Inl.isOpen : Inl → Bool
  | .openP _ _ => true
  | _ => false
theorem Inl.ty_open {t : Inl} (h : t.isOpen = false) : t.ty ≠ ty_P_openPlain := by
  cases t <;> simp only [Inl.isOpen, reduceCtorEq] at h <;> (simp only [Inl.ty]; decide)
noncomputable def rowInt : Row P ty_S_int ty_int 1 8 :=
  ⟨(P.info? ty_int).getD default, ((P.info? ty_int).bind (·.zero)).getD default, by kernel_rfl, by kernel_rfl, by kernel_rfl, by kernel_rfl, by kernel_rfl, by kernel_rfl, by decide⟩
theorem fillN (n : Nat) : Instr.fill (fun i => some (i * 1, 1)) ((Array.range (1 * 1)).map (rowInt.z.cells[· % rowInt.z.cells.size]!)) [(0, .int .i64 n)] = some #[.int .i64 n] := by kernel_rfl
theorem inl_leaf {X : XI} {b i e st en : Nat} {p : PS} {ts : List Inl} {opens : List Nat} {oq : Option Addr} {on oc : Nat} {lo : Int} {bk : Bool} {f : FuncId} {fr cp : Array Value} {t : Inl} {L0 : List Chunk} {Q : PS → Prop}
    (h : IIn σ b p ts opens oq on oc L w) (hL0 : ∀ c ∈ L0, c ∈ L) (hf : LeafOK b p p.s i (.func (.func f) fr cp) L0 (some (t, st, en)) Q) (he : p.em = e) (hst : st ≤ p.s.length) (hs : p.s.length < 1000000000) (hn : ts.length < 1000000000) (hon : opens.length < 1000000000)
    (hK : ∀ w p' oq on oc, p'.core = p.core → p'.em = (en : Int) → (∃ p'', Q p'' ∧ p'.bt = p''.bt) → IIn σ b p' (emitM p.s e st ts ++ [t]) (if t.isOpen then opens ++ [(emitM p.s e st ts).length] else opens) oq on oc L w → X (some ⟨b, 0, none⟩) (bs p.s) oq on oc lo bk en w) :
    g_parseState_inline.k1 R X (some ⟨b, 0, none⟩) (bs p.s) oq on oc lo bk i (.func (.func f) fr cp) w := by
  refine ⟨_, _, neq_pf f fr cp w, br_true rfl ?_⟩
  obtain ⟨vs, RM, EM, OM, hS, hI, hO, hlen, h⟩ := h
  have hcl : ∀ c ∈ L0, c ∈ RM ++ (EM ++ (OM ++ L)) := fun c hc => List.mem_append_right _ (List.mem_append_right _ (List.mem_append_right _ (hL0 c hc)))
  refine hf σ _ (RM ++ (EM ++ (OM ++ L))) w hcl h fun w p1 v TM hp1 hq1 ht h => ⟨_, _, _, _, rfl, br_true rfl ?_⟩
  have hc1 := PS.core_of2 hp1
  have e1 : p1.lq = p.lq := by have := congrArg PS.lq hp1; exact this
  have e2 : p1.ln = p.ln := by have := congrArg PS.ln hp1; exact this
  have e3 : p1.lc = p.lc := by have := congrArg PS.lc hp1; exact this
  have e4 : p1.s = p.s := by have := congrArg PS.s hp1; exact this
  have e5 : p1.em = e := by have := congrArg PS.em hp1; rw [← he]; exact this
  have hI1 : IIn σ b p1 ts opens oq on oc (TM ++ L) w := ⟨vs, RM, EM, OM, by rw [e1, e2, e3]; exact hS, hI, hO, hlen, h.re (by intro _; simp only [List.append_eq, cnt_append, cnt_cons, cnt_nil] <;> omega)⟩
  refine emitI_ok hI1 e5 (by rw [e4]; exact hst) (by omega) fun w p2 hp2 hbt he2 h2 => ⟨rfl, ?_⟩
  rw [e4] at h2
  obtain ⟨pb, cs, ee, TM', rfl, rfl⟩ := ht.ptr
  have hc2 : p2.core = p.core := hp2.trans hc1
  have hs2 : p2.s = p.s := by have := congrArg PS.s hc2; exact this
  have elen : (emitM p.s e st ts).length ≤ ts.length + 1 := by unfold emitM; split <;> simp
  have fin : ∀ w oq on oc opens', opens' = (if t.isOpen then opens ++ [(emitM p.s e st ts).length] else opens) → IIn σ b p2 (emitM p.s e st ts) opens' oq on oc (((pb, cel cs ee) :: TM') ++ L) w →
      g_parseState_inline.k4 R X (some ⟨b, 0, none⟩) (bs p.s) oq on oc lo bk (ptrV t.ty pb) en w := by
    intro w oq on oc opens' ho h
    obtain ⟨vs, RM, EM, OM, hS, hI, hO, hlen, h⟩ := h
    have hvl := hI.length
    have hn0 := hS.1
    refine nilP_some ?_
    refine ⟨_, _, _, Sat.ld h (by first | assumption | (repeat (first | exact .head _ | apply List.Mem.tail))) (by exact rfl), ?_⟩
    have h : Sat σ w (RM ++ (p2.at b :: (EM ++ (OM ++ (((pb, cel cs ee) :: TM') ++ L))))) := h.re (by intro _; simp only [List.append_eq, cnt_append, cnt_cons, cnt_nil] <;> omega)
    refine Sat.app1 rowInl hS h (v := ptrV t.ty pb) rfl (by simp [ptrV, Value.cells, Value.oneCell']) (fillI _ _) (by omega) (by omega) (by decide) fun q' c' w' M' hS' h => ?_
    have h : Sat σ w' (p2.at b :: (M' ++ (EM ++ (OM ++ (((pb, cel cs ee) :: TM') ++ L))))) := h.re (by intro _; simp only [List.append_eq, cnt_append, cnt_cons, cnt_nil] <;> omega)
    refine nilP_some ?_
    refine Sat.st h (k := 0) rfl (Nat.le_of_ble_eq_true rfl) trivial (by first | (dsimp only [List.set]; exact rfl) | exact rfl) fun w h => ?_
    let p3 : PS := { p2 with lq := q', ln := p2.ln + 1, lc := c' }
    have h : Sat σ w (p3.at b :: (M' ++ (EM ++ (OM ++ (((pb, cel cs ee) :: TM') ++ L))))) := h
    refine skipTo_ok h fun w h => ⟨rfl, ?_⟩
    refine hK w { p3 with em := en } oq on oc (by rw [← hc2]; rfl) rfl ⟨p1, hq1, hbt⟩ ⟨_, M', EM ++ ((pb, cel cs ee) :: TM'), OM, hS', ?_, by rw [← ho]; exact hO, by simp; omega, h.re (by intro _; simp only [List.append_eq, cnt_append, cnt_cons, cnt_nil] <;> omega)⟩
    exact hI.append (InlsAt.one ht)
  cases hto : t.isOpen with
  | false =>
    refine ⟨_, _, w, ta_open_no (Inl.ty_open hto) w, br_false rfl ?_⟩
    exact fin w oq on oc opens (by rw [hto]; rfl) h2
  | true =>
    have hty : t.ty = ty_P_openPlain := by cases t <;> simp only [Inl.isOpen, reduceCtorEq] at hto; rfl
    have hta : (Instr.typeAssert (ptrV t.ty pb) ty_Inline ty_P_openPlain true).run P w = .ok (.tuple #[.pointer (some ⟨pb, 0, none⟩), .bool true]) w := by
      rw [hty]; exact ta_open_yes w
    refine ⟨_, _, w, hta, br_true rfl ?_⟩
    obtain ⟨vs, RM, EM, OM, hS, hI, hO, hlen, h⟩ := h2
    have hvl := hI.length
    have hn0 := hS.1
    have hol := hO.1
    rw [List.length_map] at hol
    refine nilP_some ?_
    refine ⟨_, _, _, Sat.ld h (by first | assumption | (repeat (first | exact .head _ | apply List.Mem.tail))) (by exact rfl), ?_⟩
    have h : Sat σ w (OM ++ (p2.at b :: (RM ++ (EM ++ (((pb, cel cs ee) :: TM') ++ L))))) := h.re (by intro _; simp only [List.append_eq, cnt_append, cnt_cons, cnt_nil] <;> omega)
    have hln : p2.ln = (emitM p.s e st ts).length := by omega
    rw [hln]
    generalize hm : (emitM p.s e st ts).length = m at fin elen hln ⊢
    refine Sat.app1 rowInt hO h (v := .int .i64 (m : Nat)) rfl (by simp [Value.cells, Value.oneCell']) (fillN m) (by omega) (by omega) (by decide) fun q' c' w' M' hO' h => ?_
    refine fin w' q' _ c' _ (by rw [hto] <;> rfl) ⟨vs, RM, EM, M', hS, hI, ?_, hlen, h.re (by intro _; simp only [List.append_eq, cnt_append, cnt_cons, cnt_nil] <;> omega)⟩
    rw [if_pos rfl, List.map_append]; exact hO'
theorem inl_k5 {X : XI} {b i : Nat} {s : List UInt8} {oq : Option Addr} {on oc : Nat} {lo : Int} {bk : Bool} (hi : i < s.length) (hs : s.length < 4611686018427387904) (hc : s[i] ≠ 93 ∨ on = 0)
    (hK : X (some ⟨b, 0, none⟩) (bs s) oq on oc lo bk ((i + 1 : Nat) : Int) w) : g_parseState_inline.k5 R X (some ⟨b, 0, none⟩) (bs s) oq on oc lo bk i w := by
  refine ⟨by omega, by simp; omega, ?_⟩
  refine br_false ?_ ?_
  · rw [bt_beq hi 93 93 rfl]
    rcases hc with hc | hc
    · simp [hc]
    · simp [hc]
  · rw [i64_inc (by omega)]; exact hK
theorem inl_none {X : XI} {b i : Nat} {s : List UInt8} {oq : Option Addr} {on oc : Nat} {lo : Int} {bk : Bool} (hK : g_parseState_inline.k5 R X (some ⟨b, 0, none⟩) (bs s) oq on oc lo bk i w) :
    g_parseState_inline.k1 R X (some ⟨b, 0, none⟩) (bs s) oq on oc lo bk i .nilFunc w :=
  ⟨_, _, neq_pn w, br_false rfl hK⟩
end Go.Proofs.YtihmcipajjakgaaGreatDoor


set_option linter.unusedVariables false
namespace Go.Proofs.YtihmcipajjakgaaGreatDoor
open Go.Proofs Go.IntWalk Go.RowKit
variable {σ : Out} {w : World} {L L' : List Chunk} {R : Ending → World → Prop}
def EmphOK (ts ts' : List Inl) : Prop :=
  ∀ (σ : Out) (R : Ending → World → Prop) (pq q : Option Addr) (n c : Nat) vs RM EM L w, Sl 1 ty_Inline q n c vs RM → InlsAt ts vs EM → n < 1073741823 → Sat σ w (RM ++ (EM ++ L)) →
    (∀ w q' n' c' vs' RM' EM', Sl 1 ty_Inline q' n' c' vs' RM' → n' ≤ n → InlsAt ts' vs' EM' → Sat σ w (RM' ++ (EM' ++ L)) → R (.returned (.slice q' n' c')) w) →
    callE P i_parseState_emph #[.pointer pq, .slice q 0 c, .slice q n c] R w
theorem autoOff_ok {b pb : Nat} {p : PS} {o : Opt} {q : Option Addr} {n c : Nat} (hpz : p.pz = some ⟨pb, 0, none⟩) (hp : p.at b ∈ L) (ho : o.at pb ∈ L) (hoff : o.auto = false) (h : Sat σ w L) (hR : R (.returned (.slice q n c)) w) :
    callE P i_parseState_autoLinkText #[.pointer (some ⟨b, 0, none⟩), .slice q n c] R w := by
  refine g_parseState_autoLinkText.sound ?_
  refine nilP_some ⟨_, by rw [← hpz]; exact Sat.ld h hp rfl, nilP_some ?_⟩
  simp only [Addr.add_lit, Nat.zero_add]
  exact ⟨o.auto, Sat.ld h ho rfl, br_true (by rw [hoff]; rfl) hR⟩
def AutoOK (o : Opt) (ts ts' : List Inl) : Prop :=
  ∀ (σ : Out) (R : Ending → World → Prop) (b pb : Nat) (p : PS) (q : Option Addr) (n c : Nat) (vs : List Value) (RM EM L : List Chunk) (w : World), p.pz = some ⟨pb, 0, none⟩ → p.at b ∈ L → o.at pb ∈ L → Sl 1 ty_Inline q n c vs RM → n < 1073741824 → InlsAt ts vs EM → Sat σ w (RM ++ (EM ++ L)) →
    (∀ w q' n' c' vs' RM' EM', Sl 1 ty_Inline q' n' c' vs' RM' → n' < 1073741824 → InlsAt ts' vs' EM' → Sat σ w (RM' ++ (EM' ++ L)) → R (.returned (.slice q' n' c')) w) →
    callE P i_parseState_autoLinkText #[.pointer (some ⟨b, 0, none⟩), .slice q n c] R w
theorem autoOK_off {o : Opt} {ts : List Inl} (hoff : o.auto = false) : AutoOK o ts ts := fun σ R b pb p q n c vs RM EM L w hpz hp ho hS hn hI h hR =>
  autoOff_ok hpz (List.mem_append_right _ (List.mem_append_right _ hp)) (List.mem_append_right _ (List.mem_append_right _ ho)) hoff h (hR w q n c vs RM EM hS hn hI h)
theorem inl_endA {X : XI} {b pb e : Nat} {p : PS} {o : Opt} {ts ts' ts2 : List Inl} {opens : List Nat} {oq : Option Addr} {on oc : Nat} {lo : Int} {bk : Bool} (h : IIn σ b p ts opens oq on oc L w) (he : p.em = e) (hs : p.s.length < 1000000000)
    (hn : ts.length < 1000000000) (hpz : p.pz = some ⟨pb, 0, none⟩) (ho : o.at pb ∈ L) (hE : EmphOK (emitM p.s e p.s.length ts) ts') (hpos : ∀ t ∈ ts', ∀ s, t.plain? = some s → s ≠ []) (hb : plen ts' < 1073741824) (hA : AutoOK o (mergeM ts') ts2)
    (hR : ∀ w (p' : PS) q n c vs RM EM, p'.core = p.core → Sl 1 ty_Inline q n c vs RM → n < 1073741824 → InlsAt ts2 vs EM → Sat σ w (p'.at b :: (RM ++ (EM ++ L))) → R (.returned (.slice q n c)) w) :
    g_parseState_inline.bl1 R X (some ⟨b, 0, none⟩) (bs p.s) oq on oc lo bk (p.s.length : Nat) w := by
  have elen : (emitM p.s e p.s.length ts).length ≤ ts.length + 1 := by unfold emitM; split <;> simp
  refine br_false (by simp) ?_
  rw [bs_size]
  refine emitI_ok h he (Nat.le_refl _) (by omega) fun w p1 hp1 _ _ h => ⟨rfl, ?_⟩
  obtain ⟨vs, RM, EM, OM, hS, hI, hO, hlen, h⟩ := h
  have hvl := hI.length
  have hn0 := hS.1
  have hnc := hS.2.1
  have c1 : p1.pz = p.pz := by have := congrArg PS.pz hp1; exact this
  refine Sat.tk h fun w h => ?_
  refine nilP_some (nilP_some ?_)
  refine ⟨_, _, _, Sat.ld h (by first | assumption | (repeat (first | exact .head _ | apply List.Mem.tail))) (by exact rfl), ?_⟩
  refine ⟨_, _, _, fun w => sliceT rowInl.ht rowInl.hi _ _ _ 0 (by omega) w, ?_⟩
  refine ⟨_, _, _, Sat.ld h (by first | assumption | (repeat (first | exact .head _ | apply List.Mem.tail))) (by exact rfl), ?_⟩
  have h : Sat σ w (RM ++ (EM ++ (p1.at b :: (OM ++ L)))) := h.re (by intro _; simp only [List.append_eq, cnt_append, cnt_cons, cnt_nil] <;> omega)
  refine hE σ _ _ p1.lq p1.ln p1.lc vs RM EM _ w hS hI (by omega) h fun w q' n' c' vs' RM' EM' hS' hnn hI' h => ⟨_, _, _, rfl, nilP_some ?_⟩
  have h : Sat σ w (p1.at b :: (RM' ++ (EM' ++ (OM ++ L)))) := h.re (by intro _; simp only [List.append_eq, cnt_append, cnt_cons, cnt_nil] <;> omega)
  refine Sat.st h (k := 0) rfl (Nat.le_of_ble_eq_true rfl) trivial (by first | (dsimp only [List.set]; exact rfl) | exact rfl) fun w h => ?_
  let p2 : PS := { p1 with lq := q', ln := n', lc := c' }
  have h : Sat σ w (p2.at b :: (RM' ++ (EM' ++ (OM ++ L)))) := h
  refine nilP_some ?_
  refine ⟨_, _, _, Sat.ld h (by first | assumption | (repeat (first | exact .head _ | apply List.Mem.tail))) (by exact rfl), ?_⟩
  have h : Sat σ w (RM' ++ (EM' ++ (p2.at b :: (OM ++ L)))) := h.re (by intro _; simp only [List.append_eq, cnt_append, cnt_cons, cnt_nil] <;> omega)
  refine mergePlain_ok (n := n') hS' hI' hpos hb (by omega) h fun w n2 vs2 RM2 EM2 hS2 hn2 hI2 h => ⟨_, _, _, rfl, nilP_some ?_⟩
  have h : Sat σ w (p2.at b :: (RM2 ++ (EM2 ++ (OM ++ L)))) := h.re (by intro _; simp only [List.append_eq, cnt_append, cnt_cons, cnt_nil] <;> omega)
  refine Sat.st h (k := 0) rfl (Nat.le_of_ble_eq_true rfl) trivial (by first | (dsimp only [List.set]; exact rfl) | exact rfl) fun w h => ?_
  let p3 : PS := { p1 with lq := q', ln := n2, lc := c' }
  have h : Sat σ w (p3.at b :: (RM2 ++ (EM2 ++ (OM ++ L)))) := h
  refine nilP_some ?_
  refine ⟨_, _, _, Sat.ld h (by first | assumption | (repeat (first | exact .head _ | apply List.Mem.tail))) (by exact rfl), ?_⟩
  have h : Sat σ w (RM2 ++ (EM2 ++ (p3.at b :: (OM ++ L)))) := h.re (by intro _; simp only [List.append_eq, cnt_append, cnt_cons, cnt_nil] <;> omega)
  refine hA σ _ b pb p3 q' n2 c' vs2 RM2 EM2 _ w (by rw [← hpz, ← c1]) (.head _) (.tail _ (List.mem_append_right _ ho)) hS2 (by omega) hI2 h fun w q3 n3 c3 vs3 RM3 EM3 hS3 hn3 hI3 h => ⟨_, _, _, rfl, nilP_some ?_⟩
  have h : Sat σ w (p3.at b :: (RM3 ++ (EM3 ++ (OM ++ L)))) := h.re (by intro _; simp only [List.append_eq, cnt_append, cnt_cons, cnt_nil] <;> omega)
  refine Sat.st h (k := 0) rfl (Nat.le_of_ble_eq_true rfl) trivial (by first | (dsimp only [List.set]; exact rfl) | exact rfl) fun w h => ?_
  refine nilP_some ?_
  refine ⟨_, _, _, Sat.ld h (by first | assumption | (repeat (first | exact .head _ | apply List.Mem.tail))) (by exact rfl), ?_⟩
  let p4 : PS := { p1 with lq := q3, ln := n3, lc := c3 }
  have h : Sat σ w (p4.at b :: (RM3 ++ (EM3 ++ (OM ++ L)))) := h
  exact hR w p4 q3 n3 c3 vs3 RM3 EM3 (by rw [← hp1]; rfl) hS3 hn3 hI3 (h.less OM (by intro _; simp only [List.append_eq, cnt_append, cnt_cons, cnt_nil] <;> omega))
theorem inl_end {X : XI} {b pb e : Nat} {p : PS} {o : Opt} {ts ts' : List Inl} {opens : List Nat} {oq : Option Addr} {on oc : Nat} {lo : Int} {bk : Bool} (h : IIn σ b p ts opens oq on oc L w) (he : p.em = e) (hs : p.s.length < 1000000000)
    (hn : ts.length < 1000000000) (hpz : p.pz = some ⟨pb, 0, none⟩) (ho : o.at pb ∈ L) (hoff : o.auto = false) (hE : EmphOK (emitM p.s e p.s.length ts) ts') (hpos : ∀ t ∈ ts', ∀ s, t.plain? = some s → s ≠ []) (hb : plen ts' < 1073741824)
    (hR : ∀ w (p' : PS) q n c vs RM EM, p'.core = p.core → Sl 1 ty_Inline q n c vs RM → n < 1073741824 → InlsAt (mergeM ts') vs EM → Sat σ w (p'.at b :: (RM ++ (EM ++ L))) → R (.returned (.slice q n c)) w) :
    g_parseState_inline.bl1 R X (some ⟨b, 0, none⟩) (bs p.s) oq on oc lo bk (p.s.length : Nat) w :=
  inl_endA h he hs hn hpz ho hE hpos hb (autoOK_off hoff) hR
end Go.Proofs.YtihmcipajjakgaaGreatDoor


set_option linter.unusedVariables false
set_option maxRecDepth 20000
namespace Go.Proofs.YtihmcipajjakgaaGreatDoor
open Go.Proofs
namespace g_isPunct
noncomputable def body : Code := bodyOf Tryz.f75
end g_isPunct
def g_isPunct (R : EP) (x0 : Int) (w : World) : Prop :=
 R (.returned (.bool (((((decide (33 ≤ x0)) && (decide (x0 ≤ 47))) || ((decide (58 ≤ x0)) && (decide (x0 ≤ 64)))) || ((decide (91 ≤ x0)) && (decide (x0 ≤ 96)))) || ((decide (123 ≤ x0)) && (decide (x0 ≤ 126)))))) w

noncomputable def g_isPunct.ac (R : EP) : AC :=
  (.leaf (sel [] g_isPunct.body))
theorem g_isPunct.good (R : EP) : Good P 33 (g_isPunct.ac R) (QF P [.tmp 2] R) :=
  trivial
theorem g_isPunct.eq (R : EP) (x0 : Int) (w : World) : g_isPunct R x0 w = vcA P 33 (g_isPunct.ac R) (QF P [.tmp 2] R) (fr0 [.int .u8 x0]) w := by kernel_rfl
theorem g_isPunct.sound {R : EP} {x0 : Int} {w : World} (h : g_isPunct R x0 w) : callE P i_isPunct #[.int .u8 x0] R w :=
  callE_fin (c := g_isPunct.body) Tryz.func75 Tryz.call75 (by kernel_rfl) (by kernel_rfl) (by kernel_rfl) (by kernel_rfl) (by kernel_rfl) (g_isPunct.good R) (g_isPunct.eq R x0 w) h
namespace g_isUnicodeSpace
noncomputable def body : Code := bodyOf Tryz.f82
end g_isUnicodeSpace
def g_isUnicodeSpace (R : EP) (x0 : Int) (w : World) : Prop :=
 br (decide (x0 < 128))
 (R (.returned (.bool ((((x0 == 32) || (x0 == 9)) || (x0 == 12)) || (x0 == 10)))) w)
 (callE P i_zzZs #[.int .i32 x0] (fun e w2 => ∃ (r1 : Bool), e = .returned (.bool r1) ∧
 R (.returned (.bool r1)) w2) w)

noncomputable def g_isUnicodeSpace.ac (R : EP) : AC :=
  (.leaf (sel [] g_isUnicodeSpace.body))
theorem g_isUnicodeSpace.good (R : EP) : Good P 21 (g_isUnicodeSpace.ac R) (QF P [.tmp 2] R) :=
  trivial
theorem g_isUnicodeSpace.eq (R : EP) (x0 : Int) (w : World) : g_isUnicodeSpace R x0 w = vcA P 21 (g_isUnicodeSpace.ac R) (QF P [.tmp 2] R) (fr0 [.int .i32 x0]) w := by kernel_rfl
theorem g_isUnicodeSpace.sound {R : EP} {x0 : Int} {w : World} (h : g_isUnicodeSpace R x0 w) : callE P i_isUnicodeSpace #[.int .i32 x0] R w :=
  callE_fin (c := g_isUnicodeSpace.body) Tryz.func82 Tryz.call82 (by kernel_rfl) (by kernel_rfl) (by kernel_rfl) (by kernel_rfl) (by kernel_rfl) (g_isUnicodeSpace.good R) (g_isUnicodeSpace.eq R x0 w) h
end Go.Proofs.YtihmcipajjakgaaGreatDoor

set_option linter.unusedVariables false
namespace Go.Proofs.YtihmcipajjakgaaGreatDoor
open Go.Proofs Go.IntWalk Go.RowKit
variable {σ : Out} {w : World} {L L' : List Chunk} {R : Ending → World → Prop}
def spB (c : UInt8) : Bool := c == 32 || c == 9 || c == 12 || c == 10
def puB (c : UInt8) : Bool := (33 ≤ c && c ≤ 47) || (58 ≤ c && c ≤ 64) || (91 ≤ c && c ≤ 96) || (123 ≤ c && c ≤ 126)
theorem u8_lt128 {c : UInt8} (h : c < 128) : ((c.toNat : Nat) : Int) < 128 := by
  have a := UInt8.lt_iff_toNat_lt.1 h
  have e : (128 : UInt8).toNat = 128 := rfl
  omega
theorem u8_le (c d : UInt8) : decide (((c.toNat : Nat) : Int) ≤ (d.toNat : Int)) = decide (c ≤ d) := by
  rw [decide_eq_decide, UInt8.le_iff_toNat_le]; omega
theorem isSpace_ok {c : UInt8} (hc : c < 128) (hR : R (.returned (.bool (spB c))) w) : callE P i_isUnicodeSpace #[.int .i32 (c.toNat : Int)] R w := by
  refine g_isUnicodeSpace.sound ?_
  unfold g_isUnicodeSpace
  rw [show decide (((c.toNat : Nat) : Int) < 128) = true from decide_eq_true (u8_lt128 hc)]
  refine br_true rfl ?_
  have e : (((((c.toNat : Nat) : Int) == 32) || (((c.toNat : Nat) : Int) == 9)) || (((c.toNat : Nat) : Int) == 12) || (((c.toNat : Nat) : Int) == 10)) = spB c := by
    have a := u8_beq c 32; have b := u8_beq c 9; have d := u8_beq c 12; have f := u8_beq c 10
    unfold spB
    rw [← a, ← b, ← d, ← f]; rfl
  rw [e]; exact hR
theorem isPunct_ok {c : UInt8} (hR : R (.returned (.bool (puB c))) w) : callE P i_isPunct #[.int .u8 (c.toNat : Int)] R w := by
  refine g_isPunct.sound ?_
  have le : ∀ d : UInt8, decide (((c.toNat : Nat) : Int) ≤ (d.toNat : Int)) = decide (c ≤ d) := fun d => u8_le c d
  have ge : ∀ d : UInt8, decide ((d.toNat : Int) ≤ ((c.toNat : Nat) : Int)) = decide (d ≤ c) := fun d => u8_le d c
  have e : (((((decide ((33 : Int) ≤ ((c.toNat : Nat) : Int))) && (decide (((c.toNat : Nat) : Int) ≤ 47))) || ((decide ((58 : Int) ≤ ((c.toNat : Nat) : Int))) && (decide (((c.toNat : Nat) : Int) ≤ 64)))) || ((decide ((91 : Int) ≤ ((c.toNat : Nat) : Int))) && (decide (((c.toNat : Nat) : Int) ≤ 96)))) || ((decide ((123 : Int) ≤ ((c.toNat : Nat) : Int))) && (decide (((c.toNat : Nat) : Int) ≤ 126)))) = puB c := by
    have a := ge 33; have b := le 47; have d := ge 58; have f := le 64; have g := ge 91; have h := le 96; have i := ge 123; have j := le 126
    unfold puB
    rw [← a, ← b, ← d, ← f, ← g, ← h, ← i, ← j]; rfl
  unfold g_isPunct
  rw [e]; exact hR
end Go.Proofs.YtihmcipajjakgaaGreatDoor


set_option linter.unusedVariables false
set_option maxRecDepth 20000
namespace Go.Proofs.YtihmcipajjakgaaGreatDoor
open Go.Proofs
namespace g_Parser_Parse
noncomputable def body : Code := bodyOf Tryz.f22
end g_Parser_Parse
def g_Parser_Parse (R : EP) (x0 : OA) (x1 : BA) (w : World) : Prop :=
 callE P i_Parser_parse #[.pointer x0, .string x1] (fun e w2 => ∃ (r1_0 : OA), ∃ (r1_1 : Bool), e = .returned (.tuple #[.pointer r1_0, .bool r1_1]) ∧
 R (.returned (.pointer r1_0)) w2) w

noncomputable def g_Parser_Parse.ac (R : EP) : AC :=
  (.leaf (sel [] g_Parser_Parse.body))
theorem g_Parser_Parse.good (R : EP) : Good P 14 (g_Parser_Parse.ac R) (QF P [.tmp 4] R) :=
  trivial
theorem g_Parser_Parse.eq (R : EP) (x0 : OA) (x1 : BA) (w : World) : g_Parser_Parse R x0 x1 w = vcA P 14 (g_Parser_Parse.ac R) (QF P [.tmp 4] R) (fr0 [.pointer x0, .string x1]) w := by kernel_rfl
theorem g_Parser_Parse.sound {R : EP} {x0 : OA} {x1 : ByteArray} {w : World} (h : g_Parser_Parse R x0 x1 w) : callE P i_Parser_Parse #[.pointer x0, .string x1] R w :=
  callE_fin (c := g_Parser_Parse.body) Tryz.func22 Tryz.call22 (by kernel_rfl) (by kernel_rfl) (by kernel_rfl) (by kernel_rfl) (by kernel_rfl) (g_Parser_Parse.good R) (g_Parser_Parse.eq R x0 x1 w) h
namespace g_impl_HTML
noncomputable def body : Code := bodyOf Tryz.f8
end g_impl_HTML
def g_impl_HTML (R : EP) (x0_0 : Bool) (x0_1 : Bool) (x0_2 : Bool) (x0_3 : Bool) (x0_4 : Bool) (x0_5 : Bool) (x0_6 : Bool) (x0_7 : Bool) (x0_8 : Bool) (x0_9 : Bool) (x1 : BA) (w : World) : Prop :=
 box w #[.bool x0_0, .bool x0_1, .bool x0_2, .bool x0_3, .bool x0_4, .bool x0_5, .bool x0_6, .bool x0_7, .bool x0_8, .bool x0_9] ty_impl_Options fun b1 w2 =>
 ∃ (v3 : Bool), w2.cell? ⟨b1, 0, none⟩ = some (.bool v3) ∧
 ∃ (v4 : Bool), w2.cell? ⟨b1, 1, none⟩ = some (.bool v4) ∧
 ∃ (v5 : Bool), w2.cell? ⟨b1, 2, none⟩ = some (.bool v5) ∧
 ∃ (v6 : Bool), w2.cell? ⟨b1, 3, none⟩ = some (.bool v6) ∧
 ∃ (v7 : Bool), w2.cell? ⟨b1, 4, none⟩ = some (.bool v7) ∧
 ∃ (v8 : Bool), w2.cell? ⟨b1, 5, none⟩ = some (.bool v8) ∧
 ∃ (v9 : Bool), w2.cell? ⟨b1, 6, none⟩ = some (.bool v9) ∧
 ∃ (v10 : Bool), w2.cell? ⟨b1, 7, none⟩ = some (.bool v10) ∧
 ∃ (v11 : Bool), w2.cell? ⟨b1, 8, none⟩ = some (.bool v11) ∧
 ∃ (v12 : Bool), w2.cell? ⟨b1, 9, none⟩ = some (.bool v12) ∧
 callE P i_impl_parser #[.agg #[.bool v3, .bool v4, .bool v5, .bool v6, .bool v7, .bool v8, .bool v9, .bool v10, .bool v11, .bool v12]] (fun e w14 => ∃ (r13 : OA), e = .returned (.pointer r13) ∧
 callE P i_Parser_Parse #[.pointer r13, .string x1] (fun e w16 => ∃ (r15 : OA), e = .returned (.pointer r15) ∧
 callE P i_ToHTML #[.iface ty_P_Document (.pointer r15)] (fun e w18 => ∃ (r17 : BA), e = .returned (.string r17) ∧
 R (.returned (.string r17)) w18) w16) w14) w2

noncomputable def g_impl_HTML.ac (R : EP) : AC :=
  (.leaf (sel [] g_impl_HTML.body))
theorem g_impl_HTML.good (R : EP) : Good P 11 (g_impl_HTML.ac R) (QF P [.tmp 4] R) :=
  trivial
theorem g_impl_HTML.eq (R : EP) (x0_0 : Bool) (x0_1 : Bool) (x0_2 : Bool) (x0_3 : Bool) (x0_4 : Bool) (x0_5 : Bool) (x0_6 : Bool) (x0_7 : Bool) (x0_8 : Bool) (x0_9 : Bool) (x1 : BA) (w : World) : g_impl_HTML R x0_0 x0_1 x0_2 x0_3 x0_4 x0_5 x0_6 x0_7 x0_8 x0_9 x1 w = vcA P 11 (g_impl_HTML.ac R) (QF P [.tmp 4] R) (fr0 [.agg #[.bool x0_0, .bool x0_1, .bool x0_2, .bool x0_3, .bool x0_4, .bool x0_5, .bool x0_6, .bool x0_7, .bool x0_8, .bool x0_9], .string x1]) w := by kernel_rfl
theorem g_impl_HTML.sound {R : EP} {x0_0 : Bool} {x0_1 : Bool} {x0_2 : Bool} {x0_3 : Bool} {x0_4 : Bool} {x0_5 : Bool} {x0_6 : Bool} {x0_7 : Bool} {x0_8 : Bool} {x0_9 : Bool} {x1 : ByteArray} {w : World} (h : g_impl_HTML R x0_0 x0_1 x0_2 x0_3 x0_4 x0_5 x0_6 x0_7 x0_8 x0_9 x1 w) : callE P i_impl_HTML #[.agg #[.bool x0_0, .bool x0_1, .bool x0_2, .bool x0_3, .bool x0_4, .bool x0_5, .bool x0_6, .bool x0_7, .bool x0_8, .bool x0_9], .string x1] R w :=
  callE_fin (c := g_impl_HTML.body) Tryz.func8 Tryz.call8 (by kernel_rfl) (by kernel_rfl) (by kernel_rfl) (by kernel_rfl) (by kernel_rfl) (g_impl_HTML.good R) (g_impl_HTML.eq R x0_0 x0_1 x0_2 x0_3 x0_4 x0_5 x0_6 x0_7 x0_8 x0_9 x1 w) h
namespace g_impl_parser
noncomputable def body : Code := bodyOf Tryz.f21
end g_impl_parser
def g_impl_parser (R : EP) (x0_0 : Bool) (x0_1 : Bool) (x0_2 : Bool) (x0_3 : Bool) (x0_4 : Bool) (x0_5 : Bool) (x0_6 : Bool) (x0_7 : Bool) (x0_8 : Bool) (x0_9 : Bool) (w : World) : Prop :=
 box w #[.bool x0_0, .bool x0_1, .bool x0_2, .bool x0_3, .bool x0_4, .bool x0_5, .bool x0_6, .bool x0_7, .bool x0_8, .bool x0_9] ty_impl_Options fun b1 w2 =>
 ∃ (v3 : Bool), w2.cell? ⟨b1, 8, none⟩ = some (.bool v3) ∧
 ∃ (v4 : Bool), w2.cell? ⟨b1, 0, none⟩ = some (.bool v4) ∧
 ∃ (v5 : Bool), w2.cell? ⟨b1, 1, none⟩ = some (.bool v5) ∧
 ∃ (v6 : Bool), w2.cell? ⟨b1, 2, none⟩ = some (.bool v6) ∧
 ∃ (v7 : Bool), w2.cell? ⟨b1, 3, none⟩ = some (.bool v7) ∧
 ∃ (v8 : Bool), w2.cell? ⟨b1, 4, none⟩ = some (.bool v8) ∧
 ∃ (v9 : Bool), w2.cell? ⟨b1, 9, none⟩ = some (.bool v9) ∧
 ∃ (v10 : Bool), w2.cell? ⟨b1, 5, none⟩ = some (.bool v10) ∧
 ∃ (v11 : Bool), w2.cell? ⟨b1, 6, none⟩ = some (.bool v11) ∧
 ∃ (v12 : Bool), w2.cell? ⟨b1, 7, none⟩ = some (.bool v12) ∧
 box w2 #[.bool v3, .bool v4, .bool v5, .bool v6, .bool v7, .bool v8, .bool v9, .bool v10, .bool v11, .bool v12] ty_Parser fun b13 w14 =>
 R (.returned (.pointer (some ⟨b13, 0, none⟩))) w14

noncomputable def g_impl_parser.ac (R : EP) : AC :=
  (.leaf (sel [] g_impl_parser.body))
theorem g_impl_parser.good (R : EP) : Good P 25 (g_impl_parser.ac R) (QF P [.tmp 2] R) :=
  trivial
theorem g_impl_parser.eq (R : EP) (x0_0 : Bool) (x0_1 : Bool) (x0_2 : Bool) (x0_3 : Bool) (x0_4 : Bool) (x0_5 : Bool) (x0_6 : Bool) (x0_7 : Bool) (x0_8 : Bool) (x0_9 : Bool) (w : World) : g_impl_parser R x0_0 x0_1 x0_2 x0_3 x0_4 x0_5 x0_6 x0_7 x0_8 x0_9 w = vcA P 25 (g_impl_parser.ac R) (QF P [.tmp 2] R) (fr0 [.agg #[.bool x0_0, .bool x0_1, .bool x0_2, .bool x0_3, .bool x0_4, .bool x0_5, .bool x0_6, .bool x0_7, .bool x0_8, .bool x0_9]]) w := by kernel_rfl
theorem g_impl_parser.sound {R : EP} {x0_0 : Bool} {x0_1 : Bool} {x0_2 : Bool} {x0_3 : Bool} {x0_4 : Bool} {x0_5 : Bool} {x0_6 : Bool} {x0_7 : Bool} {x0_8 : Bool} {x0_9 : Bool} {w : World} (h : g_impl_parser R x0_0 x0_1 x0_2 x0_3 x0_4 x0_5 x0_6 x0_7 x0_8 x0_9 w) : callE P i_impl_parser #[.agg #[.bool x0_0, .bool x0_1, .bool x0_2, .bool x0_3, .bool x0_4, .bool x0_5, .bool x0_6, .bool x0_7, .bool x0_8, .bool x0_9]] R w :=
  callE_fin (c := g_impl_parser.body) Tryz.func21 Tryz.call21 (by kernel_rfl) (by kernel_rfl) (by kernel_rfl) (by kernel_rfl) (by kernel_rfl) (g_impl_parser.good R) (g_impl_parser.eq R x0_0 x0_1 x0_2 x0_3 x0_4 x0_5 x0_6 x0_7 x0_8 x0_9 w) h
namespace g_Parser_parse
noncomputable def body : Code := bodyOf Tryz.f26
def k3 (R : EP) (Xa : OA → BA → Nat → WP) (x0 : OA) (x1 : BA) (x6 : Nat) (x7 : BA) (x10 : Int) (w : World) : Prop :=
 ∃ (v33 : Int), w.cell? ⟨x6, 3, none⟩ = some (.int .i64 v33) ∧
 stV w ⟨x6, 3, none⟩ (.int .i64 (IntKind.i64.wrap (v33 + 1))) fun w34 =>
 callE P i_parseState_addLine #[.pointer (some ⟨x6, 0, none⟩), .agg #[.int .i64 0, .int .i64 0, .int .i64 0, .string x7, .int .u8 x10]] (fun e w36 => e = .returned (.tuple #[]) ∧
 Xa x0 x1 x6 w36) w34

def k4 (R : EP) (x6 : Nat) (w : World) : Prop :=
 tk w fun w41 =>
 ∃ (v42 : OA), w41.cell? ⟨x6, 1, none⟩ = some (.pointer v42) ∧
 ∃ (v43 : Bool), w41.cell? ⟨x6, 6, none⟩ = some (.bool v43) ∧
 R (.returned (.tuple #[.pointer v42, .bool v43])) w41

def k2 (R : EP) (Xa : OA → BA → Nat → WP) (x0 : OA) (x1 : BA) (x6 : Nat) (x8 : Int) (x9 : Int) (x10 : Int) (x34 : Bool) (w : World) : Prop :=
 br x34
 (0 ≤ x9 ∧ x9 ≤ (x1.size : Int) ∧
 br (x8 == (IntKind.i64.wrap (x9 + 1)))
 (0 ≤ (IntKind.i64.wrap (x9 + 2)) ∧ (IntKind.i64.wrap (x9 + 2)) ≤ (x1.size : Int) ∧
 k3 R Xa x0 (x1.extract (Int.toNat (IntKind.i64.wrap (x9 + 2))) x1.size) x6 (x1.extract 0 (Int.toNat x9)) 23 w)
 (0 ≤ (IntKind.i64.wrap (x9 + 1)) ∧ (IntKind.i64.wrap (x9 + 1)) ≤ (x1.size : Int) ∧
 k3 R Xa x0 (x1.extract (Int.toNat (IntKind.i64.wrap (x9 + 1))) x1.size) x6 (x1.extract 0 (Int.toNat x9)) 13 w))
 (br (decide (x8 ≥ 0))
 (tk w fun w21 =>
 0 ≤ x8 ∧ x8 ≤ (x1.size : Int) ∧
 0 ≤ (IntKind.i64.wrap (x8 + 1)) ∧ (IntKind.i64.wrap (x8 + 1)) ≤ (x1.size : Int) ∧
 k3 R Xa x0 (x1.extract (Int.toNat (IntKind.i64.wrap (x8 + 1))) x1.size) x6 (x1.extract 0 (Int.toNat x8)) 10 w21)
 (k3 R Xa x0 (ByteArray.mk #[]) x6 x1 x10 w))

def bl3 (R : EP) (Xb : Nat → OA → Nat → Nat → Int → Int → WP) (x6 : Nat) (x101q : OA) (x101n : Nat) (x101c : Nat) (x102 : Int) (x103 : Int) (w : World) : Prop :=
 br (decide (x103 < x102))
 (0 ≤ x103 ∧ x103 < (x101n : Int) ∧
 nilP x101q fun a37 =>
 ∃ (v38 : OA), w.cell? (a37.add (Int.toNat x103 * 1)) = some (.pointer v38) ∧
 callE P i_parseState_taskList #[.pointer (some ⟨x6, 0, none⟩), .pointer v38] (fun e w40 => e = .returned (.tuple #[]) ∧
 Xb x6 x101q x101n x101c x102 (IntKind.i64.wrap (x103 + 1)) w40) w)
 (k4 R x6 w)
def l3 (R : EP) (x6 : Nat) (x101q : OA) (x101n : Nat) (x101c : Nat) (x102 : Int) (x103 : Int) (w : World) : Prop :=
  ∀ X : Nat → OA → Nat → Nat → Int → Int → WP, (∀ x6 x101q x101n x101c x102 x103 w, bl3 R X x6 x101q x101n x101c x102 x103 w → X x6 x101q x101n x101c x102 x103 w) → X x6 x101q x101n x101c x102 x103 w

noncomputable def al3 (R : EP) (Xb : Nat → OA → Nat → Nat → Int → Int → WP) : AC :=
  (.leaf (sel [1, 1, 1, 1, 1, 1, 1, 1, 1, 0, 1, 0, 1, 0, 0] body))
def bl2 (R : EP) (Xc : OA → Nat → OA → Nat → Nat → Int → Int → WP) (x0 : OA) (x6 : Nat) (x81q : OA) (x81n : Nat) (x81c : Nat) (x82 : Int) (x83 : Int) (w : World) : Prop :=
 br (decide (x83 < x82))
 (0 ≤ x83 ∧ x83 < (x81n : Int) ∧
 nilP x81q fun a22 =>
 ∃ (v23 : OA), w.cell? (a22.add (Int.toNat x83 * 1)) = some (.pointer v23) ∧
 nilP v23 fun a24 =>
 ∃ (v25 : BA), w.cell? (a24.add 3) = some (.string v25) ∧
 callE P i_parseState_inline #[.pointer (some ⟨x6, 0, none⟩), .string v25] (fun e w27 => ∃ (r26q : OA), ∃ (r26n : Nat), ∃ (r26c : Nat), e = .returned (.slice r26q r26n r26c) ∧
 nilP v23 fun a28 =>
 stV w27 ((a28.add 2).add 0) (.slice r26q r26n r26c) fun w29 =>
 Xc x0 x6 x81q x81n x81c x82 (IntKind.i64.wrap (x83 + 1)) w29) w)
 (nilP x0 fun a30 =>
 ∃ (v31 : Bool), w.cell? (a30.add 2) = some (.bool v31) ∧
 br v31
 (∃ (v32q : OA), ∃ (v32n : Nat), ∃ (v32c : Nat), w.cell? ⟨x6, 10, none⟩ = some (.slice v32q v32n v32c) ∧
 l3 R x6 v32q v32n v32c (v32n : Int) 0 w)
 (k4 R x6 w))
def l2 (R : EP) (x0 : OA) (x6 : Nat) (x81q : OA) (x81n : Nat) (x81c : Nat) (x82 : Int) (x83 : Int) (w : World) : Prop :=
  ∀ X : OA → Nat → OA → Nat → Nat → Int → Int → WP, (∀ x0 x6 x81q x81n x81c x82 x83 w, bl2 R X x0 x6 x81q x81n x81c x82 x83 w → X x0 x6 x81q x81n x81c x82 x83 w) → X x0 x6 x81q x81n x81c x82 x83 w

noncomputable def al2 (R : EP) (Xc : OA → Nat → OA → Nat → Nat → Int → Int → WP) : AC :=
  (.leaf (sel [1, 1, 1, 1, 1, 1, 1, 1, 0, 1, 0, 0] body))
def bl1 (R : EP) (Xa : OA → BA → Nat → WP) (x0 : OA) (x1 : BA) (x6 : Nat) (w : World) : Prop :=
 br (!(x1.toList == (ByteArray.mk #[]).toList))
 (callE P i_zzIndex #[.string x1, .string (ByteArray.mk #[10])] (fun e w15 => ∃ (r14 : Int), e = .returned (.int .i64 r14) ∧
 callE P i_zzIndex #[.string x1, .string (ByteArray.mk #[13])] (fun e w17 => ∃ (r16 : Int), e = .returned (.int .i64 r16) ∧
 k2 R Xa x0 x1 x6 r14 r16 0 ((decide (r16 ≥ 0)) && ((decide (r14 < 0)) || (decide (r16 < r14)))) w17) w15) w)
 (callE P i_parseState_trimStack #[.pointer (some ⟨x6, 0, none⟩), .int .i64 0] (fun e w19 => e = .returned (.tuple #[]) ∧
 ∃ (v20q : OA), ∃ (v20n : Nat), ∃ (v20c : Nat), w19.cell? ⟨x6, 11, none⟩ = some (.slice v20q v20n v20c) ∧
 l2 R x0 x6 v20q v20n v20c (v20n : Int) 0 w19) w)
def l1 (R : EP) (x0 : OA) (x1 : BA) (x6 : Nat) (w : World) : Prop :=
  ∀ X : OA → BA → Nat → WP, (∀ x0 x1 x6 w, bl1 R X x0 x1 x6 w → X x0 x1 x6 w) → X x0 x1 x6 w

noncomputable def al1 (R : EP) (Xa : OA → BA → Nat → WP) : AC :=
  (.seq (.leaf (sel [1, 1, 1, 1, 1, 1, 0, 0, 0, 0] body)) (.block 1 (.seq (.leaf (sel [1, 1, 1, 1, 1, 1, 0, 0, 0, 1, 0, 0] body)) (.seq (.leaf (sel [1, 1, 1, 1, 1, 1, 0, 0, 0, 1, 0, 1, 0] body)) (.seq (.leaf (sel [1, 1, 1, 1, 1, 1, 0, 0, 0, 1, 0, 1, 1, 0] body)) (.seq (.leaf (sel [1, 1, 1, 1, 1, 1, 0, 0, 0, 1, 0, 1, 1, 1, 0] body)) (.seq (.block 2 (.seq (.leaf (sel [1, 1, 1, 1, 1, 1, 0, 0, 0, 1, 0, 1, 1, 1, 1, 0, 0, 0] body)) (.mark (leaf [(0, .s .ptr), (1, .s .str), (6, .s .loc), (8, .s (.int .i64)), (9, .s (.int .i64)), (10, .s (.int .u8)), (34, .s .bool)] (k2 R Xa)) (.cond 34 (.leaf (sel [1, 1, 1, 1, 1, 1, 0, 0, 0, 1, 0, 1, 1, 1, 1, 0, 0, 1, 0] body)) (.seq (.leaf (sel [1, 1, 1, 1, 1, 1, 0, 0, 0, 1, 0, 1, 1, 1, 1, 0, 0, 1, 1, 0] body)) (.cond 61 (.seq (.draw (.pure 0 (.pure 1 (.pure 2 (.pure 3 (.pure 4 (.pure 5 (.pure 6 (.pure 7 (.pure 8 .done))))))))) (sel [1, 1, 1, 1, 1, 1, 0, 0, 0, 1, 0, 1, 1, 1, 1, 0, 0, 1, 1, 1, 0, 0] body)) (.leaf (sel [1, 1, 1, 1, 1, 1, 0, 0, 0, 1, 0, 1, 1, 1, 1, 0, 0, 1, 1, 1, 0, 1] body))) (.leaf (sel [1, 1, 1, 1, 1, 1, 0, 0, 0, 1, 0, 1, 1, 1, 1, 0, 0, 1, 1, 1, 1] body)))))))) (.mark (leaf [(0, .s .ptr), (1, .s .str), (6, .s .loc), (7, .s .str), (10, .s (.int .u8))] (k3 R Xa)) (.leaf (sel [1, 1, 1, 1, 1, 1, 0, 0, 0, 1, 0, 1, 1, 1, 1, 1] body))))))))))
def k1 (R : EP) (x0 : OA) (x1 : BA) (x6 : Nat) (w : World) : Prop :=
 stV w ⟨x6, 5, none⟩ (.int .i64 (-1)) fun w9 =>
 box w9 #[] ty_rootBuilder fun b10 w11 =>
 callE P i_parseState_addBlock #[.pointer (some ⟨x6, 0, none⟩), .iface ty_P_rootBuilder (.pointer (some ⟨b10, 0, none⟩))] (fun e w13 => e = .returned (.tuple #[]) ∧
 l1 R x0 x1 x6 w13) w11

end g_Parser_parse
def g_Parser_parse (R : EP) (x0 : OA) (x1 : BA) (w : World) : Prop :=
 box w #[.pointer none, .pointer none, .map none, .int .i64 0, .slice none 0 0, .int .i64 0, .bool false, .string (ByteArray.mk #[]), .int .i64 0, .slice none 0 0, .slice none 0 0, .slice none 0 0, .int .i64 0, .int .i64 0, .int .i64 0, .int .i64 0, .int .i64 0, .int .i64 0, .int .i64 0, .int .i64 0, .int .i64 0, .int .i64 0, .int .i64 0, .int .i64 0, .int .i64 0, .int .i64 0, .int .i64 0, .int .i64 0, .int .i64 0, .int .i64 0, .int .i64 0, .int .i64 0, .int .i64 0, .int .i64 0, .int .i64 0, .int .i64 0, .int .i64 0, .int .i64 0, .int .i64 0, .int .i64 0, .int .i64 0, .int .i64 0, .int .i64 0, .int .i64 0, .int .i64 0, .int .i64 0, .int .i64 0, .int .i64 0, .int .i64 0, .int .i64 0, .int .i64 0, .int .i64 0, .int .i64 0, .int .i64 0, .int .i64 0, .int .i64 0, .int .i64 0, .int .i64 0, .int .i64 0, .int .i64 0, .int .i64 0, .int .i64 0, .int .i64 0, .int .i64 0, .int .i64 0, .int .i64 0, .int .i64 0, .int .i64 0, .int .i64 0, .int .i64 0, .int .i64 0, .int .i64 0, .int .i64 0, .int .i64 0, .int .i64 0, .int .i64 0, .int .i64 0, .int .i64 0, .int .i64 0, .int .i64 0, .int .i64 0, .int .i64 0, .int .i64 0, .int .i64 0, .int .i64 0, .int .i64 0, .int .i64 0, .int .i64 0, .int .i64 0, .int .i64 0, .int .i64 0, .int .i64 0, .bool false] ty_parseState fun b1 w2 =>
 stV w2 ⟨b1, 0, none⟩ (.pointer x0) fun w3 =>
 callE P i_zzContains #[.string x1, .string (ByteArray.mk #[0])] (fun e w5 => ∃ (r4 : Bool), e = .returned (.bool r4) ∧
 br r4
 (callE P i_zzReplaceAll #[.string x1, .string (ByteArray.mk #[0]), .string (ByteArray.mk #[239, 191, 189])] (fun e w7 => ∃ (r6 : BA), e = .returned (.string r6) ∧
 stV w7 ⟨b1, 6, none⟩ (.bool true) fun w8 =>
 g_Parser_parse.k1 R x0 r6 b1 w8) w5)
 (g_Parser_parse.k1 R x0 x1 b1 w5)) w3

noncomputable def g_Parser_parse.ac (R : EP) : AC :=
  (.seq (.leaf (sel [0] g_Parser_parse.body)) (.seq (.leaf (sel [1, 0] g_Parser_parse.body)) (.seq (.leaf (sel [1, 1, 0] g_Parser_parse.body)) (.seq (.leaf (sel [1, 1, 1, 0] g_Parser_parse.body)) (.mark (leaf [(0, .s .ptr), (1, .s .str), (6, .s .loc)] (g_Parser_parse.k1 R)) (.seq (.leaf (sel [1, 1, 1, 1, 0] g_Parser_parse.body)) (.seq (.leaf (sel [1, 1, 1, 1, 1, 0] g_Parser_parse.body)) (.seq (.block 0 (.loop (leaf [(0, .s .ptr), (1, .s .str), (6, .s .loc)] (g_Parser_parse.l1 R)) (sel [1, 1, 1, 1, 1, 1, 0, 0, 0] g_Parser_parse.body))) (.seq (.leaf (sel [1, 1, 1, 1, 1, 1, 1, 0] g_Parser_parse.body)) (.seq (.seq (.leaf (sel [1, 1, 1, 1, 1, 1, 1, 1, 0, 0] g_Parser_parse.body)) (.block 3 (.loop (leaf [(0, .s .ptr), (6, .s .loc), (81, .s .slice), (82, .s (.int .i64)), (83, .s (.int .i64))] (g_Parser_parse.l2 R)) (sel [1, 1, 1, 1, 1, 1, 1, 1, 0, 1, 0, 0] g_Parser_parse.body)))) (.seq (.seq (.leaf (sel [1, 1, 1, 1, 1, 1, 1, 1, 1, 0, 0] g_Parser_parse.body)) (.cond 99 (.seq (.leaf (sel [1, 1, 1, 1, 1, 1, 1, 1, 1, 0, 1, 0, 0] g_Parser_parse.body)) (.block 5 (.loop (leaf [(6, .s .loc), (101, .s .slice), (102, .s (.int .i64)), (103, .s (.int .i64))] (g_Parser_parse.l3 R)) (sel [1, 1, 1, 1, 1, 1, 1, 1, 1, 0, 1, 0, 1, 0, 0] g_Parser_parse.body)))) (.leaf (sel [1, 1, 1, 1, 1, 1, 1, 1, 1, 0, 1, 1] g_Parser_parse.body)))) (.mark (leaf [(6, .s .loc)] (g_Parser_parse.k4 R)) (.seq (.draw (.pure 0 (.pure 2 (.load 1 (.pure 4 (.load 3 (.pure 5 .done)))))) (sel [1, 1, 1, 1, 1, 1, 1, 1, 1, 1, 0] g_Parser_parse.body)) (.leaf (sel [1, 1, 1, 1, 1, 1, 1, 1, 1, 1, 1] g_Parser_parse.body)))))))))))))))
theorem g_Parser_parse.good (R : EP) : Good P 114 (g_Parser_parse.ac R) (QF P [.tmp 4, .tmp 5] R) :=
  ⟨trivial, ⟨trivial, ⟨trivial, ⟨trivial, ⟨⟨trivial, ⟨trivial, ⟨(loopG (g_Parser_parse.al1 R) (g_Parser_parse.bl1 R) (fun _ => by kernel_rfl) (fun Xa => ⟨trivial, ⟨trivial, ⟨trivial, ⟨trivial, ⟨trivial, ⟨⟨trivial, ⟨⟨trivial, ⟨trivial, ⟨⟨⟨by kernel_rfl, by kernel_rfl, fun _ _ _ h => h⟩, trivial⟩, trivial⟩⟩⟩, cutE (by intro x0 x1 x6 x8 x9 x10 x34 ρ w; kernel_rfl)⟩⟩, ⟨trivial, cutE (by intro x0 x1 x6 x7 x10 ρ w; kernel_rfl)⟩⟩⟩⟩⟩⟩⟩) (fun Xa => by intro x0 x1 x6 ρ w; kernel_rfl) (fun X h _ _ _ _ g => g X h)), ⟨trivial, ⟨⟨trivial, (loopG (g_Parser_parse.al2 R) (g_Parser_parse.bl2 R) (fun _ => by kernel_rfl) (fun Xc => trivial) (fun Xc => by intro x0 x6 x81q x81n x81c x82 x83 ρ w; kernel_rfl) (fun X h _ _ _ _ _ _ _ _ g => g X h))⟩, ⟨⟨trivial, ⟨⟨trivial, (loopG (g_Parser_parse.al3 R) (g_Parser_parse.bl3 R) (fun _ => by kernel_rfl) (fun Xb => trivial) (fun Xb => by intro x6 x101q x101n x101c x102 x103 ρ w; kernel_rfl) (fun X h _ _ _ _ _ _ _ g => g X h))⟩, trivial⟩⟩, ⟨⟨⟨by kernel_rfl, by kernel_rfl, fun _ _ _ h => h⟩, trivial⟩, cutE (by intro x6 ρ w; kernel_rfl)⟩⟩⟩⟩⟩⟩⟩, cutE (by intro x0 x1 x6 ρ w; kernel_rfl)⟩⟩⟩⟩⟩
theorem g_Parser_parse.eq (R : EP) (x0 : OA) (x1 : BA) (w : World) : g_Parser_parse R x0 x1 w = vcA P 114 (g_Parser_parse.ac R) (QF P [.tmp 4, .tmp 5] R) (fr0 [.pointer x0, .string x1]) w := by kernel_rfl
theorem g_Parser_parse.sound {R : EP} {x0 : OA} {x1 : ByteArray} {w : World} (h : g_Parser_parse R x0 x1 w) : callE P i_Parser_parse #[.pointer x0, .string x1] R w :=
  callE_fin (c := g_Parser_parse.body) Tryz.func26 Tryz.call26 (by kernel_rfl) (by kernel_rfl) (by kernel_rfl) (by kernel_rfl) (by kernel_rfl) (g_Parser_parse.good R) (g_Parser_parse.eq R x0 x1 w) h
end Go.Proofs.YtihmcipajjakgaaGreatDoor

set_option linter.unusedVariables false
namespace Go.Proofs.YtihmcipajjakgaaGreatDoor
open Go.Proofs Go.IntWalk
variable {σ : Out} {w : World} {L L' : List Chunk} {R : Ending → World → Prop}
def lnOf (s : List UInt8) (nl : UInt8 := 0) : Ln := ⟨0, 0, 0, s, nl⟩
theorem tsGo_first {c nl : UInt8} {s : List UInt8} (hc : isST c = false) (mn k n : Nat) (e : Bool) : (lnOf (c :: s) nl).tsGo mn e (k + 1) n = if mn ≤ n then some (lnOf (c :: s) nl) else none := by
  simp only [isST, Bool.or_eq_false_iff, beq_eq_false_iff_ne, ne_eq] at hc
  simp [Ln.tsGo, lnOf, hc.1, hc.2]
theorem lnOf_ok {nl : UInt8} {s : List UInt8} (hs : s.length < 1000000000) : (lnOf s nl).ok := ⟨by simp [lnOf], by simp [lnOf], by simp [lnOf]; omega, by simp [lnOf]⟩
theorem lead_first {c nl : UInt8} {s : List UInt8} (hc : isST c = false) (e : Bool) : (lnOf (c :: s) nl).lead 3 e = lnOf (c :: s) nl := by
  unfold Ln.lead Ln.trimSp; rw [tsGo_first hc]; rfl
theorem strip_first {c nl : UInt8} {s : List UInt8} (hc : isST c = false) : (lnOf (c :: s) nl).strip 3 0 = (0, lnOf (c :: s) nl) := by
  simp only [Ln.strip, Ln.trimSp]; rw [tsGo_first hc]; rfl
end Go.Proofs.YtihmcipajjakgaaGreatDoor


set_option linter.unusedVariables false
namespace Go.Proofs.YtihmcipajjakgaaGreatDoor
open Go.Proofs Go.IntWalk Go.RowKit
variable {σ : Out} {w : World} {L L' : List Chunk} {R : Ending → World → Prop}
def PS.coreS (p : PS) : PS := ({ p with s := [] } : PS).core
def InlineOK (op : Opt) (s : List UInt8) (f : List UInt8 → List UInt8) : Prop :=
  ∀ (σ : Out) (R : Ending → World → Prop) (b pb : Nat) (p : PS) (L : List Chunk) (w : World), Sat σ w (p.at b :: L) → p.pz = some ⟨pb, 0, none⟩ → op.at pb ∈ L → p.links = none →
    (∀ w (p' : PS) q n c vs RM KM KM', p'.coreS = p.coreS → Sl 1 ty_Inline q n c vs RM → n < 1073741824 → PrintsL "PrintHTML" vs KM KM' f → Sat σ w (p'.at b :: (RM ++ (KM ++ L))) → R (.returned (.slice q n c)) w) →
    callE P i_parseState_inline #[.pointer (some ⟨b, 0, none⟩), .string (bs s)] R w
def InlineOKG (lk : Option Nat) (L0 : List Chunk) (op : Opt) (s : List UInt8) (f : List UInt8 → List UInt8) : Prop :=
  ∀ (σ : Out) (R : Ending → World → Prop) (b pb : Nat) (p : PS) (L : List Chunk) (w : World), (∀ c ∈ L0, c ∈ L) → Sat σ w (p.at b :: L) → p.pz = some ⟨pb, 0, none⟩ → op.at pb ∈ L → p.links = lk →
    (∀ w (p' : PS) q n c vs RM KM KM', p'.coreS = p.coreS → Sl 1 ty_Inline q n c vs RM → n < 1073741824 → PrintsL "PrintHTML" vs KM KM' f → Sat σ w (p'.at b :: (RM ++ (KM ++ L))) → R (.returned (.slice q n c)) w) →
    callE P i_parseState_inline #[.pointer (some ⟨b, 0, none⟩), .string (bs s)] R w
abbrev InlineOKL (L0 : List Chunk) (op : Opt) (s : List UInt8) (f : List UInt8 → List UInt8) : Prop := InlineOKG none L0 op s f
theorem InlineOK.lift {op : Opt} {s : List UInt8} {f : List UInt8 → List UInt8} (h : InlineOK op s f) : InlineOKL [] op s f := fun σ R b pb p L w _ => h σ R b pb p L w
def PS0 (pz : Option Addr) : PS := ⟨pz, none, none, 0, none, 0, 0, 0, false, [], 0, none, 0, 0, none, 0, 0, none, 0, 0, List.replicate 80 (.int .i64 0) ++ [.bool false]⟩
end Go.Proofs.YtihmcipajjakgaaGreatDoor


set_option linter.unusedVariables false
namespace Go.Proofs.YtihmcipajjakgaaGreatDoor
open Go.Proofs Go.IntWalk Go.RowKit
variable {σ : Out} {w : World} {L L' : List Chunk} {R : Ending → World → Prop}
def optV (o : Opt) : Value := .agg #[.bool o.strike, .bool o.task, .bool o.auto, .bool o.http, .bool o.table, .bool o.dot, .bool o.dash, .bool o.quote, .bool o.ids, .bool o.emoji]
theorem parser_ok {o : Opt} (h : Sat σ w L) (hR : ∀ w pb, Sat σ w (o.at pb :: L) → R (.returned (.pointer (some ⟨pb, 0, none⟩))) w) : callE P i_impl_parser #[optV o] R w := by
  refine g_impl_parser.sound ?_
  refine Sat.bx h fun b w h => ?_
  have ld : ∀ (k : Nat) (v : Bool), ([Value.bool o.strike, .bool o.task, .bool o.auto, .bool o.http, .bool o.table, .bool o.dot, .bool o.dash, .bool o.quote, .bool o.ids, .bool o.emoji])[k]? = some (.bool v) → w.cell? ⟨b, k, none⟩ = some (.bool v) := fun k v hv => Sat.ld h (.head _) hv
  refine ⟨_, ld 8 _ rfl, _, ld 0 _ rfl, _, ld 1 _ rfl, _, ld 2 _ rfl, _, ld 3 _ rfl, _, ld 4 _ rfl, _, ld 9 _ rfl, _, ld 5 _ rfl, _, ld 6 _ rfl, _, ld 7 _ rfl, ?_⟩
  refine Sat.bx h fun pb w h => hR w pb ?_
  have h : Sat σ w (o.at pb :: (b, cel [Value.bool o.strike, .bool o.task, .bool o.auto, .bool o.http, .bool o.table, .bool o.dot, .bool o.dash, .bool o.quote, .bool o.ids, .bool o.emoji] ty_impl_Options) :: L) := h
  exact (h.less [(b, cel [Value.bool o.strike, .bool o.task, .bool o.auto, .bool o.http, .bool o.table, .bool o.dot, .bool o.dash, .bool o.quote, .bool o.ids, .bool o.emoji] ty_impl_Options)] (by intro _; simp only [List.append_eq, cnt_append, cnt_cons, cnt_nil] <;> omega))
def ParsesTo (o : Opt) (raw out : List UInt8) : Prop :=
  ∀ (σ : Out) (R : Ending → World → Prop) (L : List Chunk) (w : World) (pb : Nat), Sat σ w L → o.at pb ∈ L →
    (∀ w db k DM DM' f, Prints "PrintHTML" (.iface ty_P_Document (.pointer (some ⟨db, 0, none⟩))) DM DM' f → f [] = out → Sat σ w (DM ++ L) → R (.returned (.tuple #[.pointer (some ⟨db, 0, none⟩), .bool k])) w) →
    callE P i_Parser_parse #[.pointer (some ⟨pb, 0, none⟩), .string (bs raw)] R w
def ParsesToL (L0 : List Chunk) (o : Opt) (raw out : List UInt8) : Prop :=
  ∀ (σ : Out) (R : Ending → World → Prop) (L : List Chunk) (w : World) (pb : Nat), (∀ c ∈ L0, c ∈ L) → Sat σ w L → o.at pb ∈ L →
    (∀ w db k DM DM' f, Prints "PrintHTML" (.iface ty_P_Document (.pointer (some ⟨db, 0, none⟩))) DM DM' f → f [] = out → Sat σ w (DM ++ L) → R (.returned (.tuple #[.pointer (some ⟨db, 0, none⟩), .bool k])) w) →
    callE P i_Parser_parse #[.pointer (some ⟨pb, 0, none⟩), .string (bs raw)] R w
theorem ParsesTo.lift {o : Opt} {raw out : List UInt8} (h : ParsesTo o raw out) : ParsesToL [] o raw out := fun σ R L w pb _ => h σ R L w pb
theorem html_okL {L0 : List Chunk} {o : Opt} {raw out : List UInt8} (hP : ParsesToL L0 o raw out) (hL0 : ∀ c ∈ L0, c ∈ L) (hout : out.length ≤ 549755813888) (h : Sat σ w L) (hR : ∀ w, Sat σ w L → R (.returned (.string (bs out))) w) : callE P i_impl_HTML #[optV o, .string (bs raw)] R w := by
  refine g_impl_HTML.sound ?_
  refine Sat.bx h fun b w h => ?_
  have ld : ∀ (k : Nat) (v : Bool), ([Value.bool o.strike, .bool o.task, .bool o.auto, .bool o.http, .bool o.table, .bool o.dot, .bool o.dash, .bool o.quote, .bool o.ids, .bool o.emoji])[k]? = some (.bool v) → w.cell? ⟨b, k, none⟩ = some (.bool v) := fun k v hv => Sat.ld h (.head _) hv
  refine ⟨_, ld 0 _ rfl, _, ld 1 _ rfl, _, ld 2 _ rfl, _, ld 3 _ rfl, _, ld 4 _ rfl, _, ld 5 _ rfl, _, ld 6 _ rfl, _, ld 7 _ rfl, _, ld 8 _ rfl, _, ld 9 _ rfl, ?_⟩
  refine parser_ok h fun w pb h => ⟨_, rfl, ?_⟩
  refine g_Parser_Parse.sound ?_
  refine hP σ _ _ w pb (fun c hc => .tail _ (.tail _ (hL0 c hc))) h (.head _) fun w db k DM DM' f hf hfo h => ⟨_, _, rfl, _, rfl, ?_⟩
  subst hfo
  refine toHTML_ok hf h hout fun w h => ⟨_, rfl, hR w ?_⟩
  exact h.less (DM' ++ (o.at pb :: [(b, cel [Value.bool o.strike, .bool o.task, .bool o.auto, .bool o.http, .bool o.table, .bool o.dot, .bool o.dash, .bool o.quote, .bool o.ids, .bool o.emoji] ty_impl_Options)])) (by intro _; simp only [List.append_eq, cnt_append, cnt_cons, cnt_nil] <;> omega)
theorem bs_of (b : ByteArray) : b = bs b.data.toList := by
  cases b; rfl
end Go.Proofs.YtihmcipajjakgaaGreatDoor


set_option linter.unusedVariables false
namespace Go.Proofs.YtihmcipajjakgaaGreatDoor
open Go.Proofs Go.IntWalk Go.RowKit
variable {σ : Out} {w : World} {L L' : List Chunk} {R : Ending → World → Prop}
def AtI (X : XI) (σ : Out) (b : Nat) (p0 : PS) (raw : List UInt8) (L : List Chunk) (i e : Nat) (ts : List Inl) : Prop :=
  ∀ w (p : PS) oq on oc, p.coreS = p0.coreS → p.s = raw → p.em = (e : Int) → IIn σ b p ts [] oq on oc L w → X (some ⟨b, 0, none⟩) (bs raw) oq on oc 0 false (i : Int) w
def LoopX (R : Ending → World → Prop) (X : XI) (b : Nat) (raw : List UInt8) : Prop :=
  ∀ oq on oc (i : Int) w, g_parseState_inline.bl1 R X (some ⟨b, 0, none⟩) (bs raw) oq on oc 0 false i w → X (some ⟨b, 0, none⟩) (bs raw) oq on oc 0 false i w
theorem PS.pz_of {p p0 : PS} (h : p.coreS = p0.coreS) : p.pz = p0.pz := by have := congrArg PS.pz h; exact this
theorem PS.coreS_of {p' p p0 : PS} (h1 : p'.core = p.core) (h2 : p.coreS = p0.coreS) : p'.coreS = p0.coreS := by
  rw [← h2]
  have := congrArg (fun q : PS => ({ q with s := [] } : PS)) h1
  exact this
theorem AtI.plain {X : XI} {b pb i e : Nat} {p0 : PS} {raw : List UInt8} {ts : List Inl} {o : Opt} (hX : LoopX R X b raw) (hi : i < raw.length) (hs : raw.length < 1000000000) (hpz : p0.pz = some ⟨pb, 0, none⟩) (ho : o.at pb ∈ L) (hp : parserOf o raw[i] = .nil) (h93 : raw[i] ≠ 93)
    (h : AtI X σ b p0 raw L (i + 1) e ts) : AtI X σ b p0 raw L i e ts := by
  intro w p oq on oc hc hraw he hI
  refine hX _ _ _ _ _ ?_
  obtain ⟨vs, RM, EM, OM, hS, hIn, hO, hlen, hsat⟩ := hI
  refine inl_dispatch (p := p) hi (by omega) (by rw [PS.pz_of hc, hpz]) (.head _) (.tail _ (List.mem_append_right _ (List.mem_append_right _ (List.mem_append_right _ ho)))) hsat ?_
  rw [hp]
  exact inl_none (inl_k5 hi (by omega) (.inl h93) (h w p oq on oc hc hraw he ⟨vs, RM, EM, OM, hS, hIn, hO, hlen, hsat⟩))
theorem AtI.leaf {X : XI} {b pb i e st en : Nat} {p0 : PS} {raw : List UInt8} {ts : List Inl} {o : Opt} {f : FuncId} {t : Inl} {L0 : List Chunk} {Q : PS → PS → Prop} (hX : LoopX R X b raw) (hi : i < raw.length) (hs : raw.length < 1000000000) (hpz : p0.pz = some ⟨pb, 0, none⟩) (ho : o.at pb ∈ L)
    (hp : parserOf o raw[i] = .fn f) (hL0 : ∀ c ∈ L0, c ∈ L) (hf : ∀ p : PS, p.coreS = p0.coreS → p.s = raw → LeafOK b p raw i (.func (.func f) #[] #[]) L0 (some (t, st, en)) (Q p)) (ht : t.isOpen = false) (hst : st ≤ raw.length) (hn : ts.length < 1000000000)
    (h : AtI X σ b p0 raw L en en (emitM raw e st ts ++ [t])) : AtI X σ b p0 raw L i e ts := by
  intro w p oq on oc hc hraw he hI
  refine hX _ _ _ _ _ ?_
  obtain ⟨vs, RM, EM, OM, hS, hIn, hO, hlen, hsat⟩ := hI
  refine inl_dispatch (p := p) hi (by omega) (by rw [PS.pz_of hc, hpz]) (.head _) (.tail _ (List.mem_append_right _ (List.mem_append_right _ (List.mem_append_right _ ho)))) hsat ?_
  rw [hp]
  dsimp only
  have hleaf := hf p hc hraw
  subst hraw
  refine inl_leaf ⟨vs, RM, EM, OM, hS, hIn, hO, hlen, hsat⟩ hL0 hleaf he hst hs hn (by simp) fun w p2 oq on oc hp2 hem2 _ h2 => ?_
  rw [ht] at h2
  refine h w p2 oq on oc (PS.coreS_of hp2 hc) ?_ hem2 h2
  have := congrArg PS.s hp2; exact this
theorem AtI.finA {X : XI} {b pb e : Nat} {p0 : PS} {raw : List UInt8} {ts ts' ts2 : List Inl} {o : Opt} (hX : LoopX R X b raw) (hs : raw.length < 1000000000) (hpz : p0.pz = some ⟨pb, 0, none⟩) (ho : o.at pb ∈ L) (hn : ts.length < 1000000000)
    (hE : EmphOK (emitM raw e raw.length ts) ts') (hpos : ∀ t ∈ ts', ∀ s, t.plain? = some s → s ≠ []) (hb : plen ts' < 1073741824) (hA : AutoOK o (mergeM ts') ts2)
    (hR : ∀ w (p' : PS) q n c vs RM EM, p'.coreS = p0.coreS → Sl 1 ty_Inline q n c vs RM → n < 1073741824 → InlsAt ts2 vs EM → Sat σ w (p'.at b :: (RM ++ (EM ++ L))) → R (.returned (.slice q n c)) w) :
    AtI X σ b p0 raw L raw.length e ts := by
  intro w p oq on oc hc hraw he hI
  refine hX _ _ _ _ _ ?_
  subst hraw
  exact inl_endA hI he hs hn (by rw [PS.pz_of hc, hpz]) ho hE hpos hb hA fun w p2 q n c vs RM EM hp2 hS hn hI h => hR w p2 q n c vs RM EM (PS.coreS_of hp2 hc) hS hn hI h
theorem AtI.fin {X : XI} {b pb e : Nat} {p0 : PS} {raw : List UInt8} {ts ts' : List Inl} {o : Opt} (hX : LoopX R X b raw) (hs : raw.length < 1000000000) (hpz : p0.pz = some ⟨pb, 0, none⟩) (ho : o.at pb ∈ L) (hoff : o.auto = false) (hn : ts.length < 1000000000)
    (hE : EmphOK (emitM raw e raw.length ts) ts') (hpos : ∀ t ∈ ts', ∀ s, t.plain? = some s → s ≠ []) (hb : plen ts' < 1073741824)
    (hR : ∀ w (p' : PS) q n c vs RM EM, p'.coreS = p0.coreS → Sl 1 ty_Inline q n c vs RM → n < 1073741824 → InlsAt (mergeM ts') vs EM → Sat σ w (p'.at b :: (RM ++ (EM ++ L))) → R (.returned (.slice q n c)) w) :
    AtI X σ b p0 raw L raw.length e ts :=
  AtI.finA hX hs hpz ho hn hE hpos hb (autoOK_off hoff) hR
end Go.Proofs.YtihmcipajjakgaaGreatDoor


set_option linter.unusedVariables false
namespace Go.Proofs.YtihmcipajjakgaaGreatDoor
open Go.Proofs Go.IntWalk Go.RowKit
variable {σ : Out} {w : World} {L L' : List Chunk} {R : Ending → World → Prop}
theorem Sl.trunc {e : TypeId} {q : Option Addr} {n c k : Nat} {vs : List Value} {M : List Chunk} (h : Sl 1 e q n c vs M) (hk : k ≤ n) : Sl 1 e q k c (vs.take k) M := by
  obtain ⟨hl, hnc, ⟨rfl, rfl, rfl, rfl⟩ | ⟨b, sp, rfl, rfl, h3⟩⟩ := h
  · have : k = 0 := by omega
    subst this
    exact ⟨by simp, by omega, .inl ⟨rfl, rfl, rfl, rfl⟩⟩
  · refine ⟨by rw [List.length_take]; omega, by omega, .inr ⟨b, vs.drop k ++ sp, rfl, ?_, ?_⟩⟩
    · rw [← List.append_assoc, List.take_append_drop]
    · rw [← List.append_assoc, List.take_append_drop]; exact h3
structure STK where
  q : Option Addr
  n : Nat
  c : Nat
  ent : List (Nat × Nat)
def entV (e : Nat × Nat) : Value := .pointer (some ⟨e.1, 0, none⟩)
def STK.ok (s : STK) (M : List Chunk) : Prop := Sl 1 ty_P_emphPlain s.q s.n s.c (s.ent.map entV) M
def StksAt : List STK → List Chunk → Prop
  | [], M => M = []
  | s :: S, M => ∃ M1 M2, M = M1 ++ M2 ∧ s.ok M1 ∧ StksAt S M2
theorem StksAt.split : ∀ {A : List STK} {s : STK} {B : List STK} {M : List Chunk}, StksAt (A ++ s :: B) M → ∃ M1 M2 M3, M = M1 ++ (M2 ++ M3) ∧ StksAt A M1 ∧ s.ok M2 ∧ StksAt B M3
  | [], s, B, M, h => by obtain ⟨M1, M2, rfl, h1, h2⟩ := h; exact ⟨[], M1, M2, rfl, rfl, h1, h2⟩
  | a :: A, s, B, M, h => by
    obtain ⟨M1, M2, rfl, h1, h2⟩ := h
    obtain ⟨N1, N2, N3, rfl, h3, h4, h5⟩ := h2.split
    exact ⟨M1 ++ N1, N2, N3, by simp, ⟨M1, N1, rfl, h1, h3⟩, h4, h5⟩
def stkV (s : STK) : Value := .slice s.q s.n s.c
def stkC (b : Nat) (S : List STK) : Chunk := (b, cel (S.map stkV) ty_5_S_P_emphPlain)
end Go.Proofs.YtihmcipajjakgaaGreatDoor


set_option linter.unusedVariables false
namespace Go.Proofs.YtihmcipajjakgaaGreatDoor
open Go.Proofs Go.IntWalk Go.RowKit
variable {σ : Out} {w : World} {L L' : List Chunk} {R : Ending → World → Prop}
def DRow (dq : Option Addr) (dc : Nat) (dvs rvs : List Value) (off : Nat) (sq : Option Addr) (sn sc : Nat) (SR RS : List Chunk) : Prop :=
  rvs.length + off = sn ∧ dvs.length ≤ dc ∧
  ((∃ rb junk sp, dq = some ⟨rb, 0, none⟩ ∧ sq = some ⟨rb, 0, none⟩ ∧ RS = [(rb, cel (dvs ++ (junk ++ (rvs ++ sp))) ty_Inline)] ∧ dvs.length + junk.length = off ∧ off + rvs.length + sp.length = dc) ∨
   (∃ DR, Sl 1 ty_Inline dq dvs.length dc dvs DR ∧ RS = DR ++ SR ∧ ∀ j v, rvs[j]? = some v → ∃ rb so scs e, sq = some ⟨rb, so, none⟩ ∧ (rb, cel scs e) ∈ SR ∧ scs[so + off + j]? = some v))
theorem DRow.take {dq sq : Option Addr} {dc off sn sc k : Nat} {dvs rvs : List Value} {SR RS : List Chunk} (hD : DRow dq dc dvs rvs off sq sn sc SR RS) (hk : k ≤ dvs.length) : DRow dq dc (dvs.take k) rvs off sq sn sc SR RS := by
  obtain ⟨h0, hle, ⟨rb, junk, sp, rfl, rfl, rfl, h1, h2⟩ | ⟨DR, hS, rfl, hr⟩⟩ := hD
  · refine ⟨h0, by rw [List.length_take]; omega, .inl ⟨rb, dvs.drop k ++ junk, sp, rfl, rfl, ?_, by rw [List.length_take, List.length_append, List.length_drop]; omega, h2⟩⟩
    have e : dvs.take k ++ ((dvs.drop k ++ junk) ++ (rvs ++ sp)) = dvs ++ (junk ++ (rvs ++ sp)) := by
      rw [List.append_assoc, ← List.append_assoc (dvs.take k), List.take_append_drop]
    rw [e]
  · refine ⟨h0, by rw [List.length_take]; omega, .inr ⟨DR, ?_, rfl, hr⟩⟩
    have := hS.trunc (k := k) hk
    rw [List.length_take, Nat.min_eq_left hk]
    exact this
theorem DRow.app {ty : TypeId} {dq sq : Option Addr} {dc off sn sc : Nat} {dvs rvs : List Value} {SR RS : List Chunk} {t : TypeId} {b : Nat} (hD : DRow dq dc dvs rvs off sq sn sc SR RS) (h : Sat σ w (RS ++ L)) (ho : dvs.length < off) (hn : dvs.length < 1000000000)
    {C : World → Prop} (hC : ∀ w1 X, Sat σ w1 (X :: (RS ++ L)) → C w1) {K : Option Addr → Nat → Nat → World → Prop}
    (hK : ∀ dq' dc' RS' w', DRow dq' dc' (dvs ++ [ptrV t b]) rvs off sq sn sc SR RS' → Sat σ w' (RS' ++ L) → K dq' (dvs.length + 1) dc' w') :
    ∃ rq rn rc w1, (Instr.buildSlice ty_S_Inline 1 #[(0, ptrV t b)]).run P w = .ok (.slice rq rn rc) w1 ∧ C w1 ∧
      ∃ q' n' c' w2, (Builtin.append_ #[ty_S_Inline, ty_S_Inline] ty #[.slice dq dvs.length dc, .slice rq rn rc]).run P w1 = .ok (.slice q' n' c') w2 ∧ K q' n' c' w2 := by
  obtain ⟨h0, hle, ⟨rb, junk, sp, rfl, rfl, rfl, h1, h2⟩ | ⟨DR, hS, rfl, hr⟩⟩ := hD
  · refine appRoom rowInl h (v := ptrV t b) (by simp; omega) (by omega) rfl rfl (fillI t _) (C := C) (fun w1 X hw => hC w1 X hw) fun w' h => ?_
    have hj : junk ≠ [] := by intro h; subst h; simp at h1; omega
    rw [set_mid hj] at h
    refine hK _ _ _ w' ⟨h0, by simp; omega, .inl ⟨rb, junk.drop 1, sp, rfl, rfl, rfl, ?_, h2⟩⟩ h
    have := List.length_pos_iff.2 hj
    simp; omega
  · have hl := hS.1
    have h : Sat σ w (DR ++ (SR ++ L)) := h.re (by intro _; simp only [List.append_eq, cnt_append, cnt_cons, cnt_nil] <;> omega)
    refine Sat.app1S rowInl hS h (v := ptrV t b) rfl (by simp [ptrV, Value.cells, Value.oneCell']) (fillI _ _) (by omega) (by omega) (by decide) (C := C) (fun w1 X hw => hC w1 X (hw.re (by intro _; simp only [List.append_eq, cnt_append, cnt_cons, cnt_nil] <;> omega))) fun q' c' w' M' hS' h => ?_
    refine hK q' c' (M' ++ SR) w' ⟨h0, ?_, .inr ⟨M', ?_, rfl, hr⟩⟩ (h.re (by intro _; simp only [List.append_eq, cnt_append, cnt_cons, cnt_nil] <;> omega))
    · have := hS'.2.1; simp; omega
    · rw [List.length_append]; exact hS'
theorem DRow.cells {dq sq : Option Addr} {dc off sn sc : Nat} {dvs rvs : List Value} {SR RS : List Chunk} (hD : DRow dq dc dvs rvs off sq sn sc SR RS) (h0 : 0 < dvs.length) : ∃ (rb : Nat) (cs : List Value), dq = some ⟨rb, 0, none⟩ ∧ (rb, cel cs ty_Inline) ∈ RS ∧ ∀ (j : Nat) (v : Value), dvs[j]? = some v → cs[j]? = some v := by
  obtain ⟨_, _, ⟨rb, junk, sp, rfl, rfl, rfl, h1, h2⟩ | ⟨DR, hS, rfl, hr⟩⟩ := hD
  · exact ⟨rb, _, rfl, .head _, fun j v hv => by rw [List.getElem?_append_left (List.getElem?_eq_some_iff.1 hv).1]; exact hv⟩
  · obtain ⟨rb, sp, rfl, rfl⟩ := hS.rowAt h0
    exact ⟨rb, _, rfl, List.mem_append_left _ (.head _), fun j v hv => by rw [List.getElem?_append_left (List.getElem?_eq_some_iff.1 hv).1]; exact hv⟩
theorem DRow.copy {dq sq : Option Addr} {dc off sn sc k : Nat} {dvs rvs : List Value} {SR RS : List Chunk} (hD : DRow dq dc dvs rvs off sq sn sc SR RS) (h : Sat σ w (RS ++ L)) (hk : k < dvs.length) (hn : dvs.length < 1000000000) (hp : ∀ v ∈ dvs, v.oneCell' = true)
    {C : World → Prop} (hC : ∀ w1 X, Sat σ w1 (X ++ (RS ++ L)) → C w1) {K : Option Addr → Nat → Nat → World → Prop}
    (hK : ∀ q n c w' M, Sl 1 ty_Inline q n c (dvs.drop k) M → Sat σ w' (M ++ (RS ++ L)) → K q n c w') :
    ∃ r1 r2 r3, (∀ w, (Instr.sliceAt ty_S_Inline (.slice dq dvs.length dc) (some (.int .i64 k)) none none).run P w = .ok (.slice r1 r2 r3) w) ∧
      ∃ q n c w', (Builtin.append_ #[ty_S_Inline, ty_S_Inline] ty_S_Inline #[.slice none 0 0, .slice r1 r2 r3]).run P w = .ok (.slice q n c) w' ∧ C w' ∧ K q n c w' := by
  obtain ⟨rb, cs, rfl, hm, hc⟩ := hD.cells (by omega)
  have hle := hD.2.1
  refine ⟨_, _, _, fun w => sliceF rowInl.ht rowInl.hi _ dvs.length dc k (by omega) w, ?_⟩
  rw [if_neg (by omega), rowInl.hs]
  simp only [Option.map_some, Addr.add_lit, Nat.zero_add, Nat.mul_one]
  have hsrc : Src P 1 ty_S_Inline (.slice (some ⟨rb, k, none⟩) (dvs.length - k) (dc - k)) (dvs.length - k) (dvs.drop k) w := by
    refine Src.ofSlice w rowInl.ht _ _ _ _ (by simp) (fun j u hu => ?_) (fun v hv => hp v (List.mem_of_mem_drop hv))
    rw [Addr.add_lit]
    refine h.ld (List.mem_append_left _ hm) (hc _ _ ?_)
    rw [List.getElem?_drop] at hu
    exact hu
  obtain ⟨q', c', w', M', hr, hS', h', _⟩ := Sat.app rowInl (ty := ty_S_Inline) (Sl.nil 1 ty_Inline) (M := []) (L := RS ++ L) h hsrc (.inl (by omega)) (by omega) (by omega)
  rw [List.nil_append] at hS'
  exact ⟨q', _, c', w', hr, hC _ M' h', hK q' _ c' w' M' hS' h'⟩
end Go.Proofs.YtihmcipajjakgaaGreatDoor


set_option linter.unusedVariables false
namespace Go.Proofs.YtihmcipajjakgaaGreatDoor
open Go.Proofs Go.IntWalk Go.RowKit
variable {σ : Out} {w : World} {L L' : List Chunk} {R : Ending → World → Prop}
theorem InlsAt.get : ∀ {ts : List Inl} {vs : List Value} {M : List Chunk} {j : Nat} {t : Inl}, InlsAt ts vs M → ts[j]? = some t → ∃ v Mj, vs[j]? = some v ∧ InlAt t v Mj ∧ ∀ c ∈ Mj, c ∈ M
  | [], vs, M, j, t, h, hj => by simp at hj
  | t' :: ts, vs, M, 0, t, h, hj => by
    obtain ⟨v, vs', M1, M2, rfl, rfl, h1, h2⟩ := h
    simp at hj; subst hj
    exact ⟨v, M1, rfl, h1, fun c hc => List.mem_append_left _ hc⟩
  | t' :: ts, vs, M, j + 1, t, h, hj => by
    obtain ⟨v, vs', M1, M2, rfl, rfl, h1, h2⟩ := h
    obtain ⟨v', Mj, h3, h4, h5⟩ := h2.get (by simpa using hj)
    exact ⟨v', Mj, by simpa using h3, h4, fun c hc => List.mem_append_right _ (h5 c hc)⟩
def emC (b : Nat) (t : List UInt8) (co cc : Bool) (i n : Int) (e : TypeId) : Chunk := (b, cel [.string (bs t), .bool co, .bool cc, .int .i64 i, .int .i64 n] e)
def EntIn (dst : List Inl) (dvs : List Value) (e : Nat × Nat) : Prop := ∃ t co cc n, dst[e.2]? = some (.emphP t co cc (e.2 : Nat) n) ∧ dvs[e.2]? = some (ptrV ty_P_emphPlain e.1) ∧ 0 ≤ n ∧ n ≤ 1000000000 ∧ t ≠ [] ∧ t.length < 1000000000
def StkIn (dst : List Inl) (dvs : List Value) (S : List STK) : Prop := ∀ s ∈ S, s.ent.length < 1000000000 ∧ s.ent.Pairwise (fun a b => a.2 < b.2) ∧ ∀ e ∈ s.ent, EntIn dst dvs e
theorem ptrV_inj {t : TypeId} {a b : Nat} (h : ptrV t a = ptrV t b) : a = b := by
  simp only [ptrV, Value.iface.injEq, Value.pointer.injEq, Option.some.injEq, Addr.mk.injEq, true_and, and_true] at h
  exact h
theorem EntIn.chunk {dst : List Inl} {dvs : List Value} {DM : List Chunk} {e : Nat × Nat} (hI : InlsAt dst dvs DM) (h : EntIn dst dvs e) : ∃ t co cc n ty, dst[e.2]? = some (.emphP t co cc (e.2 : Nat) n) ∧ emC e.1 t co cc (e.2 : Nat) n ty ∈ DM ∧ 0 ≤ n ∧ n ≤ 1000000000 ∧ t ≠ [] ∧ t.length < 1000000000 := by
  obtain ⟨t, co, cc, n, h1, h2, h3, h4, h5⟩ := h
  obtain ⟨v, Mj, h6, h7, h8⟩ := hI.get h1
  rw [h2] at h6
  obtain rfl := Option.some.inj h6
  obtain ⟨b, ty, hb, rfl⟩ := h7
  have := ptrV_inj hb
  subst this
  exact ⟨t, co, cc, n, ty, h1, h8 _ (.head _), h3, h4, h5⟩
def EM (σ : Out) (b1 b3 pb : Nat) (t : List UInt8) (co cc : Bool) (pi n : Int) (pe : TypeId) (dst : List Inl) (S : List STK) (rvs : List Value) (off : Nat) (sq : Option Addr) (sn sc : Nat) (SR : List Chunk) (L : List Chunk) (w : World) : Prop :=
  ∃ dq dc dvs DM SM RS, InlsAt dst dvs DM ∧ StksAt S SM ∧ S.length = 5 ∧ StkIn dst dvs S ∧ DRow dq dc dvs rvs off sq sn sc SR RS ∧ dst.length < 1000000000 ∧
    Sat σ w (emC pb t co cc pi n pe :: stkC b3 S :: (b1, cel [.slice dq dvs.length dc] ty_S_Inline) :: (SM ++ (DM ++ (RS ++ L))))
theorem EM.tick {b1 b3 pb : Nat} {t : List UInt8} {co cc : Bool} {pi n : Int} {pe : TypeId} {dst : List Inl} {S : List STK} {rvs : List Value} {off : Nat} {sq : Option Addr} {sn sc : Nat} {SR : List Chunk} (h : EM σ b1 b3 pb t co cc pi n pe dst S rvs off sq sn sc SR L w) :
    EM σ b1 b3 pb t co cc pi n pe dst S rvs off sq sn sc SR L (tick w) := by
  obtain ⟨dq, dc, dvs, DM, SM, RS, h1, h2, h3, h4, h5, h6, h7⟩ := h
  exact ⟨dq, dc, dvs, DM, SM, RS, h1, h2, h3, h4, h5, h6, h7.tick⟩
end Go.Proofs.YtihmcipajjakgaaGreatDoor


set_option linter.unusedVariables false
namespace Go.Proofs.YtihmcipajjakgaaGreatDoor
open Go.Proofs Go.IntWalk Go.RowKit
variable {σ : Out} {w : World} {L L' : List Chunk} {R : Ending → World → Prop}
def AllC (c : UInt8) (t : List UInt8) : Prop := ∀ x ∈ t, x = c
theorem AllC.head {c : UInt8} {t : List UInt8} (h : AllC c t) (ht : t ≠ []) : t.head? = some c := by
  cases t with
  | nil => exact absurd rfl ht
  | cons x t => rw [h x (by simp)]; rfl
theorem AllC.drop {c : UInt8} {t : List UInt8} (h : AllC c t) (d : Nat) : AllC c (t.drop d) := fun x hx => h x (List.mem_of_mem_drop hx)
end Go.Proofs.YtihmcipajjakgaaGreatDoor


set_option linter.unusedVariables false
namespace Go.Proofs.YtihmcipajjakgaaGreatDoor
open Go.Proofs Go.IntWalk Go.RowKit
variable {σ : Out} {w : World} {L L' : List Chunk} {R : Ending → World → Prop}
theorem StkIn.lt {dst : List Inl} {dvs : List Value} {S : List STK} (h : StkIn dst dvs S) : ∀ s ∈ S, ∀ e ∈ s.ent, e.2 < dst.length := by
  intro s hs e he
  obtain ⟨t, co, cc, n, h1, _⟩ := (h s hs).2.2 e he
  exact (List.getElem?_eq_some_iff.1 h1).1
end Go.Proofs.YtihmcipajjakgaaGreatDoor


set_option linter.unusedVariables false
namespace Go.Proofs.YtihmcipajjakgaaGreatDoor
open Go.Proofs Go.IntWalk Go.RowKit
variable {σ : Out} {w : World} {L L' : List Chunk} {R : Ending → World → Prop}
theorem DRow.same {q : Option Addr} {n c : Nat} {vs : List Value} {RM : List Chunk} (h : Sl 1 ty_Inline q n c vs RM) : DRow q c [] vs 0 q n c [] RM := by
  obtain ⟨hl, hnc, ⟨rfl, rfl, rfl, rfl⟩ | ⟨rb, sp, rfl, rfl, h3⟩⟩ := h
  · have : vs = [] := List.eq_nil_of_length_eq_zero (by omega)
    subst this
    exact ⟨by simp, by simp, .inr ⟨[], Sl.nil 1 ty_Inline, rfl, fun j v hv => by simp at hv⟩⟩
  · refine ⟨by omega, by simp, .inl ⟨rb, [], sp, rfl, rfl, rfl, rfl, ?_⟩⟩
    rw [List.length_append] at h3; omega
theorem DRow.done {dq sq : Option Addr} {dc off sn sc : Nat} {dvs : List Value} {RS : List Chunk} (h : DRow dq dc dvs [] off sq sn sc [] RS) : Sl 1 ty_Inline dq dvs.length dc dvs RS := by
  obtain ⟨h0, hle, ⟨rb, junk, sp, rfl, rfl, rfl, h1, h2⟩ | ⟨DR, hS, rfl, hr⟩⟩ := h
  · refine ⟨by omega, hle, .inr ⟨rb, junk ++ sp, rfl, rfl, ?_⟩⟩
    simp only [List.length_append, List.length_nil] at h2 ⊢; omega
  · rw [List.append_nil]; exact hS
end Go.Proofs.YtihmcipajjakgaaGreatDoor


set_option linter.unusedVariables false
namespace Go.Proofs.YtihmcipajjakgaaGreatDoor
open Go.Proofs
def optOff : Opt := ⟨false, false, false, false, false, false, false, false, false, false⟩
end Go.Proofs.YtihmcipajjakgaaGreatDoor


set_option linter.unusedVariables false
namespace Go.Proofs.YtihmcipajjakgaaGreatDoor
open Go.Proofs Go.IntWalk Go.RowKit
variable {σ : Out} {w : World} {L L' : List Chunk} {R : Ending → World → Prop}
def AtB (X : XI) (σ : Out) (b : Nat) (p0 : PS) (raw : List UInt8) (L : List Chunk) (i e : Nat) (ts : List Inl) (opens : List Nat) (lo : Int) : Prop :=
  ∀ w (p : PS) oq on oc, p.coreS = p0.coreS → p.s = raw → p.em = (e : Int) → IIn σ b p ts opens oq on oc L w → X (some ⟨b, 0, none⟩) (bs raw) oq on oc lo false (i : Int) w
def LoopB (R : Ending → World → Prop) (X : XI) (b : Nat) (raw : List UInt8) : Prop :=
  ∀ oq on oc lo (i : Int) w, g_parseState_inline.bl1 R X (some ⟨b, 0, none⟩) (bs raw) oq on oc lo false i w → X (some ⟨b, 0, none⟩) (bs raw) oq on oc lo false i w
theorem AtB.plain {X : XI} {b pb i e : Nat} {p0 : PS} {raw : List UInt8} {ts : List Inl} {opens : List Nat} {lo : Int} {o : Opt} (hX : LoopB R X b raw) (hi : i < raw.length) (hs : raw.length < 1000000000) (hpz : p0.pz = some ⟨pb, 0, none⟩) (ho : o.at pb ∈ L) (hp : parserOf o raw[i] = .nil) (h93 : raw[i] ≠ 93 ∨ opens = [])
    (h : AtB X σ b p0 raw L (i + 1) e ts opens lo) : AtB X σ b p0 raw L i e ts opens lo := by
  intro w p oq on oc hc hraw he hI
  refine hX _ _ _ _ _ _ ?_
  obtain ⟨vs, RM, EM, OM, hS, hIn, hO, hlen, hsat⟩ := hI
  refine inl_dispatch (p := p) hi (by omega) (by rw [PS.pz_of hc, hpz]) (.head _) (.tail _ (List.mem_append_right _ (List.mem_append_right _ (List.mem_append_right _ ho)))) hsat ?_
  rw [hp]
  have hol := hO.1
  rw [List.length_map] at hol
  exact inl_none (inl_k5 hi (by omega) (h93.imp id (by rintro rfl; simp at hol; omega)) (h w p oq on oc hc hraw he ⟨vs, RM, EM, OM, hS, hIn, hO, hlen, hsat⟩))
theorem AtB.leaf {X : XI} {b pb i e st en : Nat} {p0 : PS} {raw : List UInt8} {ts : List Inl} {opens : List Nat} {lo : Int} {o : Opt} {f : FuncId} {t : Inl} {L0 : List Chunk} {Q : PS → PS → Prop} (hX : LoopB R X b raw) (hi : i < raw.length) (hs : raw.length < 1000000000) (hpz : p0.pz = some ⟨pb, 0, none⟩) (ho : o.at pb ∈ L)
    (hp : parserOf o raw[i] = .fn f) (hL0 : ∀ c ∈ L0, c ∈ L) (hf : ∀ p : PS, p.coreS = p0.coreS → p.s = raw → LeafOK b p raw i (.func (.func f) #[] #[]) L0 (some (t, st, en)) (Q p)) (hst : st ≤ raw.length) (hn : ts.length < 1000000000) (hon : opens.length < 1000000000)
    (h : AtB X σ b p0 raw L en en (emitM raw e st ts ++ [t]) (if t.isOpen then opens ++ [(emitM raw e st ts).length] else opens) lo) : AtB X σ b p0 raw L i e ts opens lo := by
  intro w p oq on oc hc hraw he hI
  refine hX _ _ _ _ _ _ ?_
  obtain ⟨vs, RM, EM, OM, hS, hIn, hO, hlen, hsat⟩ := hI
  refine inl_dispatch (p := p) hi (by omega) (by rw [PS.pz_of hc, hpz]) (.head _) (.tail _ (List.mem_append_right _ (List.mem_append_right _ (List.mem_append_right _ ho)))) hsat ?_
  rw [hp]
  dsimp only
  have hleaf := hf p hc hraw
  subst hraw
  refine inl_leaf ⟨vs, RM, EM, OM, hS, hIn, hO, hlen, hsat⟩ hL0 hleaf he hst hs hn hon fun w p2 oq on oc hp2 hem2 _ h2 => ?_
  refine h w p2 oq on oc (PS.coreS_of hp2 hc) ?_ hem2 h2
  have := congrArg PS.s hp2; exact this
theorem AtB.fin {X : XI} {b pb e : Nat} {p0 : PS} {raw : List UInt8} {ts ts' : List Inl} {opens : List Nat} {lo : Int} {o : Opt} (hX : LoopB R X b raw) (hs : raw.length < 1000000000) (hpz : p0.pz = some ⟨pb, 0, none⟩) (ho : o.at pb ∈ L) (hoff : o.auto = false) (hn : ts.length < 1000000000)
    (hE : EmphOK (emitM raw e raw.length ts) ts') (hpos : ∀ t ∈ ts', ∀ s, t.plain? = some s → s ≠ []) (hb : plen ts' < 1073741824)
    (hR : ∀ w (p' : PS) q n c vs RM EM, p'.coreS = p0.coreS → Sl 1 ty_Inline q n c vs RM → n < 1073741824 → InlsAt (mergeM ts') vs EM → Sat σ w (p'.at b :: (RM ++ (EM ++ L))) → R (.returned (.slice q n c)) w) :
    AtB X σ b p0 raw L raw.length e ts opens lo := by
  intro w p oq on oc hc hraw he hI
  refine hX _ _ _ _ _ _ ?_
  subst hraw
  exact inl_end hI he hs hn (by rw [PS.pz_of hc, hpz]) ho hoff hE hpos hb fun w p2 q n c vs RM EM hp2 hS hn hI h => hR w p2 q n c vs RM EM (PS.coreS_of hp2 hc) hS hn hI h
end Go.Proofs.YtihmcipajjakgaaGreatDoor


set_option linter.unusedVariables false
namespace Go.Proofs.YtihmcipajjakgaaGreatDoor
open Go.Proofs Go.IntWalk Go.RowKit
variable {σ : Out} {w : World} {L L' : List Chunk} {R : Ending → World → Prop}
def tkS (tk : UInt8 → List UInt8) (s : List UInt8) : List UInt8 := s.flatMap tk
@[simp] theorem tkS_nil (tk : UInt8 → List UInt8) : tkS tk [] = [] := rfl
@[simp] theorem tkS_cons (tk : UInt8 → List UInt8) (c : UInt8) (s : List UInt8) : tkS tk (c :: s) = tk c ++ tkS tk s := List.flatMap_cons ..
@[simp] theorem tkS_append (tk : UInt8 → List UInt8) (s t : List UInt8) : tkS tk (s ++ t) = tkS tk s ++ tkS tk t := List.flatMap_append ..
end Go.Proofs.YtihmcipajjakgaaGreatDoor


set_option linter.unusedVariables false
namespace Go.Proofs.YtihmcipajjakgaaGreatDoor
open Go.Proofs Go.IntWalk Go.RowKit
variable {σ : Out} {w : World} {L L' : List Chunk} {R : Ending → World → Prop}
def EntA (c : Chunk) : Prop := ∃ cs e fr, c = (1, .cells cs e fr) ∧ ∀ i : Nat, i < 12 → ∃ a b : List UInt8, cs[2 * i]? = some (.string (bs a)) ∧ cs[2 * i + 1]? = some (.string (bs b)) ∧ b.length ≤ 10 ∧ b ≠ []
theorem htmlEntity_any {c : Chunk} {s : List UInt8} (hE : EntA c) (hc : c ∈ L) (h : Sat σ w L) (hR : ∀ (t : List UInt8) (k : Bool), t.length ≤ 10 → (k = true → t ≠ []) → R (.returned (.tuple #[.string (bs t), .bool k])) w) : callE P i_htmlEntity #[.string (bs s)] R w := by
  obtain ⟨cs, e, fr, rfl, hcs⟩ := hE
  have hb := h.at_ _ hc
  refine g_htmlEntity.sound ?_
  intro X hX
  have key : ∀ k i : Nat, i + k = 12 → X (bs s) (i : Int) w := by
    intro k
    induction k with
    | zero =>
      intro i hi
      exact hX _ _ _ (br_false (by simp; omega) (hR [] false (by simp) (by simp)))
    | succ k ih =>
      intro i hi
      obtain ⟨a, b, h0, h1, hl, hne⟩ := hcs i (by omega)
      refine hX _ _ _ (br_true (by simp; omega) ⟨by omega, by omega, by decide, by decide, bs a, ?_, ?_⟩)
      · simp only [Addr.add_lit, Int.toNat_natCast, Nat.zero_add]
        rw [cell_of_heap hb, ← h0]; congr 1; simp; omega
      refine br_split (fun _ => ⟨by omega, by omega, by decide, by decide, bs b, ?_, hR b true hl fun _ => hne⟩) fun _ => ?_
      · simp only [Addr.add_lit, Int.toNat_natCast, Nat.zero_add]
        rw [cell_of_heap hb, ← h1]; congr 1; simp; omega
      · rw [i64_inc (by omega)]
        exact ih (i + 1) (by omega)
  exact key 12 0 rfl
def UnE (s t : List UInt8) : Prop := t.length ≤ 10 * s.length ∧ ((∀ c ∈ s, c ≠ 92 ∧ c ≠ 38) → t = s)
theorem replace_any {s : List UInt8} {ec : Chunk} (hl : s.length < 1000000) (hE : EntA ec) (hec : ec ∈ L) (h : Sat σ w L) (hR : ∀ w t, UnE s t → Sat σ w L → R (.returned (.string (bs t))) w) :
    callE P i_mdUnescaper_Replace #[.agg #[], .string (bs s)] R w := by
  refine g_mdUnescaper_Replace.sound ?_
  refine Sat.bx h fun b0 w h => ?_
  refine Sat.bx h fun b w h => ?_
  intro X hX
  have key : ∀ (n i : Nat) (don : List UInt8) (g : Bool) (M : List Chunk) w, i + n = s.length → don.length ≤ 10 * i → ((∀ c ∈ s, c ≠ 92 ∧ c ≠ 38) → don = s.take i) → Bld b g don M → Sat σ w (M ++ ((b0, cel [] ty_mdUnescaper) :: L)) →
      X (bs s) b (i : Int) w := by
    intro n
    induction n using Nat.strongRecOn with
    | _ n ih =>
    intro i don g M w hin hdl hdc hB h
    by_cases hn : n = 0
    · subst hn
      refine hX _ _ _ _ (br_false (by simp; omega) ?_)
      refine bldStr_ok hB h (by omega) fun w h => ⟨_, rfl, hR w don ⟨by omega, fun hc => ?_⟩ h.tail⟩
      rw [hdc hc, List.take_of_length_le (by omega)]
    have hil : i < s.length := by omega
    have w1 : IntKind.i64.wrap ((i : Int) + 1) = ((i + 1 : Nat) : Int) := i64_inc (by omega)
    have hone : ∀ w, Sat σ w (M ++ ((b0, cel [] ty_mdUnescaper) :: L)) → callE P i_strings_Builder_WriteByte #[.pointer (some ⟨b, 0, none⟩), .int .u8 (bt (bs s) (i : Int))] (fun e w18 => ∃ (r17 : Value), e = .returned r17 ∧ X (bs s) b (IntKind.i64.wrap ((i : Int) + 1)) w18) w := by
      intro w h
      rw [bt_at hil]
      refine bldB_ok (k := s[i]) hB h (by omega) fun w M' hB' h' => ⟨_, rfl, ?_⟩
      rw [w1]
      refine ih (n - 1) (by omega) (i + 1) (don ++ [s[i]]) _ M' w (by omega) (by simp; omega) (fun hc => ?_) hB' h'
      rw [hdc hc, List.take_succ_eq_append_getElem hil]
    have k3 : ∀ w, Sat σ w (M ++ ((b0, cel [] ty_mdUnescaper) :: L)) → g_mdUnescaper_Replace.k3 R X (bs s) b (i : Int) w := fun w h => ⟨by omega, by simp; omega, hone w h⟩
    have k1f : g_mdUnescaper_Replace.k1 R X (bs s) b (i : Int) false w := by
      refine br_false rfl ⟨by omega, by simp; omega, br_split (fun h38 => ?_) fun _ => ⟨by omega, by simp; omega, hone w h⟩⟩
      have h38 : s[i] = 38 := by rw [bt_at hil, u8b _ 38 38 rfl] at h38; simpa using h38
      have nodirty : ¬ ∀ c ∈ s, c ≠ 92 ∧ c ≠ 38 := fun hc => (hc s[i] (List.getElem_mem hil)).2 h38
      rw [w1]
      intro Y hY
      have go : ∀ m j : Nat, i < j → j + m = s.length → Y (bs s) b (i : Int) (j : Int) w := by
        intro m
        induction m with
        | zero =>
          intro j hij hj
          refine hY _ _ _ _ _ ⟨fun hh => by simp at hh; omega, br_false (by simp; omega) ?_⟩
          exact br_false (by simp; omega) (k3 w h)
        | succ m ihm =>
          intro j hij hj
          refine hY _ _ _ _ _ ⟨fun hh => ⟨by omega, by simp; omega⟩, br_split (fun _ => ?_) fun _ => ?_⟩
          · rw [i64_inc (by omega)]
            exact ihm (j + 1) (by omega) (by omega)
          · refine br_true (by simp; omega) ?_
            rw [i64_inc (by omega)]
            refine ⟨by omega, by omega, by simp; omega, ?_⟩
            rw [Int.toNat_natCast, Int.toNat_natCast, bs_extract]
            refine htmlEntity_any hE (List.mem_append_right _ (.tail _ hec)) h fun t k ht htk => ⟨_, _, rfl, br_split (fun hk => ?_) fun _ => k3 w h⟩
            refine bldS_ok (s := t) hB h (.inl (htk hk)) (by omega) fun w M' hB' h' => ⟨_, _, rfl, ?_⟩
            exact ih (n - (j + 1 - i)) (by omega) (j + 1) (don ++ t) _ M' w (by omega) (by simp; omega) (fun hc => absurd hc nodirty) hB' h'
      exact go (s.length - (i + 1)) (i + 1) (by omega) (by omega)
    refine hX _ _ _ _ (br_true (by simp; omega) ⟨by omega, by simp; omega, ?_⟩)
    rw [w1]
    refine ⟨fun hh => ?_, br_split (fun hh => ?_) fun _ => k1f⟩
    · simp at hh; exact ⟨by omega, by simp; omega⟩
    have hh : s[i] = 92 ∧ i + 1 < s.length := by
      rw [bt_at hil, u8b _ 92 92 rfl] at hh
      simp at hh; exact ⟨hh.1, by omega⟩
    have nodirty : ¬ ∀ c ∈ s, c ≠ 92 ∧ c ≠ 38 := fun hc => (hc s[i] (List.getElem_mem hil)).1 hh.1
    rw [bt_at hh.2]
    refine isPunct_ok ⟨_, rfl, ?_⟩
    cases puB s[i + 1] with
    | false => exact k1f
    | true =>
      refine br_true rfl ?_
      rw [w1]
      refine ⟨by omega, by simp; omega, ?_⟩
      rw [bt_at hh.2]
      refine bldB_ok (k := s[i + 1]) hB h (by omega) fun w M' hB' h' => ⟨_, rfl, ?_⟩
      rw [i64_inc (by omega)]
      exact ih (n - 2) (by omega) (i + 2) (don ++ [s[i + 1]]) _ M' w (by omega) (by simp; omega) (fun hc => absurd hc nodirty) hB' h'
  exact key s.length 0 [] false _ w (by omega) (by simp) (fun _ => rfl) (bldNew b) h
end Go.Proofs.YtihmcipajjakgaaGreatDoor


set_option linter.unusedVariables false
namespace Go.Proofs.YtihmcipajjakgaaGreatDoor
open Go.Proofs Go.IntWalk Go.RowKit
variable {σ : Out} {w : World} {L L' : List Chunk} {R : Ending → World → Prop}
theorem findSub_mem {c : UInt8} {l : List UInt8} : ∀ f i, findSub [c] l f i = none → l.length < i + f → ∀ j, i ≤ j → l[j]? ≠ some c
  | 0, i, _, hl, j, hj => by rw [List.getElem?_eq_none (by omega)]; simp
  | f + 1, i, h, hl, j, hj => by
    simp only [findSub, List.length_singleton] at h
    split at h
    · rename_i hi
      split at h
      · cases h
      · rename_i hne
        rcases Nat.lt_or_ge i j with hij | hij
        · exact findSub_mem f (i + 1) h (by omega) j hij
        · obtain rfl : j = i := by omega
          intro hc
          apply hne
          have hjl : j < l.length := by omega
          rw [List.getElem?_eq_getElem hjl, Option.some.injEq] at hc
          rw [List.drop_eq_getElem_cons hjl, hc]; rfl
    · rename_i hi
      rw [List.getElem?_eq_none (by omega)]; simp
theorem idx_mem {c : UInt8} {l : List UInt8} (hm : c ∈ l) : (idx l [c]).isSome = true := by
  cases h : idx l [c] with
  | some _ => rfl
  | none =>
    obtain ⟨j, hj, rfl⟩ := List.mem_iff_getElem.1 hm
    exact absurd (List.getElem?_eq_getElem hj) (findSub_mem _ _ h (by omega) j (Nat.zero_le _))
end Go.Proofs.YtihmcipajjakgaaGreatDoor


set_option linter.unusedVariables false
namespace Go.Proofs.YtihmcipajjakgaaGreatDoor
open Go.Proofs Go.IntWalk
variable {σ : Out} {w : World} {L L' : List Chunk} {R : Ending → World → Prop}
def runB (c : UInt8) (s : List UInt8) : Nat := (s.takeWhile (· == c)).length
theorem runB_take (c : UInt8) (s : List UInt8) : s.take (runB c s) = List.replicate (runB c s) c := by
  induction s with
  | nil => rfl
  | cons d s ih =>
    by_cases h : d = c
    · subst h
      simp only [runB, List.takeWhile_cons, beq_self_eq_true, if_true, List.length_cons, List.take_succ_cons, List.replicate_succ]
      exact congrArg _ ih
    · simp [runB, List.takeWhile_cons, h]
theorem runB_get {c : UInt8} {s : List UInt8} {k : Nat} (h : k < runB c s) : s[k]? = some c := by
  have h1 := runB_take c s
  have hl : runB c s ≤ s.length := (List.takeWhile_sublist _).length_le
  have : (s.take (runB c s))[k]? = some c := by rw [h1]; simp [h]
  rwa [List.getElem?_take_of_lt h] at this
theorem runB_end {c : UInt8} {s : List UInt8} : s[runB c s]? ≠ some c := by
  induction s with
  | nil => simp [runB]
  | cons d s ih =>
    by_cases h : d = c
    · subst h
      simp only [runB, List.takeWhile_cons, beq_self_eq_true, if_true, List.length_cons, List.getElem?_cons_succ]
      exact ih
    · simp [runB, List.takeWhile_cons, h]
theorem runB_le (c : UInt8) (s : List UInt8) : runB c s ≤ s.length := (List.takeWhile_sublist _).length_le
def Ln.adv (l : Ln) (k : Nat) : Ln := { l with i := l.i + k }
def FenceY (l : Ln) (n : Nat) (c : UInt8) (t info : List UInt8) : Prop :=
  (c = 96 ∨ c = 126) ∧ 3 ≤ n ∧ (l.strip 3 0).2.peek = c ∧ n = runB c ((l.strip 3 0).2.text.drop (l.strip 3 0).2.i) ∧ UnE (trimLR isST ((l.strip 3 0).2.text.drop ((l.strip 3 0).2.i + n))) t ∧ info = trimLR isST t ∧ (c = 96 → 96 ∉ t)
def FenceN (l : Ln) : Prop :=
  ((l.strip 3 0).2.peek ≠ 96 ∧ (l.strip 3 0).2.peek ≠ 126) ∨ (runB (l.strip 3 0).2.peek ((l.strip 3 0).2.text.drop (l.strip 3 0).2.i) < 3) ∨
  ((l.strip 3 0).2.peek = 96 ∧ ∃ t, UnE (trimLR isST ((l.strip 3 0).2.text.drop ((l.strip 3 0).2.i + runB 96 ((l.strip 3 0).2.text.drop (l.strip 3 0).2.i)))) t ∧ 96 ∈ t)
theorem trimLR_le (p : UInt8 → Bool) (s : List UInt8) : (trimLR p s).length ≤ s.length := by
  unfold trimLR trimR
  have h1 := (List.dropWhile_sublist p (l := (s.dropWhile p).reverse)).length_le
  have h2 := (List.dropWhile_sublist p (l := s)).length_le
  rw [List.length_reverse] at h1 ⊢
  omega
theorem trimFence_any {b nb fb ib : Nat} {l : Ln} {v : Int} {f0 i0 : List UInt8} {e ef ei : TypeId} {ec : Chunk} (h : Sat σ w (l.at b :: (nb, cel [.int .i64 v] e) :: (ib, cel [.string (bs i0)] ei) :: (fb, cel [.string (bs f0)] ef) :: L)) (hl : l.ok) (hlen : l.text.length < 100000)
    (hE : EntA ec) (hec : ec ∈ L)
    (hN : FenceN l → ∀ w v, Sat σ w (l.at b :: (nb, cel [.int .i64 v] e) :: (ib, cel [.string (bs i0)] ei) :: (fb, cel [.string (bs f0)] ef) :: L) → R (.returned (.bool false)) w)
    (hY : ∀ n c t info, FenceY l n c t info → ∀ w, Sat σ w (Ln.zero.at b :: (nb, cel [.int .i64 ((l.strip 3 0).1 : Nat)] e) :: (ib, cel [.string (bs info)] ei) :: (fb, cel [.string (bs (List.replicate n c))] ef) :: L) → R (.returned (.bool true)) w) :
    callE P i_line_trimFence #[.pointer (some ⟨b, 0, none⟩), .pointer (some ⟨fb, 0, none⟩), .pointer (some ⟨ib, 0, none⟩), .pointer (some ⟨nb, 0, none⟩)] R w := by
  refine g_line_trimFence.sound ?_
  repeat (first | refine nilP_some ?_ | refine Sat.tk h fun w h => ?_ | refine ⟨_, Sat.ld h (by first | assumption | (repeat (first | exact .head _ | apply List.Mem.tail))) (by exact rfl), ?_⟩ | refine ⟨_, _, _, Sat.ld h (by first | assumption | (repeat (first | exact .head _ | apply List.Mem.tail))) (by exact rfl), ?_⟩ | refine Sat.st h (k := 0) rfl (Nat.le_of_ble_eq_true rfl) trivial (by first | (dsimp only [List.set]; exact rfl) | exact rfl) fun w h => ?_ | refine Sat.st h (k := 1) rfl (Nat.le_of_ble_eq_true rfl) trivial (by first | (dsimp only [List.set]; exact rfl) | exact rfl) fun w h => ?_ | refine Sat.st h (k := 2) rfl (Nat.le_of_ble_eq_true rfl) trivial (by first | (dsimp only [List.set]; exact rfl) | exact rfl) fun w h => ?_ | refine Sat.st h (k := 3) rfl (Nat.le_of_ble_eq_true rfl) trivial (by first | (dsimp only [List.set]; exact rfl) | exact rfl) fun w h => ?_ | refine Sat.st h (k := 4) rfl (Nat.le_of_ble_eq_true rfl) trivial (by first | (dsimp only [List.set]; exact rfl) | exact rfl) fun w h => ?_ | refine Sat.st h (k := 5) rfl (Nat.le_of_ble_eq_true rfl) trivial (by first | (dsimp only [List.set]; exact rfl) | exact rfl) fun w h => ?_ | refine Sat.st h (k := 6) rfl (Nat.le_of_ble_eq_true rfl) trivial (by first | (dsimp only [List.set]; exact rfl) | exact rfl) fun w h => ?_ | refine Sat.bx h fun b0 w h => ?_)
  let L1 : List Chunk := (ib, cel [.string (bs i0)] ei) :: (fb, cel [.string (bs f0)] ef) :: L
  have h : Sat σ _ (l.at b0 :: l.at b :: (nb, cel [.int .i64 0] e) :: L1) := h
  have fin : ∀ (n : Nat) (t : Ln) w, t.ok → t.text.length < 100000 → (n, t) = l.strip 3 0 → Sat σ w (t.at b0 :: l.at b :: (nb, cel [.int .i64 n] e) :: L1) → g_line_trimFence.k2 R (some ⟨b, 0, none⟩) (some ⟨fb, 0, none⟩) (some ⟨ib, 0, none⟩) b0 w := by
    intro n t w ht htl hst h
    unfold FenceN at hN
    unfold FenceY at hY
    rw [← hst] at hN hY
    simp only at hN hY
    refine peek_ok h (by first | assumption | (repeat (first | exact .head _ | apply List.Mem.tail))) ht fun w h => ⟨_, rfl, ?_⟩
    by_cases hc : t.peek = 96 ∨ t.peek = 126
    · have k3 : g_line_trimFence.k3 R (some ⟨b, 0, none⟩) (some ⟨fb, 0, none⟩) (some ⟨ib, 0, none⟩) b0 (t.peek.toNat : Int) true w := by
        refine br_true rfl ?_
        have hsp : t.sp = 0 := by
          unfold Ln.peek at hc
          split at hc
          · rcases hc with hc | hc <;> exact absurd hc (by decide)
          · omega
        have hstr : t.str = t.text.drop t.i := by unfold Ln.str; rw [hsp]; rfl
        generalize hcc : t.peek = c at hc hN hY ⊢
        have hti := ht.i
        have hr := runB_le c (t.text.drop t.i)
        simp only [List.length_drop] at hr
        refine string_ok h (by first | assumption | (repeat (first | exact .head _ | apply List.Mem.tail))) ht fun w h => ⟨_, rfl, ?_⟩
        rw [hstr]
        intro X hX
        have adv_ok : ∀ k, t.i + k ≤ t.text.length → (t.adv k).ok := fun k hk => ⟨hk, by show t.tab ≤ t.i + k; have := ht.tab; omega, ht.len, ht.sp⟩
        have hget : ∀ k : Nat, (t.adv k).text[(t.adv k).i]? = (t.text.drop t.i)[k]? := by intro k; rw [List.getElem?_drop]; rfl
        have loop : ∀ m k w, k + m = runB c (t.text.drop t.i) → Sat σ w ((t.adv k).at b0 :: l.at b :: (nb, cel [.int .i64 n] e) :: L1) → X (some ⟨b, 0, none⟩) (some ⟨fb, 0, none⟩) (some ⟨ib, 0, none⟩) b0 (c.toNat : Int) (bs (t.text.drop t.i)) (k : Int) (k : Int) w := by
          intro m
          induction m with
          | succ m ih =>
            intro k w hk h
            refine hX _ _ _ _ _ _ _ _ _ ?_
            have hkn := adv_ok k (by omega)
            refine trimC_ok (c := c) rfl h hkn ?_
            have : (t.adv k).trimC c = some (t.adv (k + 1)) := by
              unfold Ln.trimC
              rw [if_neg (by show ¬ 0 < t.sp; omega), if_pos (by rw [hget]; exact runB_get (by omega))]
              rfl
            rw [this]
            intro w h
            refine ⟨_, rfl, br_false rfl ?_⟩
            rw [i64_inc (by omega)]
            exact ih (k + 1) w (by omega) h
          | zero =>
            intro k w hk h
            rw [Nat.add_zero] at hk
            refine hX _ _ _ _ _ _ _ _ _ ?_
            have hkn := adv_ok k (by omega)
            refine trimC_ok (c := c) rfl h hkn ?_
            have : (t.adv k).trimC c = none := by
              unfold Ln.trimC
              rw [if_neg (by show ¬ 0 < t.sp; omega), if_neg (by rw [hget, hk]; exact runB_end)]
            rw [this]
            intro w h
            refine ⟨_, rfl, br_true rfl ?_⟩
            by_cases hk3 : k < 3
            · exact br_false (by simp; omega) (hN (.inr (.inl (by rw [← hk]; omega))) _ _ h.tail)
            refine br_true (by simp; omega) ?_
            refine trimString_ok h (by first | assumption | (repeat (first | exact .head _ | apply List.Mem.tail))) hkn fun w h => ⟨_, rfl, ?_⟩
            have htr := trimLR_le isST ((t.adv k).text.drop (t.adv k).i)
            have hdl : ((t.adv k).text.drop (t.adv k).i).length ≤ t.text.length := by rw [List.length_drop]; exact Nat.sub_le _ _
            refine replace_any (by omega) hE (by simp [L1, hec]) h fun w u hu h => ⟨_, rfl, ?_⟩
            have hul : u.length < 1000000 := by have := hu.1; omega
            have k4 : ∀ w, (c = 96 → 96 ∉ u) → Sat σ w ((t.adv k).at b0 :: l.at b :: (nb, cel [.int .i64 n] e) :: L1) → g_line_trimFence.k4 R (some ⟨b, 0, none⟩) (some ⟨fb, 0, none⟩) (some ⟨ib, 0, none⟩) (bs (t.text.drop t.i)) (k : Int) (bs u) w := by
              intro w hcu h
              refine trimSpaceTab_ok (by omega) ⟨_, rfl, nilP_some ?_⟩
              have h : Sat σ w ((t.adv k).at b0 :: l.at b :: (nb, cel [.int .i64 n] e) :: (ib, cel [.string (bs i0)] ei) :: (fb, cel [.string (bs f0)] ef) :: L) := h
              have h : Sat σ w ((ib, cel [.string (bs i0)] ei) :: (fb, cel [.string (bs f0)] ef) :: l.at b :: (t.adv k).at b0 :: (nb, cel [.int .i64 n] e) :: L) := h.re (by intro _; simp only [List.append_eq, cnt_append, cnt_cons, cnt_nil] <;> omega)
              refine Sat.st h (k := 0) rfl (Nat.le_of_ble_eq_true rfl) trivial (by first | (dsimp only [List.set]; exact rfl) | exact rfl) fun w h => ?_
              refine ⟨by omega, by simp; omega, nilP_some ?_⟩
              rw [Int.toNat_natCast, bs_extract, List.drop_zero, hk, runB_take, ← hk]
              refine Sat.st h (k := 1) rfl (Nat.le_of_ble_eq_true rfl) trivial (by first | (dsimp only [List.set]; exact rfl) | exact rfl) fun w h => ?_
              have h : Sat σ _ ((ib, cel [.string (bs (trimLR isST u))] ei) :: (fb, cel [.string (bs (List.replicate k c))] ef) :: l.at b :: (t.adv k).at b0 :: (nb, cel [.int .i64 n] e) :: L) := h
              have h : Sat σ _ (l.at b :: (ib, cel [.string (bs (trimLR isST u))] ei) :: (fb, cel [.string (bs (List.replicate k c))] ef) :: (t.adv k).at b0 :: (nb, cel [.int .i64 n] e) :: L) := h.re (by intro _; simp only [List.append_eq, cnt_append, cnt_cons, cnt_nil] <;> omega)
              refine nilP_some ?_
              refine Sat.st h (k := 0) rfl (Nat.le_of_ble_eq_true rfl) trivial (by first | (dsimp only [List.set]; exact rfl) | exact rfl) fun w h => ?_
              refine Sat.st h (k := 0) rfl (Nat.le_of_ble_eq_true rfl) trivial (by first | (dsimp only [List.set]; exact rfl) | exact rfl) fun w h => ?_
              refine Sat.st h (k := 0) rfl (Nat.le_of_ble_eq_true rfl) trivial (by first | (dsimp only [List.set]; exact rfl) | exact rfl) fun w h => ?_
              refine Sat.st h (k := 0) rfl (Nat.le_of_ble_eq_true rfl) trivial (by first | (dsimp only [List.set]; exact rfl) | exact rfl) fun w h => ?_
              refine Sat.st h (k := 0) rfl (Nat.le_of_ble_eq_true rfl) trivial (by first | (dsimp only [List.set]; exact rfl) | exact rfl) fun w h => ?_
              have h : Sat σ _ (Ln.zero.at b :: (ib, cel [.string (bs (trimLR isST u))] ei) :: (fb, cel [.string (bs (List.replicate k c))] ef) :: (t.adv k).at b0 :: (nb, cel [.int .i64 n] e) :: L) := h
              refine hY k c u _ ⟨hc, by omega, rfl, hk, hu, rfl, hcu⟩ _ ?_
              exact h.less [(t.adv k).at b0] (by intro _; simp only [List.append_eq, cnt_append, cnt_cons, cnt_nil] <;> omega)
            by_cases h96 : c = 96
            · subst h96
              refine br_true rfl ?_
              refine zzContains_ok (sub := [96]) (by omega) (by decide) ⟨_, rfl, ?_⟩
              by_cases hm : 96 ∈ u
              · refine br_true ?_ (hN (.inr (.inr ⟨rfl, u, by rw [← hk]; exact hu, hm⟩)) _ _ h.tail)
                rw [idx_mem hm]
              · exact br_false (by rw [idx_none hm]; rfl) (k4 w (fun _ => hm) h)
            · exact br_false (by rw [u8b _ 96 96 rfl]; simpa using h96) (k4 w (fun hh => absurd hh h96) h)
        have h : Sat σ w ((t.adv 0).at b0 :: l.at b :: (nb, cel [.int .i64 n] e) :: L1) := h
        exact loop _ 0 w (Nat.zero_add _) h
      by_cases h96 : t.peek = 96
      · exact br_true (by rw [u8b _ 96 96 rfl]; simpa using h96) k3
      · refine br_false (by rw [u8b _ 96 96 rfl]; simpa using h96) ?_
        rw [u8b _ 126 126 rfl]
        rw [show (t.peek == 126) = true by have := hc.resolve_left h96; simpa using this]
        exact k3
    · have hp : t.peek ≠ 96 ∧ t.peek ≠ 126 := by simpa using hc
      rw [beqf (d := 126) (n := 126) rfl hp.2]
      exact br_false (beqf (d := 96) rfl hp.1) (br_false rfl (hN (.inl hp) _ _ h.tail))
  intro X hX
  have loop : ∀ k n (t : Ln) w, t.ok → t.text.length < 100000 → k + n = 3 → t.strip k n = l.strip 3 0 → Sat σ w (t.at b0 :: l.at b :: (nb, cel [.int .i64 n] e) :: L1) →
      X (some ⟨b, 0, none⟩) (some ⟨fb, 0, none⟩) (some ⟨ib, 0, none⟩) (some ⟨nb, 0, none⟩) b0 w := by
    intro k n t w ht htl hk hp h
    induction k generalizing n t w with
    | zero =>
      refine hX _ _ _ _ _ _ ?_
      repeat (first | refine nilP_some ?_ | refine Sat.tk h fun w h => ?_ | refine ⟨_, Sat.ld h (by first | assumption | (repeat (first | exact .head _ | apply List.Mem.tail))) (by exact rfl), ?_⟩ | refine ⟨_, _, _, Sat.ld h (by first | assumption | (repeat (first | exact .head _ | apply List.Mem.tail))) (by exact rfl), ?_⟩)
      exact br_false (by simp; omega) (fin n t w ht htl hp h)
    | succ k ih =>
      refine hX _ _ _ _ _ _ ?_
      repeat (first | refine nilP_some ?_ | refine Sat.tk h fun w h => ?_ | refine ⟨_, Sat.ld h (by first | assumption | (repeat (first | exact .head _ | apply List.Mem.tail))) (by exact rfl), ?_⟩ | refine ⟨_, _, _, Sat.ld h (by first | assumption | (repeat (first | exact .head _ | apply List.Mem.tail))) (by exact rfl), ?_⟩)
      refine br_true (by simp; omega) ?_
      refine YtihmcipajjakgaaGreatDoor.trimSp_ok (min := 1) (max := 1) h ht (by decide) (by decide) ?_
      simp only [Ln.strip] at hp
      cases hs : t.trimSp 1 1 false with
      | none =>
        rw [hs] at hp
        exact fun w h => ⟨_, rfl, br_false rfl (fin n t w ht htl hp h)⟩
      | some t' =>
        rw [hs] at hp
        intro w h
        refine ⟨_, rfl, br_true rfl ?_⟩
        repeat (first | refine nilP_some ?_ | refine Sat.tk h fun w h => ?_ | refine ⟨_, Sat.ld h (by first | assumption | (repeat (first | exact .head _ | apply List.Mem.tail))) (by exact rfl), ?_⟩ | refine ⟨_, _, _, Sat.ld h (by first | assumption | (repeat (first | exact .head _ | apply List.Mem.tail))) (by exact rfl), ?_⟩ | refine Sat.st h (k := 0) rfl (Nat.le_of_ble_eq_true rfl) trivial (by first | (dsimp only [List.set]; exact rfl) | exact rfl) fun w h => ?_ | refine Sat.st h (k := 1) rfl (Nat.le_of_ble_eq_true rfl) trivial (by first | (dsimp only [List.set]; exact rfl) | exact rfl) fun w h => ?_ | refine Sat.st h (k := 2) rfl (Nat.le_of_ble_eq_true rfl) trivial (by first | (dsimp only [List.set]; exact rfl) | exact rfl) fun w h => ?_ | refine Sat.st h (k := 3) rfl (Nat.le_of_ble_eq_true rfl) trivial (by first | (dsimp only [List.set]; exact rfl) | exact rfl) fun w h => ?_ | refine Sat.st h (k := 4) rfl (Nat.le_of_ble_eq_true rfl) trivial (by first | (dsimp only [List.set]; exact rfl) | exact rfl) fun w h => ?_ | refine Sat.st h (k := 5) rfl (Nat.le_of_ble_eq_true rfl) trivial (by first | (dsimp only [List.set]; exact rfl) | exact rfl) fun w h => ?_ | refine Sat.st h (k := 6) rfl (Nat.le_of_ble_eq_true rfl) trivial (by first | (dsimp only [List.set]; exact rfl) | exact rfl) fun w h => ?_ | refine Sat.bx h fun b0 w h => ?_)
        rw [i64_inc (by omega)] at h
        refine ih (n + 1) t' _ (Ln.trimSp_ok ht hs) ?_ (by omega) hp h
        rw [(Ln.tsGo_ok 1 0 ht hs).2.1]; exact htl
  exact loop 3 0 l _ hl hlen rfl rfl h
end Go.Proofs.YtihmcipajjakgaaGreatDoor


set_option linter.unusedVariables false
set_option maxRecDepth 20000
namespace Go.Proofs.YtihmcipajjakgaaGreatDoor
open Go.Proofs
namespace g_HTMLBlock_PrintHTML
noncomputable def body : Code := bodyOf Tryz.f347
def bl1 (R : EP) (Xa : OA → OA → Nat → Nat → Int → Int → WP) (x1 : OA) (x9q : OA) (x9n : Nat) (x9c : Nat) (x10 : Int) (x11 : Int) (w : World) : Prop :=
 br (decide (x11 < x10))
 (0 ≤ x11 ∧ x11 < (x9n : Int) ∧
 nilP x9q fun a3 =>
 ∃ (v4 : BA), w.cell? (a3.add (Int.toNat x11 * 1)) = some (.string v4) ∧
 callE P i_bytes_Buffer_WriteString #[.pointer x1, .string v4] (fun e w6 => ∃ (r5_0 : Int), ∃ (r5_1 : Value), e = .returned (.tuple #[.int .i64 r5_0, r5_1]) ∧
 callE P i_bytes_Buffer_WriteString #[.pointer x1, .string (ByteArray.mk #[10])] (fun e w8 => ∃ (r7_0 : Int), ∃ (r7_1 : Value), e = .returned (.tuple #[.int .i64 r7_0, r7_1]) ∧
 Xa x1 x9q x9n x9c x10 (IntKind.i64.wrap (x11 + 1)) w8) w6) w)
 (R (.returned (.tuple #[])) w)
def l1 (R : EP) (x1 : OA) (x9q : OA) (x9n : Nat) (x9c : Nat) (x10 : Int) (x11 : Int) (w : World) : Prop :=
  ∀ X : OA → OA → Nat → Nat → Int → Int → WP, (∀ x1 x9q x9n x9c x10 x11 w, bl1 R X x1 x9q x9n x9c x10 x11 w → X x1 x9q x9n x9c x10 x11 w) → X x1 x9q x9n x9c x10 x11 w

noncomputable def al1 (R : EP) (Xa : OA → OA → Nat → Nat → Int → Int → WP) : AC :=
  (.leaf (sel [1, 0, 0] body))
end g_HTMLBlock_PrintHTML
def g_HTMLBlock_PrintHTML (R : EP) (x0 : OA) (x1 : OA) (w : World) : Prop :=
 nilP x0 fun a1 =>
 ∃ (v2q : OA), ∃ (v2n : Nat), ∃ (v2c : Nat), w.cell? (a1.add 2) = some (.slice v2q v2n v2c) ∧
 g_HTMLBlock_PrintHTML.l1 R x1 v2q v2n v2c (v2n : Int) 0 w

noncomputable def g_HTMLBlock_PrintHTML.ac (R : EP) : AC :=
  (.seq (.leaf (sel [0] g_HTMLBlock_PrintHTML.body)) (.block 0 (.loop (leaf [(1, .s .ptr), (9, .s .slice), (10, .s (.int .i64)), (11, .s (.int .i64))] (g_HTMLBlock_PrintHTML.l1 R)) (sel [1, 0, 0] g_HTMLBlock_PrintHTML.body))))
theorem g_HTMLBlock_PrintHTML.good (R : EP) : Good P 21 (g_HTMLBlock_PrintHTML.ac R) (QF P [] R) :=
  ⟨trivial, (loopG (g_HTMLBlock_PrintHTML.al1 R) (g_HTMLBlock_PrintHTML.bl1 R) (fun _ => by kernel_rfl) (fun Xa => trivial) (fun Xa => by intro x1 x9q x9n x9c x10 x11 ρ w; kernel_rfl) (fun X h _ _ _ _ _ _ _ g => g X h))⟩
theorem g_HTMLBlock_PrintHTML.eq (R : EP) (x0 : OA) (x1 : OA) (w : World) : g_HTMLBlock_PrintHTML R x0 x1 w = vcA P 21 (g_HTMLBlock_PrintHTML.ac R) (QF P [] R) (fr0 [.pointer x0, .pointer x1]) w := by kernel_rfl
theorem g_HTMLBlock_PrintHTML.sound {R : EP} {x0 : OA} {x1 : OA} {w : World} (h : g_HTMLBlock_PrintHTML R x0 x1 w) : callE P i_HTMLBlock_PrintHTML #[.pointer x0, .pointer x1] R w :=
  callE_fin (c := g_HTMLBlock_PrintHTML.body) Tryz.func347 Tryz.call347 (by kernel_rfl) (by kernel_rfl) (by kernel_rfl) (by kernel_rfl) (by kernel_rfl) (g_HTMLBlock_PrintHTML.good R) (g_HTMLBlock_PrintHTML.eq R x0 x1 w) h
end Go.Proofs.YtihmcipajjakgaaGreatDoor
