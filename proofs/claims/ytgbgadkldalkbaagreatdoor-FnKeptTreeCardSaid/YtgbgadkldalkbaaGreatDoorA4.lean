/- Part 4 of the proof of the law FnKeptTree: for every input the law returns true, the inputs read as they did, and memory that was there is as it was; under the conditions of the given row alone. -/
import Derived.SliceStrings
import Derived.WideKeyArgs
import Derived.Below
import Derived.Test.YtgbgadkldalkbaaGreatDoorA3
set_option linter.all false
set_option linter.unusedVariables false
set_option maxRecDepth 20000
namespace Go.Proofs.YtgbgadkldalkbaaGreatDoor
open Go.Proofs
namespace g_laws_same
noncomputable def body : Code := bodyOf Tryz.f19
def bl2 (R : EP) (Xa : Nat → Nat → Int → Int → WP) (x2 x3 : Nat) (x85 x86 : Int) (w : World) : Prop :=
 br (decide (x86 < x85))
 (tk w fun w30 =>
 ∃ (v31q : OA), ∃ (v31n : Nat), ∃ (v31c : Nat), w30.cell? ⟨x2, 7, none⟩ = some (.slice v31q v31n v31c) ∧
 0 ≤ x86 ∧ x86 < (v31n : Int) ∧
 nilP v31q fun a32 =>
 ldA10 w30 (a32.add (Int.toNat x86 * 10)) fun m33 =>
 ∃ (v43q : OA), ∃ (v43n : Nat), ∃ (v43c : Nat), w30.cell? ⟨x3, 7, none⟩ = some (.slice v43q v43n v43c) ∧
 0 ≤ x86 ∧ x86 < (v43n : Int) ∧
 nilP v43q fun a44 =>
 ldA10 w30 (a44.add (Int.toNat x86 * 10)) fun m45 =>
 callE P i_laws_same #[m33.V, m45.V] (fun e w56 => ∃ (r55 : Bool), e = .returned (.bool r55) ∧
 br (!r55)
 (R (.returned (.bool false)) w56)
 (Xa x2 x3 x85 (IntKind.i64.wrap (x86 + 1)) w56)) w30)
 (R (.returned (.bool true)) w)
def l2 (R : EP) (x2 x3 : Nat) (x85 x86 : Int) (w : World) : Prop :=
 ∀ X : Nat → Nat → Int → Int → WP, (∀ x2 x3 x85 x86 w, bl2 R X x2 x3 x85 x86 w → X x2 x3 x85 x86 w) → X x2 x3 x85 x86 w

noncomputable def al2 (R : EP) (Xa : Nat → Nat → Int → Int → WP) : AC :=
 (.seq (.leaf (sel [1,1,1,0,1,0,0,0] body)) (.seq (.leaf (sel [1,1,1,0,1,0,0,1,0] body)) (.seq (.block 3 (.seq (.leaf (sel [1,1,1,0,1,0,0,1,1,0,0,0] body)) (.seq (.draw (.pure 0 (.pure 2 (.pure 5 (.pure 7 (.load 1 (.pure 3 (.load 4 (.load 6 (.pure 8 (.load 9 (.one 10 (.pure 11 .done)))))))))))) (sel [1,1,1,0,1,0,0,1,1,0,0,1,0] body)) (.leaf (sel [1,1,1,0,1,0,0,1,1,0,0,1,1] body))))) (.leaf (sel [1,1,1,0,1,0,0,1,1,1] body)))))
def bl1 (R : EP) (Xb : Nat → Nat → Int → Int → WP) (x2 x3 : Nat) (x67 x68 : Int) (w : World) : Prop :=
 br (decide (x68 < x67))
 (tk w fun w22 =>
 ∃ (v23q : OA), ∃ (v23n : Nat), ∃ (v23c : Nat), w22.cell? ⟨x2, 6, none⟩ = some (.slice v23q v23n v23c) ∧
 0 ≤ x68 ∧ x68 < (v23n : Int) ∧
 nilP v23q fun a24 =>
 ∃ (v25 : Int), w22.cell? (a24.add (Int.toNat x68 * 1)) = some (.int .i64 v25) ∧
 ∃ (v26q : OA), ∃ (v26n : Nat), ∃ (v26c : Nat), w22.cell? ⟨x3, 6, none⟩ = some (.slice v26q v26n v26c) ∧
 0 ≤ x68 ∧ x68 < (v26n : Int) ∧
 nilP v26q fun a27 =>
 ∃ (v28 : Int), w22.cell? (a27.add (Int.toNat x68 * 1)) = some (.int .i64 v28) ∧
 br (v25 != v28)
 (R (.returned (.bool false)) w22)
 (Xb x2 x3 x67 (IntKind.i64.wrap (x68 + 1)) w22))
 (∃ (v29q : OA), ∃ (v29n : Nat), ∃ (v29c : Nat), w.cell? ⟨x2, 7, none⟩ = some (.slice v29q v29n v29c) ∧
 l2 R x2 x3 (v29n : Int) 0 w)
def l1 (R : EP) (x2 x3 : Nat) (x67 x68 : Int) (w : World) : Prop :=
 ∀ X : Nat → Nat → Int → Int → WP, (∀ x2 x3 x67 x68 w, bl1 R X x2 x3 x67 x68 w → X x2 x3 x67 x68 w) → X x2 x3 x67 x68 w

noncomputable def al1 (R : EP) (Xb : Nat → Nat → Int → Int → WP) : AC :=
 (.seq (.leaf (sel [1,1,0,1,0,0,0] body)) (.seq (.leaf (sel [1,1,0,1,0,0,1,0] body)) (.seq (.block 1 (.seq (.leaf (sel [1,1,0,1,0,0,1,1,0,0,0] body)) (.seq (.draw (.pure 0 (.pure 2 (.pure 5 (.pure 7 (.load 1 (.pure 3 (.load 4 (.load 6 (.pure 8 (.load 9 (.pure 10 .done))))))))))) (sel [1,1,0,1,0,0,1,1,0,0,1,0] body)) (.leaf (sel [1,1,0,1,0,0,1,1,0,0,1,1] body))))) (.leaf (sel [1,1,0,1,0,0,1,1,1] body)))))
def k1 (R : EP) (x2 x3 : Nat) (w : World) : Prop :=
 ∃ (v21q : OA), ∃ (v21n : Nat), ∃ (v21c : Nat), w.cell? ⟨x2, 6, none⟩ = some (.slice v21q v21n v21c) ∧
 l1 R x2 x3 (v21n : Int) 0 w

end g_laws_same
def g_laws_same (R : EP) (x0_0 : Int) (x0_1 x0_2 : BA) (x0_3 : Int) (x0_4 : BA) (x0_5 : Bool) (x0_6q : OA) (x0_6n x0_6c : Nat) (x0_7q : OA) (x0_7n x0_7c : Nat) (x0_8 x0_9 x1_0 : Int) (x1_1 x1_2 : BA) (x1_3 : Int) (x1_4 : BA) (x1_5 : Bool) (x1_6q : OA) (x1_6n x1_6c : Nat) (x1_7q : OA) (x1_7n x1_7c : Nat) (x1_8 x1_9 : Int) (w : World) : Prop :=
 box w (N10.C {a0 := x0_0, a1 := x0_1, a2 := x0_2, a3 := x0_3, a4 := x0_4, a5 := x0_5, q6 := x0_6q, n6 := x0_6n, c6 := x0_6c, q7 := x0_7q, n7 := x0_7n, c7 := x0_7c, a8 := x0_8, a9 := x0_9}) ty_spec_Node fun b1 w2 =>
 box w2 (N10.C {a0 := x1_0, a1 := x1_1, a2 := x1_2, a3 := x1_3, a4 := x1_4, a5 := x1_5, q6 := x1_6q, n6 := x1_6n, c6 := x1_6c, q7 := x1_7q, n7 := x1_7n, c7 := x1_7c, a8 := x1_8, a9 := x1_9}) ty_spec_Node fun b3 w4 =>
 ∃ (v5 : Int), w4.cell? ⟨b1, 0, none⟩ = some (.int .i64 v5) ∧
 ∃ (v6 : Int), w4.cell? ⟨b3, 0, none⟩ = some (.int .i64 v6) ∧
 br (v5 != v6)
 (R (.returned (.bool false)) w4)
 (∃ (v7 : BA), w4.cell? ⟨b1, 1, none⟩ = some (.string v7) ∧
 ∃ (v8 : BA), w4.cell? ⟨b3, 1, none⟩ = some (.string v8) ∧
 br (!(v7.toList == v8.toList))
 (R (.returned (.bool false)) w4)
 (∃ (v9 : BA), w4.cell? ⟨b1, 2, none⟩ = some (.string v9) ∧
 ∃ (v10 : BA), w4.cell? ⟨b3, 2, none⟩ = some (.string v10) ∧
 br (!(v9.toList == v10.toList))
 (R (.returned (.bool false)) w4)
 (∃ (v11 : Int), w4.cell? ⟨b1, 3, none⟩ = some (.int .i64 v11) ∧
 ∃ (v12 : Int), w4.cell? ⟨b3, 3, none⟩ = some (.int .i64 v12) ∧
 br (v11 != v12)
 (R (.returned (.bool false)) w4)
 (∃ (v13 : BA), w4.cell? ⟨b1, 4, none⟩ = some (.string v13) ∧
 ∃ (v14 : BA), w4.cell? ⟨b3, 4, none⟩ = some (.string v14) ∧
 br (!(v13.toList == v14.toList))
 (R (.returned (.bool false)) w4)
 (∃ (v15 : Bool), w4.cell? ⟨b1, 5, none⟩ = some (.bool v15) ∧
 ∃ (v16 : Bool), w4.cell? ⟨b3, 5, none⟩ = some (.bool v16) ∧
 br (!(v15 == v16))
 (R (.returned (.bool false)) w4)
 (∃ (v17q : OA), ∃ (v17n : Nat), ∃ (v17c : Nat), w4.cell? ⟨b1, 6, none⟩ = some (.slice v17q v17n v17c) ∧
 ∃ (v18q : OA), ∃ (v18n : Nat), ∃ (v18c : Nat), w4.cell? ⟨b3, 6, none⟩ = some (.slice v18q v18n v18c) ∧
 br ((v17n : Int) != (v18n : Int))
 (R (.returned (.bool false)) w4)
 (∃ (v19q : OA), ∃ (v19n : Nat), ∃ (v19c : Nat), w4.cell? ⟨b1, 7, none⟩ = some (.slice v19q v19n v19c) ∧
 ∃ (v20q : OA), ∃ (v20n : Nat), ∃ (v20c : Nat), w4.cell? ⟨b3, 7, none⟩ = some (.slice v20q v20n v20c) ∧
 br ((v19n : Int) != (v20n : Int))
 (R (.returned (.bool false)) w4)
 (g_laws_same.k1 R b1 b3 w4))))))))

namespace g_laws_same
noncomputable def ac (R : EP) : AC :=
 (.seq (.leaf (sel [0] body)) (.seq (.leaf (sel [1,0] body)) (.mark (leaf [(2, .s .loc), (3, .s .loc)] (k1 R)) (.seq (.seq (.leaf (sel [1,1,0,0] body)) (.block 0 (.loop (leaf [(2, .s .loc), (3, .s .loc), (67, .s (.int .i64)), (68, .s (.int .i64))] (l1 R)) (sel [1,1,0,1,0,0] body)))) (.seq (.seq (.leaf (sel [1,1,1,0,0] body)) (.block 2 (.loop (leaf [(2, .s .loc), (3, .s .loc), (85, .s (.int .i64)), (86, .s (.int .i64))] (l2 R)) (sel [1,1,1,0,1,0,0] body)))) (.leaf (sel [1,1,1,1] body)))))))
theorem good (R : EP) : Good P 102 (ac R) (QF P [.tmp 4] R) :=
 ⟨trivial, ⟨trivial, ⟨⟨⟨trivial, (loopG (al1 R) (bl1 R) (fun _ => by kernel_rfl) (fun Xb => ⟨trivial, ⟨trivial, ⟨⟨trivial, ⟨⟨by kernel_rfl, by kernel_rfl, fun _ _ _ h => h⟩, trivial⟩⟩, trivial⟩⟩⟩) (fun Xb => by intro x2 x3 x67 x68 ρ w; kernel_rfl) (fun X h _ _ _ _ _ g => g X h))⟩, ⟨⟨trivial, (loopG (al2 R) (bl2 R) (fun _ => by kernel_rfl) (fun Xa => ⟨trivial, ⟨trivial, ⟨⟨trivial, ⟨⟨by kernel_rfl, by kernel_rfl, fun _ _ _ h => h⟩, trivial⟩⟩, trivial⟩⟩⟩) (fun Xa => by intro x2 x3 x85 x86 ρ w; kernel_rfl) (fun X h _ _ _ _ _ g => g X h))⟩, trivial⟩⟩, cutZ⟩⟩⟩
theorem eq (R : EP) (x0_0 : Int) (x0_1 x0_2 : BA) (x0_3 : Int) (x0_4 : BA) (x0_5 : Bool) (x0_6q : OA) (x0_6n x0_6c : Nat) (x0_7q : OA) (x0_7n x0_7c : Nat) (x0_8 x0_9 x1_0 : Int) (x1_1 x1_2 : BA) (x1_3 : Int) (x1_4 : BA) (x1_5 : Bool) (x1_6q : OA) (x1_6n x1_6c : Nat) (x1_7q : OA) (x1_7n x1_7c : Nat) (x1_8 x1_9 : Int) (w : World) : g_laws_same R x0_0 x0_1 x0_2 x0_3 x0_4 x0_5 x0_6q x0_6n x0_6c x0_7q x0_7n x0_7c x0_8 x0_9 x1_0 x1_1 x1_2 x1_3 x1_4 x1_5 x1_6q x1_6n x1_6c x1_7q x1_7n x1_7c x1_8 x1_9 w = vcA P 102 (ac R) (QF P [.tmp 4] R) (fr0 [(N10.V {a0 := x0_0, a1 := x0_1, a2 := x0_2, a3 := x0_3, a4 := x0_4, a5 := x0_5, q6 := x0_6q, n6 := x0_6n, c6 := x0_6c, q7 := x0_7q, n7 := x0_7n, c7 := x0_7c, a8 := x0_8, a9 := x0_9}), (N10.V {a0 := x1_0, a1 := x1_1, a2 := x1_2, a3 := x1_3, a4 := x1_4, a5 := x1_5, q6 := x1_6q, n6 := x1_6n, c6 := x1_6c, q7 := x1_7q, n7 := x1_7n, c7 := x1_7c, a8 := x1_8, a9 := x1_9})]) w := by kernel_rfl
theorem sound {R : EP} {x0_0 : Int} {x0_1 x0_2 : ByteArray} {x0_3 : Int} {x0_4 : ByteArray} {x0_5 : Bool} {x0_6q : OA} {x0_6n x0_6c : Nat} {x0_7q : OA} {x0_7n x0_7c : Nat} {x0_8 x0_9 x1_0 : Int} {x1_1 x1_2 : ByteArray} {x1_3 : Int} {x1_4 : ByteArray} {x1_5 : Bool} {x1_6q : OA} {x1_6n x1_6c : Nat} {x1_7q : OA} {x1_7n x1_7c : Nat} {x1_8 x1_9 : Int} {w : World} (h : g_laws_same R x0_0 x0_1 x0_2 x0_3 x0_4 x0_5 x0_6q x0_6n x0_6c x0_7q x0_7n x0_7c x0_8 x0_9 x1_0 x1_1 x1_2 x1_3 x1_4 x1_5 x1_6q x1_6n x1_6c x1_7q x1_7n x1_7c x1_8 x1_9 w) : callE P i_laws_same #[(N10.V {a0 := x0_0, a1 := x0_1, a2 := x0_2, a3 := x0_3, a4 := x0_4, a5 := x0_5, q6 := x0_6q, n6 := x0_6n, c6 := x0_6c, q7 := x0_7q, n7 := x0_7n, c7 := x0_7c, a8 := x0_8, a9 := x0_9}), (N10.V {a0 := x1_0, a1 := x1_1, a2 := x1_2, a3 := x1_3, a4 := x1_4, a5 := x1_5, q6 := x1_6q, n6 := x1_6n, c6 := x1_6c, q7 := x1_7q, n7 := x1_7n, c7 := x1_7c, a8 := x1_8, a9 := x1_9})] R w :=
 callE_fz (c := body) Tryz.func19 Tryz.call19 (good R) (eq R x0_0 x0_1 x0_2 x0_3 x0_4 x0_5 x0_6q x0_6n x0_6c x0_7q x0_7n x0_7c x0_8 x0_9 x1_0 x1_1 x1_2 x1_3 x1_4 x1_5 x1_6q x1_6n x1_6c x1_7q x1_7n x1_7c x1_8 x1_9 w) h
end g_laws_same
end Go.Proofs.YtgbgadkldalkbaaGreatDoor

set_option linter.unusedVariables false
namespace Go.Proofs.YtgbgadkldalkbaaGreatDoor
open Go.Proofs Go.IntWalk Go.RowKit
variable {σ : Out} {w : World} {L L' : List Chunk} {R : Ending → World → Prop}
def SameG (u v : N10) (T S : List Chunk) : Prop :=
 ∀ (σ : Out) (R : Ending → World → Prop) (L : List Chunk) (w : World), Sat σ w (T ++ (S ++ L)) → (∀ w, Sat σ w (T ++ (S ++ L)) → R (.returned (.bool true)) w) → callE P i_laws_same #[u.V, v.V] R w
inductive SameGs : List Value → List Value → List Chunk → List Chunk → Prop where
 | nil : SameGs [] [] [] []
 | cons {u v : N10} {us vs : List Value} {T S T' S' : List Chunk} : SameG u v T S → SameGs us vs T' S' → SameGs (u.C.toList ++ us) (v.C.toList ++ vs) (T ++ T') (S ++ S')
theorem same_node {h0 : NH} {q q2 qa qa2 : OA} {n c c2 ca ca2 : Nat} {us vs : List Value} {RM KM RM2 KM2 : List Chunk} (hG : SameGs us vs KM KM2) (hS : Sl 10 ty_spec_Node q n c us RM) (hS2 : Sl 10 ty_spec_Node q2 n c2 vs RM2) (hn : n < 1073741824) :
 SameG (h0.nd qa ca q n c) (h0.nd qa2 ca2 q2 n c2) (RM ++ KM) (RM2 ++ KM2) := by
 intro σ R L w h hR
 refine g_laws_same.sound ?_
 refine Sat.bx h fun b1 w h => ?_
 refine Sat.bx h fun b3 w h => ?_
 have h : Sat σ w ((b3, cel (h0.nd qa2 ca2 q2 n c2).C.toList ty_spec_Node) :: (b1, cel (h0.nd qa ca q n c).C.toList ty_spec_Node) :: ((RM ++ KM) ++ ((RM2 ++ KM2) ++ L))) := h
 have m1 : (b1, cel (h0.nd qa ca q n c).C.toList ty_spec_Node) ∈ ((b3, cel (h0.nd qa2 ca2 q2 n c2).C.toList ty_spec_Node) :: (b1, cel (h0.nd qa ca q n c).C.toList ty_spec_Node) :: ((RM ++ KM) ++ ((RM2 ++ KM2) ++ L))) := .tail _ (.head _)
 have m3 : (b3, cel (h0.nd qa2 ca2 q2 n c2).C.toList ty_spec_Node) ∈ ((b3, cel (h0.nd qa2 ca2 q2 n c2).C.toList ty_spec_Node) :: (b1, cel (h0.nd qa ca q n c).C.toList ty_spec_Node) :: ((RM ++ KM) ++ ((RM2 ++ KM2) ++ L))) := .head _
 refine ⟨_, Sat.ld h m1 (i := 0) rfl, _, Sat.ld h m3 (i := 0) rfl, br_false (by simp) ?_⟩
 refine ⟨_, Sat.ld h m1 (i := 1) rfl, _, Sat.ld h m3 (i := 1) rfl, br_false (by simp) ?_⟩
 refine ⟨_, Sat.ld h m1 (i := 2) rfl, _, Sat.ld h m3 (i := 2) rfl, br_false (by simp) ?_⟩
 refine ⟨_, Sat.ld h m1 (i := 3) rfl, _, Sat.ld h m3 (i := 3) rfl, br_false (by simp) ?_⟩
 refine ⟨_, Sat.ld h m1 (i := 4) rfl, _, Sat.ld h m3 (i := 4) rfl, br_false (by simp) ?_⟩
 refine ⟨_, Sat.ld h m1 (i := 5) rfl, _, Sat.ld h m3 (i := 5) rfl, br_false (by simp) ?_⟩
 refine ⟨_, _, _, Sat.ld h m1 (i := 6) rfl, _, _, _, Sat.ld h m3 (i := 6) rfl, br_false (by simp) ?_⟩
 refine ⟨_, _, _, Sat.ld h m1 (i := 7) rfl, _, _, _, Sat.ld h m3 (i := 7) rfl, br_false (by simp) ?_⟩
 refine ⟨_, _, _, Sat.ld h m1 (i := 6) rfl, ?_⟩
 intro Y hY
 refine hY _ _ _ _ _ (br_false rfl ⟨_, _, _, Sat.ld h m1 (i := 7) rfl, ?_⟩)
 intro X hX
 have hl := hS.1
 have hl2 := hS2.1
 have key : ∀ (us2 vs2 : List Value) (K K2 : List Chunk), SameGs us2 vs2 K K2 → ∀ (us1 vs1 : List Value) (D D2 : List Chunk) (j : Nat) w, us1 ++ us2 = us → vs1 ++ vs2 = vs → us1.length = j * 10 → vs1.length = j * 10 →
  Sat σ w ((b3, cel (h0.nd qa2 ca2 q2 n c2).C.toList ty_spec_Node) :: (b1, cel (h0.nd qa ca q n c).C.toList ty_spec_Node) :: (RM ++ (RM2 ++ ((D ++ K) ++ ((D2 ++ K2) ++ L))))) →
  (∀ w, Sat σ w ((b3, cel (h0.nd qa2 ca2 q2 n c2).C.toList ty_spec_Node) :: (b1, cel (h0.nd qa ca q n c).C.toList ty_spec_Node) :: (RM ++ (RM2 ++ ((D ++ K) ++ ((D2 ++ K2) ++ L))))) → R (.returned (.bool true)) w) → X b1 b3 (n : Int) (j : Nat) w := by
  intro us2 vs2 K K2 hG
  induction hG with
  | nil =>
   intro us1 vs1 D D2 j w hu hv h1 h2 h hR
   have : j = n := by rw [← hu] at hl; simp at hl; omega
   exact hX _ _ _ _ _ (br_false (by simp; omega) (hR w h))
  | @cons u v us2 vs2 T S T' S' g1 g2 ih =>
   intro us1 vs1 D D2 j w hu hv h1 h2 h hR
   have hul : u.C.toList.length = 10 := rfl
   have hjn : j < n := by rw [← hu] at hl; simp only [List.length_append, hul] at hl; omega
   refine hX _ _ _ _ _ (br_true (by simp; omega) (h.tk fun w h => ?_))
   refine ⟨_, _, _, Sat.ld h (.tail _ (.head _)) (i := 7) rfl, by omega, by show (j : Int) < (n : Int); omega, ?_⟩
   have hSa := hS
   obtain ⟨_, _, ⟨rfl, hz, _, _⟩ | ⟨rb, sp, rfl, rfl, hsp⟩⟩ := hSa
   ·omega
   have hSb := hS2
   obtain ⟨_, _, ⟨rfl, hz, _, _⟩ | ⟨rb2, sp2, rfl, rfl, hsp2⟩⟩ := hSb
   ·omega
   refine nilP_some ?_
   simp only [Addr.add_lit, Int.toNat_natCast, Nat.zero_add]
   have e1 : us ++ sp = us1 ++ (u.C.toList ++ (us2 ++ sp)) := by rw [← hu]; simp only [List.append_assoc]
   have e2 : vs ++ sp2 = vs1 ++ (v.C.toList ++ (vs2 ++ sp2)) := by rw [← hv]; simp only [List.append_assoc]
   refine Sat.ldA10 h u (b := rb) (pre := us1) (suf := us2 ++ sp) (e := ty_spec_Node) (by rw [← e1]; simp) h1 ?_
   refine ⟨_, _, _, Sat.ld h (.head _) (i := 7) rfl, by omega, by show (j : Int) < (n : Int); omega, nilP_some ?_⟩
   simp only [Addr.add_lit, Int.toNat_natCast, Nat.zero_add]
   refine Sat.ldA10 h v (b := rb2) (pre := vs1) (suf := vs2 ++ sp2) (e := ty_spec_Node) (by rw [← e2]; simp) h2 ?_
   generalize hb3 : ((b3, cel (h0.nd qa2 ca2 (some ⟨rb2, 0, none⟩) n c2).C.toList ty_spec_Node) : Chunk) = k3 at h hR ih ⊢
   generalize hb1 : ((b1, cel (h0.nd qa ca (some ⟨rb, 0, none⟩) n c).C.toList ty_spec_Node) : Chunk) = k1 at h hR ih ⊢
   have h : Sat σ w (T ++ (S ++ (k3 :: k1 :: ([(rb, cel (us ++ sp) ty_spec_Node)] ++ ([(rb2, cel (vs ++ sp2) ty_spec_Node)] ++ ((D ++ T') ++ ((D2 ++ S') ++ L))))))) := h.re
   refine g1 σ _ _ w h fun w h => ⟨_, rfl, br_false rfl ?_⟩
   rw [i64_inc (by omega)]
   refine ih (us1 ++ u.C.toList) (vs1 ++ v.C.toList) (D ++ T) (D2 ++ S) (j + 1) w (by rw [← hu]; simp only [List.append_assoc]) (by rw [← hv]; simp only [List.append_assoc]) (by rw [List.length_append, h1, Nat.succ_mul]; rfl) (by rw [List.length_append, h2, Nat.succ_mul]; rfl) h.re (fun w h => hR w h.re)
 exact key us vs KM KM2 hG [] [] [] [] 0 w rfl rfl rfl rfl h.re (fun w h => hR w (Sat.less [(b3, cel (h0.nd qa2 ca2 q2 n c2).C.toList ty_spec_Node), (b1, cel (h0.nd qa ca q n c).C.toList ty_spec_Node)] h))
theorem sameGs {xs : List ND} {us : List Value} {M : List Chunk} (h : NDs xs us M) : ∀ {vs : List Value} {N : List Chunk}, NDs xs vs N → SameGs us vs M N := by
 induction h with
 | nil => intro vs N h2; cases h2; exact .nil
 | @cons h0 ks xs qa ca q n c us us' RM KM XM a1 a2 a3 a4 ih1 ih2 =>
  intro vs N h2
  cases h2 with
  | @cons _ _ _ qa2 ca2 q2 n2 c2 vs vs' RM2 KM2 XM2 b1 b2 b3 b4 =>
   have e : n2 = n := by have i1 := a2.len; have i2 := b2.len; have i3 := a3.1; have i4 := b3.1; omega
   subst e
   exact .cons (same_node (ih1 b2) a3 b3 a1) (ih2 b4)
theorem same_ok {x : ND} {u v : N10} {M N : List Chunk} (hu : NodeDt x u M) (hv : NodeDt x v N) (h : Sat σ w (M ++ (N ++ L))) (hR : ∀ w, Sat σ w (M ++ (N ++ L)) → R (.returned (.bool true)) w) : callE P i_laws_same #[u.V, v.V] R w := by
 obtain ⟨h0, ks, qa, ca, q, n, c, us, RM, KM, rfl, rfl, rfl, a1, a2, a3⟩ := hu
 obtain ⟨h1, ks1, qa2, ca2, q2, n2, c2, vs, RM2, KM2, e, rfl, rfl, b1, b2, b3⟩ := hv
 obtain ⟨rfl, rfl⟩ := ND.mk.inj e
 have e : n2 = n := by have i1 := a2.len; have i2 := b2.len; have i3 := a3.1; have i4 := b3.1; omega
 subst e
 exact same_node (sameGs a2 b2) a3 b3 a1 σ R L w h hR
end Go.Proofs.YtgbgadkldalkbaaGreatDoor


set_option linter.unusedVariables false
set_option maxRecDepth 20000
namespace Go.Proofs.YtgbgadkldalkbaaGreatDoor
open Go.Proofs
namespace g_hasEndPre
noncomputable def body : Code := bodyOf Tryz.f234
def k5 (R : EP) (Xa : BA → Int → WP) (x0 : BA) (x3 : Int) (x4q : OA) (x4n x4c : Nat) (x74 : Bool) (w : World) : Prop :=
 br x74
 (∃ (r3 : BA), ∃ w4, (convert ty_S_uint8 ty_string (.slice x4q x4n x4c)).run P w = .ok (.string r3) w4 ∧
 br (r3.toList == (ByteArray.mk #[112, 114, 101]).toList)
 (R (.returned (.bool true)) w4)
 (br (r3.toList == (ByteArray.mk #[115, 99, 114, 105, 112, 116]).toList)
 (R (.returned (.bool true)) w4)
 (br (r3.toList == (ByteArray.mk #[115, 116, 121, 108, 101]).toList)
 (R (.returned (.bool true)) w4)
 (br (r3.toList == (ByteArray.mk #[116, 101, 120, 116, 97, 114, 101, 97]).toList)
 (R (.returned (.bool true)) w4)
 (Xa x0 (IntKind.i64.wrap (x3 + 1)) w4)))))
 (Xa x0 (IntKind.i64.wrap (x3 + 1)) w)

def k6 (R : EP) (Xa : BA → Int → WP) (Xb : BA → Int → OA → Nat → Nat → WP) (x0 : BA) (x3 : Int) (x4q : OA) (x4n x4c : Nat) (x5 : Int) (w : World) : Prop :=
 ∃ (r5q : OA), ∃ (r5n : Nat), ∃ (r5c : Nat), ∃ w6, (Instr.buildSlice ty_S_uint8 1 #[(0, .int .u8 x5)]).run P w = .ok (.slice r5q r5n r5c) w6 ∧
 ∃ (r7q : OA), ∃ (r7n : Nat), ∃ (r7c : Nat), ∃ w8, (Builtin.append_ #[ty_S_uint8, ty_S_uint8] ty_S_uint8 #[.slice x4q x4n x4c, .slice r5q r5n r5c]).run P w6 = .ok (.slice r7q r7n r7c) w8 ∧
 Xb x0 (IntKind.i64.wrap (x3 + 1)) r7q r7n r7c w8

def k3 (R : EP) (Xa : BA → Int → WP) (x0 : BA) (x3 : Int) (x4q : OA) (x4n x4c : Nat) (w : World) : Prop :=
 ((decide (x3 < (x0.size : Int))) = true → 0 ≤ x3 ∧ x3 < (x0.size : Int)) ∧
 k5 R Xa x0 x3 x4q x4n x4c ((decide (x3 < (x0.size : Int))) && ((bt x0 x3) == 62)) w

def k4 (R : EP) (Xa : BA → Int → WP) (Xb : BA → Int → OA → Nat → Nat → WP) (x0 : BA) (x3 : Int) (x4q : OA) (x4n x4c : Nat) (x5 : Int) (w : World) : Prop :=
 br ((decide (x5 < 97)) || (decide (122 < x5)))
 (k3 R Xa x0 x3 x4q x4n x4c w)
 (k6 R Xa Xb x0 x3 x4q x4n x4c x5 w)

def k2 (R : EP) (Xa : BA → Int → WP) (Xb : BA → Int → OA → Nat → Nat → WP) (x0 : BA) (x3 : Int) (x4q : OA) (x4n x4c : Nat) (w : World) : Prop :=
 0 ≤ x3 ∧ x3 < (x0.size : Int) ∧
 br ((decide (65 ≤ (bt x0 x3))) && (decide ((bt x0 x3) ≤ 90)))
 (k4 R Xa Xb x0 x3 x4q x4n x4c (IntKind.u8.wrap ((bt x0 x3) + 32)) w)
 (k4 R Xa Xb x0 x3 x4q x4n x4c (bt x0 x3) w)

def bl2 (R : EP) (Xa : BA → Int → WP) (Xb : BA → Int → OA → Nat → Nat → WP) (x0 : BA) (x3 : Int) (x4q : OA) (x4n x4c : Nat) (w : World) : Prop :=
 br ((decide (x3 < (x0.size : Int))) && (decide ((x4n : Int) < 8)))
 (k2 R Xa Xb x0 x3 x4q x4n x4c w)
 (k3 R Xa x0 x3 x4q x4n x4c w)
def l2 (R : EP) (Xa : BA → Int → WP) (x0 : BA) (x3 : Int) (x4q : OA) (x4n x4c : Nat) (w : World) : Prop :=
 ∀ X : BA → Int → OA → Nat → Nat → WP, (∀ x0 x3 x4q x4n x4c w, bl2 R Xa X x0 x3 x4q x4n x4c w → X x0 x3 x4q x4n x4c w) → X x0 x3 x4q x4n x4c w

noncomputable def al2 (R : EP) (Xa : BA → Int → WP) (Xb : BA → Int → OA → Nat → Nat → WP) : AC :=
 (.seq (.leaf (sel [1,0,1,0,0,1,0,0,1,0,1,0,1,0,0,0] body)) (.mark (leaf [(0, .s .str), (3, .s (.int .i64)), (4, .s .slice)] (k2 R Xa Xb)) (.seq (.block 3 (.seq (.leaf (sel [1,0,1,0,0,1,0,0,1,0,1,0,1,0,0,1,0,0,0] body)) (.seq (.leaf (sel [1,0,1,0,0,1,0,0,1,0,1,0,1,0,0,1,0,0,1,0] body)) (.mark (leaf [(0, .s .str), (3, .s (.int .i64)), (4, .s .slice), (5, .s (.int .u8))] (k4 R Xa Xb)) (.seq (.leaf (sel [1,0,1,0,0,1,0,0,1,0,1,0,1,0,0,1,0,0,1,1,0] body)) (.mark (leaf [(0, .s .str), (3, .s (.int .i64)), (4, .s .slice), (5, .s (.int .u8))] (k6 R Xa Xb)) (.leaf (sel [1,0,1,0,0,1,0,0,1,0,1,0,1,0,0,1,0,0,1,1,1] body)))))))) (.leaf (sel [1,0,1,0,0,1,0,0,1,0,1,0,1,0,0,1,1] body)))))
def k1 (R : EP) (Xa : BA → Int → WP) (x0 : BA) (x3 : Int) (x29 : Bool) (w : World) : Prop :=
 br x29
 (∃ (r1q : OA), ∃ (r1n : Nat), ∃ (r1c : Nat), ∃ w2, (Instr.makeSlice ty_S_uint8 (.int .i64 0) (.int .i64 8)).run P w = .ok (.slice r1q r1n r1c) w2 ∧
 l2 R Xa x0 (IntKind.i64.wrap (x3 + 2)) r1q r1n r1c w2)
 (Xa x0 (IntKind.i64.wrap (x3 + 1)) w)

def bl1 (R : EP) (Xa : BA → Int → WP) (x0 : BA) (x3 : Int) (w : World) : Prop :=
 br (decide (x3 < (x0.size : Int)))
 (0 ≤ x3 ∧ x3 < (x0.size : Int) ∧
 ((((bt x0 x3) == 60) && (decide ((IntKind.i64.wrap (x3 + 1)) < (x0.size : Int)))) = true → 0 ≤ (IntKind.i64.wrap (x3 + 1)) ∧ (IntKind.i64.wrap (x3 + 1)) < (x0.size : Int)) ∧
 k1 R Xa x0 x3 ((((bt x0 x3) == 60) && (decide ((IntKind.i64.wrap (x3 + 1)) < (x0.size : Int)))) && ((bt x0 (IntKind.i64.wrap (x3 + 1))) == 47)) w)
 (R (.returned (.bool false)) w)
def l1 (R : EP) (x0 : BA) (x3 : Int) (w : World) : Prop :=
 ∀ X : BA → Int → WP, (∀ x0 x3 w, bl1 R X x0 x3 w → X x0 x3 w) → X x0 x3 w

noncomputable def al1 (R : EP) (Xa : BA → Int → WP) : AC :=
 (.seq (.leaf (sel [1,0,1,0,0,0] body)) (.seq (.block 1 (.seq (.leaf (sel [1,0,1,0,0,1,0,0,0] body)) (.mark (leaf [(0, .s .str), (3, .s (.int .i64)), (29, .s .bool)] (k1 R Xa)) (.cond 29 (.seq (.leaf (sel [1,0,1,0,0,1,0,0,1,0,0] body)) (.seq (.seq (.leaf (sel [1,0,1,0,0,1,0,0,1,0,1,0,0] body)) (.block 2 (.loop (leaf [(0, .s .str), (3, .s (.int .i64)), (4, .s .slice)] (l2 R Xa)) (sel [1,0,1,0,0,1,0,0,1,0,1,0,1,0,0] body)))) (.mark (leaf [(0, .s .str), (3, .s (.int .i64)), (4, .s .slice)] (k3 R Xa)) (.seq (.leaf (sel [1,0,1,0,0,1,0,0,1,0,1,1,0] body)) (.mark (leaf [(0, .s .str), (3, .s (.int .i64)), (4, .s .slice), (74, .s .bool)] (k5 R Xa)) (.leaf (sel [1,0,1,0,0,1,0,0,1,0,1,1,1] body))))))) (.leaf (sel [1,0,1,0,0,1,0,0,1,1] body)))))) (.leaf (sel [1,0,1,0,0,1,1] body))))
end g_hasEndPre
def g_hasEndPre (R : EP) (x0 : BA) (w : World) : Prop :=
 g_hasEndPre.l1 R x0 0 w

namespace g_hasEndPre
noncomputable def ac (R : EP) : AC :=
 (.seq (.leaf (sel [0] body)) (.seq (.seq (.leaf (sel [1,0,0] body)) (.block 0 (.loop (leaf [(0, .s .str), (3, .s (.int .i64))] (l1 R)) (sel [1,0,1,0,0] body)))) (.leaf (sel [1,1] body))))
theorem good (R : EP) : Good P 82 (ac R) (QF P [.tmp 2] R) :=
 ⟨trivial, ⟨⟨trivial, (loopG (al1 R) (bl1 R) (fun _ => by kernel_rfl) (fun Xa => ⟨trivial, ⟨⟨trivial, ⟨⟨⟨trivial, ⟨⟨trivial, (loopG (al2 R Xa) (bl2 R Xa) (fun _ => by kernel_rfl) (fun Xb => ⟨trivial, ⟨⟨⟨trivial, ⟨trivial, ⟨⟨trivial, ⟨trivial, cutZ⟩⟩, cutZ⟩⟩⟩, trivial⟩, cutZ⟩⟩) (fun Xb => by intro x0 x3 x4q x4n x4c ρ w; kernel_rfl) (fun X h _ _ _ _ _ _ g => g X h))⟩, ⟨⟨trivial, ⟨trivial, cutZ⟩⟩, cutZ⟩⟩⟩, trivial⟩, cutZ⟩⟩, trivial⟩⟩) (fun Xa => by intro x0 x3 ρ w; kernel_rfl) (fun X h _ _ _ g => g X h))⟩, trivial⟩⟩
theorem eq (R : EP) (x0 : BA) (w : World) : g_hasEndPre R x0 w = vcA P 82 (ac R) (QF P [.tmp 2] R) (fr0 [.string x0]) w := by kernel_rfl
theorem sound {R : EP} {x0 : ByteArray} {w : World} (h : g_hasEndPre R x0 w) : callE P i_hasEndPre #[.string x0] R w :=
 callE_fz (c := body) Tryz.func234 Tryz.call234 (good R) (eq R x0 w) h
end g_hasEndPre
namespace g_parseAttr
noncomputable def body : Code := bodyOf Tryz.f240
def k1 (R : EP) (x1 : BA) (x2 x10 : Int) (w : World) : Prop :=
 0 ≤ x2 ∧ x2 ≤ x10 ∧ x10 ≤ (x1.size : Int) ∧
 R (.returned (.tuple #[.string (x1.extract (Int.toNat x2) (Int.toNat x10)), .int .i64 x10, .bool true])) w

end g_parseAttr
def g_parseAttr (R : EP) (x0 : OA) (x1 : BA) (x2 : Int) (w : World) : Prop :=
 callE P i_skipSpace #[.string x1, .int .i64 x2] (fun e w2 => ∃ (r1 : Int), e = .returned (.int .i64 r1) ∧
 callE P i_parseAttrName #[.string x1, .int .i64 r1] (fun e w4 => ∃ (r3_0 : BA), ∃ (r3_1 : Int), ∃ (r3_2 : Bool), e = .returned (.tuple #[.string r3_0, .int .i64 r3_1, .bool r3_2]) ∧
 br r3_2
 (callE P i_parseAttrValueSpec #[.pointer x0, .string x1, .int .i64 r3_1] (fun e w6 => ∃ (r5_0 : BA), ∃ (r5_1 : Int), ∃ (r5_2 : Bool), e = .returned (.tuple #[.string r5_0, .int .i64 r5_1, .bool r5_2]) ∧
 br r5_2
 (g_parseAttr.k1 R x1 r1 r5_1 w6)
 (g_parseAttr.k1 R x1 r1 r3_1 w6)) w4)
 (R (.returned (.tuple #[.string (ByteArray.mk #[]), .int .i64 0, .bool false])) w4)) w2) w

namespace g_parseAttr
noncomputable def ac (R : EP) : AC :=
 (.seq (.leaf (sel [0] body)) (.seq (.leaf (sel [1,0] body)) (.seq (.seq (.leaf (sel [1,1,0,0] body)) (.seq (.leaf (sel [1,1,0,1,0] body)) (.cond 25 (.seq (.leaf (sel [1,1,0,1,1,0,0] body)) (.mark (leaf [(1, .s .str), (2, .s (.int .i64)), (10, .s (.int .i64))] (k1 R)) (.leaf (sel [1,1,0,1,1,0,1] body)))) (.leaf (sel [1,1,0,1,1,1] body))))) (.leaf (sel [1,1,1] body)))))
theorem good (R : EP) : Good P 41 (ac R) (QF P [.tmp 6, .tmp 7, .tmp 8] R) :=
 ⟨trivial, ⟨trivial, ⟨⟨trivial, ⟨trivial, ⟨⟨trivial, ⟨trivial, cutZ⟩⟩, trivial⟩⟩⟩, trivial⟩⟩⟩
theorem eq (R : EP) (x0 : OA) (x1 : BA) (x2 : Int) (w : World) : g_parseAttr R x0 x1 x2 w = vcA P 41 (ac R) (QF P [.tmp 6, .tmp 7, .tmp 8] R) (fr0 [.pointer x0, .string x1, .int .i64 x2]) w := by kernel_rfl
theorem sound {R : EP} {x0 : OA} {x1 : ByteArray} {x2 : Int} {w : World} (h : g_parseAttr R x0 x1 x2 w) : callE P i_parseAttr #[.pointer x0, .string x1, .int .i64 x2] R w :=
 callE_fz (c := body) Tryz.func240 Tryz.call240 (good R) (eq R x0 x1 x2 w) h
end g_parseAttr
namespace g_parseAttrName
noncomputable def body : Code := bodyOf Tryz.f254
def k2 (R : EP) (x0 : BA) (x1 x7 : Int) (w : World) : Prop :=
 0 ≤ x1 ∧ x1 ≤ x7 ∧ x7 ≤ (x0.size : Int) ∧
 R (.returned (.tuple #[.string (x0.extract (Int.toNat x1) (Int.toNat x7)), .int .i64 x7, .bool true])) w

def bl1 (R : EP) (Xa : BA → Int → Int → WP) (x0 : BA) (x1 x7 : Int) (w : World) : Prop :=
 ((decide (x7 < (x0.size : Int))) = true → 0 ≤ x7 ∧ x7 < (x0.size : Int)) ∧
 br (decide (x7 < (x0.size : Int)))
 (callE P i_isLDH #[.int .u8 (bt x0 x7)] (fun e w4 => ∃ (r3 : Bool), e = .returned (.bool r3) ∧
 ((true && (!r3)) = true → 0 ≤ x7 ∧ x7 < (x0.size : Int)) ∧
 ((true && (!(r3 || ((bt x0 x7) == 95)))) = true → 0 ≤ x7 ∧ x7 < (x0.size : Int)) ∧
 ((true && (!((r3 || ((bt x0 x7) == 95)) || ((bt x0 x7) == 46)))) = true → 0 ≤ x7 ∧ x7 < (x0.size : Int)) ∧
 br (((r3 || ((bt x0 x7) == 95)) || ((bt x0 x7) == 46)) || ((bt x0 x7) == 58))
 (Xa x0 x1 (IntKind.i64.wrap (x7 + 1)) w4)
 (k2 R x0 x1 x7 w4)) w)
 (((false && false) = true → 0 ≤ x7 ∧ x7 < (x0.size : Int)) ∧
 ((false && false) = true → 0 ≤ x7 ∧ x7 < (x0.size : Int)) ∧
 ((false && false) = true → 0 ≤ x7 ∧ x7 < (x0.size : Int)) ∧
 k2 R x0 x1 x7 w)
def l1 (R : EP) (x0 : BA) (x1 x7 : Int) (w : World) : Prop :=
 ∀ X : BA → Int → Int → WP, (∀ x0 x1 x7 w, bl1 R X x0 x1 x7 w → X x0 x1 x7 w) → X x0 x1 x7 w

noncomputable def al1 (R : EP) (Xa : BA → Int → Int → WP) : AC :=
 (.leaf (sel [1,0,1,0,1,0,0,0] body))
def k1 (R : EP) (x0 : BA) (x1 : Int) (x30 : Bool) (w : World) : Prop :=
 br x30
 (l1 R x0 x1 (IntKind.i64.wrap (x1 + 1)) w)
 (R (.returned (.tuple #[.string (ByteArray.mk #[]), .int .i64 0, .bool false])) w)

end g_parseAttrName
def g_parseAttrName (R : EP) (x0 : BA) (x1 : Int) (w : World) : Prop :=
 ((decide ((IntKind.i64.wrap (x1 + 1)) < (x0.size : Int))) = true → 0 ≤ x1 ∧ x1 < (x0.size : Int)) ∧
 br (decide ((IntKind.i64.wrap (x1 + 1)) < (x0.size : Int)))
 (callE P i_isLetter #[.int .u8 (bt x0 x1)] (fun e w2 => ∃ (r1 : Bool), e = .returned (.bool r1) ∧
 ((true && (!r1)) = true → 0 ≤ x1 ∧ x1 < (x0.size : Int)) ∧
 ((true && (!(r1 || ((bt x0 x1) == 95)))) = true → 0 ≤ x1 ∧ x1 < (x0.size : Int)) ∧
 g_parseAttrName.k1 R x0 x1 ((r1 || ((bt x0 x1) == 95)) || ((bt x0 x1) == 58)) w2) w)
 (((false && false) = true → 0 ≤ x1 ∧ x1 < (x0.size : Int)) ∧
 ((false && false) = true → 0 ≤ x1 ∧ x1 < (x0.size : Int)) ∧
 g_parseAttrName.k1 R x0 x1 false w)

namespace g_parseAttrName
noncomputable def ac (R : EP) : AC :=
 (.seq (.leaf (sel [0] body)) (.seq (.seq (.leaf (sel [1,0,0] body)) (.mark (leaf [(0, .s .str), (1, .s (.int .i64)), (30, .s .bool)] (k1 R)) (.cond 30 (.seq (.leaf (sel [1,0,1,0,0] body)) (.seq (.block 0 (.loop (leaf [(0, .s .str), (1, .s (.int .i64)), (7, .s (.int .i64))] (l1 R)) (sel [1,0,1,0,1,0,0,0] body))) (.mark (leaf [(0, .s .str), (1, .s (.int .i64)), (7, .s (.int .i64))] (k2 R)) (.leaf (sel [1,0,1,0,1,1] body))))) (.leaf (sel [1,0,1,1] body))))) (.leaf (sel [1,1] body))))
theorem good (R : EP) : Good P 68 (ac R) (QF P [.tmp 4, .tmp 5, .tmp 6] R) :=
 ⟨trivial, ⟨⟨trivial, ⟨⟨⟨trivial, ⟨(loopG (al1 R) (bl1 R) (fun _ => by kernel_rfl) (fun Xa => trivial) (fun Xa => by intro x0 x1 x7 ρ w; kernel_rfl) (fun X h _ _ _ _ g => g X h)), ⟨trivial, cutZ⟩⟩⟩, trivial⟩, cutZ⟩⟩, trivial⟩⟩
theorem eq (R : EP) (x0 : BA) (x1 : Int) (w : World) : g_parseAttrName R x0 x1 w = vcA P 68 (ac R) (QF P [.tmp 4, .tmp 5, .tmp 6] R) (fr0 [.string x0, .int .i64 x1]) w := by kernel_rfl
theorem sound {R : EP} {x0 : ByteArray} {x1 : Int} {w : World} (h : g_parseAttrName R x0 x1 w) : callE P i_parseAttrName #[.string x0, .int .i64 x1] R w :=
 callE_fz (c := body) Tryz.func254 Tryz.call254 (good R) (eq R x0 x1 w) h
end g_parseAttrName
namespace g_parseHTMLOpenTag
noncomputable def body : Code := bodyOf Tryz.f201
def k7 (R : EP) (x1 : BA) (x2 x10 : Int) (x120 : Bool) (w : World) : Prop :=
 br x120
 (0 ≤ x2 ∧ x2 ≤ (IntKind.i64.wrap (x10 + 1)) ∧ (IntKind.i64.wrap (x10 + 1)) ≤ (x1.size : Int) ∧
 box w #[.string (x1.extract (Int.toNat x2) (Int.toNat (IntKind.i64.wrap (x10 + 1))))] ty_HTMLTag fun b11 w12 =>
 R (.returned (.tuple #[.iface ty_P_HTMLTag (.pointer (some ⟨b11, 0, none⟩)), .int .i64 (IntKind.i64.wrap (x10 + 1)), .bool true])) w12)
 (R (.returned (.tuple #[.nilIface, .int .i64 0, .bool false])) w)

def k6 (R : EP) (x1 : BA) (x2 x10 : Int) (w : World) : Prop :=
 ((decide (x10 < (x1.size : Int))) = true → 0 ≤ x10 ∧ x10 < (x1.size : Int)) ∧
 k7 R x1 x2 x10 ((decide (x10 < (x1.size : Int))) && ((bt x1 x10) == 62)) w

def k5 (R : EP) (x1 : BA) (x2 x15 : Int) (w : World) : Prop :=
 ((decide (x15 < (x1.size : Int))) = true → 0 ≤ x15 ∧ x15 < (x1.size : Int)) ∧
 br ((decide (x15 < (x1.size : Int))) && ((bt x1 x15) == 47))
 (k6 R x1 x2 (IntKind.i64.wrap (x15 + 1)) w)
 (k6 R x1 x2 x15 w)

def k4 (R : EP) (Xa : OA → BA → Int → Int → WP) (x0 : OA) (x1 : BA) (x2 x10 : Int) (w : World) : Prop :=
 callE P i_parseAttr #[.pointer x0, .string x1, .int .i64 x10] (fun e w6 => ∃ (r5_0 : BA), ∃ (r5_1 : Int), ∃ (r5_2 : Bool), e = .returned (.tuple #[.string r5_0, .int .i64 r5_1, .bool r5_2]) ∧
 br (!r5_2)
 (callE P i_skipSpace #[.string x1, .int .i64 x10] (fun e w8 => ∃ (r7 : Int), e = .returned (.int .i64 r7) ∧
 br (r7 != x10)
 (nilP x0 fun a9 =>
 stV w8 ((a9.add 6).add 0) (.bool true) fun w10 =>
 k5 R x1 x2 r7 w10)
 (k5 R x1 x2 r7 w8)) w6)
 (Xa x0 x1 x2 r5_1 w6)) w

def bl1 (R : EP) (Xa : OA → BA → Int → Int → WP) (x0 : OA) (x1 : BA) (x2 x10 : Int) (w : World) : Prop :=
 ((!(decide (x10 ≥ (x1.size : Int)))) = true → 0 ≤ x10 ∧ x10 < (x1.size : Int)) ∧
 (((!(decide (x10 ≥ (x1.size : Int)))) && ((bt x1 x10) != 32)) = true → 0 ≤ x10 ∧ x10 < (x1.size : Int)) ∧
 (((!(decide (x10 ≥ (x1.size : Int)))) && (((bt x1 x10) != 32) && ((bt x1 x10) != 9))) = true → 0 ≤ x10 ∧ x10 < (x1.size : Int)) ∧
 (((!(decide (x10 ≥ (x1.size : Int)))) && ((((bt x1 x10) != 32) && ((bt x1 x10) != 9)) && ((bt x1 x10) != 10))) = true → 0 ≤ x10 ∧ x10 < (x1.size : Int)) ∧
 (((!(decide (x10 ≥ (x1.size : Int)))) && (((((bt x1 x10) != 32) && ((bt x1 x10) != 9)) && ((bt x1 x10) != 10)) && ((bt x1 x10) != 47))) = true → 0 ≤ x10 ∧ x10 < (x1.size : Int)) ∧
 br ((decide (x10 ≥ (x1.size : Int))) || ((((((bt x1 x10) != 32) && ((bt x1 x10) != 9)) && ((bt x1 x10) != 10)) && ((bt x1 x10) != 47)) && ((bt x1 x10) != 62)))
 (R (.returned (.tuple #[.nilIface, .int .i64 0, .bool false])) w)
 (k4 R Xa x0 x1 x2 x10 w)
def l1 (R : EP) (x0 : OA) (x1 : BA) (x2 x10 : Int) (w : World) : Prop :=
 ∀ X : OA → BA → Int → Int → WP, (∀ x0 x1 x2 x10 w, bl1 R X x0 x1 x2 x10 w → X x0 x1 x2 x10 w) → X x0 x1 x2 x10 w

noncomputable def al1 (R : EP) (Xa : OA → BA → Int → Int → WP) : AC :=
 (.block 2 (.seq (.leaf (sel [1,1,0,1,1,0,1,0,0,0,0,0] body)) (.mark (leaf [(0, .s .ptr), (1, .s .str), (2, .s (.int .i64)), (10, .s (.int .i64))] (k4 R Xa)) (.leaf (sel [1,1,0,1,1,0,1,0,0,0,0,1] body)))))
def k3 (R : EP) (x0 : OA) (x1 : BA) (x2 x10 : Int) (w : World) : Prop :=
 l1 R x0 x1 x2 x10 w

def k2 (R : EP) (x0 : OA) (x1 : BA) (x2 x10 : Int) (x36 : Bool) (w : World) : Prop :=
 br x36
 (nilP x0 fun a3 =>
 stV w ((a3.add 6).add 0) (.bool true) fun w4 =>
 k3 R x0 x1 x2 x10 w4)
 (k3 R x0 x1 x2 x10 w)

def k1 (R : EP) (x0 : OA) (x1 : BA) (x2 : Int) (w : World) : Prop :=
 callE P i_parseTagName #[.string x1, .int .i64 (IntKind.i64.wrap (x2 + 1))] (fun e w2 => ∃ (r1_0 : BA), ∃ (r1_1 : Int), ∃ (r1_2 : Bool), e = .returned (.tuple #[.string r1_0, .int .i64 r1_1, .bool r1_2]) ∧
 br r1_2
 (br (r1_0.toList == (ByteArray.mk #[112, 114, 101]).toList)
 (k2 R x0 x1 x2 r1_1 true w2)
 (br (r1_0.toList == (ByteArray.mk #[115, 99, 114, 105, 112, 116]).toList)
 (k2 R x0 x1 x2 r1_1 true w2)
 (br (r1_0.toList == (ByteArray.mk #[115, 116, 121, 108, 101]).toList)
 (k2 R x0 x1 x2 r1_1 true w2)
 (k2 R x0 x1 x2 r1_1 (r1_0.toList == (ByteArray.mk #[116, 101, 120, 116, 97, 114, 101, 97]).toList) w2))))
 (R (.returned (.tuple #[.nilIface, .int .i64 0, .bool false])) w2)) w

end g_parseHTMLOpenTag
def g_parseHTMLOpenTag (R : EP) (x0 : OA) (x1 : BA) (x2 : Int) (w : World) : Prop :=
 ((!(decide (x2 ≥ (x1.size : Int)))) = true → 0 ≤ x2 ∧ x2 < (x1.size : Int)) ∧
 br ((decide (x2 ≥ (x1.size : Int))) || ((bt x1 x2) != 60))
 (R (.returned (.tuple #[.nilIface, .int .i64 0, .bool false])) w)
 (g_parseHTMLOpenTag.k1 R x0 x1 x2 w)

namespace g_parseHTMLOpenTag
noncomputable def ac (R : EP) : AC :=
 (.seq (.leaf (sel [0] body)) (.seq (.leaf (sel [1,0] body)) (.mark (leaf [(0, .s .ptr), (1, .s .str), (2, .s (.int .i64))] (k1 R)) (.seq (.seq (.leaf (sel [1,1,0,0] body)) (.seq (.leaf (sel [1,1,0,1,0] body)) (.cond 34 (.seq (.seq (.leaf (sel [1,1,0,1,1,0,0,0] body)) (.block 0 (.seq (.leaf (sel [1,1,0,1,1,0,0,1,0,0] body)) (.mark (leaf [(0, .s .ptr), (1, .s .str), (2, .s (.int .i64)), (10, .s (.int .i64)), (36, .s .bool)] (k2 R)) (.leaf (sel [1,1,0,1,1,0,0,1,0,1] body)))))) (.mark (leaf [(0, .s .ptr), (1, .s .str), (2, .s (.int .i64)), (10, .s (.int .i64))] (k3 R)) (.seq (.block 1 (.loop (leaf [(0, .s .ptr), (1, .s .str), (2, .s (.int .i64)), (10, .s (.int .i64))] (l1 R)) (sel [1,1,0,1,1,0,1,0,0,0] body))) (.seq (.leaf (sel [1,1,0,1,1,0,1,1,0] body)) (.seq (.leaf (sel [1,1,0,1,1,0,1,1,1,0] body)) (.mark (leaf [(1, .s .str), (2, .s (.int .i64)), (15, .s (.int .i64))] (k5 R)) (.seq (.leaf (sel [1,1,0,1,1,0,1,1,1,1,0] body)) (.seq (.leaf (sel [1,1,0,1,1,0,1,1,1,1,1,0] body)) (.mark (leaf [(1, .s .str), (2, .s (.int .i64)), (10, .s (.int .i64))] (k6 R)) (.seq (.leaf (sel [1,1,0,1,1,0,1,1,1,1,1,1,0] body)) (.mark (leaf [(1, .s .str), (2, .s (.int .i64)), (10, .s (.int .i64)), (120, .s .bool)] (k7 R)) (.leaf (sel [1,1,0,1,1,0,1,1,1,1,1,1,1] body))))))))))))) (.leaf (sel [1,1,0,1,1,1] body))))) (.leaf (sel [1,1,1] body))))))
theorem good (R : EP) : Good P 131 (ac R) (QF P [.tmp 6, .tmp 7, .tmp 8] R) :=
 ⟨trivial, ⟨trivial, ⟨⟨⟨trivial, ⟨trivial, ⟨⟨⟨trivial, ⟨trivial, ⟨trivial, cutZ⟩⟩⟩, ⟨⟨(loopG (al1 R) (bl1 R) (fun _ => by kernel_rfl) (fun Xa => ⟨trivial, ⟨trivial, cutZ⟩⟩) (fun Xa => by intro x0 x1 x2 x10 ρ w; kernel_rfl) (fun X h _ _ _ _ _ g => g X h)), ⟨trivial, ⟨trivial, ⟨⟨trivial, ⟨trivial, ⟨⟨trivial, ⟨trivial, cutZ⟩⟩, cutZ⟩⟩⟩, cutZ⟩⟩⟩⟩, cutZ⟩⟩, trivial⟩⟩⟩, trivial⟩, cutZ⟩⟩⟩
theorem eq (R : EP) (x0 : OA) (x1 : BA) (x2 : Int) (w : World) : g_parseHTMLOpenTag R x0 x1 x2 w = vcA P 131 (ac R) (QF P [.tmp 6, .tmp 7, .tmp 8] R) (fr0 [.pointer x0, .string x1, .int .i64 x2]) w := by kernel_rfl
theorem sound {R : EP} {x0 : OA} {x1 : ByteArray} {x2 : Int} {w : World} (h : g_parseHTMLOpenTag R x0 x1 x2 w) : callE P i_parseHTMLOpenTag #[.pointer x0, .string x1, .int .i64 x2] R w :=
 callE_fz (c := body) Tryz.func201 Tryz.call201 (good R) (eq R x0 x1 x2 w) h
end g_parseHTMLOpenTag
namespace g_htmlTags
noncomputable def body : Code := bodyOf Tryz.f233
end g_htmlTags
def g_htmlTags (R : EP) (w : World) : Prop :=
 ∃ (r1q : OA), ∃ (r1n : Nat), ∃ (r1c : Nat), ∃ w2, (Instr.buildSlice ty_S_string 62 #[(0, .string (ByteArray.mk #[97, 100, 100, 114, 101, 115, 115])), (1, .string (ByteArray.mk #[97, 114, 116, 105, 99, 108, 101])), (2, .string (ByteArray.mk #[97, 115, 105, 100, 101])), (3, .string (ByteArray.mk #[98, 97, 115, 101])), (4, .string (ByteArray.mk #[98, 97, 115, 101, 102, 111, 110, 116])), (5, .string (ByteArray.mk #[98, 108, 111, 99, 107, 113, 117, 111, 116, 101])), (6, .string (ByteArray.mk #[98, 111, 100, 121])), (7, .string (ByteArray.mk #[99, 97, 112, 116, 105, 111, 110])), (8, .string (ByteArray.mk #[99, 101, 110, 116, 101, 114])), (9, .string (ByteArray.mk #[99, 111, 108])), (10, .string (ByteArray.mk #[99, 111, 108, 103, 114, 111, 117, 112])), (11, .string (ByteArray.mk #[100, 100])), (12, .string (ByteArray.mk #[100, 101, 116, 97, 105, 108, 115])), (13, .string (ByteArray.mk #[100, 105, 97, 108, 111, 103])), (14, .string (ByteArray.mk #[100, 105, 114])), (15, .string (ByteArray.mk #[100, 105, 118])), (16, .string (ByteArray.mk #[100, 108])), (17, .string (ByteArray.mk #[100, 116])), (18, .string (ByteArray.mk #[102, 105, 101, 108, 100, 115, 101, 116])), (19, .string (ByteArray.mk #[102, 105, 103, 99, 97, 112, 116, 105, 111, 110])), (20, .string (ByteArray.mk #[102, 105, 103, 117, 114, 101])), (21, .string (ByteArray.mk #[102, 111, 111, 116, 101, 114])), (22, .string (ByteArray.mk #[102, 111, 114, 109])), (23, .string (ByteArray.mk #[102, 114, 97, 109, 101])), (24, .string (ByteArray.mk #[102, 114, 97, 109, 101, 115, 101, 116])), (25, .string (ByteArray.mk #[104, 49])), (26, .string (ByteArray.mk #[104, 50])), (27, .string (ByteArray.mk #[104, 51])), (28, .string (ByteArray.mk #[104, 52])), (29, .string (ByteArray.mk #[104, 53])), (30, .string (ByteArray.mk #[104, 54])), (31, .string (ByteArray.mk #[104, 101, 97, 100])), (32, .string (ByteArray.mk #[104, 101, 97, 100, 101, 114])), (33, .string (ByteArray.mk #[104, 114])), (34, .string (ByteArray.mk #[104, 116, 109, 108])), (35, .string (ByteArray.mk #[105, 102, 114, 97, 109, 101])), (36, .string (ByteArray.mk #[108, 101, 103, 101, 110, 100])), (37, .string (ByteArray.mk #[108, 105])), (38, .string (ByteArray.mk #[108, 105, 110, 107])), (39, .string (ByteArray.mk #[109, 97, 105, 110])), (40, .string (ByteArray.mk #[109, 101, 110, 117])), (41, .string (ByteArray.mk #[109, 101, 110, 117, 105, 116, 101, 109])), (42, .string (ByteArray.mk #[110, 97, 118])), (43, .string (ByteArray.mk #[110, 111, 102, 114, 97, 109, 101, 115])), (44, .string (ByteArray.mk #[111, 108])), (45, .string (ByteArray.mk #[111, 112, 116, 103, 114, 111, 117, 112])), (46, .string (ByteArray.mk #[111, 112, 116, 105, 111, 110])), (47, .string (ByteArray.mk #[112])), (48, .string (ByteArray.mk #[112, 97, 114, 97, 109])), (49, .string (ByteArray.mk #[115, 101, 99, 116, 105, 111, 110])), (50, .string (ByteArray.mk #[115, 111, 117, 114, 99, 101])), (51, .string (ByteArray.mk #[115, 117, 109, 109, 97, 114, 121])), (52, .string (ByteArray.mk #[116, 97, 98, 108, 101])), (53, .string (ByteArray.mk #[116, 98, 111, 100, 121])), (54, .string (ByteArray.mk #[116, 100])), (55, .string (ByteArray.mk #[116, 102, 111, 111, 116])), (56, .string (ByteArray.mk #[116, 104])), (57, .string (ByteArray.mk #[116, 104, 101, 97, 100])), (58, .string (ByteArray.mk #[116, 105, 116, 108, 101])), (59, .string (ByteArray.mk #[116, 114])), (60, .string (ByteArray.mk #[116, 114, 97, 99, 107])), (61, .string (ByteArray.mk #[117, 108]))]).run P w = .ok (.slice r1q r1n r1c) w2 ∧
 R (.returned (.slice r1q r1n r1c)) w2

namespace g_htmlTags
noncomputable def ac (R : EP) : AC :=
 (.leaf (sel [] body))
theorem good (R : EP) : Good P 2 (ac R) (QF P [.tmp 0] R) :=
 trivial
theorem eq (R : EP) (w : World) : g_htmlTags R w = vcA P 2 (ac R) (QF P [.tmp 0] R) (fr0 []) w := by kernel_rfl
theorem sound {R : EP} {w : World} (h : g_htmlTags R w) : callE P i_htmlTags #[] R w :=
 callE_fz (c := body) Tryz.func233 Tryz.call233 (good R) (eq R w) h
end g_htmlTags
end Go.Proofs.YtgbgadkldalkbaaGreatDoor

set_option linter.unusedVariables false
namespace Go.Proofs.YtgbgadkldalkbaaGreatDoor
open Go.Proofs Go.IntWalk Go.RowKit
variable {σ : Out} {w : World} {L L' : List Chunk} {R : Ending → World → Prop}
inductive HE where
 | fn (en : List UInt8)
 | pre
 | blank
def HE.val (E : HE) (eb : Nat) : Value :=
 match E with
 | .fn _ => .func (.func i_parseState_startHTML_1) #[] #[.pointer (some ⟨eb, 0, none⟩)]
 | .pre => .func (.func i_hasEndPre) #[] #[]
 | .blank => .nilFunc
def HE.bl : HE → Bool
 | .blank => true
 | _ => false
def HE.mem (E : HE) (eb : Nat) : List Chunk :=
 match E with
 | .fn en => [(eb, cel [.string (bs en)] ty_string)]
 | _ => []
def HasPre (t : List UInt8) (b : Bool) : Prop := ∀ (σ : Out) (R : Ending → World → Prop) (L : List Chunk) (w : World), Sat σ w L → (∀ w, Sat σ w L → R (.returned (.bool b)) w) → callE P i_hasEndPre #[.string (bs t)] R w
def HE.ends (E : HE) (t : List UInt8) (b : Bool) : Prop :=
 match E with
 | .fn en => t.length < 4611686018427387904 ∧ en.length < 4611686018427387904 ∧ b = (idx t en).isSome
 | .pre => HasPre t b
 | .blank => b = false
def htmE (hb : Nat) (E : HE) (q : OA) (n c eb : Nat) : Chunk := (hb, cel [.bool E.bl, .slice q n c, E.val eb] ty_htmlBuilder)
def HtmE (hb : Nat) (E : HE) (ls : List (List UInt8)) (M : List Chunk) : Prop :=
 ∃ q c SM eb, Sl 1 ty_string q ls.length c (sv ls) SM ∧ M = htmE hb E q ls.length c eb :: (SM ++ E.mem eb)
theorem endE_ok {eb : Nat} {E : HE} {t : List UInt8} {x : Bool} (h : Sat σ w L) (hm : ∀ c ∈ E.mem eb, c ∈ L) (hE : E ≠ .blank) (he : E.ends t x) (hR : ∀ w, Sat σ w L → R (.returned (.bool x)) w) :
 enterE P (do let d ← Deferred.ofValue (E.val eb) #[.string (bs t)]; invoke d.target d.args) R w := by
 cases E with
 | fn en =>
  obtain ⟨h1, h2, rfl⟩ := he
  exact endFn_ok h (hm _ (.head _)) h1 h2 (hR w h)
 | pre =>
  refine enter_fn ?_
  exact he σ R L w h hR
 | blank => exact absurd rfl hE
theorem htmExtendE_ok {hb : Nat} {q2 : OA} {E : HE} {ls : List (List UInt8)} {HM : List Chunk} {l : Ln} {x : Bool} (h : Sat σ w (HM ++ L)) (hH : HtmE hb E ls HM) (hl : l.ok) (hls : ls.length < 1048576) (hbl : E = .blank → l.blank = false) (he : E.ends l.str x)
 (hR : ∀ w HM', HtmE hb E (ls ++ [l.str]) HM' → Sat σ w (HM' ++ L) → R (.returned (.tuple #[Ln.zero.val, .bool (!x)])) w) : callE P i_htmlBuilder_extend #[.pointer (some ⟨hb, 0, none⟩), .pointer q2, l.val] R w := by
 obtain ⟨q, c, SM, eb, hS, rfl⟩ := hH
 refine g_htmlBuilder_extend.sound ?_
 refine Sat.bx h fun b1 w h => ?_
 refine Sat.bx h fun b3 w h => ?_
 have h : Sat σ w (zLn b3 :: l.at b1 :: (htmE hb E q ls.length c eb :: (SM ++ E.mem eb) ++ L)) := h
 have go : ∀ w, Sat σ w (zLn b3 :: l.at b1 :: (htmE hb E q ls.length c eb :: (SM ++ E.mem eb) ++ L)) → g_htmlBuilder_extend.k1 R (some ⟨hb, 0, none⟩) b1 b3 w := by
  intro w h
  unfold g_htmlBuilder_extend.k1
  refine string_ok h (.tail _ (.head _)) hl fun w h => ⟨_, rfl, nilP_some ?_⟩
  refine ⟨_, _, _, Sat.ld h (.tail _ (.tail _ (.head _))) (i := 1) rfl, ?_⟩
  have h : Sat σ w (SM ++ (zLn b3 :: l.at b1 :: htmE hb E q ls.length c eb :: (E.mem eb ++ L))) := h.re
  refine Sat.app1 rowStr hS h (v := .string (bs l.str)) rfl (by simp [Value.cells, Value.oneCell']) (fillS l.str) (by omega) (by omega) (by decide) fun q' c' w M' hS' h => ?_
  have h : Sat σ w (htmE hb E q ls.length c eb :: zLn b3 :: (M' ++ (l.at b1 :: (E.mem eb ++ L)))) := h.re
  refine nilP_some ?_
  refine Sat.st h (k := 0) rfl (by show 1 < 3; decide) trivial rfl fun w h => ?_
  have h : Sat σ w (htmE hb E q' (ls.length + 1) c' eb :: zLn b3 :: (M' ++ (l.at b1 :: (E.mem eb ++ L)))) := h
  obtain ⟨_, _, _, hfu⟩ := isFunc_out und_fsb
  refine nilP_some ⟨_, Sat.ld h (.head _) (i := 2) rfl, ?_⟩
  have hfin : ∀ w, Sat σ w (zLn b3 :: htmE hb E q' (ls.length + 1) c' eb :: (M' ++ (l.at b1 :: (E.mem eb ++ L)))) → R (.returned (.tuple #[Ln.zero.val, .bool (!x)])) w := by
   intro w h
   refine hR w (htmE hb E q' (ls ++ [l.str]).length c' eb :: (M' ++ E.mem eb)) ⟨q', c', M', eb, ?_, rfl⟩ ?_
   ·rw [List.length_append, List.length_singleton]
    have e : sv (ls ++ [l.str]) = sv ls ++ [.string (bs l.str)] := by simp [sv]
    rw [e]; exact hS'
   ·rw [List.length_append, List.length_singleton]
    exact h.less [zLn b3, l.at b1]
  have hw : ∀ w, Sat σ w (htmE hb E q' (ls.length + 1) c' eb :: zLn b3 :: (M' ++ (l.at b1 :: (E.mem eb ++ L)))) → E ≠ .blank → ∃ (v39 : Value), w.cell? ⟨hb, 2, none⟩ = some v39 ∧ v39 = E.val eb := fun w h _ => ⟨_, Sat.ld h (.head _) (i := 2) rfl, rfl⟩
  have done : ∀ (k : Bool) w, x = !k → Sat σ w (zLn b3 :: htmE hb E q' (ls.length + 1) c' eb :: (M' ++ (l.at b1 :: (E.mem eb ++ L)))) → stV w ⟨b3, 0, none⟩ (.int .i64 0) fun w => stV w ⟨b3, 1, none⟩ (.int .i64 0) fun w => stV w ⟨b3, 2, none⟩ (.int .i64 0) fun w => stV w ⟨b3, 3, none⟩ (.string (ByteArray.mk #[])) fun w => stV w ⟨b3, 4, none⟩ (.int .u8 0) fun w =>
   ∃ (v47 : Int), w.cell? ⟨b3, 0, none⟩ = some (.int .i64 v47) ∧ ∃ (v48 : Int), w.cell? ⟨b3, 1, none⟩ = some (.int .i64 v48) ∧ ∃ (v49 : Int), w.cell? ⟨b3, 2, none⟩ = some (.int .i64 v49) ∧ ∃ (v50 : BA), w.cell? ⟨b3, 3, none⟩ = some (.string v50) ∧ ∃ (v51 : Int), w.cell? ⟨b3, 4, none⟩ = some (.int .u8 v51) ∧
   R (.returned (.tuple #[.agg #[.int .i64 v47, .int .i64 v48, .int .i64 v49, .string v50, .int .u8 v51], .bool k])) w := by
   intro k w hk h
   have hfin := hfin
   rw [hk, Bool.not_not] at hfin
   refine h.stA 0 fun w h => ?_
   refine h.stA 0 fun w h => ?_
   refine h.stA 0 fun w h => ?_
   refine h.stA 0 fun w h => ?_
   refine h.stA 0 fun w h => ?_
   have h : Sat σ w (zLn b3 :: htmE hb E q' (ls.length + 1) c' eb :: (M' ++ (l.at b1 :: (E.mem eb ++ L)))) := h
   refine ⟨_, h.ldA, ?_⟩
   refine ⟨_, h.ldA, ?_⟩
   refine ⟨_, h.ldA, ?_⟩
   refine ⟨_, h.ldA, ?_⟩
   refine ⟨_, h.ldA, ?_⟩
   exact hfin w h
  by_cases hE : E = .blank
  ·subst hE
   obtain rfl : x = false := he
   refine ⟨false, w, neq_nil_nil hfu w, br_false rfl ?_⟩
   exact done true w rfl h.up1
  ·have hneq : ∀ w, (do eqGuard .neq ty_func_string_bool (.tmp 31) (.const .nilFunc) (E.val eb) .nilFunc; binOp .neq ty_func_string_bool (E.val eb) .nilFunc).run P w = .ok (.bool true) w := by
    intro w
    cases E with
    | fn en => exact neq_func_nil hfu _ _ _ w
    | pre => exact neq_func_nil hfu _ _ _ w
    | blank => exact absurd rfl hE
   refine ⟨true, w, hneq w, br_true rfl (nilP_some ?_)⟩
   refine ⟨_, Sat.ld h (.head _) (i := 2) rfl, ?_⟩
   refine endE_ok (E := E) (eb := eb) h (fun c hc => by simp [hc]) hE he fun w h => ⟨_, rfl, ?_⟩
   cases x with
   | true => exact br_true rfl (done false w rfl h.up1)
   | false => exact br_false rfl (done true w rfl h.up1)
 by_cases hE : E = .blank
 ·have hb0 := hbl hE
  refine nilP_some ⟨true, Sat.ld h (.tail _ (.tail _ (.head _))) (by subst hE; rfl), br_true rfl ?_⟩
  refine isBlank_ok h (.tail _ (.head _)) hl fun w h => ⟨_, rfl, ?_⟩
  rw [hb0]
  exact br_false rfl (go w h)
 ·refine nilP_some ⟨false, Sat.ld h (.tail _ (.tail _ (.head _))) (by cases E <;> first | rfl | exact absurd rfl hE), br_false rfl (go w h)⟩
theorem htmBuildE_ok {b hb : Nat} {p : PS} {ob : List OB} {o : OB} {E : HE} {ls : List (List UInt8)} {M HM : List Chunk} (h : Sat σ w (p.at b :: M ++ (HM ++ L))) (hs : Stk p (ob ++ [o]) M) (hH : HtmE hb E ls HM)
 (hR : ∀ w nb q c SM, Sl 1 ty_string q ls.length c (sv ls) SM → Sat σ w (p.at b :: M ++ (hblC nb o.s o.e q ls.length c :: (SM ++ L))) → R (.returned (.iface ty_P_HTMLBlock (.pointer (some ⟨nb, 0, none⟩)))) w) :
 callE P i_htmlBuilder_build #[.pointer (some ⟨hb, 0, none⟩), .iface ty_P_parseState (.pointer (some ⟨b, 0, none⟩))] R w := by
 obtain ⟨q, c, SM, eb, hS, rfl⟩ := hH
 refine g_htmlBuilder_build.sound ?_
 have h : Sat σ w (htmE hb E q ls.length c eb :: (p.at b :: M ++ (SM ++ (E.mem eb ++ L)))) := h.re
 refine h.tk fun w h => ?_
 refine nilP_some ?_
 refine ⟨_, _, _, Sat.ld h (.head _) (i := 1) rfl, ?_⟩
 have h0 := h
 have h : Sat σ w (p.at b :: M ++ (htmE hb E q ls.length c eb :: (SM ++ (E.mem eb ++ L)))) := h.re
 refine enter_meth meth_pos ?_
 refine pos_ok h hs fun w h => ⟨_, _, rfl, h0.same h (.head _) (List.mem_append_right _ (.head _)) 1, ?_⟩
 refine Sat.bx h fun nb w h => ?_
 refine hR w nb q c SM hS ?_
 have h : Sat σ w (hblC nb o.s o.e q ls.length c :: (p.at b :: M ++ (htmE hb E q ls.length c eb :: (SM ++ (E.mem eb ++ L))))) := h
 exact h.less (htmE hb E q ls.length c eb :: E.mem eb)
end Go.Proofs.YtgbgadkldalkbaaGreatDoor


set_option linter.unusedVariables false
namespace Go.Proofs.YtgbgadkldalkbaaGreatDoor
open Go.Proofs Go.IntWalk Go.RowKit
variable {σ : Out} {w : World} {L L' : List Chunk} {R : Ending → World → Prop}
def lowB (c : UInt8) : Bool := (decide (97 ≤ c.toNat) && decide (c.toNat ≤ 122)) || (decide (48 ≤ c.toNat) && decide (c.toNat ≤ 57))
def preWords : List (List UInt8) := [[112, 114, 101], [115, 99, 114, 105, 112, 116], [115, 116, 121, 108, 101], [116, 101, 120, 116, 97, 114, 101, 97]]
end Go.Proofs.YtgbgadkldalkbaaGreatDoor


set_option linter.unusedVariables false
namespace Go.Proofs.YtgbgadkldalkbaaGreatDoor
open Go.Proofs Go.IntWalk Go.RowKit
variable {σ : Out} {w : World} {L L' : List Chunk} {R : Ending → World → Prop}
theorem startHTML_k1 {b b1 b20 : Nat} {p : PS} {ob : List OB} {M : List Chunk} {en s : List UInt8} {l : Ln} (h : Sat σ w (l.at b1 :: (b20, cel [.string (bs en)] ty_string) :: (p.at b :: M ++ L))) (hs : Stk p ob M) (hd : p.depth + 1 = ob.length) (hob : ob.length < 1048575)
 (hl : l.ok) (hen : en ≠ []) (hlen : en.length < 100) (hsl : s.length < 1000000) (hx : idx s en = none)
 (hR : ∀ w p' M' hb HM, p' = { p with stq := p'.stq, stn := ob.length + 1, stc := p'.stc } → HtmAt hb en [l.str] HM → Stk p' (ob ++ [⟨.iface ty_P_htmlBuilder (.pointer (some ⟨hb, 0, none⟩)), none, 0, 0, p.lineno, p.lineno⟩]) M' → Sat σ w (l.at b1 :: (p'.at b :: M' ++ (HM ++ L))) → R (.returned (.bool true)) w) :
 g_parseState_startHTML.k1 R (some ⟨b, 0, none⟩) (some ⟨b1, 0, none⟩) (bs s) b20 w := by
 unfold g_parseState_startHTML.k1
 refine ⟨_, Sat.ld h (.tail _ (.head _)) rfl, ?_⟩
 refine br_true (by rw [bs_toList, mk_toList]; simpa using hen) ?_
 refine Sat.bx h fun hb w h => ?_
 have h : Sat σ w (htmC hb none 0 0 b20 :: l.at b1 :: (b20, cel [.string (bs en)] ty_string) :: (p.at b :: M ++ L)) := h
 have h : Sat σ w (p.at b :: M ++ (htmC hb none 0 0 b20 :: l.at b1 :: (b20, cel [.string (bs en)] ty_string) :: L)) := h.re
 refine addBlock_ok h hs hd hob fun w p' M' hp' hs' h => ⟨rfl, ?_⟩
 have h : Sat σ w (l.at b1 :: htmC hb none 0 0 b20 :: (b20, cel [.string (bs en)] ty_string) :: (p'.at b :: M' ++ L)) := h.re
 have hg := h
 refine h.tk fun w h => ?_
 refine ⟨_, _, _, Sat.ld h (.tail _ (.head _)) (i := 1) rfl, ?_⟩
 have h0 := h
 refine string_ok h (.head _) hl fun w h => ⟨_, rfl, h0.same h (.tail _ (.head _)) (.tail _ (.head _)) 1, ?_⟩
 have h1 := h
 have h : Sat σ w ([] ++ (l.at b1 :: htmC hb none 0 0 b20 :: (b20, cel [.string (bs en)] ty_string) :: (p'.at b :: M' ++ L))) := h
 refine Sat.app1S rowStr (Sl.nil 1 ty_string) h (v := .string (bs l.str)) rfl (by simp [Value.cells, Value.oneCell']) (fillS l.str) (by omega) (by omega) (by decide) (fun w1 X h2 => h1.same h2 (.tail _ (.head _)) (.tail _ (.tail _ (.head _))) 1) fun q' c' w M1 hS' h => ?_
 have h : Sat σ w (htmC hb none 0 0 b20 :: l.at b1 :: (M1 ++ ((b20, cel [.string (bs en)] ty_string) :: (p'.at b :: M' ++ L)))) := h.re
 refine h.stA 0 fun w h => ?_
 have h : Sat σ w (htmC hb q' 1 c' b20 :: l.at b1 :: (M1 ++ ((b20, cel [.string (bs en)] ty_string) :: (p'.at b :: M' ++ L)))) := h
 refine ⟨_, Sat.ld h (.head _) (i := 2) rfl, ?_⟩
 refine endFn_ok (en := en) h (by simp) (by omega) (by omega) ⟨_, rfl, ?_⟩
 rw [hx]
 refine br_false rfl ?_
 refine hR w p' M' hb (htmC hb q' 1 c' b20 :: (M1 ++ [(b20, cel [.string (bs en)] ty_string)])) hp' ⟨q', c', M1, b20, ?_, rfl⟩ hs' (h.re)
 exact hS'
end Go.Proofs.YtgbgadkldalkbaaGreatDoor


set_option linter.unusedVariables false
namespace Go.Proofs.YtgbgadkldalkbaaGreatDoor
open Go.Proofs Go.IntWalk Go.RowKit
variable {σ : Out} {w : World} {L L' : List Chunk} {R : Ending → World → Prop}
theorem htmlPut {b b1 : Nat} {p : PS} {ob : List OB} {M : List Chunk} {E : HE} {l : Ln} {K : World → Prop} (hE : E = .pre ∨ E = .blank) (h : Sat σ w (l.at b1 :: (p.at b :: M ++ L))) (hs : Stk p ob M) (hd : p.depth + 1 = ob.length) (hob : ob.length < 1048575) (hl : l.ok)
 (hR : ∀ w p' M' hb HM, p' = { p with stq := p'.stq, stn := ob.length + 1, stc := p'.stc } → HtmE hb E [l.str] HM → Stk p' (ob ++ [⟨.iface ty_P_htmlBuilder (.pointer (some ⟨hb, 0, none⟩)), none, 0, 0, p.lineno, p.lineno⟩]) M' → Sat σ w (l.at b1 :: (p'.at b :: M' ++ (HM ++ L))) → K w) :
 box w #[.bool E.bl, .slice none 0 0, E.val 0] ty_htmlBuilder fun b120 w121 =>
 callE P i_parseState_addBlock #[.pointer (some ⟨b, 0, none⟩), .iface ty_P_htmlBuilder (.pointer (some ⟨b120, 0, none⟩))] (fun e w123 => e = .returned (.tuple #[]) ∧
 tk w123 fun w124 =>
 ∃ (v125q : OA), ∃ (v125n : Nat), ∃ (v125c : Nat), w124.cell? ⟨b120, 1, none⟩ = some (.slice v125q v125n v125c) ∧
 callE P i_line_string #[.pointer (some ⟨b1, 0, none⟩)] (fun e w127 => ∃ (r126 : BA), e = .returned (.string r126) ∧
 SameC w124 w127 ⟨b120, 1, none⟩ 1 ∧
 ∃ (r128q : OA), ∃ (r128n : Nat), ∃ (r128c : Nat), ∃ w129, (Instr.buildSlice ty_S_string 1 #[(0, .string r126)]).run P w127 = .ok (.slice r128q r128n r128c) w129 ∧
 SameC w127 w129 ⟨b120, 1, none⟩ 1 ∧
 ∃ (r130q : OA), ∃ (r130n : Nat), ∃ (r130c : Nat), ∃ w131, (Builtin.append_ #[ty_S_string, ty_S_string] ty_S_string #[.slice v125q v125n v125c, .slice r128q r128n r128c]).run P w129 = .ok (.slice r130q r130n r130c) w131 ∧
 stV w131 ⟨b120, 1, none⟩ (.slice r130q r130n r130c) fun w132 =>
 K w132) w124) w121 := by
  refine Sat.bx h fun hb w h => ?_
  have h : Sat σ w (htmE hb E none 0 0 0 :: l.at b1 :: (p.at b :: M ++ L)) := h
  have h : Sat σ w (p.at b :: M ++ (htmE hb E none 0 0 0 :: l.at b1 :: L)) := h.re
  refine addBlock_ok h hs hd hob fun w p' M' hp' hs' h => ⟨rfl, ?_⟩
  have h : Sat σ w (l.at b1 :: htmE hb E none 0 0 0 :: (p'.at b :: M' ++ L)) := h.re
  refine h.tk fun w h => ?_
  refine ⟨_, _, _, Sat.ld h (.tail _ (.head _)) (i := 1) rfl, ?_⟩
  have h0 := h
  refine string_ok h (.head _) hl fun w h => ⟨_, rfl, h0.same h (.tail _ (.head _)) (.tail _ (.head _)) 1, ?_⟩
  have h1 := h
  have h : Sat σ w ([] ++ (l.at b1 :: htmE hb E none 0 0 0 :: (p'.at b :: M' ++ L))) := h
  refine Sat.app1S rowStr (Sl.nil 1 ty_string) h (v := .string (bs l.str)) rfl (by simp [Value.cells, Value.oneCell']) (fillS l.str) (by omega) (by omega) (by decide) (fun w1 X h2 => h1.same h2 (.tail _ (.head _)) (.tail _ (.tail _ (.head _))) 1) fun q' c' w M1 hS' h => ?_
  have h : Sat σ w (htmE hb E none 0 0 0 :: l.at b1 :: (M1 ++ (p'.at b :: M' ++ L))) := h.re
  refine Sat.st h (k := 0) rfl (by show 1 < 3; decide) trivial rfl fun w h => ?_
  have h : Sat σ w (htmE hb E q' 1 c' 0 :: l.at b1 :: (M1 ++ (p'.at b :: M' ++ L))) := h
  refine hR w p' M' hb (htmE hb E q' 1 c' 0 :: (M1 ++ E.mem 0)) hp' ⟨q', c', M1, 0, hS', rfl⟩ hs' ?_
  have e0 : E.mem 0 = [] := by rcases hE with rfl | rfl <;> rfl
  rw [e0, List.append_nil]
  exact h.re
def tagNames : List (List UInt8) := [[97, 100, 100, 114, 101, 115, 115], [97, 114, 116, 105, 99, 108, 101], [97, 115, 105, 100, 101], [98, 97, 115, 101], [98, 97, 115, 101, 102, 111, 110, 116], [98, 108, 111, 99, 107, 113, 117, 111, 116, 101], [98, 111, 100, 121], [99, 97, 112, 116, 105, 111, 110], [99, 101, 110, 116, 101, 114], [99, 111, 108], [99, 111, 108, 103, 114, 111, 117, 112], [100, 100], [100, 101, 116, 97, 105, 108, 115], [100, 105, 97, 108, 111, 103], [100, 105, 114], [100, 105, 118], [100, 108], [100, 116], [102, 105, 101, 108, 100, 115, 101, 116], [102, 105, 103, 99, 97, 112, 116, 105, 111, 110], [102, 105, 103, 117, 114, 101], [102, 111, 111, 116, 101, 114], [102, 111, 114, 109], [102, 114, 97, 109, 101], [102, 114, 97, 109, 101, 115, 101, 116], [104, 49], [104, 50], [104, 51], [104, 52], [104, 53], [104, 54], [104, 101, 97, 100], [104, 101, 97, 100, 101, 114], [104, 114], [104, 116, 109, 108], [105, 102, 114, 97, 109, 101], [108, 101, 103, 101, 110, 100], [108, 105], [108, 105, 110, 107], [109, 97, 105, 110], [109, 101, 110, 117], [109, 101, 110, 117, 105, 116, 101, 109], [110, 97, 118], [110, 111, 102, 114, 97, 109, 101, 115], [111, 108], [111, 112, 116, 103, 114, 111, 117, 112], [111, 112, 116, 105, 111, 110], [112], [112, 97, 114, 97, 109], [115, 101, 99, 116, 105, 111, 110], [115, 111, 117, 114, 99, 101], [115, 117, 109, 109, 97, 114, 121], [116, 97, 98, 108, 101], [116, 98, 111, 100, 121], [116, 100], [116, 102, 111, 111, 116], [116, 104], [116, 104, 101, 97, 100], [116, 105, 116, 108, 101], [116, 114], [116, 114, 97, 99, 107], [117, 108]]
theorem htmlTags_ok (h : Sat σ w L) (hR : ∀ w b, Sat σ w ((b, cel (sv tagNames) ty_string) :: L) → R (.returned (.slice (some ⟨b, 0, none⟩) 62 62)) w) : callE P i_htmlTags #[] R w := by
 refine g_htmlTags.sound ?_
 exact buildR h (by kernel_rfl) (by kernel_rfl) (by kernel_rfl) (by kernel_rfl) (by decide) (by decide) (by kernel_rfl) fun b w h => hR w b h
theorem tagNames_ne : ∀ t ∈ tagNames, t ≠ [] := by decide
theorem k9_ok {q : OA} {n c : Nat} {wd s : List UInt8} {M : List Chunk} {x0 x1 : OA} {x9 sep : Int} (hB : By q n c wd M) (h : Sat σ w (M ++ L)) (hw : wd ≠ []) (hsep : sep ≠ 9)
 (hyes : wd ∈ tagNames → ∀ w X, Sat σ w (X :: (M ++ L)) → g_parseState_startHTML.k14 R x0 x1 w) (hno : wd ∉ tagNames → ∀ w X, Sat σ w (M ++ (X :: L)) → g_parseState_startHTML.k11 R x0 x1 (bs s) x9 q n c w) :
 g_parseState_startHTML.k9 R x0 x1 (bs s) x9 q n c sep w := by
 have hn := hB.len
 obtain ⟨c0, wt, rfl⟩ := List.exists_cons_of_ne_nil hw
 simp only [List.length_cons] at hn
 refine br_false (by simp; omega) ⟨by omega, by omega, ?_⟩
 rcases hB.raw with ⟨_, h0, _⟩ | ⟨bb, sp, rfl, rfl, hc⟩
 ·omega
 refine nilP_some ⟨(c0.toNat : Int), Sat.ld h (.head _) (i := 0) rfl, ?_⟩
 have h : Sat σ w ([(bb, cel (bc (c0 :: wt) ++ sp) ty_uint8)] ++ L) := h
 generalize hM : [(bb, cel (bc (c0 :: wt) ++ sp) ty_uint8)] = M at hB h hyes hno
 refine htmlTags_ok h fun w tb h => ⟨_, _, _, rfl, ?_⟩
 have hre : Sat σ w (M ++ ((tb, cel (sv tagNames) ty_string) :: L)) := h.re
 intro X hX
 have key : ∀ k i, i + k = 62 → (∀ t ∈ tagNames.take i, t ≠ c0 :: wt) → X x0 x1 (bs s) x9 (some ⟨bb, 0, none⟩) n c sep (c0.toNat : Int) false (some ⟨tb, 0, none⟩) 62 62 (62 : Nat) (i : Int) w := by
  intro k
  induction k with
  | zero =>
   intro i hi hno'
   obtain rfl : i = 62 := by omega
   refine hX _ _ _ _ _ _ _ _ _ _ _ _ _ _ _ _ (br_false (by simp) (br_true rfl (hno (fun h0 => hno' _ h0 rfl) w _ hre)))
  | succ k ih =>
   intro i hi hno'
   have hil : i < tagNames.length := by show i < 62; omega
   refine hX _ _ _ _ _ _ _ _ _ _ _ _ _ _ _ _ (br_true (by simp; omega) ⟨by omega, by omega, nilP_some ?_⟩)
   have hne := tagNames_ne _ (List.getElem_mem hil)
   have htk : tagNames.take (i + 1) = tagNames.take i ++ [tagNames[i]] := List.take_succ_eq_append_getElem hil
   have hcell : w.cell? ⟨tb, i, none⟩ = some (.string (bs tagNames[i])) := Sat.ld h (.head _) (by simp [sv, hil])
   generalize hg : tagNames[i] = nm at hne htk hcell
   have hmem : nm ∈ tagNames := hg ▸ List.getElem_mem hil
   obtain ⟨d0, dt, rfl⟩ := List.exists_cons_of_ne_nil hne
   refine ⟨bs (d0 :: dt), ?_, by omega, by simp, ?_⟩
   ·rw [Int.toNat_natCast, Nat.mul_one]
    simp only [Addr.add_lit, Nat.zero_add]
    exact hcell
   have miss : d0 :: dt ≠ c0 :: wt → ∀ (x : Bool), x = false → g_parseState_startHTML.k13 R X x0 x1 (bs s) x9 (some ⟨bb, 0, none⟩) n c sep (c0.toNat : Int) false (some ⟨tb, 0, none⟩) 62 62 (62 : Nat) (i : Int) x w := by
    intro hx x hxf
    refine br_false hxf ?_
    rw [i64_inc (by omega)]
    refine ih (i + 1) (by omega) ?_
    rw [htk]
    intro t ht
    rcases List.mem_append.1 ht with ht | ht
    ·exact hno' t ht
    ·obtain rfl := List.mem_singleton.1 ht
     exact hx
   refine br_split (fun _ => ⟨_, _, By.str hB hre, ?_⟩) (fun hf => miss (fun h0 => ?_) _ rfl)
   ·by_cases hx : d0 :: dt = c0 :: wt
    ·refine br_true (by rw [hx]; simp) (br_false (by simpa using hsep) ?_)
     exact hyes (hx ▸ hmem) w _ h
    ·refine miss hx _ ?_
     rw [bs_toList, bs_toList]
     simpa using hx
   ·rw [h0] at hf
    rw [show (0 : Int) = ((0 : Nat) : Int) from rfl, bt_get] at hf
    simp [hn] at hf
 exact key 62 0 rfl (by simp)
theorem tagLoop {e : Nat} {s : List UInt8} {x0 x1 : OA} (hsl : s.length < 1000000) (he : 1 ≤ e ∧ e < s.length ∧ e ≤ 16) (run : ∀ k, 1 ≤ k → k < e → lowB (s.getD k 0) = true) (hstop : lowB (s.getD e 0) = false ∧ letB (s.getD e 0) = false) (h : Sat σ w L)
 (hK : ∀ q c M w, By q (e - 1) c ((s.take e).drop 1) M → Sat σ w (M ++ L) → g_parseState_startHTML.k6 R x0 x1 (bs s) (e : Int) q (e - 1) c w) : g_parseState_startHTML.k3 R x0 x1 (bs s) 1 w := by
 unfold g_parseState_startHTML.k3
 have hmk := run_makeSlice (P := P) (w := w) ty_S_uint8 ty_uint8 rowU8.i rowU8.z rowU8.ht rowU8.hi rowU8.hz .i64 .i64 (0 : Int) 16 (by omega) (by omega) (by rw [rowU8.hs]; decide) (by rw [rowU8.hb]; decide) (by omega)
 refine ⟨_, _, _, _, hmk, ?_⟩
 rw [rowU8.hs]
 have hal := h.alc (madeCells rowU8.z.cells ((16 : Int).toNat * 1)).toList ty_uint8
 rw [show YtgbgadkldalkbaaGreatDoor.alc w (madeCells rowU8.z.cells ((16 : Int).toNat * 1)).toList.toArray ty_uint8 = w.alloc (.cells (madeCells rowU8.z.cells ((16 : Int).toNat * 1)) ty_uint8) from by rw [Array.toArray_toList]; rfl] at hal
 generalize w.heap.size = g at hal ⊢
 have hB0 : By (some ⟨g, 0, none⟩) 0 16 [] [(g, cel (bc [] ++ (madeCells rowU8.z.cells ((16 : Int).toNat * 1)).toList) ty_uint8)] := by
  refine ⟨by simp, by omega, .inr ⟨g, _, rfl, rfl, ?_⟩⟩
  simp [bc, size_madeCells]
 intro X hX
 have key : ∀ k i q c M0 w, i + k = e → 1 ≤ i → By q (i - 1) c ((s.take i).drop 1) M0 → Sat σ w (M0 ++ L) → X x0 x1 (bs s) (i : Int) q (i - 1) c w := by
  intro k
  induction k with
  | zero =>
   intro i q c M0 w hi hi1 hB h
   obtain rfl : i = e := hi
   obtain ⟨hlo, hle⟩ := hstop
   refine hX _ _ _ _ _ _ _ _ (br_true (by simp; omega) ⟨by omega, by simp; omega, ?_⟩)
   simp only [lowB, letB, Bool.or_eq_false_iff, Bool.and_eq_false_iff, decide_eq_false_iff_not] at hlo hle
   rw [bt_get]
   generalize s.getD i 0 = d at hlo hle ⊢
   refine br_false (by simp; omega) (br_true (by simp; omega) ?_)
   exact hK _ _ _ _ hB h
  | succ k ih =>
   intro i q c M0 w hi hi1 hB h
   have hlo := run i hi1 (by omega)
   simp only [lowB, Bool.or_eq_true, Bool.and_eq_true, decide_eq_true_eq] at hlo
   refine hX _ _ _ _ _ _ _ _ (br_true (by simp; omega) ⟨by omega, by simp; omega, ?_⟩)
   rw [bt_get]
   have hil : i < s.length := by omega
   generalize hgd : s.getD i 0 = d at hlo ⊢
   refine br_false (by simp; omega) (br_false (by simp; omega) ?_)
   rw [← hgd]
   refine By.app1 hB h (s.getD i 0) (by omega) fun q' c' w' M' hB' h' => ?_
   rw [i64_inc (by omega)]
   have e1 : i - 1 + 1 = i + 1 - 1 := by omega
   rw [e1] at hB' ⊢
   refine ih (i + 1) q' c' M' w' (by omega) (by omega) ?_ h'
   have e2 : (s.take (i + 1)).drop 1 = (s.take i).drop 1 ++ [s.getD i 0] := by
    rw [List.take_succ_eq_append_getElem hil, List.drop_append_of_le_length (by rw [List.length_take]; omega), getElem_getD hil 0]
   rw [e2]; exact hB'
 exact key (e - 1) 1 _ _ _ _ (by omega) (Nat.le_refl _) (by simpa using hB0) hal
end Go.Proofs.YtgbgadkldalkbaaGreatDoor


set_option linter.unusedVariables false
namespace Go.Proofs.YtgbgadkldalkbaaGreatDoor
open Go.Proofs Go.IntWalk Go.RowKit
variable {σ : Out} {w : World} {L L' : List Chunk} {R : Ending → World → Prop}
theorem tlE (a b : List UInt8) : ((bs a).toList == (bs b).toList) = (a == b) := by rw [bs_toList, bs_toList]
theorem hasPre_no {s : List UInt8} (hl : s.length < 1000000) (hn : ∀ i, i < s.length → i + 1 < s.length → s.getD i 0 = 60 → s.getD (i + 1) 0 ≠ 47) : HasPre s false := by
 intro σ R L w h hR
 refine g_hasEndPre.sound ?_
 unfold g_hasEndPre
 intro X hX
 have key : ∀ k i, i + k = s.length → X (bs s) (i : Int) w := by
  intro k
  induction k with
  | zero =>
   intro i hi
   exact hX _ _ _ (br_false (by simp; omega) (hR w h))
  | succ k ih =>
   intro i hi
   have e1 : IntKind.i64.wrap ((i : Int) + 1) = ((i + 1 : Nat) : Int) := i64_inc (by omega)
   refine hX _ _ _ (br_true (by simp; omega) ⟨by omega, by simp; omega, ?_⟩)
   rw [e1]
   refine ⟨fun h0 => ⟨by omega, by simp at h0 ⊢; omega⟩, ?_⟩
   refine br_false ?_ ?_
   ·by_cases h1 : i + 1 < s.length
    ·by_cases h2 : s.getD i 0 = 60
     ·have h3 := hn i (by omega) h1 h2
      rw [bt_get, bt_get, u8b _ 47 47 rfl]
      have : (s.getD (i + 1) 0 == 47) = false := by simpa using h3
      rw [this, Bool.and_false]
     ·rw [bt_get s i, u8b _ 60 60 rfl]
      have : (s.getD i 0 == 60) = false := by simpa using h2
      rw [this, Bool.false_and, Bool.false_and]
    ·have : decide (((i + 1 : Nat) : Int) < ((bs s).size : Int)) = false := decide_eq_false (by simp; omega)
     rw [this, Bool.and_false, Bool.false_and]
   ·rw [e1]
    exact ih (i + 1) (by omega)
 exact key s.length 0 (by omega)
def lowC (c : UInt8) : UInt8 := if 65 ≤ c.toNat ∧ c.toNat ≤ 90 then c + 32 else c
theorem hasPre_yes {s wd : List UInt8} {i e : Nat} (hl : s.length < 1000000) (hn : ∀ j, j < i → s.getD j 0 ≠ 60) (hi : s.getD i 0 = 60 ∧ s.getD (i + 1) 0 = 47) (he : i + 2 ≤ e ∧ e < s.length ∧ e < i + 9) (hr : ∀ k, i + 2 ≤ k → k < e → letB (s.getD k 0) = true) (h62 : s.getD e 0 = 62)
 (hw : ((s.take e).drop (i + 2)).map lowC = wd) (hp : wd ∈ preWords) : HasPre s true := by
 intro σ R L w h hR
 refine g_hasEndPre.sound ?_
 unfold g_hasEndPre
 intro X hX
 have at_i : X (bs s) (i : Int) w := by
  have e1 : IntKind.i64.wrap ((i : Int) + 1) = ((i + 1 : Nat) : Int) := i64_inc (by omega)
  have e2 : IntKind.i64.wrap ((i : Int) + 2) = ((i + 2 : Nat) : Int) := i64_in _ (by omega)
  refine hX _ _ _ (br_true (by simp; omega) ⟨by omega, by simp; omega, ?_⟩)
  rw [e1]
  refine ⟨fun h0 => ⟨by omega, by simp; omega⟩, ?_⟩
  refine br_true ?_ ?_
  ·rw [bt_get, bt_get, hi.1, hi.2]
   have : decide (((i + 1 : Nat) : Int) < ((bs s).size : Int)) = true := decide_eq_true (by simp; omega)
   rw [this]; rfl
  have hmk := run_makeSlice (P := P) (w := w) ty_S_uint8 ty_uint8 rowU8.i rowU8.z rowU8.ht rowU8.hi rowU8.hz .i64 .i64 (0 : Int) 8 (by omega) (by omega) (by rw [rowU8.hs]; decide) (by rw [rowU8.hb]; decide) (by omega)
  refine ⟨_, _, _, _, hmk, ?_⟩
  rw [rowU8.hs, e2]
  have hal := h.alc (madeCells rowU8.z.cells ((8 : Int).toNat * 1)).toList ty_uint8
  rw [show YtgbgadkldalkbaaGreatDoor.alc w (madeCells rowU8.z.cells ((8 : Int).toNat * 1)).toList.toArray ty_uint8 = w.alloc (.cells (madeCells rowU8.z.cells ((8 : Int).toNat * 1)) ty_uint8) from by rw [Array.toArray_toList]; rfl] at hal
  generalize w.heap.size = g at hal ⊢
  have hB0 : By (some ⟨g, 0, none⟩) 0 8 [] [(g, cel (bc [] ++ (madeCells rowU8.z.cells ((8 : Int).toNat * 1)).toList) ty_uint8)] := by
   refine ⟨by simp, by omega, .inr ⟨g, _, rfl, rfl, ?_⟩⟩
   simp [bc, size_madeCells]
  intro Y hY
  have key : ∀ k j q c M0 w, j + k = e → i + 2 ≤ j → By q (j - (i + 2)) c (((s.take j).drop (i + 2)).map lowC) M0 → Sat σ w (M0 ++ L) → Y (bs s) (j : Int) q (j - (i + 2)) c w := by
   intro k
   induction k with
   | zero =>
    intro j q c M0 w hj hj1 hB h
    obtain rfl : j = e := hj
    refine hY _ _ _ _ _ _ (br_true (by simp; omega) ⟨by omega, by simp; omega, ?_⟩)
    rw [bt_get, h62]
    refine br_false (by decide) (br_true (by decide) ⟨fun _ => ⟨by omega, by simp; omega⟩, br_true ?_ ?_⟩)
    ·rw [bt_get, h62]
     have : decide ((j : Int) < ((bs s).size : Int)) = true := decide_eq_true (by simp; omega)
     rw [this]; rfl
    ·rw [hw] at hB
     refine ⟨_, _, By.str hB h, ?_⟩
     simp only [preWords, List.mem_cons, List.mem_nil_iff, or_false] at hp
     have fin : R (.returned (.bool true)) w := hR w h.right
     rcases hp with rfl | rfl | rfl | rfl
     ·exact br_true ((tlE [112, 114, 101] [112, 114, 101]).trans (by decide)) fin
     ·exact br_false ((tlE [115, 99, 114, 105, 112, 116] [112, 114, 101]).trans (by decide)) (br_true ((tlE [115, 99, 114, 105, 112, 116] [115, 99, 114, 105, 112, 116]).trans (by decide)) fin)
     ·exact br_false ((tlE [115, 116, 121, 108, 101] [112, 114, 101]).trans (by decide)) (br_false ((tlE [115, 116, 121, 108, 101] [115, 99, 114, 105, 112, 116]).trans (by decide)) (br_true ((tlE [115, 116, 121, 108, 101] [115, 116, 121, 108, 101]).trans (by decide)) fin))
     ·exact br_false ((tlE [116, 101, 120, 116, 97, 114, 101, 97] [112, 114, 101]).trans (by decide)) (br_false ((tlE [116, 101, 120, 116, 97, 114, 101, 97] [115, 99, 114, 105, 112, 116]).trans (by decide)) (br_false ((tlE [116, 101, 120, 116, 97, 114, 101, 97] [115, 116, 121, 108, 101]).trans (by decide)) (br_true ((tlE [116, 101, 120, 116, 97, 114, 101, 97] [116, 101, 120, 116, 97, 114, 101, 97]).trans (by decide)) fin)))
   | succ k ih =>
    intro j q c M0 w hj hj1 hB h
    have hlo := hr j hj1 (by omega)
    simp only [letB, Bool.or_eq_true, Bool.and_eq_true, decide_eq_true_eq] at hlo
    refine hY _ _ _ _ _ _ (br_true (by simp; omega) ⟨by omega, by simp; omega, ?_⟩)
    rw [bt_get]
    have hjl : j < s.length := by omega
    have e3 : (s.take (j + 1)).drop (i + 2) = (s.take j).drop (i + 2) ++ [s.getD j 0] := by
     rw [List.take_succ_eq_append_getElem hjl, List.drop_append_of_le_length (by rw [List.length_take]; omega), getElem_getD hjl 0]
    have go : g_hasEndPre.k6 R X Y (bs s) (j : Int) q (j - (i + 2)) c ((lowC (s.getD j 0)).toNat : Int) w := by
     refine By.app1 hB h (lowC (s.getD j 0)) (by omega) fun q' c' w' M' hB' h' => ?_
     rw [i64_inc (by omega)]
     have e1 : j - (i + 2) + 1 = j + 1 - (i + 2) := by omega
     rw [e1] at hB' ⊢
     refine ih (j + 1) q' c' M' w' (by omega) (by omega) ?_ h'
     rw [e3, List.map_append]; exact hB'
    generalize hgd : s.getD j 0 = d at hlo go
    by_cases hu : 65 ≤ d.toNat ∧ d.toNat ≤ 90
    ·have ed : (d + 32).toNat = d.toNat + 32 := by rw [UInt8.toNat_add]; show (d.toNat + 32) % 256 = _; omega
     have e5 : IntKind.u8.wrap ((d.toNat : Int) + 32) = ((lowC d).toNat : Int) := by
      rw [lowC, if_pos hu, ed]
      show ((d.toNat : Int) + 32) % 256 = _
      omega
     have el : (lowC d).toNat = d.toNat + 32 := by rw [lowC, if_pos hu, ed]
     refine br_true (by simp; omega) ?_
     rw [e5]
     exact br_false (by simp; omega) go
    ·have el : lowC d = d := by rw [lowC, if_neg hu]
     rw [el] at go
     refine br_false (by simp; omega) ?_
     exact br_false (by simp; omega) go
  have hfin := key (e - (i + 2)) (i + 2) _ _ _ _ (by omega) (Nat.le_refl _) (by simpa using hB0) hal
  rw [Nat.sub_self] at hfin
  exact hfin
 have key : ∀ k j, j + k = i → X (bs s) (j : Int) w := by
  intro k
  induction k with
  | zero => intro j hj; obtain rfl : j = i := hj; exact at_i
  | succ k ih =>
   intro j hj
   have e1 : IntKind.i64.wrap ((j : Int) + 1) = ((j + 1 : Nat) : Int) := i64_inc (by omega)
   refine hX _ _ _ (br_true (by simp; omega) ⟨by omega, by simp; omega, ?_⟩)
   rw [e1]
   refine ⟨fun h0 => ⟨by omega, by simp; omega⟩, br_false ?_ ?_⟩
   ·rw [bt_get s j, u8b _ 60 60 rfl]
    have : (s.getD j 0 == 60) = false := by simpa using hn j (by omega)
    rw [this, Bool.false_and, Bool.false_and]
   ·rw [e1]
    exact ih (j + 1) (by omega)
 exact key i 0 (by omega)
inductive HK : List UInt8 → HE → Prop where
 | script : HK [60, 115, 99, 114, 105, 112, 116, 62] .pre
 | pre : HK [60, 112, 114, 101, 32, 97, 61, 34, 98, 34, 62] .pre
 | remark : HK [60, 33, 45, 45, 32, 97] (.fn [45, 45, 62])
 | instr : HK [60, 63, 112, 104, 112] (.fn [63, 62])
 | decl : HK [60, 33, 68, 79, 67, 84, 89, 80, 69, 32, 104, 116, 109, 108] (.fn [62])
 | cdata : HK [60, 33, 91, 67, 68, 65, 84, 65, 91] (.fn [93, 93, 62])
 | div : HK [60, 100, 105, 118, 32, 99, 108, 97, 115, 115, 61, 34, 97, 34, 62] .blank
 | own : HK [60, 111, 119, 110, 45, 116, 97, 103, 62] .blank
theorem HtmAt.toE {hb : Nat} {en : List UInt8} {ls : List (List UInt8)} {M : List Chunk} (h : HtmAt hb en ls M) : HtmE hb (.fn en) ls M := by
 obtain ⟨q, c, SM, eb, hS, rfl⟩ := h
 exact ⟨q, c, SM, eb, hS, rfl⟩
theorem ownTag_ok {x : OA} (h : Sat σ w L) (hR : ∀ w u c, Sat σ w (c :: L) → R (.returned (.tuple #[.iface ty_P_HTMLTag (.pointer u), .int .i64 9, .bool true])) w) :
 callE P i_parseHTMLOpenTag #[.pointer x, .string (bs [60, 111, 119, 110, 45, 116, 97, 103, 62]), .int .i64 0] R w := by
 refine g_parseHTMLOpenTag.sound ?_
 refine ⟨fun _ => ⟨by decide, by decide⟩, br_false (by decide) ?_⟩
 unfold g_parseHTMLOpenTag.k1
 rw [show IntKind.i64.wrap (0 + 1) = ((1 : Nat) : Int) from rfl]
 refine parseTagName_ok (j := 8) (by decide) (by decide) (by decide) ⟨by decide, by decide, fun k h1 h2 => (show ∀ k, k < 8 → 2 ≤ k → ldhB (([60, 111, 119, 110, 45, 116, 97, 103, 62] : List UInt8).getD k 0) = true by decide) k h2 h1, by decide⟩ ⟨_, _, _, rfl, br_true rfl ?_⟩
 have tE := fun b => tlE [111, 119, 110, 45, 116, 97, 103] b
 refine br_false ((tE [112, 114, 101]).trans (by decide)) (br_false ((tE [115, 99, 114, 105, 112, 116]).trans (by decide)) (br_false ((tE [115, 116, 121, 108, 101]).trans (by decide)) (br_false ((tE [116, 101, 120, 116, 97, 114, 101, 97]).trans (by decide)) ?_)))
 intro X hX
 refine hX _ _ _ _ _ ⟨fun _ => ⟨by decide, by decide⟩, fun _ => ⟨by decide, by decide⟩, fun _ => ⟨by decide, by decide⟩, fun _ => ⟨by decide, by decide⟩, fun _ => ⟨by decide, by decide⟩, br_false (by decide) ?_⟩
 unfold g_parseHTMLOpenTag.k4
 refine g_parseAttr.sound ?_
 refine skipSp_ok (by decide) (by decide) ⟨_, rfl, ?_⟩
 refine g_parseAttrName.sound ?_
 refine ⟨fun h => absurd h (by decide), br_false (by decide) ⟨fun h => by simp at h, fun h => by simp at h, br_false rfl ?_⟩⟩
 refine ⟨_, _, _, rfl, br_false rfl ⟨_, _, _, rfl, br_true rfl ?_⟩⟩
 refine skipSp_ok (by decide) (by decide) ⟨_, rfl, br_false (by decide) ?_⟩
 refine ⟨fun _ => ⟨by decide, by decide⟩, br_false (by decide) ?_⟩
 refine ⟨fun _ => ⟨by decide, by decide⟩, br_true (by decide) ⟨by decide, by decide, by decide, ?_⟩⟩
 refine Sat.bx h fun ub w h => ?_
 exact hR w _ _ h
theorem startHTML_all {b b1 : Nat} {p : PS} {ob : List OB} {o : OB} {M : List Chunk} {s : List UInt8} {E : HE} {t : TypeId} {v : Value} {l : Ln} (h : Sat σ w (l.at b1 :: (p.at b :: M ++ L))) (hs : Stk p (ob ++ [o]) M) (hb : o.bd = .iface t v) (ht : t ≠ ty_P_paraBuilder) (hd : p.depth + 1 = (ob ++ [o]).length) (hob : (ob ++ [o]).length < 1048575)
 (hl : l.ok) (hp : (l.lead 3 false).peek = 60) (hst : (l.lead 3 false).str = s) (hB : HK s E)
 (hR : ∀ w p' M' hb HM, p' = { p with stq := p'.stq, stn := (ob ++ [o]).length + 1, stc := p'.stc } → HtmE hb E [l.str] HM → Stk p' (ob ++ [o] ++ [⟨.iface ty_P_htmlBuilder (.pointer (some ⟨hb, 0, none⟩)), none, 0, 0, p.lineno, p.lineno⟩]) M' → Sat σ w (l.at b1 :: (p'.at b :: M' ++ (HM ++ L))) → R (.returned (.bool true)) w) :
 callE P i_parseState_startHTML #[.pointer (some ⟨b, 0, none⟩), .pointer (some ⟨b1, 0, none⟩)] R w := by
 refine g_parseState_startHTML.sound ?_
 repeat (first | refine nilP_some ?_ | refine h.tk fun w h => ?_ | refine ⟨_, h.ldA, ?_⟩ | refine ⟨_, _, _, h.ldA, ?_⟩ | refine h.stA 0 fun w h => ?_ | refine h.stA 1 fun w h => ?_ | refine h.stA 2 fun w h => ?_ | refine h.stA 3 fun w h => ?_ | refine h.stA 4 fun w h => ?_ | refine h.stA 5 fun w h => ?_ | refine h.stA 6 fun w h => ?_ | refine h.bx fun b0 w h => ?_)
 have h : Sat σ _ (l.at b0 :: l.at b1 :: (p.at b :: M ++ L)) := h
 refine lead_ok (max := 3) h hl (by decide) fun w h => ⟨_, rfl, ?_⟩
 have hlok := Ln.lead_ok (m := 3) (eol := false) hl
 refine peek_ok h (by first | assumption | (repeat (first | exact .head _ | apply List.Mem.tail))) hlok fun w h => ⟨_, rfl, ?_⟩
 rw [hp]
 refine br_false (by decide) ?_
 refine string_ok h (by first | assumption | (repeat (first | exact .head _ | apply List.Mem.tail))) hlok fun w h => ⟨_, rfl, ?_⟩
 rw [hst]
 refine Sat.bx h fun b20 w h => ?_
 have h : Sat σ w ((b20, cel [.string (bs [])] ty_string) :: (l.lead 3 false).at b0 :: l.at b1 :: (p.at b :: M ++ L)) := h
 have fin : ∀ en, E = .fn en → ∀ w, en ≠ [] → en.length < 100 → s.length < 1000000 → idx s en = none → Sat σ w ((b20, cel [.string (bs en)] ty_string) :: (l.lead 3 false).at b0 :: l.at b1 :: (p.at b :: M ++ L)) → g_parseState_startHTML.k1 R (some ⟨b, 0, none⟩) (some ⟨b1, 0, none⟩) (bs s) b20 w := by
  intro en hE w h1 h2 h3 h4 h
  have h : Sat σ w (l.at b1 :: (b20, cel [.string (bs en)] ty_string) :: (p.at b :: M ++ ((l.lead 3 false).at b0 :: L))) := h.re
  refine startHTML_k1 h hs hd hob hl h1 h2 h3 h4 fun w p' M' hb HM a1 a2 a3 h => ?_
  exact hR w p' M' hb HM a1 (hE ▸ a2.toE) a3 (h.less [(l.lead 3 false).at b0])
 have put : ∀ (G : List Chunk) w, E = .pre ∨ E = .blank → Sat σ w (G ++ ((b20, cel [.string (bs [])] ty_string) :: (l.lead 3 false).at b0 :: l.at b1 :: (p.at b :: M ++ L))) → ∀ K : World → Prop,
  (∀ w p' M' hb HM, p' = { p with stq := p'.stq, stn := (ob ++ [o]).length + 1, stc := p'.stc } → HtmE hb E [l.str] HM → Stk p' (ob ++ [o] ++ [⟨.iface ty_P_htmlBuilder (.pointer (some ⟨hb, 0, none⟩)), none, 0, 0, p.lineno, p.lineno⟩]) M' → Sat σ w (l.at b1 :: (p'.at b :: M' ++ (HM ++ L))) → K w) → _ :=
  fun G w hE h K hK => htmlPut (K := K) hE (l := l) (b1 := b1) (b := b) (p := p) (L := G ++ ((b20, cel [.string (bs [])] ty_string) :: (l.lead 3 false).at b0 :: L)) h.re hs hd hob hl fun w p' M' hb HM a1 a2 a3 h => hK w p' M' hb HM a1 a2 a3 (h.less (G ++ [(b20, cel [.string (bs [])] ty_string), (l.lead 3 false).at b0]))
 cases hB with
 | remark =>
  refine hasPrefix_ok (t := [60, 33, 45, 45]) ⟨_, rfl, br_true rfl ?_⟩
  refine h.stA 0 fun w h => ?_
  exact fin _ rfl _ (by decide) (by decide) (by decide) (by decide) h
 | instr =>
  refine hasPrefix_ok (t := [60, 33, 45, 45]) ⟨_, rfl, br_false rfl ?_⟩
  refine hasPrefix_ok (t := [60, 63]) ⟨_, rfl, br_true rfl ?_⟩
  refine h.stA 0 fun w h => ?_
  exact fin _ rfl _ (by decide) (by decide) (by decide) (by decide) h
 | cdata =>
  refine hasPrefix_ok (t := [60, 33, 45, 45]) ⟨_, rfl, br_false rfl ?_⟩
  refine hasPrefix_ok (t := [60, 63]) ⟨_, rfl, br_false rfl ?_⟩
  refine hasPrefix_ok (t := [60, 33, 91, 67, 68, 65, 84, 65, 91]) ⟨_, rfl, br_true rfl ?_⟩
  refine h.stA 0 fun w h => ?_
  exact fin _ rfl _ (by decide) (by decide) (by decide) (by decide) h
 | decl =>
  refine hasPrefix_ok (t := [60, 33, 45, 45]) ⟨_, rfl, br_false rfl ?_⟩
  refine hasPrefix_ok (t := [60, 63]) ⟨_, rfl, br_false rfl ?_⟩
  refine hasPrefix_ok (t := [60, 33, 91, 67, 68, 65, 84, 65, 91]) ⟨_, rfl, br_false rfl ?_⟩
  refine hasPrefix_ok (t := [60, 33]) ⟨_, rfl, fun _ => ⟨by decide, by decide⟩, br_true rfl ?_⟩
  refine isLetter_ok (c := 68) ⟨_, rfl, ?_⟩
  refine br_true rfl ⟨by decide, by decide, fun _ => ⟨by decide, by decide⟩, br_false rfl ?_⟩
  refine h.stA 0 fun w h => ?_
  exact fin _ rfl _ (by decide) (by decide) (by decide) (by decide) h
 | script =>
  refine hasPrefix_ok (t := [60, 33, 45, 45]) ⟨_, rfl, br_false rfl ?_⟩
  refine hasPrefix_ok (t := [60, 63]) ⟨_, rfl, br_false rfl ?_⟩
  refine hasPrefix_ok (t := [60, 33, 91, 67, 68, 65, 84, 65, 91]) ⟨_, rfl, br_false rfl ?_⟩
  refine hasPrefix_ok (t := [60, 33]) ⟨_, rfl, fun h0 => absurd h0 (by decide), br_false rfl (br_false rfl ?_)⟩
  unfold g_parseState_startHTML.k1
  refine ⟨_, h.ldA, ?_⟩
  refine br_false (by rw [bs_toList, mk_toList]; rfl) ⟨fun _ => ⟨by decide, by decide⟩, br_false (by decide) ?_⟩
  refine tagLoop (e := 7) (by decide) (by decide) (fun k h1 h2 => (show ∀ k, k < 7 → 1 ≤ k → lowB (([60, 115, 99, 114, 105, 112, 116, 62] : List UInt8).getD k 0) = true by decide) k h2 h1) (by decide) h fun q c G w hBy h => ?_
  refine br_true (by decide) ⟨by decide, by decide, br_false (by decide) (br_false (by decide) ?_)⟩
  refine br_true (by decide) ⟨by decide, by decide, ?_⟩
  refine k9_ok (wd := [115, 99, 114, 105, 112, 116]) hBy h (by decide) (by decide) (fun h0 => absurd h0 (by decide)) fun _ w C h => ?_
  refine ⟨fun _ => ⟨by decide, by decide⟩, fun _ => ⟨by decide, by decide⟩, fun _ => ⟨by decide, by decide⟩, fun _ => ⟨by decide, by decide⟩, br_true (by decide) ?_⟩
  refine ⟨_, _, By.str (l := [115, 99, 114, 105, 112, 116]) hBy h, br_false ((tlE [115, 99, 114, 105, 112, 116] [112, 114, 101]).trans (by decide)) (br_true ((tlE [115, 99, 114, 105, 112, 116] [115, 99, 114, 105, 112, 116]).trans (by decide)) (br_true rfl ?_))⟩
  refine put (G ++ [C]) w (.inl rfl) h.re _ fun w p' M' hb HM a1 a2 a3 h => ?_
  refine hasPre_no (s := [60, 115, 99, 114, 105, 112, 116, 62]) (by decide) (by decide) σ _ _ w h fun w h => ⟨_, rfl, br_false rfl (hR w p' M' hb HM a1 a2 a3 h)⟩
 | pre =>
  refine hasPrefix_ok (t := [60, 33, 45, 45]) ⟨_, rfl, br_false rfl ?_⟩
  refine hasPrefix_ok (t := [60, 63]) ⟨_, rfl, br_false rfl ?_⟩
  refine hasPrefix_ok (t := [60, 33, 91, 67, 68, 65, 84, 65, 91]) ⟨_, rfl, br_false rfl ?_⟩
  refine hasPrefix_ok (t := [60, 33]) ⟨_, rfl, fun h0 => absurd h0 (by decide), br_false rfl (br_false rfl ?_)⟩
  unfold g_parseState_startHTML.k1
  refine ⟨_, h.ldA, ?_⟩
  refine br_false (by rw [bs_toList, mk_toList]; rfl) ⟨fun _ => ⟨by decide, by decide⟩, br_false (by decide) ?_⟩
  refine tagLoop (e := 4) (by decide) (by decide) (fun k h1 h2 => (show ∀ k, k < 4 → 1 ≤ k → lowB (([60, 112, 114, 101, 32, 97, 61, 34, 98, 34, 62] : List UInt8).getD k 0) = true by decide) k h2 h1) (by decide) h fun q c G w hBy h => ?_
  refine br_true (by decide) ⟨by decide, by decide, br_true (by decide) ?_⟩
  refine br_true rfl ⟨by decide, by decide, ?_⟩
  refine k9_ok (wd := [112, 114, 101]) hBy h (by decide) (by decide) (fun h0 => absurd h0 (by decide)) fun _ w C h => ?_
  refine ⟨fun _ => ⟨by decide, by decide⟩, fun _ => ⟨by decide, by decide⟩, fun _ => ⟨by decide, by decide⟩, fun _ => ⟨by decide, by decide⟩, br_true (by decide) ?_⟩
  refine ⟨_, _, By.str (l := [112, 114, 101]) hBy h, br_true ((tlE [112, 114, 101] [112, 114, 101]).trans (by decide)) (br_true rfl ?_)⟩
  refine put (G ++ [C]) w (.inl rfl) h.re _ fun w p' M' hb HM a1 a2 a3 h => ?_
  refine hasPre_no (s := [60, 112, 114, 101, 32, 97, 61, 34, 98, 34, 62]) (by decide) (by decide) σ _ _ w h fun w h => ⟨_, rfl, br_false rfl (hR w p' M' hb HM a1 a2 a3 h)⟩
 | div =>
  refine hasPrefix_ok (t := [60, 33, 45, 45]) ⟨_, rfl, br_false rfl ?_⟩
  refine hasPrefix_ok (t := [60, 63]) ⟨_, rfl, br_false rfl ?_⟩
  refine hasPrefix_ok (t := [60, 33, 91, 67, 68, 65, 84, 65, 91]) ⟨_, rfl, br_false rfl ?_⟩
  refine hasPrefix_ok (t := [60, 33]) ⟨_, rfl, fun h0 => absurd h0 (by decide), br_false rfl (br_false rfl ?_)⟩
  unfold g_parseState_startHTML.k1
  refine ⟨_, h.ldA, ?_⟩
  refine br_false (by rw [bs_toList, mk_toList]; rfl) ⟨fun _ => ⟨by decide, by decide⟩, br_false (by decide) ?_⟩
  refine tagLoop (e := 4) (by decide) (by decide) (fun k h1 h2 => (show ∀ k, k < 4 → 1 ≤ k → lowB (([60, 100, 105, 118, 32, 99, 108, 97, 115, 115, 61, 34, 97, 34, 62] : List UInt8).getD k 0) = true by decide) k h2 h1) (by decide) h fun q c G w hBy h => ?_
  refine br_true (by decide) ⟨by decide, by decide, br_true (by decide) ?_⟩
  refine br_true rfl ⟨by decide, by decide, ?_⟩
  refine k9_ok (wd := [100, 105, 118]) hBy h (by decide) (by decide) (fun _ w C h => ?_) fun h0 => absurd (show [100, 105, 118] ∈ tagNames by decide) h0
  exact put (G ++ [C]) w (.inr rfl) h.re _ hR
 | own =>
  refine hasPrefix_ok (t := [60, 33, 45, 45]) ⟨_, rfl, br_false rfl ?_⟩
  refine hasPrefix_ok (t := [60, 63]) ⟨_, rfl, br_false rfl ?_⟩
  refine hasPrefix_ok (t := [60, 33, 91, 67, 68, 65, 84, 65, 91]) ⟨_, rfl, br_false rfl ?_⟩
  refine hasPrefix_ok (t := [60, 33]) ⟨_, rfl, fun h0 => absurd h0 (by decide), br_false rfl (br_false rfl ?_)⟩
  unfold g_parseState_startHTML.k1
  refine ⟨_, h.ldA, ?_⟩
  refine br_false (by rw [bs_toList, mk_toList]; rfl) ⟨fun _ => ⟨by decide, by decide⟩, br_false (by decide) ?_⟩
  refine tagLoop (e := 4) (by decide) (by decide) (fun k h1 h2 => (show ∀ k, k < 4 → 1 ≤ k → lowB (([60, 111, 119, 110, 45, 116, 97, 103, 62] : List UInt8).getD k 0) = true by decide) k h2 h1) (by decide) h fun q c G w hBy h => ?_
  refine br_true (by decide) ⟨by decide, by decide, br_false (by decide) (br_false (by decide) ?_)⟩
  refine br_false (by decide) (br_false (by decide) ?_)
  refine ⟨fun _ => ⟨by decide, by decide⟩, fun _ => ⟨by decide, by decide⟩, fun _ => ⟨by decide, by decide⟩, fun _ => ⟨by decide, by decide⟩, br_false (by decide) ?_⟩
  have h : Sat σ w (p.at b :: M ++ (G ++ ((b20, cel [.string (bs [])] ty_string) :: (l.lead 3 false).at b0 :: l.at b1 :: L))) := h.re
  refine top_ok h hs hb (fun w h => ?_) (fun h0 => absurd h0 ht)
  rw [if_neg ht]
  refine ⟨_, rfl, _, _, eq_ptr_nil und_para none _ _ w, br_true rfl ?_⟩
  refine ownTag_ok h fun w u C h => ⟨_, _, _, rfl, br_true rfl ?_⟩
  refine skipSp_ok (l := [60, 111, 119, 110, 45, 116, 97, 103, 62]) (i := 9) (by decide) (by decide) ⟨_, rfl, br_true (by decide) (br_false (by decide) ?_)⟩
  exact put (G ++ [C]) w (.inr rfl) h.re _ hR
end Go.Proofs.YtgbgadkldalkbaaGreatDoor


set_option linter.unusedVariables false
namespace Go.Proofs.YtgbgadkldalkbaaGreatDoor
open Go.Proofs Go.IntWalk Go.RowKit
variable {σ : Out} {w : World} {L L' : List Chunk} {R : Ending → World → Prop}
def htmOB (hb s e : Nat) : OB := ⟨.iface ty_P_htmlBuilder (.pointer (some ⟨hb, 0, none⟩)), none, 0, 0, s, e⟩
theorem eqFields_any {xs ys : Array Value} : ∀ {fs : List Field} {gs : List (TypeId × Nat)}, fs.map (fun f => (f.name == "_", f.type, f.offset)) = gs.map (fun g => (false, g.1, g.2)) →
 (∀ g ∈ gs, ∃ u v r, (part g.1 xs g.2).run P w = .ok u w ∧ (part g.1 ys g.2).run P w = .ok v w ∧ (Op.equalIn 9999 g.1 u v).run P w = .ok r w) → ∃ r, (Op.eqFields 9999 xs ys fs).run P w = .ok r w
 | [], [], _, _ => ⟨_, rfl⟩
 | [], g :: gs, h, _ => by simp at h
 | f :: fs, [], h, _ => by simp at h
 | f :: fs, g :: gs, h, hg => by
  simp only [List.map_cons, List.cons.injEq, Prod.mk.injEq] at h
  obtain ⟨⟨h1, h2, h3⟩, h4⟩ := h
  obtain ⟨u, v, r, e1, e2, e3⟩ := hg g (List.mem_cons_self ..)
  obtain ⟨r2, ih⟩ := eqFields_any h4 (fun g' hg' => hg g' (List.mem_cons_of_mem _ hg'))
  have hn : f.name ≠ "_" := by simpa using h1
  rw [← h2, ← h3] at e1 e2
  rw [← h2] at e3
  simp only [Op.eqFields, ne_eq, hn, not_false_eq_true, if_true, Sem.run_bind, e1, e2, e3, Result.andThen_ok]
  cases r with
  | true => simp only [Bool.not_true, Bool.false_eq_true, if_false]; exact ⟨_, ih⟩
  | false => simp
theorem any_int {t : TypeId} {k : IntKind} (hu : P.underlying t = some (.int k)) {cs ds : Array Value} {i : Nat} {a b : Int} (hv : cs[i]? = some (.int k a)) (hw : ds[i]? = some (.int k b)) : ∃ u v r, (part t cs i).run P w = .ok u w ∧ (part t ds i).run P w = .ok v w ∧ (Op.equalIn 9999 t u v).run P w = .ok r w :=
 ⟨_, _, _, part_line hu (fun _ h => by cases h) (fun _ _ h => by cases h) hv w, part_line hu (fun _ h => by cases h) (fun _ _ h => by cases h) hw w, run_equalIn_int w 9998 t k k a b hu⟩
theorem any_str {cs ds : Array Value} {i : Nat} {a b : ByteArray} (hv : cs[i]? = some (.string a)) (hw : ds[i]? = some (.string b)) : ∃ u v r, (part ty_string cs i).run P w = .ok u w ∧ (part ty_string ds i).run P w = .ok v w ∧ (Op.equalIn 9999 ty_string u v).run P w = .ok r w :=
 ⟨_, _, _, part_line und_str (fun _ h => by cases h) (fun _ _ h => by cases h) hv w, part_line und_str (fun _ h => by cases h) (fun _ _ h => by cases h) hw w, run_equalIn_string w 9998 ty_string a b und_str⟩
theorem neq_lines (l m : Ln) (x y : Operand) (w : World) : ∃ r, (do eqGuard .neq ty_line x y l.val m.val; binOp .neq ty_line l.val m.val).run P w = .ok (.bool r) w := by
 have hg : (eqGuard .neq ty_line x y l.val m.val).run P w = .ok () w := run_eqGuard_agg w .neq ty_line x y _ _ (by kernel_rfl)
 have hb := run_neq_struct (P := P) w ty_line #[.int .i64 l.sp, .int .i64 l.i, .int .i64 l.tab, .string (bs l.text), .int .u8 l.nl.toNat] #[.int .i64 m.sp, .int .i64 m.i, .int .i64 m.tab, .string (bs m.text), .int .u8 m.nl.toNat]
 have he : ∃ r, (Op.equalIn 10000 ty_line (.agg #[.int .i64 l.sp, .int .i64 l.i, .int .i64 l.tab, .string (bs l.text), .int .u8 l.nl.toNat]) (.agg #[.int .i64 m.sp, .int .i64 m.i, .int .i64 m.tab, .string (bs m.text), .int .u8 m.nl.toNat])).run P w = .ok r w := by
  rw [run_equalIn_struct w 9999 ty_line _ _ (by kernel_rfl) (by kernel_rfl)]
  refine eqFields_any (gs := [(ty_int, 0), (ty_int, 1), (ty_int, 2), (ty_string, 3), (ty_uint8, 4)]) lineFields ?_
  intro g hg
  simp only [List.mem_cons, List.mem_nil_iff, or_false] at hg
  rcases hg with rfl | rfl | rfl | rfl | rfl
  ·exact any_int und_int rfl rfl
  ·exact any_int und_int rfl rfl
  ·exact any_int und_int rfl rfl
  ·exact any_str rfl rfl
  ·exact any_int und_u8 rfl rfl
 obtain ⟨r, he⟩ := he
 rw [Sem.run_bind, hg, Result.andThen_ok]
 refine ⟨!r, hb.trans ?_⟩
 rw [he]; rfl
end Go.Proofs.YtgbgadkldalkbaaGreatDoor


set_option linter.unusedVariables false
namespace Go.Proofs.YtgbgadkldalkbaaGreatDoor
open Go.Proofs Go.IntWalk Go.RowKit
variable {σ : Out} {w : World} {L L' : List Chunk} {R : Ending → World → Prop}
def htmlDB (nb s e : Nat) (q : Option Addr) (n c : Nat) (SM : List Chunk) : DB := ⟨.iface ty_P_HTMLBlock (.pointer (some ⟨nb, 0, none⟩)), hblC nb s e q n c :: SM, []⟩
def HtmDone (ls : List (List UInt8)) (d : DB) : Prop := ∃ nb s e q c SM, Sl 1 ty_string q ls.length c (sv ls) SM ∧ d = htmlDB nb s e q ls.length c SM
theorem HtmDone.txs {ls : List (List UInt8)} {d : DB} (h : HtmDone ls d) : d.txs = [] := by
 obtain ⟨nb, s, e, q, c, SM, _, rfl⟩ := h; rfl
end Go.Proofs.YtgbgadkldalkbaaGreatDoor


set_option linter.unusedVariables false
namespace Go.Proofs.YtgbgadkldalkbaaGreatDoor
open Go.Proofs Go.IntWalk Go.RowKit
variable {σ : Out} {w : World} {L L' : List Chunk} {R : Ending → World → Prop}
theorem closeHtmE_ok {b hb s e : Nat} {p : PS} {ob : List OB} {par : OB} {M HM IM : List Chunk} {inner : List Value} {E : HE} {ls : List (List UInt8)} (h : Sat σ w (p.at b :: M ++ (IM ++ (HM ++ L)))) (hs : Stk p (ob ++ [par] ++ [htmOB hb s e]) M)
 (hI : Sl 1 ty_Block par.q par.n par.c inner IM) (hin : par.n < 1000000) (hH : HtmE hb E ls HM)
 (hR : ∀ w p' M' IM' nb q c SM q' c' x, p' = { p with stn := ob.length + 1 } → Stk p' (ob ++ [{ par with q := q', n := par.n + 1, c := c' }]) M' → Sl 1 ty_string q ls.length c (sv ls) SM →
  Sl 1 ty_Block q' (par.n + 1) c' (inner ++ [.iface ty_P_HTMLBlock (.pointer (some ⟨nb, 0, none⟩))]) IM' → Sat σ w (p'.at b :: M' ++ (IM' ++ (hblC nb s e q ls.length c :: (SM ++ L)))) → R (.returned x) w) :
 callE P i_parseState_closeBlock #[.pointer (some ⟨b, 0, none⟩)] R w := by
 refine closeBlock_ok (ob := ob) (par := par) (o := htmOB hb s e) (IM := IM) (inner := inner) (fun p1 L1 tb q => ∃ nb q1 c SM, p1 = p ∧ Sl 1 ty_string q1 ls.length c (sv ls) SM ∧ L1 = hblC nb s e q1 ls.length c :: (SM ++ L) ∧ tb = ty_P_HTMLBlock ∧ q = some ⟨nb, 0, none⟩) h hs rfl hI hin ?_ ?_
 ·intro R' w h hk
  have h : Sat σ w (p.at b :: M ++ (HM ++ (IM ++ L))) := h.re
  refine enter_meth meth_htmBuild ?_
  refine htmBuildE_ok h hs hH fun w nb q c SM hS h => ?_
  have h : Sat σ w (p.at b :: M ++ (hblC nb s e q ls.length c :: (SM ++ (IM ++ L)))) := h
  exact hk w p _ ty_P_HTMLBlock _ rfl rfl rfl (by decide) ⟨nb, q, c, SM, rfl, hS, rfl, rfl, rfl⟩ (h.re)
 ·intro w p2 M2 IM2 p1 L1 tb q q' c' hpost hp2 hs2 hI2 h
  obtain ⟨nb, q1, c, SM, rfl, hS, rfl, rfl, rfl⟩ := hpost
  exact hR w p2 M2 IM2 nb q1 c SM q' c' _ hp2 hs2 hS hI2 h
theorem addLine_htmE {b hb s e : Nat} {p : PS} {r : OB} {M HM : List Chunk} {E : HE} {y : Bool} {ls : List (List UInt8)} {l : Ln} (h : Sat σ w (p.at b :: M ++ (HM ++ L))) (hs : Stk p [r, htmOB hb s e] M) (hH : HtmE hb E ls HM) (hl : l.ok)
 (hls : ls.length < 1048576) (hbl : E = .blank → l.blank = false) (he : E.ends l.str y)
 (hno : y = false → ∀ w p' M' HM' e', p' = { p with depth := 1 } → Stk p' [r, htmOB hb s e'] M' → HtmE hb E (ls ++ [l.str]) HM' → Sat σ w (p'.at b :: M' ++ (HM' ++ L)) → R (.returned (.tuple #[])) w)
 (hyes : y = true → ∀ w p' M' HM' e' b1 b2, p' = { p with depth := 0 } → Stk p' [r, htmOB hb s e'] M' → HtmE hb E (ls ++ [l.str]) HM' → Sat σ w (p'.at b :: M' ++ (HM' ++ (l.at b2 :: Ln.zero.at b1 :: L))) →
  callE P i_parseState_trimStack #[.pointer (some ⟨b, 0, none⟩), .int .i64 1] (fun e w => e = .returned (.tuple #[]) ∧ R (.returned (.tuple #[])) w) w) :
 callE P i_parseState_addLine #[.pointer (some ⟨b, 0, none⟩), l.val] R w := by
 have hn : p.stn = 2 := hs.2.1
 have hz : Ln.zero.ok := ⟨by decide, by decide, by decide, by decide⟩
 have hzb : Ln.zero.blank = true := rfl
 refine g_parseState_addLine.sound ?_
 refine Sat.bx h fun b1 w h => ?_
 repeat (first | refine nilP_some ?_ | refine h.tk fun w h => ?_ | refine ⟨_, h.ldA, ?_⟩ | refine ⟨_, _, _, h.ldA, ?_⟩ | refine h.stA 0 fun w h => ?_ | refine h.stA 1 fun w h => ?_ | refine h.stA 2 fun w h => ?_ | refine h.stA 3 fun w h => ?_ | refine h.stA 4 fun w h => ?_ | refine h.stA 5 fun w h => ?_ | refine h.stA 6 fun w h => ?_ | refine h.bx fun b0 w h => ?_)
 let p1 : PS := { p with depth := 0 }
 have h : Sat σ _ (l.at b1 :: p1.at b :: (M ++ (HM ++ L))) := h
 intro X hX
 refine hX _ _ _ ?_
 repeat (first | refine nilP_some ?_ | refine h.tk fun w h => ?_ | refine ⟨_, h.ldA, ?_⟩ | refine ⟨_, _, _, h.ldA, ?_⟩)
 rw [show p1.stn = 2 from hn]
 refine br_true rfl ?_
 repeat (first | refine nilP_some ?_ | refine h.tk fun w h => ?_ | refine ⟨_, h.ldA, ?_⟩ | refine ⟨_, _, _, h.ldA, ?_⟩ | refine h.stA 0 fun w h => ?_ | refine h.stA 1 fun w h => ?_ | refine h.stA 2 fun w h => ?_ | refine h.stA 3 fun w h => ?_ | refine h.stA 4 fun w h => ?_ | refine h.stA 5 fun w h => ?_ | refine h.stA 6 fun w h => ?_ | refine h.bx fun b0 w h => ?_)
 have h : Sat σ _ (l.at b0 :: l.at b1 :: p1.at b :: (M ++ (HM ++ L))) := h
 obtain ⟨sb, sp, hq, hM, hsp⟩ := hs.split (by simp)
 rw [show p1.stn = 2 from hn, show p1.stq = some ⟨sb, 0, none⟩ from hq]
 rw [show IntKind.i64.wrap (p1.depth + 1) = 1 from rfl]
 refine ⟨by decide, by decide, nilP_some ?_⟩
 simp only [Addr.add_lit, Nat.zero_add]
 have hmem : (sb, cel (obCells [r, htmOB hb s e] ++ sp) ty_openBlock) ∈ (l.at b0 :: l.at b1 :: p1.at b :: (M ++ (HM ++ L))) := by rw [hM]; simp
 refine ⟨_, Sat.ld h hmem (stk_get (j := 1) (f := 0) (by decide) rfl), ?_⟩
 refine ⟨_, h.ldA, ?_⟩
 refine ⟨_, h.ldA, ?_⟩
 refine ⟨_, h.ldA, ?_⟩
 refine ⟨_, h.ldA, ?_⟩
 refine ⟨_, h.ldA, ?_⟩
 refine enter_meth meth_htmExtend ?_
 have h : Sat σ _ (HM ++ (l.at b0 :: l.at b1 :: p1.at b :: (M ++ L))) := h.re
 refine htmExtendE_ok h hH hl hls hbl he fun w HM' hH' h => ⟨_, _, _, _, _, _, rfl, ?_⟩
 have h : Sat σ w (l.at b0 :: l.at b1 :: p1.at b :: (M ++ (HM' ++ L))) := h.re
 refine h.stA 1 fun w h => ?_
 refine h.stA 1 fun w h => ?_
 refine h.stA 1 fun w h => ?_
 refine h.stA 1 fun w h => ?_
 refine h.stA 1 fun w h => ?_
 have h : Sat σ w (l.at b0 :: Ln.zero.at b1 :: p1.at b :: (M ++ (HM' ++ L))) := h
 refine isBlank_ok h (.head _) hl fun w h => ⟨_, rfl, ?_⟩
 have hs1 : Stk p1 [r, htmOB hb s e] M := hs.of rfl rfl rfl
 have kE : ∀ x5 x59 w, Sat σ w (l.at b0 :: Ln.zero.at b1 :: p1.at b :: (M ++ (HM' ++ L))) → (∀ w M' e', Stk p1 [r, htmOB hb s e'] M' → Sat σ w (l.at b0 :: Ln.zero.at b1 :: p1.at b :: (M' ++ (HM' ++ L))) →
  br (!x5) (g_parseState_addLine.k2 R (some ⟨b, 0, none⟩) b1 w) (g_parseState_addLine.k3 R X (some ⟨b, 0, none⟩) b1 w)) → g_parseState_addLine.k1 R X (some ⟨b, 0, none⟩) b1 x5 x59 w := by
  intro x5 x59 w h hk
  cases x59 with
  | false => exact br_false rfl (hk w M e hs1 h)
  | true =>
   refine br_true rfl ?_
   repeat (first | refine nilP_some ?_ | refine h.tk fun w h => ?_ | refine ⟨_, h.ldA, ?_⟩ | refine ⟨_, _, _, h.ldA, ?_⟩)
   rw [show p1.stn = 2 from hn, show p1.stq = some ⟨sb, 0, none⟩ from hq]
   rw [show IntKind.i64.wrap (p1.depth + 1) = 1 from rfl]
   refine ⟨by decide, by decide, nilP_some ?_⟩
   simp only [Addr.add_lit, Nat.zero_add]
   rw [hM] at h
   have h : Sat σ _ (l.at b0 :: Ln.zero.at b1 :: p1.at b :: (sb, cel (obCells ([r] ++ [htmOB hb s e]) ++ sp) ty_openBlock) :: (HM' ++ L)) := h
   refine Sat.st h (k := 3) rfl (by rw [List.length_append, obCells_length]; simp; omega) trivial rfl fun w h => ?_
   have h : Sat σ w (l.at b0 :: Ln.zero.at b1 :: p1.at b :: (sb, cel (obCells ([r] ++ [htmOB hb s p.lineno]) ++ sp) ty_openBlock) :: (HM' ++ L)) := by
    have e0 := stk_set (l := [r]) (sp := sp) (o := htmOB hb s e) (o' := htmOB hb s p.lineno) (f := 3) (v := .int .i64 p.lineno) (by decide) rfl
    have h := h
    rw [← e0]
    exact h
   refine hk w [(sb, cel (obCells [r, htmOB hb s p.lineno] ++ sp) ty_openBlock)] p.lineno ?_ h
   refine Stk.mk' hq ?_ hn (by simp)
   rw [← hsp, List.length_append, List.length_append, obCells_length, obCells_length]
   rfl
 cases y with
 | false =>
  have fin : ∀ x59 w, Sat σ w (l.at b0 :: Ln.zero.at b1 :: p1.at b :: (M ++ (HM' ++ L))) → g_parseState_addLine.k1 R X (some ⟨b, 0, none⟩) b1 true x59 w := by
   intro x59 w h
   refine kE true x59 w h fun w M' e' hs' h => br_false rfl ?_
   unfold g_parseState_addLine.k3
   refine nilP_some ?_
   refine ⟨_, h.ldA, ?_⟩
   refine nilP_some ?_
   rw [show IntKind.i64.wrap (p1.depth + 1) = 1 from rfl]
   refine Sat.st h (k := 2) rfl (by simp [PS.cells]) trivial rfl fun w h => ?_
   let p2 : PS := { p with depth := 1 }
   have h : Sat σ w (l.at b0 :: Ln.zero.at b1 :: p2.at b :: (M' ++ (HM' ++ L))) := h
   refine hX _ _ _ ?_
   repeat (first | refine nilP_some ?_ | refine h.tk fun w h => ?_ | refine ⟨_, h.ldA, ?_⟩ | refine ⟨_, _, _, h.ldA, ?_⟩)
   rw [show p2.stn = 2 from hn]
   refine br_false rfl ?_
   unfold g_parseState_addLine.k2
   refine isBlank_ok (l := Ln.zero) h (.tail _ (.head _)) hz fun w h => ⟨_, rfl, ?_⟩
   refine br_true hzb (nilP_some ?_)
   refine ⟨_, h.ldA, ?_⟩
   have h : Sat σ w (p2.at b :: (l.at b0 :: Ln.zero.at b1 :: (M' ++ (HM' ++ L)))) := h.re
   refine trimStack_noop h (by rw [show p2.stn = 2 from hn]; rfl) fun w h => ⟨rfl, ?_⟩
   refine hno rfl w p2 M' HM' e' rfl (hs'.of rfl rfl rfl) hH' ?_
   exact h.less [l.at b0, Ln.zero.at b1]
  exact br_split (fun _ => br_true rfl (fin _ _ h)) (fun _ => fin _ _ h)
 | true =>
  have fin : ∀ x59 w, Sat σ w (l.at b0 :: Ln.zero.at b1 :: p1.at b :: (M ++ (HM' ++ L))) → g_parseState_addLine.k1 R X (some ⟨b, 0, none⟩) b1 false x59 w := by
   intro x59 w h
   refine kE false x59 w h fun w M' e' hs' h => br_true rfl ?_
   unfold g_parseState_addLine.k2
   refine isBlank_ok (l := Ln.zero) h (.tail _ (.head _)) hz fun w h => ⟨_, rfl, ?_⟩
   refine br_true hzb (nilP_some ?_)
   refine ⟨_, h.ldA, ?_⟩
   rw [show IntKind.i64.wrap (p1.depth + 1) = 1 from rfl]
   exact hyes rfl w p1 M' HM' e' b1 b0 rfl hs' hH' (h.re)
  refine br_split (fun _ => br_false rfl ?_) (fun _ => fin _ _ h)
  refine ⟨_, h.ldA, ?_⟩
  refine ⟨_, h.ldA, ?_⟩
  refine ⟨_, h.ldA, ?_⟩
  refine ⟨_, h.ldA, ?_⟩
  refine ⟨_, h.ldA, ?_⟩
  refine ⟨_, h.ldA, ?_⟩
  refine ⟨_, h.ldA, ?_⟩
  refine ⟨_, h.ldA, ?_⟩
  refine ⟨_, h.ldA, ?_⟩
  refine ⟨_, h.ldA, ?_⟩
  obtain ⟨r0, hr0⟩ := neq_lines Ln.zero l (.tmp 55) (.tmp 56) w
  exact ⟨r0, w, hr0, fin _ _ h⟩

def htmLeafE (E : HE) (ls : List (List UInt8)) : Leaf := .other fun ob M => ∃ hb s e, ob = [htmOB hb s e] ∧ HtmE hb E ls M
theorem addLine_htmE0 {b : Nat} {p : PS} {root : Bk} (hroot : root.isRoot) {s : List UInt8} {E : HE} {l : Ln} (h : DocC σ b L [root] .none p w) (hB : HK s E) (hl : l.ok) (hbl : l.blank = false) (hqu : l.quote = none) (hhd : l.heading = none) (hhr : l.isHR = false) (hbu : isBullet (l.strip 3 0).2.peek = false) (hp : (l.lead 3 false).peek = 60) (hst : (l.lead 3 false).str = s) (hstr : l.str = s)
 (hR : ∀ w (p' : PS), p'.base = p.base → p'.lineno = p.lineno → DocC σ b L [root] (htmLeafE E [s]) p' w → R (.returned (.tuple #[])) w) :
 callE P i_parseState_addLine #[.pointer (some ⟨b, 0, none⟩), l.val] R w := by
 obtain ⟨M, TM, lobs, LM, hs, ht, hok, ⟨rfl, rfl⟩, h⟩ := h
 obtain ⟨rb, hr, hown⟩ := hroot
 generalize hro : root.ob = r at hr
 have hs : Stk p ([] ++ [r]) M := by simpa [hro] using hs
 refine g_parseState_addLine.sound ?_
 refine Sat.bx h fun b1 w h => ?_
 repeat (first | refine nilP_some ?_ | refine h.tk fun w h => ?_ | refine ⟨_, h.ldA, ?_⟩ | refine ⟨_, _, _, h.ldA, ?_⟩ | refine h.stA 0 fun w h => ?_ | refine h.stA 1 fun w h => ?_ | refine h.stA 2 fun w h => ?_ | refine h.stA 3 fun w h => ?_ | refine h.stA 4 fun w h => ?_ | refine h.stA 5 fun w h => ?_ | refine h.stA 6 fun w h => ?_ | refine h.bx fun b0 w h => ?_)
 let p1 : PS := { p with depth := 0 }
 have hs1 : Stk p1 ([] ++ [r]) M := hs
 have h : Sat σ _ (l.at b1 :: p1.at b :: (M ++ (TM ++ (memFs [root] ++ L)))) := h
 intro X hX
 refine hX _ _ _ ?_
 repeat (first | refine nilP_some ?_ | refine h.tk fun w h => ?_ | refine ⟨_, h.ldA, ?_⟩ | refine ⟨_, _, _, h.ldA, ?_⟩)
 have hn : p1.stn = 1 := hs.2.1
 rw [hn]
 refine br_false rfl ?_
 refine isBlank_ok h (by first | assumption | (repeat (first | exact .head _ | apply List.Mem.tail))) hl fun w h => ⟨_, rfl, ?_⟩
 rw [hbl]
 refine br_false rfl ?_
 have h : Sat σ w (p1.at b :: M ++ (l.at b1 :: (TM ++ (memFs [root] ++ L)))) := h.re
 refine bl102_take 5 (by decide) h ?_ fun w nb e R' h hk => ?_
 ·intro j hj h5 σ w L R h hR
  match j, h5 with
  | 0, _ => exact newQuote_no (x := .nilIface) h hl hqu hR
  | 1, _ => exact newATX_no h hl hhd hR
  | 2, _ => exact newSetext_no h hs1 rfl rfl hr (by decide) hl hR
  | 3, _ => exact newHR_no h hl hhr hR
  | 4, _ => exact LDecl.of_peek hl hbu b 0 p1 [r] r M _ _ hs1 rfl rfl hr (by decide) σ w L R h hR
 ·show callE P i_newHTML _ R' w
  refine g_newHTML.sound ?_
  refine Sat.bx h fun b2 w h => ?_
  refine Sat.bx h fun b3 w h => ?_
  repeat (first | refine nilP_some ?_ | refine h.tk fun w h => ?_ | refine ⟨_, h.ldA, ?_⟩ | refine ⟨_, _, _, h.ldA, ?_⟩ | refine h.stA 0 fun w h => ?_ | refine h.stA 1 fun w h => ?_ | refine h.stA 2 fun w h => ?_ | refine h.stA 3 fun w h => ?_ | refine h.stA 4 fun w h => ?_ | refine h.stA 5 fun w h => ?_ | refine h.stA 6 fun w h => ?_ | refine h.bx fun b0 w h => ?_)
  have h : Sat σ _ (l.at b0 :: zLn b3 :: l.at b2 :: (p1.at b :: M ++ (l.at b1 :: (nb, cel newsC e) :: (TM ++ (memFs [root] ++ L))))) := h
  have h : Sat σ _ (l.at b0 :: (p1.at b :: M ++ (zLn b3 :: l.at b2 :: (nb, cel newsC e) :: (l.at b1 :: (TM ++ (memFs [root] ++ L)))))) := h.re
  refine startHTML_all h hs1 hr (by decide) rfl (by simp) hl hp hst hB fun w p' M' hb HM hp' hH hs' h => ⟨_, rfl, br_true rfl ?_⟩
  rw [hstr] at hH
  have h : Sat σ w (zLn b3 :: (p'.at b :: M' ++ (HM ++ (l.at b0 :: l.at b2 :: (nb, cel newsC e) :: (l.at b1 :: (TM ++ (memFs [root] ++ L))))))) := h.re
  repeat (first | refine nilP_some ?_ | refine h.tk fun w h => ?_ | refine ⟨_, h.ldA, ?_⟩ | refine ⟨_, _, _, h.ldA, ?_⟩ | refine h.stA 0 fun w h => ?_ | refine h.stA 1 fun w h => ?_ | refine h.stA 2 fun w h => ?_ | refine h.stA 3 fun w h => ?_ | refine h.stA 4 fun w h => ?_ | refine h.stA 5 fun w h => ?_ | refine h.stA 6 fun w h => ?_ | refine h.bx fun b0 w h => ?_)
  have h : Sat σ _ (zLn b3 :: (p'.at b :: M' ++ (HM ++ (l.at b0 :: l.at b2 :: (nb, cel newsC e) :: (l.at b1 :: (TM ++ (memFs [root] ++ L))))))) := h
  have h : Sat σ _ (l.at b1 :: (p'.at b :: M' ++ (HM ++ (zLn b3 :: l.at b0 :: l.at b2 :: (nb, cel newsC e) :: (TM ++ (memFs [root] ++ L)))))) := h.re
  refine hk _ _ h fun w h => ?_
  refine hR w p' (by rw [hp']; rfl) (by rw [hp']) ⟨M', TM, [htmOB hb p1.lineno p1.lineno], HM, ?_, ht.of (by rw [hp']) (by rw [hp']) (by rw [hp']), hok, ⟨hb, _, _, rfl, hH⟩, ?_⟩
  ·have hs' : Stk p' ([] ++ [r] ++ [htmOB hb p1.lineno p1.lineno]) M' := hs'
   simpa [hro] using hs'
  exact h.less (zLn b3 :: l.at b0 :: l.at b2 :: [(nb, cel newsC e)])
theorem addLine_htmE1 {b : Nat} {p : PS} {root : Bk} {E : HE} {ls : List (List UInt8)} {l : Ln} (h : DocC σ b L [root] (htmLeafE E ls) p w) (hl : l.ok) (hls : ls.length < 1048576) (hbl : E = .blank → l.blank = false) (he : E.ends l.str false)
 (hR : ∀ w (p' : PS), p'.base = p.base → p'.lineno = p.lineno → DocC σ b L [root] (htmLeafE E (ls ++ [l.str])) p' w → R (.returned (.tuple #[])) w) :
 callE P i_parseState_addLine #[.pointer (some ⟨b, 0, none⟩), l.val] R w := by
 obtain ⟨M, TM, lobs, LM, hs, ht, hok, ⟨hb, s, e, rfl, hH⟩, h⟩ := h
 have h : Sat σ w (p.at b :: M ++ (LM ++ (TM ++ (memFs [root] ++ L)))) := h.re
 refine addLine_htmE h hs hH hl hls hbl he (fun _ w p' M' HM' e' hp' hs' hH' h => ?_) (fun hx => absurd hx (by decide))
 refine hR w p' (by rw [hp']; rfl) (by rw [hp']) ⟨M', TM, [htmOB hb s e'], HM', hs', ht.of (by rw [hp']) (by rw [hp']) (by rw [hp']), hok, ⟨hb, s, e', rfl, hH'⟩, h.re⟩
theorem closeHtmC {b : Nat} {p : PS} {root : Bk} {E : HE} {ls : List (List UInt8)} (h : DocC σ b L [root] (htmLeafE E ls) p w) (hD : root.D.length < 90000)
 (hR : ∀ w (root' : Bk) d x, root'.ob.bd = root.ob.bd → root'.own = root.own → root'.D = root.D ++ [d] → HtmDone ls d → DocC σ b L [root'] .none { p with stn := 1 } w → R (.returned x) w) :
 callE P i_parseState_closeBlock #[.pointer (some ⟨b, 0, none⟩)] R w := by
 obtain ⟨M, TM, lobs, LM, hs, ht, hok, ⟨hb, s, e, rfl, hH⟩, h⟩ := h
 have hrok := hok root (by simp)
 have hIl := hrok.1.1
 simp only [List.length_map, Nat.mul_one] at hIl
 rw [memFs_one] at h
 have h : Sat σ w (p.at b :: M ++ (root.IM ++ (LM ++ (TM ++ (root.own ++ (ownC root.D ++ (txc root.D ++ L))))))) := h.re
 refine closeHtmE_ok (ob := []) (par := root.ob) h hs hrok.1 (by omega) hH fun w p2 M2 IM2 nb q c SM q' c' x hp2 hs2 hS hI2 h => ?_
 refine hR w ⟨{ root.ob with q := q', n := root.ob.n + 1, c := c' }, root.own, root.D ++ [htmlDB nb s e q ls.length c SM], IM2⟩ (htmlDB nb s e q ls.length c SM) x rfl rfl rfl ⟨nb, s, e, q, c, SM, hS, rfl⟩ ?_
 subst hp2
 have hTX : txsC (root.D ++ [htmlDB nb s e q ls.length c SM]) = txsC root.D := by rw [txsC_snoc]; simp [htmlDB]
 refine ⟨M2, TM, [], [], hs2, ?_, ?_, ⟨rfl, rfl⟩, ?_⟩
 ·rw [txF_one] at ht ⊢
  show Txts _ ((txsC (root.D ++ [htmlDB nb s e q ls.length c SM])).map TX.t) TM
  rw [hTX]
  exact ht.of rfl rfl rfl
 ·intro f hf
  obtain rfl := List.mem_singleton.1 hf
  refine ⟨?_, by simp; omega, hrok.2.2.1, hrok.2.2.2⟩
  show Sl 1 ty_Block q' (root.ob.n + 1) c' ((root.D ++ [htmlDB nb s e q ls.length c SM]).map DB.v) IM2
  rw [List.map_append]; exact hI2
 ·rw [memFs_one]
  show Sat σ w (PS.at b { p with stn := 1 } :: M2 ++ (TM ++ ((IM2 ++ (root.own ++ (ownC (root.D ++ [htmlDB nb s e q ls.length c SM]) ++ txc (root.D ++ [htmlDB nb s e q ls.length c SM])))) ++ ([] ++ L))))
  rw [ownC_snoc, txc, hTX]
  have h : Sat σ w (PS.at b { p with stn := 1 } :: M2 ++ (IM2 ++ (hblC nb s e q ls.length c :: (SM ++ (TM ++ (root.own ++ (ownC root.D ++ ((txsC root.D).map TX.chunk ++ L)))))))) := h
  show Sat σ w (PS.at b { p with stn := 1 } :: M2 ++ (TM ++ ((IM2 ++ (root.own ++ ((ownC root.D ++ (hblC nb s e q ls.length c :: SM)) ++ (txsC root.D).map TX.chunk))) ++ ([] ++ L))))
  exact h.re
end Go.Proofs.YtgbgadkldalkbaaGreatDoor


set_option linter.unusedVariables false
namespace Go.Proofs.YtgbgadkldalkbaaGreatDoor
open Go.Proofs Go.IntWalk Go.RowKit
variable {σ : Out} {w : World} {L L' : List Chunk} {R : Ending → World → Prop}
theorem sub_self (s : List UInt8) (i : Nat) : sub s i i = [] := List.drop_eq_nil_of_le (by rw [List.length_take]; omega)
end Go.Proofs.YtgbgadkldalkbaaGreatDoor


set_option linter.unusedVariables false
namespace Go.Proofs.YtgbgadkldalkbaaGreatDoor
open Go.Proofs Go.IntWalk Go.RowKit
variable {σ : Out} {w : World} {L L' : List Chunk} {R : Ending → World → Prop}
theorem bareN_one {h : IH} {x : IN} (hk : x.h.kind ≠ 13) : bareN (.mk h [x]) = .mk (bareH h) [bareN x] := by
 rw [bareN, bareL, bareL, if_neg hk]; rfl
theorem fenced_one {h : IH} {x : IN} (hk : h.kind ≠ 7) (hx : x.fenced) : (IN.mk h [x]).fenced := by
 rw [fenced_mk]
 refine ⟨fun h7 => absurd h7 hk, ?_⟩
 rw [fenced_cons]
 exact ⟨hx, by rw [fencedL]; trivial⟩
end Go.Proofs.YtgbgadkldalkbaaGreatDoor


set_option linter.unusedVariables false
namespace Go.Proofs.YtgbgadkldalkbaaGreatDoor
open Go.Proofs Go.IntWalk Go.RowKit
variable {σ : Out} {w : World} {L L' : List Chunk} {R : Ending → World → Prop}
theorem linesOf_raw {t : List UInt8} {rem : List (List UInt8 × UInt8)} (ht : LinesOf t rem) : ∀ ls : List (List UInt8), (∀ l ∈ ls, noNL l) → LinesOf (rawOut ls ++ t) (ls.map (fun l => (l, 10)) ++ rem)
 | [], _ => ht
 | l :: ls, h => by
  have e1 : rawOut (l :: ls) ++ t = l ++ 10 :: (rawOut ls ++ t) := by simp [rawOut]
  rw [e1]
  exact .cons (h l (by simp)) (linesOf_raw ht ls fun x hx => h x (List.mem_cons_of_mem _ hx))
theorem lnOf_str (l : List UInt8) (nl : UInt8) : (lnOf l nl).str = l := by simp [Ln.str, lnOf]
end Go.Proofs.YtgbgadkldalkbaaGreatDoor


set_option linter.unusedVariables false
namespace Go.Proofs.YtgbgadkldalkbaaGreatDoor
open Go.Proofs Go.IntWalk Go.RowKit
variable {σ : Out} {w : World} {L L' : List Chunk} {R : Ending → World → Prop}
theorem addLine_htmE2 {b : Nat} {p : PS} {root : Bk} {E : HE} {ls : List (List UInt8)} {l : Ln} (h : DocC σ b L [root] (htmLeafE E ls) p w) (hl : l.ok) (hls : ls.length < 1048576) (hbl : E = .blank → l.blank = false) (he : E.ends l.str true) (hD : root.D.length < 90000)
 (hR : ∀ w (p' : PS) (root' : Bk) d, p'.base = p.base → p'.lineno = p.lineno → root'.ob.bd = root.ob.bd → root'.own = root.own → root'.D = root.D ++ [d] → HtmDone (ls ++ [l.str]) d → DocC σ b L [root'] .none p' w → R (.returned (.tuple #[])) w) :
 callE P i_parseState_addLine #[.pointer (some ⟨b, 0, none⟩), l.val] R w := by
 obtain ⟨M, TM, lobs, LM, hs, ht, hok, ⟨hb, s, e, rfl, hH⟩, h⟩ := h
 have h : Sat σ w (p.at b :: M ++ (LM ++ (TM ++ (memFs [root] ++ L)))) := h.re
 refine addLine_htmE h hs hH hl hls hbl he (fun hx => absurd hx (by decide)) fun _ w p' M' HM' e' b1 b2 hp' hs' hH' h => ?_
 have hn : p'.stn = 2 := hs'.2.1
 have hd : DocC σ b (l.at b2 :: Ln.zero.at b1 :: L) [root] (htmLeafE E (ls ++ [l.str])) p' w := ⟨M', TM, [htmOB hb s e'], HM', hs', ht.of (by rw [hp']) (by rw [hp']) (by rw [hp']), hok, ⟨hb, s, e', rfl, hH'⟩, h.re⟩
 refine g_parseState_trimStack.sound ?_
 refine nilP_some ?_
 have h : Sat σ w (p'.at b :: (M' ++ (HM' ++ (l.at b2 :: Ln.zero.at b1 :: (TM ++ (memFs [root] ++ L)))))) := h
 refine ⟨_, _, _, h.ldA, ?_⟩
 rw [hn]
 refine br_false rfl ?_
 intro X hX
 refine hX _ _ _ (nilP_some ?_)
 refine ⟨_, _, _, h.ldA, ?_⟩
 rw [hn]
 refine br_true rfl ?_
 refine closeHtmC hd hD fun w root' d x c1 c2 c3 c4 h => ⟨_, rfl, ?_⟩
 obtain ⟨M2, TM2, lobs, LM, hs2, ht2, hok2, ⟨rfl, rfl⟩, h⟩ := h
 refine hX _ _ _ (nilP_some ?_)
 have h : Sat σ w (PS.at b { p' with stn := 1 } :: (M2 ++ (TM2 ++ (memFs [root'] ++ ([] ++ (l.at b2 :: Ln.zero.at b1 :: L)))))) := h
 refine ⟨_, _, _, h.ldA, ?_⟩
 refine br_false rfl ⟨rfl, ?_⟩
 refine hR w { p' with stn := 1 } root' d (by rw [hp']; rfl) (by rw [hp']) c1 c2 c3 c4 ⟨M2, TM2, [], [], hs2, ht2, hok2, ⟨rfl, rfl⟩, ?_⟩
 exact h.less [l.at b2, Ln.zero.at b1]
theorem findSub_noHd0 {c : UInt8} {t l : List UInt8} (hc : c ∉ l) : ∀ k i, findSub (c :: t) l k i = none
 | 0, _ => rfl
 | k + 1, i => by
  simp only [findSub]
  split
  ·rename_i hl
   rw [if_neg, findSub_noHd0 hc k (i + 1)]
   intro he
   simp only [List.length_cons] at hl
   have hil : i < l.length := by omega
   rw [List.drop_eq_getElem_cons hil, List.length_cons, List.take_succ_cons] at he
   exact hc ((List.cons.inj he).1 ▸ List.getElem_mem hil)
  ·rfl
theorem idx_noHd0 {c : UInt8} {t l : List UInt8} (hc : c ∉ l) : idx l (c :: t) = none := findSub_noHd0 hc _ _
def opB : Nat → List UInt8
 | 0 => [60, 115, 99, 114, 105, 112, 116, 62]
 | 1 => [60, 112, 114, 101, 32, 97, 61, 34, 98, 34, 62]
 | 2 => [60, 33, 45, 45, 32, 97]
 | 3 => [60, 63, 112, 104, 112]
 | 4 => [60, 33, 68, 79, 67, 84, 89, 80, 69, 32, 104, 116, 109, 108]
 | 5 => [60, 33, 91, 67, 68, 65, 84, 65, 91]
 | 6 => [60, 100, 105, 118, 32, 99, 108, 97, 115, 115, 61, 34, 97, 34, 62]
 | _ => [60, 111, 119, 110, 45, 116, 97, 103, 62]
def clB : Nat → List UInt8
 | 0 => [60, 47, 115, 99, 114, 105, 112, 116, 62]
 | 1 => [97, 60, 47, 80, 82, 69, 62, 32, 98]
 | 2 => [98, 32, 45, 45, 62, 32, 99]
 | 3 => [63, 62]
 | 4 => [62]
 | 5 => [93, 93, 62, 32, 42, 97, 42]
 | 6 => [60, 47, 100, 105, 118, 62]
 | _ => [60, 47, 111, 119, 110, 45, 116, 97, 103, 62]
def enE : Nat → HE
 | 0 => .pre
 | 1 => .pre
 | 2 => .fn [45, 45, 62]
 | 3 => .fn [63, 62]
 | 4 => .fn [62]
 | 5 => .fn [93, 93, 62]
 | _ => .blank
theorem lt8 {k : Nat} (hk : k < 8) : k = 0 ∨ k = 1 ∨ k = 2 ∨ k = 3 ∨ k = 4 ∨ k = 5 ∨ k = 6 ∨ k = 7 := by omega
theorem hk_of {k : Nat} (hk : k < 8) : HK (opB k) (enE k) := by
 rcases lt8 hk with rfl | rfl | rfl | rfl | rfl | rfl | rfl | rfl <;> constructor
theorem opB_facts {k : Nat} (hk : k < 8) : noNL (opB k) ∧ 0 ∉ opB k ∧ (opB k).length < 20 ∧ (lnOf (opB k) 10).blank = false ∧ (lnOf (opB k) 10).quote = none ∧ (lnOf (opB k) 10).heading = none ∧ (lnOf (opB k) 10).isHR = false ∧ isBullet ((lnOf (opB k) 10).strip 3 0).2.peek = false ∧
 ((lnOf (opB k) 10).lead 3 false).peek = 60 ∧ ((lnOf (opB k) 10).lead 3 false).str = opB k ∧ opB k ≠ [] := by
 rcases lt8 hk with rfl | rfl | rfl | rfl | rfl | rfl | rfl | rfl <;> exact ⟨⟨by decide, by decide⟩, by decide, by decide, by decide, by decide, by decide, by decide, by decide, by decide, by decide, by decide⟩
theorem clB_facts {k : Nat} (hk : k < 8) : noNL (clB k) ∧ 0 ∉ clB k ∧ (clB k).length < 20 ∧ (lnOf (clB k) 0).blank = false ∧ clB k ≠ [] := by
 rcases lt8 hk with rfl | rfl | rfl | rfl | rfl | rfl | rfl | rfl <;> exact ⟨⟨by decide, by decide⟩, by decide, by decide, by decide, by decide⟩
theorem clB_ends {k : Nat} (hk : k < 8) : (enE k).ends (clB k) (decide (k < 6)) := by
 rcases lt8 hk with rfl | rfl | rfl | rfl | rfl | rfl | rfl | rfl
 ·exact hasPre_yes (i := 0) (e := 8) (wd := [115, 99, 114, 105, 112, 116]) (by decide) (fun j hj => by omega) (by decide) (by decide) (fun k h1 h2 => (show ∀ k, k < 8 → 2 ≤ k → letB ((clB 0).getD k 0) = true by decide) k h2 h1) (by decide) (by decide) (by decide)
 ·exact hasPre_yes (i := 1) (e := 6) (wd := [112, 114, 101]) (by decide) (by decide) (by decide) (by decide) (fun k h1 h2 => (show ∀ k, k < 6 → 3 ≤ k → letB ((clB 1).getD k 0) = true by decide) k h2 h1) (by decide) (by decide) (by decide)
 ·exact ⟨by decide, by decide, by decide⟩
 ·exact ⟨by decide, by decide, by decide⟩
 ·exact ⟨by decide, by decide, by decide⟩
 ·exact ⟨by decide, by decide, by decide⟩
 ·rfl
 ·rfl
structure Still (blank : Bool) (l : List UInt8) : Prop where
 len : l.length ≤ 200
 prn : ∀ c ∈ l, 32 ≤ c.toNat ∧ c.toNat ≤ 126 ∧ c ≠ 60 ∧ c ≠ 62 ∧ c ≠ 45 ∧ c ≠ 63 ∧ c ≠ 93
 ne : blank = false → l ≠ [] ∧ l.getD 0 0 ≠ 32
theorem Still.ends {k : Nat} {l : List UInt8} (h : Still (decide (k < 6)) l) (hk : k < 8) : (enE k).ends l false := by
 have hlen := h.len
 have hno : ∀ c : UInt8, (c = 60 ∨ c = 62 ∨ c = 45 ∨ c = 63 ∨ c = 93) → c ∉ l := by
  rintro c hc hm
  obtain ⟨_, _, a, b, d, e, f⟩ := h.prn c hm
  rcases hc with h | h | h | h | h <;> exact absurd h (by assumption)
 have hpre : HasPre l false := hasPre_no (by omega) fun i hi h1 h2 => absurd (h2 ▸ (by rw [List.getD_eq_getElem?_getD, List.getElem?_eq_getElem hi]; exact List.getElem_mem hi : l.getD i 0 ∈ l)) (hno 60 (by simp))
 have hfn : ∀ c en, (c = 60 ∨ c = 62 ∨ c = 45 ∨ c = 63 ∨ c = 93) → (c :: en).length < 100 → (HE.fn (c :: en)).ends l false := fun c en hc hl => ⟨by omega, by omega, by rw [idx_noHd0 (hno c hc)]; rfl⟩
 rcases lt8 hk with rfl | rfl | rfl | rfl | rfl | rfl | rfl | rfl
 ·exact hpre
 ·exact hpre
 ·exact hfn 45 _ (by simp) (by decide)
 ·exact hfn 63 _ (by simp) (by decide)
 ·exact hfn 62 _ (by simp) (by decide)
 ·exact hfn 93 _ (by simp) (by decide)
 ·rfl
 ·rfl
theorem Still.nb {k : Nat} {l : List UInt8} {nl : UInt8} (h : Still (decide (k < 6)) l) (hk : k < 8) (hE : enE k = .blank) : (lnOf l nl).blank = false := by
 have h6 : decide (k < 6) = false := by
  rcases lt8 hk with rfl | rfl | rfl | rfl | rfl | rfl | rfl | rfl <;> first | rfl | (exact absurd hE (by intro h; cases h))
 obtain ⟨hne, h32⟩ := h.ne h6
 obtain ⟨c, t, rfl⟩ := List.exists_cons_of_ne_nil hne
 have hc := h.prn c (by simp)
 have hst : isST c = false := by
  simp only [isST, Bool.or_eq_false_iff, beq_eq_false_iff_ne]
  refine ⟨h32, ?_⟩
  rintro rfl
  exact absurd hc.1 (by decide)
 show (c :: t).all isST = false
 rw [List.all_cons, hst]; rfl
def keptT (k : Nat) (ls : List (List UInt8)) : List UInt8 := rawOut (opB k :: ls) ++ clB k
theorem linesOf_kept {k : Nat} (hk : k < 8) {ls : List (List UInt8)} (h : ∀ l ∈ ls, noNL l) : LinesOf (keptT k ls) ((opB k :: ls).map (fun l => (l, 10)) ++ [(clB k, 0)]) := by
 refine linesOf_raw (.last (clB_facts hk).2.2.2.2 (clB_facts hk).1) _ fun l hl => ?_
 rcases List.mem_cons.1 hl with rfl | hl
 ·exact (opB_facts hk).1
 ·exact h l hl
theorem rawOut_len : ∀ {ls : List (List UInt8)}, (∀ l ∈ ls, l.length ≤ 200) → (rawOut ls).length ≤ 201 * ls.length
 | [], _ => by simp [rawOut]
 | l :: ls, h => by
  have := rawOut_len (ls := ls) fun x hx => h x (by simp [hx])
  have h1 := h l (by simp)
  have e : (rawOut (l :: ls)).length = l.length + 1 + (rawOut ls).length := by simp [rawOut]; omega
  rw [e, List.length_cons]; omega
theorem HtmDone.tree {G : List UInt8 → List Inl} {ls : List (List UInt8)} {d : DB} (h : HtmDone ls d) (hn : ls.length < 1048576) (hb : (rawOut ls).length < 1073741824) (hne : ls.head? ≠ some []) : ∃ s e, d.tree G (.mk { kind := 8, text := rawOut ls, s := s, e := e } []) := by
 obtain ⟨nb, s, e, q, c, SM, hS, rfl⟩ := h
 refine ⟨s, e, fun ts ht => ⟨hblC nb s e q ls.length c :: SM, gives_html hS hn hb hne, fun a => ?_⟩⟩
 cases ht
 simp [htmlDB, fillsI]
def KeptPq (t : List UInt8) (xs : List IN) : Prop := ∃ s e, xs = [.mk { kind := 8, text := t, s := s, e := e } []]
theorem kept_parses {k : Nat} (hk : k < 8) {ls : List (List UInt8)} (hn : ls.length ≤ 30) (hst : ∀ l ∈ ls, Still (decide (k < 6)) l) : ParsesT [] optOff (keptT k ls) (KeptPq (keptT k ls ++ [10])) := by
 obtain ⟨o1, o2, o3, o4, o5, o6, o7, o8, o9, o10, o11⟩ := opB_facts hk
 obtain ⟨c1, c2, c3, c4, c5⟩ := clB_facts hk
 have hel : ∀ l ∈ opB k :: ls ++ [clB k], l.length ≤ 200 := by
  intro l hl
  simp only [List.cons_append, List.mem_cons, List.mem_append, List.mem_singleton, List.not_mem_nil, or_false] at hl
  rcases hl with rfl | hl | rfl
  ·omega
  ·exact (hst l hl).len
  ·omega
 have hnl : ∀ l ∈ ls, noNL l ∧ 0 ∉ l := by
  intro l hl
  have hp := (hst l hl).prn
  exact ⟨⟨fun h => absurd (hp 10 h).1 (by decide), fun h => absurd (hp 13 h).1 (by decide)⟩, fun h => absurd (hp 0 h).1 (by decide)⟩
 have eT : keptT k ls ++ [10] = rawOut (opB k :: ls ++ [clB k]) := by simp [keptT, rawOut]
 have hlenT : (rawOut (opB k :: ls ++ [clB k])).length ≤ 201 * 32 := by
  refine Nat.le_trans (rawOut_len hel) ?_
  simp; omega
 have h0T : 0 ∉ keptT k ls := by
  intro h
  simp only [keptT, rawOut, List.mem_append, List.mem_flatMap, List.mem_cons, List.mem_singleton, List.not_mem_nil, or_false] at h
  rcases h with ⟨l, hl, h | h⟩ | h
  ·rcases hl with rfl | hl
   ·exact o2 h
   ·exact (hnl l hl).2 h
  ·exact absurd h (by decide)
  ·exact c2 h
 have done : ∀ d, HtmDone (opB k :: ls ++ [clB k]) d → ∃ xs, Trees (fun _ => []) [d] xs ∧ KeptPq (keptT k ls ++ [10]) xs ∧ ∀ x ∈ txsC [d], InlineI none [] optOff x.raw [] := by
  intro d hd
  obtain ⟨s, e, ht⟩ := hd.tree (G := fun _ => []) (by simp; omega) (by omega) (by simp [o11])
  refine ⟨_, .cons ht .nil, ⟨s, e, by rw [eT]⟩, fun x hx => ?_⟩
  simp [txsC, hd.txs] at hx
 refine parses_docT (G := fun _ => []) (linesOf_kept hk fun l hl => (hnl l hl).1) h0T (by have := congrArg List.length eT; rw [List.length_append] at this; omega)
  (fun rem n fs lf => ∃ root : Bk, fs = [root] ∧ root.isRoot ∧ ((rem = (opB k :: ls).map (fun l => (l, 10)) ++ [(clB k, 0)] ∧ root.D = [] ∧ lf = .none) ∨
   (∃ pre suf, pre ++ suf = ls ∧ rem = suf.map (fun l => (l, 10)) ++ [(clB k, 0)] ∧ root.D = [] ∧ lf = htmLeafE (enE k) (opB k :: pre)) ∨
   (rem = [] ∧ lf = .none ∧ ∃ d, root.D = [d] ∧ HtmDone (opB k :: ls ++ [clB k]) d) ∨ (rem = [] ∧ root.D = [] ∧ lf = htmLeafE (enE k) (opB k :: ls ++ [clB k])))) (fun root hr hD => ⟨root, rfl, hr, .inl ⟨rfl, hD, rfl⟩⟩) ?_ ?_
 ·rintro l nl rem n fs lf ⟨root, rfl, hr, ⟨hrem, hD, rfl⟩ | ⟨pre, suf, hps, hrem, hD, rfl⟩ | ⟨hrem, _⟩ | ⟨hrem, _⟩⟩ σ R L b pb p w hL0 hop hpz hno hn' h hR
  ·simp only [List.map_cons, List.cons_append, List.cons.injEq, Prod.mk.injEq] at hrem
   obtain ⟨⟨rfl, rfl⟩, rfl⟩ := hrem
   refine addLine_htmE0 hr h (hk_of hk) (lnOf_ok (by omega)) o4 o5 o6 o7 o8 o9 o10 (lnOf_str _ _) fun w p' h1 h2 h3 => ?_
   exact hR w p' _ _ h1 h2 ⟨root, rfl, hr, .inr (.inl ⟨[], ls, rfl, rfl, hD, rfl⟩)⟩ h3
  ·have hpl : pre.length ≤ 30 := by have := congrArg List.length hps; simp at this; omega
   cases suf with
   | nil =>
    simp only [List.map_nil, List.nil_append, List.cons.injEq, Prod.mk.injEq] at hrem
    obtain ⟨⟨rfl, rfl⟩, rfl⟩ := hrem
    rw [List.append_nil] at hps
    subst hps
    have hends := clB_ends hk
    by_cases h6 : k < 6
    ·rw [decide_eq_true h6] at hends
     refine addLine_htmE2 h (lnOf_ok (by omega)) (by simp; omega) (fun _ => c4) (by rw [lnOf_str]; exact hends) (by rw [hD]; decide) fun w p' root' d h1 h2 a1 a2 a3 a4 h3 => ?_
     rw [lnOf_str] at a4
     obtain ⟨rb, r1, r2⟩ := hr
     exact hR w p' _ _ h1 h2 ⟨root', rfl, ⟨rb, a1.trans r1, a2.trans r2⟩, .inr (.inr (.inl ⟨rfl, rfl, d, by rw [a3, hD]; rfl, a4⟩))⟩ h3
    ·rw [decide_eq_false h6] at hends
     refine addLine_htmE1 h (lnOf_ok (by omega)) (by simp; omega) (fun _ => c4) (by rw [lnOf_str]; exact hends) fun w p' h1 h2 h3 => ?_
     rw [lnOf_str] at h3
     exact hR w p' _ _ h1 h2 ⟨root, rfl, hr, .inr (.inr (.inr ⟨rfl, hD, rfl⟩))⟩ h3
   | cons x suf =>
    simp only [List.map_cons, List.cons_append, List.cons.injEq, Prod.mk.injEq] at hrem
    obtain ⟨⟨rfl, rfl⟩, rfl⟩ := hrem
    have hx := hst l (by rw [← hps]; simp)
    have hxl := hx.len
    refine addLine_htmE1 h (lnOf_ok (by omega)) (by simp; omega) (hx.nb hk) (by rw [lnOf_str]; exact hx.ends hk) fun w p' h1 h2 h3 => ?_
    rw [lnOf_str] at h3
    exact hR w p' _ _ h1 h2 ⟨root, rfl, hr, .inr (.inl ⟨pre ++ [l], suf, by rw [← hps]; simp, rfl, hD, by simp⟩)⟩ h3
  ·cases hrem
  ·cases hrem
 ·rintro n fs lf ⟨root, rfl, hr, ⟨hrem, hD, rfl⟩ | ⟨pre, suf, hps, hrem, hD, rfl⟩ | ⟨_, rfl, d, hD, hd⟩ | ⟨_, hD, rfl⟩⟩
  ·simp at hrem
  ·simp at hrem
  ·refine CloseAll.root hr ?_
   rw [hD]
   exact done d hd
  ·intro σ R L b pb p w X hX hop hpz h hN
   refine trim_step (k := 0) hX h (by simp) ?_
   refine closeHtmC h (by rw [hD]; decide) fun w root' d x a1 a2 a3 a4 h => ⟨_, rfl, ?_⟩
   obtain ⟨rb, r1, r2⟩ := hr
   refine hN w { p with stn := 1 } root' rfl ⟨rb, a1.trans r1, a2.trans r2⟩ ?_ h
   rw [a3, hD]
   exact done d a4
end Go.Proofs.YtgbgadkldalkbaaGreatDoor


set_option linter.unusedVariables false
set_option maxRecDepth 20000
namespace Go.Proofs.YtgbgadkldalkbaaGreatDoor
open Go.Proofs
namespace g_laws_zzFits2
noncomputable def body : Code := bodyOf Tryz.f13
def bl1 (R : EP) (Xa : OA → Nat → Nat → Int → Int → WP) (x8q : OA) (x8n x8c : Nat) (x9 x10 : Int) (w : World) : Prop :=
 br (decide (x10 < x9))
 (0 ≤ x10 ∧ x10 < (x8n : Int) ∧
 nilP x8q fun a1 =>
 ∃ (v2 : BA), w.cell? (a1.add (Int.toNat x10 * 1)) = some (.string v2) ∧
 br (decide ((v2.size : Int) > 2147483647))
 (R (.returned (.bool false)) w)
 (Xa x8q x8n x8c x9 (IntKind.i64.wrap (x10 + 1)) w))
 (R (.returned (.bool true)) w)
def l1 (R : EP) (x8q : OA) (x8n x8c : Nat) (x9 x10 : Int) (w : World) : Prop :=
 ∀ X : OA → Nat → Nat → Int → Int → WP, (∀ x8q x8n x8c x9 x10 w, bl1 R X x8q x8n x8c x9 x10 w → X x8q x8n x8c x9 x10 w) → X x8q x8n x8c x9 x10 w

noncomputable def al1 (R : EP) (Xa : OA → Nat → Nat → Int → Int → WP) : AC :=
 (.leaf (sel [1,1,0,1,0,0] body))
end g_laws_zzFits2
def g_laws_zzFits2 (R : EP) (x0q : OA) (x0n x0c : Nat) (w : World) : Prop :=
 br (decide ((x0n : Int) > 2147483647))
 (R (.returned (.bool false)) w)
 (g_laws_zzFits2.l1 R x0q x0n x0c (x0n : Int) 0 w)

namespace g_laws_zzFits2
noncomputable def ac (R : EP) : AC :=
 (.seq (.leaf (sel [0] body)) (.seq (.leaf (sel [1,0] body)) (.seq (.seq (.leaf (sel [1,1,0,0] body)) (.block 0 (.loop (leaf [(8, .s .slice), (9, .s (.int .i64)), (10, .s (.int .i64))] (l1 R)) (sel [1,1,0,1,0,0] body)))) (.leaf (sel [1,1,1] body)))))
theorem good (R : EP) : Good P 18 (ac R) (QF P [.tmp 2] R) :=
 ⟨trivial, ⟨trivial, ⟨⟨trivial, (loopG (al1 R) (bl1 R) (fun _ => by kernel_rfl) (fun Xa => trivial) (fun Xa => by intro x8q x8n x8c x9 x10 ρ w; kernel_rfl) (fun X h _ _ _ _ _ _ g => g X h))⟩, trivial⟩⟩⟩
theorem eq (R : EP) (x0q : OA) (x0n x0c : Nat) (w : World) : g_laws_zzFits2 R x0q x0n x0c w = vcA P 18 (ac R) (QF P [.tmp 2] R) (fr0 [.slice x0q x0n x0c]) w := by kernel_rfl
theorem sound {R : EP} {x0q : OA} {x0n x0c : Nat} {w : World} (h : g_laws_zzFits2 R x0q x0n x0c w) : callE P i_laws_zzFits2 #[.slice x0q x0n x0c] R w :=
 callE_fz (c := body) Tryz.func13 Tryz.call13 (good R) (eq R x0q x0n x0c w) h
end g_laws_zzFits2
end Go.Proofs.YtgbgadkldalkbaaGreatDoor

set_option linter.unusedVariables false
namespace Go.Proofs.YtgbgadkldalkbaaGreatDoor
open Go.Proofs Go.IntWalk Go.RowKit
variable {σ : Out} {w : World} {L L' : List Chunk} {R : Ending → World → Prop}
def SArg (σ : Out) (L : List Chunk) (q : Option Addr) (n : Nat) (ls : List (List UInt8)) : Prop :=
 n = ls.length ∧ ∀ i (hi : i < ls.length), ∃ a, q = some a ∧ ∀ w, Sat σ w L → w.cell? (a.add i) = some (.string (bs ls[i]))
end Go.Proofs.YtgbgadkldalkbaaGreatDoor


set_option linter.unusedVariables false
namespace Go.Proofs.YtgbgadkldalkbaaGreatDoor
open Go.Proofs Go.IntWalk Go.RowKit
variable {σ : Out} {w : World} {L L' : List Chunk} {R : Ending → World → Prop}
theorem fits2_ok {q : Option Addr} {n c : Nat} {ls : List (List UInt8)} (hA : SArg σ L q n ls) (h : Sat σ w L) (hR : (∀ l ∈ ls, l.length ≤ 2147483647) → R (.returned (.bool true)) w) (hF : R (.returned (.bool false)) w) :
 callE P i_laws_zzFits2 #[.slice q n c] R w := by
 refine g_laws_zzFits2.sound ?_
 have hnl := hA.1
 refine br_split (fun _ => hF) (fun hsz => ?_)
 simp only [decide_eq_false_iff_not] at hsz
 intro X hX
 have key : ∀ k i, i + k = n → (∀ j (hj : j < ls.length), j < i → ls[j].length ≤ 2147483647) → X q n c (n : Nat) (i : Int) w := by
  intro k
  induction k with
  | zero =>
   intro i hi ha
   refine hX _ _ _ _ _ _ (br_false (by simp; omega) (hR fun l hl => ?_))
   obtain ⟨j, hj, rfl⟩ := List.mem_iff_getElem.1 hl
   exact ha j hj (by omega)
  | succ k ih =>
   intro i hi ha
   have hil : i < ls.length := by omega
   obtain ⟨a, rfl, hc⟩ := hA.2 i hil
   refine hX _ _ _ _ _ _ (br_true (by simp; omega) ⟨by omega, by omega, nilP_some ?_⟩)
   rw [Int.toNat_natCast, Nat.mul_one]
   refine ⟨_, hc w h, br_split (fun _ => hF) (fun hf => ?_)⟩
   rw [i64_inc (by omega)]
   refine ih (i + 1) (by omega) fun j hj hji => ?_
   rcases Nat.lt_or_ge j i with h1 | h1
   ·exact ha j hj h1
   ·obtain rfl : j = i := by omega
    simp at hf; omega
 exact key n 0 (by omega) (fun j hj h0 => by omega)
end Go.Proofs.YtgbgadkldalkbaaGreatDoor


set_option linter.unusedVariables false
set_option maxRecDepth 20000
namespace Go.Proofs.YtgbgadkldalkbaaGreatDoor
open Go.Proofs
namespace g_laws_full
noncomputable def body : Code := bodyOf Tryz.f34
end g_laws_full
def g_laws_full (R : EP) (x0 : BA) (w : World) : Prop :=
 ((!(x0.toList == (ByteArray.mk #[]).toList)) = true → 0 ≤ (0 : Int) ∧ 0 < (x0.size : Int)) ∧
 (((!(x0.toList == (ByteArray.mk #[]).toList)) && ((bt x0 0) != 32)) = true → 0 ≤ (IntKind.i64.wrap ((x0.size : Int) - 1)) ∧ (IntKind.i64.wrap ((x0.size : Int) - 1)) < (x0.size : Int)) ∧
 R (.returned (.bool (((!(x0.toList == (ByteArray.mk #[]).toList)) && ((bt x0 0) != 32)) && ((bt x0 (IntKind.i64.wrap ((x0.size : Int) - 1))) != 32)))) w

namespace g_laws_full
noncomputable def ac (R : EP) : AC :=
 (.leaf (sel [] body))
theorem good (R : EP) : Good P 18 (ac R) (QF P [.tmp 2] R) :=
 trivial
theorem eq (R : EP) (x0 : BA) (w : World) : g_laws_full R x0 w = vcA P 18 (ac R) (QF P [.tmp 2] R) (fr0 [.string x0]) w := by kernel_rfl
theorem sound {R : EP} {x0 : ByteArray} {w : World} (h : g_laws_full R x0 w) : callE P i_laws_full #[.string x0] R w :=
 callE_fz (c := body) Tryz.func34 Tryz.call34 (good R) (eq R x0 w) h
end g_laws_full
end Go.Proofs.YtgbgadkldalkbaaGreatDoor

set_option linter.unusedVariables false
namespace Go.Proofs.YtgbgadkldalkbaaGreatDoor
open Go.Proofs Go.IntWalk Go.RowKit
variable {σ : Out} {w : World} {L L' : List Chunk} {R : Ending → World → Prop}
def fullM (s : List UInt8) : Bool := !s.isEmpty && s.getD 0 0 != 32 && s.getD (s.length - 1) 0 != 32
theorem full_ok {s : List UInt8} (hs : s.length < 4611686018427387904) (hR : R (.returned (.bool (fullM s))) w) : callE P i_laws_full #[.string (bs s)] R w := by
 refine g_laws_full.sound ?_
 unfold g_laws_full
 cases s with
 | nil =>
  have e : ((bs []).toList == (ByteArray.mk #[]).toList) = true := by rw [bs_toList, mk_toList]; rfl
  rw [e]
  exact ⟨fun h => by simp at h, fun h => by simp at h, hR⟩
 | cons c t =>
  have e : ((bs (c :: t)).toList == (ByteArray.mk #[]).toList) = false := by rw [bs_toList, mk_toList]; rfl
  have hl : (c :: t).length = t.length + 1 := rfl
  have e1 : IntKind.i64.wrap (((bs (c :: t)).size : Int) - 1) = ((t.length : Nat) : Int) := by rw [bs_size, hl]; simp (disch := omega) only [i64_in]; omega
  have g1 : (bt (bs (c :: t)) 0 != 32) = (c != 32) := by
   rw [show (0 : Int) = ((0 : Nat) : Int) from rfl, bs_bt, bne, bne, u8b _ 32 32 rfl]; rfl
  have g2 : (bt (bs (c :: t)) ((t.length : Nat) : Int) != 32) = ((c :: t).getD t.length 0 != 32) := by rw [bs_bt, bne, bne, u8b _ 32 32 rfl]
  rw [e, e1, g1, g2]
  exact ⟨fun _ => ⟨by omega, by rw [bs_size, hl]; omega⟩, fun _ => ⟨by omega, by rw [bs_size, hl]; omega⟩, hR⟩
end Go.Proofs.YtgbgadkldalkbaaGreatDoor


set_option linter.unusedVariables false
set_option maxRecDepth 20000
namespace Go.Proofs.YtgbgadkldalkbaaGreatDoor
open Go.Proofs
namespace g_laws_ascii
noncomputable def body : Code := bodyOf Tryz.f35
def bl1 (R : EP) (Xa : BA → Bool → Int → WP) (x0 : BA) (x1 : Bool) (x5 : Int) (w : World) : Prop :=
 br (decide (x5 < (x0.size : Int)))
 (0 ≤ x5 ∧ x5 < (x0.size : Int) ∧
 ((!(decide ((bt x0 x5) < 32))) = true → 0 ≤ x5 ∧ x5 < (x0.size : Int)) ∧
 ((((decide ((bt x0 x5) < 32)) || (decide ((bt x0 x5) > 126))) && x1) = true → 0 ≤ x5 ∧ x5 < (x0.size : Int)) ∧
 br (((decide ((bt x0 x5) < 32)) || (decide ((bt x0 x5) > 126))) && (!(x1 && ((bt x0 x5) == 10))))
 (R (.returned (.bool false)) w)
 (Xa x0 x1 (IntKind.i64.wrap (x5 + 1)) w))
 (R (.returned (.bool true)) w)
def l1 (R : EP) (x0 : BA) (x1 : Bool) (x5 : Int) (w : World) : Prop :=
 ∀ X : BA → Bool → Int → WP, (∀ x0 x1 x5 w, bl1 R X x0 x1 x5 w → X x0 x1 x5 w) → X x0 x1 x5 w

noncomputable def al1 (R : EP) (Xa : BA → Bool → Int → WP) : AC :=
 (.leaf (sel [1,0,1,0,0] body))
end g_laws_ascii
def g_laws_ascii (R : EP) (x0 : BA) (x1 : Bool) (w : World) : Prop :=
 g_laws_ascii.l1 R x0 x1 0 w

namespace g_laws_ascii
noncomputable def ac (R : EP) : AC :=
 (.seq (.leaf (sel [0] body)) (.seq (.seq (.leaf (sel [1,0,0] body)) (.block 0 (.loop (leaf [(0, .s .str), (1, .s .bool), (5, .s (.int .i64))] (l1 R)) (sel [1,0,1,0,0] body)))) (.leaf (sel [1,1] body))))
theorem good (R : EP) : Good P 32 (ac R) (QF P [.tmp 4] R) :=
 ⟨trivial, ⟨⟨trivial, (loopG (al1 R) (bl1 R) (fun _ => by kernel_rfl) (fun Xa => trivial) (fun Xa => by intro x0 x1 x5 ρ w; kernel_rfl) (fun X h _ _ _ _ g => g X h))⟩, trivial⟩⟩
theorem eq (R : EP) (x0 : BA) (x1 : Bool) (w : World) : g_laws_ascii R x0 x1 w = vcA P 32 (ac R) (QF P [.tmp 4] R) (fr0 [.string x0, .bool x1]) w := by kernel_rfl
theorem sound {R : EP} {x0 : ByteArray} {x1 : Bool} {w : World} (h : g_laws_ascii R x0 x1 w) : callE P i_laws_ascii #[.string x0, .bool x1] R w :=
 callE_fz (c := body) Tryz.func35 Tryz.call35 (good R) (eq R x0 x1 w) h
end g_laws_ascii
end Go.Proofs.YtgbgadkldalkbaaGreatDoor

set_option linter.unusedVariables false
namespace Go.Proofs.YtgbgadkldalkbaaGreatDoor
open Go.Proofs Go.IntWalk Go.RowKit
variable {σ : Out} {w : World} {L L' : List Chunk} {R : Ending → World → Prop}
def prnB (c : UInt8) : Bool := decide (32 ≤ c.toNat) && decide (c.toNat ≤ 126)
def asciiM (s : List UInt8) (nl : Bool) : Bool := s.all fun c => prnB c || (nl && c == 10)
theorem ascii_ok {s : List UInt8} {nl : Bool} (hs : s.length < 4611686018427387904) (hR : R (.returned (.bool (asciiM s nl))) w) : callE P i_laws_ascii #[.string (bs s), .bool nl] R w := by
 refine g_laws_ascii.sound ?_
 intro X hX
 have key : ∀ k i, i + k = s.length → asciiM s nl = asciiM (s.drop i) nl → X (bs s) nl (i : Int) w := by
  intro k
  induction k with
  | zero =>
   intro i hi ha
   refine hX _ _ _ _ (br_false (by simp; omega) ?_)
   rw [List.drop_eq_nil_of_le (by omega)] at ha
   rw [ha] at hR; exact hR
  | succ k ih =>
   intro i hi ha
   have hil : i < s.length := by omega
   have hcons : asciiM (s.drop i) nl = ((prnB s[i] || (nl && s[i] == 10)) && asciiM (s.drop (i + 1)) nl) := by
    rw [List.drop_eq_getElem_cons hil]; rfl
   have e10 : (bt (bs s) (i : Int) == 10) = (s[i] == 10) := bt_beq hil 10 10 rfl
   have e1 : (decide (bt (bs s) (i : Int) < 32) || decide (bt (bs s) (i : Int) > 126)) = !prnB s[i] := by
    rw [bt_at hil, Bool.eq_iff_iff]
    simp only [prnB, Bool.or_eq_true, decide_eq_true_eq, Bool.not_eq_true', Bool.and_eq_false_iff, decide_eq_false_iff_not]
    omega
   refine hX _ _ _ _ (br_true (by simp; omega) ?_)
   rw [e1, e10]
   refine ⟨by omega, by simp; omega, fun _ => ⟨by omega, by simp; omega⟩, fun _ => ⟨by omega, by simp; omega⟩, ?_⟩
   cases hc : (prnB s[i] || (nl && s[i] == 10)) with
   | true =>
    refine br_false (by cases h1 : prnB s[i] <;> rw [h1] at hc <;> simp_all) ?_
    rw [i64_inc (by omega)]
    refine ih (i + 1) (by omega) ?_
    rw [ha, hcons, hc, Bool.true_and]
   | false =>
    refine br_true ?_ ?_
    ·simp only [Bool.or_eq_false_iff] at hc
     rw [hc.1, hc.2]; rfl
    rw [ha, hcons, hc, Bool.false_and] at hR; exact hR
 exact key s.length 0 (by omega) (by rw [List.drop_zero])
end Go.Proofs.YtgbgadkldalkbaaGreatDoor


set_option linter.unusedVariables false
set_option maxRecDepth 20000
namespace Go.Proofs.YtgbgadkldalkbaaGreatDoor
open Go.Proofs
namespace g_laws_plain
noncomputable def body : Code := bodyOf Tryz.f18
end g_laws_plain
def g_laws_plain (R : EP) (w : World) : Prop :=
 box w #[.bool false, .bool false, .bool false, .bool false, .bool false, .bool false, .bool false, .bool false, .bool false, .bool false] ty_impl_Options fun b1 w2 =>
 stV w2 ⟨b1, 0, none⟩ (.bool false) fun w3 =>
 stV w3 ⟨b1, 1, none⟩ (.bool false) fun w4 =>
 stV w4 ⟨b1, 2, none⟩ (.bool false) fun w5 =>
 stV w5 ⟨b1, 3, none⟩ (.bool false) fun w6 =>
 stV w6 ⟨b1, 4, none⟩ (.bool false) fun w7 =>
 stV w7 ⟨b1, 5, none⟩ (.bool false) fun w8 =>
 stV w8 ⟨b1, 6, none⟩ (.bool false) fun w9 =>
 stV w9 ⟨b1, 7, none⟩ (.bool false) fun w10 =>
 stV w10 ⟨b1, 8, none⟩ (.bool false) fun w11 =>
 stV w11 ⟨b1, 9, none⟩ (.bool false) fun w12 =>
 ∃ (v13 : Bool), w12.cell? ⟨b1, 0, none⟩ = some (.bool v13) ∧
 ∃ (v14 : Bool), w12.cell? ⟨b1, 1, none⟩ = some (.bool v14) ∧
 ∃ (v15 : Bool), w12.cell? ⟨b1, 2, none⟩ = some (.bool v15) ∧
 ∃ (v16 : Bool), w12.cell? ⟨b1, 3, none⟩ = some (.bool v16) ∧
 ∃ (v17 : Bool), w12.cell? ⟨b1, 4, none⟩ = some (.bool v17) ∧
 ∃ (v18 : Bool), w12.cell? ⟨b1, 5, none⟩ = some (.bool v18) ∧
 ∃ (v19 : Bool), w12.cell? ⟨b1, 6, none⟩ = some (.bool v19) ∧
 ∃ (v20 : Bool), w12.cell? ⟨b1, 7, none⟩ = some (.bool v20) ∧
 ∃ (v21 : Bool), w12.cell? ⟨b1, 8, none⟩ = some (.bool v21) ∧
 ∃ (v22 : Bool), w12.cell? ⟨b1, 9, none⟩ = some (.bool v22) ∧
 R (.returned (.agg #[.bool v13, .bool v14, .bool v15, .bool v16, .bool v17, .bool v18, .bool v19, .bool v20, .bool v21, .bool v22])) w12

namespace g_laws_plain
noncomputable def ac (R : EP) : AC :=
 (.leaf (sel [] body))
theorem good (R : EP) : Good P 2 (ac R) (QF P [.cell 0 31] R) :=
 trivial
theorem eq (R : EP) (w : World) : g_laws_plain R w = vcA P 2 (ac R) (QF P [.cell 0 31] R) (fr0 []) w := by kernel_rfl
theorem sound {R : EP} {w : World} (h : g_laws_plain R w) : callE P i_laws_plain #[] R w :=
 callE_fz (c := body) Tryz.func18 Tryz.call18 (good R) (eq R w) h
end g_laws_plain
end Go.Proofs.YtgbgadkldalkbaaGreatDoor

set_option linter.unusedVariables false
namespace Go.Proofs.YtgbgadkldalkbaaGreatDoor
open Go.Proofs Go.IntWalk Go.RowKit
variable {σ : Out} {w : World} {L L' : List Chunk} {R : Ending → World → Prop}
theorem plainOpt_ok (h : Sat σ w L) (hR : ∀ w, Sat σ w L → R (.returned (optV optOff)) w) : callE P i_laws_plain #[] R w := by
 refine g_laws_plain.sound ?_
 refine Sat.bx h fun b1 w h => ?_
 repeat (first | refine nilP_some ?_ | refine h.tk fun w h => ?_ | refine ⟨_, h.ldA, ?_⟩ | refine ⟨_, _, _, h.ldA, ?_⟩ | refine h.stA 0 fun w h => ?_ | refine h.stA 1 fun w h => ?_ | refine h.stA 2 fun w h => ?_ | refine h.stA 3 fun w h => ?_ | refine h.stA 4 fun w h => ?_ | refine h.stA 5 fun w h => ?_ | refine h.stA 6 fun w h => ?_ | refine h.bx fun b0 w h => ?_)
 exact hR _ h.tail
end Go.Proofs.YtgbgadkldalkbaaGreatDoor


set_option linter.unusedVariables false
namespace Go.Proofs.YtgbgadkldalkbaaGreatDoor
open Go.Proofs Go.IntWalk Go.RowKit
variable {σ : Out} {w : World} {L L' : List Chunk} {R : Ending → World → Prop}
theorem has_ok {s : List UInt8} {c : UInt8} (hs : s.length < 4611686018427387904) (hT : c ∈ s → R (.returned (.bool true)) w) (hF : c ∉ s → R (.returned (.bool false)) w) : callE P i_laws_has #[.string (bs s), .int .u8 (c.toNat : Int)] R w := by
 refine g_laws_has.sound ?_
 intro X hX
 have key : ∀ k i, i + k = s.length → c ∉ s.take i → X (bs s) (c.toNat : Int) (i : Int) w := by
  intro k
  induction k with
  | zero =>
   intro i hi hc
   refine hX _ _ _ _ (br_false (by simp; omega) (hF ?_))
   rwa [List.take_of_length_le (by omega)] at hc
  | succ k ih =>
   intro i hi hc
   have hil : i < s.length := by omega
   refine hX _ _ _ _ (br_true (by simp; omega) ⟨by omega, by simp; omega, ?_⟩)
   rw [bt_at hil]
   refine br_split (fun h => hT ?_) fun h => ?_
   ·have h1 : s[i] = c := by
     have : ((s[i]).toNat : Int) = c.toNat := by simpa using h
     exact UInt8.toNat_inj.1 (by omega)
    exact h1 ▸ List.getElem_mem hil
   ·rw [i64_inc (by omega)]
    refine ih (i + 1) (by omega) ?_
    rw [List.take_succ_eq_append_getElem hil]
    intro hm
    rcases List.mem_append.1 hm with hm | hm
    ·exact hc hm
    ·obtain rfl := List.mem_singleton.1 hm
     simp at h
 exact key s.length 0 (by omega) (by simp)
theorem still_ok {q : OA} {n c : Nat} {b : Bool} {ls : List (List UInt8)} (hA : SArg σ L q n ls) (hl : ∀ l ∈ ls, l.length ≤ 2147483647) (h : Sat σ w L) (hF : R (.returned (.bool false)) w) (hT : n ≤ 30 → (∀ l ∈ ls, Still b l) → R (.returned (.bool true)) w) :
 callE P i_laws_still #[.slice q n c, .bool b] R w := by
 refine g_laws_still.sound ?_
 have hnl := hA.1
 refine br_split (fun _ => hF) fun hc => ?_
 simp only [decide_eq_false_iff_not] at hc
 have hn : n ≤ 30 := by omega
 intro X hX
 have key : ∀ k i, i + k = n → (∀ j (hj : j < ls.length), j < i → Still b ls[j]) → X b q n c (n : Nat) (i : Int) w := by
  intro k
  induction k with
  | zero =>
   intro i hi ha
   refine hX _ _ _ _ _ _ _ (br_false (by simp; omega) (hT hn fun l hl => ?_))
   obtain ⟨j, hj, rfl⟩ := List.mem_iff_getElem.1 hl
   exact ha j hj (by omega)
  | succ k ih =>
   intro i hi ha
   have hil : i < ls.length := by omega
   obtain ⟨a, hq, hc⟩ := hA.2 i hil
   refine hX _ _ _ _ _ _ _ (br_true (by simp; omega) ⟨by omega, by omega, ?_⟩)
   rw [hq]
   refine nilP_some ?_
   rw [Int.toNat_natCast, Nat.mul_one]
   refine ⟨_, hc w h, ?_⟩
   rw [← hq]
   have hsl : ls[i].length < 4611686018427387904 := by have := hl ls[i] (List.getElem_mem hil); omega
   have next : Still b ls[i] → X b q n c (n : Nat) (IntKind.i64.wrap ((i : Int) + 1)) w := by
    intro hs
    rw [i64_inc (by omega)]
    refine ih (i + 1) (by omega) fun j hj hji => ?_
    rcases Nat.lt_succ_iff_lt_or_eq.1 hji with h | rfl
    ·exact ha j hj h
    ·exact hs
   generalize ls[i] = s at hsl next ⊢
   have e0 : (ByteArray.mk #[]).toList = [] := bs_toList []
   rw [bs_toList, e0]
   have fin : (b = false → s ≠ [] ∧ s.getD 0 0 ≠ 32) → asciiM s false = true → s.length ≤ 200 → 60 ∉ s → 62 ∉ s → 45 ∉ s → 63 ∉ s → 93 ∉ s → X b q n c (n : Nat) (IntKind.i64.wrap ((i : Int) + 1)) w := by
    intro h1 h2 h3 a1 a2 a3 a4 a5
    refine next ⟨h3, fun c hm => ?_, h1⟩
    have := List.all_eq_true.1 h2 c hm
    simp only [prnB, Bool.false_and, Bool.or_false, Bool.and_eq_true, decide_eq_true_eq] at this
    refine ⟨this.1, this.2, ?_, ?_, ?_, ?_, ?_⟩ <;> (rintro rfl; contradiction)
   refine br_split (fun _ => hF) fun hb => ?_
   by_cases hs0 : s = []
   ·refine br_false (by simp [hs0]) ?_
    have hbt : b = true := by simpa [hs0] using hb
    refine ascii_ok hsl ⟨_, rfl, br_split (fun _ => hF) fun h2 => ?_⟩
    simp only [Bool.or_eq_false_iff, Bool.not_eq_false', decide_eq_false_iff_not, bs_size] at h2
    refine has_ok (c := 60) hsl (fun _ => ⟨_, rfl, br_true rfl hF⟩) fun a1 => ⟨_, rfl, br_false rfl ?_⟩
    refine has_ok (c := 62) hsl (fun _ => ⟨_, rfl, br_true rfl hF⟩) fun a2 => ⟨_, rfl, br_false rfl ?_⟩
    refine has_ok (c := 45) hsl (fun _ => ⟨_, rfl, br_true rfl hF⟩) fun a3 => ⟨_, rfl, br_false rfl ?_⟩
    refine has_ok (c := 63) hsl (fun _ => ⟨_, rfl, br_true rfl hF⟩) fun a4 => ⟨_, rfl, br_false rfl ?_⟩
    refine has_ok (c := 93) hsl (fun _ => ⟨_, rfl, br_true rfl hF⟩) fun a5 => ⟨_, rfl, br_false rfl ?_⟩
    exact fin (fun h => by rw [hbt] at h; cases h) h2.1 (by omega) a1 a2 a3 a4 a5
   ·refine br_true (by simpa using hs0) ?_
    refine full_ok hsl ⟨_, rfl, br_split (fun _ => hF) fun hf => ?_⟩
    have hf : fullM s = true := by simpa using hf
    refine ascii_ok hsl ⟨_, rfl, br_split (fun _ => hF) fun h2 => ?_⟩
    simp only [Bool.or_eq_false_iff, Bool.not_eq_false', decide_eq_false_iff_not, bs_size] at h2
    refine has_ok (c := 60) hsl (fun _ => ⟨_, rfl, br_true rfl hF⟩) fun a1 => ⟨_, rfl, br_false rfl ?_⟩
    refine has_ok (c := 62) hsl (fun _ => ⟨_, rfl, br_true rfl hF⟩) fun a2 => ⟨_, rfl, br_false rfl ?_⟩
    refine has_ok (c := 45) hsl (fun _ => ⟨_, rfl, br_true rfl hF⟩) fun a3 => ⟨_, rfl, br_false rfl ?_⟩
    refine has_ok (c := 63) hsl (fun _ => ⟨_, rfl, br_true rfl hF⟩) fun a4 => ⟨_, rfl, br_false rfl ?_⟩
    refine has_ok (c := 93) hsl (fun _ => ⟨_, rfl, br_true rfl hF⟩) fun a5 => ⟨_, rfl, br_false rfl ?_⟩
    refine fin (fun _ => ⟨hs0, ?_⟩) h2.1 (by omega) a1 a2 a3 a4 a5
    simp only [fullM, Bool.and_eq_true, bne_iff_ne, ne_eq] at hf
    exact hf.1.2
 exact key n 0 (by omega) (fun j hj h => by omega)
theorem opens_ok {k : Nat} (hk : k < 8) (hR : R (.returned (.string (bs (opB k)))) w) : callE P i_laws_opens #[.int .i64 (k : Int)] R w := by
 refine g_laws_opens.sound ?_
 rcases lt8 hk with rfl | rfl | rfl | rfl | rfl | rfl | rfl | rfl
 ·exact br_true rfl hR
 ·exact br_false rfl (br_true rfl hR)
 ·exact br_false rfl (br_false rfl (br_true rfl hR))
 ·exact br_false rfl (br_false rfl (br_false rfl (br_true rfl hR)))
 ·exact br_false rfl (br_false rfl (br_false rfl (br_false rfl (br_true rfl hR))))
 ·exact br_false rfl (br_false rfl (br_false rfl (br_false rfl (br_false rfl (br_true rfl hR)))))
 ·exact br_false rfl (br_false rfl (br_false rfl (br_false rfl (br_false rfl (br_false rfl (br_true rfl hR))))))
 ·exact br_false rfl (br_false rfl (br_false rfl (br_false rfl (br_false rfl (br_false rfl (br_false rfl hR))))))
theorem closes_ok {k : Nat} (hk : k < 8) (hR : R (.returned (.string (bs (clB k)))) w) : callE P i_laws_closes #[.int .i64 (k : Int)] R w := by
 refine g_laws_closes.sound ?_
 rcases lt8 hk with rfl | rfl | rfl | rfl | rfl | rfl | rfl | rfl
 ·exact br_true rfl hR
 ·exact br_false rfl (br_true rfl hR)
 ·exact br_false rfl (br_false rfl (br_true rfl hR))
 ·exact br_false rfl (br_false rfl (br_false rfl (br_true rfl hR)))
 ·exact br_false rfl (br_false rfl (br_false rfl (br_false rfl (br_true rfl hR))))
 ·exact br_false rfl (br_false rfl (br_false rfl (br_false rfl (br_false rfl (br_true rfl hR)))))
 ·exact br_false rfl (br_false rfl (br_false rfl (br_false rfl (br_false rfl (br_false rfl (br_true rfl hR))))))
 ·exact br_false rfl (br_false rfl (br_false rfl (br_false rfl (br_false rfl (br_false rfl (br_false rfl hR))))))
theorem kept_ok {q : OA} {n c k : Nat} {ls : List (List UInt8)} (hk : k < 8) (hA : SArg σ L q n ls) (hn : n ≤ 30) (hl : ∀ l ∈ ls, l.length ≤ 200) (h : Sat σ w L) (hR : R (.returned (.string (bs (keptT k ls)))) w) :
 callE P i_laws_kept #[.int .i64 (k : Int), .slice q n c] R w := by
 have hnl := hA.1
 obtain ⟨o1, o2, o3, _⟩ := opB_facts hk
 obtain ⟨c1, c2, c3, _⟩ := clB_facts hk
 have hmax : IntKind.i64.max = 9223372036854775807 := rfl
 have b2 : ∀ s t : List UInt8, s.length + t.length < 100000 → (((bs s).size + (bs t).size : Nat) : Int) ≤ IntKind.i64.max := by intro s t hs; rw [hmax, bs_size, bs_size]; omega
 refine g_laws_kept.sound ?_
 refine opens_ok hk ⟨_, rfl, ?_⟩
 rw [show ByteArray.mk #[10] = bs [10] from rfl, bs_append]
 refine ⟨b2 _ _ (by simp; omega), ?_⟩
 intro X hX
 have key : ∀ j i, i + j = n → X (k : Int) (bs (rawOut (opB k :: ls.take i))) q n c (n : Nat) (i : Int) w := by
  intro j
  induction j with
  | zero =>
   intro i hi
   rw [List.take_of_length_le (by omega)]
   have hrl : (rawOut (opB k :: ls)).length ≤ 201 * 31 := by
    refine Nat.le_trans (rawOut_len (ls := opB k :: ls) fun l hm => ?_) (by rw [List.length_cons]; omega)
    rcases List.mem_cons.1 hm with rfl | hm
    ·omega
    ·exact hl l hm
   refine hX _ _ _ _ _ _ _ _ (br_false (by simp; omega) (closes_ok hk ⟨_, rfl, ?_⟩))
   refine ⟨b2 _ _ (by omega), ?_⟩
   rw [bs_append]
   exact hR
  | succ j ih =>
   intro i hi
   have hil : i < ls.length := by omega
   obtain ⟨a, hq, hc⟩ := hA.2 i hil
   have hrl : (rawOut (opB k :: ls.take i)).length ≤ 201 * 31 := by
    refine Nat.le_trans (rawOut_len (ls := opB k :: ls.take i) fun l hm => ?_) (by rw [List.length_cons, List.length_take]; omega)
    rcases List.mem_cons.1 hm with rfl | hm
    ·omega
    ·exact hl l (List.mem_of_mem_take hm)
   have hsl := hl ls[i] (List.getElem_mem hil)
   refine hX _ _ _ _ _ _ _ _ (br_true (by simp; omega) ⟨by omega, by omega, ?_⟩)
   rw [hq]
   refine nilP_some ?_
   rw [Int.toNat_natCast, Nat.mul_one]
   refine ⟨_, hc w h, ?_⟩
   rw [← hq, show ByteArray.mk #[10] = bs [10] from rfl, bs_append]
   refine ⟨b2 _ _ (by simp; omega), b2 _ _ (by simp; omega), ?_⟩
   rw [bs_append, i64_inc (by omega)]
   have e1 : rawOut (opB k :: ls.take i) ++ (ls[i] ++ [10]) = rawOut (opB k :: ls.take (i + 1)) := by
    rw [List.take_succ_eq_append_getElem hil]
    generalize ls.take i = A
    generalize ls[i] = x
    simp [rawOut]
   rw [e1]
   exact ih (i + 1) (by omega)
 have e1 : opB k ++ [10] = rawOut (opB k :: ls.take 0) := by simp [rawOut]
 rw [e1]
 exact key n 0 (by omega)
theorem fnKeptTree_ok {k : Nat} {q0 : OA} {n0 c0 : Nat} {ls : List (List UInt8)} (hk : k < 256) (hA : SArg σ L q0 n0 ls) (h : Sat σ w L) (hR : ∀ w, Sat σ w L → R (.returned (.bool true)) w) :
 callE P i_laws_FnKeptTree #[.int .u8 (k : Int), .slice q0 n0 c0] R w := by
 have hn0 := hA.1
 refine g_laws_FnKeptTree.sound ?_
 refine fits2_ok hA h (fun hll => ⟨_, rfl, br_false rfl ⟨by decide, ?_⟩⟩) ⟨_, rfl, br_true rfl (hR w h)⟩
 have hm8 : k % 8 < 8 := Nat.mod_lt _ (by decide)
 rw [i64_in _ (by omega), show Int.tmod (k : Int) 8 = ((k % 8 : Nat) : Int) from rfl]
 generalize k % 8 = j at hm8 ⊢
 have e6 : decide (((j : Nat) : Int) < 6) = decide (j < 6) := by rw [decide_eq_decide]; omega
 rw [e6]
 refine still_ok hA hll h ⟨_, rfl, br_true rfl (hR w h)⟩ fun a1 a2 => ⟨_, rfl, br_false rfl ?_⟩
 have hls : ls.length ≤ 30 := by omega
 refine kept_ok hm8 hA a1 (fun l hl => (a2 l hl).len) h ⟨_, rfl, ?_⟩
 have hP := kept_parses hm8 hls a2
 have hTl : (keptT j ls).length < 100000 := by
  have h1 : (rawOut (opB j :: ls)).length ≤ 201 * 31 := by
   refine Nat.le_trans (rawOut_len (ls := opB j :: ls) fun l hm => ?_) (by rw [List.length_cons]; omega)
   rcases List.mem_cons.1 hm with rfl | hm
   ·have := (opB_facts hm8).2.2.1; omega
   ·exact (a2 l hm).len
  have h2 := (clB_facts hm8).2.2.1
  unfold keptT
  rw [List.length_append]; omega
 refine plainOpt_ok h fun w h => ⟨_, _, _, _, _, _, _, _, _, _, rfl, ?_⟩
 refine parseT_ok hP h fun w u M s e xs hN hq h => rt16_mk ?_
 obtain ⟨s1, e1, rfl⟩ := hq
 have z : fencedL [] := by rw [fencedL]; trivial
 have hx2 : (IN.mk { kind := 8, text := keptT j ls ++ [10], s := s1, e := e1 } []).fenced := by
  rw [fenced_mk]; exact ⟨fun h7 => absurd h7 (by show (8 : Nat) ≠ 7; decide), z⟩
 refine bareAt hN (fenced_one (by show (1 : Nat) ≠ 7; decide) hx2) σ _ _ w h fun w u2 M2 hN2 h => rt10_mk ?_
 have eB : bareN (.mk { kind := 8, text := keptT j ls ++ [10], s := s1, e := e1 } []) = .mk { kind := 8, text := keptT j ls ++ [10] } [] := by rw [bareN, bareL]; rfl
 rw [bareN_one (by show (8 : Nat) ≠ 13; decide), eB] at hN2
 refine Sat.bx h fun b13 w h => ?_
 have h : Sat σ w ((b13, cel (N10.C {}).toList ty_spec_Node) :: (M2 ++ (M ++ L))) := h
 refine h.st10 0 {} u2 fun w h => h.ldB10 u2 (.head _) ?_
 rw [show ByteArray.mk #[10] = bs [10] from rfl, bs_append]
 refine ⟨by rw [show IntKind.i64.max = 9223372036854775807 from rfl, bs_size, bs_size]; simp; omega, ?_⟩
 refine Sat.buildN h (NH.nd { kind := 8, text := keptT j ls ++ [10] } none 0 none 0 0) fun bh w h => ?_
 have hI : NDs [.mk { kind := 8, text := keptT j ls ++ [10] } []] (NH.nd { kind := 8, text := keptT j ls ++ [10] } none 0 none 0 0).C.toList [] := NDs.one (h := { kind := 8, text := keptT j ls ++ [10] }) (by decide) .nil (Sl.nil 10 ty_spec_Node)
 have hD : NodeDt (.mk { kind := 1 } [.mk { kind := 8, text := keptT j ls ++ [10] } []]) (NH.nd { kind := 1 } none 0 (some ⟨bh, 0, none⟩) 1 1) ([(bh, cel (NH.nd { kind := 8, text := keptT j ls ++ [10] } none 0 none 0 0).C.toList ty_spec_Node)] ++ []) := ⟨_, _, none, 0, _, 1, 1, _, _, _, rfl, rfl, rfl, by decide, hI, slN⟩
 generalize (bh, cel (NH.nd { kind := 8, text := keptT j ls ++ [10] } none 0 none 0 0).C.toList ty_spec_Node) = C1 at h hD
 generalize (b13, cel u2.C.toList ty_spec_Node) = C2 at h
 have h : Sat σ w (M2 ++ (([C1] ++ []) ++ (C2 :: (M ++ L)))) := h.re
 refine same_ok hN2 hD h fun w h => ⟨_, rfl, hR w ?_⟩
 exact h.less (M2 ++ (([C1] ++ []) ++ (C2 :: M)))
end Go.Proofs.YtgbgadkldalkbaaGreatDoor


set_option linter.unusedVariables false
set_option linter.constructorNameAsVariable false
namespace Go.Proofs.YtgbgadkldalkbaaGreatDoor
open Go.Proofs Go.ChangeShapes Go.WideShapes
theorem heap_of_sat {W W' : World} (h : Sat (outOf W) W' (allBlocks W)) {b : Nat} (hb : b < W.heap.size) : W'.heap[b]? = W.heap[b]? := by
 have hm : (b, W.heap[b]) ∈ allBlocks W := List.mem_map.2 ⟨(W.heap[b], b), List.mem_zipIdx_iff_getElem?.2 (by simp [hb]), rfl⟩
 rw [h.at_ _ hm, Array.getElem?_eq_getElem hb]
theorem same_of_sat {W W' : World} (h : Sat (outOf W) W' (allBlocks W)) {p : MemPlace} (hp : p.block < W.heap.size) : W.sameAt W' p := by
 cases p with
 | cell b o => exact World.cell?_of_block (w := W) (heap_of_sat h hp)
 | map b => exact heap_of_sat h hp
theorem cell_of_sat {W W' : World} (h : Sat (outOf W) W' (allBlocks W)) {a : Addr} {v : Value} (hc : W.cell? a = some v) : W'.cell? a = some v := by
 have hb : a.block < W.heap.size := by
  rcases Nat.lt_or_ge a.block W.heap.size with hlt | hge
  ·exact hlt
  ·have : W.heap[a.block]? = none := Array.getElem?_eq_none hge
   unfold World.cell? at hc
   rw [this] at hc; cases hc
 rw [← hc]
 unfold World.cell?
 rw [heap_of_sat h hb]
theorem open_sarg {P : Program} {H : Type} {enc : TypeId × Value → H} {W : World} {r : Reach} {b0 : Nat} {t e : TypeId} {v : Value} {d : DataW H} {ps : List MemPlace} (ht : P.underlying t = some (.slice e)) (he : P.underlying e = some .string) (hc : P.cellsOf e = 1)
 (hval : Value.okWide P W r b0 t v) (h : DataW.Trod enc P W 0 (fun _ => true) true t v d ps) : ∃ q n c ls, v = .slice q n c ∧ SArg (outOf W) (allBlocks W) q n ls := by
 obtain ⟨a0, len, cap, rfl⟩ := okWide_slice ht hval
 obtain ⟨fuel, hf⟩ := h
 rcases open_strings ht he hc hf with ⟨hcs, hx⟩ | ⟨a, len', cap', ss, hcs, _, hl, hm, hz, hx, hcell, hws⟩
 ·simp [Value.cells] at hcs
  obtain ⟨rfl, rfl, rfl⟩ := hcs
  exact ⟨none, 0, 0, [], rfl, ⟨rfl, fun i hi => by simp at hi⟩⟩
 ·simp [Value.cells] at hcs
  obtain ⟨rfl, rfl, rfl⟩ := hcs
  simp only [if_true] at hz
  refine ⟨some a, len, cap, (ss.take len).map fun b => b.data.toList, rfl, ⟨by simp; omega, fun i hi => ?_⟩⟩
  simp only [List.length_map, List.length_take] at hi
  refine ⟨a, rfl, fun w hw => ?_⟩
  have h1 := cell_of_sat hw (hcell i (by omega))
  rw [h1]
  congr 2
  rw [List.getElem_map, List.getElem_take, ← bs_of]
  rw [List.getD_eq_getElem?_getD, List.getElem?_eq_getElem (by omega)]; rfl
theorem u8_of {n : Int} (h : (Lit.int .u8 n).wf = true) : ∃ m : Nat, m < 256 ∧ n = (m : Int) := by
 have h1 : (decide (IntKind.u8.min ≤ n) && decide (n ≤ IntKind.u8.max)) = true := h
 simp only [Bool.and_eq_true, decide_eq_true_eq] at h1
 have a : IntKind.u8.min = 0 := rfl
 have b : IntKind.u8.max = 255 := rfl
 rw [a, b] at h1
 exact ⟨n.toNat, by omega, by omega⟩
end Go.Proofs.YtgbgadkldalkbaaGreatDoor

