/- Part 3 of the proof of the law FnTaskList: for every input the law returns true, the inputs read as they did, and memory that was there is as it was; under the conditions of the given row alone. -/
import Derived.Laws.Slices
import Derived.Test.YtgbgadkldalkbaaGreatDoorA2
set_option linter.all false
set_option linter.unusedVariables false
set_option maxRecDepth 20000
namespace Go.Proofs.YtgbgadkldalkbaaGreatDoor
open Go.Proofs
namespace g_newHR
noncomputable def body : Code := bodyOf Tryz.f127
end g_newHR
def g_newHR (R : EP) (x0 : OA) (x1_0 x1_1 x1_2 : Int) (x1_3 : BA) (x1_4 : Int) (w : World) : Prop :=
 box w #[.int .i64 x1_0, .int .i64 x1_1, .int .i64 x1_2, .string x1_3, .int .u8 x1_4] ty_line fun b1 w2 =>
 box w2 #[.int .i64 0, .int .i64 0, .int .i64 0, .string (ByteArray.mk #[]), .int .u8 0] ty_line fun b3 w4 =>
 ∃ (v5 : Int), w4.cell? ⟨b1, 0, none⟩ = some (.int .i64 v5) ∧
 ∃ (v6 : Int), w4.cell? ⟨b1, 1, none⟩ = some (.int .i64 v6) ∧
 ∃ (v7 : Int), w4.cell? ⟨b1, 2, none⟩ = some (.int .i64 v7) ∧
 ∃ (v8 : BA), w4.cell? ⟨b1, 3, none⟩ = some (.string v8) ∧
 ∃ (v9 : Int), w4.cell? ⟨b1, 4, none⟩ = some (.int .u8 v9) ∧
 callE P i_isHR #[.agg #[.int .i64 v5, .int .i64 v6, .int .i64 v7, .string v8, .int .u8 v9]] (fun e w11 => ∃ (r10 : Bool), e = .returned (.bool r10) ∧
 br r10
 (tk w11 fun w12 =>
 nilP x0 fun a13 =>
 nilP x0 fun a14 =>
 ∃ (v15 : Int), w12.cell? (a13.add 3) = some (.int .i64 v15) ∧
 ∃ (v16 : Int), w12.cell? (a14.add 3) = some (.int .i64 v16) ∧
 callE P i_line_string #[.pointer (some ⟨b1, 0, none⟩)] (fun e w18 => ∃ (r17 : BA), e = .returned (.string r17) ∧
 SameC w12 w18 (a14.add 3) 1 ∧
 SameC w12 w18 (a13.add 3) 1 ∧
 box w18 #[.int .i64 v15, .int .i64 v16, .string r17] ty_ThematicBreak fun b19 w20 =>
 callE P i_parseState_doneBlock #[.pointer x0, .iface ty_P_ThematicBreak (.pointer (some ⟨b19, 0, none⟩))] (fun e w22 => e = .returned (.tuple #[]) ∧
 stV w22 ⟨b3, 0, none⟩ (.int .i64 0) fun w23 =>
 stV w23 ⟨b3, 1, none⟩ (.int .i64 0) fun w24 =>
 stV w24 ⟨b3, 2, none⟩ (.int .i64 0) fun w25 =>
 stV w25 ⟨b3, 3, none⟩ (.string (ByteArray.mk #[])) fun w26 =>
 stV w26 ⟨b3, 4, none⟩ (.int .u8 0) fun w27 =>
 ∃ (v28 : Int), w27.cell? ⟨b3, 0, none⟩ = some (.int .i64 v28) ∧
 ∃ (v29 : Int), w27.cell? ⟨b3, 1, none⟩ = some (.int .i64 v29) ∧
 ∃ (v30 : Int), w27.cell? ⟨b3, 2, none⟩ = some (.int .i64 v30) ∧
 ∃ (v31 : BA), w27.cell? ⟨b3, 3, none⟩ = some (.string v31) ∧
 ∃ (v32 : Int), w27.cell? ⟨b3, 4, none⟩ = some (.int .u8 v32) ∧
 R (.returned (.tuple #[.agg #[.int .i64 v28, .int .i64 v29, .int .i64 v30, .string v31, .int .u8 v32], .bool true])) w27) w20) w12)
 (∃ (v33 : Int), w11.cell? ⟨b1, 0, none⟩ = some (.int .i64 v33) ∧
 ∃ (v34 : Int), w11.cell? ⟨b1, 1, none⟩ = some (.int .i64 v34) ∧
 ∃ (v35 : Int), w11.cell? ⟨b1, 2, none⟩ = some (.int .i64 v35) ∧
 ∃ (v36 : BA), w11.cell? ⟨b1, 3, none⟩ = some (.string v36) ∧
 ∃ (v37 : Int), w11.cell? ⟨b1, 4, none⟩ = some (.int .u8 v37) ∧
 stV w11 ⟨b3, 0, none⟩ (.int .i64 v33) fun w38 =>
 stV w38 ⟨b3, 1, none⟩ (.int .i64 v34) fun w39 =>
 stV w39 ⟨b3, 2, none⟩ (.int .i64 v35) fun w40 =>
 stV w40 ⟨b3, 3, none⟩ (.string v36) fun w41 =>
 stV w41 ⟨b3, 4, none⟩ (.int .u8 v37) fun w42 =>
 ∃ (v43 : Int), w42.cell? ⟨b3, 0, none⟩ = some (.int .i64 v43) ∧
 ∃ (v44 : Int), w42.cell? ⟨b3, 1, none⟩ = some (.int .i64 v44) ∧
 ∃ (v45 : Int), w42.cell? ⟨b3, 2, none⟩ = some (.int .i64 v45) ∧
 ∃ (v46 : BA), w42.cell? ⟨b3, 3, none⟩ = some (.string v46) ∧
 ∃ (v47 : Int), w42.cell? ⟨b3, 4, none⟩ = some (.int .u8 v47) ∧
 R (.returned (.tuple #[.agg #[.int .i64 v43, .int .i64 v44, .int .i64 v45, .string v46, .int .u8 v47], .bool false])) w42)) w4

namespace g_newHR
noncomputable def ac (R : EP) : AC :=
 (.seq (.leaf (sel [0] body)) (.seq (.seq (.leaf (sel [1,0,0] body)) (.cond 7 (.seq (.draw (.pure 0 (.pure 1 (.pure 2 (.pure 3 (.pure 5 (.pure 6 (.pure 7 (.load 4 (.load 8 (.pure 9 (.one 10 (.pure 11 (.one 12 (.pure 13 (.one 14 .done))))))))))))))) (sel [1,0,1,0,0] body)) (.leaf (sel [1,0,1,0,1] body))) (.leaf (sel [1,0,1,1] body)))) (.leaf (sel [1,1] body))))
theorem good (R : EP) : Good P 25 (ac R) (QF P [.cell 4 159, .tmp 5] R) :=
 ⟨trivial, ⟨⟨trivial, ⟨⟨⟨by kernel_rfl, by kernel_rfl, fun _ _ _ h => h⟩, trivial⟩, trivial⟩⟩, trivial⟩⟩
theorem eq (R : EP) (x0 : OA) (x1_0 x1_1 x1_2 : Int) (x1_3 : BA) (x1_4 : Int) (w : World) : g_newHR R x0 x1_0 x1_1 x1_2 x1_3 x1_4 w = vcA P 25 (ac R) (QF P [.cell 4 159, .tmp 5] R) (fr0 [.pointer x0, .agg #[.int .i64 x1_0, .int .i64 x1_1, .int .i64 x1_2, .string x1_3, .int .u8 x1_4]]) w := by kernel_rfl
theorem sound {R : EP} {x0 : OA} {x1_0 x1_1 x1_2 : Int} {x1_3 : ByteArray} {x1_4 : Int} {w : World} (h : g_newHR R x0 x1_0 x1_1 x1_2 x1_3 x1_4 w) : callE P i_newHR #[.pointer x0, .agg #[.int .i64 x1_0, .int .i64 x1_1, .int .i64 x1_2, .string x1_3, .int .u8 x1_4]] R w :=
 callE_fz (c := body) Tryz.func127 Tryz.call127 (good R) (eq R x0 x1_0 x1_1 x1_2 x1_3 x1_4 w) h
end g_newHR
namespace g_newQuote
noncomputable def body : Code := bodyOf Tryz.f124
end g_newQuote
def g_newQuote (R : EP) (x0 : OA) (x1_0 x1_1 x1_2 : Int) (x1_3 : BA) (x1_4 : Int) (w : World) : Prop :=
 box w #[.int .i64 x1_0, .int .i64 x1_1, .int .i64 x1_2, .string x1_3, .int .u8 x1_4] ty_line fun b1 w2 =>
 box w2 #[.int .i64 0, .int .i64 0, .int .i64 0, .string (ByteArray.mk #[]), .int .u8 0] ty_line fun b3 w4 =>
 ∃ (v5 : Int), w4.cell? ⟨b1, 0, none⟩ = some (.int .i64 v5) ∧
 ∃ (v6 : Int), w4.cell? ⟨b1, 1, none⟩ = some (.int .i64 v6) ∧
 ∃ (v7 : Int), w4.cell? ⟨b1, 2, none⟩ = some (.int .i64 v7) ∧
 ∃ (v8 : BA), w4.cell? ⟨b1, 3, none⟩ = some (.string v8) ∧
 ∃ (v9 : Int), w4.cell? ⟨b1, 4, none⟩ = some (.int .u8 v9) ∧
 callE P i_trimQuote #[.agg #[.int .i64 v5, .int .i64 v6, .int .i64 v7, .string v8, .int .u8 v9]] (fun e w11 => ∃ (r10_0_0 : Int), ∃ (r10_0_1 : Int), ∃ (r10_0_2 : Int), ∃ (r10_0_3 : BA), ∃ (r10_0_4 : Int), ∃ (r10_1 : Bool), e = .returned (.tuple #[.agg #[.int .i64 r10_0_0, .int .i64 r10_0_1, .int .i64 r10_0_2, .string r10_0_3, .int .u8 r10_0_4], .bool r10_1]) ∧
 box w11 #[.int .i64 0, .int .i64 0, .int .i64 0, .string (ByteArray.mk #[]), .int .u8 0] ty_line fun b12 w13 =>
 stV w13 ⟨b12, 0, none⟩ (.int .i64 r10_0_0) fun w14 =>
 stV w14 ⟨b12, 1, none⟩ (.int .i64 r10_0_1) fun w15 =>
 stV w15 ⟨b12, 2, none⟩ (.int .i64 r10_0_2) fun w16 =>
 stV w16 ⟨b12, 3, none⟩ (.string r10_0_3) fun w17 =>
 stV w17 ⟨b12, 4, none⟩ (.int .u8 r10_0_4) fun w18 =>
 br r10_1
 (box w18 #[] ty_quoteBuilder fun b19 w20 =>
 callE P i_parseState_addBlock #[.pointer x0, .iface ty_P_quoteBuilder (.pointer (some ⟨b19, 0, none⟩))] (fun e w22 => e = .returned (.tuple #[]) ∧
 ∃ (v23 : Int), w22.cell? ⟨b12, 0, none⟩ = some (.int .i64 v23) ∧
 ∃ (v24 : Int), w22.cell? ⟨b12, 1, none⟩ = some (.int .i64 v24) ∧
 ∃ (v25 : Int), w22.cell? ⟨b12, 2, none⟩ = some (.int .i64 v25) ∧
 ∃ (v26 : BA), w22.cell? ⟨b12, 3, none⟩ = some (.string v26) ∧
 ∃ (v27 : Int), w22.cell? ⟨b12, 4, none⟩ = some (.int .u8 v27) ∧
 stV w22 ⟨b3, 0, none⟩ (.int .i64 v23) fun w28 =>
 stV w28 ⟨b3, 1, none⟩ (.int .i64 v24) fun w29 =>
 stV w29 ⟨b3, 2, none⟩ (.int .i64 v25) fun w30 =>
 stV w30 ⟨b3, 3, none⟩ (.string v26) fun w31 =>
 stV w31 ⟨b3, 4, none⟩ (.int .u8 v27) fun w32 =>
 ∃ (v33 : Int), w32.cell? ⟨b3, 0, none⟩ = some (.int .i64 v33) ∧
 ∃ (v34 : Int), w32.cell? ⟨b3, 1, none⟩ = some (.int .i64 v34) ∧
 ∃ (v35 : Int), w32.cell? ⟨b3, 2, none⟩ = some (.int .i64 v35) ∧
 ∃ (v36 : BA), w32.cell? ⟨b3, 3, none⟩ = some (.string v36) ∧
 ∃ (v37 : Int), w32.cell? ⟨b3, 4, none⟩ = some (.int .u8 v37) ∧
 R (.returned (.tuple #[.agg #[.int .i64 v33, .int .i64 v34, .int .i64 v35, .string v36, .int .u8 v37], .bool true])) w32) w20)
 (∃ (v38 : Int), w18.cell? ⟨b1, 0, none⟩ = some (.int .i64 v38) ∧
 ∃ (v39 : Int), w18.cell? ⟨b1, 1, none⟩ = some (.int .i64 v39) ∧
 ∃ (v40 : Int), w18.cell? ⟨b1, 2, none⟩ = some (.int .i64 v40) ∧
 ∃ (v41 : BA), w18.cell? ⟨b1, 3, none⟩ = some (.string v41) ∧
 ∃ (v42 : Int), w18.cell? ⟨b1, 4, none⟩ = some (.int .u8 v42) ∧
 stV w18 ⟨b3, 0, none⟩ (.int .i64 v38) fun w43 =>
 stV w43 ⟨b3, 1, none⟩ (.int .i64 v39) fun w44 =>
 stV w44 ⟨b3, 2, none⟩ (.int .i64 v40) fun w45 =>
 stV w45 ⟨b3, 3, none⟩ (.string v41) fun w46 =>
 stV w46 ⟨b3, 4, none⟩ (.int .u8 v42) fun w47 =>
 ∃ (v48 : Int), w47.cell? ⟨b3, 0, none⟩ = some (.int .i64 v48) ∧
 ∃ (v49 : Int), w47.cell? ⟨b3, 1, none⟩ = some (.int .i64 v49) ∧
 ∃ (v50 : Int), w47.cell? ⟨b3, 2, none⟩ = some (.int .i64 v50) ∧
 ∃ (v51 : BA), w47.cell? ⟨b3, 3, none⟩ = some (.string v51) ∧
 ∃ (v52 : Int), w47.cell? ⟨b3, 4, none⟩ = some (.int .u8 v52) ∧
 R (.returned (.tuple #[.agg #[.int .i64 v48, .int .i64 v49, .int .i64 v50, .string v51, .int .u8 v52], .bool false])) w47)) w4

namespace g_newQuote
noncomputable def ac (R : EP) : AC :=
 (.leaf (sel [] body))
theorem good (R : EP) : Good P 20 (ac R) (QF P [.cell 4 159, .tmp 5] R) :=
 trivial
theorem eq (R : EP) (x0 : OA) (x1_0 x1_1 x1_2 : Int) (x1_3 : BA) (x1_4 : Int) (w : World) : g_newQuote R x0 x1_0 x1_1 x1_2 x1_3 x1_4 w = vcA P 20 (ac R) (QF P [.cell 4 159, .tmp 5] R) (fr0 [.pointer x0, .agg #[.int .i64 x1_0, .int .i64 x1_1, .int .i64 x1_2, .string x1_3, .int .u8 x1_4]]) w := by kernel_rfl
theorem sound {R : EP} {x0 : OA} {x1_0 x1_1 x1_2 : Int} {x1_3 : ByteArray} {x1_4 : Int} {w : World} (h : g_newQuote R x0 x1_0 x1_1 x1_2 x1_3 x1_4 w) : callE P i_newQuote #[.pointer x0, .agg #[.int .i64 x1_0, .int .i64 x1_1, .int .i64 x1_2, .string x1_3, .int .u8 x1_4]] R w :=
 callE_fz (c := body) Tryz.func124 Tryz.call124 (good R) (eq R x0 x1_0 x1_1 x1_2 x1_3 x1_4 w) h
end g_newQuote
namespace g_isHR
noncomputable def body : Code := bodyOf Tryz.f186
def bl1 (R : EP) (Xa : Nat → Int → Int → WP) (x3 : Nat) (x4 x5 : Int) (w : World) : Prop :=
 callE P i_line_trim #[.pointer (some ⟨x3, 0, none⟩), .int .u8 x4] (fun e w20 => ∃ (r19 : Bool), e = .returned (.bool r19) ∧
 br (!r19)
 (br (decide (x5 ≥ 3))
 (callE P i_line_eof #[.pointer (some ⟨x3, 0, none⟩)] (fun e w22 => ∃ (r21 : Bool), e = .returned (.bool r21) ∧
 R (.returned (.bool r21)) w22) w20)
 (R (.returned (.bool false)) w20))
 (callE P i_line_skipSpace #[.pointer (some ⟨x3, 0, none⟩)] (fun e w24 => e = .returned (.tuple #[]) ∧
 Xa x3 x4 (IntKind.i64.wrap (x5 + 1)) w24) w20)) w
def l1 (R : EP) (x3 : Nat) (x4 x5 : Int) (w : World) : Prop :=
 ∀ X : Nat → Int → Int → WP, (∀ x3 x4 x5 w, bl1 R X x3 x4 x5 w → X x3 x4 x5 w) → X x3 x4 x5 w

noncomputable def al1 (R : EP) (Xa : Nat → Int → Int → WP) : AC :=
 (.leaf (sel [1,1,1,0,1,1,0,1,0,0,1,0,0] body))
def k1 (R : EP) (x3 : Nat) (x4 : Int) (x10 : Bool) (w : World) : Prop :=
 br x10
 (l1 R x3 x4 0 w)
 (R (.returned (.bool false)) w)

end g_isHR
def g_isHR (R : EP) (x0_0 x0_1 x0_2 : Int) (x0_3 : BA) (x0_4 : Int) (w : World) : Prop :=
 box w #[.int .i64 x0_0, .int .i64 x0_1, .int .i64 x0_2, .string x0_3, .int .u8 x0_4] ty_line fun b1 w2 =>
 ∃ (v3 : Int), w2.cell? ⟨b1, 0, none⟩ = some (.int .i64 v3) ∧
 ∃ (v4 : Int), w2.cell? ⟨b1, 1, none⟩ = some (.int .i64 v4) ∧
 ∃ (v5 : Int), w2.cell? ⟨b1, 2, none⟩ = some (.int .i64 v5) ∧
 ∃ (v6 : BA), w2.cell? ⟨b1, 3, none⟩ = some (.string v6) ∧
 ∃ (v7 : Int), w2.cell? ⟨b1, 4, none⟩ = some (.int .u8 v7) ∧
 box w2 #[.int .i64 0, .int .i64 0, .int .i64 0, .string (ByteArray.mk #[]), .int .u8 0] ty_line fun b8 w9 =>
 stV w9 ⟨b8, 0, none⟩ (.int .i64 v3) fun w10 =>
 stV w10 ⟨b8, 1, none⟩ (.int .i64 v4) fun w11 =>
 stV w11 ⟨b8, 2, none⟩ (.int .i64 v5) fun w12 =>
 stV w12 ⟨b8, 3, none⟩ (.string v6) fun w13 =>
 stV w13 ⟨b8, 4, none⟩ (.int .u8 v7) fun w14 =>
 callE P i_line_trimSpace #[.pointer (some ⟨b8, 0, none⟩), .int .i64 0, .int .i64 3, .bool false] (fun e w16 => ∃ (r15 : Bool), e = .returned (.bool r15) ∧
 callE P i_line_peek #[.pointer (some ⟨b8, 0, none⟩)] (fun e w18 => ∃ (r17 : Int), e = .returned (.int .u8 r17) ∧
 br (r17 == 45)
 (g_isHR.k1 R b8 r17 true w18)
 (br (r17 == 95)
 (g_isHR.k1 R b8 r17 true w18)
 (g_isHR.k1 R b8 r17 (r17 == 42) w18))) w16) w14

namespace g_isHR
noncomputable def ac (R : EP) : AC :=
 (.seq (.leaf (sel [0] body)) (.seq (.leaf (sel [1,0] body)) (.seq (.leaf (sel [1,1,0] body)) (.seq (.seq (.leaf (sel [1,1,1,0,0] body)) (.seq (.leaf (sel [1,1,1,0,1,0] body)) (.block 0 (.seq (.leaf (sel [1,1,1,0,1,1,0,0] body)) (.mark (leaf [(3, .s .loc), (4, .s (.int .u8)), (10, .s .bool)] (k1 R)) (.cond 10 (.seq (.seq (.leaf (sel [1,1,1,0,1,1,0,1,0,0,0] body)) (.block 1 (.loop (leaf [(3, .s .loc), (4, .s (.int .u8)), (5, .s (.int .i64))] (l1 R)) (sel [1,1,1,0,1,1,0,1,0,0,1,0,0] body)))) (.leaf (sel [1,1,1,0,1,1,0,1,0,1] body))) (.leaf (sel [1,1,1,0,1,1,0,1,1] body)))))))) (.leaf (sel [1,1,1,1] body))))))
theorem good (R : EP) : Good P 23 (ac R) (QF P [.tmp 2] R) :=
 ⟨trivial, ⟨trivial, ⟨trivial, ⟨⟨trivial, ⟨trivial, ⟨trivial, ⟨⟨⟨⟨trivial, (loopG (al1 R) (bl1 R) (fun _ => by kernel_rfl) (fun Xa => trivial) (fun Xa => by intro x3 x4 x5 ρ w; kernel_rfl) (fun X h _ _ _ _ g => g X h))⟩, trivial⟩, trivial⟩, cutZ⟩⟩⟩⟩, trivial⟩⟩⟩⟩
theorem eq (R : EP) (x0_0 x0_1 x0_2 : Int) (x0_3 : BA) (x0_4 : Int) (w : World) : g_isHR R x0_0 x0_1 x0_2 x0_3 x0_4 w = vcA P 23 (ac R) (QF P [.tmp 2] R) (fr0 [.agg #[.int .i64 x0_0, .int .i64 x0_1, .int .i64 x0_2, .string x0_3, .int .u8 x0_4]]) w := by kernel_rfl
theorem sound {R : EP} {x0_0 x0_1 x0_2 : Int} {x0_3 : ByteArray} {x0_4 : Int} {w : World} (h : g_isHR R x0_0 x0_1 x0_2 x0_3 x0_4 w) : callE P i_isHR #[.agg #[.int .i64 x0_0, .int .i64 x0_1, .int .i64 x0_2, .string x0_3, .int .u8 x0_4]] R w :=
 callE_fz (c := body) Tryz.func186 Tryz.call186 (good R) (eq R x0_0 x0_1 x0_2 x0_3 x0_4 w) h
end g_isHR
namespace g_trimQuote
noncomputable def body : Code := bodyOf Tryz.f173
end g_trimQuote
def g_trimQuote (R : EP) (x0_0 x0_1 x0_2 : Int) (x0_3 : BA) (x0_4 : Int) (w : World) : Prop :=
 box w #[.int .i64 x0_0, .int .i64 x0_1, .int .i64 x0_2, .string x0_3, .int .u8 x0_4] ty_line fun b1 w2 =>
 box w2 #[.int .i64 0, .int .i64 0, .int .i64 0, .string (ByteArray.mk #[]), .int .u8 0] ty_line fun b3 w4 =>
 ∃ (v5 : Int), w4.cell? ⟨b1, 0, none⟩ = some (.int .i64 v5) ∧
 ∃ (v6 : Int), w4.cell? ⟨b1, 1, none⟩ = some (.int .i64 v6) ∧
 ∃ (v7 : Int), w4.cell? ⟨b1, 2, none⟩ = some (.int .i64 v7) ∧
 ∃ (v8 : BA), w4.cell? ⟨b1, 3, none⟩ = some (.string v8) ∧
 ∃ (v9 : Int), w4.cell? ⟨b1, 4, none⟩ = some (.int .u8 v9) ∧
 box w4 #[.int .i64 0, .int .i64 0, .int .i64 0, .string (ByteArray.mk #[]), .int .u8 0] ty_line fun b10 w11 =>
 stV w11 ⟨b10, 0, none⟩ (.int .i64 v5) fun w12 =>
 stV w12 ⟨b10, 1, none⟩ (.int .i64 v6) fun w13 =>
 stV w13 ⟨b10, 2, none⟩ (.int .i64 v7) fun w14 =>
 stV w14 ⟨b10, 3, none⟩ (.string v8) fun w15 =>
 stV w15 ⟨b10, 4, none⟩ (.int .u8 v9) fun w16 =>
 callE P i_line_trimSpace #[.pointer (some ⟨b10, 0, none⟩), .int .i64 0, .int .i64 3, .bool false] (fun e w18 => ∃ (r17 : Bool), e = .returned (.bool r17) ∧
 callE P i_line_trim #[.pointer (some ⟨b10, 0, none⟩), .int .u8 62] (fun e w20 => ∃ (r19 : Bool), e = .returned (.bool r19) ∧
 br (!r19)
 (∃ (v21 : Int), w20.cell? ⟨b1, 0, none⟩ = some (.int .i64 v21) ∧
 ∃ (v22 : Int), w20.cell? ⟨b1, 1, none⟩ = some (.int .i64 v22) ∧
 ∃ (v23 : Int), w20.cell? ⟨b1, 2, none⟩ = some (.int .i64 v23) ∧
 ∃ (v24 : BA), w20.cell? ⟨b1, 3, none⟩ = some (.string v24) ∧
 ∃ (v25 : Int), w20.cell? ⟨b1, 4, none⟩ = some (.int .u8 v25) ∧
 stV w20 ⟨b3, 0, none⟩ (.int .i64 v21) fun w26 =>
 stV w26 ⟨b3, 1, none⟩ (.int .i64 v22) fun w27 =>
 stV w27 ⟨b3, 2, none⟩ (.int .i64 v23) fun w28 =>
 stV w28 ⟨b3, 3, none⟩ (.string v24) fun w29 =>
 stV w29 ⟨b3, 4, none⟩ (.int .u8 v25) fun w30 =>
 ∃ (v31 : Int), w30.cell? ⟨b3, 0, none⟩ = some (.int .i64 v31) ∧
 ∃ (v32 : Int), w30.cell? ⟨b3, 1, none⟩ = some (.int .i64 v32) ∧
 ∃ (v33 : Int), w30.cell? ⟨b3, 2, none⟩ = some (.int .i64 v33) ∧
 ∃ (v34 : BA), w30.cell? ⟨b3, 3, none⟩ = some (.string v34) ∧
 ∃ (v35 : Int), w30.cell? ⟨b3, 4, none⟩ = some (.int .u8 v35) ∧
 R (.returned (.tuple #[.agg #[.int .i64 v31, .int .i64 v32, .int .i64 v33, .string v34, .int .u8 v35], .bool false])) w30)
 (callE P i_line_trimSpace #[.pointer (some ⟨b10, 0, none⟩), .int .i64 0, .int .i64 1, .bool true] (fun e w37 => ∃ (r36 : Bool), e = .returned (.bool r36) ∧
 ∃ (v38 : Int), w37.cell? ⟨b10, 0, none⟩ = some (.int .i64 v38) ∧
 ∃ (v39 : Int), w37.cell? ⟨b10, 1, none⟩ = some (.int .i64 v39) ∧
 ∃ (v40 : Int), w37.cell? ⟨b10, 2, none⟩ = some (.int .i64 v40) ∧
 ∃ (v41 : BA), w37.cell? ⟨b10, 3, none⟩ = some (.string v41) ∧
 ∃ (v42 : Int), w37.cell? ⟨b10, 4, none⟩ = some (.int .u8 v42) ∧
 stV w37 ⟨b3, 0, none⟩ (.int .i64 v38) fun w43 =>
 stV w43 ⟨b3, 1, none⟩ (.int .i64 v39) fun w44 =>
 stV w44 ⟨b3, 2, none⟩ (.int .i64 v40) fun w45 =>
 stV w45 ⟨b3, 3, none⟩ (.string v41) fun w46 =>
 stV w46 ⟨b3, 4, none⟩ (.int .u8 v42) fun w47 =>
 ∃ (v48 : Int), w47.cell? ⟨b3, 0, none⟩ = some (.int .i64 v48) ∧
 ∃ (v49 : Int), w47.cell? ⟨b3, 1, none⟩ = some (.int .i64 v49) ∧
 ∃ (v50 : Int), w47.cell? ⟨b3, 2, none⟩ = some (.int .i64 v50) ∧
 ∃ (v51 : BA), w47.cell? ⟨b3, 3, none⟩ = some (.string v51) ∧
 ∃ (v52 : Int), w47.cell? ⟨b3, 4, none⟩ = some (.int .u8 v52) ∧
 R (.returned (.tuple #[.agg #[.int .i64 v48, .int .i64 v49, .int .i64 v50, .string v51, .int .u8 v52], .bool true])) w47) w20)) w18) w16

namespace g_trimQuote
noncomputable def ac (R : EP) : AC :=
 (.leaf (sel [] body))
theorem good (R : EP) : Good P 12 (ac R) (QF P [.cell 2 159, .tmp 3] R) :=
 trivial
theorem eq (R : EP) (x0_0 x0_1 x0_2 : Int) (x0_3 : BA) (x0_4 : Int) (w : World) : g_trimQuote R x0_0 x0_1 x0_2 x0_3 x0_4 w = vcA P 12 (ac R) (QF P [.cell 2 159, .tmp 3] R) (fr0 [.agg #[.int .i64 x0_0, .int .i64 x0_1, .int .i64 x0_2, .string x0_3, .int .u8 x0_4]]) w := by kernel_rfl
theorem sound {R : EP} {x0_0 x0_1 x0_2 : Int} {x0_3 : ByteArray} {x0_4 : Int} {w : World} (h : g_trimQuote R x0_0 x0_1 x0_2 x0_3 x0_4 w) : callE P i_trimQuote #[.agg #[.int .i64 x0_0, .int .i64 x0_1, .int .i64 x0_2, .string x0_3, .int .u8 x0_4]] R w :=
 callE_fz (c := body) Tryz.func173 Tryz.call173 (good R) (eq R x0_0 x0_1 x0_2 x0_3 x0_4 w) h
end g_trimQuote
namespace g_parseState_addBlock
noncomputable def body : Code := bodyOf Tryz.f66
end g_parseState_addBlock
def g_parseState_addBlock (R : EP) (x0 : OA) (x1 : Value) (w : World) : Prop :=
 nilP x0 fun a1 =>
 ∃ (v2 : Int), w.cell? (a1.add 5) = some (.int .i64 v2) ∧
 callE P i_parseState_trimStack #[.pointer x0, .int .i64 (IntKind.i64.wrap (v2 + 1))] (fun e w4 => e = .returned (.tuple #[]) ∧
 nilP x0 fun a5 =>
 ∃ (v6q : OA), ∃ (v6n : Nat), ∃ (v6c : Nat), w4.cell? (a5.add 4) = some (.slice v6q v6n v6c) ∧
 ∃ (r7q : OA), ∃ (r7n : Nat), ∃ (r7c : Nat), ∃ w8, (Instr.buildSlice ty_S_openBlock 1 #[(0, .agg #[.nilIface, .slice none 0 0, .int .i64 0, .int .i64 0])]).run P w4 = .ok (.slice r7q r7n r7c) w8 ∧
 ∃ (r9q : OA), ∃ (r9n : Nat), ∃ (r9c : Nat), ∃ w10, (Builtin.append_ #[ty_S_openBlock, ty_S_openBlock] ty_S_openBlock #[.slice v6q v6n v6c, .slice r7q r7n r7c]).run P w8 = .ok (.slice r9q r9n r9c) w10 ∧
 nilP x0 fun a11 =>
 stV w10 ((a11.add 4).add 0) (.slice r9q r9n r9c) fun w12 =>
 tk w12 fun w13 =>
 nilP x0 fun a14 =>
 nilP x0 fun a15 =>
 ∃ (v16q : OA), ∃ (v16n : Nat), ∃ (v16c : Nat), w13.cell? (a14.add 4) = some (.slice v16q v16n v16c) ∧
 ∃ (v17q : OA), ∃ (v17n : Nat), ∃ (v17c : Nat), w13.cell? (a15.add 4) = some (.slice v17q v17n v17c) ∧
 0 ≤ (IntKind.i64.wrap ((v17n : Int) - 1)) ∧ (IntKind.i64.wrap ((v17n : Int) - 1)) < (v16n : Int) ∧
 nilP v16q fun a18 =>
 cellV x1 (
 stV w13 ((a18.add (Int.toNat (IntKind.i64.wrap ((v17n : Int) - 1)) * 4)).add 0) x1 fun w19 =>
 nilP x0 fun a20 =>
 ∃ (v21 : Int), w19.cell? (a20.add 3) = some (.int .i64 v21) ∧
 stV w19 (((a18.add (Int.toNat (IntKind.i64.wrap ((v17n : Int) - 1)) * 4)).add 2).add 0) (.int .i64 v21) fun w22 =>
 nilP x0 fun a23 =>
 ∃ (v24 : Int), w22.cell? (a23.add 3) = some (.int .i64 v24) ∧
 stV w22 ((((a18.add (Int.toNat (IntKind.i64.wrap ((v17n : Int) - 1)) * 4)).add 2).add 1).add 0) (.int .i64 v24) fun w25 =>
 R (.returned (.tuple #[])) w25)) w

namespace g_parseState_addBlock
noncomputable def ac (R : EP) : AC :=
 (.seq (.leaf (sel [0] body)) (.seq (.leaf (sel [1,0] body)) (.seq (.draw (.pure 0 (.pure 1 (.pure 2 (.pure 4 (.pure 5 (.pure 6 (.load 3 (.load 7 (.pure 8 (.pure 9 (.pure 10 (.pure 11 .done)))))))))))) (sel [1,1,0] body)) (.leaf (sel [1,1,1] body)))))
theorem good (R : EP) : Good P 53 (ac R) (QF P [] R) :=
 ⟨trivial, ⟨trivial, ⟨⟨by kernel_rfl, by kernel_rfl, fun _ _ _ h => h⟩, trivial⟩⟩⟩
theorem eq (R : EP) (x0 : OA) (x1 : Value) (w : World) : g_parseState_addBlock R x0 x1 w = vcA P 53 (ac R) (QF P [] R) (fr0 [.pointer x0, x1]) w := by kernel_rfl
theorem sound {R : EP} {x0 : OA} {x1 : Value} {w : World} (h : g_parseState_addBlock R x0 x1 w) : callE P i_parseState_addBlock #[.pointer x0, x1] R w :=
 callE_fz (c := body) Tryz.func66 Tryz.call66 (good R) (eq R x0 x1 w) h
end g_parseState_addBlock
namespace g_parseState_blocks
noncomputable def body : Code := bodyOf Tryz.f334
end g_parseState_blocks
def g_parseState_blocks (R : EP) (x0 : OA) (w : World) : Prop :=
 tk w fun w1 =>
 nilP x0 fun a2 =>
 nilP x0 fun a3 =>
 ∃ (v4q : OA), ∃ (v4n : Nat), ∃ (v4c : Nat), w1.cell? (a2.add 4) = some (.slice v4q v4n v4c) ∧
 ∃ (v5q : OA), ∃ (v5n : Nat), ∃ (v5c : Nat), w1.cell? (a3.add 4) = some (.slice v5q v5n v5c) ∧
 0 ≤ (IntKind.i64.wrap ((v5n : Int) - 1)) ∧ (IntKind.i64.wrap ((v5n : Int) - 1)) < (v4n : Int) ∧
 nilP v4q fun a6 =>
 ∃ (v7q : OA), ∃ (v7n : Nat), ∃ (v7c : Nat), w1.cell? ((a6.add (Int.toNat (IntKind.i64.wrap ((v5n : Int) - 1)) * 4)).add 1) = some (.slice v7q v7n v7c) ∧
 R (.returned (.slice v7q v7n v7c)) w1

namespace g_parseState_blocks
noncomputable def ac (R : EP) : AC :=
 (.seq (.leaf (sel [0] body)) (.seq (.draw (.pure 0 (.pure 1 (.pure 2 (.pure 4 (.pure 5 (.pure 6 (.load 3 (.load 7 (.pure 8 (.pure 9 (.pure 10 (.pure 11 .done)))))))))))) (sel [1,0] body)) (.leaf (sel [1,1] body))))
theorem good (R : EP) : Good P 19 (ac R) (QF P [.tmp 2] R) :=
 ⟨trivial, ⟨⟨by kernel_rfl, by kernel_rfl, fun _ _ _ h => h⟩, trivial⟩⟩
theorem eq (R : EP) (x0 : OA) (w : World) : g_parseState_blocks R x0 w = vcA P 19 (ac R) (QF P [.tmp 2] R) (fr0 [.pointer x0]) w := by kernel_rfl
theorem sound {R : EP} {x0 : OA} {w : World} (h : g_parseState_blocks R x0 w) : callE P i_parseState_blocks #[.pointer x0] R w :=
 callE_fz (c := body) Tryz.func334 Tryz.call334 (good R) (eq R x0 w) h
end g_parseState_blocks
namespace g_line_skipSpace
noncomputable def body : Code := bodyOf Tryz.f229
def k1 (R : EP) (Xa : OA → WP) (x0 : OA) (w : World) : Prop :=
 nilP x0 fun a16 =>
 ∃ (v17 : Int), w.cell? (a16.add 1) = some (.int .i64 v17) ∧
 nilP x0 fun a18 =>
 stV w ((a18.add 1).add 0) (.int .i64 (IntKind.i64.wrap (v17 + 1))) fun w19 =>
 Xa x0 w19

def bl1 (R : EP) (Xa : OA → WP) (x0 : OA) (w : World) : Prop :=
 tk w fun w3 =>
 nilP x0 fun a4 =>
 nilP x0 fun a5 =>
 ∃ (v6 : Int), w3.cell? (a4.add 1) = some (.int .i64 v6) ∧
 ∃ (v7 : BA), w3.cell? (a5.add 3) = some (.string v7) ∧
 br (decide (v6 < (v7.size : Int)))
 (nilP x0 fun a8 =>
 nilP x0 fun a9 =>
 ∃ (v10 : BA), w3.cell? (a8.add 3) = some (.string v10) ∧
 ∃ (v11 : Int), w3.cell? (a9.add 1) = some (.int .i64 v11) ∧
 0 ≤ v11 ∧ v11 < (v10.size : Int) ∧
 br ((bt v10 v11) == 32)
 (k1 R Xa x0 w3)
 (nilP x0 fun a12 =>
 nilP x0 fun a13 =>
 ∃ (v14 : BA), w3.cell? (a12.add 3) = some (.string v14) ∧
 ∃ (v15 : Int), w3.cell? (a13.add 1) = some (.int .i64 v15) ∧
 0 ≤ v15 ∧ v15 < (v14.size : Int) ∧
 br ((bt v14 v15) == 9)
 (k1 R Xa x0 w3)
 (R (.returned (.tuple #[])) w3)))
 (R (.returned (.tuple #[])) w3)
def l1 (R : EP) (x0 : OA) (w : World) : Prop :=
 ∀ X : OA → WP, (∀ x0 w, bl1 R X x0 w → X x0 w) → X x0 w

noncomputable def al1 (R : EP) (Xa : OA → WP) : AC :=
 (.seq (.seq (.draw (.pure 0 (.pure 1 (.pure 2 (.pure 4 (.pure 5 (.pure 6 (.load 3 (.load 7 (.pure 8 (.pure 9 (.pure 10 (.pure 11 (.pure 12 (.pure 13 (.pure 15 (.pure 16 (.pure 17 (.load 14 (.load 18 (.pure 19 (.pure 20 (.pure 21 (.pure 22 (.pure 23 (.pure 24 (.pure 26 (.pure 27 (.pure 28 (.load 25 (.load 29 (.pure 30 (.pure 31 (.pure 32 (.pure 33 .done)))))))))))))))))))))))))))))))))) (sel [1,0,0,0,0] body)) (.leaf (sel [1,0,0,0,1] body))) (.mark (leaf [(0, .s .ptr)] (k1 R Xa)) (.leaf (sel [1,0,0,1] body))))
end g_line_skipSpace
def g_line_skipSpace (R : EP) (x0 : OA) (w : World) : Prop :=
 nilP x0 fun a1 =>
 stV w (a1.add 0) (.int .i64 0) fun w2 =>
 g_line_skipSpace.l1 R x0 w2

namespace g_line_skipSpace
noncomputable def ac (R : EP) : AC :=
 (.seq (.leaf (sel [0] body)) (.block 0 (.loop (leaf [(0, .s .ptr)] (l1 R)) (sel [1,0,0] body))))
theorem good (R : EP) : Good P 46 (ac R) (QF P [] R) :=
 ⟨trivial, (loopG (al1 R) (bl1 R) (fun _ => by kernel_rfl) (fun Xa => ⟨⟨⟨by kernel_rfl, by kernel_rfl, fun _ _ _ h => h⟩, trivial⟩, ⟨trivial, cutZ⟩⟩) (fun Xa => by intro x0 ρ w; kernel_rfl) (fun X h _ _ g => g X h))⟩
theorem eq (R : EP) (x0 : OA) (w : World) : g_line_skipSpace R x0 w = vcA P 46 (ac R) (QF P [] R) (fr0 [.pointer x0]) w := by kernel_rfl
theorem sound {R : EP} {x0 : OA} {w : World} (h : g_line_skipSpace R x0 w) : callE P i_line_skipSpace #[.pointer x0] R w :=
 callE_fz (c := body) Tryz.func229 Tryz.call229 (good R) (eq R x0 w) h
end g_line_skipSpace
namespace g_line_trim
noncomputable def body : Code := bodyOf Tryz.f226
def k1 (R : EP) (x0 : OA) (x41 : Bool) (w : World) : Prop :=
 br x41
 (nilP x0 fun a16 =>
 ∃ (v17 : Int), w.cell? (a16.add 1) = some (.int .i64 v17) ∧
 nilP x0 fun a18 =>
 stV w ((a18.add 1).add 0) (.int .i64 (IntKind.i64.wrap (v17 + 1))) fun w19 =>
 R (.returned (.bool true)) w19)
 (R (.returned (.bool false)) w)

end g_line_trim
def g_line_trim (R : EP) (x0 : OA) (x1 : Int) (w : World) : Prop :=
 nilP x0 fun a1 =>
 ∃ (v2 : Int), w.cell? a1 = some (.int .i64 v2) ∧
 br (decide (v2 > 0))
 (br (x1 == 32)
 (nilP x0 fun a3 =>
 ∃ (v4 : Int), w.cell? a3 = some (.int .i64 v4) ∧
 nilP x0 fun a5 =>
 stV w (a5.add 0) (.int .i64 (IntKind.i64.wrap (v4 - 1))) fun w6 =>
 R (.returned (.bool true)) w6)
 (R (.returned (.bool false)) w))
 (tk w fun w7 =>
 nilP x0 fun a8 =>
 nilP x0 fun a9 =>
 ∃ (v10 : Int), w7.cell? (a8.add 1) = some (.int .i64 v10) ∧
 ∃ (v11 : BA), w7.cell? (a9.add 3) = some (.string v11) ∧
 br (decide (v10 < (v11.size : Int)))
 (nilP x0 fun a12 =>
 nilP x0 fun a13 =>
 ∃ (v14 : BA), w7.cell? (a12.add 3) = some (.string v14) ∧
 ∃ (v15 : Int), w7.cell? (a13.add 1) = some (.int .i64 v15) ∧
 0 ≤ v15 ∧ v15 < (v14.size : Int) ∧
 g_line_trim.k1 R x0 ((bt v14 v15) == x1) w7)
 (g_line_trim.k1 R x0 false w7))

namespace g_line_trim
noncomputable def ac (R : EP) : AC :=
 (.seq (.leaf (sel [0] body)) (.seq (.leaf (sel [1,0] body)) (.seq (.seq (.draw (.pure 0 (.pure 1 (.pure 2 (.pure 4 (.pure 5 (.pure 6 (.load 3 (.load 7 (.pure 8 (.pure 9 (.pure 10 (.pure 11 (.pure 12 (.pure 13 (.pure 15 (.pure 16 (.pure 17 (.pure 20 (.load 14 (.load 18 (.pure 19 (.pure 21 (.pure 22 .done))))))))))))))))))))))) (sel [1,1,0,0] body)) (.mark (leaf [(0, .s .ptr), (41, .s .bool)] (k1 R)) (.leaf (sel [1,1,0,1] body)))) (.leaf (sel [1,1,1] body)))))
theorem good (R : EP) : Good P 49 (ac R) (QF P [.tmp 4] R) :=
 ⟨trivial, ⟨trivial, ⟨⟨⟨by kernel_rfl, by kernel_rfl, fun _ _ _ h => h⟩, ⟨trivial, cutZ⟩⟩, trivial⟩⟩⟩
theorem eq (R : EP) (x0 : OA) (x1 : Int) (w : World) : g_line_trim R x0 x1 w = vcA P 49 (ac R) (QF P [.tmp 4] R) (fr0 [.pointer x0, .int .u8 x1]) w := by kernel_rfl
theorem sound {R : EP} {x0 : OA} {x1 : Int} {w : World} (h : g_line_trim R x0 x1 w) : callE P i_line_trim #[.pointer x0, .int .u8 x1] R w :=
 callE_fz (c := body) Tryz.func226 Tryz.call226 (good R) (eq R x0 x1 w) h
end g_line_trim
namespace g_line_trimSpaceString
noncomputable def body : Code := bodyOf Tryz.f133
end g_line_trimSpaceString
def g_line_trimSpaceString (R : EP) (x0 : OA) (w : World) : Prop :=
 tk w fun w1 =>
 nilP x0 fun a2 =>
 nilP x0 fun a3 =>
 ∃ (v4 : BA), w1.cell? (a2.add 3) = some (.string v4) ∧
 ∃ (v5 : Int), w1.cell? (a3.add 1) = some (.int .i64 v5) ∧
 0 ≤ v5 ∧ v5 ≤ (v4.size : Int) ∧
 callE P i_trimLeftSpaceTab #[.string (v4.extract (Int.toNat v5) v4.size)] (fun e w7 => ∃ (r6 : BA), e = .returned (.string r6) ∧
 R (.returned (.string r6)) w7) w1

namespace g_line_trimSpaceString
noncomputable def ac (R : EP) : AC :=
 (.seq (.leaf (sel [0] body)) (.seq (.draw (.pure 0 (.pure 1 (.pure 2 (.pure 4 (.pure 5 (.pure 6 (.load 3 (.load 7 (.pure 8 (.one 9 (.pure 10 .done))))))))))) (sel [1,0] body)) (.leaf (sel [1,1] body))))
theorem good (R : EP) : Good P 13 (ac R) (QF P [.tmp 2] R) :=
 ⟨trivial, ⟨⟨by kernel_rfl, by kernel_rfl, fun _ _ _ h => h⟩, trivial⟩⟩
theorem eq (R : EP) (x0 : OA) (w : World) : g_line_trimSpaceString R x0 w = vcA P 13 (ac R) (QF P [.tmp 2] R) (fr0 [.pointer x0]) w := by kernel_rfl
theorem sound {R : EP} {x0 : OA} {w : World} (h : g_line_trimSpaceString R x0 w) : callE P i_line_trimSpaceString #[.pointer x0] R w :=
 callE_fz (c := body) Tryz.func133 Tryz.call133 (good R) (eq R x0 w) h
end g_line_trimSpaceString
namespace g_line_eof
noncomputable def body : Code := bodyOf Tryz.f230
end g_line_eof
def g_line_eof (R : EP) (x0 : OA) (w : World) : Prop :=
 tk w fun w1 =>
 nilP x0 fun a2 =>
 nilP x0 fun a3 =>
 ∃ (v4 : Int), w1.cell? (a2.add 1) = some (.int .i64 v4) ∧
 ∃ (v5 : BA), w1.cell? (a3.add 3) = some (.string v5) ∧
 R (.returned (.bool (decide (v4 ≥ (v5.size : Int))))) w1

namespace g_line_eof
noncomputable def ac (R : EP) : AC :=
 (.seq (.leaf (sel [0] body)) (.seq (.draw (.pure 0 (.pure 1 (.pure 2 (.pure 4 (.pure 5 (.pure 6 (.load 3 (.load 7 (.pure 8 (.pure 9 (.pure 10 .done))))))))))) (sel [1,0] body)) (.leaf (sel [1,1] body))))
theorem good (R : EP) : Good P 13 (ac R) (QF P [.tmp 2] R) :=
 ⟨trivial, ⟨⟨by kernel_rfl, by kernel_rfl, fun _ _ _ h => h⟩, trivial⟩⟩
theorem eq (R : EP) (x0 : OA) (w : World) : g_line_eof R x0 w = vcA P 13 (ac R) (QF P [.tmp 2] R) (fr0 [.pointer x0]) w := by kernel_rfl
theorem sound {R : EP} {x0 : OA} {w : World} (h : g_line_eof R x0 w) : callE P i_line_eof #[.pointer x0] R w :=
 callE_fz (c := body) Tryz.func230 Tryz.call230 (good R) (eq R x0 w) h
end g_line_eof
namespace g_line_isBlank
noncomputable def body : Code := bodyOf Tryz.f85
end g_line_isBlank
def g_line_isBlank (R : EP) (x0 : OA) (w : World) : Prop :=
 tk w fun w1 =>
 nilP x0 fun a2 =>
 nilP x0 fun a3 =>
 ∃ (v4 : BA), w1.cell? (a2.add 3) = some (.string v4) ∧
 ∃ (v5 : Int), w1.cell? (a3.add 1) = some (.int .i64 v5) ∧
 0 ≤ v5 ∧ v5 ≤ (v4.size : Int) ∧
 callE P i_trimLeftSpaceTab #[.string (v4.extract (Int.toNat v5) v4.size)] (fun e w7 => ∃ (r6 : BA), e = .returned (.string r6) ∧
 R (.returned (.bool (r6.toList == (ByteArray.mk #[]).toList))) w7) w1

namespace g_line_isBlank
noncomputable def ac (R : EP) : AC :=
 (.seq (.leaf (sel [0] body)) (.seq (.draw (.pure 0 (.pure 1 (.pure 2 (.pure 4 (.pure 5 (.pure 6 (.load 3 (.load 7 (.pure 8 (.one 9 (.pure 10 (.pure 11 .done)))))))))))) (sel [1,0] body)) (.leaf (sel [1,1] body))))
theorem good (R : EP) : Good P 14 (ac R) (QF P [.tmp 2] R) :=
 ⟨trivial, ⟨⟨by kernel_rfl, by kernel_rfl, fun _ _ _ h => h⟩, trivial⟩⟩
theorem eq (R : EP) (x0 : OA) (w : World) : g_line_isBlank R x0 w = vcA P 14 (ac R) (QF P [.tmp 2] R) (fr0 [.pointer x0]) w := by kernel_rfl
theorem sound {R : EP} {x0 : OA} {w : World} (h : g_line_isBlank R x0 w) : callE P i_line_isBlank #[.pointer x0] R w :=
 callE_fz (c := body) Tryz.func85 Tryz.call85 (good R) (eq R x0 w) h
end g_line_isBlank
namespace g_line_peek
noncomputable def body : Code := bodyOf Tryz.f228
end g_line_peek
def g_line_peek (R : EP) (x0 : OA) (w : World) : Prop :=
 nilP x0 fun a1 =>
 ∃ (v2 : Int), w.cell? a1 = some (.int .i64 v2) ∧
 br (decide (v2 > 0))
 (R (.returned (.int .u8 32)) w)
 (tk w fun w3 =>
 nilP x0 fun a4 =>
 nilP x0 fun a5 =>
 ∃ (v6 : Int), w3.cell? (a4.add 1) = some (.int .i64 v6) ∧
 ∃ (v7 : BA), w3.cell? (a5.add 3) = some (.string v7) ∧
 br (decide (v6 ≥ (v7.size : Int)))
 (R (.returned (.int .u8 0)) w3)
 (tk w3 fun w8 =>
 nilP x0 fun a9 =>
 nilP x0 fun a10 =>
 ∃ (v11 : BA), w8.cell? (a9.add 3) = some (.string v11) ∧
 ∃ (v12 : Int), w8.cell? (a10.add 1) = some (.int .i64 v12) ∧
 0 ≤ v12 ∧ v12 < (v11.size : Int) ∧
 R (.returned (.int .u8 (bt v11 v12))) w8))

namespace g_line_peek
noncomputable def ac (R : EP) : AC :=
 (.seq (.leaf (sel [0] body)) (.seq (.leaf (sel [1,0] body)) (.seq (.seq (.draw (.pure 0 (.pure 1 (.pure 2 (.pure 4 (.pure 5 (.pure 6 (.load 3 (.load 7 (.pure 8 (.pure 9 .done)))))))))) (sel [1,1,0,0] body)) (.leaf (sel [1,1,0,1] body))) (.seq (.draw (.pure 0 (.pure 1 (.pure 2 (.pure 4 (.pure 5 (.pure 6 (.load 3 (.load 7 (.pure 8 (.pure 9 .done)))))))))) (sel [1,1,1,0] body)) (.leaf (sel [1,1,1,1] body))))))
theorem good (R : EP) : Good P 27 (ac R) (QF P [.tmp 2] R) :=
 ⟨trivial, ⟨trivial, ⟨⟨⟨by kernel_rfl, by kernel_rfl, fun _ _ _ h => h⟩, trivial⟩, ⟨⟨by kernel_rfl, by kernel_rfl, fun _ _ _ h => h⟩, trivial⟩⟩⟩⟩
theorem eq (R : EP) (x0 : OA) (w : World) : g_line_peek R x0 w = vcA P 27 (ac R) (QF P [.tmp 2] R) (fr0 [.pointer x0]) w := by kernel_rfl
theorem sound {R : EP} {x0 : OA} {w : World} (h : g_line_peek R x0 w) : callE P i_line_peek #[.pointer x0] R w :=
 callE_fz (c := body) Tryz.func228 Tryz.call228 (good R) (eq R x0 w) h
end g_line_peek
namespace g_line_trimSpace
noncomputable def body : Code := bodyOf Tryz.f192
def k2 (R : EP) (x0 : OA) (x9 : Nat) (w : World) : Prop :=
 ∃ (v32 : Int), w.cell? ⟨x9, 0, none⟩ = some (.int .i64 v32) ∧
 ∃ (v33 : Int), w.cell? ⟨x9, 1, none⟩ = some (.int .i64 v33) ∧
 ∃ (v34 : Int), w.cell? ⟨x9, 2, none⟩ = some (.int .i64 v34) ∧
 ∃ (v35 : BA), w.cell? ⟨x9, 3, none⟩ = some (.string v35) ∧
 ∃ (v36 : Int), w.cell? ⟨x9, 4, none⟩ = some (.int .u8 v36) ∧
 nilP x0 fun a37 =>
 stV w (a37.add 0) (.int .i64 v32) fun w38 =>
 stV w38 (a37.add 1) (.int .i64 v33) fun w39 =>
 stV w39 (a37.add 2) (.int .i64 v34) fun w40 =>
 stV w40 (a37.add 3) (.string v35) fun w41 =>
 stV w41 (a37.add 4) (.int .u8 v36) fun w42 =>
 R (.returned (.bool true)) w42

def k3 (R : EP) (Xa : OA → Int → Int → Bool → Nat → Int → WP) (x0 : OA) (x1 : Int) (x9 : Nat) (x10 : Int) (w : World) : Prop :=
 br (decide (x10 ≥ x1))
 (k2 R x0 x9 w)
 (R (.returned (.bool false)) w)

def k1 (R : EP) (Xa : OA → Int → Int → Bool → Nat → Int → WP) (x0 : OA) (x1 x2 : Int) (x3 : Bool) (x9 : Nat) (x10 : Int) (w : World) : Prop :=
 ∃ (v19 : Int), w.cell? ⟨x9, 1, none⟩ = some (.int .i64 v19) ∧
 ∃ (v20 : BA), w.cell? ⟨x9, 3, none⟩ = some (.string v20) ∧
 br (decide (v19 < (v20.size : Int)))
 (∃ (v21 : BA), w.cell? ⟨x9, 3, none⟩ = some (.string v21) ∧
 ∃ (v22 : Int), w.cell? ⟨x9, 1, none⟩ = some (.int .i64 v22) ∧
 0 ≤ v22 ∧ v22 < (v21.size : Int) ∧
 br ((bt v21 v22) == 9)
 (∃ (v23 : Int), w.cell? ⟨x9, 1, none⟩ = some (.int .i64 v23) ∧
 ∃ (v24 : Int), w.cell? ⟨x9, 2, none⟩ = some (.int .i64 v24) ∧
 stV w ⟨x9, 0, none⟩ (.int .i64 (IntKind.i64.wrap ((IntKind.i64.wrap (4 - (bitAnd .i64 (IntKind.i64.wrap (v23 - v24)) 3))) - 1))) fun w25 =>
 ∃ (v26 : Int), w25.cell? ⟨x9, 1, none⟩ = some (.int .i64 v26) ∧
 stV w25 ⟨x9, 1, none⟩ (.int .i64 (IntKind.i64.wrap (v26 + 1))) fun w27 =>
 ∃ (v28 : Int), w27.cell? ⟨x9, 1, none⟩ = some (.int .i64 v28) ∧
 stV w27 ⟨x9, 2, none⟩ (.int .i64 v28) fun w29 =>
 Xa x0 x1 x2 x3 x9 (IntKind.i64.wrap (x10 + 1)) w29)
 (br ((bt v21 v22) == 32)
 (∃ (v30 : Int), w.cell? ⟨x9, 1, none⟩ = some (.int .i64 v30) ∧
 stV w ⟨x9, 1, none⟩ (.int .i64 (IntKind.i64.wrap (v30 + 1))) fun w31 =>
 Xa x0 x1 x2 x3 x9 (IntKind.i64.wrap (x10 + 1)) w31)
 (k3 R Xa x0 x1 x9 x10 w)))
 (k3 R Xa x0 x1 x9 x10 w)

def bl1 (R : EP) (Xa : OA → Int → Int → Bool → Nat → Int → WP) (x0 : OA) (x1 x2 : Int) (x3 : Bool) (x9 : Nat) (x10 : Int) (w : World) : Prop :=
 br (decide (x10 < x2))
 (∃ (v14 : Int), w.cell? ⟨x9, 0, none⟩ = some (.int .i64 v14) ∧
 br (decide (v14 > 0))
 (∃ (v15 : Int), w.cell? ⟨x9, 0, none⟩ = some (.int .i64 v15) ∧
 stV w ⟨x9, 0, none⟩ (.int .i64 (IntKind.i64.wrap (v15 - 1))) fun w16 =>
 Xa x0 x1 x2 x3 x9 (IntKind.i64.wrap (x10 + 1)) w16)
 (∃ (v17 : Int), w.cell? ⟨x9, 1, none⟩ = some (.int .i64 v17) ∧
 ∃ (v18 : BA), w.cell? ⟨x9, 3, none⟩ = some (.string v18) ∧
 br ((decide (v17 ≥ (v18.size : Int))) && x3)
 (Xa x0 x1 x2 x3 x9 (IntKind.i64.wrap (x10 + 1)) w)
 (k1 R Xa x0 x1 x2 x3 x9 x10 w)))
 (k2 R x0 x9 w)
def l1 (R : EP) (x0 : OA) (x1 x2 : Int) (x3 : Bool) (x9 : Nat) (x10 : Int) (w : World) : Prop :=
 ∀ X : OA → Int → Int → Bool → Nat → Int → WP, (∀ x0 x1 x2 x3 x9 x10 w, bl1 R X x0 x1 x2 x3 x9 x10 w → X x0 x1 x2 x3 x9 x10 w) → X x0 x1 x2 x3 x9 x10 w

noncomputable def al1 (R : EP) (Xa : OA → Int → Int → Bool → Nat → Int → WP) : AC :=
 (.seq (.leaf (sel [1,1,0,1,0,0,0] body)) (.seq (.block 1 (.seq (.leaf (sel [1,1,0,1,0,0,1,0,0,0] body)) (.seq (.leaf (sel [1,1,0,1,0,0,1,0,0,1,0] body)) (.mark (leaf [(0, .s .ptr), (1, .s (.int .i64)), (2, .s (.int .i64)), (3, .s .bool), (9, .s .loc), (10, .s (.int .i64))] (k1 R Xa)) (.seq (.leaf (sel [1,1,0,1,0,0,1,0,0,1,1,0] body)) (.mark (leaf [(0, .s .ptr), (1, .s (.int .i64)), (9, .s .loc), (10, .s (.int .i64))] (k3 R Xa)) (.leaf (sel [1,1,0,1,0,0,1,0,0,1,1,1] body)))))))) (.leaf (sel [1,1,0,1,0,0,1,1] body))))
end g_line_trimSpace
def g_line_trimSpace (R : EP) (x0 : OA) (x1 x2 : Int) (x3 : Bool) (w : World) : Prop :=
 nilP x0 fun a1 =>
 ∃ (v2 : Int), w.cell? (a1.add 0) = some (.int .i64 v2) ∧
 ∃ (v3 : Int), w.cell? (a1.add 1) = some (.int .i64 v3) ∧
 ∃ (v4 : Int), w.cell? (a1.add 2) = some (.int .i64 v4) ∧
 ∃ (v5 : BA), w.cell? (a1.add 3) = some (.string v5) ∧
 ∃ (v6 : Int), w.cell? (a1.add 4) = some (.int .u8 v6) ∧
 box w #[.int .i64 0, .int .i64 0, .int .i64 0, .string (ByteArray.mk #[]), .int .u8 0] ty_line fun b7 w8 =>
 stV w8 ⟨b7, 0, none⟩ (.int .i64 v2) fun w9 =>
 stV w9 ⟨b7, 1, none⟩ (.int .i64 v3) fun w10 =>
 stV w10 ⟨b7, 2, none⟩ (.int .i64 v4) fun w11 =>
 stV w11 ⟨b7, 3, none⟩ (.string v5) fun w12 =>
 stV w12 ⟨b7, 4, none⟩ (.int .u8 v6) fun w13 =>
 g_line_trimSpace.l1 R x0 x1 x2 x3 b7 0 w13

namespace g_line_trimSpace
noncomputable def ac (R : EP) : AC :=
 (.seq (.leaf (sel [0] body)) (.seq (.leaf (sel [1,0] body)) (.seq (.seq (.leaf (sel [1,1,0,0] body)) (.block 0 (.loop (leaf [(0, .s .ptr), (1, .s (.int .i64)), (2, .s (.int .i64)), (3, .s .bool), (9, .s .loc), (10, .s (.int .i64))] (l1 R)) (sel [1,1,0,1,0,0] body)))) (.mark (leaf [(0, .s .ptr), (9, .s .loc)] (k2 R)) (.leaf (sel [1,1,1] body))))))
theorem good (R : EP) : Good P 76 (ac R) (QF P [.tmp 8] R) :=
 ⟨trivial, ⟨trivial, ⟨⟨trivial, (loopG (al1 R) (bl1 R) (fun _ => by kernel_rfl) (fun Xa => ⟨trivial, ⟨⟨trivial, ⟨trivial, ⟨⟨trivial, ⟨trivial, cutZ⟩⟩, cutZ⟩⟩⟩, trivial⟩⟩) (fun Xa => by intro x0 x1 x2 x3 x9 x10 ρ w; kernel_rfl) (fun X h _ _ _ _ _ _ _ g => g X h))⟩, ⟨trivial, cutZ⟩⟩⟩⟩
theorem eq (R : EP) (x0 : OA) (x1 x2 : Int) (x3 : Bool) (w : World) : g_line_trimSpace R x0 x1 x2 x3 w = vcA P 76 (ac R) (QF P [.tmp 8] R) (fr0 [.pointer x0, .int .i64 x1, .int .i64 x2, .bool x3]) w := by kernel_rfl
theorem sound {R : EP} {x0 : OA} {x1 x2 : Int} {x3 : Bool} {w : World} (h : g_line_trimSpace R x0 x1 x2 x3 w) : callE P i_line_trimSpace #[.pointer x0, .int .i64 x1, .int .i64 x2, .bool x3] R w :=
 callE_fz (c := body) Tryz.func192 Tryz.call192 (good R) (eq R x0 x1 x2 x3 w) h
end g_line_trimSpace
namespace g_trimLeftSpaceTab
noncomputable def body : Code := bodyOf Tryz.f123
def k1 (R : EP) (x0 : BA) (x3 : Int) (w : World) : Prop :=
 0 ≤ x3 ∧ x3 ≤ (x0.size : Int) ∧
 R (.returned (.string (x0.extract (Int.toNat x3) x0.size))) w

def bl1 (R : EP) (Xa : BA → Int → WP) (x0 : BA) (x3 : Int) (w : World) : Prop :=
 ((decide (x3 < (x0.size : Int))) = true → 0 ≤ x3 ∧ x3 < (x0.size : Int)) ∧
 (((decide (x3 < (x0.size : Int))) && (!((bt x0 x3) == 32))) = true → 0 ≤ x3 ∧ x3 < (x0.size : Int)) ∧
 br ((decide (x3 < (x0.size : Int))) && (((bt x0 x3) == 32) || ((bt x0 x3) == 9)))
 (Xa x0 (IntKind.i64.wrap (x3 + 1)) w)
 (k1 R x0 x3 w)
def l1 (R : EP) (x0 : BA) (x3 : Int) (w : World) : Prop :=
 ∀ X : BA → Int → WP, (∀ x0 x3 w, bl1 R X x0 x3 w → X x0 x3 w) → X x0 x3 w

noncomputable def al1 (R : EP) (Xa : BA → Int → WP) : AC :=
 (.leaf (sel [1,1,0,0,0] body))
end g_trimLeftSpaceTab
def g_trimLeftSpaceTab (R : EP) (x0 : BA) (w : World) : Prop :=
 g_trimLeftSpaceTab.l1 R x0 0 w

namespace g_trimLeftSpaceTab
noncomputable def ac (R : EP) : AC :=
 (.seq (.leaf (sel [0] body)) (.seq (.leaf (sel [1,0] body)) (.seq (.block 0 (.loop (leaf [(0, .s .str), (3, .s (.int .i64))] (l1 R)) (sel [1,1,0,0,0] body))) (.mark (leaf [(0, .s .str), (3, .s (.int .i64))] (k1 R)) (.leaf (sel [1,1,1] body))))))
theorem good (R : EP) : Good P 25 (ac R) (QF P [.tmp 2] R) :=
 ⟨trivial, ⟨trivial, ⟨(loopG (al1 R) (bl1 R) (fun _ => by kernel_rfl) (fun Xa => trivial) (fun Xa => by intro x0 x3 ρ w; kernel_rfl) (fun X h _ _ _ g => g X h)), ⟨trivial, cutZ⟩⟩⟩⟩
theorem eq (R : EP) (x0 : BA) (w : World) : g_trimLeftSpaceTab R x0 w = vcA P 25 (ac R) (QF P [.tmp 2] R) (fr0 [.string x0]) w := by kernel_rfl
theorem sound {R : EP} {x0 : ByteArray} {w : World} (h : g_trimLeftSpaceTab R x0 w) : callE P i_trimLeftSpaceTab #[.string x0] R w :=
 callE_fz (c := body) Tryz.func123 Tryz.call123 (good R) (eq R x0 w) h
end g_trimLeftSpaceTab
namespace g_trimSpaceTab
noncomputable def body : Code := bodyOf Tryz.f89
def k2 (R : EP) (x0 : BA) (x4 : Int) (w : World) : Prop :=
 0 ≤ x4 ∧ x4 ≤ (x0.size : Int) ∧
 R (.returned (.string (x0.extract 0 (Int.toNat x4)))) w

def bl2 (R : EP) (Xa : BA → Int → WP) (x0 : BA) (x4 : Int) (w : World) : Prop :=
 ((decide (x4 > 0)) = true → 0 ≤ (IntKind.i64.wrap (x4 - 1)) ∧ (IntKind.i64.wrap (x4 - 1)) < (x0.size : Int)) ∧
 (((decide (x4 > 0)) && (!((bt x0 (IntKind.i64.wrap (x4 - 1))) == 32))) = true → 0 ≤ (IntKind.i64.wrap (x4 - 1)) ∧ (IntKind.i64.wrap (x4 - 1)) < (x0.size : Int)) ∧
 br ((decide (x4 > 0)) && (((bt x0 (IntKind.i64.wrap (x4 - 1))) == 32) || ((bt x0 (IntKind.i64.wrap (x4 - 1))) == 9)))
 (Xa x0 (IntKind.i64.wrap (x4 - 1)) w)
 (k2 R x0 x4 w)
def l2 (R : EP) (x0 : BA) (x4 : Int) (w : World) : Prop :=
 ∀ X : BA → Int → WP, (∀ x0 x4 w, bl2 R X x0 x4 w → X x0 x4 w) → X x0 x4 w

noncomputable def al2 (R : EP) (Xa : BA → Int → WP) : AC :=
 (.leaf (sel [1,1,1,1,1,0,0,0] body))
def k1 (R : EP) (x0 : BA) (x3 : Int) (w : World) : Prop :=
 0 ≤ x3 ∧ x3 ≤ (x0.size : Int) ∧
 l2 R (x0.extract (Int.toNat x3) x0.size) ((x0.extract (Int.toNat x3) x0.size).size : Int) w

def bl1 (R : EP) (Xb : BA → Int → WP) (x0 : BA) (x3 : Int) (w : World) : Prop :=
 ((decide (x3 < (x0.size : Int))) = true → 0 ≤ x3 ∧ x3 < (x0.size : Int)) ∧
 (((decide (x3 < (x0.size : Int))) && (!((bt x0 x3) == 32))) = true → 0 ≤ x3 ∧ x3 < (x0.size : Int)) ∧
 br ((decide (x3 < (x0.size : Int))) && (((bt x0 x3) == 32) || ((bt x0 x3) == 9)))
 (Xb x0 (IntKind.i64.wrap (x3 + 1)) w)
 (k1 R x0 x3 w)
def l1 (R : EP) (x0 : BA) (x3 : Int) (w : World) : Prop :=
 ∀ X : BA → Int → WP, (∀ x0 x3 w, bl1 R X x0 x3 w → X x0 x3 w) → X x0 x3 w

noncomputable def al1 (R : EP) (Xb : BA → Int → WP) : AC :=
 (.leaf (sel [1,1,0,0,0] body))
end g_trimSpaceTab
def g_trimSpaceTab (R : EP) (x0 : BA) (w : World) : Prop :=
 g_trimSpaceTab.l1 R x0 0 w

namespace g_trimSpaceTab
noncomputable def ac (R : EP) : AC :=
 (.seq (.leaf (sel [0] body)) (.seq (.leaf (sel [1,0] body)) (.seq (.block 0 (.loop (leaf [(0, .s .str), (3, .s (.int .i64))] (l1 R)) (sel [1,1,0,0,0] body))) (.mark (leaf [(0, .s .str), (3, .s (.int .i64))] (k1 R)) (.seq (.leaf (sel [1,1,1,0] body)) (.seq (.leaf (sel [1,1,1,1,0] body)) (.seq (.block 2 (.loop (leaf [(0, .s .str), (4, .s (.int .i64))] (l2 R)) (sel [1,1,1,1,1,0,0,0] body))) (.mark (leaf [(0, .s .str), (4, .s (.int .i64))] (k2 R)) (.leaf (sel [1,1,1,1,1,1] body))))))))))
theorem good (R : EP) : Good P 49 (ac R) (QF P [.tmp 2] R) :=
 ⟨trivial, ⟨trivial, ⟨(loopG (al1 R) (bl1 R) (fun _ => by kernel_rfl) (fun Xb => trivial) (fun Xb => by intro x0 x3 ρ w; kernel_rfl) (fun X h _ _ _ g => g X h)), ⟨⟨trivial, ⟨trivial, ⟨(loopG (al2 R) (bl2 R) (fun _ => by kernel_rfl) (fun Xa => trivial) (fun Xa => by intro x0 x4 ρ w; kernel_rfl) (fun X h _ _ _ g => g X h)), ⟨trivial, cutZ⟩⟩⟩⟩, cutZ⟩⟩⟩⟩
theorem eq (R : EP) (x0 : BA) (w : World) : g_trimSpaceTab R x0 w = vcA P 49 (ac R) (QF P [.tmp 2] R) (fr0 [.string x0]) w := by kernel_rfl
theorem sound {R : EP} {x0 : ByteArray} {w : World} (h : g_trimSpaceTab R x0 w) : callE P i_trimSpaceTab #[.string x0] R w :=
 callE_fz (c := body) Tryz.func89 Tryz.call89 (good R) (eq R x0 w) h
end g_trimSpaceTab
end Go.Proofs.YtgbgadkldalkbaaGreatDoor

set_option linter.unusedVariables false
namespace Go.Proofs.YtgbgadkldalkbaaGreatDoor
open Go.Proofs Go.IntWalk
variable {σ : Out} {w : World} {L L' : List Chunk} {R : Ending → World → Prop}

theorem trimSpaceTab_g {l : List UInt8} (hl : l.length < 4611686018427387904) (h : R (.returned (.string (bs (trimLR isST l)))) w) : g_trimSpaceTab R (bs l) w := by
 intro X hX
 refine scanF (l := l) (X := fun i => X (bs l) (i : Int) w) (p := isST) (fun i hi hp hx => hX _ _ _ ?_) 0 (Nat.zero_le _) (fun i hi hf he => hX _ _ _ ?_)
 ·refine ⟨fun _ => ⟨by omega, by simp; omega⟩, fun _ => ⟨by omega, by simp; omega⟩, br_true ?_ ?_⟩
  ·rw [bt_beq hi 32 32 rfl, bt_beq hi 9 9 rfl]
   simpa [hi, isST] using hp
  ·rw [i64_inc (by omega)]; exact hx
 ·refine ⟨fun h => ⟨by omega, by simpa using h⟩, fun h => ⟨by omega, ?_⟩, br_false ?_ ?_⟩
  ·simp only [Bool.and_eq_true, decide_eq_true_eq] at h; exact h.1
  ·by_cases hi' : i < l.length
   ·rw [bt_beq hi' 32 32 rfl, bt_beq hi' 9 9 rfl]
    simpa [hi', isST] using hf hi'
   ·simp [hi']
  ·refine ⟨by omega, by simp; omega, ?_⟩
   rw [bs_extract]
   simp only [Int.toNat_natCast, bs_size, List.take_length, he]
   simp only [List.drop_zero]
   generalize hm : l.dropWhile isST = m
   have hml : m.length < 4611686018427387904 := by
    have := List.dropWhile_sublist isST (l := l) |>.length_le
    rw [hm] at this
    omega
   intro Y hY
   refine scanB (l := m) (X := fun j => Y (bs m) (j : Int) w) (p := isST) (fun i hi hp hx => hY _ _ _ ?_) m.length (Nat.le_refl _) (fun j hj hf he => hY _ _ _ ?_)
   ·have hd := i64_dec (n := i + 1) (by omega) (by omega)
    rw [Nat.add_sub_cancel] at hd
    refine ⟨fun _ => ?_, fun _ => ?_, br_true ?_ ?_⟩
    ·rw [hd]; exact ⟨by omega, by simp; omega⟩
    ·rw [hd]; exact ⟨by omega, by simp; omega⟩
    ·rw [hd, bt_beq hi 32 32 rfl, bt_beq hi 9 9 rfl]
     simp only [isST] at hp
     rw [hp]
     simp
    ·rw [hd]; exact hx
   ·have hfin : g_trimSpaceTab.k2 R (bs m) (j : Int) w := by
     refine ⟨by omega, by simp; omega, ?_⟩
     rw [bs_extract]
     simp only [Int.toNat_natCast, List.drop_zero, he, List.take_length]
     have : trimLR isST l = (m.reverse.dropWhile isST).reverse := by rw [trimLR, trimR, hm]
     rw [← this]; exact h
    rcases Nat.eq_zero_or_pos j with hj0 | hj0
    ·subst hj0
     exact ⟨fun h => by simp at h, fun h => by simp at h, br_false (by simp) hfin⟩
    ·obtain ⟨i, rfl⟩ : ∃ i, j = i + 1 := ⟨j - 1, by omega⟩
     have hd := i64_dec (n := i + 1) (by omega) (by omega)
     rw [Nat.add_sub_cancel] at hd
     refine ⟨fun _ => ?_, fun _ => ?_, br_false ?_ hfin⟩
     ·rw [hd]; exact ⟨by omega, by simp; omega⟩
     ·rw [hd]; exact ⟨by omega, by simp; omega⟩
     ·have := hf i (by omega) rfl
      rw [hd, bt_beq (by omega) 32 32 rfl, bt_beq (by omega) 9 9 rfl]
      simp only [isST] at this
      rw [this]; simp

theorem trimSpaceTab_ok {l : List UInt8} (hl : l.length < 4611686018427387904) (h : R (.returned (.string (bs (trimLR isST l)))) w) : callE P i_trimSpaceTab #[.string (bs l)] R w :=
 g_trimSpaceTab.sound (trimSpaceTab_g hl h)
theorem trimLeftSpaceTab_ok {l : List UInt8} (hl : l.length < 4611686018427387904) (h : R (.returned (.string (bs (l.dropWhile isST)))) w) : callE P i_trimLeftSpaceTab #[.string (bs l)] R w := by
 refine g_trimLeftSpaceTab.sound ?_
 intro X hX
 refine scanF (l := l) (X := fun i => X (bs l) (i : Int) w) (p := isST) (fun i hi hp hx => hX _ _ _ ?_) 0 (Nat.zero_le _) (fun i hi hf he => hX _ _ _ ?_)
 ·refine ⟨fun _ => ⟨by omega, by simp; omega⟩, fun _ => ⟨by omega, by simp; omega⟩, br_true ?_ ?_⟩
  ·rw [bt_beq hi 32 32 rfl, bt_beq hi 9 9 rfl]
   simpa [hi, isST] using hp
  ·rw [i64_inc (by omega)]; exact hx
 ·refine ⟨fun h => ⟨by omega, by simpa using h⟩, fun h => ⟨by omega, ?_⟩, br_false ?_ ?_⟩
  ·simp only [Bool.and_eq_true, decide_eq_true_eq] at h; exact h.1
  ·by_cases hi' : i < l.length
   ·rw [bt_beq hi' 32 32 rfl, bt_beq hi' 9 9 rfl]
    simpa [hi', isST] using hf hi'
   ·simp [hi']
  ·refine ⟨by omega, by simp; omega, ?_⟩
   rw [bs_size, bs_extract]
   simp only [Int.toNat_natCast, List.take_length, he, List.drop_zero]
   exact h
end Go.Proofs.YtgbgadkldalkbaaGreatDoor


set_option linter.unusedVariables false
namespace Go.Proofs.YtgbgadkldalkbaaGreatDoor
open Go.Proofs Go.IntWalk
variable {σ : Out} {w : World} {L L' : List Chunk} {R : Ending → World → Prop}

structure Ln where
 sp : Nat
 i : Nat
 tab : Nat
 text : List UInt8
 nl : UInt8
def Ln.cells (l : Ln) : List Value := [.int .i64 l.sp, .int .i64 l.i, .int .i64 l.tab, .string (bs l.text), .int .u8 l.nl.toNat]
abbrev Ln.at (b : Nat) (l : Ln) : Chunk := (b, cel l.cells ty_line)
structure Ln.ok (l : Ln) : Prop where
 i : l.i ≤ l.text.length
 tab : l.tab ≤ l.i
 len : l.text.length < 4611686018427387904
 sp : l.sp ≤ 3
def Ln.blank (l : Ln) : Bool := (l.text.drop l.i).all isST
def Ln.peek (l : Ln) : UInt8 := if 0 < l.sp then 32 else l.text.getD l.i 0

theorem dropWhile_nil_iff {p : UInt8 → Bool} : ∀ {l : List UInt8}, ((l.dropWhile p) == []) = l.all p
 | [] => rfl
 | a :: l => by
  cases hp : p a with
  | true => rw [List.dropWhile_cons_of_pos hp, dropWhile_nil_iff, List.all_cons, hp, Bool.true_and]
  | false => rw [List.dropWhile_cons_of_neg (by simp [hp]), List.all_cons, hp]; rfl

theorem isBlank_ok {b : Nat} {l : Ln} (h : Sat σ w L) (hm : l.at b ∈ L) (hl : l.ok) (hR : ∀ w, Sat σ w L → R (.returned (.bool l.blank)) w) :
 callE P i_line_isBlank #[.pointer (some ⟨b, 0, none⟩)] R w := by
 refine g_line_isBlank.sound ?_
 repeat (first | refine nilP_some ?_ | refine h.tk fun w h => ?_ | refine ⟨_, h.ldA, ?_⟩ | refine ⟨_, _, _, h.ldA, ?_⟩)
 have := hl.i
 refine ⟨by omega, by simp; omega, ?_⟩
 rw [bs_size, Int.toNat_natCast, bs_ext]
 refine trimLeftSpaceTab_ok (by simp; have := hl.len; omega) ⟨_, rfl, ?_⟩
 rw [bs_toList, mk_toList, dropWhile_nil_iff]
 exact hR _ h

theorem eof_ok {b : Nat} {l : Ln} (h : Sat σ w L) (hm : l.at b ∈ L) (hR : ∀ w, Sat σ w L → R (.returned (.bool (decide (l.text.length ≤ l.i)))) w) :
 callE P i_line_eof #[.pointer (some ⟨b, 0, none⟩)] R w := by
 refine g_line_eof.sound ?_
 repeat (first | refine nilP_some ?_ | refine h.tk fun w h => ?_ | refine ⟨_, h.ldA, ?_⟩ | refine ⟨_, _, _, h.ldA, ?_⟩)
 have : (decide ((l.i : Int) ≥ ((bs l.text).size : Int))) = decide (l.text.length ≤ l.i) := by simp
 rw [this]
 exact hR _ h

theorem peek_ok {b : Nat} {l : Ln} (h : Sat σ w L) (hm : l.at b ∈ L) (hl : l.ok) (hR : ∀ w, Sat σ w L → R (.returned (.int .u8 l.peek.toNat)) w) :
 callE P i_line_peek #[.pointer (some ⟨b, 0, none⟩)] R w := by
 refine g_line_peek.sound ?_
 repeat (first | refine nilP_some ?_ | refine h.tk fun w h => ?_ | refine ⟨_, h.ldA, ?_⟩ | refine ⟨_, _, _, h.ldA, ?_⟩)
 refine br_split (fun hs => ?_) (fun hs => ?_)
 ·have hp : l.peek = 32 := by simp only [Ln.peek]; rw [if_pos (by simpa using hs)]
  have := hR _ h
  rw [hp] at this
  exact this
 ·have hs : l.sp = 0 := by simpa using hs
  repeat (first | refine nilP_some ?_ | refine h.tk fun w h => ?_ | refine ⟨_, h.ldA, ?_⟩ | refine ⟨_, _, _, h.ldA, ?_⟩)
  refine br_split (fun hi => ?_) (fun hi => ?_)
  ·have hp : l.peek = 0 := by
    simp at hi
    simp [Ln.peek, hs, hi]
   have := hR _ h
   rw [hp] at this
   exact this
  ·repeat (first | refine nilP_some ?_ | refine h.tk fun w h => ?_ | refine ⟨_, h.ldA, ?_⟩ | refine ⟨_, _, _, h.ldA, ?_⟩)
   simp at hi
   refine ⟨by omega, by simp; omega, ?_⟩
   have hp : (l.peek.toNat : Int) = bt (bs l.text) l.i := by rw [bt_at hi]; simp [Ln.peek, hs, hi]
   rw [← hp]
   exact hR _ h

theorem bitAnd3 (n : Nat) (hn : n < 4611686018427387904) : bitAnd .i64 (n : Int) 3 = ((n % 4 : Nat) : Int) := by
 have h1 : (BitVec.ofInt 64 (n : Int) &&& BitVec.ofInt 64 3).toNat = n % 4 := by
  rw [BitVec.toNat_and]
  have h2 : (BitVec.ofInt 64 (n : Int)).toNat = n := by
   simp
   omega
  rw [h2, show (BitVec.ofInt 64 3).toNat = 2 ^ 2 - 1 from rfl, Nat.and_two_pow_sub_one_eq_mod]
 show IntKind.i64.wrap (((BitVec.ofInt 64 (n : Int) &&& BitVec.ofInt 64 3).toNat : Nat) : Int) = _
 rw [h1, i64_in _ (by omega)]

def Ln.tsGo (min : Nat) (eol : Bool) : Nat → Nat → Ln → Option Ln
 | 0, _, t => some t
 | k + 1, n, t =>
  if 0 < t.sp then tsGo min eol k (n + 1) { t with sp := t.sp - 1 }
  else if t.text.length ≤ t.i ∧ eol = true then tsGo min eol k (n + 1) t
  else if t.text[t.i]? = some 9 then tsGo min eol k (n + 1) { t with sp := 3 - (t.i - t.tab) % 4, i := t.i + 1, tab := t.i + 1 }
  else if t.text[t.i]? = some 32 then tsGo min eol k (n + 1) { t with i := t.i + 1 }
  else if min ≤ n then some t else none
def Ln.trimSp (min max : Nat) (eol : Bool) (t : Ln) : Option Ln := t.tsGo min eol max 0

theorem trimSp_ok {b : Nat} {l : Ln} {min max : Nat} {eol : Bool} (h : Sat σ w (l.at b :: L)) (hl : l.ok) (h1 : min < 4611686018427387904) (h2 : max < 4611686018427387904)
 (hR : match l.trimSp min max eol with
  | some l' => ∀ w, Sat σ w (l'.at b :: L) → R (.returned (.bool true)) w
  | none => ∀ w, Sat σ w (l.at b :: L) → R (.returned (.bool false)) w) :
 callE P i_line_trimSpace #[.pointer (some ⟨b, 0, none⟩), .int .i64 min, .int .i64 max, .bool eol] R w := by
 refine g_line_trimSpace.sound ?_
 repeat (first | refine nilP_some ?_ | refine h.tk fun w h => ?_ | refine ⟨_, h.ldA, ?_⟩ | refine ⟨_, _, _, h.ldA, ?_⟩ | refine h.stA 0 fun w h => ?_ | refine h.stA 1 fun w h => ?_ | refine h.stA 2 fun w h => ?_ | refine h.stA 3 fun w h => ?_ | refine h.stA 4 fun w h => ?_ | refine h.stA 5 fun w h => ?_ | refine h.stA 6 fun w h => ?_ | refine h.bx fun b0 w h => ?_)
 have h : Sat σ _ (l.at b0 :: l.at b :: L) := h
 intro X hX
 have key : ∀ k n (t : Ln) w, n + k = max → t.ok → Sat σ w (t.at b0 :: l.at b :: L) →
  (match t.tsGo min eol k n with
  | some l' => ∀ w, Sat σ w (l'.at b :: L) → R (.returned (.bool true)) w
  | none => ∀ w, Sat σ w (l.at b :: L) → R (.returned (.bool false)) w) → X (some ⟨b, 0, none⟩) min max eol b0 n w := by
  intro k
  induction k with
  | zero =>
   intro n t w hn ht h hR
   refine hX _ _ _ _ _ _ _ (br_false (by simp; omega) ?_)
   repeat (first | refine nilP_some ?_ | refine h.tk fun w h => ?_ | refine ⟨_, h.ldA, ?_⟩ | refine ⟨_, _, _, h.ldA, ?_⟩ | refine h.stA 0 fun w h => ?_ | refine h.stA 1 fun w h => ?_ | refine h.stA 2 fun w h => ?_ | refine h.stA 3 fun w h => ?_ | refine h.stA 4 fun w h => ?_ | refine h.stA 5 fun w h => ?_ | refine h.stA 6 fun w h => ?_ | refine h.bx fun b0 w h => ?_)
   have h : Sat σ _ (t.at b0 :: t.at b :: L) := h
   exact hR _ h.tail
  | succ k ih =>
   intro n t w hn ht h hR
   simp only [Ln.tsGo] at hR
   refine hX _ _ _ _ _ _ _ (br_true (by simp; omega) ?_)
   have hni : IntKind.i64.wrap ((n : Int) + 1) = ((n + 1 : Nat) : Int) := i64_inc (by omega)
   repeat (first | refine nilP_some ?_ | refine h.tk fun w h => ?_ | refine ⟨_, h.ldA, ?_⟩ | refine ⟨_, _, _, h.ldA, ?_⟩)
   by_cases hs : 0 < t.sp
   ·rw [if_pos hs] at hR
    refine br_true (by simpa using hs) ?_
    have hd := i64_dec (n := t.sp) (by have := ht.sp; omega) hs
    repeat (first | refine nilP_some ?_ | refine h.tk fun w h => ?_ | refine ⟨_, h.ldA, ?_⟩ | refine ⟨_, _, _, h.ldA, ?_⟩ | refine h.stA 0 fun w h => ?_ | refine h.stA 1 fun w h => ?_ | refine h.stA 2 fun w h => ?_ | refine h.stA 3 fun w h => ?_ | refine h.stA 4 fun w h => ?_ | refine h.stA 5 fun w h => ?_ | refine h.stA 6 fun w h => ?_ | refine h.bx fun b0 w h => ?_)
    rw [hd] at h
    rw [hni]
    exact ih _ { t with sp := t.sp - 1 } _ (by omega) ⟨ht.i, ht.tab, ht.len, by have := ht.sp; simp; omega⟩ h hR
   ·rw [if_neg hs] at hR
    refine br_false (by simpa using hs) ?_
    repeat (first | refine nilP_some ?_ | refine h.tk fun w h => ?_ | refine ⟨_, h.ldA, ?_⟩ | refine ⟨_, _, _, h.ldA, ?_⟩)
    by_cases he : t.text.length ≤ t.i ∧ eol = true
    ·rw [if_pos he] at hR
     refine br_true (by simpa using he) ?_
     rw [hni]
     exact ih _ t _ (by omega) ht h hR
    ·rw [if_neg he] at hR
     refine br_false (by rw [Bool.and_eq_false_iff]; by_cases h : eol = true <;> simp_all) ?_
     repeat (first | refine nilP_some ?_ | refine h.tk fun w h => ?_ | refine ⟨_, h.ldA, ?_⟩ | refine ⟨_, _, _, h.ldA, ?_⟩)
     by_cases hi : t.i < t.text.length
     ·refine br_true (by simpa using hi) ?_
      repeat (first | refine nilP_some ?_ | refine h.tk fun w h => ?_ | refine ⟨_, h.ldA, ?_⟩ | refine ⟨_, _, _, h.ldA, ?_⟩)
      refine ⟨by omega, by simpa using hi, ?_⟩
      rw [List.getElem?_eq_getElem hi] at hR
      have hlen := ht.len
      have htab := ht.tab
      have hii : IntKind.i64.wrap ((t.i : Int) + 1) = ((t.i + 1 : Nat) : Int) := i64_inc (by omega)
      by_cases h9 : t.text[t.i] = 9
      ·rw [if_pos (by rw [h9])] at hR
       refine br_true (by rw [bt_beq hi 9 9 rfl, h9]; rfl) ?_
       repeat (first | refine nilP_some ?_ | refine h.tk fun w h => ?_ | refine ⟨_, h.ldA, ?_⟩ | refine ⟨_, _, _, h.ldA, ?_⟩)
       have e1 : IntKind.i64.wrap ((t.i : Int) - (t.tab : Int)) = ((t.i - t.tab : Nat) : Int) := by rw [i64_in _ (by omega)]; omega
       rw [e1, bitAnd3 _ (by omega), i64_in (4 - _) (by omega), i64_in _ (by omega)]
       have e2 : (4 - (((t.i - t.tab) % 4 : Nat) : Int) - 1) = ((3 - (t.i - t.tab) % 4 : Nat) : Int) := by omega
       rw [e2]
       repeat (first | refine nilP_some ?_ | refine h.tk fun w h => ?_ | refine ⟨_, h.ldA, ?_⟩ | refine ⟨_, _, _, h.ldA, ?_⟩ | refine h.stA 0 fun w h => ?_ | refine h.stA 1 fun w h => ?_ | refine h.stA 2 fun w h => ?_ | refine h.stA 3 fun w h => ?_ | refine h.stA 4 fun w h => ?_ | refine h.stA 5 fun w h => ?_ | refine h.stA 6 fun w h => ?_ | refine h.bx fun b0 w h => ?_)
       rw [hii] at h
       rw [hni]
       exact ih _ { t with sp := 3 - (t.i - t.tab) % 4, i := t.i + 1, tab := t.i + 1 } _ (by omega) ⟨by simp; omega, by simp, ht.len, by simp⟩ h hR
      ·rw [if_neg (by simpa using h9)] at hR
       refine br_false (by rw [bt_beq hi 9 9 rfl]; simpa using h9) ?_
       by_cases h32 : t.text[t.i] = 32
       ·rw [if_pos (by rw [h32])] at hR
        refine br_true (by rw [bt_beq hi 32 32 rfl, h32]; rfl) ?_
        repeat (first | refine nilP_some ?_ | refine h.tk fun w h => ?_ | refine ⟨_, h.ldA, ?_⟩ | refine ⟨_, _, _, h.ldA, ?_⟩ | refine h.stA 0 fun w h => ?_ | refine h.stA 1 fun w h => ?_ | refine h.stA 2 fun w h => ?_ | refine h.stA 3 fun w h => ?_ | refine h.stA 4 fun w h => ?_ | refine h.stA 5 fun w h => ?_ | refine h.stA 6 fun w h => ?_ | refine h.bx fun b0 w h => ?_)
        rw [hii] at h
        rw [hni]
        exact ih _ { t with i := t.i + 1 } _ (by omega) ⟨by simp; omega, by simp; omega, ht.len, ht.sp⟩ h hR
       ·rw [if_neg (by simpa using h32)] at hR
        refine br_false (by rw [bt_beq hi 32 32 rfl]; simpa using h32) ?_
        by_cases hm : min ≤ n
        ·rw [if_pos hm] at hR
         refine br_true (by simpa using hm) ?_
         repeat (first | refine nilP_some ?_ | refine h.tk fun w h => ?_ | refine ⟨_, h.ldA, ?_⟩ | refine ⟨_, _, _, h.ldA, ?_⟩ | refine h.stA 0 fun w h => ?_ | refine h.stA 1 fun w h => ?_ | refine h.stA 2 fun w h => ?_ | refine h.stA 3 fun w h => ?_ | refine h.stA 4 fun w h => ?_ | refine h.stA 5 fun w h => ?_ | refine h.stA 6 fun w h => ?_ | refine h.bx fun b0 w h => ?_)
         have h : Sat σ _ (t.at b0 :: t.at b :: L) := h
         exact hR _ h.tail
        ·rw [if_neg hm] at hR
         refine br_false (by simpa using hm) ?_
         exact hR _ h.tail
     ·refine br_false (by simpa using hi) ?_
      rw [List.getElem?_eq_none (by omega), if_neg (by simp), if_neg (by simp)] at hR
      by_cases hm : min ≤ n
      ·rw [if_pos hm] at hR
       refine br_true (by simpa using hm) ?_
       repeat (first | refine nilP_some ?_ | refine h.tk fun w h => ?_ | refine ⟨_, h.ldA, ?_⟩ | refine ⟨_, _, _, h.ldA, ?_⟩ | refine h.stA 0 fun w h => ?_ | refine h.stA 1 fun w h => ?_ | refine h.stA 2 fun w h => ?_ | refine h.stA 3 fun w h => ?_ | refine h.stA 4 fun w h => ?_ | refine h.stA 5 fun w h => ?_ | refine h.stA 6 fun w h => ?_ | refine h.bx fun b0 w h => ?_)
       have h : Sat σ _ (t.at b0 :: t.at b :: L) := h
       exact hR _ h.tail
      ·rw [if_neg hm] at hR
       refine br_false (by simpa using hm) ?_
       exact hR _ h.tail
 exact key max 0 l _ (by omega) hl h hR

end Go.Proofs.YtgbgadkldalkbaaGreatDoor


set_option linter.unusedVariables false
namespace Go.Proofs.YtgbgadkldalkbaaGreatDoor
open Go.Proofs Go.IntWalk
variable {σ : Out} {w : World} {L L' : List Chunk} {R : Ending → World → Prop}

def Ln.trimC (c : UInt8) (l : Ln) : Option Ln :=
 if 0 < l.sp then (if c = 32 then some { l with sp := l.sp - 1 } else none)
 else if l.text[l.i]? = some c then some { l with i := l.i + 1 } else none
theorem Ln.trimC_ok {c : UInt8} {l l' : Ln} (hl : l.ok) (h : l.trimC c = some l') : l'.ok := by
 simp only [Ln.trimC] at h
 have h1 := hl.i; have h2 := hl.tab; have h3 := hl.sp
 split at h
 ·split at h
  ·cases h; exact ⟨h1, h2, hl.len, by simp; omega⟩
  ·cases h
 ·split at h
  ·rename_i hg
   have := (List.getElem?_eq_some_iff.1 hg).1
   cases h; exact ⟨by simp; omega, by simp; omega, hl.len, hl.sp⟩
  ·cases h
theorem trimC_ok {b : Nat} {l : Ln} {c : UInt8} {n : Int} (hc : (c.toNat : Int) = n) (h : Sat σ w (l.at b :: L)) (hl : l.ok)
 (hR : match l.trimC c with
  | some l' => ∀ w, Sat σ w (l'.at b :: L) → R (.returned (.bool true)) w
  | none => ∀ w, Sat σ w (l.at b :: L) → R (.returned (.bool false)) w) :
 callE P i_line_trim #[.pointer (some ⟨b, 0, none⟩), .int .u8 n] R w := by
 subst hc
 refine g_line_trim.sound ?_
 simp only [Ln.trimC] at hR
 have h1 := hl.i; have h2 := hl.tab; have h3 := hl.sp; have h4 := hl.len
 repeat (first | refine nilP_some ?_ | refine h.tk fun w h => ?_ | refine ⟨_, h.ldA, ?_⟩ | refine ⟨_, _, _, h.ldA, ?_⟩)
 by_cases hs : 0 < l.sp
 ·rw [if_pos hs] at hR
  refine br_true (by simpa using hs) ?_
  by_cases hc : c = 32
  ·rw [if_pos hc] at hR
   refine br_true (by rw [hc]; rfl) ?_
   have hd := i64_dec (n := l.sp) (by omega) hs
   repeat (first | refine nilP_some ?_ | refine h.tk fun w h => ?_ | refine ⟨_, h.ldA, ?_⟩ | refine ⟨_, _, _, h.ldA, ?_⟩ | refine h.stA 0 fun w h => ?_ | refine h.stA 1 fun w h => ?_ | refine h.stA 2 fun w h => ?_ | refine h.stA 3 fun w h => ?_ | refine h.stA 4 fun w h => ?_ | refine h.stA 5 fun w h => ?_ | refine h.stA 6 fun w h => ?_ | refine h.bx fun b0 w h => ?_)
   rw [hd] at h
   exact hR _ h
  ·rw [if_neg hc] at hR
   refine br_false ?_ (hR _ h)
   have := u8_beq c 32
   rw [show ((32 : UInt8).toNat : Int) = 32 from rfl] at this
   rw [this]
   simpa using hc
 ·rw [if_neg hs] at hR
  refine br_false (by simpa using hs) ?_
  repeat (first | refine nilP_some ?_ | refine h.tk fun w h => ?_ | refine ⟨_, h.ldA, ?_⟩ | refine ⟨_, _, _, h.ldA, ?_⟩)
  have hii : IntKind.i64.wrap ((l.i : Int) + 1) = ((l.i + 1 : Nat) : Int) := i64_inc (by omega)
  by_cases hi : l.i < l.text.length
  ·rw [List.getElem?_eq_getElem hi] at hR
   refine br_true (by simpa using hi) ?_
   repeat (first | refine nilP_some ?_ | refine h.tk fun w h => ?_ | refine ⟨_, h.ldA, ?_⟩ | refine ⟨_, _, _, h.ldA, ?_⟩)
   refine ⟨by omega, by simpa using hi, ?_⟩
   rw [bt_beq hi c _ rfl]
   by_cases hc : l.text[l.i] = c
   ·rw [if_pos (by rw [hc])] at hR
    refine br_true (by simpa using hc) ?_
    repeat (first | refine nilP_some ?_ | refine h.tk fun w h => ?_ | refine ⟨_, h.ldA, ?_⟩ | refine ⟨_, _, _, h.ldA, ?_⟩ | refine h.stA 0 fun w h => ?_ | refine h.stA 1 fun w h => ?_ | refine h.stA 2 fun w h => ?_ | refine h.stA 3 fun w h => ?_ | refine h.stA 4 fun w h => ?_ | refine h.stA 5 fun w h => ?_ | refine h.stA 6 fun w h => ?_ | refine h.bx fun b0 w h => ?_)
    rw [hii] at h
    exact hR _ h
   ·rw [if_neg (by simpa using hc)] at hR
    exact br_false (by simpa using hc) (hR _ h)
  ·rw [List.getElem?_eq_none (by omega), if_neg (by simp)] at hR
   exact br_false (by simpa using hi) (br_false rfl (hR _ h))

def Ln.skip (l : Ln) : Ln := { l with sp := 0, i := l.text.length - ((l.text.drop l.i).dropWhile isST).length }
theorem Ln.skip_ok {l : Ln} (hl : l.ok) : l.skip.ok := by
 have h1 := hl.i; have h2 := hl.tab
 have h3 := (List.dropWhile_sublist isST (l := l.text.drop l.i)).length_le
 rw [List.length_drop] at h3
 exact ⟨by simp only [Ln.skip]; omega, by simp only [Ln.skip]; omega, hl.len, by simp [Ln.skip]⟩
theorem skipSpace_ok {b : Nat} {l : Ln} (h : Sat σ w (l.at b :: L)) (hl : l.ok) (hR : ∀ w, Sat σ w (l.skip.at b :: L) → R (.returned (.tuple #[])) w) :
 callE P i_line_skipSpace #[.pointer (some ⟨b, 0, none⟩)] R w := by
 refine g_line_skipSpace.sound ?_
 repeat (first | refine nilP_some ?_ | refine h.tk fun w h => ?_ | refine ⟨_, h.ldA, ?_⟩ | refine ⟨_, _, _, h.ldA, ?_⟩ | refine h.stA 0 fun w h => ?_ | refine h.stA 1 fun w h => ?_ | refine h.stA 2 fun w h => ?_ | refine h.stA 3 fun w h => ?_ | refine h.stA 4 fun w h => ?_ | refine h.stA 5 fun w h => ?_ | refine h.stA 6 fun w h => ?_ | refine h.bx fun b0 w h => ?_)
 intro X hX
 have h1 := hl.i; have h4 := hl.len
 refine scanF (l := l.text) (p := isST) (X := fun i => ∀ w, Sat σ w (Ln.at b { l with sp := 0, i := i } :: L) → X (some ⟨b, 0, none⟩) w) (fun i hi hp hx w h => hX _ _ ?_) l.i h1 (fun i hi hf he w h => hX _ _ ?_) _ h
 ·repeat (first | refine nilP_some ?_ | refine h.tk fun w h => ?_ | refine ⟨_, h.ldA, ?_⟩ | refine ⟨_, _, _, h.ldA, ?_⟩)
  refine br_true (by simpa using hi) ?_
  repeat (first | refine nilP_some ?_ | refine h.tk fun w h => ?_ | refine ⟨_, h.ldA, ?_⟩ | refine ⟨_, _, _, h.ldA, ?_⟩)
  refine ⟨by omega, by simpa using hi, ?_⟩
  have hii : IntKind.i64.wrap ((i : Int) + 1) = ((i + 1 : Nat) : Int) := i64_inc (by omega)
  rw [bt_beq hi 32 32 rfl]
  by_cases hc : l.text[i] = 32
  ·refine br_true (by simpa using hc) ?_
   repeat (first | refine nilP_some ?_ | refine h.tk fun w h => ?_ | refine ⟨_, h.ldA, ?_⟩ | refine ⟨_, _, _, h.ldA, ?_⟩ | refine h.stA 0 fun w h => ?_ | refine h.stA 1 fun w h => ?_ | refine h.stA 2 fun w h => ?_ | refine h.stA 3 fun w h => ?_ | refine h.stA 4 fun w h => ?_ | refine h.stA 5 fun w h => ?_ | refine h.stA 6 fun w h => ?_ | refine h.bx fun b0 w h => ?_)
   rw [hii] at h
   exact hx _ h
  ·refine br_false (by simpa using hc) ?_
   repeat (first | refine nilP_some ?_ | refine h.tk fun w h => ?_ | refine ⟨_, h.ldA, ?_⟩ | refine ⟨_, _, _, h.ldA, ?_⟩)
   refine ⟨by omega, by simpa using hi, ?_⟩
   rw [bt_beq hi 9 9 rfl]
   refine br_true (by simpa [isST, hc] using hp) ?_
   repeat (first | refine nilP_some ?_ | refine h.tk fun w h => ?_ | refine ⟨_, h.ldA, ?_⟩ | refine ⟨_, _, _, h.ldA, ?_⟩ | refine h.stA 0 fun w h => ?_ | refine h.stA 1 fun w h => ?_ | refine h.stA 2 fun w h => ?_ | refine h.stA 3 fun w h => ?_ | refine h.stA 4 fun w h => ?_ | refine h.stA 5 fun w h => ?_ | refine h.stA 6 fun w h => ?_ | refine h.bx fun b0 w h => ?_)
   rw [hii] at h
   exact hx _ h
 ·have hfin : l.skip = { l with sp := 0, i := i } := by
   simp only [Ln.skip, ← he, List.length_drop]
   congr 1
   omega
  rw [← hfin] at h
  have hsk : l.skip.i = i := by rw [hfin]
  have hst : l.skip.text = l.text := rfl
  repeat (first | refine nilP_some ?_ | refine h.tk fun w h => ?_ | refine ⟨_, h.ldA, ?_⟩ | refine ⟨_, _, _, h.ldA, ?_⟩)
  rw [hsk, hst]
  by_cases hi' : i < l.text.length
  ·have hp := hf hi'
   simp only [isST, Bool.or_eq_false_iff, beq_eq_false_iff_ne] at hp
   refine br_true (by simpa using hi') ?_
   repeat (first | refine nilP_some ?_ | refine h.tk fun w h => ?_ | refine ⟨_, h.ldA, ?_⟩ | refine ⟨_, _, _, h.ldA, ?_⟩)
   rw [hsk, hst]
   refine ⟨by omega, by simpa using hi', ?_⟩
   rw [bt_beq hi' 32 32 rfl]
   refine br_false (by simpa using hp.1) ?_
   repeat (first | refine nilP_some ?_ | refine h.tk fun w h => ?_ | refine ⟨_, h.ldA, ?_⟩ | refine ⟨_, _, _, h.ldA, ?_⟩)
   rw [hsk, hst]
   refine ⟨by omega, by simpa using hi', ?_⟩
   rw [bt_beq hi' 9 9 rfl]
   exact br_false (by simpa using hp.2) (hR _ h)
  ·exact br_false (by simpa using hi') (hR _ h)

theorem trimSpaceString_ok {b : Nat} {l : Ln} (h : Sat σ w L) (hm : l.at b ∈ L) (hl : l.ok) (hR : ∀ w, Sat σ w L → R (.returned (.string (bs ((l.text.drop l.i).dropWhile isST)))) w) :
 callE P i_line_trimSpaceString #[.pointer (some ⟨b, 0, none⟩)] R w := by
 refine g_line_trimSpaceString.sound ?_
 repeat (first | refine nilP_some ?_ | refine h.tk fun w h => ?_ | refine ⟨_, h.ldA, ?_⟩ | refine ⟨_, _, _, h.ldA, ?_⟩)
 have := hl.i
 refine ⟨by omega, by simp; omega, ?_⟩
 rw [bs_size, Int.toNat_natCast, bs_ext]
 exact trimLeftSpaceTab_ok (by simp; have := hl.len; omega) ⟨_, rfl, hR _ h⟩
end Go.Proofs.YtgbgadkldalkbaaGreatDoor


set_option linter.unusedVariables false
namespace Go.Proofs.YtgbgadkldalkbaaGreatDoor
open Go.Proofs Go.IntWalk
variable {σ : Out} {w : World} {L L' : List Chunk} {R : Ending → World → Prop}

structure PS where
 pz : Option Addr
 root : Option Addr
 links : Option Nat
 lineno : Nat
 stq : Option Addr
 stn : Nat
 stc : Nat
 depth : Int
 corner : Bool
 s : List UInt8
 em : Int
 lq : Option Addr
 ln : Nat
 lc : Nat
 Lq : Option Addr
 Ln : Nat
 Lc : Nat
 tq : Option Addr
 tn : Nat
 tc : Nat
 bt : List Value
def PS.cells (p : PS) : List Value :=
 .pointer p.pz :: .pointer p.root :: .map p.links :: .int .i64 p.lineno :: .slice p.stq p.stn p.stc :: .int .i64 p.depth :: .bool p.corner :: .string (bs p.s) :: .int .i64 p.em ::
  .slice p.lq p.ln p.lc :: .slice p.Lq p.Ln p.Lc :: .slice p.tq p.tn p.tc :: p.bt
abbrev PS.at (b : Nat) (p : PS) : Chunk := (b, cel p.cells ty_parseState)
structure OB where
 bd : Value
 q : Option Addr
 n : Nat
 c : Nat
 s : Nat
 e : Nat
def OB.cells (o : OB) : List Value := [o.bd, .slice o.q o.n o.c, .int .i64 o.s, .int .i64 o.e]
def obCells (l : List OB) : List Value := l.flatMap OB.cells
theorem obCells_length : ∀ l : List OB, (obCells l).length = l.length * 4
 | [] => rfl
 | o :: l => by simp only [obCells, List.flatMap_cons, List.length_append, List.length_cons] at *; rw [show (List.flatMap OB.cells l).length = l.length * 4 from obCells_length l]; simp [OB.cells]; omega
theorem obCells_get {f : Nat} (hf : f < 4) : ∀ (l : List OB) (j : Nat) (o : OB), l[j]? = some o → (obCells l)[j * 4 + f]? = o.cells[f]?
 | [], j, o, h => by simp at h
 | o' :: l, 0, o, h => by
  simp only [List.getElem?_cons_zero, Option.some.injEq] at h
  subst h
  simp only [obCells, List.flatMap_cons, Nat.zero_mul, Nat.zero_add]
  rw [List.getElem?_append_left (by simp [OB.cells]; omega)]
 | o' :: l, j + 1, o, h => by
  simp only [List.getElem?_cons_succ] at h
  simp only [obCells, List.flatMap_cons]
  rw [List.getElem?_append_right (by simp [OB.cells]; omega)]
  have := obCells_get hf l j o h
  rw [← this]
  congr 1
  simp [OB.cells]
  omega
def Stk (p : PS) (l : List OB) (M : List Chunk) : Prop := Sl 4 ty_openBlock p.stq p.stn p.stc (obCells l) M ∧ p.stn = l.length ∧ l.length < 1048576
theorem Stk.split {p : PS} {l : List OB} {M : List Chunk} (h : Stk p l M) (hl : l ≠ []) : ∃ b sp, p.stq = some ⟨b, 0, none⟩ ∧ M = [(b, cel (obCells l ++ sp) ty_openBlock)] ∧ (obCells l ++ sp).length = p.stc * 4 := by
 obtain ⟨⟨_, _, h | ⟨b, sp, h1, h2, h3⟩⟩, hn, _⟩ := h
 ·obtain ⟨_, h, _⟩ := h
  rw [h] at hn
  exact absurd (List.eq_nil_of_length_eq_zero hn.symm) hl
 ·exact ⟨b, sp, h1, h2, h3⟩
theorem Stk.mk' {p : PS} {l : List OB} {b : Nat} {sp : List Value} (h1 : p.stq = some ⟨b, 0, none⟩) (h2 : (obCells l ++ sp).length = p.stc * 4) (h3 : p.stn = l.length) (h4 : l.length < 1048576) :
 Stk p l [(b, cel (obCells l ++ sp) ty_openBlock)] := by
 refine ⟨⟨by rw [obCells_length, h3], ?_, .inr ⟨b, sp, h1, rfl, h2⟩⟩, h3, h4⟩
 rw [List.length_append, obCells_length] at h2
 omega
theorem stk_get {l : List OB} {sp : List Value} {j f : Nat} {o : OB} (hf : f < 4) (ho : l[j]? = some o) : (obCells l ++ sp)[j * 4 + f]? = o.cells[f]? := by
 have hj := (List.getElem?_eq_some_iff.1 ho).1
 rw [List.getElem?_append_left (by rw [obCells_length]; omega), obCells_get hf l j o ho]
theorem last_get {l : List OB} (o : OB) : (l ++ [o])[l.length]? = some o := by simp
theorem len_dec {n : Nat} (h : n < 1048576) : IntKind.i64.wrap (((n + 1 : Nat) : Int) - 1) = (n : Int) := by
 rw [i64_in _ (by omega)]; omega

theorem blocks_ok {b : Nat} {p : PS} {l : List OB} {o : OB} {M : List Chunk} (h : Sat σ w (p.at b :: M ++ L)) (hs : Stk p (l ++ [o]) M)
 (hR : ∀ w, Sat σ w (p.at b :: M ++ L) → R (.returned (.slice o.q o.n o.c)) w) : callE P i_parseState_blocks #[.pointer (some ⟨b, 0, none⟩)] R w := by
 obtain ⟨sb, sp, hq, rfl, hsp⟩ := hs.split (by simp)
 have hn := hs.2.1
 have hlt := hs.2.2
 rw [List.length_append, List.length_singleton] at hn hlt
 refine g_parseState_blocks.sound ?_
 repeat (first | refine nilP_some ?_ | refine h.tk fun w h => ?_ | refine ⟨_, h.ldA, ?_⟩ | refine ⟨_, _, _, h.ldA, ?_⟩)
 rw [hn, len_dec (by omega)]
 refine ⟨by omega, by omega, ?_⟩
 rw [hq]
 refine nilP_some ?_
 simp only [Addr.add_lit, Nat.zero_add, Int.toNat_natCast]
 exact ⟨_, _, _, Sat.ld h (by first | assumption | (repeat (first | exact .head _ | apply List.Mem.tail))) (stk_get (f := 1) (by decide) (last_get o)), hR _ h⟩

theorem trimStack_noop {b : Nat} {p : PS} {d : Int} (h : Sat σ w (p.at b :: L)) (hd : (p.stn : Int) = d) (hR : ∀ w, Sat σ w (p.at b :: L) → R (.returned (.tuple #[])) w) :
 callE P i_parseState_trimStack #[.pointer (some ⟨b, 0, none⟩), .int .i64 d] R w := by
 refine g_parseState_trimStack.sound ?_
 repeat (first | refine nilP_some ?_ | refine h.tk fun w h => ?_ | refine ⟨_, h.ldA, ?_⟩ | refine ⟨_, _, _, h.ldA, ?_⟩)
 refine br_false (by simp; omega) ?_
 intro X hX
 refine hX _ _ _ ?_
 repeat (first | refine nilP_some ?_ | refine h.tk fun w h => ?_ | refine ⟨_, h.ldA, ?_⟩ | refine ⟨_, _, _, h.ldA, ?_⟩)
 exact br_false (by simp; omega) (hR _ h)

noncomputable def rowOB : Row P ty_S_openBlock ty_openBlock 4 56 :=
 ⟨(P.info? ty_openBlock).getD default, ((P.info? ty_openBlock).bind (·.zero)).getD default, by kernel_rfl, by kernel_rfl, by kernel_rfl, by kernel_rfl, by kernel_rfl, by kernel_rfl, by decide⟩

theorem obCells_snoc (l : List OB) (o : OB) : obCells (l ++ [o]) = obCells l ++ o.cells := by simp [obCells]
theorem stk_set {l : List OB} {sp : List Value} {o o' : OB} {f : Nat} {v : Value} (hf : f < 4) (ho : o.cells.set f v = o'.cells) :
 (obCells (l ++ [o]) ++ sp).set (l.length * 4 + f) v = obCells (l ++ [o']) ++ sp := by
 rw [obCells_snoc, obCells_snoc, List.append_assoc, List.append_assoc, List.set_append_right _ _ (by rw [obCells_length]; omega), obCells_length,
  show l.length * 4 + f - l.length * 4 = f by omega, List.set_append_left _ _ (by simp [OB.cells]; omega), ho]

theorem ta_yes {t xt : TypeId} {v : Value} (hu : ∀ ms, P.underlying t ≠ some (.interface ms)) {d : TypeDesc} (hd : P.underlying t = some d) (w : World) :
 (Instr.typeAssert (.iface t v) xt t true).run P w = .ok (.tuple #[v, .bool true]) w := by
 cases d <;> first | (exact absurd hd (hu _)) | simp [Instr.typeAssert, run_underlying hd]
theorem ta_no {t a xt : TypeId} {v : Value} (hu : ∀ ms, P.underlying a ≠ some (.interface ms)) {d : TypeDesc} (hd : P.underlying a = some d) (hne : t ≠ a) {i : TypeInfo} {z : Value}
 (hi : P.info? a = some i) (hz : i.zero = some z) (w : World) :
 (Instr.typeAssert (.iface t v) xt a true).run P w = .ok (.tuple #[z, .bool false]) w := by
 cases d <;> first | (exact absurd hd (hu _)) | simp [Instr.typeAssert, run_underlying hd, hne, zeroValue, typeInfo, hi, hz]
end Go.Proofs.YtgbgadkldalkbaaGreatDoor


set_option linter.unusedVariables false
namespace Go.Proofs.YtgbgadkldalkbaaGreatDoor
open Go.Proofs Go.IntWalk
variable {σ : Out} {w : World} {L L' : List Chunk} {R : Ending → World → Prop}

theorem addBlock_ok {b : Nat} {p : PS} {l : List OB} {M : List Chunk} {t : TypeId} {v : Value} (h : Sat σ w (p.at b :: M ++ L)) (hs : Stk p l M) (hd : p.depth + 1 = l.length)
 (hl : l.length < 1048575)
 (hR : ∀ w p' M', p' = { p with stq := p'.stq, stn := l.length + 1, stc := p'.stc } → Stk p' (l ++ [⟨.iface t v, none, 0, 0, p.lineno, p.lineno⟩]) M' → Sat σ w (p'.at b :: M' ++ L) → R (.returned (.tuple #[])) w) :
 callE P i_parseState_addBlock #[.pointer (some ⟨b, 0, none⟩), .iface t v] R w := by
 have hn := hs.2.1
 refine g_parseState_addBlock.sound ?_
 repeat (first | refine nilP_some ?_ | refine h.tk fun w h => ?_ | refine ⟨_, h.ldA, ?_⟩ | refine ⟨_, _, _, h.ldA, ?_⟩)
 rw [show IntKind.i64.wrap (p.depth + 1) = p.depth + 1 by rw [hd]; exact i64_in _ (by omega)]
 refine trimStack_noop h (by rw [hd, hn]) fun w h => ⟨rfl, ?_⟩
 repeat (first | refine nilP_some ?_ | refine h.tk fun w h => ?_ | refine ⟨_, h.ldA, ?_⟩ | refine ⟨_, _, _, h.ldA, ?_⟩)
 have h : Sat σ w (M ++ (p.at b :: L)) := h.re
 refine Sat.app1 rowOB hs.1 h (v := .agg #[.nilIface, .slice none 0 0, .int .i64 0, .int .i64 0]) rfl (by decide) (by kernel_rfl) (by omega) (by omega) (by decide) fun q' c' w M' hs' h => ?_
 have h : Sat σ w (p.at b :: M' ++ L) := h.re
 let p' : PS := { p with stq := q', stn := l.length + 1, stc := c' }
 rw [hn] at hs' ⊢
 (first | refine nilP_some ?_ | refine h.tk fun w h => ?_ | refine ⟨_, h.ldA, ?_⟩ | refine ⟨_, _, _, h.ldA, ?_⟩ | refine h.stA 0 fun w h => ?_ | refine h.stA 1 fun w h => ?_ | refine h.stA 2 fun w h => ?_ | refine h.stA 3 fun w h => ?_ | refine h.stA 4 fun w h => ?_ | refine h.stA 5 fun w h => ?_ | refine h.stA 6 fun w h => ?_ | refine h.bx fun b0 w h => ?_)
 (first | refine nilP_some ?_ | refine h.tk fun w h => ?_ | refine ⟨_, h.ldA, ?_⟩ | refine ⟨_, _, _, h.ldA, ?_⟩ | refine h.stA 0 fun w h => ?_ | refine h.stA 1 fun w h => ?_ | refine h.stA 2 fun w h => ?_ | refine h.stA 3 fun w h => ?_ | refine h.stA 4 fun w h => ?_ | refine h.stA 5 fun w h => ?_ | refine h.stA 6 fun w h => ?_ | refine h.bx fun b0 w h => ?_)
 have h : Sat σ w (p'.at b :: M' ++ L) := h
 have hs2 : Stk p' (l ++ [⟨.nilIface, none, 0, 0, 0, 0⟩]) M' := by
  refine ⟨?_, by simp [p'], by simp; omega⟩
  rw [obCells_snoc]
  exact hs'
 obtain ⟨sb, sp, hq, rfl, hsp⟩ := hs2.split (by simp)
 repeat (first | refine nilP_some ?_ | refine h.tk fun w h => ?_ | refine ⟨_, h.ldA, ?_⟩ | refine ⟨_, _, _, h.ldA, ?_⟩)
 rw [show p'.stn = l.length + 1 from rfl, len_dec (by omega)]
 refine ⟨by omega, by omega, ?_⟩
 rw [hq]
 refine nilP_some ?_
 dsimp only [cellV]
 simp only [Addr.add_lit, Nat.zero_add, Int.toNat_natCast, Nat.add_zero]
 have hlen : ∀ (o : OB) (sp : List Value) f, f < 4 → l.length * 4 + f < (obCells (l ++ [o]) ++ sp).length := by
  intro o sp f hf
  rw [List.length_append, obCells_length, List.length_append, List.length_singleton]; omega
 refine Sat.st h (k := 1) rfl (by have := hlen ⟨.nilIface, none, 0, 0, 0, 0⟩ sp 0 (by decide); simpa using this) trivial rfl fun w h => ?_
 have h : Sat σ w (p'.at b :: [(sb, cel (obCells (l ++ [⟨.iface t v, none, 0, 0, 0, 0⟩]) ++ sp) ty_openBlock)] ++ L) := by
  have e := stk_set (l := l) (sp := sp) (o := ⟨.nilIface, none, 0, 0, 0, 0⟩) (o' := ⟨.iface t v, none, 0, 0, 0, 0⟩) (f := 0) (v := .iface t v) (by decide) rfl
  rw [Nat.add_zero] at e
  rw [e] at h
  exact h
 repeat (first | refine nilP_some ?_ | refine h.tk fun w h => ?_ | refine ⟨_, h.ldA, ?_⟩ | refine ⟨_, _, _, h.ldA, ?_⟩)
 refine Sat.st h (k := 1) rfl (hlen _ sp 2 (by decide)) trivial rfl fun w h => ?_
 have h : Sat σ w (p'.at b :: [(sb, cel (obCells (l ++ [⟨.iface t v, none, 0, 0, p.lineno, 0⟩]) ++ sp) ty_openBlock)] ++ L) := by
  have e := stk_set (l := l) (sp := sp) (o := ⟨.iface t v, none, 0, 0, 0, 0⟩) (o' := ⟨.iface t v, none, 0, 0, p.lineno, 0⟩) (f := 2) (v := .int .i64 p.lineno) (by decide) rfl
  have h := h
  rw [e] at h
  exact h
 repeat (first | refine nilP_some ?_ | refine h.tk fun w h => ?_ | refine ⟨_, h.ldA, ?_⟩ | refine ⟨_, _, _, h.ldA, ?_⟩)
 refine Sat.st h (k := 1) rfl (hlen _ sp 3 (by decide)) trivial rfl fun w h => ?_
 have h : Sat σ w (p'.at b :: [(sb, cel (obCells (l ++ [⟨.iface t v, none, 0, 0, p.lineno, p.lineno⟩]) ++ sp) ty_openBlock)] ++ L) := by
  have e := stk_set (l := l) (sp := sp) (o := ⟨.iface t v, none, 0, 0, p.lineno, 0⟩) (o' := ⟨.iface t v, none, 0, 0, p.lineno, p.lineno⟩) (f := 3) (v := .int .i64 p.lineno) (by decide) rfl
  have h := h
  rw [e] at h
  exact h
 refine hR _ p' _ rfl ?_ h
 refine Stk.mk' hq ?_ (by simp [p']) (by simp; omega)
 rw [← hsp, List.length_append, List.length_append, obCells_length, obCells_length, List.length_append, List.length_append]
 rfl
end Go.Proofs.YtgbgadkldalkbaaGreatDoor


set_option linter.unusedVariables false
namespace Go.Proofs.YtgbgadkldalkbaaGreatDoor
open Go.Proofs Go.IntWalk
variable {σ : Out} {w : World} {L L' : List Chunk} {R : Ending → World → Prop}

theorem Ln.tsGo_ok {min : Nat} {eol : Bool} : ∀ (k n : Nat) {l l' : Ln}, l.ok → l.tsGo min eol k n = some l' → l'.ok ∧ l'.text = l.text ∧ l'.nl = l.nl
 | 0, n, l, l', hl, h => by simp only [Ln.tsGo, Option.some.injEq] at h; subst h; exact ⟨hl, rfl, rfl⟩
 | k + 1, n, l, l', hl, h => by
  have h1 := hl.i; have h2 := hl.tab; have h3 := hl.sp
  simp only [Ln.tsGo] at h
  split at h
  ·exact tsGo_ok k _ (l := { l with sp := l.sp - 1 }) ⟨h1, h2, hl.len, by simp; omega⟩ h
  ·split at h
   ·exact tsGo_ok k _ hl h
   ·split at h
    ·rename_i hg
     have := (List.getElem?_eq_some_iff.1 hg).1
     exact tsGo_ok k _ (l := { l with sp := 3 - (l.i - l.tab) % 4, i := l.i + 1, tab := l.i + 1 }) ⟨by simp; omega, by simp, hl.len, by simp⟩ h
    ·split at h
     ·rename_i hg
      have := (List.getElem?_eq_some_iff.1 hg).1
      exact tsGo_ok k _ (l := { l with i := l.i + 1 }) ⟨by simp; omega, by simp; omega, hl.len, h3⟩ h
     ·split at h
      ·cases h; exact ⟨hl, rfl, rfl⟩
      ·cases h
theorem Ln.tsGo_some {eol : Bool} : ∀ (k n : Nat) (l : Ln), ∃ l', l.tsGo 0 eol k n = some l'
 | 0, n, l => ⟨l, rfl⟩
 | k + 1, n, l => by
  simp only [Ln.tsGo]
  split
  ·exact tsGo_some k _ _
  ·split
   ·exact tsGo_some k _ _
   ·split
    ·exact tsGo_some k _ _
    ·split
     ·exact tsGo_some k _ _
     ·exact ⟨l, by simp⟩
theorem Ln.trimSp_ok {min max : Nat} {eol : Bool} {l l' : Ln} (hl : l.ok) (h : l.trimSp min max eol = some l') : l'.ok := (Ln.tsGo_ok max 0 hl h).1
def Ln.lead (m : Nat) (eol : Bool) (l : Ln) : Ln := (l.trimSp 0 m eol).getD l
theorem Ln.lead_eq (m : Nat) (eol : Bool) (l : Ln) : l.trimSp 0 m eol = some (l.lead m eol) := by
 obtain ⟨l', h⟩ := Ln.tsGo_some (eol := eol) m 0 l
 rw [Ln.lead, Ln.trimSp, h]; rfl
theorem Ln.lead_ok {m : Nat} {eol : Bool} {l : Ln} (hl : l.ok) : (l.lead m eol).ok := Ln.trimSp_ok hl (l.lead_eq m eol)
theorem lead_ok {b : Nat} {l : Ln} {max : Nat} {eol : Bool} (h : Sat σ w (l.at b :: L)) (hl : l.ok) (h2 : max < 4611686018427387904)
 (hR : ∀ w, Sat σ w ((l.lead max eol).at b :: L) → R (.returned (.bool true)) w) :
 callE P i_line_trimSpace #[.pointer (some ⟨b, 0, none⟩), .int .i64 0, .int .i64 max, .bool eol] R w := by
 refine YtgbgadkldalkbaaGreatDoor.trimSp_ok (min := 0) h hl (by omega) h2 ?_
 rw [Ln.lead_eq]
 exact hR

abbrev Ln.val (l : Ln) : Value := .agg #[.int .i64 l.sp, .int .i64 l.i, .int .i64 l.tab, .string (bs l.text), .int .u8 l.nl.toNat]

def Ln.quote (l : Ln) : Option Ln := ((l.lead 3 false).trimC 62).map fun t => t.lead 1 true
theorem trimQuote_ok {l : Ln} (h : Sat σ w L) (hl : l.ok)
 (hR : match l.quote with
  | some l' => ∀ w, Sat σ w L → R (.returned (.tuple #[l'.val, .bool true])) w
  | none => ∀ w, Sat σ w L → R (.returned (.tuple #[l.val, .bool false])) w) : callE P i_trimQuote #[l.val] R w := by
 refine g_trimQuote.sound ?_
 refine Sat.bx h fun b1 w h => ?_
 refine Sat.bx h fun b3 w h => ?_
 repeat (first | refine nilP_some ?_ | refine h.tk fun w h => ?_ | refine ⟨_, h.ldA, ?_⟩ | refine ⟨_, _, _, h.ldA, ?_⟩ | refine h.stA 0 fun w h => ?_ | refine h.stA 1 fun w h => ?_ | refine h.stA 2 fun w h => ?_ | refine h.stA 3 fun w h => ?_ | refine h.stA 4 fun w h => ?_ | refine h.stA 5 fun w h => ?_ | refine h.stA 6 fun w h => ?_ | refine h.bx fun b0 w h => ?_)
 have h : Sat σ _ (l.at b0 :: (b3, cel [.int .i64 0, .int .i64 0, .int .i64 0, .string (bs []), .int .u8 0] ty_line) :: l.at b1 :: L) := h
 refine lead_ok (max := 3) h hl (by decide) fun w h => ⟨_, rfl, ?_⟩
 refine trimC_ok (c := 62) rfl h (Ln.lead_ok hl) ?_
 simp only [Ln.quote] at hR
 cases hq : (l.lead 3 false).trimC 62 with
 | none =>
  rw [hq] at hR
  intro w h
  refine ⟨_, rfl, br_true rfl ?_⟩
  repeat (first | refine nilP_some ?_ | refine h.tk fun w h => ?_ | refine ⟨_, h.ldA, ?_⟩ | refine ⟨_, _, _, h.ldA, ?_⟩ | refine h.stA 0 fun w h => ?_ | refine h.stA 1 fun w h => ?_ | refine h.stA 2 fun w h => ?_ | refine h.stA 3 fun w h => ?_ | refine h.stA 4 fun w h => ?_ | refine h.stA 5 fun w h => ?_ | refine h.stA 6 fun w h => ?_ | refine h.bx fun b0 w h => ?_)
  exact hR _ h.tail.tail.tail
 | some t =>
  rw [hq] at hR
  intro w h
  refine ⟨_, rfl, br_false rfl ?_⟩
  refine lead_ok (max := 1) h (Ln.trimC_ok (Ln.lead_ok hl) hq) (by decide) fun w h => ⟨_, rfl, ?_⟩
  repeat (first | refine nilP_some ?_ | refine h.tk fun w h => ?_ | refine ⟨_, h.ldA, ?_⟩ | refine ⟨_, _, _, h.ldA, ?_⟩ | refine h.stA 0 fun w h => ?_ | refine h.stA 1 fun w h => ?_ | refine h.stA 2 fun w h => ?_ | refine h.stA 3 fun w h => ?_ | refine h.stA 4 fun w h => ?_ | refine h.stA 5 fun w h => ?_ | refine h.stA 6 fun w h => ?_ | refine h.bx fun b0 w h => ?_)
  exact hR _ h.tail.tail.tail
end Go.Proofs.YtgbgadkldalkbaaGreatDoor


set_option linter.unusedVariables false
namespace Go.Proofs.YtgbgadkldalkbaaGreatDoor
open Go.Proofs Go.IntWalk
variable {σ : Out} {w : World} {L L' : List Chunk} {R : Ending → World → Prop}

theorem u8b (c d : UInt8) (n : Int) (hd : (d.toNat : Int) = n) : (((c.toNat : Nat) : Int) == n) = (c == d) := by subst hd; exact u8_beq c d

def Ln.hrGo (c : UInt8) : Nat → Nat → Ln → Bool
 | 0, _, _ => false
 | f + 1, n, l => match l.trimC c with
  | none => decide (3 ≤ n) && decide (l.text.length ≤ l.i)
  | some l' => l'.skip.hrGo c f (n + 1)
def Ln.isHR (l : Ln) : Bool :=
 let t := l.lead 3 false
 if t.peek = 45 ∨ t.peek = 95 ∨ t.peek = 42 then t.hrGo t.peek (t.text.length + 1) 0 else false
theorem Ln.skip_ge {l : Ln} (hl : l.ok) : l.i ≤ l.skip.i := by
 have h1 := hl.i
 have h3 := (List.dropWhile_sublist isST (l := l.text.drop l.i)).length_le
 rw [List.length_drop] at h3
 simp only [Ln.skip]; omega
theorem isHR_ok {l : Ln} (h : Sat σ w L) (hl : l.ok) (hR : ∀ w, Sat σ w L → R (.returned (.bool l.isHR)) w) : callE P i_isHR #[l.val] R w := by
 refine g_isHR.sound ?_
 refine Sat.bx h fun b1 w h => ?_
 repeat (first | refine nilP_some ?_ | refine h.tk fun w h => ?_ | refine ⟨_, h.ldA, ?_⟩ | refine ⟨_, _, _, h.ldA, ?_⟩ | refine h.stA 0 fun w h => ?_ | refine h.stA 1 fun w h => ?_ | refine h.stA 2 fun w h => ?_ | refine h.stA 3 fun w h => ?_ | refine h.stA 4 fun w h => ?_ | refine h.stA 5 fun w h => ?_ | refine h.stA 6 fun w h => ?_ | refine h.bx fun b0 w h => ?_)
 have h : Sat σ _ (l.at b0 :: l.at b1 :: L) := h
 refine lead_ok (max := 3) h hl (by decide) fun w h => ⟨_, rfl, ?_⟩
 have ht := Ln.lead_ok (m := 3) (eol := false) hl
 refine peek_ok h (by first | assumption | (repeat (first | exact .head _ | apply List.Mem.tail))) ht fun w h => ⟨_, rfl, ?_⟩
 generalize hg : l.lead 3 false = t at *
 have hi : l.isHR = if t.peek = 45 ∨ t.peek = 95 ∨ t.peek = 42 then t.hrGo t.peek (t.text.length + 1) 0 else false := by simp only [Ln.isHR, hg]
 have loop : ∀ (c : UInt8), c ≠ 32 → ∀ f n (t : Ln) w, t.ok → t.text.length - t.i < f → n ≤ t.i → Sat σ w (t.at b0 :: l.at b1 :: L) → (∀ w, Sat σ w L → R (.returned (.bool (t.hrGo c f n))) w) →
  g_isHR.l1 R b0 c.toNat n w := by
  intro c hc f n t w ht hf hn h hR X hX
  induction f generalizing n t w with
  | zero => omega
  | succ f ih =>
   refine hX _ _ _ _ ?_
   refine trimC_ok (c := c) rfl h ht ?_
   simp only [Ln.hrGo] at hR
   have h1 := ht.i; have h4 := ht.len
   cases hq : t.trimC c with
   | none =>
    rw [hq] at hR
    intro w h
    refine ⟨_, rfl, br_true rfl ?_⟩
    refine br_split (fun h3 => ?_) (fun h3 => ?_)
    ·refine eof_ok h (by first | assumption | (repeat (first | exact .head _ | apply List.Mem.tail))) fun w h => ⟨_, rfl, ?_⟩
     have := hR _ h.tail.tail
     rw [show decide (3 ≤ n) = true by simp at h3 ⊢; omega, Bool.true_and] at this
     exact this
    ·have := hR _ h.tail.tail
     rw [show decide (3 ≤ n) = false by simp at h3 ⊢; omega, Bool.false_and] at this
     exact this
   | some t' =>
    rw [hq] at hR
    intro w h
    refine ⟨_, rfl, br_false rfl ?_⟩
    have ht' := Ln.trimC_ok ht hq
    refine skipSpace_ok h ht' fun w h => ⟨rfl, ?_⟩
    have hd : t'.i = t.i + 1 ∧ t'.text = t.text := by
     simp only [Ln.trimC, hc, if_false] at hq
     split at hq
     ·cases hq
     ·split at hq
      ·cases hq; exact ⟨rfl, rfl⟩
      ·cases hq
    have hge := Ln.skip_ge ht'
    have htl : t'.skip.text = t.text := hd.2
    rw [i64_inc (by omega)]
    have hge2 := ht'.i
    rw [hd.2] at hge2
    exact ih (n + 1) t'.skip _ (Ln.skip_ok ht') (by rw [htl]; omega) (by omega) h hR
 have fin : (t.peek = 45 ∨ t.peek = 95 ∨ t.peek = 42) → Sat σ w (t.at b0 :: l.at b1 :: L) → g_isHR.k1 R b0 t.peek.toNat true w := by
  intro hp h
  rw [if_pos hp] at hi
  refine br_true rfl ?_
  refine loop t.peek (by rcases hp with hp | hp | hp <;> rw [hp] <;> decide) (t.text.length + 1) 0 t w ht (by omega) (by omega) h (by rw [← hi]; exact hR)
 rw [u8b _ 45 45 rfl, u8b _ 95 95 rfl, u8b _ 42 42 rfl]
 refine br_split (fun hp => fin (.inl (by simpa using hp)) h) (fun h45 => br_split (fun hp => fin (.inr (.inl (by simpa using hp))) h) (fun h95 => ?_))
 by_cases hp : t.peek = 42
 ·rw [show (t.peek == 42) = true by simpa using hp]
  exact fin (.inr (.inr hp)) h
 ·rw [show (t.peek == 42) = false by simpa using hp]
  have := hR _ h.tail.tail
  rw [hi, if_neg (by simp at h45 h95; simp [h45, h95, hp])] at this
  exact br_false rfl this
end Go.Proofs.YtgbgadkldalkbaaGreatDoor


set_option linter.unusedVariables false
namespace Go.Proofs.YtgbgadkldalkbaaGreatDoor
open Go.Proofs Go.IntWalk
variable {σ : Out} {w : World} {L L' : List Chunk} {R : Ending → World → Prop}

theorem newQuote_no {x : Value} {q : Option Addr} {l : Ln} (h : Sat σ w L) (hl : l.ok) (hq : l.quote = none)
 (hR : ∀ w, Sat σ w L → R (.returned (.tuple #[l.val, .bool false])) w) : callE P i_newQuote #[.pointer q, l.val] R w := by
 refine g_newQuote.sound ?_
 refine Sat.bx h fun b1 w h => ?_
 refine Sat.bx h fun b3 w h => ?_
 repeat (first | refine nilP_some ?_ | refine h.tk fun w h => ?_ | refine ⟨_, h.ldA, ?_⟩ | refine ⟨_, _, _, h.ldA, ?_⟩)
 refine trimQuote_ok (l := l) h hl ?_
 rw [hq]
 intro w h
 refine ⟨_, _, _, _, _, _, rfl, ?_⟩
 refine Sat.bx h fun b4 w h => ?_
 repeat (first | refine nilP_some ?_ | refine h.tk fun w h => ?_ | refine ⟨_, h.ldA, ?_⟩ | refine ⟨_, _, _, h.ldA, ?_⟩ | refine h.stA 0 fun w h => ?_ | refine h.stA 1 fun w h => ?_ | refine h.stA 2 fun w h => ?_ | refine h.stA 3 fun w h => ?_ | refine h.stA 4 fun w h => ?_ | refine h.stA 5 fun w h => ?_ | refine h.stA 6 fun w h => ?_ | refine h.bx fun b0 w h => ?_)
 exact hR _ h.tail.tail.tail
theorem newHR_no {q : Option Addr} {l : Ln} (h : Sat σ w L) (hl : l.ok) (hq : l.isHR = false)
 (hR : ∀ w, Sat σ w L → R (.returned (.tuple #[l.val, .bool false])) w) : callE P i_newHR #[.pointer q, l.val] R w := by
 refine g_newHR.sound ?_
 refine Sat.bx h fun b1 w h => ?_
 refine Sat.bx h fun b3 w h => ?_
 repeat (first | refine nilP_some ?_ | refine h.tk fun w h => ?_ | refine ⟨_, h.ldA, ?_⟩ | refine ⟨_, _, _, h.ldA, ?_⟩)
 refine isHR_ok (l := l) h hl fun w h => ⟨_, rfl, ?_⟩
 rw [hq]
 repeat (first | refine nilP_some ?_ | refine h.tk fun w h => ?_ | refine ⟨_, h.ldA, ?_⟩ | refine ⟨_, _, _, h.ldA, ?_⟩ | refine h.stA 0 fun w h => ?_ | refine h.stA 1 fun w h => ?_ | refine h.stA 2 fun w h => ?_ | refine h.stA 3 fun w h => ?_ | refine h.stA 4 fun w h => ?_ | refine h.stA 5 fun w h => ?_ | refine h.stA 6 fun w h => ?_ | refine h.bx fun b0 w h => ?_)
 exact hR _ h.tail.tail

def Ln.hashes : Nat → Nat → Ln → Nat × Ln
 | 0, n, l => (n, l)
 | k + 1, n, l => match l.trimC 35 with
  | none => (n, l)
  | some l' => l'.hashes k (n + 1)
def Ln.heading (l : Ln) : Option (Nat × Ln) :=
 match (l.lead 3 false).trimC 35 with
 | none => none
 | some t => ((t.hashes 5 1).2.trimSp 1 1 true).map fun t' => ((t.hashes 5 1).1, t')
theorem trimHeading_ok {b nb : Nat} {l : Ln} {v : Int} {e : TypeId} (h : Sat σ w (l.at b :: (nb, cel [.int .i64 v] e) :: L)) (hl : l.ok)
 (hR : match l.heading with
  | some (n, l') => ∀ w, Sat σ w (l'.at b :: (nb, cel [.int .i64 n] e) :: L) → R (.returned (.bool true)) w
  | none => ∀ w, Sat σ w (l.at b :: (nb, cel [.int .i64 v] e) :: L) → R (.returned (.bool false)) w) :
 callE P i_line_trimHeading #[.pointer (some ⟨b, 0, none⟩), .pointer (some ⟨nb, 0, none⟩)] R w := by
 refine g_line_trimHeading.sound ?_
 repeat (first | refine nilP_some ?_ | refine h.tk fun w h => ?_ | refine ⟨_, h.ldA, ?_⟩ | refine ⟨_, _, _, h.ldA, ?_⟩ | refine h.stA 0 fun w h => ?_ | refine h.stA 1 fun w h => ?_ | refine h.stA 2 fun w h => ?_ | refine h.stA 3 fun w h => ?_ | refine h.stA 4 fun w h => ?_ | refine h.stA 5 fun w h => ?_ | refine h.stA 6 fun w h => ?_ | refine h.bx fun b0 w h => ?_)
 have h : Sat σ _ (l.at b0 :: l.at b :: (nb, cel [.int .i64 v] e) :: L) := h
 refine lead_ok (max := 3) h hl (by decide) fun w h => ⟨_, rfl, ?_⟩
 have ht := Ln.lead_ok (m := 3) (eol := false) hl
 refine trimC_ok (c := 35) rfl h ht ?_
 simp only [Ln.heading] at hR
 cases hq : (l.lead 3 false).trimC 35 with
 | none =>
  rw [hq] at hR
  exact fun w h => ⟨_, rfl, br_true rfl (hR _ h.tail)⟩
 | some t =>
  rw [hq] at hR
  intro w h
  refine ⟨_, rfl, br_false rfl ?_⟩
  have ht := Ln.trimC_ok ht hq
  have fin : ∀ (n : Nat) (t' : Ln) w, t'.ok → Sat σ w (t'.at b0 :: l.at b :: (nb, cel [.int .i64 v] e) :: L) →
   (match (t'.trimSp 1 1 true).map fun t' => (n, t') with
   | some (n, l') => ∀ w, Sat σ w (l'.at b :: (nb, cel [.int .i64 n] e) :: L) → R (.returned (.bool true)) w
   | none => ∀ w, Sat σ w (l.at b :: (nb, cel [.int .i64 v] e) :: L) → R (.returned (.bool false)) w) →
   g_line_trimHeading.k1 R (some ⟨b, 0, none⟩) (some ⟨nb, 0, none⟩) b0 n w := by
   intro n t' w ht' h hR
   refine YtgbgadkldalkbaaGreatDoor.trimSp_ok (min := 1) (max := 1) h ht' (by decide) (by decide) ?_
   cases hs : t'.trimSp 1 1 true with
   | none =>
    rw [hs] at hR
    exact fun w h => ⟨_, rfl, br_true rfl (hR _ h.tail)⟩
   | some t2 =>
    rw [hs] at hR
    intro w h
    refine ⟨_, rfl, br_false rfl ?_⟩
    repeat (first | refine nilP_some ?_ | refine h.tk fun w h => ?_ | refine ⟨_, h.ldA, ?_⟩ | refine ⟨_, _, _, h.ldA, ?_⟩ | refine h.stA 0 fun w h => ?_ | refine h.stA 1 fun w h => ?_ | refine h.stA 2 fun w h => ?_ | refine h.stA 3 fun w h => ?_ | refine h.stA 4 fun w h => ?_ | refine h.stA 5 fun w h => ?_ | refine h.stA 6 fun w h => ?_ | refine h.bx fun b0 w h => ?_)
    have h : Sat σ _ (t2.at b0 :: t2.at b :: (nb, cel [.int .i64 n] e) :: L) := h
    exact hR _ h.tail
  have loop : ∀ k n (t : Ln) w, t.ok → k + n = 6 → Sat σ w (t.at b0 :: l.at b :: (nb, cel [.int .i64 v] e) :: L) →
   (match ((t.hashes k n).2.trimSp 1 1 true).map fun t' => ((t.hashes k n).1, t') with
   | some (n, l') => ∀ w, Sat σ w (l'.at b :: (nb, cel [.int .i64 n] e) :: L) → R (.returned (.bool true)) w
   | none => ∀ w, Sat σ w (l.at b :: (nb, cel [.int .i64 v] e) :: L) → R (.returned (.bool false)) w) →
   g_line_trimHeading.l1 R (some ⟨b, 0, none⟩) (some ⟨nb, 0, none⟩) b0 n w := by
   intro k n t w ht hk h hR X hX
   induction k generalizing n t w with
   | zero => exact hX _ _ _ _ _ (br_false (by simp; omega) (fin n t w ht h hR))
   | succ k ih =>
    refine hX _ _ _ _ _ (br_true (by simp; omega) ?_)
    refine trimC_ok (c := 35) rfl h ht ?_
    simp only [Ln.hashes] at hR
    cases hq : t.trimC 35 with
    | none =>
     rw [hq] at hR
     exact fun w h => ⟨_, rfl, br_false rfl (fin n t w ht h hR)⟩
    | some t' =>
     rw [hq] at hR
     intro w h
     refine ⟨_, rfl, br_true rfl ?_⟩
     rw [i64_inc (by omega)]
     exact ih (n + 1) t' w (Ln.trimC_ok ht hq) (by omega) h hR
  exact loop 5 1 t w ht rfl h hR
theorem newATX_no {q : Option Addr} {l : Ln} (h : Sat σ w L) (hl : l.ok) (hq : l.heading = none)
 (hR : ∀ w, Sat σ w L → R (.returned (.tuple #[l.val, .bool false])) w) : callE P i_newATXHeading #[.pointer q, l.val] R w := by
 refine g_newATXHeading.sound ?_
 refine Sat.bx h fun b1 w h => ?_
 refine Sat.bx h fun b3 w h => ?_
 repeat (first | refine nilP_some ?_ | refine h.tk fun w h => ?_ | refine ⟨_, h.ldA, ?_⟩ | refine ⟨_, _, _, h.ldA, ?_⟩)
 refine Sat.bx h fun b4 w h => ?_
 repeat (first | refine nilP_some ?_ | refine h.tk fun w h => ?_ | refine ⟨_, h.ldA, ?_⟩ | refine ⟨_, _, _, h.ldA, ?_⟩ | refine h.stA 0 fun w h => ?_ | refine h.stA 1 fun w h => ?_ | refine h.stA 2 fun w h => ?_ | refine h.stA 3 fun w h => ?_ | refine h.stA 4 fun w h => ?_ | refine h.stA 5 fun w h => ?_ | refine h.stA 6 fun w h => ?_ | refine h.bx fun b0 w h => ?_)
 have h : Sat σ _ ((b0, cel [.int .i64 0] ty_int) :: l.at b4 :: (b3, cel [.int .i64 0, .int .i64 0, .int .i64 0, .string (bs []), .int .u8 0] ty_line) :: l.at b1 :: L) := h
 refine trimHeading_ok h.up1 hl ?_
 rw [hq]
 intro w h
 refine ⟨_, rfl, br_false rfl ?_⟩
 repeat (first | refine nilP_some ?_ | refine h.tk fun w h => ?_ | refine ⟨_, h.ldA, ?_⟩ | refine ⟨_, _, _, h.ldA, ?_⟩ | refine h.stA 0 fun w h => ?_ | refine h.stA 1 fun w h => ?_ | refine h.stA 2 fun w h => ?_ | refine h.stA 3 fun w h => ?_ | refine h.stA 4 fun w h => ?_ | refine h.stA 5 fun w h => ?_ | refine h.stA 6 fun w h => ?_ | refine h.bx fun b0 w h => ?_)
 exact hR _ h.tail.tail.tail.tail
end Go.Proofs.YtgbgadkldalkbaaGreatDoor


set_option linter.unusedVariables false
namespace Go.Proofs.YtgbgadkldalkbaaGreatDoor
open Go.Proofs Go.IntWalk
variable {σ : Out} {w : World} {L L' : List Chunk} {R : Ending → World → Prop}

theorem startHTML_no {b : Nat} {q : Option Addr} {l : Ln} (h : Sat σ w (l.at b :: L)) (hl : l.ok) (hp : (l.lead 3 false).peek ≠ 60)
 (hR : ∀ w, Sat σ w (l.at b :: L) → R (.returned (.bool false)) w) : callE P i_parseState_startHTML #[.pointer q, .pointer (some ⟨b, 0, none⟩)] R w := by
 refine g_parseState_startHTML.sound ?_
 repeat (first | refine nilP_some ?_ | refine h.tk fun w h => ?_ | refine ⟨_, h.ldA, ?_⟩ | refine ⟨_, _, _, h.ldA, ?_⟩ | refine h.stA 0 fun w h => ?_ | refine h.stA 1 fun w h => ?_ | refine h.stA 2 fun w h => ?_ | refine h.stA 3 fun w h => ?_ | refine h.stA 4 fun w h => ?_ | refine h.stA 5 fun w h => ?_ | refine h.stA 6 fun w h => ?_ | refine h.bx fun b0 w h => ?_)
 have h : Sat σ _ (l.at b0 :: l.at b :: L) := h
 refine lead_ok (max := 3) h hl (by decide) fun w h => ⟨_, rfl, ?_⟩
 refine peek_ok h (by first | assumption | (repeat (first | exact .head _ | apply List.Mem.tail))) (Ln.lead_ok hl) fun w h => ⟨_, rfl, ?_⟩
 refine br_true ?_ (hR _ h.tail)
 rw [bne, u8b _ 60 60 rfl]
 simpa using hp
theorem newHTML_no {q : Option Addr} {l : Ln} (h : Sat σ w L) (hl : l.ok) (hp : (l.lead 3 false).peek ≠ 60)
 (hR : ∀ w, Sat σ w L → R (.returned (.tuple #[l.val, .bool false])) w) : callE P i_newHTML #[.pointer q, l.val] R w := by
 refine g_newHTML.sound ?_
 refine Sat.bx h fun b1 w h => ?_
 refine Sat.bx h fun b3 w h => ?_
 repeat (first | refine nilP_some ?_ | refine h.tk fun w h => ?_ | refine ⟨_, h.ldA, ?_⟩ | refine ⟨_, _, _, h.ldA, ?_⟩ | refine h.stA 0 fun w h => ?_ | refine h.stA 1 fun w h => ?_ | refine h.stA 2 fun w h => ?_ | refine h.stA 3 fun w h => ?_ | refine h.stA 4 fun w h => ?_ | refine h.stA 5 fun w h => ?_ | refine h.stA 6 fun w h => ?_ | refine h.bx fun b0 w h => ?_)
 have h : Sat σ _ (l.at b0 :: (b3, cel [.int .i64 0, .int .i64 0, .int .i64 0, .string (bs []), .int .u8 0] ty_line) :: l.at b1 :: L) := h
 refine startHTML_no h hl hp fun w h => ⟨_, rfl, br_false rfl ?_⟩
 repeat (first | refine nilP_some ?_ | refine h.tk fun w h => ?_ | refine ⟨_, h.ldA, ?_⟩ | refine ⟨_, _, _, h.ldA, ?_⟩ | refine h.stA 0 fun w h => ?_ | refine h.stA 1 fun w h => ?_ | refine h.stA 2 fun w h => ?_ | refine h.stA 3 fun w h => ?_ | refine h.stA 4 fun w h => ?_ | refine h.stA 5 fun w h => ?_ | refine h.stA 6 fun w h => ?_ | refine h.bx fun b0 w h => ?_)
 exact hR _ h.tail.tail.tail

theorem top_ok {b : Nat} {p : PS} {l : List OB} {o : OB} {M : List Chunk} (h : Sat σ w (p.at b :: M ++ L)) (hs : Stk p (l ++ [o]) M) {t : TypeId} {v : Value} (ho : o.bd = .iface t v)
 (hR : ∀ w, Sat σ w (p.at b :: M ++ L) → R (.returned (if t = ty_P_paraBuilder then v else .pointer none)) w) (hv : t = ty_P_paraBuilder → ∃ q, v = .pointer q) :
 callE P i_parseState_para #[.pointer (some ⟨b, 0, none⟩)] R w := by
 obtain ⟨sb, sp, hq, rfl, hsp⟩ := hs.split (by simp)
 have hn := hs.2.1
 have hlt := hs.2.2
 rw [List.length_append, List.length_singleton] at hn hlt
 refine g_parseState_para.sound ?_
 repeat (first | refine nilP_some ?_ | refine h.tk fun w h => ?_ | refine ⟨_, h.ldA, ?_⟩ | refine ⟨_, _, _, h.ldA, ?_⟩)
 rw [hn, len_dec (by omega)]
 refine ⟨by omega, by omega, ?_⟩
 rw [hq]
 refine nilP_some ?_
 simp only [Addr.add_lit, Nat.zero_add, Int.toNat_natCast]
 refine ⟨o.bd, Sat.ld h (by first | assumption | (repeat (first | exact .head _ | apply List.Mem.tail))) (stk_get (f := 0) (by decide) (last_get o)), ?_⟩
 rw [ho]
 have hund : P.underlying ty_P_paraBuilder = some (.pointer ty_paraBuilder) := by kernel_rfl
 by_cases ht : t = ty_P_paraBuilder
 ·obtain ⟨q, rfl⟩ := hv ht
  subst ht
  have := hR _ h
  rw [if_pos rfl] at this
  exact ⟨q, true, fun w => ta_yes (by rw [hund]; intro ms h; cases h) hund w, br_true rfl this⟩
 ·have := hR _ h
  rw [if_neg ht] at this
  refine ⟨none, false, fun w => ?_, br_false rfl this⟩
  exact ta_no (by rw [hund]; intro ms h; cases h) hund ht (i := (P.info? ty_P_paraBuilder).getD default) (by kernel_rfl) (by kernel_rfl) w
end Go.Proofs.YtgbgadkldalkbaaGreatDoor


set_option linter.unusedVariables false
namespace Go.Proofs.YtgbgadkldalkbaaGreatDoor
open Go.Proofs Go.IntWalk
variable {σ : Out} {w : World} {L L' : List Chunk} {R : Ending → World → Prop}

def Ln.strip : Nat → Nat → Ln → Nat × Ln
 | 0, n, l => (n, l)
 | k + 1, n, l => match l.trimSp 1 1 false with
  | none => (n, l)
  | some l' => l'.strip k (n + 1)
theorem Ln.strip_ok : ∀ (k n : Nat) {l : Ln}, l.ok → (l.strip k n).2.ok ∧ (l.strip k n).1 ≤ n + k
 | 0, n, l, h => ⟨h, Nat.le_refl _⟩
 | k + 1, n, l, h => by
  simp only [Ln.strip]
  split
  ·exact ⟨h, by simp⟩
  ·rename_i l' hq
   have := strip_ok k (n + 1) (Ln.trimSp_ok h hq)
   exact ⟨this.1, by have := this.2; omega⟩
def isBullet (c : UInt8) : Bool := c == 45 || c == 42 || c == 43 || (48 ≤ c && c ≤ 57)
theorem beqf {c d : UInt8} {n : Int} (hd : (d.toNat : Int) = n) (h : c ≠ d) : (((c.toNat : Nat) : Int) == n) = false := by
 rw [u8b _ d n hd]; simpa using h
theorem startListItem_no {b : Nat} {q : Option Addr} {l : Ln} (h : Sat σ w (l.at b :: L)) (hl : l.ok) (hp : isBullet (l.strip 3 0).2.peek = false)
 (hR : ∀ w, Sat σ w (l.at b :: L) → R (.returned (.bool false)) w) : callE P i_parseState_startListItem #[.pointer q, .pointer (some ⟨b, 0, none⟩)] R w := by
 refine g_parseState_startListItem.sound ?_
 refine Sat.bx h fun b1 w h => ?_
 repeat (first | refine nilP_some ?_ | refine h.tk fun w h => ?_ | refine ⟨_, h.ldA, ?_⟩ | refine ⟨_, _, _, h.ldA, ?_⟩ | refine h.stA 0 fun w h => ?_ | refine h.stA 1 fun w h => ?_ | refine h.stA 2 fun w h => ?_ | refine h.stA 3 fun w h => ?_ | refine h.stA 4 fun w h => ?_ | refine h.stA 5 fun w h => ?_ | refine h.stA 6 fun w h => ?_ | refine h.bx fun b0 w h => ?_)
 have h : Sat σ _ (l.at b0 :: (b1, cel [.pointer q] ty_P_parseState) :: l.at b :: L) := h
 have fin : ∀ (n : Nat) (t : Ln) w, t.ok → isBullet t.peek = false → Sat σ w (t.at b0 :: (b1, cel [.pointer q] ty_P_parseState) :: l.at b :: L) → g_parseState_startListItem.k1 R b1 b0 n w := by
  intro n t w ht hp h
  refine peek_ok h (by first | assumption | (repeat (first | exact .head _ | apply List.Mem.tail))) ht fun w h => ⟨_, rfl, ?_⟩
  generalize t.peek = c at *
  simp only [isBullet, Bool.or_eq_false_iff, beq_eq_false_iff_ne, Bool.and_eq_false_iff, decide_eq_false_iff_not] at hp
  obtain ⟨⟨⟨h1, h2⟩, h3⟩, h4⟩ := hp
  have hd : ∀ d : UInt8, 48 ≤ d → d ≤ 57 → c ≠ d := by
   intro d hd1 hd2 hc
   subst hc
   rcases h4 with h4 | h4
   ·exact h4 hd1
   ·exact h4 hd2
  have h43 := beqf (n := 43) rfl h3
  have h57 := beqf (n := 57) rfl (hd 57 (by decide) (by decide))
  refine br_false (beqf (d := 45) rfl h1) (br_false (beqf (d := 42) rfl h2) ?_)
  rw [h43]
  refine br_false rfl ?_
  refine br_false (beqf (d := 48) rfl (hd _ (by decide) (by decide))) ?_
  refine br_false (beqf (d := 49) rfl (hd _ (by decide) (by decide))) ?_
  refine br_false (beqf (d := 50) rfl (hd _ (by decide) (by decide))) ?_
  refine br_false (beqf (d := 51) rfl (hd _ (by decide) (by decide))) ?_
  refine br_false (beqf (d := 52) rfl (hd _ (by decide) (by decide))) ?_
  refine br_false (beqf (d := 53) rfl (hd _ (by decide) (by decide))) ?_
  refine br_false (beqf (d := 54) rfl (hd _ (by decide) (by decide))) ?_
  refine br_false (beqf (d := 55) rfl (hd _ (by decide) (by decide))) ?_
  refine br_false (beqf (d := 56) rfl (hd _ (by decide) (by decide))) ?_
  rw [h57]
  exact br_false rfl (hR _ h.tail.tail)
 intro X hX
 have loop : ∀ k n (t : Ln) w, t.ok → k + n = 3 → isBullet (t.strip k n).2.peek = false → Sat σ w (t.at b0 :: (b1, cel [.pointer q] ty_P_parseState) :: l.at b :: L) → X b1 b0 n n w := by
  intro k n t w ht hk hp h
  induction k generalizing n t w with
  | zero => exact hX _ _ _ _ _ (br_false (by simp; omega) (fin n t w ht hp h))
  | succ k ih =>
   refine hX _ _ _ _ _ (br_true (by simp; omega) ?_)
   refine YtgbgadkldalkbaaGreatDoor.trimSp_ok (min := 1) (max := 1) h ht (by decide) (by decide) ?_
   simp only [Ln.strip] at hp
   cases hs : t.trimSp 1 1 false with
   | none =>
    rw [hs] at hp
    exact fun w h => ⟨_, rfl, br_true rfl (fin n t w ht hp h)⟩
   | some t' =>
    rw [hs] at hp
    intro w h
    refine ⟨_, rfl, br_false rfl ?_⟩
    rw [i64_inc (by omega)]
    exact ih (n + 1) t' w (Ln.trimSp_ok ht hs) (by omega) hp h
 exact loop 3 0 l _ hl rfl hp h
end Go.Proofs.YtgbgadkldalkbaaGreatDoor


set_option linter.unusedVariables false
namespace Go.Proofs.YtgbgadkldalkbaaGreatDoor
open Go.Proofs Go.IntWalk
variable {σ : Out} {w : World} {L L' : List Chunk} {R : Ending → World → Prop}

abbrev zLn (b : Nat) : Chunk := (b, cel [.int .i64 0, .int .i64 0, .int .i64 0, .string (bs []), .int .u8 0] ty_line)
theorem curB_ok {b d : Nat} {p : PS} {l : List OB} {M : List Chunk} (h : Sat σ w (p.at b :: M ++ L)) (hs : Stk p l M) (hd : p.depth = d)
 (hR : ∀ w, Sat σ w (p.at b :: M ++ L) → R (.returned (match l[d]? with | some o => o.bd | none => .nilIface)) w) :
 callE P i_parseState_curB #[.pointer (some ⟨b, 0, none⟩)] R w := by
 have hn := hs.2.1
 have hlt := hs.2.2
 refine g_parseState_curB.sound ?_
 repeat (first | refine nilP_some ?_ | refine h.tk fun w h => ?_ | refine ⟨_, h.ldA, ?_⟩ | refine ⟨_, _, _, h.ldA, ?_⟩)
 rw [hn, hd]
 by_cases hdl : d < l.length
 ·obtain ⟨sb, sp, hq, rfl, hsp⟩ := hs.split (by intro h; subst h; simp at hdl)
  refine br_true (by simpa using hdl) ?_
  repeat (first | refine nilP_some ?_ | refine h.tk fun w h => ?_ | refine ⟨_, h.ldA, ?_⟩ | refine ⟨_, _, _, h.ldA, ?_⟩)
  rw [hn, hd]
  refine ⟨by omega, by omega, ?_⟩
  rw [hq]
  refine nilP_some ?_
  simp only [Addr.add_lit, Nat.zero_add, Int.toNat_natCast]
  refine ⟨l[d].bd, Sat.ld h (by first | assumption | (repeat (first | exact .head _ | apply List.Mem.tail))) (stk_get (f := 0) (by decide) (List.getElem?_eq_getElem hdl)), ?_⟩
  have := hR _ h
  rw [List.getElem?_eq_getElem hdl] at this
  exact this
 ·have := hR _ h
  rw [List.getElem?_eq_none (by omega)] at this
  exact br_false (by simpa using hdl) this
theorem nextB_ok {b d : Nat} {p : PS} {l : List OB} {M : List Chunk} (h : Sat σ w (p.at b :: M ++ L)) (hs : Stk p l M) (hd : p.depth = d) (hdb : d < 1048577)
 (hR : ∀ w, Sat σ w (p.at b :: M ++ L) → R (.returned (match l[d + 1]? with | some o => o.bd | none => .nilIface)) w) :
 callE P i_parseState_nextB #[.pointer (some ⟨b, 0, none⟩)] R w := by
 have hn := hs.2.1
 have hlt := hs.2.2
 refine g_parseState_nextB.sound ?_
 repeat (first | refine nilP_some ?_ | refine h.tk fun w h => ?_ | refine ⟨_, h.ldA, ?_⟩ | refine ⟨_, _, _, h.ldA, ?_⟩)
 rw [hn, hd, i64_inc (by omega)]
 by_cases hdl : d + 1 < l.length
 ·obtain ⟨sb, sp, hq, rfl, hsp⟩ := hs.split (by intro h; subst h; simp at hdl)
  refine br_true (by simp; omega) ?_
  repeat (first | refine nilP_some ?_ | refine h.tk fun w h => ?_ | refine ⟨_, h.ldA, ?_⟩ | refine ⟨_, _, _, h.ldA, ?_⟩)
  rw [hn, hd, i64_inc (by omega)]
  refine ⟨by omega, by omega, ?_⟩
  rw [hq]
  refine nilP_some ?_
  simp only [Addr.add_lit, Nat.zero_add, Int.toNat_natCast]
  refine ⟨l[d + 1].bd, Sat.ld h (by first | assumption | (repeat (first | exact .head _ | apply List.Mem.tail))) (stk_get (f := 0) (by decide) (List.getElem?_eq_getElem hdl)), ?_⟩
  have := hR _ h
  rw [List.getElem?_eq_getElem hdl] at this
  exact this
 ·have := hR _ h
  rw [List.getElem?_eq_none (by omega)] at this
  exact br_false (by simp; omega) this

theorem ta_listBuilder_no {v : Value} {t : TypeId} (ht : t ≠ ty_P_listBuilder) (w : World) :
 (Instr.typeAssert (.iface t v) ty_blockBuilder ty_P_listBuilder true).run P w = .ok (.tuple #[.pointer none, .bool false]) w := by
 have hund : P.underlying ty_P_listBuilder = some (.pointer ty_listBuilder) := by kernel_rfl
 exact ta_no (by rw [hund]; intro ms h; cases h) hund ht (i := (P.info? ty_P_listBuilder).getD default) (by kernel_rfl) (by kernel_rfl) w
theorem newListItem_no {b d : Nat} {p : PS} {ob : List OB} {o : OB} {M : List Chunk} {t : TypeId} {v : Value} {l : Ln} (h : Sat σ w (p.at b :: M ++ L)) (hs : Stk p ob M) (hd : p.depth = d)
 (ho : ob[d]? = some o) (hb : o.bd = .iface t v) (ht : t ≠ ty_P_listBuilder) (hl : l.ok) (hp : isBullet (l.strip 3 0).2.peek = false)
 (hR : ∀ w, Sat σ w (p.at b :: M ++ L) → R (.returned (.tuple #[l.val, .bool false])) w) : callE P i_newListItem #[.pointer (some ⟨b, 0, none⟩), l.val] R w := by
 refine g_newListItem.sound ?_
 refine Sat.bx h fun b1 w h => ?_
 refine Sat.bx h fun b3 w h => ?_
 have h : Sat σ w (zLn b3 :: l.at b1 :: (p.at b :: M ++ L)) := h
 have h : Sat σ w (p.at b :: M ++ (zLn b3 :: l.at b1 :: L)) := h.re
 refine curB_ok h hs hd fun w h => ?_
 rw [ho]
 dsimp only
 refine ⟨_, rfl, none, false, w, by rw [hb]; exact ta_listBuilder_no ht w, br_false rfl (br_false rfl ?_)⟩
 have h : Sat σ w (l.at b1 :: zLn b3 :: p.at b :: M ++ L) := h.re
 refine startListItem_no h hl hp fun w h => ⟨_, rfl, br_false rfl ?_⟩
 repeat (first | refine nilP_some ?_ | refine h.tk fun w h => ?_ | refine ⟨_, h.ldA, ?_⟩ | refine ⟨_, _, _, h.ldA, ?_⟩ | refine h.stA 0 fun w h => ?_ | refine h.stA 1 fun w h => ?_ | refine h.stA 2 fun w h => ?_ | refine h.stA 3 fun w h => ?_ | refine h.stA 4 fun w h => ?_ | refine h.stA 5 fun w h => ?_ | refine h.stA 6 fun w h => ?_ | refine h.bx fun b0 w h => ?_)
 exact hR _ h.tail.tail
end Go.Proofs.YtgbgadkldalkbaaGreatDoor


set_option linter.unusedVariables false
namespace Go.Proofs.YtgbgadkldalkbaaGreatDoor
open Go.Proofs Go.IntWalk
variable {σ : Out} {w : World} {L L' : List Chunk} {R : Ending → World → Prop}

theorem equalIn_nil_iface {t u : TypeId} {v : Value} {ms : Array (String × TypeId)} (hu : P.underlying t = some (.interface ms)) (d : Nat) (w : World) :
 (Op.equalIn (d + 1) t .nilIface (.iface u v)).run P w = .ok false w := by
 simp [Op.equalIn, run_underlying hu]
theorem equalIn_iface_ne {t u u' : TypeId} {v v' : Value} {ms : Array (String × TypeId)} (hu : P.underlying t = some (.interface ms)) (hne : u ≠ u') (d : Nat) (w : World) :
 (Op.equalIn (d + 1) t (.iface u v) (.iface u' v')).run P w = .ok false w := by
 simp [Op.equalIn, run_underlying hu, hne]
theorem equalIn_ptr_nil {t e : TypeId} (hu : P.underlying t = some (.pointer e)) (q : Option Addr) (d : Nat) (w : World) :
 (Op.equalIn (d + 1) t (.pointer q) (.pointer none)).run P w = .ok q.isNone w := by
 cases q <;> simp [Op.equalIn, run_underlying hu]
theorem bin_eq {t : TypeId} {a b : Value} {r : Bool} {w : World} {x y : Operand} (h1 : (eqGuard .eql t x y a b).run P w = .ok () w) (h2 : binOp .eql t a b = (do pure (.bool (← Op.equal t a b))))
 (h : (Op.equal t a b).run P w = .ok r w) : (do eqGuard .eql t x y a b; binOp .eql t a b).run P w = .ok (.bool r) w := by
 rw [h2]
 simp only [Sem.run_bind, h1, h, Result.andThen_ok]
 rfl
theorem eq_nil_iface {t u : TypeId} {v : Value} {ms : Array (String × TypeId)} (hu : P.underlying t = some (.interface ms)) (x y : Operand) (w : World) :
 (do eqGuard .eql t x y .nilIface (.iface u v); binOp .eql t .nilIface (.iface u v)).run P w = .ok (.bool false) w :=
 bin_eq rfl rfl (equalIn_nil_iface hu 9999 w)
theorem eq_iface_ne {t u u' : TypeId} {v v' : Value} {ms : Array (String × TypeId)} (hu : P.underlying t = some (.interface ms)) (hne : u ≠ u') (x y : Operand) (w : World) :
 (do eqGuard .eql t x y (.iface u v) (.iface u' v'); binOp .eql t (.iface u v) (.iface u' v')).run P w = .ok (.bool false) w :=
 bin_eq rfl rfl (equalIn_iface_ne hu hne 9999 w)
theorem eq_ptr_nil {t e : TypeId} (hu : P.underlying t = some (.pointer e)) (q : Option Addr) (x y : Operand) (w : World) :
 (do eqGuard .eql t x y (.pointer q) (.pointer none); binOp .eql t (.pointer q) (.pointer none)).run P w = .ok (.bool q.isNone) w :=
 bin_eq rfl rfl (equalIn_ptr_nil hu q 9999 w)
theorem und_bb : P.underlying ty_blockBuilder = some (.interface ((match P.underlying ty_blockBuilder with | some (.interface ms) => ms | _ => #[]))) := by kernel_rfl
theorem und_para : P.underlying ty_P_paraBuilder = some (.pointer ty_paraBuilder) := by kernel_rfl

theorem newSetext_no {b d : Nat} {p : PS} {ob : List OB} {o : OB} {M : List Chunk} {t : TypeId} {v : Value} {l : Ln} (h : Sat σ w (p.at b :: M ++ L)) (hs : Stk p (ob ++ [o]) M) (hd : p.depth = d)
 (hlen : ob.length = d) (hb : o.bd = .iface t v) (ht : t ≠ ty_P_paraBuilder) (hl : l.ok)
 (hR : ∀ w, Sat σ w (p.at b :: M ++ L) → R (.returned (.tuple #[l.val, .bool false])) w) : callE P i_newSetextHeading #[.pointer (some ⟨b, 0, none⟩), l.val] R w := by
 have hlt := hs.2.2
 rw [List.length_append, List.length_singleton] at hlt
 refine g_newSetextHeading.sound ?_
 refine Sat.bx h fun b1 w h => ?_
 refine Sat.bx h fun b3 w h => ?_
 refine Sat.bx h fun b5 w h => ?_
 repeat (first | refine nilP_some ?_ | refine h.tk fun w h => ?_ | refine ⟨_, h.ldA, ?_⟩ | refine ⟨_, _, _, h.ldA, ?_⟩ | refine h.stA 0 fun w h => ?_ | refine h.stA 1 fun w h => ?_ | refine h.stA 2 fun w h => ?_ | refine h.stA 3 fun w h => ?_ | refine h.stA 4 fun w h => ?_ | refine h.stA 5 fun w h => ?_ | refine h.stA 6 fun w h => ?_ | refine h.bx fun b0 w h => ?_)
 have h : Sat σ _ (l.at b0 :: (b5, cel [.int .i64 0] ty_int) :: zLn b3 :: l.at b1 :: (p.at b :: M ++ L)) := h
 have h : Sat σ _ (p.at b :: M ++ (l.at b0 :: (b5, cel [.int .i64 0] ty_int) :: zLn b3 :: l.at b1 :: L)) := h.re
 refine nextB_ok h hs hd (by omega) fun w h => ?_
 rw [List.getElem?_eq_none (by simp; omega)]
 refine ⟨_, rfl, ?_⟩
 refine top_ok h hs hb (fun w h => ?_) (fun hc => absurd hc ht)
 rw [if_neg ht]
 refine ⟨_, rfl, false, w, eq_nil_iface und_bb _ _ w, br_false rfl ?_⟩
 have h : Sat σ _ (zLn b3 :: l.at b1 :: (b5, cel [.int .i64 0] ty_int) :: l.at b0 :: (p.at b :: M ++ L)) := h.re
 refine br_false rfl ?_
 repeat (first | refine nilP_some ?_ | refine h.tk fun w h => ?_ | refine ⟨_, h.ldA, ?_⟩ | refine ⟨_, _, _, h.ldA, ?_⟩ | refine h.stA 0 fun w h => ?_ | refine h.stA 1 fun w h => ?_ | refine h.stA 2 fun w h => ?_ | refine h.stA 3 fun w h => ?_ | refine h.stA 4 fun w h => ?_ | refine h.stA 5 fun w h => ?_ | refine h.stA 6 fun w h => ?_ | refine h.bx fun b0 w h => ?_)
 have h : Sat σ _ (l.at b3 :: l.at b1 :: (b5, cel [.int .i64 0] ty_int) :: l.at b0 :: (p.at b :: M ++ L)) := h
 exact hR _ h.tail.tail.tail.tail
end Go.Proofs.YtgbgadkldalkbaaGreatDoor


set_option linter.unusedVariables false
namespace Go.Proofs.YtgbgadkldalkbaaGreatDoor
open Go.Proofs Go.IntWalk
variable {σ : Out} {w : World} {L L' : List Chunk} {R : Ending → World → Prop}

theorem trimFence_no {b nb : Nat} {q1 q2 : Option Addr} {l : Ln} {v : Int} {e : TypeId} (h : Sat σ w (l.at b :: (nb, cel [.int .i64 v] e) :: L)) (hl : l.ok)
 (hp : (l.strip 3 0).2.peek ≠ 96 ∧ (l.strip 3 0).2.peek ≠ 126)
 (hR : ∀ w v, Sat σ w (l.at b :: (nb, cel [.int .i64 v] e) :: L) → R (.returned (.bool false)) w) :
 callE P i_line_trimFence #[.pointer (some ⟨b, 0, none⟩), .pointer q1, .pointer q2, .pointer (some ⟨nb, 0, none⟩)] R w := by
 refine g_line_trimFence.sound ?_
 repeat (first | refine nilP_some ?_ | refine h.tk fun w h => ?_ | refine ⟨_, h.ldA, ?_⟩ | refine ⟨_, _, _, h.ldA, ?_⟩ | refine h.stA 0 fun w h => ?_ | refine h.stA 1 fun w h => ?_ | refine h.stA 2 fun w h => ?_ | refine h.stA 3 fun w h => ?_ | refine h.stA 4 fun w h => ?_ | refine h.stA 5 fun w h => ?_ | refine h.stA 6 fun w h => ?_ | refine h.bx fun b0 w h => ?_)
 have h : Sat σ _ (l.at b0 :: l.at b :: (nb, cel [.int .i64 0] e) :: L) := h
 have fin : ∀ (n : Nat) (t : Ln) w, t.ok → t.peek ≠ 96 ∧ t.peek ≠ 126 → Sat σ w (t.at b0 :: l.at b :: (nb, cel [.int .i64 n] e) :: L) → g_line_trimFence.k2 R (some ⟨b, 0, none⟩) q1 q2 b0 w := by
  intro n t w ht hp h
  refine peek_ok h (by first | assumption | (repeat (first | exact .head _ | apply List.Mem.tail))) ht fun w h => ⟨_, rfl, ?_⟩
  rw [beqf (d := 126) (n := 126) rfl hp.2]
  exact br_false (beqf (d := 96) rfl hp.1) (br_false rfl (hR _ _ h.tail))
 intro X hX
 have loop : ∀ k n (t : Ln) w, t.ok → k + n = 3 → (t.strip k n).2.peek ≠ 96 ∧ (t.strip k n).2.peek ≠ 126 → Sat σ w (t.at b0 :: l.at b :: (nb, cel [.int .i64 n] e) :: L) →
  X (some ⟨b, 0, none⟩) q1 q2 (some ⟨nb, 0, none⟩) b0 w := by
  intro k n t w ht hk hp h
  induction k generalizing n t w with
  | zero =>
   refine hX _ _ _ _ _ _ ?_
   repeat (first | refine nilP_some ?_ | refine h.tk fun w h => ?_ | refine ⟨_, h.ldA, ?_⟩ | refine ⟨_, _, _, h.ldA, ?_⟩)
   exact br_false (by simp; omega) (fin n t w ht hp h)
  | succ k ih =>
   refine hX _ _ _ _ _ _ ?_
   repeat (first | refine nilP_some ?_ | refine h.tk fun w h => ?_ | refine ⟨_, h.ldA, ?_⟩ | refine ⟨_, _, _, h.ldA, ?_⟩)
   refine br_true (by simp; omega) ?_
   refine YtgbgadkldalkbaaGreatDoor.trimSp_ok (min := 1) (max := 1) h ht (by decide) (by decide) ?_
   simp only [Ln.strip] at hp
   cases hs : t.trimSp 1 1 false with
   | none =>
    rw [hs] at hp
    exact fun w h => ⟨_, rfl, br_false rfl (fin n t w ht hp h)⟩
   | some t' =>
    rw [hs] at hp
    intro w h
    refine ⟨_, rfl, br_true rfl ?_⟩
    repeat (first | refine nilP_some ?_ | refine h.tk fun w h => ?_ | refine ⟨_, h.ldA, ?_⟩ | refine ⟨_, _, _, h.ldA, ?_⟩ | refine h.stA 0 fun w h => ?_ | refine h.stA 1 fun w h => ?_ | refine h.stA 2 fun w h => ?_ | refine h.stA 3 fun w h => ?_ | refine h.stA 4 fun w h => ?_ | refine h.stA 5 fun w h => ?_ | refine h.stA 6 fun w h => ?_ | refine h.bx fun b0 w h => ?_)
    rw [i64_inc (by omega)] at h
    exact ih (n + 1) t' _ (Ln.trimSp_ok ht hs) (by omega) hp h
 exact loop 3 0 l _ hl rfl hp h
theorem newFence_no {q : Option Addr} {l : Ln} (h : Sat σ w L) (hl : l.ok) (hp : (l.strip 3 0).2.peek ≠ 96 ∧ (l.strip 3 0).2.peek ≠ 126)
 (hR : ∀ w, Sat σ w L → R (.returned (.tuple #[l.val, .bool false])) w) : callE P i_newFence #[.pointer q, l.val] R w := by
 refine g_newFence.sound ?_
 refine Sat.bx h fun b1 w h => ?_
 refine Sat.bx h fun b3 w h => ?_
 refine Sat.bx h fun b5 w h => ?_
 refine Sat.bx h fun b7 w h => ?_
 refine Sat.bx h fun b9 w h => ?_
 repeat (first | refine nilP_some ?_ | refine h.tk fun w h => ?_ | refine ⟨_, h.ldA, ?_⟩ | refine ⟨_, _, _, h.ldA, ?_⟩ | refine h.stA 0 fun w h => ?_ | refine h.stA 1 fun w h => ?_ | refine h.stA 2 fun w h => ?_ | refine h.stA 3 fun w h => ?_ | refine h.stA 4 fun w h => ?_ | refine h.stA 5 fun w h => ?_ | refine h.stA 6 fun w h => ?_ | refine h.bx fun b0 w h => ?_)
 have h : Sat σ _ (l.at b0 :: (b9, cel [.int .i64 0] ty_int) :: (b7, cel [.string (bs [])] ty_string) :: (b5, cel [.string (bs [])] ty_string) :: zLn b3 :: l.at b1 :: L) := h
 refine trimFence_no h hl hp fun w v h => ⟨_, rfl, ?_⟩
 refine br_false rfl ?_
 repeat (first | refine nilP_some ?_ | refine h.tk fun w h => ?_ | refine ⟨_, h.ldA, ?_⟩ | refine ⟨_, _, _, h.ldA, ?_⟩ | refine h.stA 0 fun w h => ?_ | refine h.stA 1 fun w h => ?_ | refine h.stA 2 fun w h => ?_ | refine h.stA 3 fun w h => ?_ | refine h.stA 4 fun w h => ?_ | refine h.stA 5 fun w h => ?_ | refine h.stA 6 fun w h => ?_ | refine h.bx fun b0 w h => ?_)
 exact hR _ h.tail.tail.tail.tail.tail.tail
end Go.Proofs.YtgbgadkldalkbaaGreatDoor


set_option linter.unusedVariables false
namespace Go.Proofs.YtgbgadkldalkbaaGreatDoor
open Go.Proofs Go.IntWalk
variable {σ : Out} {w : World} {L L' : List Chunk} {R : Ending → World → Prop}

theorem bin_ne {t : TypeId} {a b : Value} {r : Bool} {w : World} {x y : Operand} (h1 : (eqGuard .neq t x y a b).run P w = .ok () w) (h2 : binOp .neq t a b = (do pure (.bool (!(← Op.equal t a b)))))
 (h : (Op.equal t a b).run P w = .ok r w) : (do eqGuard .neq t x y a b; binOp .neq t a b).run P w = .ok (.bool (!r)) w := by
 rw [h2]
 simp only [Sem.run_bind, h1, h, Result.andThen_ok]
 rfl
theorem ne_ptr_nil {t e : TypeId} (hu : P.underlying t = some (.pointer e)) (q : Option Addr) (x y : Operand) (w : World) :
 (do eqGuard .neq t x y (.pointer q) (.pointer none); binOp .neq t (.pointer q) (.pointer none)).run P w = .ok (.bool (!q.isNone)) w :=
 bin_ne rfl rfl (equalIn_ptr_nil hu q 9999 w)

structure Opt where
 ids : Bool
 strike : Bool
 task : Bool
 auto : Bool
 http : Bool
 table : Bool
 emoji : Bool
 dot : Bool
 dash : Bool
 quote : Bool
def Opt.cells (o : Opt) : List Value := [.bool o.ids, .bool o.strike, .bool o.task, .bool o.auto, .bool o.http, .bool o.table, .bool o.emoji, .bool o.dot, .bool o.dash, .bool o.quote]
abbrev Opt.at (b : Nat) (o : Opt) : Chunk := (b, cel o.cells ty_Parser)

theorem newPre_no {b : Nat} {p : PS} {ob : List OB} {o : OB} {M : List Chunk} {t : TypeId} {v : Value} {l : Ln} (h : Sat σ w (p.at b :: M ++ L)) (hs : Stk p (ob ++ [o]) M)
 (hb : o.bd = .iface t v) (hv : t = ty_P_paraBuilder → ∃ q, v = .pointer q) (hl : l.ok) (hp : l.trimSp 4 4 false = none)
 (hR : ∀ w, Sat σ w (p.at b :: M ++ L) → R (.returned (.tuple #[l.val, .bool false])) w) : callE P i_newPre #[.pointer (some ⟨b, 0, none⟩), l.val] R w := by
 refine g_newPre.sound ?_
 refine Sat.bx h fun b1 w h => ?_
 refine Sat.bx h fun b3 w h => ?_
 repeat (first | refine nilP_some ?_ | refine h.tk fun w h => ?_ | refine ⟨_, h.ldA, ?_⟩ | refine ⟨_, _, _, h.ldA, ?_⟩ | refine h.stA 0 fun w h => ?_ | refine h.stA 1 fun w h => ?_ | refine h.stA 2 fun w h => ?_ | refine h.stA 3 fun w h => ?_ | refine h.stA 4 fun w h => ?_ | refine h.stA 5 fun w h => ?_ | refine h.stA 6 fun w h => ?_ | refine h.bx fun b0 w h => ?_)
 have h : Sat σ _ (l.at b0 :: zLn b3 :: l.at b1 :: (p.at b :: M ++ L)) := h
 have h : Sat σ _ (p.at b :: M ++ (l.at b0 :: zLn b3 :: l.at b1 :: L)) := h.re
 have fin : ∀ w, Sat σ w (l.at b0 :: (zLn b3 :: l.at b1 :: (p.at b :: M ++ L))) → g_newPre.k1 R (some ⟨b, 0, none⟩) b1 b3 b0 false w := by
  intro w h
  refine br_false rfl ?_
  repeat (first | refine nilP_some ?_ | refine h.tk fun w h => ?_ | refine ⟨_, h.ldA, ?_⟩ | refine ⟨_, _, _, h.ldA, ?_⟩ | refine h.stA 0 fun w h => ?_ | refine h.stA 1 fun w h => ?_ | refine h.stA 2 fun w h => ?_ | refine h.stA 3 fun w h => ?_ | refine h.stA 4 fun w h => ?_ | refine h.stA 5 fun w h => ?_ | refine h.stA 6 fun w h => ?_ | refine h.bx fun b0 w h => ?_)
  have h : Sat σ _ (l.at b0 :: l.at b3 :: l.at b1 :: (p.at b :: M ++ L)) := h
  exact hR _ h.tail.tail.tail
 refine top_ok h hs hb (fun w h => ?_) hv
 have h : Sat σ _ (l.at b0 :: (zLn b3 :: l.at b1 :: (p.at b :: M ++ L))) := h.re
 by_cases ht : t = ty_P_paraBuilder
 ·obtain ⟨q, rfl⟩ := hv ht
  rw [if_pos ht]
  refine ⟨q, rfl, q.isNone, w, eq_ptr_nil und_para _ _ _ w, br_split (fun hq => ?_) (fun _ => fin _ h)⟩
  refine YtgbgadkldalkbaaGreatDoor.trimSp_ok (min := 4) (max := 4) h hl (by decide) (by decide) ?_
  rw [hp]
  exact fun w h => ⟨_, rfl, br_false rfl (fin _ h)⟩
 ·rw [if_neg ht]
  refine ⟨none, rfl, _, w, eq_ptr_nil und_para _ _ _ w, br_true rfl ?_⟩
  refine YtgbgadkldalkbaaGreatDoor.trimSp_ok (min := 4) (max := 4) h hl (by decide) (by decide) ?_
  rw [hp]
  exact fun w h => ⟨_, rfl, br_false rfl (fin _ h)⟩
end Go.Proofs.YtgbgadkldalkbaaGreatDoor


set_option linter.unusedVariables false
namespace Go.Proofs.YtgbgadkldalkbaaGreatDoor
open Go.Proofs Go.IntWalk
variable {σ : Out} {w : World} {L L' : List Chunk} {R : Ending → World → Prop}

def Ln.zero : Ln := ⟨0, 0, 0, [], 0⟩
noncomputable def rowStr : Row P ty_S_string ty_string 1 16 :=
 ⟨(P.info? ty_string).getD default, ((P.info? ty_string).bind (·.zero)).getD default, by kernel_rfl, by kernel_rfl, by kernel_rfl, by kernel_rfl, by kernel_rfl, by kernel_rfl, by decide⟩
def ParaAt (qb : Nat) (ts : List (List UInt8)) (M : List Chunk) : Prop :=
 ∃ q c TM, Sl 1 ty_string q ts.length c (ts.map fun t => .string (bs t)) TM ∧ M = (qb, cel [.slice q ts.length c, .pointer none] ty_paraBuilder) :: TM

theorem para_append {qb : Nat} {ts : List (List UInt8)} {s : List UInt8} {b4 : Nat} {M : List Chunk} (h : Sat σ w (zLn b4 :: M ++ L)) (hp : ParaAt qb ts M) (hlen : ts.length < 1048576)
 (hR : ∀ w M', ParaAt qb (ts ++ [s]) M' → Sat σ w (M' ++ L) → R (.returned (.tuple #[Ln.zero.val, .bool true])) w) :
 g_newPara.k5 R b4 (some ⟨qb, 0, none⟩) (bs s) w := by
 obtain ⟨q, c, TM, hS, rfl⟩ := hp
 repeat (first | refine nilP_some ?_ | refine h.tk fun w h => ?_ | refine ⟨_, h.ldA, ?_⟩ | refine ⟨_, _, _, h.ldA, ?_⟩)
 have h : Sat σ w (TM ++ ((qb, cel [.slice q ts.length c, .pointer none] ty_paraBuilder) :: zLn b4 :: L)) := h.re
 refine Sat.app1 rowStr hS h (v := .string (bs s)) rfl (by simp [Value.cells, Value.oneCell']) (by kernel_rfl) (by omega) (by omega) (by decide) fun q' c' w TM' hS' h => ?_
 have h : Sat σ w ((qb, cel [.slice q ts.length c, .pointer none] ty_paraBuilder) :: zLn b4 :: (TM' ++ L)) := h.re
 repeat (first | refine nilP_some ?_ | refine h.tk fun w h => ?_ | refine ⟨_, h.ldA, ?_⟩ | refine ⟨_, _, _, h.ldA, ?_⟩ | refine h.stA 0 fun w h => ?_ | refine h.stA 1 fun w h => ?_ | refine h.stA 2 fun w h => ?_ | refine h.stA 3 fun w h => ?_ | refine h.stA 4 fun w h => ?_ | refine h.stA 5 fun w h => ?_ | refine h.stA 6 fun w h => ?_ | refine h.bx fun b0 w h => ?_)
 have h : Sat σ _ ((qb, cel [.slice q' (ts.length + 1) c', .pointer none] ty_paraBuilder) :: zLn b4 :: (TM' ++ L)) := h
 refine hR _ ((qb, cel [.slice q' (ts.length + 1) c', .pointer none] ty_paraBuilder) :: TM') ⟨q', c', TM', ?_, ?_⟩ (h.less [zLn b4])
 ·rw [List.length_append, List.map_append]; exact hS'
 ·rw [List.length_append]; rfl

theorem newPara_new {b pb : Nat} {p : PS} {ob : List OB} {o : OB} {M : List Chunk} {t : TypeId} {v : Value} {l : Ln} {op : Opt} (h : Sat σ w (p.at b :: M ++ L)) (hs : Stk p (ob ++ [o]) M)
 (hpz : p.pz = some ⟨pb, 0, none⟩) (hop : op.at pb ∈ L) (hd : p.depth = ob.length) (hb : o.bd = .iface t v) (ht : t ≠ ty_P_paraBuilder) (hl : l.ok) (hlen : ob.length < 1000000)
 (hR : ∀ w p' M' qb PM, p' = { p with stq := p'.stq, stn := ob.length + 2, stc := p'.stc } → Stk p' (ob ++ [o] ++ [⟨.iface ty_P_paraBuilder (.pointer (some ⟨qb, 0, none⟩)), none, 0, 0, p.lineno, p.lineno⟩]) M' →
  ParaAt qb [(l.text.drop l.i).dropWhile isST] PM → Sat σ w (p'.at b :: M' ++ (PM ++ L)) → R (.returned (.tuple #[Ln.zero.val, .bool true])) w) :
 callE P i_newPara #[.pointer (some ⟨b, 0, none⟩), l.val] R w := by
 refine g_newPara.sound ?_
 refine Sat.bx h fun b1 w h => ?_
 refine Sat.bx h fun b3 w h => ?_
 have h : Sat σ _ (zLn b3 :: l.at b1 :: (p.at b :: M ++ L)) := h
 have h : Sat σ _ (p.at b :: M ++ (zLn b3 :: l.at b1 :: L)) := h.re
 refine top_ok h hs hb (fun w h => ?_) (fun hc => absurd hc ht)
 rw [if_neg ht]
 refine ⟨_, rfl, ?_⟩
 repeat (first | refine nilP_some ?_ | refine h.tk fun w h => ?_ | refine ⟨_, h.ldA, ?_⟩ | refine ⟨_, _, _, h.ldA, ?_⟩)
 have h : Sat σ _ (l.at b1 :: (p.at b :: M ++ (zLn b3 :: L))) := h.re
 refine trimSpaceString_ok h (by first | assumption | (repeat (first | exact .head _ | apply List.Mem.tail))) hl fun w h => ⟨_, rfl, ?_⟩
 refine ⟨_, w, ne_ptr_nil und_para _ _ _ w, br_false rfl (br_false rfl ?_)⟩
 have h : Sat σ _ (p.at b :: (l.at b1 :: (M ++ (zLn b3 :: L)))) := h.re
 refine Sat.tk h fun w h => ?_
 refine nilP_some ?_
 refine ⟨_, Sat.ld h (.head _) rfl, ?_⟩
 rw [hpz]
 refine nilP_some ?_
 have hm : op.at pb ∈ (p.at b :: (l.at b1 :: (M ++ (zLn b3 :: L)))) := by simp [hop]
 refine ⟨op.table, Sat.ld h hm rfl, ?_⟩
 have fin : g_newPara.k4 R (some ⟨b, 0, none⟩) b3 none (bs ((l.text.drop l.i).dropWhile isST)) false w := by
  refine br_false rfl ⟨_, w, ne_ptr_nil und_para _ _ _ w, br_false rfl ?_⟩
  refine Sat.bx h fun qb w h => ?_
  have h : Sat σ _ ((qb, cel [.slice none 0 0, .pointer none] ty_paraBuilder) :: p.at b :: (l.at b1 :: (M ++ (zLn b3 :: L)))) := h
  have h : Sat σ _ (p.at b :: M ++ (zLn b3 :: (qb, cel [.slice none 0 0, .pointer none] ty_paraBuilder) :: L)) := h.less [l.at b1]
  refine addBlock_ok h hs (by rw [hd]; simp) (by simp; omega) fun w p' M' hp' hs' h => ⟨rfl, ?_⟩
  have h : Sat σ w (zLn b3 :: [(qb, cel [.slice none 0 0, .pointer none] ty_paraBuilder)] ++ (p'.at b :: M' ++ L)) := h.re
  refine para_append h (ts := []) ⟨none, 0, [], Sl.nil 1 ty_string, rfl⟩ (by decide) fun w PM hPM h => ?_
  refine hR w p' M' qb PM ?_ hs' hPM (h.re)
  rw [hp']; simp
 refine br_split (fun _ => ⟨_, ne_ptr_nil und_para _ _ _, br_false rfl fin⟩) (fun _ => fin)
end Go.Proofs.YtgbgadkldalkbaaGreatDoor


set_option linter.unusedVariables false
namespace Go.Proofs.YtgbgadkldalkbaaGreatDoor
open Go.Proofs Go.IntWalk
variable {σ : Out} {w : World} {L L' : List Chunk} {R : Ending → World → Prop}

theorem enter_fn {f : FuncId} {args first captured : Array Value} (h : callE P f (first ++ args ++ captured) R w) :
 enterE P (do let d ← Deferred.ofValue (.func (.func f) first captured) args; invoke d.target d.args) R w :=
 h.imp (fun h => ⟨f, _, w, h.1 _ _, h.2⟩) id

def newsF : List FuncId := [i_newQuote, i_newATXHeading, i_newSetextHeading, i_newHR, i_newListItem, i_newHTML, i_newFence, i_newPre]
def newsC : List Value := newsF.map fun f => .func (.func f) #[] #[]
theorem news_ok (h : Sat σ w L) (hR : ∀ w b e, Sat σ w ((b, cel newsC e) :: L) → R (.returned (.slice (some ⟨b, 0, none⟩) 8 8)) w) : callE P i_news #[] R w := by
 refine g_news.sound ?_
 have hu : P.underlying ty_S_func_P_parseState_line_line_bool = some (.slice ty_func_P_parseState_line_line_bool) := by kernel_rfl
 have hrun := run_buildSlice (P := P) w ty_S_func_P_parseState_line_line_bool ty_func_P_parseState_line_line_bool 8
  #[(0, .func (.func i_newQuote) #[] #[]), (1, .func (.func i_newATXHeading) #[] #[]), (2, .func (.func i_newSetextHeading) #[] #[]), (3, .func (.func i_newHR) #[] #[]),
   (4, .func (.func i_newListItem) #[] #[]), (5, .func (.func i_newHTML) #[] #[]), (6, .func (.func i_newFence) #[] #[]), (7, .func (.func i_newPre) #[] #[])] newsC.toArray
  ((P.info? ty_func_P_parseState_line_line_bool).getD default) (((P.info? ty_func_P_parseState_line_line_bool).bind (·.zero)).getD default) hu (by kernel_rfl) (by kernel_rfl)
  (by rw [show ((P.info? ty_func_P_parseState_line_line_bool).getD default).size = 1 by kernel_rfl]; decide) (by rw [show ((P.info? ty_func_P_parseState_line_line_bool).getD default).size = 1 by kernel_rfl]; decide) (by kernel_rfl)
 exact ⟨_, _, _, _, hrun, hR _ _ _ (h.alc newsC _)⟩
end Go.Proofs.YtgbgadkldalkbaaGreatDoor


set_option linter.unusedVariables false
namespace Go.Proofs.YtgbgadkldalkbaaGreatDoor
open Go.Proofs Go.IntWalk
variable {σ : Out} {w : World} {L L' : List Chunk} {R : Ending → World → Prop}

def Decl (b : Nat) (p : PS) (M : List Chunk) (l : Ln) (f : FuncId) : Prop :=
 ∀ (σ : Out) (w : World) (L : List Chunk) (R : Ending → World → Prop), Sat σ w (p.at b :: M ++ L) → (∀ w, Sat σ w (p.at b :: M ++ L) → R (.returned (.tuple #[l.val, .bool false])) w) →
  callE P f #[.pointer (some ⟨b, 0, none⟩), l.val] R w
def HDecl (l : Ln) : Prop :=
 ∀ (b : Nat) (p : PS) (ob : List OB) (o : OB) (M : List Chunk) (t : TypeId) (v : Value), Stk p (ob ++ [o]) M → o.bd = .iface t v → t ≠ ty_P_paraBuilder → Decl b p M l i_newHTML
theorem HDecl.of_peek {l : Ln} (hl : l.ok) (hp : (l.lead 3 false).peek ≠ 60) : HDecl l :=
 fun _ _ _ _ _ _ _ _ _ _ _ _ _ _ h hR => newHTML_no h hl hp hR
def LDecl (l : Ln) : Prop :=
 ∀ (b d : Nat) (p : PS) (ob : List OB) (o : OB) (M : List Chunk) (t : TypeId) (v : Value), Stk p ob M → p.depth = d → ob[d]? = some o → o.bd = .iface t v → t ≠ ty_P_listBuilder → Decl b p M l i_newListItem
theorem LDecl.of_peek {l : Ln} (hl : l.ok) (hp : isBullet (l.strip 3 0).2.peek = false) : LDecl l :=
 fun _ _ _ _ _ _ _ _ hs hd ho hb ht _ _ _ _ h hR => newListItem_no h hs hd ho hb ht hl hp hR
structure Ln.plain (l : Ln) : Prop where
 ok : l.ok
 blank : l.blank = false
 quote : l.quote = none
 heading : l.heading = none
 hr : l.isHR = false
 bullet : LDecl l
 html : HDecl l
 fence : (l.strip 3 0).2.peek ≠ 96 ∧ (l.strip 3 0).2.peek ≠ 126
 pre : l.trimSp 4 4 false = none

theorem decl_all {b : Nat} {p : PS} {ob : List OB} {o : OB} {M : List Chunk} {t : TypeId} {v : Value} {l : Ln} (hs : Stk p (ob ++ [o]) M) (hd : p.depth = ob.length)
 (hb : o.bd = .iface t v) (h1 : t ≠ ty_P_paraBuilder) (h2 : t ≠ ty_P_listBuilder) (hl : l.plain) : ∀ f ∈ newsF, Decl b p M l f := by
 intro f hf
 have hg : (ob ++ [o])[ob.length]? = some o := by simp
 simp only [newsF, List.mem_cons, List.not_mem_nil, or_false] at hf
 intro σ w L R h hR
 rcases hf with rfl | rfl | rfl | rfl | rfl | rfl | rfl | rfl
 ·exact newQuote_no (x := .nilIface) h hl.ok hl.quote hR
 ·exact newATX_no h hl.ok hl.heading hR
 ·exact newSetext_no h hs hd rfl hb h1 hl.ok hR
 ·exact newHR_no h hl.ok hl.hr hR
 ·exact hl.bullet b ob.length p (ob ++ [o]) o M t v hs hd hg hb h2 σ w L R h hR
 ·exact hl.html b p ob o M t v hs hb h1 σ w L R h hR
 ·exact newFence_no h hl.ok hl.fence hR
 ·exact newPre_no h hs hb (fun hc => absurd hc h1) hl.ok hl.pre hR

theorem newsC_get {i : Nat} {f : FuncId} (h : newsF[i]? = some f) : newsC[i]? = some (.func (.func f) #[] #[]) := by
 rw [newsC, List.getElem?_map, h]; rfl

end Go.Proofs.YtgbgadkldalkbaaGreatDoor


set_option linter.unusedVariables false
set_option maxRecDepth 20000
namespace Go.Proofs.YtgbgadkldalkbaaGreatDoor
open Go.Proofs
namespace g_zzContains
noncomputable def body : Code := bodyOf Tryz.f64
end g_zzContains
def g_zzContains (R : EP) (x0 x1 : BA) (w : World) : Prop :=
 callE P i_zzIndex #[.string x0, .string x1] (fun e w2 => ∃ (r1 : Int), e = .returned (.int .i64 r1) ∧
 R (.returned (.bool (decide (r1 ≥ 0)))) w2) w

namespace g_zzContains
noncomputable def ac (R : EP) : AC :=
 (.leaf (sel [] body))
theorem good (R : EP) : Good P 9 (ac R) (QF P [.tmp 4] R) :=
 trivial
theorem eq (R : EP) (x0 x1 : BA) (w : World) : g_zzContains R x0 x1 w = vcA P 9 (ac R) (QF P [.tmp 4] R) (fr0 [.string x0, .string x1]) w := by kernel_rfl
theorem sound {R : EP} {x0 x1 : ByteArray} {w : World} (h : g_zzContains R x0 x1 w) : callE P i_zzContains #[.string x0, .string x1] R w :=
 callE_fz (c := body) Tryz.func64 Tryz.call64 (good R) (eq R x0 x1 w) h
end g_zzContains
namespace g_zzIndex
noncomputable def body : Code := bodyOf Tryz.f67
def bl1 (R : EP) (Xa : BA → BA → Int → WP) (x0 x1 : BA) (x5 : Int) (w : World) : Prop :=
 br (decide ((IntKind.i64.wrap (x5 + (x1.size : Int))) ≤ (x0.size : Int)))
 (0 ≤ x5 ∧ x5 ≤ (IntKind.i64.wrap (x5 + (x1.size : Int))) ∧ (IntKind.i64.wrap (x5 + (x1.size : Int))) ≤ (x0.size : Int) ∧
 br ((x0.extract (Int.toNat x5) (Int.toNat (IntKind.i64.wrap (x5 + (x1.size : Int))))).toList == x1.toList)
 (R (.returned (.int .i64 x5)) w)
 (Xa x0 x1 (IntKind.i64.wrap (x5 + 1)) w))
 (R (.returned (.int .i64 (-1))) w)
def l1 (R : EP) (x0 x1 : BA) (x5 : Int) (w : World) : Prop :=
 ∀ X : BA → BA → Int → WP, (∀ x0 x1 x5 w, bl1 R X x0 x1 x5 w → X x0 x1 x5 w) → X x0 x1 x5 w

noncomputable def al1 (R : EP) (Xa : BA → BA → Int → WP) : AC :=
 (.leaf (sel [1,0,1,0,0] body))
end g_zzIndex
def g_zzIndex (R : EP) (x0 x1 : BA) (w : World) : Prop :=
 g_zzIndex.l1 R x0 x1 0 w

namespace g_zzIndex
noncomputable def ac (R : EP) : AC :=
 (.seq (.leaf (sel [0] body)) (.seq (.seq (.leaf (sel [1,0,0] body)) (.block 0 (.loop (leaf [(0, .s .str), (1, .s .str), (5, .s (.int .i64))] (l1 R)) (sel [1,0,1,0,0] body)))) (.leaf (sel [1,1] body))))
theorem good (R : EP) : Good P 25 (ac R) (QF P [.tmp 4] R) :=
 ⟨trivial, ⟨⟨trivial, (loopG (al1 R) (bl1 R) (fun _ => by kernel_rfl) (fun Xa => trivial) (fun Xa => by intro x0 x1 x5 ρ w; kernel_rfl) (fun X h _ _ _ _ g => g X h))⟩, trivial⟩⟩
theorem eq (R : EP) (x0 x1 : BA) (w : World) : g_zzIndex R x0 x1 w = vcA P 25 (ac R) (QF P [.tmp 4] R) (fr0 [.string x0, .string x1]) w := by kernel_rfl
theorem sound {R : EP} {x0 x1 : ByteArray} {w : World} (h : g_zzIndex R x0 x1 w) : callE P i_zzIndex #[.string x0, .string x1] R w :=
 callE_fz (c := body) Tryz.func67 Tryz.call67 (good R) (eq R x0 x1 w) h
end g_zzIndex
end Go.Proofs.YtgbgadkldalkbaaGreatDoor

set_option linter.unusedVariables false
namespace Go.Proofs.YtgbgadkldalkbaaGreatDoor
open Go.Proofs Go.IntWalk
variable {σ : Out} {w : World} {L L' : List Chunk} {R : Ending → World → Prop}

def findSub (sub l : List UInt8) : Nat → Nat → Option Nat
 | 0, _ => none
 | k + 1, i => if i + sub.length ≤ l.length then (if (l.drop i).take sub.length = sub then some i else findSub sub l k (i + 1)) else none
def idx (l sub : List UInt8) : Option Nat := findSub sub l (l.length + 1) 0
def idxInt (l sub : List UInt8) : Int := match idx l sub with
 | some i => (i : Int)
 | none => -1
theorem zzIndex_ok {l sub : List UInt8} (hl : l.length < 4611686018427387904) (hs : sub.length < 4611686018427387904) (hR : R (.returned (.int .i64 (idxInt l sub))) w) : callE P i_zzIndex #[.string (bs l), .string (bs sub)] R w := by
 refine g_zzIndex.sound ?_
 intro X hX
 have loop : ∀ (k i : Nat), l.length < k + i → i ≤ l.length + 1 → (match findSub sub l k i with | some i => (i : Int) | none => -1) = idxInt l sub → X (bs l) (bs sub) i w := by
  intro k
  induction k with
  | zero =>
   intro i hk hi he
   have hw : IntKind.i64.wrap ((i : Int) + (sub.length : Int)) = ((i + sub.length : Nat) : Int) := by rw [i64_in _ (by omega)]; omega
   refine hX _ _ _ _ (br_false (by rw [bs_size, bs_size, hw]; simp; omega) ?_)
   rw [← he] at hR
   exact hR
  | succ k ih =>
   intro i hk hi he
   have hw : IntKind.i64.wrap ((i : Int) + (sub.length : Int)) = ((i + sub.length : Nat) : Int) := by rw [i64_in _ (by omega)]; omega
   simp only [findSub] at he
   by_cases h1 : i + sub.length ≤ l.length
   ·rw [if_pos h1] at he
    refine hX _ _ _ _ (br_true (by rw [bs_size, bs_size, hw]; simp; omega) ?_)
    rw [bs_size, bs_size, hw]
    refine ⟨by omega, by omega, by omega, ?_⟩
    rw [Int.toNat_natCast, Int.toNat_natCast, bs_extract, bs_toList, bs_toList]
    have ht : (l.take (i + sub.length)).drop i = (l.drop i).take sub.length := by rw [List.drop_take]; congr 1; omega
    rw [ht]
    by_cases h2 : (l.drop i).take sub.length = sub
    ·rw [if_pos h2] at he
     rw [← he] at hR
     exact br_true (by simpa using h2) hR
    ·rw [if_neg h2] at he
     refine br_false (by simpa using h2) ?_
     rw [i64_inc (by omega)]
     exact ih (i + 1) (by omega) (by omega) he
   ·rw [if_neg h1] at he
    refine hX _ _ _ _ (br_false (by rw [bs_size, bs_size, hw]; simp; omega) ?_)
    rw [← he] at hR
    exact hR
 exact loop (l.length + 1) 0 (by omega) (by omega) rfl
theorem zzContains_ok {l sub : List UInt8} (hl : l.length < 4611686018427387904) (hs : sub.length < 4611686018427387904) (hR : R (.returned (.bool (idx l sub).isSome)) w) : callE P i_zzContains #[.string (bs l), .string (bs sub)] R w := by
 refine g_zzContains.sound ?_
 refine zzIndex_ok hl hs ⟨_, rfl, ?_⟩
 have : decide (idxInt l sub ≥ 0) = (idx l sub).isSome := by
  unfold idxInt
  cases idx l sub with
  | none => rfl
  | some i => simp
 rw [this]
 exact hR
theorem findSub_none {c : UInt8} {l : List UInt8} (hc : c ∉ l) : ∀ k i, findSub [c] l k i = none
 | 0, i => rfl
 | k + 1, i => by
  simp only [findSub]
  split
  ·rename_i h
   simp only [List.length_singleton] at h
   rw [if_neg]
   ·exact findSub_none hc k (i + 1)
   ·intro he
    have hm : c ∈ (l.drop i).take 1 := by
     have he' : (l.drop i).take 1 = [c] := he
     rw [he']; exact List.mem_singleton.2 rfl
    exact hc (List.mem_of_mem_drop (List.mem_of_mem_take hm))
  ·rfl
theorem idx_none {c : UInt8} {l : List UInt8} (hc : c ∉ l) : idx l [c] = none := findSub_none hc _ _
end Go.Proofs.YtgbgadkldalkbaaGreatDoor


set_option linter.unusedVariables false
namespace Go.Proofs.YtgbgadkldalkbaaGreatDoor
open Go.Proofs Go.IntWalk
variable {σ : Out} {w : World} {L L' : List Chunk} {R : Ending → World → Prop}

def methB (P : Program) (t : TypeId) (name : String) (f : FuncId) : Bool :=
 match P.info? t, P.underlying t with
 | some i, some (.pointer _) => match i.methods.find? (·.name == name) with
  | some m => m.path.isEmpty && (match m.func with | some (g, true) => Nat.beq g f | _ => false)
  | none => false
 | _, _ => false
theorem methB_run {P : Program} {t : TypeId} {name : String} {f : FuncId} (h : methB P t name f = true) (q : Option Addr) (fuel : Nat) (w : World) :
 (Go.method (fuel + 1) t (.pointer q) name).run P w = .ok (f, .pointer q) w := by
 unfold methB at h
 split at h
 ·rename_i i e hi hu
  split at h
  ·rename_i m hm
   simp only [Bool.and_eq_true] at h
   obtain ⟨hp, h⟩ := h
   split at h
   ·rename_i g hf
    have hg := Nat.eq_of_beq_eq_true h
    subst hg
    have hp' : m.path = #[] := by simpa using hp
    simp [Go.method, typeInfo, hi, hm, hp', Go.follow, hf, Go.receiverAt, run_underlying hu, Go.Place.get]
   ·cases h
  ·cases h
 ·cases h
theorem depth_succ (P : Program) : ∃ n, P.types.size + Made.depth = n + 1 := by
 have h : 0 < Made.depth := by decide
 exact ⟨P.types.size + (Made.depth - 1), by omega⟩
theorem enter_meth {t : TypeId} {name : String} {f : FuncId} {q : Option Addr} {args : Array Value} (hm : methB P t name f = true) (h : callE P f (#[.pointer q] ++ args) R w) :
 enterE P (callMethod (.iface t (.pointer q)) name args) R w := by
 obtain ⟨n, hn⟩ := depth_succ P
 have hr := methB_run hm q n w
 have e : (callMethod (.iface t (.pointer q)) name args).run P w = (callFunc f (#[.pointer q] ++ args)).run P w := by
  simp only [callMethod, Sem.run_bind, run_program, Result.andThen_ok, hn, hr]
 unfold enterE
 rw [e]
 exact h.imp (fun h => ⟨f, _, w, h.1 _ _, h.2⟩) id
theorem Sat.same {σ' : Out} {w w' : World} {L L' : List Chunk} (h : Sat σ w L) (h' : Sat σ' w' L') {b i : Nat} {o : Obj} (hm : (b, o) ∈ L) (hm' : (b, o) ∈ L') (n : Nat) : SameC w w' ⟨b, i, none⟩ n := by
 intro k _
 rw [Addr.add_lit]
 unfold World.cell?
 rw [h.at_ _ hm, h'.at_ _ hm']
theorem meth_pos : methB P ty_P_parseState "pub-paratext/pub/rscmarkdown.pos" i_parseState_pos = true := by kernel_rfl
theorem meth_blocks : methB P ty_P_parseState "pub-paratext/pub/rscmarkdown.blocks" i_parseState_blocks = true := by kernel_rfl
theorem meth_newText : methB P ty_P_parseState "pub-paratext/pub/rscmarkdown.newText" i_parseState_newText = true := by kernel_rfl
theorem meth_paraBuild : methB P ty_P_paraBuilder "pub-paratext/pub/rscmarkdown.build" i_paraBuilder_build = true := by kernel_rfl
theorem meth_rootBuild : methB P ty_P_rootBuilder "pub-paratext/pub/rscmarkdown.build" i_rootBuilder_build = true := by kernel_rfl
end Go.Proofs.YtgbgadkldalkbaaGreatDoor


set_option linter.unusedVariables false
namespace Go.Proofs.YtgbgadkldalkbaaGreatDoor
open Go.Proofs Go.IntWalk Go.RowKit
variable {σ : Out} {w : World} {L L' : List Chunk} {R : Ending → World → Prop}
def Prints (m : String) (v : Value) (T T' : List Chunk) (f : List UInt8 → List UInt8) : Prop :=
 (∀ l, l.length ≤ (f l).length) ∧
 ∀ (σ : Out) (R : Ending → World → Prop) b l M L w, Buf b l M → Sat σ w (M ++ (T ++ L)) → (f l).length ≤ 549755813888 →
  (∀ w M', Buf b (f l) M' → Sat σ w (M' ++ (T' ++ L)) → R (.returned (.tuple #[])) w) → enterE P (callMethod v m #[.pointer (some ⟨b, 0, none⟩)]) R w
inductive PrintsL (m : String) : List Value → List Chunk → List Chunk → (List UInt8 → List UInt8) → Prop where
 | nil : PrintsL m [] [] [] id
 | cons {v : Value} {vs : List Value} {T T' K K' : List Chunk} {f g : List UInt8 → List UInt8} : Prints m v T T' f → PrintsL m vs K K' g → PrintsL m (v :: vs) (T ++ K) (T' ++ K') (g ∘ f)
theorem PrintsL.mono {m : String} {vs : List Value} {K K' : List Chunk} {f : List UInt8 → List UInt8} (h : PrintsL m vs K K' f) : ∀ l, l.length ≤ (f l).length := by
 induction h with
 | nil => exact fun l => Nat.le_refl _
 | cons h1 _ ih => exact fun l => Nat.le_trans (h1.1 l) (ih _)
theorem printLoop {m : String} {b : Nat} {X : Int → World → Prop} {q : Option Addr} {n c : Nat} {e : TypeId} {vs : List Value} {RM KM KM' M : List Chunk} {l : List UInt8} {f : List UInt8 → List UInt8} {END : World → Prop} (hS : Sl 1 e q n c vs RM)
 (hX : ∀ (j : Int) w, br (decide (j < (n : Int))) (0 ≤ j ∧ j < (n : Int) ∧ nilP q fun a => ∃ (v : Value), w.cell? (a.add (Int.toNat j * 1)) = some v ∧
  enterE P (callMethod v m #[.pointer (some ⟨b, 0, none⟩)]) (fun e w' => e = .returned (.tuple #[]) ∧ X (IntKind.i64.wrap (j + 1)) w') w) (END w) → X j w)
 (hP : PrintsL m vs KM KM' f) (hB : Buf b l M) (h : Sat σ w (M ++ (RM ++ (KM ++ L)))) (hn : n < 4611686018427387904) (hb : (f l).length ≤ 549755813888)
 (hE : ∀ w M', Buf b (f l) M' → Sat σ w (M' ++ (RM ++ (KM' ++ L))) → END w) : X 0 w := by
 have hl := hS.1
 have key : ∀ (vs2 : List Value) (KM KM' : List Chunk) (f : List UInt8 → List UInt8), PrintsL m vs2 KM KM' f → ∀ (vs1 : List Value) (D : List Chunk) l M w, vs1 ++ vs2 = vs → Buf b l M → Sat σ w (M ++ (RM ++ (D ++ (KM ++ L)))) → (f l).length ≤ 549755813888 →
  (∀ w M', Buf b (f l) M' → Sat σ w (M' ++ (RM ++ (D ++ (KM' ++ L)))) → END w) → X (vs1.length : Nat) w := by
  intro vs2 KM KM' f hP
  induction hP with
  | nil =>
   intro vs1 D l M w hv hB h hb hE
   refine hX _ _ (br_false ?_ (hE w M hB h))
   rw [← hv] at hl
   simp at hl
   simp; omega
  | @cons v vs2 T T' K K' f g h1 h2 ih =>
   intro vs1 D l M w hv hB h hb hE
   have hlen : vs1.length < n := by rw [← hv] at hl; simp at hl; omega
   refine hX _ _ (br_true (by simp; omega) ⟨by omega, by omega, ?_⟩)
   have hv1 : vs[vs1.length]? = some v := by rw [← hv]; simp
   obtain ⟨_, _, ⟨rfl, h0, _, _⟩ | ⟨rb, sp, rfl, rfl, _⟩⟩ := hS
   ·omega
   ·refine nilP_some ?_
    simp only [Addr.add_lit, Int.toNat_natCast, Nat.mul_one, Nat.zero_add]
    refine ⟨v, Sat.ld h (List.mem_append_right _ (.head _)) ?_, ?_⟩
    ·rw [List.getElem?_append_left (List.getElem?_eq_some_iff.1 hv1).1]; exact hv1
    ·have hmono := h2.mono (f l)
     have h : Sat σ w (M ++ (T ++ ((rb, cel (vs ++ sp) e) :: (D ++ (K ++ L))))) := h.re
     refine h1.2 σ _ b l M _ w hB h (Nat.le_trans hmono hb) fun w M' hB h => ⟨rfl, ?_⟩
     have h : Sat σ w (M' ++ ([(rb, cel (vs ++ sp) e)] ++ ((D ++ T') ++ (K ++ L)))) := h.re
     rw [i64_inc (by omega)]
     have := ih (vs1 ++ [v]) (D ++ T') (f l) M' w (by simpa using hv) hB h hb (fun w M' hB h => hE w M' hB (h.re))
     simpa using this
 exact key vs KM KM' f hP [] [] l M w rfl hB h hb hE

def ab (s : List UInt8) : List UInt8 → List UInt8 := fun l => l ++ s
theorem ab_le (s l : List UInt8) : l.length ≤ (ab s l).length := by simp [ab]
theorem meth_Plain : methB P ty_P_Plain "PrintHTML" i_Plain_PrintHTML = true := by kernel_rfl
theorem plainPrint_ok {b pb : Nat} {l s : List UInt8} {cs : List Value} {e : TypeId} {M : List Chunk} (hB : Buf b l M) (h : Sat σ w (M ++ ((pb, cel (.string (bs s) :: cs) e) :: L))) (hs : s.length < 4294967296) (hb : l.length ≤ 549755813888)
 (hR : ∀ w M', Buf b (l ++ escS htmlPs s) M' → Sat σ w (M' ++ ((pb, cel (.string (bs s) :: cs) e) :: L)) → R (.returned (.tuple #[])) w) :
 callE P i_Plain_PrintHTML #[.pointer (some ⟨pb, 0, none⟩), .pointer (some ⟨b, 0, none⟩)] R w := by
 refine g_Plain_PrintHTML.sound ?_
 refine h.tk fun w h => ?_
 refine nilP_some ?_
 refine ⟨_, Sat.ld h (List.mem_append_right _ (.head _)) rfl, ?_⟩
 refine htmlEscaper_ok h fun w1 eb h1 => ⟨_, _, _, rfl, h.same h1 (List.mem_append_right _ (.head _)) (.tail _ (List.mem_append_right _ (.head _))) 1, ?_⟩
 have h1 : Sat σ w1 (M ++ ((eb, cel (pairC htmlPs) ty_string) :: (pb, cel (.string (bs s) :: cs) e) :: L)) := h1.re
 refine writePairs_ok (ps := htmlPs) hB h1 (.head _) (by decide) (by decide) (by omega) (by omega) fun w M' hB h => ⟨rfl, hR w M' hB ?_⟩
 exact h.less [(eb, cel (pairC htmlPs) ty_string)]
theorem plain_prints {pb : Nat} {s : List UInt8} {cs : List Value} {e : TypeId} (hs : s.length < 4294967296) :
 Prints "PrintHTML" (.iface ty_P_Plain (.pointer (some ⟨pb, 0, none⟩))) [(pb, cel (.string (bs s) :: cs) e)] [(pb, cel (.string (bs s) :: cs) e)] (ab (escS htmlPs s)) := by
 refine ⟨ab_le _, fun σ R b l M L w hB h hb hR => enter_meth meth_Plain ?_⟩
 exact plainPrint_ok hB h hs (Nat.le_trans (ab_le _ l) hb) hR
end Go.Proofs.YtgbgadkldalkbaaGreatDoor


set_option linter.unusedVariables false
set_option maxRecDepth 20000
namespace Go.Proofs.YtgbgadkldalkbaaGreatDoor
open Go.Proofs
namespace g_rootBuilder_build
noncomputable def body : Code := bodyOf Tryz.f331
end g_rootBuilder_build
def g_rootBuilder_build (R : EP) (x0 : OA) (x1 : Value) (w : World) : Prop :=
 tk w fun w1 =>
 ∃ (r2 : OA), (∀ w, (Instr.typeAssert x1 ty_buildState ty_P_parseState false).run P w = .ok (.pointer r2) w) ∧
 nilP r2 fun a3 =>
 ∃ (v4 : Option Nat), w1.cell? (a3.add 2) = some (.map v4) ∧
 enterE P (callMethod x1 "pub-paratext/pub/rscmarkdown.pos" #[]) (fun e w6 => ∃ (r5_0 : Int), ∃ (r5_1 : Int), e = .returned (.agg #[.int .i64 r5_0, .int .i64 r5_1]) ∧
 SameC w1 w6 (a3.add 2) 1 ∧
 enterE P (callMethod x1 "pub-paratext/pub/rscmarkdown.blocks" #[]) (fun e w8 => ∃ (r7q : OA), ∃ (r7n : Nat), ∃ (r7c : Nat), e = .returned (.slice r7q r7n r7c) ∧
 SameC w6 w8 (a3.add 2) 1 ∧
 box w8 #[.int .i64 r5_0, .int .i64 r5_1, .slice r7q r7n r7c, .map v4] ty_Document fun b9 w10 =>
 R (.returned (.iface ty_P_Document (.pointer (some ⟨b9, 0, none⟩)))) w10) w6) w1

namespace g_rootBuilder_build
noncomputable def ac (R : EP) : AC :=
 (.seq (.leaf (sel [0] body)) (.seq (.draw (.pure 0 (.pure 2 (.pure 4 (.pure 5 (.pure 6 (.pure 7 (.load 8 (.one 1 (.one 3 (.pure 9 (.one 10 (.pure 11 (.pure 12 .done))))))))))))) (sel [1,0] body)) (.leaf (sel [1,1] body))))
theorem good (R : EP) : Good P 17 (ac R) (QF P [.tmp 4] R) :=
 ⟨trivial, ⟨⟨by kernel_rfl, by kernel_rfl, fun _ _ _ h => h⟩, trivial⟩⟩
theorem eq (R : EP) (x0 : OA) (x1 : Value) (w : World) : g_rootBuilder_build R x0 x1 w = vcA P 17 (ac R) (QF P [.tmp 4] R) (fr0 [.pointer x0, x1]) w := by kernel_rfl
theorem sound {R : EP} {x0 : OA} {x1 : Value} {w : World} (h : g_rootBuilder_build R x0 x1 w) : callE P i_rootBuilder_build #[.pointer x0, x1] R w :=
 callE_fz (c := body) Tryz.func331 Tryz.call331 (good R) (eq R x0 x1 w) h
end g_rootBuilder_build
namespace g_paraBuilder_build
noncomputable def body : Code := bodyOf Tryz.f385
def k1 (R : EP) (x0 : OA) (x1 : Value) (x5 : BA) (w : World) : Prop :=
 br (x5.toList == (ByteArray.mk #[]).toList)
 (enterE P (callMethod x1 "pub-paratext/pub/rscmarkdown.pos" #[]) (fun e w18 => ∃ (r17_0 : Int), ∃ (r17_1 : Int), e = .returned (.agg #[.int .i64 r17_0, .int .i64 r17_1]) ∧
 box w18 #[.int .i64 r17_0, .int .i64 r17_1] ty_Empty fun b19 w20 =>
 R (.returned (.iface ty_P_Empty (.pointer (some ⟨b19, 0, none⟩)))) w20) w)
 (enterE P (callMethod x1 "pub-paratext/pub/rscmarkdown.pos" #[]) (fun e w22 => ∃ (r21_0 : Int), ∃ (r21_1 : Int), e = .returned (.agg #[.int .i64 r21_0, .int .i64 r21_1]) ∧
 box w22 #[.int .i64 0, .int .i64 0] ty_Position fun b23 w24 =>
 stV w24 ⟨b23, 0, none⟩ (.int .i64 r21_0) fun w25 =>
 stV w25 ⟨b23, 1, none⟩ (.int .i64 r21_1) fun w26 =>
 tk w26 fun w27 =>
 nilP x0 fun a28 =>
 ∃ (v29 : Int), w27.cell? ⟨b23, 0, none⟩ = some (.int .i64 v29) ∧
 ∃ (v30q : OA), ∃ (v30n : Nat), ∃ (v30c : Nat), w27.cell? a28 = some (.slice v30q v30n v30c) ∧
 stV w27 ⟨b23, 1, none⟩ (.int .i64 (IntKind.i64.wrap ((IntKind.i64.wrap (v29 + (v30n : Int))) - 1))) fun w31 =>
 tk w31 fun w32 =>
 ∃ (v33 : Int), w32.cell? ⟨b23, 0, none⟩ = some (.int .i64 v33) ∧
 ∃ (v34 : Int), w32.cell? ⟨b23, 1, none⟩ = some (.int .i64 v34) ∧
 ∃ (v35 : Int), w32.cell? ⟨b23, 0, none⟩ = some (.int .i64 v35) ∧
 ∃ (v36 : Int), w32.cell? ⟨b23, 1, none⟩ = some (.int .i64 v36) ∧
 enterE P (callMethod x1 "pub-paratext/pub/rscmarkdown.newText" #[.agg #[.int .i64 v35, .int .i64 v36], .string x5]) (fun e w38 => ∃ (r37 : OA), e = .returned (.pointer r37) ∧
 SameC w32 w38 ⟨b23, 0, none⟩ 2 ∧
 box w38 #[.int .i64 v33, .int .i64 v34, .pointer r37] ty_Paragraph fun b39 w40 =>
 R (.returned (.iface ty_P_Paragraph (.pointer (some ⟨b39, 0, none⟩)))) w40) w32) w)

def bl1 (R : EP) (Xa : OA → Value → BA → WP) (x0 : OA) (x1 : Value) (x5 : BA) (w : World) : Prop :=
 br (!(x5.toList == (ByteArray.mk #[]).toList))
 (callE P i_parseLinkRefDef #[x1, .string x5] (fun e w14 => ∃ (r13_0 : Int), ∃ (r13_1 : Bool), e = .returned (.tuple #[.int .i64 r13_0, .bool r13_1]) ∧
 br (!r13_1)
 (k1 R x0 x1 x5 w14)
 (callE P i_skipSpace #[.string x5, .int .i64 r13_0] (fun e w16 => ∃ (r15 : Int), e = .returned (.int .i64 r15) ∧
 0 ≤ r15 ∧ r15 ≤ (x5.size : Int) ∧
 Xa x0 x1 (x5.extract (Int.toNat r15) x5.size) w16) w14)) w)
 (k1 R x0 x1 x5 w)
def l1 (R : EP) (x0 : OA) (x1 : Value) (x5 : BA) (w : World) : Prop :=
 ∀ X : OA → Value → BA → WP, (∀ x0 x1 x5 w, bl1 R X x0 x1 x5 w → X x0 x1 x5 w) → X x0 x1 x5 w

noncomputable def al1 (R : EP) (Xa : OA → Value → BA → WP) : AC :=
 (.leaf (sel [1,1,1,0,0,0] body))
end g_paraBuilder_build
def g_paraBuilder_build (R : EP) (x0 : OA) (x1 : Value) (w : World) : Prop :=
 nilP x0 fun a1 =>
 ∃ (v2 : OA), w.cell? (a1.add 1) = some (.pointer v2) ∧
 ∃ (r3 : Bool), ∃ w4, (do eqGuard .neq ty_P_tableBuilder (.tmp 12) (.const (.pointer none)) (.pointer v2) (.pointer none); binOp .neq ty_P_tableBuilder (.pointer v2) (.pointer none)).run P w = .ok (.bool r3) w4 ∧
 br r3
 (nilP x0 fun a5 =>
 ∃ (v6 : OA), w4.cell? (a5.add 1) = some (.pointer v6) ∧
 callE P i_tableBuilder_build #[.pointer v6, x1] (fun e w8 => ∃ (r7 : Value), e = .returned r7 ∧
 R (.returned r7) w8) w4)
 (nilP x0 fun a9 =>
 ∃ (v10q : OA), ∃ (v10n : Nat), ∃ (v10c : Nat), w4.cell? a9 = some (.slice v10q v10n v10c) ∧
 callE P i_strings_Join #[.slice v10q v10n v10c, .string (ByteArray.mk #[10])] (fun e w12 => ∃ (r11 : BA), e = .returned (.string r11) ∧
 g_paraBuilder_build.l1 R x0 x1 r11 w12) w4)

namespace g_paraBuilder_build
noncomputable def ac (R : EP) : AC :=
 (.seq (.leaf (sel [0] body)) (.seq (.leaf (sel [1,0] body)) (.seq (.leaf (sel [1,1,0] body)) (.seq (.block 0 (.loop (leaf [(0, .s .ptr), (1, .s .any), (5, .s .str)] (l1 R)) (sel [1,1,1,0,0,0] body))) (.mark (leaf [(0, .s .ptr), (1, .s .any), (5, .s .str)] (k1 R)) (.seq (.leaf (sel [1,1,1,1,0] body)) (.seq (.leaf (sel [1,1,1,1,1,0] body)) (.seq (.draw (.pure 0 (.pure 2 (.pure 3 (.pure 4 (.load 1 (.load 5 (.pure 6 (.pure 7 (.pure 8 (.pure 9 (.one 10 .done))))))))))) (sel [1,1,1,1,1,1,0] body)) (.seq (.draw (.pure 1 (.pure 3 (.load 0 (.load 2 (.one 4 (.pure 5 (.one 6 (.pure 7 (.pure 8 .done))))))))) (sel [1,1,1,1,1,1,1,0] body)) (.leaf (sel [1,1,1,1,1,1,1,1] body)))))))))))
theorem good (R : EP) : Good P 67 (ac R) (QF P [.tmp 4] R) :=
 ⟨trivial, ⟨trivial, ⟨trivial, ⟨(loopG (al1 R) (bl1 R) (fun _ => by kernel_rfl) (fun Xa => trivial) (fun Xa => by intro x0 x1 x5 ρ w; kernel_rfl) (fun X h _ _ _ _ g => g X h)), ⟨⟨trivial, ⟨trivial, ⟨⟨by kernel_rfl, by kernel_rfl, fun _ _ _ h => h⟩, ⟨⟨by kernel_rfl, by kernel_rfl, fun _ _ _ h => h⟩, trivial⟩⟩⟩⟩, cutZ⟩⟩⟩⟩⟩
theorem eq (R : EP) (x0 : OA) (x1 : Value) (w : World) : g_paraBuilder_build R x0 x1 w = vcA P 67 (ac R) (QF P [.tmp 4] R) (fr0 [.pointer x0, x1]) w := by kernel_rfl
theorem sound {R : EP} {x0 : OA} {x1 : Value} {w : World} (h : g_paraBuilder_build R x0 x1 w) : callE P i_paraBuilder_build #[.pointer x0, x1] R w :=
 callE_fz (c := body) Tryz.func385 Tryz.call385 (good R) (eq R x0 x1 w) h
end g_paraBuilder_build
namespace g_parseState_newText
noncomputable def body : Code := bodyOf Tryz.f181
end g_parseState_newText
def g_parseState_newText (R : EP) (x0 : OA) (x1_0 x1_1 : Int) (x2 : BA) (w : World) : Prop :=
 box w #[.int .i64 x1_0, .int .i64 x1_1] ty_Position fun b1 w2 =>
 ∃ (v3 : Int), w2.cell? ⟨b1, 0, none⟩ = some (.int .i64 v3) ∧
 ∃ (v4 : Int), w2.cell? ⟨b1, 1, none⟩ = some (.int .i64 v4) ∧
 box w2 #[.int .i64 v3, .int .i64 v4, .slice none 0 0, .string x2] ty_Text fun b5 w6 =>
 nilP x0 fun a7 =>
 ∃ (v8q : OA), ∃ (v8n : Nat), ∃ (v8c : Nat), w6.cell? (a7.add 11) = some (.slice v8q v8n v8c) ∧
 ∃ (r9q : OA), ∃ (r9n : Nat), ∃ (r9c : Nat), ∃ w10, (Instr.buildSlice ty_S_P_Text 1 #[(0, .pointer (some ⟨b5, 0, none⟩))]).run P w6 = .ok (.slice r9q r9n r9c) w10 ∧
 ∃ (r11q : OA), ∃ (r11n : Nat), ∃ (r11c : Nat), ∃ w12, (Builtin.append_ #[ty_S_P_Text, ty_S_P_Text] ty_S_P_Text #[.slice v8q v8n v8c, .slice r9q r9n r9c]).run P w10 = .ok (.slice r11q r11n r11c) w12 ∧
 nilP x0 fun a13 =>
 stV w12 ((a13.add 11).add 0) (.slice r11q r11n r11c) fun w14 =>
 R (.returned (.pointer (some ⟨b5, 0, none⟩))) w14

namespace g_parseState_newText
noncomputable def ac (R : EP) : AC :=
 (.leaf (sel [] body))
theorem good (R : EP) : Good P 23 (ac R) (QF P [.tmp 6] R) :=
 trivial
theorem eq (R : EP) (x0 : OA) (x1_0 x1_1 : Int) (x2 : BA) (w : World) : g_parseState_newText R x0 x1_0 x1_1 x2 w = vcA P 23 (ac R) (QF P [.tmp 6] R) (fr0 [.pointer x0, .agg #[.int .i64 x1_0, .int .i64 x1_1], .string x2]) w := by kernel_rfl
theorem sound {R : EP} {x0 : OA} {x1_0 x1_1 : Int} {x2 : ByteArray} {w : World} (h : g_parseState_newText R x0 x1_0 x1_1 x2 w) : callE P i_parseState_newText #[.pointer x0, .agg #[.int .i64 x1_0, .int .i64 x1_1], .string x2] R w :=
 callE_fz (c := body) Tryz.func181 Tryz.call181 (good R) (eq R x0 x1_0 x1_1 x2 w) h
end g_parseState_newText
namespace g_parseState_pos
noncomputable def body : Code := bodyOf Tryz.f335
end g_parseState_pos
def g_parseState_pos (R : EP) (x0 : OA) (w : World) : Prop :=
 box w #[.int .i64 0, .int .i64 0] ty_Position fun b1 w2 =>
 tk w2 fun w3 =>
 nilP x0 fun a4 =>
 nilP x0 fun a5 =>
 ∃ (v6q : OA), ∃ (v6n : Nat), ∃ (v6c : Nat), w3.cell? (a4.add 4) = some (.slice v6q v6n v6c) ∧
 ∃ (v7q : OA), ∃ (v7n : Nat), ∃ (v7c : Nat), w3.cell? (a5.add 4) = some (.slice v7q v7n v7c) ∧
 0 ≤ (IntKind.i64.wrap ((v7n : Int) - 1)) ∧ (IntKind.i64.wrap ((v7n : Int) - 1)) < (v6n : Int) ∧
 nilP v6q fun a8 =>
 ∃ (v9 : Int), w3.cell? (((a8.add (Int.toNat (IntKind.i64.wrap ((v7n : Int) - 1)) * 4)).add 2).add 0) = some (.int .i64 v9) ∧
 ∃ (v10 : Int), w3.cell? (((a8.add (Int.toNat (IntKind.i64.wrap ((v7n : Int) - 1)) * 4)).add 2).add 1) = some (.int .i64 v10) ∧
 stV w3 ⟨b1, 0, none⟩ (.int .i64 v9) fun w11 =>
 stV w11 ⟨b1, 1, none⟩ (.int .i64 v10) fun w12 =>
 ∃ (v13 : Int), w12.cell? ⟨b1, 0, none⟩ = some (.int .i64 v13) ∧
 ∃ (v14 : Int), w12.cell? ⟨b1, 1, none⟩ = some (.int .i64 v14) ∧
 R (.returned (.agg #[.int .i64 v13, .int .i64 v14])) w12

namespace g_parseState_pos
noncomputable def ac (R : EP) : AC :=
 (.seq (.leaf (sel [0] body)) (.seq (.draw (.pure 0 (.pure 1 (.pure 2 (.pure 4 (.pure 5 (.pure 6 (.load 3 (.load 7 (.pure 8 (.pure 9 (.pure 10 (.pure 11 .done)))))))))))) (sel [1,0] body)) (.leaf (sel [1,1] body))))
theorem good (R : EP) : Good P 19 (ac R) (QF P [.cell 2 90] R) :=
 ⟨trivial, ⟨⟨by kernel_rfl, by kernel_rfl, fun _ _ _ h => h⟩, trivial⟩⟩
theorem eq (R : EP) (x0 : OA) (w : World) : g_parseState_pos R x0 w = vcA P 19 (ac R) (QF P [.cell 2 90] R) (fr0 [.pointer x0]) w := by kernel_rfl
theorem sound {R : EP} {x0 : OA} {w : World} (h : g_parseState_pos R x0 w) : callE P i_parseState_pos #[.pointer x0] R w :=
 callE_fz (c := body) Tryz.func335 Tryz.call335 (good R) (eq R x0 w) h
end g_parseState_pos
namespace g_parseLinkLabel
noncomputable def body : Code := bodyOf Tryz.f157
def bl1 (R : EP) (Xa : OA → BA → Int → Int → WP) (x0 : OA) (x1 : BA) (x2 x9 : Int) (w : World) : Prop :=
 br (decide (x9 < (x1.size : Int)))
 (0 ≤ x9 ∧ x9 < (x1.size : Int) ∧
 br ((bt x1 x9) == 93)
 (br (decide ((IntKind.i64.wrap (x9 - (IntKind.i64.wrap (x2 + 1)))) > 999))
 (nilP x0 fun a1 =>
 stV w ((a1.add 6).add 0) (.bool true) fun w2 =>
 R (.returned (.tuple #[.string (ByteArray.mk #[]), .int .i64 0, .bool false])) w2)
 (0 ≤ (IntKind.i64.wrap (x2 + 1)) ∧ (IntKind.i64.wrap (x2 + 1)) ≤ x9 ∧ x9 ≤ (x1.size : Int) ∧
 callE P i_trimSpaceTabNewline #[.string (x1.extract (Int.toNat (IntKind.i64.wrap (x2 + 1))) (Int.toNat x9))] (fun e w4 => ∃ (r3 : BA), e = .returned (.string r3) ∧
 br (!(r3.toList == (ByteArray.mk #[]).toList))
 (R (.returned (.tuple #[.string r3, .int .i64 (IntKind.i64.wrap (x9 + 1)), .bool true])) w4)
 (R (.returned (.tuple #[.string (ByteArray.mk #[]), .int .i64 0, .bool false])) w4)) w))
 (0 ≤ x9 ∧ x9 < (x1.size : Int) ∧
 br ((bt x1 x9) == 91)
 (R (.returned (.tuple #[.string (ByteArray.mk #[]), .int .i64 0, .bool false])) w)
 (0 ≤ x9 ∧ x9 < (x1.size : Int) ∧
 br (((bt x1 x9) == 92) && (decide ((IntKind.i64.wrap (x9 + 1)) < (x1.size : Int))))
 (Xa x0 x1 x2 (IntKind.i64.wrap ((IntKind.i64.wrap (x9 + 1)) + 1)) w)
 (Xa x0 x1 x2 (IntKind.i64.wrap (x9 + 1)) w))))
 (R (.returned (.tuple #[.string (ByteArray.mk #[]), .int .i64 0, .bool false])) w)
def l1 (R : EP) (x0 : OA) (x1 : BA) (x2 x9 : Int) (w : World) : Prop :=
 ∀ X : OA → BA → Int → Int → WP, (∀ x0 x1 x2 x9 w, bl1 R X x0 x1 x2 x9 w → X x0 x1 x2 x9 w) → X x0 x1 x2 x9 w

noncomputable def al1 (R : EP) (Xa : OA → BA → Int → Int → WP) : AC :=
 (.leaf (sel [1,1,1,0,0,0] body))
def k1 (R : EP) (x0 : OA) (x1 : BA) (x2 : Int) (w : World) : Prop :=
 l1 R x0 x1 x2 (IntKind.i64.wrap (x2 + 1)) w

end g_parseLinkLabel
def g_parseLinkLabel (R : EP) (x0 : OA) (x1 : BA) (x2 : Int) (w : World) : Prop :=
 ((!(decide (x2 ≥ (x1.size : Int)))) = true → 0 ≤ x2 ∧ x2 < (x1.size : Int)) ∧
 br ((decide (x2 ≥ (x1.size : Int))) || ((bt x1 x2) != 91))
 (R (.returned (.tuple #[.string (ByteArray.mk #[]), .int .i64 0, .bool false])) w)
 (g_parseLinkLabel.k1 R x0 x1 x2 w)

namespace g_parseLinkLabel
noncomputable def ac (R : EP) : AC :=
 (.seq (.leaf (sel [0] body)) (.seq (.leaf (sel [1,0] body)) (.mark (leaf [(0, .s .ptr), (1, .s .str), (2, .s (.int .i64))] (k1 R)) (.seq (.leaf (sel [1,1,0] body)) (.seq (.block 0 (.loop (leaf [(0, .s .ptr), (1, .s .str), (2, .s (.int .i64)), (9, .s (.int .i64))] (l1 R)) (sel [1,1,1,0,0,0] body))) (.leaf (sel [1,1,1,1] body)))))))
theorem good (R : EP) : Good P 69 (ac R) (QF P [.tmp 6, .tmp 7, .tmp 8] R) :=
 ⟨trivial, ⟨trivial, ⟨⟨trivial, ⟨(loopG (al1 R) (bl1 R) (fun _ => by kernel_rfl) (fun Xa => trivial) (fun Xa => by intro x0 x1 x2 x9 ρ w; kernel_rfl) (fun X h _ _ _ _ _ g => g X h)), trivial⟩⟩, cutZ⟩⟩⟩
theorem eq (R : EP) (x0 : OA) (x1 : BA) (x2 : Int) (w : World) : g_parseLinkLabel R x0 x1 x2 w = vcA P 69 (ac R) (QF P [.tmp 6, .tmp 7, .tmp 8] R) (fr0 [.pointer x0, .string x1, .int .i64 x2]) w := by kernel_rfl
theorem sound {R : EP} {x0 : OA} {x1 : ByteArray} {x2 : Int} {w : World} (h : g_parseLinkLabel R x0 x1 x2 w) : callE P i_parseLinkLabel #[.pointer x0, .string x1, .int .i64 x2] R w :=
 callE_fz (c := body) Tryz.func157 Tryz.call157 (good R) (eq R x0 x1 x2 w) h
end g_parseLinkLabel
namespace g_parseLinkRefDef
noncomputable def body : Code := bodyOf Tryz.f388
def k2 (R : EP) (x0 : Value) (x67 : Bool) (w : World) : Prop :=
 br x67
 (∃ (r11 : OA), ∃ w12, (Instr.typeAssert x0 ty_buildState ty_P_parseState false).run P w = .ok (.pointer r11) w12 ∧
 nilP r11 fun a13 =>
 stV w12 ((a13.add 6).add 0) (.bool true) fun w14 =>
 R (.returned (.tuple #[.int .i64 0, .bool false])) w14)
 (R (.returned (.tuple #[.int .i64 0, .bool false])) w)

def k3 (R : EP) (Xa : Value → BA → Int → BA → BA → Bool → WP) (x0 : Value) (x1 : BA) (x6 : Int) (x7 x10 : BA) (w : World) : Prop :=
 Xa x0 x1 (IntKind.i64.wrap (x6 + 1)) x7 x10 true w

def k10 (R : EP) (x0 : Value) (x6 : Int) (x7 x10 x13 : BA) (x14 : Int) (x15 : Bool) (w : World) : Prop :=
 callE P i_normalizeLabel #[.string x7] (fun e w18 => ∃ (r17 : BA), e = .returned (.string r17) ∧
 enterE P (callMethod x0 "pub-paratext/pub/rscmarkdown.link" #[.string r17]) (fun e w20 => ∃ (r19 : OA), e = .returned (.pointer r19) ∧
 ∃ (r21 : Bool), ∃ w22, (do eqGuard .eql ty_P_Link (.tmp 188) (.const (.pointer none)) (.pointer r19) (.pointer none); binOp .eql ty_P_Link (.pointer r19) (.pointer none)).run P w20 = .ok (.bool r21) w22 ∧
 br r21
 (box w22 #[.slice none 0 0, .string x10, .string x13, .int .u8 x14, .bool x15] ty_Link fun b23 w24 =>
 enterE P (callMethod x0 "pub-paratext/pub/rscmarkdown.defineLink" #[.string r17, .pointer (some ⟨b23, 0, none⟩)]) (fun e w26 => e = .returned (.tuple #[]) ∧
 R (.returned (.tuple #[.int .i64 x6, .bool true])) w26) w24)
 (R (.returned (.tuple #[.int .i64 x6, .bool true])) w22)) w18) w

def k9 (R : EP) (x0 : Value) (x1 : BA) (x6 : Int) (x7 x10 x13 : BA) (x14 : Int) (x15 : Bool) (w : World) : Prop :=
 br (decide (x6 < (x1.size : Int)))
 (k10 R x0 (IntKind.i64.wrap (x6 + 1)) x7 x10 x13 x14 x15 w)
 (k10 R x0 x6 x7 x10 x13 x14 x15 w)

def k7 (R : EP) (x0 : Value) (x1 : BA) (x6 : Int) (x7 x10 x13 : BA) (x14 : Int) (x15 : Bool) (w : World) : Prop :=
 ((decide (x6 < (x1.size : Int))) = true → 0 ≤ x6 ∧ x6 < (x1.size : Int)) ∧
 br ((decide (x6 < (x1.size : Int))) && ((bt x1 x6) != 10))
 (R (.returned (.tuple #[.int .i64 0, .bool false])) w)
 (k9 R x0 x1 x6 x7 x10 x13 x14 x15 w)

def k13 (R : EP) (x0 : Value) (x1 : BA) (x6 : Int) (x7 x10 : BA) (x15 : Bool) (x16 : BA) (x17 : Int) (w : World) : Prop :=
 k7 R x0 x1 x6 x7 x10 x16 x17 x15 w

def k12 (R : EP) (x0 : Value) (x1 : BA) (x6 : Int) (x7 x10 x13 : BA) (x14 : Int) (x15 : Bool) (x16 : BA) (x17 x18 : Int) (x162 : Bool) (w : World) : Prop :=
 br x162
 (br (x16.toList == (ByteArray.mk #[]).toList)
 (k13 R x0 x1 x18 x7 x10 true x16 x17 w)
 (k13 R x0 x1 x18 x7 x10 x15 x16 x17 w))
 (k7 R x0 x1 x6 x7 x10 x13 x14 x15 w)

def k11 (R : EP) (x0 : Value) (x1 : BA) (x6 : Int) (x7 x10 x13 : BA) (x14 : Int) (x15 : Bool) (x16 : BA) (x17 x18 : Int) (w : World) : Prop :=
 ((!(decide (x18 ≥ (x1.size : Int)))) = true → 0 ≤ x18 ∧ x18 < (x1.size : Int)) ∧
 k12 R x0 x1 x6 x7 x10 x13 x14 x15 x16 x17 x18 ((decide (x18 ≥ (x1.size : Int))) || ((bt x1 x18) == 10)) w

def bl3 (R : EP) (Xb : Value → BA → Int → BA → BA → BA → Int → Bool → BA → Int → Int → WP) (x0 : Value) (x1 : BA) (x6 : Int) (x7 x10 x13 : BA) (x14 : Int) (x15 : Bool) (x16 : BA) (x17 x18 : Int) (w : World) : Prop :=
 ((decide (x18 < (x1.size : Int))) = true → 0 ≤ x18 ∧ x18 < (x1.size : Int)) ∧
 (((decide (x18 < (x1.size : Int))) && (!((bt x1 x18) == 32))) = true → 0 ≤ x18 ∧ x18 < (x1.size : Int)) ∧
 br ((decide (x18 < (x1.size : Int))) && (((bt x1 x18) == 32) || ((bt x1 x18) == 9)))
 (Xb x0 x1 x6 x7 x10 x13 x14 x15 x16 x17 (IntKind.i64.wrap (x18 + 1)) w)
 (k11 R x0 x1 x6 x7 x10 x13 x14 x15 x16 x17 x18 w)
def l3 (R : EP) (x0 : Value) (x1 : BA) (x6 : Int) (x7 x10 x13 : BA) (x14 : Int) (x15 : Bool) (x16 : BA) (x17 x18 : Int) (w : World) : Prop :=
 ∀ X : Value → BA → Int → BA → BA → BA → Int → Bool → BA → Int → Int → WP, (∀ x0 x1 x6 x7 x10 x13 x14 x15 x16 x17 x18 w, bl3 R X x0 x1 x6 x7 x10 x13 x14 x15 x16 x17 x18 w → X x0 x1 x6 x7 x10 x13 x14 x15 x16 x17 x18 w) → X x0 x1 x6 x7 x10 x13 x14 x15 x16 x17 x18 w

noncomputable def al3 (R : EP) (Xb : Value → BA → Int → BA → BA → BA → Int → Bool → BA → Int → Int → WP) : AC :=
 (.leaf (sel [1,1,1,1,1,1,1,1,1,1,1,1,1,1,1,0,1,0,1,1,1,0,0,0,0] body))
def k8 (R : EP) (x0 : Value) (x1 : BA) (x6 : Int) (x7 x10 : BA) (x12 : Int) (x13 : BA) (x14 : Int) (x15 : Bool) (w : World) : Prop :=
 callE P i_parseLinkTitle #[.string x1, .int .i64 x12] (fun e w16 => ∃ (r15_0 : BA), ∃ (r15_1 : Int), ∃ (r15_2 : Int), ∃ (r15_3 : Bool), e = .returned (.tuple #[.string r15_0, .int .u8 r15_1, .int .i64 r15_2, .bool r15_3]) ∧
 br r15_3
 (l3 R x0 x1 x6 x7 x10 x13 x14 x15 r15_0 r15_1 r15_2 w16)
 (k7 R x0 x1 x6 x7 x10 x13 x14 x15 w16)) w

def bl2 (R : EP) (Xc : Value → BA → Int → BA → BA → Int → BA → Int → Bool → WP) (x0 : Value) (x1 : BA) (x6 : Int) (x7 x10 : BA) (x12 : Int) (x13 : BA) (x14 : Int) (x15 : Bool) (w : World) : Prop :=
 ((decide (x12 < (x1.size : Int))) = true → 0 ≤ x12 ∧ x12 < (x1.size : Int)) ∧
 (((decide (x12 < (x1.size : Int))) && (!((bt x1 x12) == 32))) = true → 0 ≤ x12 ∧ x12 < (x1.size : Int)) ∧
 br ((decide (x12 < (x1.size : Int))) && (((bt x1 x12) == 32) || ((bt x1 x12) == 9)))
 (Xc x0 x1 x6 x7 x10 (IntKind.i64.wrap (x12 + 1)) x13 x14 x15 w)
 (k8 R x0 x1 x6 x7 x10 x12 x13 x14 x15 w)
def l2 (R : EP) (x0 : Value) (x1 : BA) (x6 : Int) (x7 x10 : BA) (x12 : Int) (x13 : BA) (x14 : Int) (x15 : Bool) (w : World) : Prop :=
 ∀ X : Value → BA → Int → BA → BA → Int → BA → Int → Bool → WP, (∀ x0 x1 x6 x7 x10 x12 x13 x14 x15 w, bl2 R X x0 x1 x6 x7 x10 x12 x13 x14 x15 w → X x0 x1 x6 x7 x10 x12 x13 x14 x15 w) → X x0 x1 x6 x7 x10 x12 x13 x14 x15 w

noncomputable def al2 (R : EP) (Xc : Value → BA → Int → BA → BA → Int → BA → Int → Bool → WP) : AC :=
 (.leaf (sel [1,1,1,1,1,1,1,1,1,1,1,1,1,1,1,0,1,0,0,0,0] body))
def k6 (R : EP) (x0 : Value) (x1 : BA) (x6 : Int) (x7 x10 : BA) (x11 : Bool) (x12 : Int) (w : World) : Prop :=
 br x11
 (l2 R x0 x1 x6 x7 x10 x12 (ByteArray.mk #[]) 0 false w)
 (k7 R x0 x1 x6 x7 x10 (ByteArray.mk #[]) 0 false w)

def k5 (R : EP) (x0 : Value) (x1 : BA) (x6 : Int) (x7 x10 : BA) (x11 : Bool) (x12 : Int) (x100 : Bool) (w : World) : Prop :=
 br x100
 (br (decide (x12 < (x1.size : Int)))
 (k6 R x0 x1 x6 x7 x10 true (IntKind.i64.wrap (x12 + 1)) w)
 (k6 R x0 x1 x6 x7 x10 true x12 w))
 (k6 R x0 x1 x6 x7 x10 x11 x12 w)

def k4 (R : EP) (x0 : Value) (x1 : BA) (x6 : Int) (x7 x10 : BA) (x11 : Bool) (w : World) : Prop :=
 ((!(decide (x6 ≥ (x1.size : Int)))) = true → 0 ≤ x6 ∧ x6 < (x1.size : Int)) ∧
 k5 R x0 x1 x6 x7 x10 x11 x6 ((decide (x6 ≥ (x1.size : Int))) || ((bt x1 x6) == 10)) w

def bl1 (R : EP) (Xa : Value → BA → Int → BA → BA → Bool → WP) (x0 : Value) (x1 : BA) (x6 : Int) (x7 x10 : BA) (x11 : Bool) (w : World) : Prop :=
 ((decide (x6 < (x1.size : Int))) = true → 0 ≤ x6 ∧ x6 < (x1.size : Int)) ∧
 (((decide (x6 < (x1.size : Int))) && (!((bt x1 x6) == 32))) = true → 0 ≤ x6 ∧ x6 < (x1.size : Int)) ∧
 br ((decide (x6 < (x1.size : Int))) && (((bt x1 x6) == 32) || ((bt x1 x6) == 9)))
 (k3 R Xa x0 x1 x6 x7 x10 w)
 (k4 R x0 x1 x6 x7 x10 x11 w)
def l1 (R : EP) (x0 : Value) (x1 : BA) (x6 : Int) (x7 x10 : BA) (x11 : Bool) (w : World) : Prop :=
 ∀ X : Value → BA → Int → BA → BA → Bool → WP, (∀ x0 x1 x6 x7 x10 x11 w, bl1 R X x0 x1 x6 x7 x10 x11 w → X x0 x1 x6 x7 x10 x11 w) → X x0 x1 x6 x7 x10 x11 w

noncomputable def al1 (R : EP) (Xa : Value → BA → Int → BA → BA → Bool → WP) : AC :=
 (.seq (.leaf (sel [1,1,1,1,1,1,1,1,1,0,0,0,0] body)) (.mark (leaf [(0, .s .any), (1, .s .str), (6, .s (.int .i64)), (7, .s .str), (10, .s .str)] (k3 R Xa)) (.leaf (sel [1,1,1,1,1,1,1,1,1,0,0,0,1] body))))
def k1 (R : EP) (x0 : Value) (x1 : BA) (x6 : Int) (x7 : BA) (w : World) : Prop :=
 callE P i_skipSpace #[.string x1, .int .i64 (IntKind.i64.wrap (x6 + 1))] (fun e w8 => ∃ (r7 : Int), e = .returned (.int .i64 r7) ∧
 0 ≤ r7 ∧ r7 ≤ (x1.size : Int) ∧
 callE P i_parseLinkDest #[.string x1, .int .i64 r7] (fun e w10 => ∃ (r9_0 : BA), ∃ (r9_1 : Int), ∃ (r9_2 : Bool), e = .returned (.tuple #[.string r9_0, .int .i64 r9_1, .bool r9_2]) ∧
 br (!r9_2)
 (((!((x1.extract (Int.toNat r7) x1.size).toList == (ByteArray.mk #[]).toList)) = true → 0 ≤ (0 : Int) ∧ 0 < ((x1.extract (Int.toNat r7) x1.size).size : Int)) ∧
 k2 R x0 ((!((x1.extract (Int.toNat r7) x1.size).toList == (ByteArray.mk #[]).toList)) && ((bt (x1.extract (Int.toNat r7) x1.size) 0) == 60)) w10)
 (l1 R x0 x1 r9_1 x7 r9_0 false w10)) w8) w

end g_parseLinkRefDef
def g_parseLinkRefDef (R : EP) (x0 : Value) (x1 : BA) (w : World) : Prop :=
 callE P i_skipSpace #[.string x1, .int .i64 0] (fun e w2 => ∃ (r1 : Int), e = .returned (.int .i64 r1) ∧
 ∃ (r3 : OA), ∃ w4, (Instr.typeAssert x0 ty_buildState ty_P_parseState false).run P w2 = .ok (.pointer r3) w4 ∧
 callE P i_parseLinkLabel #[.pointer r3, .string x1, .int .i64 r1] (fun e w6 => ∃ (r5_0 : BA), ∃ (r5_1 : Int), ∃ (r5_2 : Bool), e = .returned (.tuple #[.string r5_0, .int .i64 r5_1, .bool r5_2]) ∧
 ((!((!r5_2) || (decide (r5_1 ≥ (x1.size : Int))))) = true → 0 ≤ r5_1 ∧ r5_1 < (x1.size : Int)) ∧
 br (((!r5_2) || (decide (r5_1 ≥ (x1.size : Int)))) || ((bt x1 r5_1) != 58))
 (R (.returned (.tuple #[.int .i64 0, .bool false])) w6)
 (g_parseLinkRefDef.k1 R x0 x1 r5_1 r5_0 w6)) w4) w

namespace g_parseLinkRefDef
noncomputable def ac (R : EP) : AC :=
 (.seq (.leaf (sel [0] body)) (.seq (.leaf (sel [1,0] body)) (.seq (.leaf (sel [1,1,0] body)) (.seq (.leaf (sel [1,1,1,0] body)) (.mark (leaf [(0, .s .any), (1, .s .str), (6, .s (.int .i64)), (7, .s .str)] (k1 R)) (.seq (.leaf (sel [1,1,1,1,0] body)) (.seq (.leaf (sel [1,1,1,1,1,0] body)) (.seq (.leaf (sel [1,1,1,1,1,1,0] body)) (.seq (.seq (.leaf (sel [1,1,1,1,1,1,1,0,0] body)) (.cond 60 (.seq (.seq (.leaf (sel [1,1,1,1,1,1,1,0,1,0,0,0] body)) (.mark (leaf [(0, .s .any), (67, .s .bool)] (k2 R)) (.leaf (sel [1,1,1,1,1,1,1,0,1,0,0,1] body)))) (.leaf (sel [1,1,1,1,1,1,1,0,1,0,1] body))) (.leaf (sel [1,1,1,1,1,1,1,0,1,1] body)))) (.seq (.leaf (sel [1,1,1,1,1,1,1,1,0] body)) (.seq (.block 0 (.loop (leaf [(0, .s .any), (1, .s .str), (6, .s (.int .i64)), (7, .s .str), (10, .s .str), (11, .s .bool)] (l1 R)) (sel [1,1,1,1,1,1,1,1,1,0,0,0] body))) (.mark (leaf [(0, .s .any), (1, .s .str), (6, .s (.int .i64)), (7, .s .str), (10, .s .str), (11, .s .bool)] (k4 R)) (.seq (.leaf (sel [1,1,1,1,1,1,1,1,1,1,0] body)) (.seq (.seq (.leaf (sel [1,1,1,1,1,1,1,1,1,1,1,0,0] body)) (.mark (leaf [(0, .s .any), (1, .s .str), (6, .s (.int .i64)), (7, .s .str), (10, .s .str), (11, .s .bool), (12, .s (.int .i64)), (100, .s .bool)] (k5 R)) (.leaf (sel [1,1,1,1,1,1,1,1,1,1,1,0,1] body)))) (.mark (leaf [(0, .s .any), (1, .s .str), (6, .s (.int .i64)), (7, .s .str), (10, .s .str), (11, .s .bool), (12, .s (.int .i64))] (k6 R)) (.seq (.leaf (sel [1,1,1,1,1,1,1,1,1,1,1,1,0] body)) (.seq (.leaf (sel [1,1,1,1,1,1,1,1,1,1,1,1,1,0] body)) (.seq (.leaf (sel [1,1,1,1,1,1,1,1,1,1,1,1,1,1,0] body)) (.seq (.seq (.leaf (sel [1,1,1,1,1,1,1,1,1,1,1,1,1,1,1,0,0] body)) (.cond 107 (.seq (.block 2 (.loop (leaf [(0, .s .any), (1, .s .str), (6, .s (.int .i64)), (7, .s .str), (10, .s .str), (12, .s (.int .i64)), (13, .s .str), (14, .s (.int .u8)), (15, .s .bool)] (l2 R)) (sel [1,1,1,1,1,1,1,1,1,1,1,1,1,1,1,0,1,0,0,0,0] body))) (.mark (leaf [(0, .s .any), (1, .s .str), (6, .s (.int .i64)), (7, .s .str), (10, .s .str), (12, .s (.int .i64)), (13, .s .str), (14, .s (.int .u8)), (15, .s .bool)] (k8 R)) (.seq (.leaf (sel [1,1,1,1,1,1,1,1,1,1,1,1,1,1,1,0,1,0,1,0] body)) (.seq (.leaf (sel [1,1,1,1,1,1,1,1,1,1,1,1,1,1,1,0,1,0,1,1,0] body)) (.cond 134 (.seq (.block 4 (.loop (leaf [(0, .s .any), (1, .s .str), (6, .s (.int .i64)), (7, .s .str), (10, .s .str), (13, .s .str), (14, .s (.int .u8)), (15, .s .bool), (16, .s .str), (17, .s (.int .u8)), (18, .s (.int .i64))] (l3 R)) (sel [1,1,1,1,1,1,1,1,1,1,1,1,1,1,1,0,1,0,1,1,1,0,0,0,0] body))) (.mark (leaf [(0, .s .any), (1, .s .str), (6, .s (.int .i64)), (7, .s .str), (10, .s .str), (13, .s .str), (14, .s (.int .u8)), (15, .s .bool), (16, .s .str), (17, .s (.int .u8)), (18, .s (.int .i64))] (k11 R)) (.seq (.leaf (sel [1,1,1,1,1,1,1,1,1,1,1,1,1,1,1,0,1,0,1,1,1,0,1,0] body)) (.mark (leaf [(0, .s .any), (1, .s .str), (6, .s (.int .i64)), (7, .s .str), (10, .s .str), (13, .s .str), (14, .s (.int .u8)), (15, .s .bool), (16, .s .str), (17, .s (.int .u8)), (18, .s (.int .i64)), (162, .s .bool)] (k12 R)) (.cond 162 (.seq (.leaf (sel [1,1,1,1,1,1,1,1,1,1,1,1,1,1,1,0,1,0,1,1,1,0,1,1,0,0] body)) (.seq (.leaf (sel [1,1,1,1,1,1,1,1,1,1,1,1,1,1,1,0,1,0,1,1,1,0,1,1,0,1,0] body)) (.mark (leaf [(0, .s .any), (1, .s .str), (6, .s (.int .i64)), (7, .s .str), (10, .s .str), (15, .s .bool), (16, .s .str), (17, .s (.int .u8))] (k13 R)) (.leaf (sel [1,1,1,1,1,1,1,1,1,1,1,1,1,1,1,0,1,0,1,1,1,0,1,1,0,1,1] body))))) (.leaf (sel [1,1,1,1,1,1,1,1,1,1,1,1,1,1,1,0,1,0,1,1,1,0,1,1,1] body))))))) (.leaf (sel [1,1,1,1,1,1,1,1,1,1,1,1,1,1,1,0,1,0,1,1,1,1] body))))))) (.leaf (sel [1,1,1,1,1,1,1,1,1,1,1,1,1,1,1,0,1,1] body)))) (.mark (leaf [(0, .s .any), (1, .s .str), (6, .s (.int .i64)), (7, .s .str), (10, .s .str), (13, .s .str), (14, .s (.int .u8)), (15, .s .bool)] (k7 R)) (.seq (.leaf (sel [1,1,1,1,1,1,1,1,1,1,1,1,1,1,1,1,0] body)) (.mark (leaf [(0, .s .any), (1, .s .str), (6, .s (.int .i64)), (7, .s .str), (10, .s .str), (13, .s .str), (14, .s (.int .u8)), (15, .s .bool)] (k9 R)) (.seq (.leaf (sel [1,1,1,1,1,1,1,1,1,1,1,1,1,1,1,1,1,0] body)) (.mark (leaf [(0, .s .any), (6, .s (.int .i64)), (7, .s .str), (10, .s .str), (13, .s .str), (14, .s (.int .u8)), (15, .s .bool)] (k10 R)) (.leaf (sel [1,1,1,1,1,1,1,1,1,1,1,1,1,1,1,1,1,1] body))))))))))))))))))))))))))
theorem good (R : EP) : Good P 200 (ac R) (QF P [.tmp 4, .tmp 5] R) :=
 ⟨trivial, ⟨trivial, ⟨trivial, ⟨trivial, ⟨⟨trivial, ⟨trivial, ⟨trivial, ⟨⟨trivial, ⟨⟨⟨trivial, ⟨trivial, cutZ⟩⟩, trivial⟩, trivial⟩⟩, ⟨trivial, ⟨(loopG (al1 R) (bl1 R) (fun _ => by kernel_rfl) (fun Xa => ⟨trivial, ⟨trivial, cutZ⟩⟩) (fun Xa => by intro x0 x1 x6 x7 x10 x11 ρ w; kernel_rfl) (fun X h _ _ _ _ _ _ _ g => g X h)), ⟨⟨trivial, ⟨⟨trivial, ⟨trivial, cutZ⟩⟩, ⟨⟨trivial, ⟨trivial, ⟨trivial, ⟨⟨trivial, ⟨⟨(loopG (al2 R) (bl2 R) (fun _ => by kernel_rfl) (fun Xc => trivial) (fun Xc => by intro x0 x1 x6 x7 x10 x12 x13 x14 x15 ρ w; kernel_rfl) (fun X h _ _ _ _ _ _ _ _ _ _ g => g X h)), ⟨⟨trivial, ⟨trivial, ⟨⟨(loopG (al3 R) (bl3 R) (fun _ => by kernel_rfl) (fun Xb => trivial) (fun Xb => by intro x0 x1 x6 x7 x10 x13 x14 x15 x16 x17 x18 ρ w; kernel_rfl) (fun X h _ _ _ _ _ _ _ _ _ _ _ _ g => g X h)), ⟨⟨trivial, ⟨⟨⟨trivial, ⟨trivial, ⟨trivial, cutZ⟩⟩⟩, trivial⟩, cutZ⟩⟩, cutZ⟩⟩, trivial⟩⟩⟩, cutZ⟩⟩, trivial⟩⟩, ⟨⟨trivial, ⟨⟨trivial, ⟨trivial, cutZ⟩⟩, cutZ⟩⟩, cutZ⟩⟩⟩⟩⟩, cutZ⟩⟩⟩, cutZ⟩⟩⟩⟩⟩⟩⟩, cutZ⟩⟩⟩⟩⟩
theorem eq (R : EP) (x0 : Value) (x1 : BA) (w : World) : g_parseLinkRefDef R x0 x1 w = vcA P 200 (ac R) (QF P [.tmp 4, .tmp 5] R) (fr0 [x0, .string x1]) w := by kernel_rfl
theorem sound {R : EP} {x0 : Value} {x1 : ByteArray} {w : World} (h : g_parseLinkRefDef R x0 x1 w) : callE P i_parseLinkRefDef #[x0, .string x1] R w :=
 callE_fz (c := body) Tryz.func388 Tryz.call388 (good R) (eq R x0 x1 w) h
end g_parseLinkRefDef
namespace g_skipSpace
noncomputable def body : Code := bodyOf Tryz.f154
def bl1 (R : EP) (Xa : BA → Int → WP) (x0 : BA) (x1 : Int) (w : World) : Prop :=
 ((decide (x1 < (x0.size : Int))) = true → 0 ≤ x1 ∧ x1 < (x0.size : Int)) ∧
 (((decide (x1 < (x0.size : Int))) && (!((bt x0 x1) == 32))) = true → 0 ≤ x1 ∧ x1 < (x0.size : Int)) ∧
 (((decide (x1 < (x0.size : Int))) && (!(((bt x0 x1) == 32) || ((bt x0 x1) == 9)))) = true → 0 ≤ x1 ∧ x1 < (x0.size : Int)) ∧
 br ((decide (x1 < (x0.size : Int))) && ((((bt x0 x1) == 32) || ((bt x0 x1) == 9)) || ((bt x0 x1) == 10)))
 (Xa x0 (IntKind.i64.wrap (x1 + 1)) w)
 (R (.returned (.int .i64 x1)) w)
def l1 (R : EP) (x0 : BA) (x1 : Int) (w : World) : Prop :=
 ∀ X : BA → Int → WP, (∀ x0 x1 w, bl1 R X x0 x1 w → X x0 x1 w) → X x0 x1 w

noncomputable def al1 (R : EP) (Xa : BA → Int → WP) : AC :=
 (.leaf (sel [1,0,0,0] body))
end g_skipSpace
def g_skipSpace (R : EP) (x0 : BA) (x1 : Int) (w : World) : Prop :=
 g_skipSpace.l1 R x0 x1 w

namespace g_skipSpace
noncomputable def ac (R : EP) : AC :=
 (.seq (.leaf (sel [0] body)) (.seq (.block 0 (.loop (leaf [(0, .s .str), (1, .s (.int .i64))] (l1 R)) (sel [1,0,0,0] body))) (.leaf (sel [1,1] body))))
theorem good (R : EP) : Good P 30 (ac R) (QF P [.tmp 4] R) :=
 ⟨trivial, ⟨(loopG (al1 R) (bl1 R) (fun _ => by kernel_rfl) (fun Xa => trivial) (fun Xa => by intro x0 x1 ρ w; kernel_rfl) (fun X h _ _ _ g => g X h)), trivial⟩⟩
theorem eq (R : EP) (x0 : BA) (x1 : Int) (w : World) : g_skipSpace R x0 x1 w = vcA P 30 (ac R) (QF P [.tmp 4] R) (fr0 [.string x0, .int .i64 x1]) w := by kernel_rfl
theorem sound {R : EP} {x0 : ByteArray} {x1 : Int} {w : World} (h : g_skipSpace R x0 x1 w) : callE P i_skipSpace #[.string x0, .int .i64 x1] R w :=
 callE_fz (c := body) Tryz.func154 Tryz.call154 (good R) (eq R x0 x1 w) h
end g_skipSpace
namespace g_strings_Join
noncomputable def body : Code := bodyOf Tryz.f221
def k3 (R : EP) (Xa : OA → Nat → Nat → BA → Int → OA → Nat → Nat → Int → Int → WP) (x0q : OA) (x0n x0c : Nat) (x1 : BA) (x5 : Int) (x7 : BA) (x39q : OA) (x39n x39c : Nat) (x40 x41 : Int) (w : World) : Prop :=
 Xa x0q x0n x0c x1 (IntKind.i64.wrap (x5 + (x7.size : Int))) x39q x39n x39c x40 (IntKind.i64.wrap (x41 + 1)) w

def bl2 (R : EP) (Xb : BA → Nat → OA → Nat → Nat → Int → Int → WP) (x1 : BA) (x8 : Nat) (x63q : OA) (x63n x63c : Nat) (x64 x65 : Int) (w : World) : Prop :=
 br (decide (x65 < x64))
 (0 ≤ x65 ∧ x65 < (x63n : Int) ∧
 nilP x63q fun a15 =>
 ∃ (v16 : BA), w.cell? (a15.add (Int.toNat x65 * 1)) = some (.string v16) ∧
 callE P i_strings_Builder_WriteString #[.pointer (some ⟨x8, 0, none⟩), .string x1] (fun e w18 => ∃ (r17_0 : Int), ∃ (r17_1 : Value), e = .returned (.tuple #[.int .i64 r17_0, r17_1]) ∧
 callE P i_strings_Builder_WriteString #[.pointer (some ⟨x8, 0, none⟩), .string v16] (fun e w20 => ∃ (r19_0 : Int), ∃ (r19_1 : Value), e = .returned (.tuple #[.int .i64 r19_0, r19_1]) ∧
 Xb x1 x8 x63q x63n x63c x64 (IntKind.i64.wrap (x65 + 1)) w20) w18) w)
 (callE P i_strings_Builder_String #[.pointer (some ⟨x8, 0, none⟩)] (fun e w22 => ∃ (r21 : BA), e = .returned (.string r21) ∧
 R (.returned (.string r21)) w22) w)
def l2 (R : EP) (x1 : BA) (x8 : Nat) (x63q : OA) (x63n x63c : Nat) (x64 x65 : Int) (w : World) : Prop :=
 ∀ X : BA → Nat → OA → Nat → Nat → Int → Int → WP, (∀ x1 x8 x63q x63n x63c x64 x65 w, bl2 R X x1 x8 x63q x63n x63c x64 x65 w → X x1 x8 x63q x63n x63c x64 x65 w) → X x1 x8 x63q x63n x63c x64 x65 w

noncomputable def al2 (R : EP) (Xb : BA → Nat → OA → Nat → Nat → Int → Int → WP) : AC :=
 (.leaf (sel [1,1,1,1,1,1,1,1,0,1,0,0] body))
def bl1 (R : EP) (Xa : OA → Nat → Nat → BA → Int → OA → Nat → Nat → Int → Int → WP) (x0q : OA) (x0n x0c : Nat) (x1 : BA) (x5 : Int) (x39q : OA) (x39n x39c : Nat) (x40 x41 : Int) (w : World) : Prop :=
 br (decide (x41 < x40))
 (0 ≤ x41 ∧ x41 < (x39n : Int) ∧
 nilP x39q fun a3 =>
 ∃ (v4 : BA), w.cell? (a3.add (Int.toNat x41 * 1)) = some (.string v4) ∧
 br (decide ((v4.size : Int) > (IntKind.i64.wrap (9223372036854775807 - x5))))
 (False)
 (k3 R Xa x0q x0n x0c x1 x5 v4 x39q x39n x39c x40 x41 w))
 (box w #[.pointer none, .slice none 0 0] ty_strings_Builder fun b5 w6 =>
 callE P i_strings_Builder_Grow #[.pointer (some ⟨b5, 0, none⟩), .int .i64 x5] (fun e w8 => e = .returned (.tuple #[]) ∧
 0 ≤ (0 : Int) ∧ 0 < (x0n : Int) ∧
 nilP x0q fun a9 =>
 ∃ (v10 : BA), w8.cell? (a9.add (Int.toNat 0 * 1)) = some (.string v10) ∧
 callE P i_strings_Builder_WriteString #[.pointer (some ⟨b5, 0, none⟩), .string v10] (fun e w12 => ∃ (r11_0 : Int), ∃ (r11_1 : Value), e = .returned (.tuple #[.int .i64 r11_0, r11_1]) ∧
 ∃ (r13q : OA), ∃ (r13n : Nat), ∃ (r13c : Nat), ∃ w14, (Instr.sliceAt ty_S_string (.slice x0q x0n x0c) (some (.int .i64 1)) none none).run P w12 = .ok (.slice r13q r13n r13c) w14 ∧
 l2 R x1 b5 r13q r13n r13c (r13n : Int) 0 w14) w8) w6)
def l1 (R : EP) (x0q : OA) (x0n x0c : Nat) (x1 : BA) (x5 : Int) (x39q : OA) (x39n x39c : Nat) (x40 x41 : Int) (w : World) : Prop :=
 ∀ X : OA → Nat → Nat → BA → Int → OA → Nat → Nat → Int → Int → WP, (∀ x0q x0n x0c x1 x5 x39q x39n x39c x40 x41 w, bl1 R X x0q x0n x0c x1 x5 x39q x39n x39c x40 x41 w → X x0q x0n x0c x1 x5 x39q x39n x39c x40 x41 w) → X x0q x0n x0c x1 x5 x39q x39n x39c x40 x41 w

noncomputable def al1 (R : EP) (Xa : OA → Nat → Nat → BA → Int → OA → Nat → Nat → Int → Int → WP) : AC :=
 (.seq (.leaf (sel [1,1,1,1,0,1,0,0,0] body)) (.seq (.leaf (sel [1,1,1,1,0,1,0,0,1,0] body)) (.seq (.block 2 (.seq (.leaf (sel [1,1,1,1,0,1,0,0,1,1,0,0,0] body)) (.seq (.leaf (sel [1,1,1,1,0,1,0,0,1,1,0,0,1,0] body)) (.mark (leaf [(0, .s .slice), (1, .s .str), (5, .s (.int .i64)), (7, .s .str), (39, .s .slice), (40, .s (.int .i64)), (41, .s (.int .i64))] (k3 R Xa)) (.leaf (sel [1,1,1,1,0,1,0,0,1,1,0,0,1,1] body)))))) (.leaf (sel [1,1,1,1,0,1,0,0,1,1,1] body)))))
def k2 (R : EP) (x0q : OA) (x0n x0c : Nat) (x1 : BA) (x5 : Int) (w : World) : Prop :=
 l1 R x0q x0n x0c x1 x5 x0q x0n x0c (x0n : Int) 0 w

def k1 (R : EP) (x0q : OA) (x0n x0c : Nat) (x1 : BA) (x5 : Int) (w : World) : Prop :=
 k2 R x0q x0n x0c x1 (IntKind.i64.wrap (x5 + (IntKind.i64.wrap ((x1.size : Int) * (IntKind.i64.wrap ((x0n : Int) - 1)))))) w

end g_strings_Join
def g_strings_Join (R : EP) (x0q : OA) (x0n x0c : Nat) (x1 : BA) (w : World) : Prop :=
 br ((x0n : Int) == 0)
 (R (.returned (.string (ByteArray.mk #[]))) w)
 (br ((x0n : Int) == 1)
 (0 ≤ (0 : Int) ∧ 0 < (x0n : Int) ∧
 nilP x0q fun a1 =>
 ∃ (v2 : BA), w.cell? (a1.add (Int.toNat 0 * 1)) = some (.string v2) ∧
 R (.returned (.string v2)) w)
 (br (decide ((x1.size : Int) > 0))
 ((IntKind.i64.wrap ((x0n : Int) - 1)) ≠ 0 ∧
 br (decide ((x1.size : Int) ≥ (IntKind.i64.wrap (Int.tdiv 9223372036854775807 (IntKind.i64.wrap ((x0n : Int) - 1))))))
 (False)
 (g_strings_Join.k1 R x0q x0n x0c x1 0 w))
 (g_strings_Join.k2 R x0q x0n x0c x1 0 w)))

namespace g_strings_Join
noncomputable def ac (R : EP) : AC :=
 (.seq (.leaf (sel [0] body)) (.seq (.leaf (sel [1,0] body)) (.seq (.leaf (sel [1,1,0] body)) (.seq (.seq (.leaf (sel [1,1,1,0,0] body)) (.cond 22 (.seq (.leaf (sel [1,1,1,0,1,0,0] body)) (.mark (leaf [(0, .s .slice), (1, .s .str), (5, .s (.int .i64))] (k1 R)) (.leaf (sel [1,1,1,0,1,0,1] body)))) (.leaf (sel [1,1,1,0,1,1] body)))) (.mark (leaf [(0, .s .slice), (1, .s .str), (5, .s (.int .i64))] (k2 R)) (.seq (.seq (.leaf (sel [1,1,1,1,0,0] body)) (.block 1 (.loop (leaf [(0, .s .slice), (1, .s .str), (5, .s (.int .i64)), (39, .s .slice), (40, .s (.int .i64)), (41, .s (.int .i64))] (l1 R)) (sel [1,1,1,1,0,1,0,0] body)))) (.seq (.leaf (sel [1,1,1,1,1,0] body)) (.seq (.leaf (sel [1,1,1,1,1,1,0] body)) (.seq (.leaf (sel [1,1,1,1,1,1,1,0] body)) (.seq (.seq (.leaf (sel [1,1,1,1,1,1,1,1,0,0] body)) (.block 3 (.loop (leaf [(1, .s .str), (8, .s .loc), (63, .s .slice), (64, .s (.int .i64)), (65, .s (.int .i64))] (l2 R)) (sel [1,1,1,1,1,1,1,1,0,1,0,0] body)))) (.leaf (sel [1,1,1,1,1,1,1,1,1] body))))))))))))
theorem good (R : EP) : Good P 75 (ac R) (QF P [.tmp 4] R) :=
 ⟨trivial, ⟨trivial, ⟨trivial, ⟨⟨trivial, ⟨⟨trivial, ⟨trivial, cutZ⟩⟩, trivial⟩⟩, ⟨⟨⟨trivial, (loopG (al1 R) (bl1 R) (fun _ => by kernel_rfl) (fun Xa => ⟨trivial, ⟨trivial, ⟨⟨trivial, ⟨trivial, ⟨trivial, cutZ⟩⟩⟩, trivial⟩⟩⟩) (fun Xa => by intro x0q x0n x0c x1 x5 x39q x39n x39c x40 x41 ρ w; kernel_rfl) (fun X h _ _ _ _ _ _ _ _ _ _ _ g => g X h))⟩, ⟨trivial, ⟨trivial, ⟨trivial, ⟨⟨trivial, (loopG (al2 R) (bl2 R) (fun _ => by kernel_rfl) (fun Xb => trivial) (fun Xb => by intro x1 x8 x63q x63n x63c x64 x65 ρ w; kernel_rfl) (fun X h _ _ _ _ _ _ _ _ g => g X h))⟩, trivial⟩⟩⟩⟩⟩, cutZ⟩⟩⟩⟩⟩
theorem eq (R : EP) (x0q : OA) (x0n x0c : Nat) (x1 : BA) (w : World) : g_strings_Join R x0q x0n x0c x1 w = vcA P 75 (ac R) (QF P [.tmp 4] R) (fr0 [.slice x0q x0n x0c, .string x1]) w := by kernel_rfl
theorem sound {R : EP} {x0q : OA} {x0n x0c : Nat} {x1 : ByteArray} {w : World} (h : g_strings_Join R x0q x0n x0c x1 w) : callE P i_strings_Join #[.slice x0q x0n x0c, .string x1] R w :=
 callE_fz (c := body) Tryz.func221 Tryz.call221 (good R) (eq R x0q x0n x0c x1 w) h
end g_strings_Join
end Go.Proofs.YtgbgadkldalkbaaGreatDoor

set_option linter.unusedVariables false
namespace Go.Proofs.YtgbgadkldalkbaaGreatDoor
open Go.Proofs Go.IntWalk
variable {σ : Out} {w : World} {L L' : List Chunk} {R : Ending → World → Prop}

def isSTN (c : UInt8) : Bool := c == 32 || c == 9 || c == 10
def pastSTN (l : List UInt8) (i : Nat) : Nat := l.length - ((l.drop i).dropWhile isSTN).length
theorem skipSp_ok {l : List UInt8} {i : Nat} (hl : l.length < 4611686018427387904) (hi : i ≤ l.length) (hR : R (.returned (.int .i64 (pastSTN l i))) w) : callE P i_skipSpace #[.string (bs l), .int .i64 i] R w := by
 refine g_skipSpace.sound ?_
 intro X hX
 refine scanF (l := l) (X := fun i => X (bs l) (i : Int) w) (p := isSTN) (fun i hi hp hx => hX _ _ _ ?_) i hi (fun j hj hf he => hX _ _ _ ?_)
 ·refine ⟨fun _ => ⟨by omega, by simp; omega⟩, fun _ => ⟨by omega, by simp; omega⟩, fun _ => ⟨by omega, by simp; omega⟩, br_true ?_ ?_⟩
  ·rw [bt_beq hi 32 32 rfl, bt_beq hi 9 9 rfl, bt_beq hi 10 10 rfl]
   simpa [hi, isSTN] using hp
  ·rw [i64_inc (by omega)]; exact hx
 ·have hlt : ∀ {b : Bool}, (decide ((j : Int) < ((bs l).size : Int)) && b) = true → j < l.length := by
   intro b h
   simp only [Bool.and_eq_true, decide_eq_true_eq, bs_size] at h
   omega
  refine ⟨fun h => ⟨by omega, by simpa using h⟩, fun h => ⟨by omega, by have := hlt h; simp; omega⟩, fun h => ⟨by omega, by have := hlt h; simp; omega⟩, br_false ?_ ?_⟩
  ·by_cases hi' : j < l.length
   ·rw [bt_beq hi' 32 32 rfl, bt_beq hi' 9 9 rfl, bt_beq hi' 10 10 rfl]
    simpa [hi', isSTN] using hf hi'
   ·simp [hi']
  ·have : pastSTN l i = j := by
    rw [pastSTN, ← he, List.length_drop]; omega
   rw [← this]; exact hR

theorem ta_yes1 {t xt : TypeId} {v : Value} (hu : ∀ ms, P.underlying t ≠ some (.interface ms)) {d : TypeDesc} (hd : P.underlying t = some d) (w : World) :
 (Instr.typeAssert (.iface t v) xt t false).run P w = .ok v w := by
 cases d <;> first | (exact absurd hd (hu _)) | simp [Instr.typeAssert, run_underlying hd]
theorem und_ps : P.underlying ty_P_parseState = some (.pointer ty_parseState) := by kernel_rfl
theorem ta_ps (q : Option Addr) (w : World) : (Instr.typeAssert (.iface ty_P_parseState (.pointer q)) ty_buildState ty_P_parseState false).run P w = .ok (.pointer q) w :=
 ta_yes1 (by rw [und_ps]; intro ms h; cases h) und_ps w

theorem parseLinkRefDef_no {q : Option Addr} {l : List UInt8} (hl : l.length < 4611686018427387904) (hb : (l.dropWhile isSTN).head? ≠ some 91) (hR : R (.returned (.tuple #[.int .i64 0, .bool false])) w) :
 callE P i_parseLinkRefDef #[.iface ty_P_parseState (.pointer q), .string (bs l)] R w := by
 refine g_parseLinkRefDef.sound ?_
 refine skipSp_ok (i := 0) hl (Nat.zero_le _) ⟨_, rfl, q, w, ta_ps q w, ?_⟩
 generalize hj : pastSTN l 0 = j
 have hle : (l.dropWhile isSTN).length ≤ l.length := (List.dropWhile_sublist isSTN).length_le
 have hjd : j + (l.dropWhile isSTN).length = l.length := by rw [← hj, pastSTN, List.drop_zero]; omega
 have hsuf : l.drop j = l.dropWhile isSTN := by
  obtain ⟨pre, hp⟩ := List.dropWhile_suffix isSTN (l := l)
  have hpl : pre.length = j := by have := congrArg List.length hp; simp at this; omega
  exact (congrArg (List.drop j) hp).symm.trans (by rw [← hpl, List.drop_left])
 refine g_parseLinkLabel.sound ?_
 have hlt : (!(decide ((j : Int) ≥ ((bs l).size : Int)))) = true → j < l.length := by
  intro h; simp at h; exact h
 refine ⟨fun h => ⟨by omega, by have := hlt h; simp; omega⟩, br_true ?_ ⟨_, _, _, rfl, ?_⟩⟩
 ·by_cases hjl : j < l.length
  ·have : l[j] ≠ 91 := by
    intro h91
    apply hb
    rw [← hsuf, List.drop_eq_getElem_cons hjl, h91]
    rfl
   rw [bne, bt_beq hjl 91 91 rfl]
   simp [this]
  ·simp; omega
 ·refine ⟨fun h => by simp at h, br_true rfl hR⟩

def NoRef (l : List UInt8) : Prop := ∀ (R : Ending → World → Prop) (w : World) (q : Option Addr), R (.returned (.tuple #[.int .i64 0, .bool false])) w → callE P i_parseLinkRefDef #[.iface ty_P_parseState (.pointer q), .string (bs l)] R w
theorem noRef_of {l : List UInt8} (hl : l.length < 4611686018427387904) (hb : (l.dropWhile isSTN).head? ≠ some 91) : NoRef l := fun _ _ _ hR => parseLinkRefDef_no hl hb hR
theorem join_one {q : Option Addr} {c : Nat} {s sep : List UInt8} {TM : List Chunk} (h : Sat σ w (TM ++ L)) (hS : Sl 1 ty_string q 1 c [.string (bs s)] TM)
 (hR : ∀ w, Sat σ w (TM ++ L) → R (.returned (.string (bs s))) w) : callE P i_strings_Join #[.slice q 1 c, .string (bs sep)] R w := by
 refine g_strings_Join.sound ?_
 obtain ⟨_, _, hz | ⟨tb, sp, rfl, rfl, _⟩⟩ := hS
 ·omega
 ·refine br_false rfl (br_true rfl ⟨by decide, by decide, nilP_some ?_⟩)
  exact ⟨_, Sat.ld h (.head _) rfl, hR _ h⟩
end Go.Proofs.YtgbgadkldalkbaaGreatDoor


set_option linter.unusedVariables false
namespace Go.Proofs.YtgbgadkldalkbaaGreatDoor
open Go.Proofs Go.IntWalk
variable {σ : Out} {w : World} {L L' : List Chunk} {R : Ending → World → Prop}

theorem pos_ok {b : Nat} {p : PS} {l : List OB} {o : OB} {M : List Chunk} (h : Sat σ w (p.at b :: M ++ L)) (hs : Stk p (l ++ [o]) M)
 (hR : ∀ w, Sat σ w (p.at b :: M ++ L) → R (.returned (.agg #[.int .i64 o.s, .int .i64 o.e])) w) : callE P i_parseState_pos #[.pointer (some ⟨b, 0, none⟩)] R w := by
 obtain ⟨sb, sp, hq, rfl, hsp⟩ := hs.split (by simp)
 have hn := hs.2.1
 have hlt := hs.2.2
 rw [List.length_append, List.length_singleton] at hn hlt
 refine g_parseState_pos.sound ?_
 refine Sat.bx h fun b1 w h => ?_
 repeat (first | refine nilP_some ?_ | refine h.tk fun w h => ?_ | refine ⟨_, h.ldA, ?_⟩ | refine ⟨_, _, _, h.ldA, ?_⟩)
 rw [hn, len_dec (by omega)]
 refine ⟨by omega, by omega, ?_⟩
 rw [hq]
 refine nilP_some ?_
 simp only [Addr.add_lit, Nat.zero_add, Int.toNat_natCast, Nat.add_zero]
 refine ⟨_, Sat.ld h (by first | assumption | (repeat (first | exact .head _ | apply List.Mem.tail))) (stk_get (f := 2) (by decide) (last_get o)), ?_⟩
 refine ⟨_, Sat.ld h (by first | assumption | (repeat (first | exact .head _ | apply List.Mem.tail))) (stk_get (f := 3) (by decide) (last_get o)), ?_⟩
 repeat (first | refine nilP_some ?_ | refine h.tk fun w h => ?_ | refine ⟨_, h.ldA, ?_⟩ | refine ⟨_, _, _, h.ldA, ?_⟩ | refine h.stA 0 fun w h => ?_ | refine h.stA 1 fun w h => ?_ | refine h.stA 2 fun w h => ?_ | refine h.stA 3 fun w h => ?_ | refine h.stA 4 fun w h => ?_ | refine h.stA 5 fun w h => ?_ | refine h.stA 6 fun w h => ?_ | refine h.bx fun b0 w h => ?_)
 exact hR _ h.tail

noncomputable def rowText : Row P ty_S_P_Text ty_P_Text 1 8 :=
 ⟨(P.info? ty_P_Text).getD default, ((P.info? ty_P_Text).bind (·.zero)).getD default, by kernel_rfl, by kernel_rfl, by kernel_rfl, by kernel_rfl, by kernel_rfl, by kernel_rfl, by decide⟩
def Txts (p : PS) (ts : List Nat) (M : List Chunk) : Prop := Sl 1 ty_P_Text p.tq p.tn p.tc (ts.map fun t => .pointer (some ⟨t, 0, none⟩)) M ∧ p.tn = ts.length ∧ ts.length < 1048576
def textC (t : Nat) (s e : Nat) (q : Option Addr) (n c : Nat) (raw : List UInt8) : Chunk := (t, cel [.int .i64 s, .int .i64 e, .slice q n c, .string (bs raw)] ty_Text)
theorem newText_ok {b s e : Nat} {p : PS} {ts : List Nat} {TM : List Chunk} {raw : List UInt8} (h : Sat σ w (p.at b :: TM ++ L)) (ht : Txts p ts TM) (hlen : ts.length < 1048575)
 (hR : ∀ w p' TM' t, p' = { p with tq := p'.tq, tn := ts.length + 1, tc := p'.tc } → Txts p' (ts ++ [t]) TM' → Sat σ w (p'.at b :: TM' ++ (textC t s e none 0 0 raw :: L)) →
  R (.returned (.pointer (some ⟨t, 0, none⟩))) w) :
 callE P i_parseState_newText #[.pointer (some ⟨b, 0, none⟩), .agg #[.int .i64 s, .int .i64 e], .string (bs raw)] R w := by
 have hn := ht.2.1
 refine g_parseState_newText.sound ?_
 refine Sat.bx h fun b1 w h => ?_
 repeat (first | refine nilP_some ?_ | refine h.tk fun w h => ?_ | refine ⟨_, h.ldA, ?_⟩ | refine ⟨_, _, _, h.ldA, ?_⟩)
 refine Sat.bx h fun t w h => ?_
 repeat (first | refine nilP_some ?_ | refine h.tk fun w h => ?_ | refine ⟨_, h.ldA, ?_⟩ | refine ⟨_, _, _, h.ldA, ?_⟩)
 have h : Sat σ w (textC t s e none 0 0 raw :: (b1, cel [.int .i64 s, .int .i64 e] ty_Position) :: (p.at b :: TM ++ L)) := h
 have h : Sat σ w (TM ++ (p.at b :: textC t s e none 0 0 raw :: L)) := h.less [(b1, cel [.int .i64 s, .int .i64 e] ty_Position)]
 refine Sat.app1 rowText ht.1 h (v := .pointer (some ⟨t, 0, none⟩)) rfl (by simp [Value.cells, Value.oneCell']) (by kernel_rfl) (by omega) (by omega) (by decide) fun q' c' w TM' hS' h => ?_
 have h : Sat σ w (p.at b :: TM' ++ (textC t s e none 0 0 raw :: L)) := h.re
 rw [hn] at hS' ⊢
 let p' : PS := { p with tq := q', tn := ts.length + 1, tc := c' }
 repeat (first | refine nilP_some ?_ | refine h.tk fun w h => ?_ | refine ⟨_, h.ldA, ?_⟩ | refine ⟨_, _, _, h.ldA, ?_⟩ | refine h.stA 0 fun w h => ?_ | refine h.stA 1 fun w h => ?_ | refine h.stA 2 fun w h => ?_ | refine h.stA 3 fun w h => ?_ | refine h.stA 4 fun w h => ?_ | refine h.stA 5 fun w h => ?_ | refine h.stA 6 fun w h => ?_ | refine h.bx fun b0 w h => ?_)
 refine hR _ p' TM' t rfl ⟨?_, by simp [p'], by simp; omega⟩ h
 rw [List.map_append]
 exact hS'
end Go.Proofs.YtgbgadkldalkbaaGreatDoor


set_option linter.unusedVariables false
namespace Go.Proofs.YtgbgadkldalkbaaGreatDoor
open Go.Proofs Go.IntWalk
variable {σ : Out} {w : World} {L L' : List Chunk} {R : Ending → World → Prop}

theorem und_table : P.underlying ty_P_tableBuilder = some (.pointer ty_tableBuilder) := by kernel_rfl
def paraC (nb s e t : Nat) : Chunk := (nb, cel [.int .i64 s, .int .i64 e, .pointer (some ⟨t, 0, none⟩)] ty_Paragraph)
theorem Stk.of {p p' : PS} {l : List OB} {M : List Chunk} (h : Stk p l M) (h1 : p'.stq = p.stq) (h2 : p'.stn = p.stn) (h3 : p'.stc = p.stc) : Stk p' l M := by
 unfold Stk at *; rw [h1, h2, h3]; exact h
theorem Txts.of {p p' : PS} {l : List Nat} {M : List Chunk} (h : Txts p l M) (h1 : p'.tq = p.tq) (h2 : p'.tn = p.tn) (h3 : p'.tc = p.tc) : Txts p' l M := by
 unfold Txts at *; rw [h1, h2, h3]; exact h
end Go.Proofs.YtgbgadkldalkbaaGreatDoor


set_option linter.unusedVariables false
namespace Go.Proofs.YtgbgadkldalkbaaGreatDoor
open Go.Proofs Go.IntWalk
variable {σ : Out} {w : World} {L L' : List Chunk} {R : Ending → World → Prop}

theorem equalIn_iface_nil {t u : TypeId} {v : Value} {ms : Array (String × TypeId)} (hu : P.underlying t = some (.interface ms)) (d : Nat) (w : World) :
 (Op.equalIn (d + 1) t (.iface u v) .nilIface).run P w = .ok false w := by
 simp [Op.equalIn, run_underlying hu]
theorem eq_iface_nil {t u : TypeId} {v : Value} {ms : Array (String × TypeId)} (hu : P.underlying t = some (.interface ms)) (x y : Operand) (w : World) :
 (do eqGuard .eql t x y (.iface u v) .nilIface; binOp .eql t (.iface u v) .nilIface).run P w = .ok (.bool false) w :=
 bin_eq rfl rfl (equalIn_iface_nil hu 9999 w)
theorem ta_list_no {t : TypeId} {v : Value} (ht : t ≠ ty_P_List) (w : World) :
 (Instr.typeAssert (.iface t v) ty_Block ty_P_List true).run P w = .ok (.tuple #[.pointer none, .bool false]) w := by
 have hund : P.underlying ty_P_List = some (.pointer ty_List) := by kernel_rfl
 exact ta_no (by rw [hund]; intro ms h; cases h) hund ht (i := (P.info? ty_P_List).getD default) (by kernel_rfl) (by kernel_rfl) w
theorem sliceTo {P : Program} {t e : TypeId} {i : TypeInfo} (ht : P.underlying t = some (.slice e)) (hi : P.info? e = some i) (b n c m : Nat) (hm : m ≤ n) (hc : n ≤ c) (w : World) :
 (Instr.sliceAt t (.slice (some ⟨b, 0, none⟩) n c) none (some (.int .i64 m)) none).run P w = .ok (.slice (some ⟨b, 0, none⟩) m c) w := by
 have h1 : ¬ ((m : Int) < 0) := by omega
 have h2 : ¬ ((c : Int) < (m : Int)) := by omega
 simp [Instr.sliceAt, Instr.slice, Instr.sliceBounds, run_underlying ht, sizeOf, typeInfo, hi, run_sliceBound w .i64 (m : Int) c .sliceAcap (by omega) (by omega), Addr.add_lit]
end Go.Proofs.YtgbgadkldalkbaaGreatDoor


set_option linter.unusedVariables false
namespace Go.Proofs.YtgbgadkldalkbaaGreatDoor
open Go.Proofs Go.IntWalk
variable {σ : Out} {w : World} {L L' : List Chunk} {R : Ending → World → Prop}

noncomputable def rowBlock : Row P ty_S_Block ty_Block 1 16 :=
 ⟨(P.info? ty_Block).getD default, ((P.info? ty_Block).bind (·.zero)).getD default, by kernel_rfl, by kernel_rfl, by kernel_rfl, by kernel_rfl, by kernel_rfl, by kernel_rfl, by decide⟩
theorem closeBlock_ok {b : Nat} {p : PS} {ob : List OB} {par o : OB} {M IM : List Chunk} {inner : List Value} {t : TypeId} {v : Value} (Post : PS → List Chunk → TypeId → Option Addr → Prop)
 (h : Sat σ w (p.at b :: M ++ (IM ++ L))) (hs : Stk p (ob ++ [par] ++ [o]) M) (ho : o.bd = .iface t v) (hI : Sl 1 ty_Block par.q par.n par.c inner IM) (hin : par.n < 1000000)
 (hb : ∀ (R' : Ending → World → Prop) w, Sat σ w (p.at b :: M ++ (IM ++ L)) →
  (∀ w p1 L1 tb q, p1.stq = p.stq → p1.stn = p.stn → p1.stc = p.stc → tb ≠ ty_P_List → Post p1 L1 tb q → Sat σ w (p1.at b :: M ++ (IM ++ L1)) → R' (.returned (.iface tb (.pointer q))) w) →
  enterE P (callMethod o.bd "pub-paratext/pub/rscmarkdown.build" #[.iface ty_P_parseState (.pointer (some ⟨b, 0, none⟩))]) R' w)
 (hR : ∀ w p2 M2 IM2 p1 L1 tb q q' c', Post p1 L1 tb q → p2 = { p1 with stn := ob.length + 1 } → Stk p2 (ob ++ [{ par with q := q', n := par.n + 1, c := c' }]) M2 →
  Sl 1 ty_Block q' (par.n + 1) c' (inner ++ [.iface tb (.pointer q)]) IM2 → Sat σ w (p2.at b :: M2 ++ (IM2 ++ L1)) → R (.returned (.iface tb (.pointer q))) w) :
 callE P i_parseState_closeBlock #[.pointer (some ⟨b, 0, none⟩)] R w := by
 have hlt := hs.2.2
 have hn := hs.2.1
 obtain ⟨sb, sp, hq, rfl, hsp⟩ := hs.split (by simp)
 simp only [List.length_append, List.length_singleton] at hn hlt
 refine g_parseState_closeBlock.sound ?_
 refine h.tk fun w h => ?_
 refine nilP_some (nilP_some ?_)
 refine ⟨_, _, _, h.ldA, ?_⟩
 refine ⟨_, _, _, h.ldA, ?_⟩
 rw [hn, len_dec (by omega)]
 refine ⟨by omega, by omega, ?_⟩
 rw [hq]
 refine nilP_some ?_
 simp only [Addr.add_lit, Nat.zero_add, Int.toNat_natCast]
 have hg : ((ob ++ [par]) ++ [o])[ob.length + 1]? = some o := by simp
 refine ⟨o.bd, Sat.ld h (.tail _ (.head _)) (stk_get (f := 0) (by decide) hg), false, w, by rw [ho]; exact eq_iface_nil und_bb _ _ w, br_false rfl ?_⟩
 refine nilP_some ?_
 refine ⟨o.bd, Sat.ld h (.tail _ (.head _)) (stk_get (f := 0) (by decide) hg), ?_⟩
 refine hb _ w h fun w p1 L1 tb q h1 h2 h3 htb hpost h => ⟨_, rfl, none, false, w, ta_list_no htb w, br_false rfl ?_⟩
 have hq1 : p1.stq = some ⟨sb, 0, none⟩ := by rw [h1, hq]
 have hn1 : p1.stn = ob.length + 1 + 1 := by rw [h2, hn]
 refine h.tk fun w h => ?_
 refine nilP_some (nilP_some ?_)
 refine ⟨_, _, _, h.ldA, ?_⟩
 refine ⟨_, _, _, h.ldA, ?_⟩
 rw [hn1, len_dec (by omega), hq1]
 have hcap : ob.length + 1 + 1 ≤ p1.stc := by have := hs.1.2.1; rw [hn] at this; rw [h3]; exact this
 refine ⟨_, _, _, fun w => sliceTo rowOB.ht rowOB.hi sb (ob.length + 1 + 1) p1.stc (ob.length + 1) (by omega) hcap w, ?_⟩
 refine nilP_some ?_
 refine h.stA 0 fun w h => ?_
 let p2 : PS := { p1 with stq := some ⟨sb, 0, none⟩, stn := ob.length + 1 }
 have hp2 : p2 = { p1 with stn := ob.length + 1 } := by simp only [p2, ← hq1]
 have h : Sat σ w (p2.at b :: [(sb, cel (obCells (ob ++ [par]) ++ (o.cells ++ sp)) ty_openBlock)] ++ (IM ++ L1)) := by
  rw [obCells_snoc, List.append_assoc] at h
  exact h
 refine nilP_some ?_
 refine ⟨_, _, _, h.ldA, ?_⟩
 refine br_true (by simp [p2]) ?_
 refine h.tk fun w h => ?_
 refine nilP_some (nilP_some ?_)
 refine ⟨_, _, _, h.ldA, ?_⟩
 refine ⟨_, _, _, h.ldA, ?_⟩
 rw [show p2.stn = ob.length + 1 from rfl, len_dec (by omega), show p2.stq = some ⟨sb, 0, none⟩ from rfl]
 refine ⟨by omega, by omega, nilP_some ?_⟩
 simp only [Addr.add_lit, Nat.zero_add, Int.toNat_natCast, Nat.add_zero]
 refine ⟨_, _, _, Sat.ld h (.tail _ (.head _)) (stk_get (f := 1) (by decide) (last_get par)), ?_⟩
 have h : Sat σ _ (IM ++ (p2.at b :: (sb, cel (obCells (ob ++ [par]) ++ (o.cells ++ sp)) ty_openBlock) :: L1)) := h.re
 refine Sat.app1 rowBlock hI h (v := .iface tb (.pointer q)) rfl (by simp [Value.cells, Value.oneCell']) (by kernel_rfl) (by omega) (by omega) (by decide) fun q' c' w IM2 hI' h => ?_
 have h : Sat σ _ (p2.at b :: (sb, cel (obCells (ob ++ [par]) ++ (o.cells ++ sp)) ty_openBlock) :: (IM2 ++ L1)) := h.re
 refine Sat.st h (k := 1) rfl (by rw [List.length_append, obCells_length, List.length_append, List.length_singleton]; omega) trivial rfl fun w h => ?_
 have e := stk_set (l := ob) (sp := o.cells ++ sp) (o := par) (o' := { par with q := q', n := par.n + 1, c := c' }) (f := 1) (v := .slice q' (par.n + 1) c') (by decide) rfl
 have h : Sat σ w (p2.at b :: (sb, cel (obCells (ob ++ [{ par with q := q', n := par.n + 1, c := c' }]) ++ (o.cells ++ sp)) ty_openBlock) :: (IM2 ++ L1)) := by
  rw [← e]; exact h
 have hs2 : Stk p2 (ob ++ [{ par with q := q', n := par.n + 1, c := c' }]) [(sb, cel (obCells (ob ++ [{ par with q := q', n := par.n + 1, c := c' }]) ++ (o.cells ++ sp)) ty_openBlock)] := by
  refine Stk.mk' rfl ?_ (by simp [p2]) (by simp; omega)
  show _ = p1.stc * 4
  rw [h3, ← hsp]
  simp only [List.length_append, obCells_length, List.length_singleton, OB.cells, List.length_cons, List.length_nil]
  omega
 refine hR w p2 _ IM2 p1 L1 tb q q' c' hpost hp2 hs2 hI' h
end Go.Proofs.YtgbgadkldalkbaaGreatDoor


set_option linter.unusedVariables false
namespace Go.Proofs.YtgbgadkldalkbaaGreatDoor
open Go.Proofs Go.IntWalk
variable {σ : Out} {w : World} {L L' : List Chunk} {R : Ending → World → Prop}

def docC (db s e : Nat) (q : Option Addr) (n c : Nat) (links : Option Nat) : Chunk := (db, cel [.int .i64 s, .int .i64 e, .slice q n c, .map links] ty_Document)
theorem rootBuild_ok {b : Nat} {rq : Option Addr} {p : PS} {ob : List OB} {o : OB} {M : List Chunk} (h : Sat σ w (p.at b :: M ++ L)) (hs : Stk p (ob ++ [o]) M)
 (hR : ∀ w db, Sat σ w (p.at b :: M ++ (docC db o.s o.e o.q o.n o.c p.links :: L)) → R (.returned (.iface ty_P_Document (.pointer (some ⟨db, 0, none⟩)))) w) :
 callE P i_rootBuilder_build #[.pointer rq, .iface ty_P_parseState (.pointer (some ⟨b, 0, none⟩))] R w := by
 refine g_rootBuilder_build.sound ?_
 refine h.tk fun w h => ?_
 refine ⟨_, ta_ps _, nilP_some ?_⟩
 refine ⟨_, h.ldA, ?_⟩
 have h0 := h
 refine enter_meth meth_pos ?_
 refine pos_ok h hs fun w h => ⟨_, _, rfl, h0.same h (.head _) (.head _) 1, ?_⟩
 have h1 := h
 refine enter_meth meth_blocks ?_
 refine blocks_ok h hs fun w h => ⟨_, _, _, rfl, h1.same h (.head _) (.head _) 1, ?_⟩
 refine Sat.bx h fun db w h => ?_
 have h : Sat σ w (docC db o.s o.e o.q o.n o.c p.links :: (p.at b :: M ++ L)) := h
 exact hR w db (h.re)
theorem ta_doc (q : Option Addr) (w : World) : (Instr.typeAssert (.iface ty_P_Document (.pointer q)) ty_Block ty_P_Document false).run P w = .ok (.pointer q) w := by
 have hund : P.underlying ty_P_Document = some (.pointer ty_Document) := by kernel_rfl
 exact ta_yes1 (by rw [hund]; intro ms h; cases h) hund w
theorem closeRoot_ok {b rb : Nat} {p : PS} {o : OB} {M : List Chunk} (h : Sat σ w (p.at b :: M ++ L)) (hs : Stk p [o] M) (ho : o.bd = .iface ty_P_rootBuilder (.pointer (some ⟨rb, 0, none⟩)))
 (hR : ∀ w db, Sat σ w ({ p with stn := 0, root := some ⟨db, 0, none⟩ }.at b :: M ++ (docC db o.s o.e o.q o.n o.c p.links :: L)) → R (.returned (.iface ty_P_Document (.pointer (some ⟨db, 0, none⟩)))) w) :
 callE P i_parseState_closeBlock #[.pointer (some ⟨b, 0, none⟩)] R w := by
 have hn := hs.2.1
 have hs' : Stk p ([] ++ [o]) M := hs
 obtain ⟨sb, sp, hq, rfl, hsp⟩ := hs.split (by simp)
 simp only [List.length_singleton] at hn
 refine g_parseState_closeBlock.sound ?_
 refine h.tk fun w h => ?_
 refine nilP_some (nilP_some ?_)
 refine ⟨_, _, _, h.ldA, ?_⟩
 refine ⟨_, _, _, h.ldA, ?_⟩
 rw [hn, show IntKind.i64.wrap (((1 : Nat) : Int) - 1) = ((0 : Nat) : Int) from rfl]
 refine ⟨by omega, by omega, ?_⟩
 rw [hq]
 refine nilP_some ?_
 simp only [Addr.add_lit, Nat.zero_add, Int.toNat_natCast, Nat.zero_mul]
 have hg : (([] : List OB) ++ [o])[0]? = some o := rfl
 refine ⟨o.bd, Sat.ld h (.tail _ (.head _)) rfl, false, w, by rw [ho]; exact eq_iface_nil und_bb _ _ w, br_false rfl ?_⟩
 refine nilP_some ?_
 refine ⟨o.bd, Sat.ld h (.tail _ (.head _)) rfl, ?_⟩
 rw [ho]
 refine enter_meth meth_rootBuild ?_
 refine rootBuild_ok (ob := []) h hs' fun w db h => ⟨_, rfl, none, false, w, ta_list_no (by decide) w, br_false rfl ?_⟩
 refine h.tk fun w h => ?_
 refine nilP_some (nilP_some ?_)
 refine ⟨_, _, _, h.ldA, ?_⟩
 refine ⟨_, _, _, h.ldA, ?_⟩
 have hcap : 1 ≤ p.stc := by have := hs.1.2.1; rw [hn] at this; exact this
 rw [hn, show IntKind.i64.wrap (((1 : Nat) : Int) - 1) = ((0 : Nat) : Int) from rfl, hq]
 refine ⟨_, _, _, fun w => sliceTo rowOB.ht rowOB.hi sb 1 p.stc 0 (by omega) hcap w, ?_⟩
 refine nilP_some ?_
 refine h.stA 0 fun w h => ?_
 refine nilP_some ?_
 refine ⟨_, _, _, h.ldA, ?_⟩
 refine br_false rfl ?_
 refine ⟨_, _, ta_doc _ _, nilP_some ?_⟩
 refine h.stA 0 fun w h => ?_
 refine hR _ db ?_
 have e : ({ p with stn := 0, root := some ⟨db, 0, none⟩ } : PS) = { p with stq := some ⟨sb, 0, none⟩, stn := 0, root := some ⟨db, 0, none⟩ } := by rw [← hq]
 rw [e]
 exact h
end Go.Proofs.YtgbgadkldalkbaaGreatDoor


set_option linter.unusedVariables false
namespace Go.Proofs.YtgbgadkldalkbaaGreatDoor
open Go.Proofs Go.IntWalk Go.RowKit
variable {σ : Out} {w : World} {L L' : List Chunk} {R : Ending → World → Prop}
theorem textPrint_ok {b t s e : Nat} {q : Option Addr} {n c : Nat} {raw : List UInt8} {vs : List Value} {RM KM KM' M : List Chunk} {l : List UInt8} {f : List UInt8 → List UInt8} (hS : Sl 1 ty_Inline q n c vs RM) (hn : n < 4611686018427387904)
 (hP : PrintsL "PrintHTML" vs KM KM' f) (hB : Buf b l M) (h : Sat σ w (M ++ (textC t s e q n c raw :: (RM ++ (KM ++ L))))) (hb : (f l).length ≤ 549755813888)
 (hR : ∀ w M', Buf b (f l) M' → Sat σ w (M' ++ (textC t s e q n c raw :: (RM ++ (KM' ++ L)))) → R (.returned (.tuple #[])) w) :
 callE P i_Text_PrintHTML #[.pointer (some ⟨t, 0, none⟩), .pointer (some ⟨b, 0, none⟩)] R w := by
 refine g_Text_PrintHTML.sound ?_
 refine nilP_some ?_
 refine ⟨_, _, _, Sat.ld h (List.mem_append_right _ (.head _)) rfl, ?_⟩
 intro X hX
 have h : Sat σ w (M ++ (RM ++ (KM ++ (textC t s e q n c raw :: L)))) := h.re
 refine printLoop (X := fun j w => X (some ⟨b, 0, none⟩) q n c (n : Int) j w) (END := fun w => R (.returned (.tuple #[])) w) hS (fun j w hj => hX _ _ _ _ _ _ _ hj) hP hB h hn hb fun w M' hB h => ?_
 exact hR w M' hB (h.re)
theorem meth_Document : methB P ty_P_Document "PrintHTML" i_Document_PrintHTML = true := by kernel_rfl
theorem doc_prints {db s e : Nat} {q : Option Addr} {n c : Nat} {lk : Option Nat} {vs : List Value} {RM KM KM' : List Chunk} {f : List UInt8 → List UInt8} (hS : Sl 1 ty_Block q n c vs RM) (hn : n < 4611686018427387904)
 (hP : PrintsL "PrintHTML" vs KM KM' f) :
 Prints "PrintHTML" (.iface ty_P_Document (.pointer (some ⟨db, 0, none⟩))) (docC db s e q n c lk :: (RM ++ KM)) (docC db s e q n c lk :: (RM ++ KM')) f := by
 refine ⟨hP.mono, fun σ R b l M L w hB h hb hR => enter_meth meth_Document ?_⟩
 refine g_Document_PrintHTML.sound ?_
 refine nilP_some ?_
 refine ⟨_, _, _, Sat.ld h (List.mem_append_right _ (.head _)) rfl, ?_⟩
 intro X hX
 have h : Sat σ w (M ++ (RM ++ (KM ++ (docC db s e q n c lk :: L)))) := h.re
 refine printLoop (X := fun j w => X (some ⟨b, 0, none⟩) q n c (n : Int) j w) (END := fun w => R (.returned (.tuple #[])) w) hS (fun j w hj => hX _ _ _ _ _ _ _ hj) hP hB h hn hb fun w M' hB h => ?_
 exact hR w M' hB (h.re)
theorem toHTML_ok {v : Value} {T T' : List Chunk} {f : List UInt8 → List UInt8} (hP : Prints "PrintHTML" v T T' f) (h : Sat σ w (T ++ L)) (hb : (f []).length ≤ 549755813888)
 (hR : ∀ w, Sat σ w (T' ++ L) → R (.returned (.string (bs (f [])))) w) : callE P i_ToHTML #[v] R w := by
 refine g_ToHTML.sound ?_
 refine Sat.bx h fun b w h => ?_
 refine hP.2 σ _ b [] _ L w (bufNew b) h hb fun w M hB h => ⟨rfl, ?_⟩
 exact bufStr_ok hB h fun w h => ⟨_, rfl, hR w (h.less M)⟩
end Go.Proofs.YtgbgadkldalkbaaGreatDoor


set_option linter.unusedVariables false
set_option maxRecDepth 20000
namespace Go.Proofs.YtgbgadkldalkbaaGreatDoor
open Go.Proofs
namespace g_parseState_emit
noncomputable def body : Code := bodyOf Tryz.f102
end g_parseState_emit
def g_parseState_emit (R : EP) (x0 : OA) (x1 : Int) (w : World) : Prop :=
 nilP x0 fun a1 =>
 ∃ (v2 : Int), w.cell? (a1.add 8) = some (.int .i64 v2) ∧
 br (decide (v2 < x1))
 (tk w fun w3 =>
 nilP x0 fun a4 =>
 nilP x0 fun a5 =>
 nilP x0 fun a6 =>
 ∃ (v7q : OA), ∃ (v7n : Nat), ∃ (v7c : Nat), w3.cell? (a4.add 9) = some (.slice v7q v7n v7c) ∧
 ∃ (v8 : BA), w3.cell? (a5.add 7) = some (.string v8) ∧
 ∃ (v9 : Int), w3.cell? (a6.add 8) = some (.int .i64 v9) ∧
 0 ≤ v9 ∧ v9 ≤ x1 ∧ x1 ≤ (v8.size : Int) ∧
 box w3 #[.string (v8.extract (Int.toNat v9) (Int.toNat x1))] ty_Plain fun b10 w11 =>
 SameC w3 w11 (a4.add 9) 1 ∧
 ∃ (r12q : OA), ∃ (r12n : Nat), ∃ (r12c : Nat), ∃ w13, (Instr.buildSlice ty_S_Inline 1 #[(0, .iface ty_P_Plain (.pointer (some ⟨b10, 0, none⟩)))]).run P w11 = .ok (.slice r12q r12n r12c) w13 ∧
 SameC w11 w13 (a4.add 9) 1 ∧
 ∃ (r14q : OA), ∃ (r14n : Nat), ∃ (r14c : Nat), ∃ w15, (Builtin.append_ #[ty_S_Inline, ty_S_Inline] ty_S_Inline #[.slice v7q v7n v7c, .slice r12q r12n r12c]).run P w13 = .ok (.slice r14q r14n r14c) w15 ∧
 nilP x0 fun a16 =>
 stV w15 ((a16.add 9).add 0) (.slice r14q r14n r14c) fun w17 =>
 nilP x0 fun a18 =>
 stV w17 ((a18.add 8).add 0) (.int .i64 x1) fun w19 =>
 R (.returned (.tuple #[])) w19)
 (R (.returned (.tuple #[])) w)

namespace g_parseState_emit
noncomputable def ac (R : EP) : AC :=
 (.seq (.leaf (sel [0] body)) (.cond 9 (.seq (.draw (.pure 0 (.pure 1 (.pure 2 (.pure 3 (.pure 5 (.pure 6 (.pure 7 (.pure 9 (.pure 10 (.pure 11 (.pure 13 (.load 4 (.load 8 (.load 12 (.pure 14 (.pure 15 (.one 16 (.pure 17 (.one 18 (.one 19 (.pure 20 (.pure 21 (.one 22 .done))))))))))))))))))))))) (sel [1,0,0] body)) (.leaf (sel [1,0,1] body))) (.leaf (sel [1,1] body))))
theorem good (R : EP) : Good P 36 (ac R) (QF P [] R) :=
 ⟨trivial, ⟨⟨⟨by kernel_rfl, by kernel_rfl, fun _ _ _ h => h⟩, trivial⟩, trivial⟩⟩
theorem eq (R : EP) (x0 : OA) (x1 : Int) (w : World) : g_parseState_emit R x0 x1 w = vcA P 36 (ac R) (QF P [] R) (fr0 [.pointer x0, .int .i64 x1]) w := by kernel_rfl
theorem sound {R : EP} {x0 : OA} {x1 : Int} {w : World} (h : g_parseState_emit R x0 x1 w) : callE P i_parseState_emit #[.pointer x0, .int .i64 x1] R w :=
 callE_fz (c := body) Tryz.func102 Tryz.call102 (good R) (eq R x0 x1 w) h
end g_parseState_emit
namespace g_parseState_skip
noncomputable def body : Code := bodyOf Tryz.f103
end g_parseState_skip
def g_parseState_skip (R : EP) (x0 : OA) (x1 : Int) (w : World) : Prop :=
 nilP x0 fun a1 =>
 stV w ((a1.add 8).add 0) (.int .i64 x1) fun w2 =>
 R (.returned (.tuple #[])) w2

namespace g_parseState_skip
noncomputable def ac (R : EP) : AC :=
 (.leaf (sel [] body))
theorem good (R : EP) : Good P 8 (ac R) (QF P [] R) :=
 trivial
theorem eq (R : EP) (x0 : OA) (x1 : Int) (w : World) : g_parseState_skip R x0 x1 w = vcA P 8 (ac R) (QF P [] R) (fr0 [.pointer x0, .int .i64 x1]) w := by kernel_rfl
theorem sound {R : EP} {x0 : OA} {x1 : Int} {w : World} (h : g_parseState_skip R x0 x1 w) : callE P i_parseState_skip #[.pointer x0, .int .i64 x1] R w :=
 callE_fz (c := body) Tryz.func103 Tryz.call103 (good R) (eq R x0 x1 w) h
end g_parseState_skip
end Go.Proofs.YtgbgadkldalkbaaGreatDoor

set_option linter.unusedVariables false
namespace Go.Proofs.YtgbgadkldalkbaaGreatDoor
open Go.Proofs Go.IntWalk
variable {σ : Out} {w : World} {L L' : List Chunk} {R : Ending → World → Prop}

noncomputable def rowInl : Row P ty_S_Inline ty_Inline 1 16 :=
 ⟨(P.info? ty_Inline).getD default, ((P.info? ty_Inline).bind (·.zero)).getD default, by kernel_rfl, by kernel_rfl, by kernel_rfl, by kernel_rfl, by kernel_rfl, by kernel_rfl, by decide⟩
def Inls (p : PS) (vs : List Value) (M : List Chunk) : Prop := Sl 1 ty_Inline p.lq p.ln p.lc vs M ∧ vs.length < 4294967296
def plainC (b : Nat) (s : List UInt8) : Chunk := (b, cel [.string (bs s)] ty_Plain)

theorem skipTo_ok {b : Nat} {p : PS} {i : Int} (h : Sat σ w (p.at b :: L)) (hR : ∀ w, Sat σ w ({ p with em := i }.at b :: L) → R (.returned (.tuple #[])) w) :
 callE P i_parseState_skip #[.pointer (some ⟨b, 0, none⟩), .int .i64 i] R w := by
 refine g_parseState_skip.sound ?_
 refine nilP_some ?_
 refine h.stA 0 fun w h => ?_
 exact hR _ h
theorem emit_no {b : Nat} {p : PS} {i : Int} (h : Sat σ w (p.at b :: L)) (hi : i ≤ p.em) (hR : ∀ w, Sat σ w (p.at b :: L) → R (.returned (.tuple #[])) w) :
 callE P i_parseState_emit #[.pointer (some ⟨b, 0, none⟩), .int .i64 i] R w := by
 refine g_parseState_emit.sound ?_
 refine nilP_some ?_
 refine ⟨_, h.ldA, ?_⟩
 exact br_false (by simpa using hi) (hR _ h)
theorem emit_ok {b i e : Nat} {p : PS} {vs : List Value} {M : List Chunk} (h : Sat σ w (p.at b :: M ++ L)) (hv : Inls p vs M) (he : p.em = e) (hi : e < i) (hl : i ≤ p.s.length) (hn : vs.length < 4294967295)
 (hR : ∀ w p' M' nb, p' = { p with em := i, lq := p'.lq, ln := vs.length + 1, lc := p'.lc } → Inls p' (vs ++ [.iface ty_P_Plain (.pointer (some ⟨nb, 0, none⟩))]) M' →
  Sat σ w (p'.at b :: M' ++ (plainC nb ((p.s.take i).drop e) :: L)) → R (.returned (.tuple #[])) w) :
 callE P i_parseState_emit #[.pointer (some ⟨b, 0, none⟩), .int .i64 i] R w := by
 have hln : p.ln = vs.length := by have := hv.1.1; omega
 refine g_parseState_emit.sound ?_
 refine nilP_some ?_
 refine ⟨_, h.ldA, ?_⟩
 rw [he]
 refine br_true (by simpa using hi) ?_
 refine h.tk fun w h => ?_
 refine nilP_some (nilP_some (nilP_some ?_))
 refine ⟨_, _, _, h.ldA, ?_⟩
 refine ⟨_, h.ldA, ?_⟩
 refine ⟨_, h.ldA, ?_⟩
 rw [he]
 refine ⟨by omega, by omega, by simp; omega, ?_⟩
 rw [Int.toNat_natCast, Int.toNat_natCast, bs_extract]
 have h0 := h
 refine Sat.bx h fun nb w h => ?_
 refine ⟨h0.same h (.head _) (.tail _ (.head _)) 1, ?_⟩
 have h : Sat σ w (M ++ (p.at b :: plainC nb ((p.s.take i).drop e) :: L)) := Sat.re (L := plainC nb ((p.s.take i).drop e) :: (p.at b :: M ++ L)) h
 have hs0 := h0
 refine Sat.app1S rowInl hv.1 h (v := .iface ty_P_Plain (.pointer (some ⟨nb, 0, none⟩))) rfl (by simp [Value.cells, Value.oneCell']) (by kernel_rfl) (by omega) (by omega) (by decide)
  (C := fun w1 => SameC _ w1 _ 1) (fun w1 X h' => Sat.same h h' (b := b) (o := cel p.cells ty_parseState) (by simp) (by simp) 1) fun q' c' w M' hS' h => ?_
 have h : Sat σ w (p.at b :: M' ++ (plainC nb ((p.s.take i).drop e) :: L)) := h.re
 let p' : PS := { p with em := i, lq := q', ln := p.ln + 1, lc := c' }
 refine nilP_some ?_
 refine h.stA 0 fun w h => ?_
 refine nilP_some ?_
 refine h.stA 0 fun w h => ?_
 refine hR _ p' M' nb (by simp [p', hln]) ⟨hS', by simp; omega⟩ h
end Go.Proofs.YtgbgadkldalkbaaGreatDoor


set_option linter.unusedVariables false
namespace Go.Proofs.YtgbgadkldalkbaaGreatDoor
open Go.Proofs Go.IntWalk Go.RowKit
variable {σ : Out} {w : World} {L L' : List Chunk} {R : Ending → World → Prop}
theorem appRoom {t ty e : TypeId} {bytes : Nat} (r : Row P t e 1 bytes) {b k c : Nat} {cs : List Value} (h : Sat σ w ((b, cel cs e) :: L)) (hk : k < cs.length) (hc : k < c) {v : Value} (hv : v.cells = #[v]) (h1 : v.oneCell' = true)
 (hfill : Instr.fill (fun i => some (i * 1, 1)) ((Array.range (1 * 1)).map (r.z.cells[· % r.z.cells.size]!)) [(0, v)] = some v.cells)
 {K : Option Addr → Nat → Nat → World → Prop} {C : World → Prop} (hC : ∀ w1 X, Sat σ w1 (X :: ((b, cel cs e) :: L)) → C w1) (hK : ∀ w', Sat σ w' ((b, cel (cs.set k v) e) :: L) → K (some ⟨b, 0, none⟩) (k + 1) c w') :
 ∃ rq rn rc w1, (Instr.buildSlice t 1 #[(0, v)]).run P w = .ok (.slice rq rn rc) w1 ∧ C w1 ∧
  ∃ q' n' c' w2, (Builtin.append_ #[t, t] ty #[.slice (some ⟨b, 0, none⟩) k c, .slice rq rn rc]).run P w1 = .ok (.slice q' n' c') w2 ∧ K q' n' c' w2 := by
 have hrun := run_buildSlice (P := P) w t e 1 #[(0, v)] v.cells r.i r.z r.ht r.hi r.hz (by rw [r.hs]; omega) (by rw [r.hs]; omega) (by rw [r.hs]; exact hfill)
 refine ⟨_, _, _, _, hrun, ?_⟩
 have ha := h.alc v.cells.toList e
 have e3 : YtgbgadkldalkbaaGreatDoor.alc w v.cells.toList.toArray e = w.alloc (.cells v.cells e) := by rw [Array.toArray_toList]; rfl
 rw [e3] at ha
 generalize hw1 : w.alloc (.cells v.cells e) = w1 at ha ⊢
 generalize w.heap.size = nb at ha ⊢
 rw [hv] at ha
 have hs : Src P 1 t (.slice (some ⟨nb, 0, none⟩) 1 1) 1 [v] w1 := by
  refine Src.ofSlice w1 r.ht _ 1 1 _ (by simp) (fun j u hu => ?_) (by simp [h1])
  rw [show (Addr.add ⟨nb, 0, none⟩ j) = ⟨nb, j, none⟩ from Addr.add_zero_lit nb j]
  exact ha.ld (List.mem_cons_self ..) hu
 have hs' : Src P r.i.size t (.slice (some ⟨nb, 0, none⟩) 1 1) 1 [v] w1 := by rw [r.hs]; exact hs
 refine ⟨hC _ _ ha, _, _, _, _, run_append_room_src w1 t t ty e r.i r.ht r.hi b 0 k c _ 1 [v] hs' (by omega) ?_ ?_, hK _ ?_⟩
 ·intro j hj
  simp at hj
  subst hj
  rw [r.hs, Nat.zero_add, Nat.mul_one, Nat.add_zero, ha.ld (.tail _ (.head _)) (List.getElem?_eq_getElem hk)]
  rfl
 ·exact fun j hj => ha.not_frozen (.tail _ (.head _))
 ·rw [r.hs]
  have hb : Sat σ w1 ((b, cel cs e) :: (nb, cel [v] e) :: L) := ha.up1
  have := setCells_sat hb (0 + k * 1) [v] (by simp; omega)
  rw [Nat.zero_add, Nat.mul_one] at this ⊢
  have e1 : cs.take k ++ [v] ++ cs.drop (k + 1) = cs.set k v := by
   rw [List.set_eq_take_append_cons_drop, if_pos hk]; simp
  rw [show [v].length = 1 from rfl, e1] at this
  exact this.less [(nb, cel [v] e)]
theorem appRoom' {t ty e : TypeId} {bytes : Nat} (r : Row P t e 1 bytes) {b k c : Nat} {cs : List Value} (h : Sat σ w ((b, cel cs e) :: L)) (hk : k < cs.length) (hc : k < c) {v : Value} (hv : v.cells = #[v]) (h1 : v.oneCell' = true)
 (hfill : Instr.fill (fun i => some (i * 1, 1)) ((Array.range (1 * 1)).map (r.z.cells[· % r.z.cells.size]!)) [(0, v)] = some v.cells)
 {K : Option Addr → Nat → Nat → World → Prop} (hK : ∀ w', Sat σ w' ((b, cel (cs.set k v) e) :: L) → K (some ⟨b, 0, none⟩) (k + 1) c w') :
 ∃ rq rn rc w1, (Instr.buildSlice t 1 #[(0, v)]).run P w = .ok (.slice rq rn rc) w1 ∧
  ∃ q' n' c' w2, (Builtin.append_ #[t, t] ty #[.slice (some ⟨b, 0, none⟩) k c, .slice rq rn rc]).run P w1 = .ok (.slice q' n' c') w2 ∧ K q' n' c' w2 := by
 obtain ⟨rq, rn, rc, w1, h1, _, h2⟩ := appRoom (ty := ty) r h hk hc hv h1 hfill (C := fun _ => True) (fun _ _ _ => trivial) hK
 exact ⟨rq, rn, rc, w1, h1, h2⟩

inductive Inl where
 | plain (s : List UInt8)
 | openP (s : List UInt8) (i : Nat)
 | emphP (s : List UInt8) (co cc : Bool) (i n : Int)
 | esc (s : List UInt8)
 | code (s : List UInt8)
 | strong (m : List UInt8) (ks : List Inl)
 | del (m : List UInt8) (ks : List Inl)
 | emph (m : List UInt8) (ks : List Inl)
 | link (ks : List Inl) (url title : List UInt8) (tc : UInt8) (corner : Bool)
 | image (ks : List Inl) (url title : List UInt8) (tc : UInt8) (corner : Bool)
 | auto (text url : List UInt8)
 | tag (s : List UInt8)
 | hard
 | soft
 | task (b : Bool)
def ptrV (t : TypeId) (b : Nat) : Value := .iface t (.pointer (some ⟨b, 0, none⟩))
mutual
def InlAt : Inl → Value → List Chunk → Prop
 | .plain s, v, M => ∃ b cs e, v = ptrV ty_P_Plain b ∧ M = [(b, cel (.string (bs s) :: cs) e)]
 | .openP s i, v, M => ∃ b e, v = ptrV ty_P_openPlain b ∧ M = [(b, cel [.string (bs s), .int .i64 i] e)]
 | .emphP s co cc i n, v, M => ∃ b e, v = ptrV ty_P_emphPlain b ∧ M = [(b, cel [.string (bs s), .bool co, .bool cc, .int .i64 i, .int .i64 n] e)]
 | .esc s, v, M => ∃ b e, v = ptrV ty_P_Escaped b ∧ M = [(b, cel [.string (bs s)] e)]
 | .code s, v, M => ∃ b e, v = ptrV ty_P_Code b ∧ M = [(b, cel [.string (bs s)] e)]
 | .strong m ks, v, M => ∃ b e q n c vs RM KM, v = ptrV ty_P_Strong b ∧ M = (b, cel [.string (bs m), .slice q n c] e) :: (RM ++ KM) ∧ Sl 1 ty_Inline q n c vs RM ∧ InlsAt ks vs KM
 | .del m ks, v, M => ∃ b e q n c vs RM KM, v = ptrV ty_P_Del b ∧ M = (b, cel [.string (bs m), .slice q n c] e) :: (RM ++ KM) ∧ Sl 1 ty_Inline q n c vs RM ∧ InlsAt ks vs KM
 | .emph m ks, v, M => ∃ b e q n c vs RM KM, v = ptrV ty_P_Emph b ∧ M = (b, cel [.string (bs m), .slice q n c] e) :: (RM ++ KM) ∧ Sl 1 ty_Inline q n c vs RM ∧ InlsAt ks vs KM
 | .link ks u t tc k, v, M => ∃ b e q n c vs RM KM, v = ptrV ty_P_Link b ∧ M = (b, cel [.slice q n c, .string (bs u), .string (bs t), .int .u8 tc.toNat, .bool k] e) :: (RM ++ KM) ∧ Sl 1 ty_Inline q n c vs RM ∧ InlsAt ks vs KM
 | .image ks u t tc k, v, M => ∃ b e q n c vs RM KM, v = ptrV ty_P_Image b ∧ M = (b, cel [.slice q n c, .string (bs u), .string (bs t), .int .u8 tc.toNat, .bool k] e) :: (RM ++ KM) ∧ Sl 1 ty_Inline q n c vs RM ∧ InlsAt ks vs KM
 | .auto t u, v, M => ∃ b e, v = ptrV ty_P_AutoLink b ∧ M = [(b, cel [.string (bs t), .string (bs u)] e)]
 | .tag s, v, M => ∃ b e, v = ptrV ty_P_HTMLTag b ∧ M = [(b, cel [.string (bs s)] e)]
 | .hard, v, M => ∃ b e, v = ptrV ty_P_HardBreak b ∧ M = [(b, cel [] e)]
 | .soft, v, M => ∃ b e, v = ptrV ty_P_SoftBreak b ∧ M = [(b, cel [] e)]
 | .task k, v, M => ∃ b e, v = ptrV ty_P_Task b ∧ M = [(b, cel [.bool k] e)]
def InlsAt : List Inl → List Value → List Chunk → Prop
 | [], vs, M => vs = [] ∧ M = []
 | t :: ts, vs, M => ∃ v vs' M1 M2, vs = v :: vs' ∧ M = M1 ++ M2 ∧ InlAt t v M1 ∧ InlsAt ts vs' M2
end
theorem InlsAt.append : ∀ {a b : List Inl} {vs us : List Value} {M N : List Chunk}, InlsAt a vs M → InlsAt b us N → InlsAt (a ++ b) (vs ++ us) (M ++ N)
 | [], b, vs, us, M, N, h1, h2 => by obtain ⟨rfl, rfl⟩ := h1; exact h2
 | t :: a, b, vs, us, M, N, h1, h2 => by
  obtain ⟨v, vs', M1, M2, rfl, rfl, h3, h4⟩ := h1
  exact ⟨v, vs' ++ us, M1, M2 ++ N, rfl, by simp, h3, h4.append h2⟩
theorem InlsAt.split : ∀ {a b : List Inl} {vs : List Value} {M : List Chunk}, InlsAt (a ++ b) vs M → ∃ vs1 vs2 M1 M2, vs = vs1 ++ vs2 ∧ M = M1 ++ M2 ∧ InlsAt a vs1 M1 ∧ InlsAt b vs2 M2
 | [], b, vs, M, h => ⟨[], vs, [], M, rfl, rfl, ⟨rfl, rfl⟩, h⟩
 | t :: a, b, vs, M, h => by
  obtain ⟨v, vs', M1, M2, rfl, rfl, h3, h4⟩ := h
  obtain ⟨vs1, vs2, N1, N2, rfl, rfl, h5, h6⟩ := h4.split
  exact ⟨v :: vs1, vs2, M1 ++ N1, N2, rfl, by simp, ⟨v, vs1, M1, N1, rfl, rfl, h3, h5⟩, h6⟩
theorem InlsAt.one {t : Inl} {v : Value} {M : List Chunk} (h : InlAt t v M) : InlsAt [t] [v] M := ⟨v, [], M, [], rfl, by simp, h, rfl, rfl⟩
theorem InlsAt.length : ∀ {a : List Inl} {vs : List Value} {M : List Chunk}, InlsAt a vs M → vs.length = a.length
 | [], vs, M, h => by rw [h.1]; rfl
 | t :: a, vs, M, h => by
  obtain ⟨v, vs', M1, M2, rfl, rfl, h3, h4⟩ := h
  simp [h4.length]
def Inl.ty : Inl → TypeId
 | .plain _ => ty_P_Plain | .openP _ _ => ty_P_openPlain | .emphP _ _ _ _ _ => ty_P_emphPlain | .esc _ => ty_P_Escaped | .code _ => ty_P_Code | .strong _ _ => ty_P_Strong | .del _ _ => ty_P_Del | .emph _ _ => ty_P_Emph
 | .link _ _ _ _ _ => ty_P_Link | .image _ _ _ _ _ => ty_P_Image | .auto _ _ => ty_P_AutoLink | .tag _ => ty_P_HTMLTag | .hard => ty_P_HardBreak | .soft => ty_P_SoftBreak | .task _ => ty_P_Task
theorem InlAt.ptr {t : Inl} {v : Value} {M : List Chunk} (h : InlAt t v M) : ∃ b cs e M', v = ptrV t.ty b ∧ M = (b, cel cs e) :: M' := by
 cases t <;> first
  | (obtain ⟨b, cs, e, rfl, rfl⟩ := h; exact ⟨b, _, _, [], rfl, rfl⟩)
  | (obtain ⟨b, e, rfl, rfl⟩ := h; exact ⟨b, _, _, [], rfl, rfl⟩)
  | (obtain ⟨b, e, q, n, c, vs, RM, KM, rfl, rfl, _⟩ := h; exact ⟨b, _, _, _, rfl, rfl⟩)
end Go.Proofs.YtgbgadkldalkbaaGreatDoor


set_option linter.unusedVariables false
namespace Go.Proofs.YtgbgadkldalkbaaGreatDoor
open Go.Proofs Go.IntWalk
variable {σ : Out} {w : World} {L L' : List Chunk} {R : Ending → World → Prop}
def lnOf (s : List UInt8) (nl : UInt8 := 0) : Ln := ⟨0, 0, 0, s, nl⟩
def plainStart0 (c : UInt8) : Bool := !(isST c || c == 62 || c == 35 || c == 95 || c == 96 || c == 126 || c == 61 || c == 45 || c == 42)
def plainStart (c : UInt8) : Bool := plainStart0 c && c != 60 && !isBullet c
theorem lnOf_ok {nl : UInt8} {s : List UInt8} (hs : s.length < 1000000000) : (lnOf s nl).ok := ⟨by simp [lnOf], by simp [lnOf], by simp [lnOf]; omega, by simp [lnOf]⟩
theorem plainStart0_st {c : UInt8} (hc : plainStart0 c = true) : isST c = false := by
 simp only [plainStart0, Bool.not_eq_true', Bool.or_eq_false_iff] at hc
 exact hc.1.1.1.1.1.1.1.1
def digB (c : UInt8) : Bool := decide (48 ≤ c.toNat) && decide (c.toNat ≤ 57)
end Go.Proofs.YtgbgadkldalkbaaGreatDoor


set_option linter.unusedVariables false
set_option maxRecDepth 20000
namespace Go.Proofs.YtgbgadkldalkbaaGreatDoor
open Go.Proofs
namespace g_strings_Builder_Grow
noncomputable def body : Code := bodyOf Tryz.f212
def k1 (R : EP) (x0 : OA) (x1 : Int) (w : World) : Prop :=
 tk w fun w3 =>
 nilP x0 fun a4 =>
 nilP x0 fun a5 =>
 ∃ (v6q : OA), ∃ (v6n : Nat), ∃ (v6c : Nat), w3.cell? (a4.add 1) = some (.slice v6q v6n v6c) ∧
 ∃ (v7q : OA), ∃ (v7n : Nat), ∃ (v7c : Nat), w3.cell? (a5.add 1) = some (.slice v7q v7n v7c) ∧
 ∃ (r8 : Int), ∃ w9, (Builtin.cap_ #[ty_S_uint8] ty_int #[.slice v6q v6n v6c]).run P w3 = .ok (.int .i64 r8) w9 ∧
 SameC w3 w9 (a5.add 1) 1 ∧
 br (decide ((IntKind.i64.wrap (r8 - (v7n : Int))) < x1))
 (callE P i_strings_Builder_grow #[.pointer x0, .int .i64 x1] (fun e w11 => e = .returned (.tuple #[]) ∧
 R (.returned (.tuple #[])) w11) w9)
 (R (.returned (.tuple #[])) w9)

end g_strings_Builder_Grow
def g_strings_Builder_Grow (R : EP) (x0 : OA) (x1 : Int) (w : World) : Prop :=
 callE P i_strings_Builder_copyCheck #[.pointer x0] (fun e w2 => e = .returned (.tuple #[]) ∧
 br (decide (x1 < 0))
 (False)
 (g_strings_Builder_Grow.k1 R x0 x1 w2)) w

namespace g_strings_Builder_Grow
noncomputable def ac (R : EP) : AC :=
 (.seq (.leaf (sel [0] body)) (.seq (.leaf (sel [1,0] body)) (.mark (leaf [(0, .s .ptr), (1, .s (.int .i64))] (k1 R)) (.seq (.draw (.pure 0 (.pure 1 (.pure 2 (.pure 5 (.pure 6 (.pure 7 (.pure 11 (.load 3 (.load 8 (.pure 9 (.one 4 (.pure 10 (.pure 12 .done))))))))))))) (sel [1,1,0] body)) (.leaf (sel [1,1,1] body))))))
theorem good (R : EP) : Good P 25 (ac R) (QF P [] R) :=
 ⟨trivial, ⟨trivial, ⟨⟨⟨by kernel_rfl, by kernel_rfl, fun _ _ _ h => h⟩, trivial⟩, cutZ⟩⟩⟩
theorem eq (R : EP) (x0 : OA) (x1 : Int) (w : World) : g_strings_Builder_Grow R x0 x1 w = vcA P 25 (ac R) (QF P [] R) (fr0 [.pointer x0, .int .i64 x1]) w := by kernel_rfl
theorem sound {R : EP} {x0 : OA} {x1 : Int} {w : World} (h : g_strings_Builder_Grow R x0 x1 w) : callE P i_strings_Builder_Grow #[.pointer x0, .int .i64 x1] R w :=
 callE_fz (c := body) Tryz.func212 Tryz.call212 (good R) (eq R x0 x1 w) h
end g_strings_Builder_Grow
end Go.Proofs.YtgbgadkldalkbaaGreatDoor
