/- Part 2 of the proof of the law FnKeptTree: for every input the law returns true, the inputs read as they did, and memory that was there is as it was; under the conditions of the given row alone. -/
import Derived.Laws.Slices
import Derived.Test.YtgbgadkldalkbaaGreatDoorA1
set_option linter.all false
set_option linter.unusedVariables false
set_option maxRecDepth 20000
namespace Go.Proofs.YtgbgadkldalkbaaGreatDoor
open Go.Proofs
namespace g_newSetextHeading
noncomputable def body : Code := bodyOf Tryz.f126
def k1 (R : EP) (x0 : OA) (x3 x4 x6 : Nat) (x19 : Bool) (w : World) : Prop :=
 br x19
 (callE P i_parseState_closeBlock #[.pointer x0] (fun e w28 => ∃ (r27 : Value), e = .returned r27 ∧
 callE P i_parseState_last #[.pointer x0] (fun e w30 => ∃ (r29 : Value), e = .returned r29 ∧
 ∃ (r31_0 : OA), ∃ (r31_1 : Bool), ∃ w32, (Instr.typeAssert r29 ty_Block ty_P_Paragraph true).run P w30 = .ok (.tuple #[.pointer r31_0, .bool r31_1]) w32 ∧
 br (!r31_1)
 (∃ (v33 : Int), w32.cell? ⟨x3, 0, none⟩ = some (.int .i64 v33) ∧
 ∃ (v34 : Int), w32.cell? ⟨x3, 1, none⟩ = some (.int .i64 v34) ∧
 ∃ (v35 : Int), w32.cell? ⟨x3, 2, none⟩ = some (.int .i64 v35) ∧
 ∃ (v36 : BA), w32.cell? ⟨x3, 3, none⟩ = some (.string v36) ∧
 ∃ (v37 : Int), w32.cell? ⟨x3, 4, none⟩ = some (.int .u8 v37) ∧
 stV w32 ⟨x4, 0, none⟩ (.int .i64 v33) fun w38 =>
 stV w38 ⟨x4, 1, none⟩ (.int .i64 v34) fun w39 =>
 stV w39 ⟨x4, 2, none⟩ (.int .i64 v35) fun w40 =>
 stV w40 ⟨x4, 3, none⟩ (.string v36) fun w41 =>
 stV w41 ⟨x4, 4, none⟩ (.int .u8 v37) fun w42 =>
 ∃ (v43 : Int), w42.cell? ⟨x4, 0, none⟩ = some (.int .i64 v43) ∧
 ∃ (v44 : Int), w42.cell? ⟨x4, 1, none⟩ = some (.int .i64 v44) ∧
 ∃ (v45 : Int), w42.cell? ⟨x4, 2, none⟩ = some (.int .i64 v45) ∧
 ∃ (v46 : BA), w42.cell? ⟨x4, 3, none⟩ = some (.string v46) ∧
 ∃ (v47 : Int), w42.cell? ⟨x4, 4, none⟩ = some (.int .u8 v47) ∧
 R (.returned (.tuple #[.agg #[.int .i64 v43, .int .i64 v44, .int .i64 v45, .string v46, .int .u8 v47], .bool false])) w42)
 (callE P i_parseState_deleteLast #[.pointer x0] (fun e w49 => e = .returned (.tuple #[]) ∧
 tk w49 fun w50 =>
 nilP r31_0 fun a51 =>
 nilP x0 fun a52 =>
 nilP r31_0 fun a53 =>
 ∃ (v54 : Int), w50.cell? a51 = some (.int .i64 v54) ∧
 ∃ (v55 : Int), w50.cell? (a52.add 3) = some (.int .i64 v55) ∧
 ∃ (v56 : Int), w50.cell? ⟨x6, 0, none⟩ = some (.int .i64 v56) ∧
 ∃ (v57 : OA), w50.cell? (a53.add 2) = some (.pointer v57) ∧
 box w50 #[.int .i64 v54, .int .i64 v55, .int .i64 v56, .pointer v57, .string (ByteArray.mk #[])] ty_Heading fun b58 w59 =>
 callE P i_parseState_doneBlock #[.pointer x0, .iface ty_P_Heading (.pointer (some ⟨b58, 0, none⟩))] (fun e w61 => e = .returned (.tuple #[]) ∧
 stV w61 ⟨x4, 0, none⟩ (.int .i64 0) fun w62 =>
 stV w62 ⟨x4, 1, none⟩ (.int .i64 0) fun w63 =>
 stV w63 ⟨x4, 2, none⟩ (.int .i64 0) fun w64 =>
 stV w64 ⟨x4, 3, none⟩ (.string (ByteArray.mk #[])) fun w65 =>
 stV w65 ⟨x4, 4, none⟩ (.int .u8 0) fun w66 =>
 ∃ (v67 : Int), w66.cell? ⟨x4, 0, none⟩ = some (.int .i64 v67) ∧
 ∃ (v68 : Int), w66.cell? ⟨x4, 1, none⟩ = some (.int .i64 v68) ∧
 ∃ (v69 : Int), w66.cell? ⟨x4, 2, none⟩ = some (.int .i64 v69) ∧
 ∃ (v70 : BA), w66.cell? ⟨x4, 3, none⟩ = some (.string v70) ∧
 ∃ (v71 : Int), w66.cell? ⟨x4, 4, none⟩ = some (.int .u8 v71) ∧
 R (.returned (.tuple #[.agg #[.int .i64 v67, .int .i64 v68, .int .i64 v69, .string v70, .int .u8 v71], .bool true])) w66) w59) w32)) w28) w)
 (∃ (v72 : Int), w.cell? ⟨x3, 0, none⟩ = some (.int .i64 v72) ∧
 ∃ (v73 : Int), w.cell? ⟨x3, 1, none⟩ = some (.int .i64 v73) ∧
 ∃ (v74 : Int), w.cell? ⟨x3, 2, none⟩ = some (.int .i64 v74) ∧
 ∃ (v75 : BA), w.cell? ⟨x3, 3, none⟩ = some (.string v75) ∧
 ∃ (v76 : Int), w.cell? ⟨x3, 4, none⟩ = some (.int .u8 v76) ∧
 stV w ⟨x4, 0, none⟩ (.int .i64 v72) fun w77 =>
 stV w77 ⟨x4, 1, none⟩ (.int .i64 v73) fun w78 =>
 stV w78 ⟨x4, 2, none⟩ (.int .i64 v74) fun w79 =>
 stV w79 ⟨x4, 3, none⟩ (.string v75) fun w80 =>
 stV w80 ⟨x4, 4, none⟩ (.int .u8 v76) fun w81 =>
 ∃ (v82 : Int), w81.cell? ⟨x4, 0, none⟩ = some (.int .i64 v82) ∧
 ∃ (v83 : Int), w81.cell? ⟨x4, 1, none⟩ = some (.int .i64 v83) ∧
 ∃ (v84 : Int), w81.cell? ⟨x4, 2, none⟩ = some (.int .i64 v84) ∧
 ∃ (v85 : BA), w81.cell? ⟨x4, 3, none⟩ = some (.string v85) ∧
 ∃ (v86 : Int), w81.cell? ⟨x4, 4, none⟩ = some (.int .u8 v86) ∧
 R (.returned (.tuple #[.agg #[.int .i64 v82, .int .i64 v83, .int .i64 v84, .string v85, .int .u8 v86], .bool false])) w81)

end g_newSetextHeading
def g_newSetextHeading (R : EP) (x0 : OA) (x1_0 x1_1 x1_2 : Int) (x1_3 : BA) (x1_4 : Int) (w : World) : Prop :=
 box w #[.int .i64 x1_0, .int .i64 x1_1, .int .i64 x1_2, .string x1_3, .int .u8 x1_4] ty_line fun b1 w2 =>
 box w2 #[.int .i64 0, .int .i64 0, .int .i64 0, .string (ByteArray.mk #[]), .int .u8 0] ty_line fun b3 w4 =>
 box w4 #[.int .i64 0] ty_int fun b5 w6 =>
 ∃ (v7 : Int), w6.cell? ⟨b1, 0, none⟩ = some (.int .i64 v7) ∧
 ∃ (v8 : Int), w6.cell? ⟨b1, 1, none⟩ = some (.int .i64 v8) ∧
 ∃ (v9 : Int), w6.cell? ⟨b1, 2, none⟩ = some (.int .i64 v9) ∧
 ∃ (v10 : BA), w6.cell? ⟨b1, 3, none⟩ = some (.string v10) ∧
 ∃ (v11 : Int), w6.cell? ⟨b1, 4, none⟩ = some (.int .u8 v11) ∧
 box w6 #[.int .i64 0, .int .i64 0, .int .i64 0, .string (ByteArray.mk #[]), .int .u8 0] ty_line fun b12 w13 =>
 stV w13 ⟨b12, 0, none⟩ (.int .i64 v7) fun w14 =>
 stV w14 ⟨b12, 1, none⟩ (.int .i64 v8) fun w15 =>
 stV w15 ⟨b12, 2, none⟩ (.int .i64 v9) fun w16 =>
 stV w16 ⟨b12, 3, none⟩ (.string v10) fun w17 =>
 stV w17 ⟨b12, 4, none⟩ (.int .u8 v11) fun w18 =>
 callE P i_parseState_nextB #[.pointer x0] (fun e w20 => ∃ (r19 : Value), e = .returned r19 ∧
 callE P i_parseState_para #[.pointer x0] (fun e w22 => ∃ (r21 : OA), e = .returned (.pointer r21) ∧
 ∃ (r23 : Bool), ∃ w24, (do eqGuard .eql ty_blockBuilder (.tmp 12) (.tmp 15) r19 (.iface ty_P_paraBuilder (.pointer r21)); binOp .eql ty_blockBuilder r19 (.iface ty_P_paraBuilder (.pointer r21))).run P w22 = .ok (.bool r23) w24 ∧
 br r23
 (callE P i_line_trimSetext #[.pointer (some ⟨b12, 0, none⟩), .pointer (some ⟨b5, 0, none⟩)] (fun e w26 => ∃ (r25 : Bool), e = .returned (.bool r25) ∧
 g_newSetextHeading.k1 R x0 b1 b3 b5 r25 w26) w24)
 (g_newSetextHeading.k1 R x0 b1 b3 b5 false w24)) w20) w18

namespace g_newSetextHeading
noncomputable def ac (R : EP) : AC :=
 (.seq (.leaf (sel [0] body)) (.seq (.leaf (sel [1,0] body)) (.seq (.leaf (sel [1,1,0] body)) (.seq (.seq (.leaf (sel [1,1,1,0,0] body)) (.mark (leaf [(0, .s .ptr), (3, .s .loc), (4, .s .loc), (6, .s .loc), (19, .s .bool)] (k1 R)) (.cond 19 (.seq (.leaf (sel [1,1,1,0,1,0,0] body)) (.seq (.leaf (sel [1,1,1,0,1,0,1,0] body)) (.seq (.leaf (sel [1,1,1,0,1,0,1,1,0] body)) (.seq (.leaf (sel [1,1,1,0,1,0,1,1,1,0] body)) (.seq (.draw (.pure 0 (.pure 1 (.pure 2 (.pure 3 (.pure 4 (.pure 6 (.pure 7 (.pure 8 (.pure 12 (.pure 13 (.pure 14 (.load 5 (.load 9 (.pure 10 (.load 11 (.load 15 (.pure 16 (.one 17 (.pure 18 (.one 19 .done)))))))))))))))))))) (sel [1,1,1,0,1,0,1,1,1,1,0] body)) (.leaf (sel [1,1,1,0,1,0,1,1,1,1,1] body))))))) (.leaf (sel [1,1,1,0,1,1] body))))) (.leaf (sel [1,1,1,1] body))))))
theorem good (R : EP) : Good P 55 (ac R) (QF P [.cell 4 159, .tmp 5] R) :=
 ⟨trivial, ⟨trivial, ⟨trivial, ⟨⟨trivial, ⟨⟨⟨trivial, ⟨trivial, ⟨trivial, ⟨trivial, ⟨⟨by kernel_rfl, by kernel_rfl, fun _ _ _ h => h⟩, trivial⟩⟩⟩⟩⟩, trivial⟩, cutZ⟩⟩, trivial⟩⟩⟩⟩
theorem eq (R : EP) (x0 : OA) (x1_0 x1_1 x1_2 : Int) (x1_3 : BA) (x1_4 : Int) (w : World) : g_newSetextHeading R x0 x1_0 x1_1 x1_2 x1_3 x1_4 w = vcA P 55 (ac R) (QF P [.cell 4 159, .tmp 5] R) (fr0 [.pointer x0, .agg #[.int .i64 x1_0, .int .i64 x1_1, .int .i64 x1_2, .string x1_3, .int .u8 x1_4]]) w := by kernel_rfl
theorem sound {R : EP} {x0 : OA} {x1_0 x1_1 x1_2 : Int} {x1_3 : ByteArray} {x1_4 : Int} {w : World} (h : g_newSetextHeading R x0 x1_0 x1_1 x1_2 x1_3 x1_4 w) : callE P i_newSetextHeading #[.pointer x0, .agg #[.int .i64 x1_0, .int .i64 x1_1, .int .i64 x1_2, .string x1_3, .int .u8 x1_4]] R w :=
 callE_fz (c := body) Tryz.func126 Tryz.call126 (good R) (eq R x0 x1_0 x1_1 x1_2 x1_3 x1_4 w) h
end g_newSetextHeading
namespace g_newListItem
noncomputable def body : Code := bodyOf Tryz.f128
def k1 (R : EP) (x0 : OA) (x3 x4 : Nat) (x6 : OA) (x21 : Bool) (w : World) : Prop :=
 br x21
 (nilP x6 fun a13 =>
 ∃ (v14 : Value), w.cell? (a13.add 4) = some v14 ∧
 enterE P (do let d ← Deferred.ofValue v14 #[]; invoke d.target d.args) (fun e w16 => ∃ (r15_0 : Int), ∃ (r15_1 : Int), ∃ (r15_2 : Int), ∃ (r15_3 : BA), ∃ (r15_4 : Int), e = .returned (.agg #[.int .i64 r15_0, .int .i64 r15_1, .int .i64 r15_2, .string r15_3, .int .u8 r15_4]) ∧
 stV w16 ⟨x3, 0, none⟩ (.int .i64 r15_0) fun w17 =>
 stV w17 ⟨x3, 1, none⟩ (.int .i64 r15_1) fun w18 =>
 stV w18 ⟨x3, 2, none⟩ (.int .i64 r15_2) fun w19 =>
 stV w19 ⟨x3, 3, none⟩ (.string r15_3) fun w20 =>
 stV w20 ⟨x3, 4, none⟩ (.int .u8 r15_4) fun w21 =>
 nilP x6 fun a22 =>
 stV w21 ((a22.add 4).add 0) .nilFunc fun w23 =>
 ∃ (v24 : Int), w23.cell? ⟨x3, 0, none⟩ = some (.int .i64 v24) ∧
 ∃ (v25 : Int), w23.cell? ⟨x3, 1, none⟩ = some (.int .i64 v25) ∧
 ∃ (v26 : Int), w23.cell? ⟨x3, 2, none⟩ = some (.int .i64 v26) ∧
 ∃ (v27 : BA), w23.cell? ⟨x3, 3, none⟩ = some (.string v27) ∧
 ∃ (v28 : Int), w23.cell? ⟨x3, 4, none⟩ = some (.int .u8 v28) ∧
 stV w23 ⟨x4, 0, none⟩ (.int .i64 v24) fun w29 =>
 stV w29 ⟨x4, 1, none⟩ (.int .i64 v25) fun w30 =>
 stV w30 ⟨x4, 2, none⟩ (.int .i64 v26) fun w31 =>
 stV w31 ⟨x4, 3, none⟩ (.string v27) fun w32 =>
 stV w32 ⟨x4, 4, none⟩ (.int .u8 v28) fun w33 =>
 ∃ (v34 : Int), w33.cell? ⟨x4, 0, none⟩ = some (.int .i64 v34) ∧
 ∃ (v35 : Int), w33.cell? ⟨x4, 1, none⟩ = some (.int .i64 v35) ∧
 ∃ (v36 : Int), w33.cell? ⟨x4, 2, none⟩ = some (.int .i64 v36) ∧
 ∃ (v37 : BA), w33.cell? ⟨x4, 3, none⟩ = some (.string v37) ∧
 ∃ (v38 : Int), w33.cell? ⟨x4, 4, none⟩ = some (.int .u8 v38) ∧
 R (.returned (.tuple #[.agg #[.int .i64 v34, .int .i64 v35, .int .i64 v36, .string v37, .int .u8 v38], .bool true])) w33) w)
 (callE P i_parseState_startListItem #[.pointer x0, .pointer (some ⟨x3, 0, none⟩)] (fun e w40 => ∃ (r39 : Bool), e = .returned (.bool r39) ∧
 br r39
 (∃ (v41 : Int), w40.cell? ⟨x3, 0, none⟩ = some (.int .i64 v41) ∧
 ∃ (v42 : Int), w40.cell? ⟨x3, 1, none⟩ = some (.int .i64 v42) ∧
 ∃ (v43 : Int), w40.cell? ⟨x3, 2, none⟩ = some (.int .i64 v43) ∧
 ∃ (v44 : BA), w40.cell? ⟨x3, 3, none⟩ = some (.string v44) ∧
 ∃ (v45 : Int), w40.cell? ⟨x3, 4, none⟩ = some (.int .u8 v45) ∧
 stV w40 ⟨x4, 0, none⟩ (.int .i64 v41) fun w46 =>
 stV w46 ⟨x4, 1, none⟩ (.int .i64 v42) fun w47 =>
 stV w47 ⟨x4, 2, none⟩ (.int .i64 v43) fun w48 =>
 stV w48 ⟨x4, 3, none⟩ (.string v44) fun w49 =>
 stV w49 ⟨x4, 4, none⟩ (.int .u8 v45) fun w50 =>
 ∃ (v51 : Int), w50.cell? ⟨x4, 0, none⟩ = some (.int .i64 v51) ∧
 ∃ (v52 : Int), w50.cell? ⟨x4, 1, none⟩ = some (.int .i64 v52) ∧
 ∃ (v53 : Int), w50.cell? ⟨x4, 2, none⟩ = some (.int .i64 v53) ∧
 ∃ (v54 : BA), w50.cell? ⟨x4, 3, none⟩ = some (.string v54) ∧
 ∃ (v55 : Int), w50.cell? ⟨x4, 4, none⟩ = some (.int .u8 v55) ∧
 R (.returned (.tuple #[.agg #[.int .i64 v51, .int .i64 v52, .int .i64 v53, .string v54, .int .u8 v55], .bool true])) w50)
 (∃ (v56 : Int), w40.cell? ⟨x3, 0, none⟩ = some (.int .i64 v56) ∧
 ∃ (v57 : Int), w40.cell? ⟨x3, 1, none⟩ = some (.int .i64 v57) ∧
 ∃ (v58 : Int), w40.cell? ⟨x3, 2, none⟩ = some (.int .i64 v58) ∧
 ∃ (v59 : BA), w40.cell? ⟨x3, 3, none⟩ = some (.string v59) ∧
 ∃ (v60 : Int), w40.cell? ⟨x3, 4, none⟩ = some (.int .u8 v60) ∧
 stV w40 ⟨x4, 0, none⟩ (.int .i64 v56) fun w61 =>
 stV w61 ⟨x4, 1, none⟩ (.int .i64 v57) fun w62 =>
 stV w62 ⟨x4, 2, none⟩ (.int .i64 v58) fun w63 =>
 stV w63 ⟨x4, 3, none⟩ (.string v59) fun w64 =>
 stV w64 ⟨x4, 4, none⟩ (.int .u8 v60) fun w65 =>
 ∃ (v66 : Int), w65.cell? ⟨x4, 0, none⟩ = some (.int .i64 v66) ∧
 ∃ (v67 : Int), w65.cell? ⟨x4, 1, none⟩ = some (.int .i64 v67) ∧
 ∃ (v68 : Int), w65.cell? ⟨x4, 2, none⟩ = some (.int .i64 v68) ∧
 ∃ (v69 : BA), w65.cell? ⟨x4, 3, none⟩ = some (.string v69) ∧
 ∃ (v70 : Int), w65.cell? ⟨x4, 4, none⟩ = some (.int .u8 v70) ∧
 R (.returned (.tuple #[.agg #[.int .i64 v66, .int .i64 v67, .int .i64 v68, .string v69, .int .u8 v70], .bool false])) w65)) w)

end g_newListItem
def g_newListItem (R : EP) (x0 : OA) (x1_0 x1_1 x1_2 : Int) (x1_3 : BA) (x1_4 : Int) (w : World) : Prop :=
 box w #[.int .i64 x1_0, .int .i64 x1_1, .int .i64 x1_2, .string x1_3, .int .u8 x1_4] ty_line fun b1 w2 =>
 box w2 #[.int .i64 0, .int .i64 0, .int .i64 0, .string (ByteArray.mk #[]), .int .u8 0] ty_line fun b3 w4 =>
 callE P i_parseState_curB #[.pointer x0] (fun e w6 => ∃ (r5 : Value), e = .returned r5 ∧
 ∃ (r7_0 : OA), ∃ (r7_1 : Bool), ∃ w8, (Instr.typeAssert r5 ty_blockBuilder ty_P_listBuilder true).run P w6 = .ok (.tuple #[.pointer r7_0, .bool r7_1]) w8 ∧
 br r7_1
 (nilP r7_0 fun a9 =>
 ∃ (v10 : Value), w8.cell? (a9.add 4) = some v10 ∧
 ∃ (r11 : Bool), ∃ w12, (do eqGuard .neq ty_func_line (.tmp 19) (.const .nilFunc) v10 .nilFunc; binOp .neq ty_func_line v10 .nilFunc).run P w8 = .ok (.bool r11) w12 ∧
 g_newListItem.k1 R x0 b1 b3 r7_0 r11 w12)
 (g_newListItem.k1 R x0 b1 b3 r7_0 false w8)) w4

namespace g_newListItem
noncomputable def ac (R : EP) : AC :=
 (.seq (.leaf (sel [0] body)) (.seq (.seq (.leaf (sel [1,0,0] body)) (.seq (.leaf (sel [1,0,1,0] body)) (.mark (leaf [(0, .s .ptr), (3, .s .loc), (4, .s .loc), (6, .s .ptr), (21, .s .bool)] (k1 R)) (.leaf (sel [1,0,1,1] body))))) (.leaf (sel [1,1] body))))
theorem good (R : EP) : Good P 35 (ac R) (QF P [.cell 4 159, .tmp 5] R) :=
 ⟨trivial, ⟨⟨trivial, ⟨trivial, ⟨trivial, cutZ⟩⟩⟩, trivial⟩⟩
theorem eq (R : EP) (x0 : OA) (x1_0 x1_1 x1_2 : Int) (x1_3 : BA) (x1_4 : Int) (w : World) : g_newListItem R x0 x1_0 x1_1 x1_2 x1_3 x1_4 w = vcA P 35 (ac R) (QF P [.cell 4 159, .tmp 5] R) (fr0 [.pointer x0, .agg #[.int .i64 x1_0, .int .i64 x1_1, .int .i64 x1_2, .string x1_3, .int .u8 x1_4]]) w := by kernel_rfl
theorem sound {R : EP} {x0 : OA} {x1_0 x1_1 x1_2 : Int} {x1_3 : ByteArray} {x1_4 : Int} {w : World} (h : g_newListItem R x0 x1_0 x1_1 x1_2 x1_3 x1_4 w) : callE P i_newListItem #[.pointer x0, .agg #[.int .i64 x1_0, .int .i64 x1_1, .int .i64 x1_2, .string x1_3, .int .u8 x1_4]] R w :=
 callE_fz (c := body) Tryz.func128 Tryz.call128 (good R) (eq R x0 x1_0 x1_1 x1_2 x1_3 x1_4 w) h
end g_newListItem
namespace g_parseState_curB
noncomputable def body : Code := bodyOf Tryz.f187
end g_parseState_curB
def g_parseState_curB (R : EP) (x0 : OA) (w : World) : Prop :=
 tk w fun w1 =>
 nilP x0 fun a2 =>
 nilP x0 fun a3 =>
 ∃ (v4 : Int), w1.cell? (a2.add 5) = some (.int .i64 v4) ∧
 ∃ (v5q : OA), ∃ (v5n : Nat), ∃ (v5c : Nat), w1.cell? (a3.add 4) = some (.slice v5q v5n v5c) ∧
 br (decide (v4 < (v5n : Int)))
 (tk w1 fun w6 =>
 nilP x0 fun a7 =>
 nilP x0 fun a8 =>
 ∃ (v9q : OA), ∃ (v9n : Nat), ∃ (v9c : Nat), w6.cell? (a7.add 4) = some (.slice v9q v9n v9c) ∧
 ∃ (v10 : Int), w6.cell? (a8.add 5) = some (.int .i64 v10) ∧
 0 ≤ v10 ∧ v10 < (v9n : Int) ∧
 nilP v9q fun a11 =>
 ∃ (v12 : Value), w6.cell? (a11.add (Int.toNat v10 * 4)) = some v12 ∧
 R (.returned v12) w6)
 (R (.returned .nilIface) w1)

namespace g_parseState_curB
noncomputable def ac (R : EP) : AC :=
 (.seq (.leaf (sel [0] body)) (.seq (.seq (.draw (.pure 0 (.pure 1 (.pure 2 (.pure 4 (.pure 5 (.pure 6 (.load 3 (.load 7 (.pure 8 (.pure 9 .done)))))))))) (sel [1,0,0] body)) (.cond 12 (.seq (.draw (.pure 0 (.pure 1 (.pure 2 (.pure 4 (.pure 5 (.pure 6 (.load 3 (.load 7 (.pure 8 (.pure 9 (.load 10 (.pure 11 .done)))))))))))) (sel [1,0,1,0,0] body)) (.leaf (sel [1,0,1,0,1] body))) (.leaf (sel [1,0,1,1] body)))) (.leaf (sel [1,1] body))))
theorem good (R : EP) : Good P 24 (ac R) (QF P [.tmp 2] R) :=
 ⟨trivial, ⟨⟨⟨by kernel_rfl, by kernel_rfl, fun _ _ _ h => h⟩, ⟨⟨⟨by kernel_rfl, by kernel_rfl, fun _ _ _ h => h⟩, trivial⟩, trivial⟩⟩, trivial⟩⟩
theorem eq (R : EP) (x0 : OA) (w : World) : g_parseState_curB R x0 w = vcA P 24 (ac R) (QF P [.tmp 2] R) (fr0 [.pointer x0]) w := by kernel_rfl
theorem sound {R : EP} {x0 : OA} {w : World} (h : g_parseState_curB R x0 w) : callE P i_parseState_curB #[.pointer x0] R w :=
 callE_fz (c := body) Tryz.func187 Tryz.call187 (good R) (eq R x0 w) h
end g_parseState_curB
namespace g_parseState_nextB
noncomputable def body : Code := bodyOf Tryz.f182
end g_parseState_nextB
def g_parseState_nextB (R : EP) (x0 : OA) (w : World) : Prop :=
 tk w fun w1 =>
 nilP x0 fun a2 =>
 nilP x0 fun a3 =>
 ∃ (v4 : Int), w1.cell? (a2.add 5) = some (.int .i64 v4) ∧
 ∃ (v5q : OA), ∃ (v5n : Nat), ∃ (v5c : Nat), w1.cell? (a3.add 4) = some (.slice v5q v5n v5c) ∧
 br (decide ((IntKind.i64.wrap (v4 + 1)) < (v5n : Int)))
 (tk w1 fun w6 =>
 nilP x0 fun a7 =>
 nilP x0 fun a8 =>
 ∃ (v9q : OA), ∃ (v9n : Nat), ∃ (v9c : Nat), w6.cell? (a7.add 4) = some (.slice v9q v9n v9c) ∧
 ∃ (v10 : Int), w6.cell? (a8.add 5) = some (.int .i64 v10) ∧
 0 ≤ (IntKind.i64.wrap (v10 + 1)) ∧ (IntKind.i64.wrap (v10 + 1)) < (v9n : Int) ∧
 nilP v9q fun a11 =>
 ∃ (v12 : Value), w6.cell? (a11.add (Int.toNat (IntKind.i64.wrap (v10 + 1)) * 4)) = some v12 ∧
 R (.returned v12) w6)
 (R (.returned .nilIface) w1)

namespace g_parseState_nextB
noncomputable def ac (R : EP) : AC :=
 (.seq (.leaf (sel [0] body)) (.seq (.seq (.draw (.pure 0 (.pure 1 (.pure 2 (.pure 5 (.pure 6 (.pure 7 (.load 3 (.pure 4 (.load 8 (.pure 9 (.pure 10 .done))))))))))) (sel [1,0,0] body)) (.cond 13 (.seq (.draw (.pure 0 (.pure 1 (.pure 2 (.pure 4 (.pure 5 (.pure 6 (.load 3 (.load 7 (.pure 8 (.pure 9 (.pure 10 (.load 11 (.pure 12 .done))))))))))))) (sel [1,0,1,0,0] body)) (.leaf (sel [1,0,1,0,1] body))) (.leaf (sel [1,0,1,1] body)))) (.leaf (sel [1,1] body))))
theorem good (R : EP) : Good P 26 (ac R) (QF P [.tmp 2] R) :=
 ⟨trivial, ⟨⟨⟨by kernel_rfl, by kernel_rfl, fun _ _ _ h => h⟩, ⟨⟨⟨by kernel_rfl, by kernel_rfl, fun _ _ _ h => h⟩, trivial⟩, trivial⟩⟩, trivial⟩⟩
theorem eq (R : EP) (x0 : OA) (w : World) : g_parseState_nextB R x0 w = vcA P 26 (ac R) (QF P [.tmp 2] R) (fr0 [.pointer x0]) w := by kernel_rfl
theorem sound {R : EP} {x0 : OA} {w : World} (h : g_parseState_nextB R x0 w) : callE P i_parseState_nextB #[.pointer x0] R w :=
 callE_fz (c := body) Tryz.func182 Tryz.call182 (good R) (eq R x0 w) h
end g_parseState_nextB
namespace g_parseState_startListItem
noncomputable def body : Code := bodyOf Tryz.f188
def k5 (R : EP) (Xa : Nat → Nat → Int → Int → Int → Nat → Int → Int → WP) (x2 x5 : Nat) (x6 x8 x9 : Int) (x12 : Nat) (x13 x14 : Int) (w : World) : Prop :=
 Xa x2 x5 x6 x8 x9 x12 (IntKind.i64.wrap (x13 + 1)) (IntKind.i64.wrap (x14 + 1)) w

def k9 (R : EP) (Xb : Nat → Nat → Int → Int → Int → WP) (x2 x5 : Nat) (x6 x9 : Int) (x10 x11 : Int) (w : World) : Prop :=
 ∃ (v63 : Int), w.cell? ⟨x5, 1, none⟩ = some (.int .i64 v63) ∧
 br (decide ((IntKind.i64.wrap (x10 - v63)) ≥ 9))
 (R (.returned (.bool false)) w)
 (Xb x2 x5 x6 (IntKind.i64.wrap ((IntKind.i64.wrap ((IntKind.i64.wrap (x9 * 10)) + (IntKind.i64.wrap x11))) - 48)) (IntKind.i64.wrap (x10 + 1)) w)

def k14 (R : EP) (x2 x5 : Nat) (x15 x18 : Nat) (w : World) : Prop :=
 ∃ (v111 : OA), w.cell? ⟨x15, 0, none⟩ = some (.pointer v111) ∧
 nilP v111 fun a112 =>
 stV w ((a112.add 4).add 0) (.func (.func i_parseState_startListItem_1) #[] #[.pointer (some ⟨x2, 0, none⟩), .pointer (some ⟨x18, 0, none⟩), .pointer (some ⟨x15, 0, none⟩), .pointer (some ⟨x5, 0, none⟩)]) fun w113 =>
 R (.returned (.bool true)) w113

def k13 (R : EP) (x2 x5 : Nat) (x6 : Int) (x15 : Nat) (w : World) : Prop :=
 tk w fun w90 =>
 ∃ (v91 : OA), w90.cell? ⟨x15, 0, none⟩ = some (.pointer v91) ∧
 (callE P i_line_isBlank #[.pointer (some ⟨x5, 0, none⟩)] (fun e w93 => ∃ (r92 : Bool), e = .returned (.bool r92) ∧
 SameC w90 w93 ⟨x15, 0, none⟩ 1 ∧
 (box w93 #[.pointer v91, .int .i64 x6, .bool (!r92)] ty_itemBuilder fun b94 w95 =>
 box w95 #[.pointer none] ty_P_itemBuilder fun b96 w97 =>
 SameC w95 w97 ⟨x15, 0, none⟩ 1 ∧
 stV w97 ⟨b96, 0, none⟩ (.pointer (some ⟨b94, 0, none⟩)) fun w98 =>
 k14 R x2 x5 x15 b96 w98) ∧
 (box w93 #[.pointer none] ty_P_itemBuilder fun b99 w100 =>
 SameC w93 w100 ⟨x15, 0, none⟩ 1 ∧
 box w100 #[.pointer v91, .int .i64 x6, .bool (!r92)] ty_itemBuilder fun b101 w102 =>
 stV w102 ⟨b99, 0, none⟩ (.pointer (some ⟨b101, 0, none⟩)) fun w103 =>
 k14 R x2 x5 x15 b99 w103)) w90) ∧
 (box w90 #[.pointer none] ty_P_itemBuilder fun b104 w105 =>
 SameC w90 w105 ⟨x15, 0, none⟩ 1 ∧
 callE P i_line_isBlank #[.pointer (some ⟨x5, 0, none⟩)] (fun e w107 => ∃ (r106 : Bool), e = .returned (.bool r106) ∧
 SameC w105 w107 ⟨x15, 0, none⟩ 1 ∧
 box w107 #[.pointer v91, .int .i64 x6, .bool (!r106)] ty_itemBuilder fun b108 w109 =>
 stV w109 ⟨b104, 0, none⟩ (.pointer (some ⟨b108, 0, none⟩)) fun w110 =>
 k14 R x2 x5 x15 b104 w110) w105)

def k12 (R : EP) (x2 x5 : Nat) (x6 x8 x9 : Int) (x15 : Nat) (x158 : Bool) (w : World) : Prop :=
 br x158
 (∃ (v80 : OA), w.cell? ⟨x2, 0, none⟩ = some (.pointer v80) ∧
 nilP v80 fun a81 =>
 stV w ((a81.add 6).add 0) (.bool true) fun w82 =>
 R (.returned (.bool false)) w82)
 (box w #[.int .i32 (IntKind.i32.wrap x8), .int .i64 x9, .bool false, .pointer none, .nilFunc] ty_listBuilder fun b83 w84 =>
 stV w84 ⟨x15, 0, none⟩ (.pointer (some ⟨b83, 0, none⟩)) fun w85 =>
 ∃ (v86 : OA), w85.cell? ⟨x2, 0, none⟩ = some (.pointer v86) ∧
 ∃ (v87 : OA), w85.cell? ⟨x15, 0, none⟩ = some (.pointer v87) ∧
 callE P i_parseState_addBlock #[.pointer v86, .iface ty_P_listBuilder (.pointer v87)] (fun e w89 => e = .returned (.tuple #[]) ∧
 k13 R x2 x5 x6 x15 w89) w85)

def k11 (R : EP) (x2 x5 : Nat) (x6 x8 x9 : Int) (x15 : Nat) (x136 : Bool) (w : World) : Prop :=
 br x136
 (∃ (v70 : OA), w.cell? ⟨x15, 0, none⟩ = some (.pointer v70) ∧
 ∃ (r71 : Bool), ∃ w72, (do eqGuard .eql ty_P_listBuilder (.tmp 137) (.const (.pointer none)) (.pointer v70) (.pointer none); binOp .eql ty_P_listBuilder (.pointer v70) (.pointer none)).run P w = .ok (.bool r71) w72 ∧
 br r71
 (∃ (v73 : OA), w72.cell? ⟨x2, 0, none⟩ = some (.pointer v73) ∧
 callE P i_parseState_para #[.pointer v73] (fun e w75 => ∃ (r74 : OA), e = .returned (.pointer r74) ∧
 ∃ (r76 : Bool), ∃ w77, (do eqGuard .neq ty_P_paraBuilder (.tmp 141) (.const (.pointer none)) (.pointer r74) (.pointer none); binOp .neq ty_P_paraBuilder (.pointer r74) (.pointer none)).run P w75 = .ok (.bool r76) w77 ∧
 br r76
 (callE P i_line_isBlank #[.pointer (some ⟨x5, 0, none⟩)] (fun e w79 => ∃ (r78 : Bool), e = .returned (.bool r78) ∧
 k12 R x2 x5 x6 x8 x9 x15 (r78 || (((x8 == 46) || (x8 == 41)) && (x9 != 1))) w79) w77)
 (k12 R x2 x5 x6 x8 x9 x15 false w77)) w72)
 (k12 R x2 x5 x6 x8 x9 x15 false w72))
 (k13 R x2 x5 x6 x15 w)

def k10 (R : EP) (x2 x5 : Nat) (x6 x8 x9 : Int) (x15 : Nat) (w : World) : Prop :=
 ∃ (v64 : OA), w.cell? ⟨x15, 0, none⟩ = some (.pointer v64) ∧
 ∃ (r65 : Bool), ∃ w66, (do eqGuard .eql ty_P_listBuilder (.tmp 126) (.const (.pointer none)) (.pointer v64) (.pointer none); binOp .eql ty_P_listBuilder (.pointer v64) (.pointer none)).run P w = .ok (.bool r65) w66 ∧
 br r65
 (k11 R x2 x5 x6 x8 x9 x15 true w66)
 (∃ (v67 : OA), w66.cell? ⟨x15, 0, none⟩ = some (.pointer v67) ∧
 nilP v67 fun a68 =>
 ∃ (v69 : Int), w66.cell? a68 = some (.int .i32 v69) ∧
 k11 R x2 x5 x6 x8 x9 x15 (v69 != (IntKind.i32.wrap x8)) w66)

def k8 (R : EP) (x2 x5 : Nat) (x6 x8 x9 : Int) (w : World) : Prop :=
 box w #[.pointer none] ty_P_listBuilder fun b55 w56 =>
 ∃ (v57 : OA), w56.cell? ⟨x2, 0, none⟩ = some (.pointer v57) ∧
 callE P i_parseState_nextB #[.pointer v57] (fun e w59 => ∃ (r58 : Value), e = .returned r58 ∧
 ∃ (r60_0 : OA), ∃ (r60_1 : Bool), ∃ w61, (Instr.typeAssert r58 ty_blockBuilder ty_P_listBuilder true).run P w59 = .ok (.tuple #[.pointer r60_0, .bool r60_1]) w61 ∧
 br r60_1
 (stV w61 ⟨b55, 0, none⟩ (.pointer r60_0) fun w62 =>
 k10 R x2 x5 x6 x8 x9 b55 w62)
 (k10 R x2 x5 x6 x8 x9 b55 w61)) w56

def k6 (R : EP) (x2 x5 : Nat) (x6 x8 x9 : Int) (x12 : Nat) (x13 : Int) (w : World) : Prop :=
 callE P i_line_trimSpace #[.pointer (some ⟨x12, 0, none⟩), .int .i64 1, .int .i64 1, .bool true] (fun e w42 => ∃ (r41 : Bool), e = .returned (.bool r41) ∧
 br (!r41)
 (∃ (v43 : Int), w42.cell? ⟨x12, 0, none⟩ = some (.int .i64 v43) ∧
 ∃ (v44 : Int), w42.cell? ⟨x12, 1, none⟩ = some (.int .i64 v44) ∧
 ∃ (v45 : Int), w42.cell? ⟨x12, 2, none⟩ = some (.int .i64 v45) ∧
 ∃ (v46 : BA), w42.cell? ⟨x12, 3, none⟩ = some (.string v46) ∧
 ∃ (v47 : Int), w42.cell? ⟨x12, 4, none⟩ = some (.int .u8 v47) ∧
 stV w42 ⟨x5, 0, none⟩ (.int .i64 v43) fun w48 =>
 stV w48 ⟨x5, 1, none⟩ (.int .i64 v44) fun w49 =>
 stV w49 ⟨x5, 2, none⟩ (.int .i64 v45) fun w50 =>
 stV w50 ⟨x5, 3, none⟩ (.string v46) fun w51 =>
 stV w51 ⟨x5, 4, none⟩ (.int .u8 v47) fun w52 =>
 k8 R x2 x5 (IntKind.i64.wrap (x6 + x13)) x8 x9 w52)
 (k8 R x2 x5 x6 x8 x9 w42)) w

def bl2 (R : EP) (Xa : Nat → Nat → Int → Int → Int → Nat → Int → Int → WP) (x2 x5 : Nat) (x6 x8 x9 : Int) (x12 : Nat) (x13 x14 : Int) (w : World) : Prop :=
 br (decide (x14 < 3))
 (callE P i_line_trimSpace #[.pointer (some ⟨x12, 0, none⟩), .int .i64 1, .int .i64 1, .bool false] (fun e w38 => ∃ (r37 : Bool), e = .returned (.bool r37) ∧
 br r37
 (k5 R Xa x2 x5 x6 x8 x9 x12 x13 x14 w38)
 (k6 R x2 x5 x6 x8 x9 x12 x13 w38)) w)
 (k6 R x2 x5 x6 x8 x9 x12 x13 w)
def l2 (R : EP) (x2 x5 : Nat) (x6 x8 x9 : Int) (x12 : Nat) (x13 x14 : Int) (w : World) : Prop :=
 ∀ X : Nat → Nat → Int → Int → Int → Nat → Int → Int → WP, (∀ x2 x5 x6 x8 x9 x12 x13 x14 w, bl2 R X x2 x5 x6 x8 x9 x12 x13 x14 w → X x2 x5 x6 x8 x9 x12 x13 x14 w) → X x2 x5 x6 x8 x9 x12 x13 x14 w

noncomputable def al2 (R : EP) (Xa : Nat → Nat → Int → Int → Int → Nat → Int → Int → WP) : AC :=
 (.seq (.leaf (sel [1,0,1,1,1,1,1,1,1,1,1,1,1,0,1,0,0,0] body)) (.mark (leaf [(2, .s .loc), (5, .s .loc), (6, .s (.int .i64)), (8, .s (.int .u8)), (9, .s (.int .i64)), (12, .s .loc), (13, .s (.int .i64)), (14, .s (.int .i64))] (k5 R Xa)) (.leaf (sel [1,0,1,1,1,1,1,1,1,1,1,1,1,0,1,0,0,1] body))))
def k3 (R : EP) (x2 x5 : Nat) (x6 x8 x9 : Int) (w : World) : Prop :=
 callE P i_line_trimSpace #[.pointer (some ⟨x5, 0, none⟩), .int .i64 1, .int .i64 1, .bool true] (fun e w23 => ∃ (r22 : Bool), e = .returned (.bool r22) ∧
 br (!r22)
 (R (.returned (.bool false)) w23)
 (∃ (v24 : Int), w23.cell? ⟨x5, 0, none⟩ = some (.int .i64 v24) ∧
 ∃ (v25 : Int), w23.cell? ⟨x5, 1, none⟩ = some (.int .i64 v25) ∧
 ∃ (v26 : Int), w23.cell? ⟨x5, 2, none⟩ = some (.int .i64 v26) ∧
 ∃ (v27 : BA), w23.cell? ⟨x5, 3, none⟩ = some (.string v27) ∧
 ∃ (v28 : Int), w23.cell? ⟨x5, 4, none⟩ = some (.int .u8 v28) ∧
 box w23 #[.int .i64 0, .int .i64 0, .int .i64 0, .string (ByteArray.mk #[]), .int .u8 0] ty_line fun b29 w30 =>
 stV w30 ⟨b29, 0, none⟩ (.int .i64 v24) fun w31 =>
 stV w31 ⟨b29, 1, none⟩ (.int .i64 v25) fun w32 =>
 stV w32 ⟨b29, 2, none⟩ (.int .i64 v26) fun w33 =>
 stV w33 ⟨b29, 3, none⟩ (.string v27) fun w34 =>
 stV w34 ⟨b29, 4, none⟩ (.int .u8 v28) fun w35 =>
 l2 R x2 x5 (IntKind.i64.wrap (x6 + 1)) x8 x9 b29 0 0 w35)) w

def k7 (R : EP) (Xb : Nat → Nat → Int → Int → Int → WP) (x2 x5 : Nat) (x6 x9 : Int) (x10 x11 : Int) (x69 : Bool) (w : World) : Prop :=
 br x69
 (∃ (v53 : Int), w.cell? ⟨x5, 1, none⟩ = some (.int .i64 v53) ∧
 stV w ⟨x5, 1, none⟩ (.int .i64 (IntKind.i64.wrap (x10 + 1))) fun w54 =>
 k3 R x2 x5 (IntKind.i64.wrap (x6 + (IntKind.i64.wrap ((IntKind.i64.wrap (x10 + 1)) - v53)))) x11 x9 w54)
 (br ((decide (x11 < 48)) || (decide (57 < x11)))
 (R (.returned (.bool false)) w)
 (k9 R Xb x2 x5 x6 x9 x10 x11 w))

def bl3 (R : EP) (Xb : Nat → Nat → Int → Int → Int → WP) (x2 x5 : Nat) (x6 x9 x10 : Int) (w : World) : Prop :=
 ∃ (v39 : BA), w.cell? ⟨x5, 3, none⟩ = some (.string v39) ∧
 br (decide (x10 ≥ (v39.size : Int)))
 (R (.returned (.bool false)) w)
 (∃ (v40 : BA), w.cell? ⟨x5, 3, none⟩ = some (.string v40) ∧
 0 ≤ x10 ∧ x10 < (v40.size : Int) ∧
 k7 R Xb x2 x5 x6 x9 x10 (bt v40 x10) (((bt v40 x10) == 46) || ((bt v40 x10) == 41)) w)
def l3 (R : EP) (x2 x5 : Nat) (x6 x9 x10 : Int) (w : World) : Prop :=
 ∀ X : Nat → Nat → Int → Int → Int → WP, (∀ x2 x5 x6 x9 x10 w, bl3 R X x2 x5 x6 x9 x10 w → X x2 x5 x6 x9 x10 w) → X x2 x5 x6 x9 x10 w

noncomputable def al3 (R : EP) (Xb : Nat → Nat → Int → Int → Int → WP) : AC :=
 (.seq (.block 4 (.seq (.leaf (sel [1,0,1,1,1,1,1,1,0,1,0,1,1,1,0,1,0,0,0,0,0] body)) (.seq (.leaf (sel [1,0,1,1,1,1,1,1,0,1,0,1,1,1,0,1,0,0,0,0,1,0] body)) (.seq (.seq (.leaf (sel [1,0,1,1,1,1,1,1,0,1,0,1,1,1,0,1,0,0,0,0,1,1,0,0] body)) (.mark (leaf [(2, .s .loc), (5, .s .loc), (6, .s (.int .i64)), (9, .s (.int .i64)), (10, .s (.int .i64)), (11, .s (.int .u8)), (69, .s .bool)] (k7 R Xb)) (.leaf (sel [1,0,1,1,1,1,1,1,0,1,0,1,1,1,0,1,0,0,0,0,1,1,0,1] body)))) (.seq (.leaf (sel [1,0,1,1,1,1,1,1,0,1,0,1,1,1,0,1,0,0,0,0,1,1,1,0] body)) (.mark (leaf [(2, .s .loc), (5, .s .loc), (6, .s (.int .i64)), (9, .s (.int .i64)), (10, .s (.int .i64)), (11, .s (.int .u8))] (k9 R Xb)) (.leaf (sel [1,0,1,1,1,1,1,1,0,1,0,1,1,1,0,1,0,0,0,0,1,1,1,1] body)))))))) (.leaf (sel [1,0,1,1,1,1,1,1,0,1,0,1,1,1,0,1,0,0,1] body)))
def k4 (R : EP) (x2 x5 : Nat) (x6 x9 : Int) (x40 : Bool) (w : World) : Prop :=
 br x40
 (∃ (v36 : Int), w.cell? ⟨x5, 1, none⟩ = some (.int .i64 v36) ∧
 l3 R x2 x5 x6 x9 v36 w)
 (R (.returned (.bool false)) w)

def k2 (R : EP) (x2 x5 : Nat) (x6 x8 : Int) (x9 x31 : Int) (x32 : Bool) (w : World) : Prop :=
 br x32
 (callE P i_line_trim #[.pointer (some ⟨x5, 0, none⟩), .int .u8 x8] (fun e w21 => ∃ (r20 : Bool), e = .returned (.bool r20) ∧
 k3 R x2 x5 (IntKind.i64.wrap (x6 + 1)) x8 x9 w21) w)
 (br (x31 == 48)
 (k4 R x2 x5 x6 x9 true w)
 (br (x31 == 49)
 (k4 R x2 x5 x6 x9 true w)
 (br (x31 == 50)
 (k4 R x2 x5 x6 x9 true w)
 (br (x31 == 51)
 (k4 R x2 x5 x6 x9 true w)
 (br (x31 == 52)
 (k4 R x2 x5 x6 x9 true w)
 (br (x31 == 53)
 (k4 R x2 x5 x6 x9 true w)
 (br (x31 == 54)
 (k4 R x2 x5 x6 x9 true w)
 (br (x31 == 55)
 (k4 R x2 x5 x6 x9 true w)
 (br (x31 == 56)
 (k4 R x2 x5 x6 x9 true w)
 (k4 R x2 x5 x6 x9 (x31 == 57) w))))))))))

def k1 (R : EP) (x2 x5 : Nat) (x6 : Int) (w : World) : Prop :=
 callE P i_line_peek #[.pointer (some ⟨x5, 0, none⟩)] (fun e w19 => ∃ (r18 : Int), e = .returned (.int .u8 r18) ∧
 br (r18 == 45)
 (k2 R x2 x5 x6 r18 0 r18 true w19)
 (br (r18 == 42)
 (k2 R x2 x5 x6 r18 0 r18 true w19)
 (k2 R x2 x5 x6 r18 0 r18 (r18 == 43) w19))) w

def bl1 (R : EP) (Xc : Nat → Nat → Int → Int → WP) (x2 x5 : Nat) (x6 x7 : Int) (w : World) : Prop :=
 br (decide (x7 < 3))
 (callE P i_line_trimSpace #[.pointer (some ⟨x5, 0, none⟩), .int .i64 1, .int .i64 1, .bool false] (fun e w17 => ∃ (r16 : Bool), e = .returned (.bool r16) ∧
 br (!r16)
 (k1 R x2 x5 x6 w17)
 (Xc x2 x5 (IntKind.i64.wrap (x6 + 1)) (IntKind.i64.wrap (x7 + 1)) w17)) w)
 (k1 R x2 x5 x6 w)
def l1 (R : EP) (x2 x5 : Nat) (x6 x7 : Int) (w : World) : Prop :=
 ∀ X : Nat → Nat → Int → Int → WP, (∀ x2 x5 x6 x7 w, bl1 R X x2 x5 x6 x7 w → X x2 x5 x6 x7 w) → X x2 x5 x6 x7 w

noncomputable def al1 (R : EP) (Xc : Nat → Nat → Int → Int → WP) : AC :=
 (.leaf (sel [1,0,1,1,0,1,0,0] body))
end g_parseState_startListItem
def g_parseState_startListItem (R : EP) (x0 x1 : OA) (w : World) : Prop :=
 box w #[.pointer x0] ty_P_parseState fun b1 w2 =>
 nilP x1 fun a3 =>
 ∃ (v4 : Int), w2.cell? (a3.add 0) = some (.int .i64 v4) ∧
 ∃ (v5 : Int), w2.cell? (a3.add 1) = some (.int .i64 v5) ∧
 ∃ (v6 : Int), w2.cell? (a3.add 2) = some (.int .i64 v6) ∧
 ∃ (v7 : BA), w2.cell? (a3.add 3) = some (.string v7) ∧
 ∃ (v8 : Int), w2.cell? (a3.add 4) = some (.int .u8 v8) ∧
 box w2 #[.int .i64 0, .int .i64 0, .int .i64 0, .string (ByteArray.mk #[]), .int .u8 0] ty_line fun b9 w10 =>
 stV w10 ⟨b9, 0, none⟩ (.int .i64 v4) fun w11 =>
 stV w11 ⟨b9, 1, none⟩ (.int .i64 v5) fun w12 =>
 stV w12 ⟨b9, 2, none⟩ (.int .i64 v6) fun w13 =>
 stV w13 ⟨b9, 3, none⟩ (.string v7) fun w14 =>
 stV w14 ⟨b9, 4, none⟩ (.int .u8 v8) fun w15 =>
 g_parseState_startListItem.l1 R b1 b9 0 0 w15

namespace g_parseState_startListItem
noncomputable def ac (R : EP) : AC :=
 (.seq (.leaf (sel [0] body)) (.scope (.seq (.leaf (sel [1,0,0] body)) (.seq (.leaf (sel [1,0,1,0] body)) (.seq (.seq (.leaf (sel [1,0,1,1,0,0] body)) (.block 0 (.loop (leaf [(2, .s .loc), (5, .s .loc), (6, .s (.int .i64)), (7, .s (.int .i64))] (l1 R)) (sel [1,0,1,1,0,1,0,0] body)))) (.mark (leaf [(2, .s .loc), (5, .s .loc), (6, .s (.int .i64))] (k1 R)) (.seq (.leaf (sel [1,0,1,1,1,0] body)) (.seq (.leaf (sel [1,0,1,1,1,1,0] body)) (.seq (.leaf (sel [1,0,1,1,1,1,1,0] body)) (.seq (.seq (.leaf (sel [1,0,1,1,1,1,1,1,0,0] body)) (.block 2 (.seq (.leaf (sel [1,0,1,1,1,1,1,1,0,1,0,0] body)) (.mark (leaf [(2, .s .loc), (5, .s .loc), (6, .s (.int .i64)), (8, .s (.int .u8)), (9, .s (.int .i64)), (31, .s (.int .u8)), (32, .s .bool)] (k2 R)) (.cond 32 (.leaf (sel [1,0,1,1,1,1,1,1,0,1,0,1,0] body)) (.seq (.leaf (sel [1,0,1,1,1,1,1,1,0,1,0,1,1,0] body)) (.mark (leaf [(2, .s .loc), (5, .s .loc), (6, .s (.int .i64)), (9, .s (.int .i64)), (40, .s .bool)] (k4 R)) (.cond 40 (.seq (.leaf (sel [1,0,1,1,1,1,1,1,0,1,0,1,1,1,0,0] body)) (.block 3 (.loop (leaf [(2, .s .loc), (5, .s .loc), (6, .s (.int .i64)), (9, .s (.int .i64)), (10, .s (.int .i64))] (l3 R)) (sel [1,0,1,1,1,1,1,1,0,1,0,1,1,1,0,1,0,0] body)))) (.leaf (sel [1,0,1,1,1,1,1,1,0,1,0,1,1,1,1] body)))))))))) (.mark (leaf [(2, .s .loc), (5, .s .loc), (6, .s (.int .i64)), (8, .s (.int .u8)), (9, .s (.int .i64))] (k3 R)) (.seq (.leaf (sel [1,0,1,1,1,1,1,1,1,0] body)) (.seq (.leaf (sel [1,0,1,1,1,1,1,1,1,1,0] body)) (.seq (.leaf (sel [1,0,1,1,1,1,1,1,1,1,1,0] body)) (.seq (.leaf (sel [1,0,1,1,1,1,1,1,1,1,1,1,0] body)) (.seq (.seq (.leaf (sel [1,0,1,1,1,1,1,1,1,1,1,1,1,0,0] body)) (.block 5 (.loop (leaf [(2, .s .loc), (5, .s .loc), (6, .s (.int .i64)), (8, .s (.int .u8)), (9, .s (.int .i64)), (12, .s .loc), (13, .s (.int .i64)), (14, .s (.int .i64))] (l2 R)) (sel [1,0,1,1,1,1,1,1,1,1,1,1,1,0,1,0,0] body)))) (.mark (leaf [(2, .s .loc), (5, .s .loc), (6, .s (.int .i64)), (8, .s (.int .u8)), (9, .s (.int .i64)), (12, .s .loc), (13, .s (.int .i64))] (k6 R)) (.seq (.leaf (sel [1,0,1,1,1,1,1,1,1,1,1,1,1,1,0] body)) (.mark (leaf [(2, .s .loc), (5, .s .loc), (6, .s (.int .i64)), (8, .s (.int .u8)), (9, .s (.int .i64))] (k8 R)) (.seq (.leaf (sel [1,0,1,1,1,1,1,1,1,1,1,1,1,1,1,0] body)) (.seq (.leaf (sel [1,0,1,1,1,1,1,1,1,1,1,1,1,1,1,1,0] body)) (.mark (leaf [(2, .s .loc), (5, .s .loc), (6, .s (.int .i64)), (8, .s (.int .u8)), (9, .s (.int .i64)), (15, .s .loc)] (k10 R)) (.seq (.seq (.leaf (sel [1,0,1,1,1,1,1,1,1,1,1,1,1,1,1,1,1,0,0] body)) (.mark (leaf [(2, .s .loc), (5, .s .loc), (6, .s (.int .i64)), (8, .s (.int .u8)), (9, .s (.int .i64)), (15, .s .loc), (136, .s .bool)] (k11 R)) (.cond 136 (.seq (.seq (.leaf (sel [1,0,1,1,1,1,1,1,1,1,1,1,1,1,1,1,1,0,1,0,0,0] body)) (.mark (leaf [(2, .s .loc), (5, .s .loc), (6, .s (.int .i64)), (8, .s (.int .u8)), (9, .s (.int .i64)), (15, .s .loc), (158, .s .bool)] (k12 R)) (.leaf (sel [1,0,1,1,1,1,1,1,1,1,1,1,1,1,1,1,1,0,1,0,0,1] body)))) (.leaf (sel [1,0,1,1,1,1,1,1,1,1,1,1,1,1,1,1,1,0,1,0,1] body))) (.leaf (sel [1,0,1,1,1,1,1,1,1,1,1,1,1,1,1,1,1,0,1,1] body))))) (.mark (leaf [(2, .s .loc), (5, .s .loc), (6, .s (.int .i64)), (15, .s .loc)] (k13 R)) (.seq (.draw (.pure 1 (.load 0 (.two 2 (.pure 3 (.pure 4 (.two 5 (.one 6 (.one 7 .done)) 6 (.one 5 (.one 7 .done))))) 6 (.one 2 (.pure 3 (.pure 4 (.one 5 (.one 7 .done)))))))) (sel [1,0,1,1,1,1,1,1,1,1,1,1,1,1,1,1,1,1,0] body)) (.mark (leaf [(2, .s .loc), (5, .s .loc), (15, .s .loc), (18, .s .loc)] (k14 R)) (.leaf (sel [1,0,1,1,1,1,1,1,1,1,1,1,1,1,1,1,1,1,1] body))))))))))))))))))))))))))))
theorem good (R : EP) : Good P 181 (ac R) (QF P [.tmp 4] R) :=
 ⟨trivial, ⟨trivial, ⟨trivial, ⟨⟨trivial, (loopG (al1 R) (bl1 R) (fun _ => by kernel_rfl) (fun Xc => trivial) (fun Xc => by intro x2 x5 x6 x7 ρ w; kernel_rfl) (fun X h _ _ _ _ _ g => g X h))⟩, ⟨⟨trivial, ⟨trivial, ⟨trivial, ⟨⟨trivial, ⟨trivial, ⟨⟨trivial, ⟨trivial, ⟨⟨⟨trivial, (loopG (al3 R) (bl3 R) (fun _ => by kernel_rfl) (fun Xb => ⟨⟨trivial, ⟨trivial, ⟨⟨trivial, ⟨trivial, cutZ⟩⟩, ⟨trivial, ⟨trivial, cutZ⟩⟩⟩⟩⟩, trivial⟩) (fun Xb => by intro x2 x5 x6 x9 x10 ρ w; kernel_rfl) (fun X h _ _ _ _ _ _ g => g X h))⟩, trivial⟩, cutZ⟩⟩⟩, cutZ⟩⟩⟩, ⟨⟨trivial, ⟨trivial, ⟨trivial, ⟨trivial, ⟨⟨trivial, (loopG (al2 R) (bl2 R) (fun _ => by kernel_rfl) (fun Xa => ⟨trivial, ⟨trivial, cutZ⟩⟩) (fun Xa => by intro x2 x5 x6 x8 x9 x12 x13 x14 ρ w; kernel_rfl) (fun X h _ _ _ _ _ _ _ _ _ g => g X h))⟩, ⟨⟨trivial, ⟨⟨trivial, ⟨trivial, ⟨⟨⟨trivial, ⟨⟨⟨⟨trivial, ⟨trivial, cutZ⟩⟩, trivial⟩, trivial⟩, cutZ⟩⟩, ⟨⟨⟨by kernel_rfl, by kernel_rfl, fun _ _ _ h => h⟩, ⟨trivial, cutZ⟩⟩, cutZ⟩⟩, cutZ⟩⟩⟩, cutZ⟩⟩, cutZ⟩⟩⟩⟩⟩⟩, cutZ⟩⟩⟩⟩⟩, cutZ⟩⟩⟩⟩⟩
theorem eq (R : EP) (x0 x1 : OA) (w : World) : g_parseState_startListItem R x0 x1 w = vcA P 181 (ac R) (QF P [.tmp 4] R) (fr0 [.pointer x0, .pointer x1]) w := by kernel_rfl
theorem sound {R : EP} {x0 x1 : OA} {w : World} (h : g_parseState_startListItem R x0 x1 w) : callE P i_parseState_startListItem #[.pointer x0, .pointer x1] R w :=
 callE_fz (c := body) Tryz.func188 Tryz.call188 (good R) (eq R x0 x1 w) h
end g_parseState_startListItem
namespace g_newHTML
noncomputable def body : Code := bodyOf Tryz.f129
end g_newHTML
def g_newHTML (R : EP) (x0 : OA) (x1_0 x1_1 x1_2 : Int) (x1_3 : BA) (x1_4 : Int) (w : World) : Prop :=
 box w #[.int .i64 x1_0, .int .i64 x1_1, .int .i64 x1_2, .string x1_3, .int .u8 x1_4] ty_line fun b1 w2 =>
 box w2 #[.int .i64 0, .int .i64 0, .int .i64 0, .string (ByteArray.mk #[]), .int .u8 0] ty_line fun b3 w4 =>
 ∃ (v5 : Int), w4.cell? ⟨b1, 0, none⟩ = some (.int .i64 v5) ∧
 ∃ (v6 : Int), w4.cell? ⟨b1, 1, none⟩ = some (.int .i64 v6) ∧
 ∃ (v7 : Int), w4.cell? ⟨b1, 2, none⟩ = some (.int .i64 v7) ∧
 ∃ (v8 : BA), w4.cell? ⟨b1, 3, none⟩ = some (.string v8) ∧
 ∃ (v9 : Int), w4.cell? ⟨b1, 4, none⟩ = some (.int .u8 v9) ∧
 box w4 #[.int .i64 0, .int .i64 0, .int .i64 0, .string (ByteArray.mk #[]), .int .u8 0] ty_line fun b10 w11 =>
 stV w11 ⟨b10, 0, none⟩ (.int .i64 v5) fun w12 =>
 stV w12 ⟨b10, 1, none⟩ (.int .i64 v6) fun w13 =>
 stV w13 ⟨b10, 2, none⟩ (.int .i64 v7) fun w14 =>
 stV w14 ⟨b10, 3, none⟩ (.string v8) fun w15 =>
 stV w15 ⟨b10, 4, none⟩ (.int .u8 v9) fun w16 =>
 callE P i_parseState_startHTML #[.pointer x0, .pointer (some ⟨b10, 0, none⟩)] (fun e w18 => ∃ (r17 : Bool), e = .returned (.bool r17) ∧
 br r17
 (stV w18 ⟨b3, 0, none⟩ (.int .i64 0) fun w19 =>
 stV w19 ⟨b3, 1, none⟩ (.int .i64 0) fun w20 =>
 stV w20 ⟨b3, 2, none⟩ (.int .i64 0) fun w21 =>
 stV w21 ⟨b3, 3, none⟩ (.string (ByteArray.mk #[])) fun w22 =>
 stV w22 ⟨b3, 4, none⟩ (.int .u8 0) fun w23 =>
 ∃ (v24 : Int), w23.cell? ⟨b3, 0, none⟩ = some (.int .i64 v24) ∧
 ∃ (v25 : Int), w23.cell? ⟨b3, 1, none⟩ = some (.int .i64 v25) ∧
 ∃ (v26 : Int), w23.cell? ⟨b3, 2, none⟩ = some (.int .i64 v26) ∧
 ∃ (v27 : BA), w23.cell? ⟨b3, 3, none⟩ = some (.string v27) ∧
 ∃ (v28 : Int), w23.cell? ⟨b3, 4, none⟩ = some (.int .u8 v28) ∧
 R (.returned (.tuple #[.agg #[.int .i64 v24, .int .i64 v25, .int .i64 v26, .string v27, .int .u8 v28], .bool true])) w23)
 (∃ (v29 : Int), w18.cell? ⟨b1, 0, none⟩ = some (.int .i64 v29) ∧
 ∃ (v30 : Int), w18.cell? ⟨b1, 1, none⟩ = some (.int .i64 v30) ∧
 ∃ (v31 : Int), w18.cell? ⟨b1, 2, none⟩ = some (.int .i64 v31) ∧
 ∃ (v32 : BA), w18.cell? ⟨b1, 3, none⟩ = some (.string v32) ∧
 ∃ (v33 : Int), w18.cell? ⟨b1, 4, none⟩ = some (.int .u8 v33) ∧
 stV w18 ⟨b3, 0, none⟩ (.int .i64 v29) fun w34 =>
 stV w34 ⟨b3, 1, none⟩ (.int .i64 v30) fun w35 =>
 stV w35 ⟨b3, 2, none⟩ (.int .i64 v31) fun w36 =>
 stV w36 ⟨b3, 3, none⟩ (.string v32) fun w37 =>
 stV w37 ⟨b3, 4, none⟩ (.int .u8 v33) fun w38 =>
 ∃ (v39 : Int), w38.cell? ⟨b3, 0, none⟩ = some (.int .i64 v39) ∧
 ∃ (v40 : Int), w38.cell? ⟨b3, 1, none⟩ = some (.int .i64 v40) ∧
 ∃ (v41 : Int), w38.cell? ⟨b3, 2, none⟩ = some (.int .i64 v41) ∧
 ∃ (v42 : BA), w38.cell? ⟨b3, 3, none⟩ = some (.string v42) ∧
 ∃ (v43 : Int), w38.cell? ⟨b3, 4, none⟩ = some (.int .u8 v43) ∧
 R (.returned (.tuple #[.agg #[.int .i64 v39, .int .i64 v40, .int .i64 v41, .string v42, .int .u8 v43], .bool false])) w38)) w16

namespace g_newHTML
noncomputable def ac (R : EP) : AC :=
 (.leaf (sel [] body))
theorem good (R : EP) : Good P 12 (ac R) (QF P [.cell 4 159, .tmp 5] R) :=
 trivial
theorem eq (R : EP) (x0 : OA) (x1_0 x1_1 x1_2 : Int) (x1_3 : BA) (x1_4 : Int) (w : World) : g_newHTML R x0 x1_0 x1_1 x1_2 x1_3 x1_4 w = vcA P 12 (ac R) (QF P [.cell 4 159, .tmp 5] R) (fr0 [.pointer x0, .agg #[.int .i64 x1_0, .int .i64 x1_1, .int .i64 x1_2, .string x1_3, .int .u8 x1_4]]) w := by kernel_rfl
theorem sound {R : EP} {x0 : OA} {x1_0 x1_1 x1_2 : Int} {x1_3 : ByteArray} {x1_4 : Int} {w : World} (h : g_newHTML R x0 x1_0 x1_1 x1_2 x1_3 x1_4 w) : callE P i_newHTML #[.pointer x0, .agg #[.int .i64 x1_0, .int .i64 x1_1, .int .i64 x1_2, .string x1_3, .int .u8 x1_4]] R w :=
 callE_fz (c := body) Tryz.func129 Tryz.call129 (good R) (eq R x0 x1_0 x1_1 x1_2 x1_3 x1_4 w) h
end g_newHTML
namespace g_parseState_para
noncomputable def body : Code := bodyOf Tryz.f132
end g_parseState_para
def g_parseState_para (R : EP) (x0 : OA) (w : World) : Prop :=
 tk w fun w1 =>
 nilP x0 fun a2 =>
 nilP x0 fun a3 =>
 ∃ (v4q : OA), ∃ (v4n : Nat), ∃ (v4c : Nat), w1.cell? (a2.add 4) = some (.slice v4q v4n v4c) ∧
 ∃ (v5q : OA), ∃ (v5n : Nat), ∃ (v5c : Nat), w1.cell? (a3.add 4) = some (.slice v5q v5n v5c) ∧
 0 ≤ (IntKind.i64.wrap ((v5n : Int) - 1)) ∧ (IntKind.i64.wrap ((v5n : Int) - 1)) < (v4n : Int) ∧
 nilP v4q fun a6 =>
 ∃ (v7 : Value), w1.cell? (a6.add (Int.toNat (IntKind.i64.wrap ((v5n : Int) - 1)) * 4)) = some v7 ∧
 ∃ (r8_0 : OA), ∃ (r8_1 : Bool), (∀ w, (Instr.typeAssert v7 ty_blockBuilder ty_P_paraBuilder true).run P w = .ok (.tuple #[.pointer r8_0, .bool r8_1]) w) ∧
 br r8_1
 (R (.returned (.pointer r8_0)) w1)
 (R (.returned (.pointer none)) w1)

namespace g_parseState_para
noncomputable def ac (R : EP) : AC :=
 (.seq (.leaf (sel [0] body)) (.seq (.seq (.draw (.pure 0 (.pure 1 (.pure 2 (.pure 4 (.pure 5 (.pure 6 (.load 3 (.load 7 (.pure 8 (.pure 9 (.pure 10 (.pure 11 (.load 12 (.pure 13 (.pure 14 (.pure 15 (.pure 16 (.pure 17 (.pure 18 .done))))))))))))))))))) (sel [1,0,0] body)) (.leaf (sel [1,0,1] body))) (.leaf (sel [1,1] body))))
theorem good (R : EP) : Good P 24 (ac R) (QF P [.tmp 2] R) :=
 ⟨trivial, ⟨⟨⟨by kernel_rfl, by kernel_rfl, fun _ _ _ h => h⟩, trivial⟩, trivial⟩⟩
theorem eq (R : EP) (x0 : OA) (w : World) : g_parseState_para R x0 w = vcA P 24 (ac R) (QF P [.tmp 2] R) (fr0 [.pointer x0]) w := by kernel_rfl
theorem sound {R : EP} {x0 : OA} {w : World} (h : g_parseState_para R x0 w) : callE P i_parseState_para #[.pointer x0] R w :=
 callE_fz (c := body) Tryz.func132 Tryz.call132 (good R) (eq R x0 w) h
end g_parseState_para
namespace g_parseState_startHTML
noncomputable def body : Code := bodyOf Tryz.f189
def k10 (R : EP) (Xa : OA → OA → BA → Int → OA → Nat → Nat → WP) (x0 x1 : OA) (x6 : BA) (x9 : Int) (x10q : OA) (x10n x10c : Nat) (x11 : Int) (w : World) : Prop :=
 ∃ (r64q : OA), ∃ (r64n : Nat), ∃ (r64c : Nat), ∃ w65, (Instr.buildSlice ty_S_uint8 1 #[(0, .int .u8 x11)]).run P w = .ok (.slice r64q r64n r64c) w65 ∧
 ∃ (r66q : OA), ∃ (r66n : Nat), ∃ (r66c : Nat), ∃ w67, (Builtin.append_ #[ty_S_uint8, ty_S_uint8] ty_S_uint8 #[.slice x10q x10n x10c, .slice r64q r64n r64c]).run P w65 = .ok (.slice r66q r66n r66c) w67 ∧
 Xa x0 x1 x6 (IntKind.i64.wrap (x9 + 1)) r66q r66n r66c w67

def k14 (R : EP) (x0 x1 : OA) (w : World) : Prop :=
 box w #[.bool true, .slice none 0 0, .nilFunc] ty_htmlBuilder fun b76 w77 =>
 callE P i_parseState_addBlock #[.pointer x0, .iface ty_P_htmlBuilder (.pointer (some ⟨b76, 0, none⟩))] (fun e w79 => e = .returned (.tuple #[]) ∧
 tk w79 fun w80 =>
 ∃ (v81q : OA), ∃ (v81n : Nat), ∃ (v81c : Nat), w80.cell? ⟨b76, 1, none⟩ = some (.slice v81q v81n v81c) ∧
 callE P i_line_string #[.pointer x1] (fun e w83 => ∃ (r82 : BA), e = .returned (.string r82) ∧
 SameC w80 w83 ⟨b76, 1, none⟩ 1 ∧
 ∃ (r84q : OA), ∃ (r84n : Nat), ∃ (r84c : Nat), ∃ w85, (Instr.buildSlice ty_S_string 1 #[(0, .string r82)]).run P w83 = .ok (.slice r84q r84n r84c) w85 ∧
 SameC w83 w85 ⟨b76, 1, none⟩ 1 ∧
 ∃ (r86q : OA), ∃ (r86n : Nat), ∃ (r86c : Nat), ∃ w87, (Builtin.append_ #[ty_S_string, ty_S_string] ty_S_string #[.slice v81q v81n v81c, .slice r84q r84n r84c]).run P w85 = .ok (.slice r86q r86n r86c) w87 ∧
 stV w87 ⟨b76, 1, none⟩ (.slice r86q r86n r86c) fun w88 =>
 R (.returned (.bool true)) w88) w80) w77

def k18 (R : EP) (x0 x1 : OA) (w : World) : Prop :=
 box w #[.bool true, .slice none 0 0, .nilFunc] ty_htmlBuilder fun b120 w121 =>
 callE P i_parseState_addBlock #[.pointer x0, .iface ty_P_htmlBuilder (.pointer (some ⟨b120, 0, none⟩))] (fun e w123 => e = .returned (.tuple #[]) ∧
 tk w123 fun w124 =>
 ∃ (v125q : OA), ∃ (v125n : Nat), ∃ (v125c : Nat), w124.cell? ⟨b120, 1, none⟩ = some (.slice v125q v125n v125c) ∧
 callE P i_line_string #[.pointer x1] (fun e w127 => ∃ (r126 : BA), e = .returned (.string r126) ∧
 SameC w124 w127 ⟨b120, 1, none⟩ 1 ∧
 ∃ (r128q : OA), ∃ (r128n : Nat), ∃ (r128c : Nat), ∃ w129, (Instr.buildSlice ty_S_string 1 #[(0, .string r126)]).run P w127 = .ok (.slice r128q r128n r128c) w129 ∧
 SameC w127 w129 ⟨b120, 1, none⟩ 1 ∧
 ∃ (r130q : OA), ∃ (r130n : Nat), ∃ (r130c : Nat), ∃ w131, (Builtin.append_ #[ty_S_string, ty_S_string] ty_S_string #[.slice v125q v125n v125c, .slice r128q r128n r128c]).run P w129 = .ok (.slice r130q r130n r130c) w131 ∧
 stV w131 ⟨b120, 1, none⟩ (.slice r130q r130n r130c) fun w132 =>
 R (.returned (.bool true)) w132) w124) w121

def k19 (R : EP) (x0 x1 : OA) (x350 : Bool) (w : World) : Prop :=
 br x350
 (box w #[.bool true, .slice none 0 0, .nilFunc] ty_htmlBuilder fun b133 w134 =>
 callE P i_parseState_addBlock #[.pointer x0, .iface ty_P_htmlBuilder (.pointer (some ⟨b133, 0, none⟩))] (fun e w136 => e = .returned (.tuple #[]) ∧
 tk w136 fun w137 =>
 ∃ (v138q : OA), ∃ (v138n : Nat), ∃ (v138c : Nat), w137.cell? ⟨b133, 1, none⟩ = some (.slice v138q v138n v138c) ∧
 callE P i_line_string #[.pointer x1] (fun e w140 => ∃ (r139 : BA), e = .returned (.string r139) ∧
 SameC w137 w140 ⟨b133, 1, none⟩ 1 ∧
 ∃ (r141q : OA), ∃ (r141n : Nat), ∃ (r141c : Nat), ∃ w142, (Instr.buildSlice ty_S_string 1 #[(0, .string r139)]).run P w140 = .ok (.slice r141q r141n r141c) w142 ∧
 SameC w140 w142 ⟨b133, 1, none⟩ 1 ∧
 ∃ (r143q : OA), ∃ (r143n : Nat), ∃ (r143c : Nat), ∃ w144, (Builtin.append_ #[ty_S_string, ty_S_string] ty_S_string #[.slice v138q v138n v138c, .slice r141q r141n r141c]).run P w142 = .ok (.slice r143q r143n r143c) w144 ∧
 stV w144 ⟨b133, 1, none⟩ (.slice r143q r143n r143c) fun w145 =>
 R (.returned (.bool true)) w145) w137) w134)
 (R (.returned (.bool false)) w)

def k13 (R : EP) (Xb : OA → OA → BA → Int → OA → Nat → Nat → Int → Int → Bool → OA → Nat → Nat → Int → Int → WP) (x0 x1 : OA) (x6 : BA) (x9 : Int) (x10q : OA) (x10n x10c : Nat) (x12 x13 : Int) (x14 : Bool) (x184q : OA) (x184n x184c : Nat) (x185 x186 : Int) (x206 : Bool) (w : World) : Prop :=
 br x206
 (br (x12 == 9)
 (nilP x0 fun a74 =>
 stV w ((a74.add 6).add 0) (.bool true) fun w75 =>
 k14 R x0 x1 w75)
 (k14 R x0 x1 w))
 (Xb x0 x1 x6 x9 x10q x10n x10c x12 x13 x14 x184q x184n x184c x185 (IntKind.i64.wrap (x186 + 1)) w)

def k17 (R : EP) (x0 x1 : OA) (x6 : BA) (x20 : Int) (x310 : Bool) (w : World) : Prop :=
 br x310
 (br (x20 != (x6.size : Int))
 (nilP x0 fun a114 =>
 stV w ((a114.add 6).add 0) (.bool true) fun w115 =>
 k18 R x0 x1 w115)
 (k18 R x0 x1 w))
 (callE P i_parseHTMLClosingTag #[.pointer x0, .string x6, .int .i64 0] (fun e w117 => ∃ (r116_0 : Value), ∃ (r116_1 : Int), ∃ (r116_2 : Bool), e = .returned (.tuple #[r116_0, .int .i64 r116_1, .bool r116_2]) ∧
 br r116_2
 (callE P i_skipSpace #[.string x6, .int .i64 r116_1] (fun e w119 => ∃ (r118 : Int), e = .returned (.int .i64 r118) ∧
 k19 R x0 x1 (r118 == (x6.size : Int)) w119) w117)
 (k19 R x0 x1 false w117)) w)

def k16 (R : EP) (x0 x1 : OA) (x6 : BA) (w : World) : Prop :=
 callE P i_parseState_para #[.pointer x0] (fun e w107 => ∃ (r106 : OA), e = .returned (.pointer r106) ∧
 ∃ (r108 : Bool), ∃ w109, (do eqGuard .eql ty_P_paraBuilder (.tmp 293) (.const (.pointer none)) (.pointer r106) (.pointer none); binOp .eql ty_P_paraBuilder (.pointer r106) (.pointer none)).run P w107 = .ok (.bool r108) w109 ∧
 br r108
 (callE P i_parseHTMLOpenTag #[.pointer x0, .string x6, .int .i64 0] (fun e w111 => ∃ (r110_0 : Value), ∃ (r110_1 : Int), ∃ (r110_2 : Bool), e = .returned (.tuple #[r110_0, .int .i64 r110_1, .bool r110_2]) ∧
 br r110_2
 (callE P i_skipSpace #[.string x6, .int .i64 r110_1] (fun e w113 => ∃ (r112 : Int), e = .returned (.int .i64 r112) ∧
 k17 R x0 x1 x6 r110_1 (r112 == (x6.size : Int)) w113) w111)
 (k17 R x0 x1 x6 r110_1 false w111)) w109)
 (R (.returned (.bool false)) w109)) w

def k15 (R : EP) (x0 x1 : OA) (x6 : BA) (x266 : Bool) (w : World) : Prop :=
 br x266
 (box w #[.bool false, .slice none 0 0, .func (.func i_hasEndPre) #[] #[]] ty_htmlBuilder fun b89 w90 =>
 callE P i_parseState_addBlock #[.pointer x0, .iface ty_P_htmlBuilder (.pointer (some ⟨b89, 0, none⟩))] (fun e w92 => e = .returned (.tuple #[]) ∧
 tk w92 fun w93 =>
 ∃ (v94q : OA), ∃ (v94n : Nat), ∃ (v94c : Nat), w93.cell? ⟨b89, 1, none⟩ = some (.slice v94q v94n v94c) ∧
 callE P i_line_string #[.pointer x1] (fun e w96 => ∃ (r95 : BA), e = .returned (.string r95) ∧
 SameC w93 w96 ⟨b89, 1, none⟩ 1 ∧
 ∃ (r97q : OA), ∃ (r97n : Nat), ∃ (r97c : Nat), ∃ w98, (Instr.buildSlice ty_S_string 1 #[(0, .string r95)]).run P w96 = .ok (.slice r97q r97n r97c) w98 ∧
 SameC w96 w98 ⟨b89, 1, none⟩ 1 ∧
 ∃ (r99q : OA), ∃ (r99n : Nat), ∃ (r99c : Nat), ∃ w100, (Builtin.append_ #[ty_S_string, ty_S_string] ty_S_string #[.slice v94q v94n v94c, .slice r97q r97n r97c]).run P w98 = .ok (.slice r99q r99n r99c) w100 ∧
 stV w100 ⟨b89, 1, none⟩ (.slice r99q r99n r99c) fun w101 =>
 callE P i_hasEndPre #[.string x6] (fun e w103 => ∃ (r102 : Bool), e = .returned (.bool r102) ∧
 br r102
 (callE P i_parseState_closeBlock #[.pointer x0] (fun e w105 => ∃ (r104 : Value), e = .returned r104 ∧
 R (.returned (.bool true)) w105) w103)
 (R (.returned (.bool true)) w103)) w101) w93) w90)
 (k16 R x0 x1 x6 w)

def k12 (R : EP) (x0 x1 : OA) (x6 : BA) (x10q : OA) (x10n x10c : Nat) (x263 : Bool) (w : World) : Prop :=
 br x263
 (∃ (r72 : BA), ∃ w73, (convert ty_S_uint8 ty_string (.slice x10q x10n x10c)).run P w = .ok (.string r72) w73 ∧
 br (r72.toList == (ByteArray.mk #[112, 114, 101]).toList)
 (k15 R x0 x1 x6 true w73)
 (br (r72.toList == (ByteArray.mk #[115, 99, 114, 105, 112, 116]).toList)
 (k15 R x0 x1 x6 true w73)
 (br (r72.toList == (ByteArray.mk #[115, 116, 121, 108, 101]).toList)
 (k15 R x0 x1 x6 true w73)
 (k15 R x0 x1 x6 (r72.toList == (ByteArray.mk #[116, 101, 120, 116, 97, 114, 101, 97]).toList) w73))))
 (k16 R x0 x1 x6 w)

def k11 (R : EP) (x0 x1 : OA) (x6 : BA) (x9 : Int) (x10q : OA) (x10n x10c : Nat) (w : World) : Prop :=
 ((decide ((x6.size : Int) > 1)) = true → 0 ≤ (1 : Int) ∧ 1 < (x6.size : Int)) ∧
 ((((decide ((x6.size : Int) > 1)) && ((bt x6 1) != 47)) && (!(decide (x9 ≥ (x6.size : Int))))) = true → 0 ≤ x9 ∧ x9 < (x6.size : Int)) ∧
 ((((decide ((x6.size : Int) > 1)) && ((bt x6 1) != 47)) && (!((decide (x9 ≥ (x6.size : Int))) || ((bt x6 x9) == 32)))) = true → 0 ≤ x9 ∧ x9 < (x6.size : Int)) ∧
 ((((decide ((x6.size : Int) > 1)) && ((bt x6 1) != 47)) && (!(((decide (x9 ≥ (x6.size : Int))) || ((bt x6 x9) == 32)) || ((bt x6 x9) == 9)))) = true → 0 ≤ x9 ∧ x9 < (x6.size : Int)) ∧
 k12 R x0 x1 x6 x10q x10n x10c (((decide ((x6.size : Int) > 1)) && ((bt x6 1) != 47)) && ((((decide (x9 ≥ (x6.size : Int))) || ((bt x6 x9) == 32)) || ((bt x6 x9) == 9)) || ((bt x6 x9) == 62))) w

def bl2 (R : EP) (Xb : OA → OA → BA → Int → OA → Nat → Nat → Int → Int → Bool → OA → Nat → Nat → Int → Int → WP) (x0 x1 : OA) (x6 : BA) (x9 : Int) (x10q : OA) (x10n x10c : Nat) (x12 x13 : Int) (x14 : Bool) (x184q : OA) (x184n x184c : Nat) (x185 x186 : Int) (w : World) : Prop :=
 br (decide (x186 < x185))
 (0 ≤ x186 ∧ x186 < (x184n : Int) ∧
 nilP x184q fun a68 =>
 ∃ (v69 : BA), w.cell? (a68.add (Int.toNat x186 * 1)) = some (.string v69) ∧
 0 ≤ (0 : Int) ∧ 0 < (v69.size : Int) ∧
 br (((bt v69 0) == x13) && ((v69.size : Int) == (x10n : Int)))
 (∃ (r70 : BA), ∃ w71, (convert ty_S_uint8 ty_string (.slice x10q x10n x10c)).run P w = .ok (.string r70) w71 ∧
 k13 R Xb x0 x1 x6 x9 x10q x10n x10c x12 x13 x14 x184q x184n x184c x185 x186 (v69.toList == r70.toList) w71)
 (k13 R Xb x0 x1 x6 x9 x10q x10n x10c x12 x13 x14 x184q x184n x184c x185 x186 false w))
 (br (!x14)
 (k11 R x0 x1 x6 x9 x10q x10n x10c w)
 (k14 R x0 x1 w))
def l2 (R : EP) (x0 x1 : OA) (x6 : BA) (x9 : Int) (x10q : OA) (x10n x10c : Nat) (x12 x13 : Int) (x14 : Bool) (x184q : OA) (x184n x184c : Nat) (x185 x186 : Int) (w : World) : Prop :=
 ∀ X : OA → OA → BA → Int → OA → Nat → Nat → Int → Int → Bool → OA → Nat → Nat → Int → Int → WP, (∀ x0 x1 x6 x9 x10q x10n x10c x12 x13 x14 x184q x184n x184c x185 x186 w, bl2 R X x0 x1 x6 x9 x10q x10n x10c x12 x13 x14 x184q x184n x184c x185 x186 w → X x0 x1 x6 x9 x10q x10n x10c x12 x13 x14 x184q x184n x184c x185 x186 w) → X x0 x1 x6 x9 x10q x10n x10c x12 x13 x14 x184q x184n x184c x185 x186 w

noncomputable def al2 (R : EP) (Xb : OA → OA → BA → Int → OA → Nat → Nat → Int → Int → Bool → OA → Nat → Nat → Int → Int → WP) : AC :=
 (.seq (.leaf (sel [1,0,1,1,1,1,1,1,1,1,1,1,1,1,1,1,0,1,1,0,1,0,0,0] body)) (.seq (.leaf (sel [1,0,1,1,1,1,1,1,1,1,1,1,1,1,1,1,0,1,1,0,1,0,0,1,0] body)) (.seq (.block 5 (.seq (.leaf (sel [1,0,1,1,1,1,1,1,1,1,1,1,1,1,1,1,0,1,1,0,1,0,0,1,1,0,0,0] body)) (.seq (.leaf (sel [1,0,1,1,1,1,1,1,1,1,1,1,1,1,1,1,0,1,1,0,1,0,0,1,1,0,0,1,0] body)) (.mark (leaf [(0, .s .ptr), (1, .s .ptr), (6, .s .str), (9, .s (.int .i64)), (10, .s .slice), (12, .s (.int .u8)), (13, .s (.int .u8)), (14, .s .bool), (184, .s .slice), (185, .s (.int .i64)), (186, .s (.int .i64)), (206, .s .bool)] (k13 R Xb)) (.leaf (sel [1,0,1,1,1,1,1,1,1,1,1,1,1,1,1,1,0,1,1,0,1,0,0,1,1,0,0,1,1] body)))))) (.leaf (sel [1,0,1,1,1,1,1,1,1,1,1,1,1,1,1,1,0,1,1,0,1,0,0,1,1,1] body)))))
def k9 (R : EP) (x0 x1 : OA) (x6 : BA) (x9 : Int) (x10q : OA) (x10n x10c : Nat) (x12 : Int) (w : World) : Prop :=
 br ((x10n : Int) == 0)
 (k11 R x0 x1 x6 x9 x10q x10n x10c w)
 (0 ≤ (0 : Int) ∧ 0 < (x10n : Int) ∧
 nilP x10q fun a60 =>
 ∃ (v61 : Int), w.cell? (a60.add (Int.toNat 0 * 1)) = some (.int .u8 v61) ∧
 callE P i_htmlTags #[] (fun e w63 => ∃ (r62q : OA), ∃ (r62n : Nat), ∃ (r62c : Nat), e = .returned (.slice r62q r62n r62c) ∧
 l2 R x0 x1 x6 x9 x10q x10n x10c x12 v61 false r62q r62n r62c (r62n : Int) 0 w63) w)

def k8 (R : EP) (x0 x1 : OA) (x6 : BA) (x9 : Int) (x10q : OA) (x10n x10c : Nat) (x12 x156 : Int) (x157 : Bool) (w : World) : Prop :=
 br x157
 (0 ≤ x9 ∧ x9 < (x6.size : Int) ∧
 k9 R x0 x1 x6 x9 x10q x10n x10c (bt x6 x9) w)
 (br (x156 == 47)
 (((!(decide ((IntKind.i64.wrap (x9 + 1)) ≥ (x6.size : Int)))) = true → 0 ≤ (IntKind.i64.wrap (x9 + 1)) ∧ (IntKind.i64.wrap (x9 + 1)) < (x6.size : Int)) ∧
 br ((decide ((IntKind.i64.wrap (x9 + 1)) ≥ (x6.size : Int))) || ((bt x6 (IntKind.i64.wrap (x9 + 1))) != 62))
 (k11 R x0 x1 x6 x9 x10q x10n x10c w)
 (k9 R x0 x1 x6 x9 x10q x10n x10c x12 w))
 (k11 R x0 x1 x6 x9 x10q x10n x10c w))

def k6 (R : EP) (x0 x1 : OA) (x6 : BA) (x9 : Int) (x10q : OA) (x10n x10c : Nat) (w : World) : Prop :=
 br (decide (x9 < (x6.size : Int)))
 (0 ≤ x9 ∧ x9 < (x6.size : Int) ∧
 br ((bt x6 x9) == 32)
 (k8 R x0 x1 x6 x9 x10q x10n x10c 0 (bt x6 x9) true w)
 (br ((bt x6 x9) == 9)
 (k8 R x0 x1 x6 x9 x10q x10n x10c 0 (bt x6 x9) true w)
 (k8 R x0 x1 x6 x9 x10q x10n x10c 0 (bt x6 x9) ((bt x6 x9) == 62) w)))
 (k9 R x0 x1 x6 x9 x10q x10n x10c 0 w)

def k7 (R : EP) (Xa : OA → OA → BA → Int → OA → Nat → Nat → WP) (x0 x1 : OA) (x6 : BA) (x9 : Int) (x10q : OA) (x10n x10c : Nat) (x11 : Int) (w : World) : Prop :=
 br ((!((decide (97 ≤ x11)) && (decide (x11 ≤ 122)))) && (!((decide (48 ≤ x11)) && (decide (x11 ≤ 57)))))
 (k6 R x0 x1 x6 x9 x10q x10n x10c w)
 (k10 R Xa x0 x1 x6 x9 x10q x10n x10c x11 w)

def k5 (R : EP) (Xa : OA → OA → BA → Int → OA → Nat → Nat → WP) (x0 x1 : OA) (x6 : BA) (x9 : Int) (x10q : OA) (x10n x10c : Nat) (w : World) : Prop :=
 0 ≤ x9 ∧ x9 < (x6.size : Int) ∧
 br ((decide (65 ≤ (bt x6 x9))) && (decide ((bt x6 x9) ≤ 90)))
 (k7 R Xa x0 x1 x6 x9 x10q x10n x10c (IntKind.u8.wrap ((bt x6 x9) + 32)) w)
 (k7 R Xa x0 x1 x6 x9 x10q x10n x10c (bt x6 x9) w)

def bl1 (R : EP) (Xa : OA → OA → BA → Int → OA → Nat → Nat → WP) (x0 x1 : OA) (x6 : BA) (x9 : Int) (x10q : OA) (x10n x10c : Nat) (w : World) : Prop :=
 br ((decide (x9 < (x6.size : Int))) && (decide ((x10n : Int) < 16)))
 (k5 R Xa x0 x1 x6 x9 x10q x10n x10c w)
 (k6 R x0 x1 x6 x9 x10q x10n x10c w)
def l1 (R : EP) (x0 x1 : OA) (x6 : BA) (x9 : Int) (x10q : OA) (x10n x10c : Nat) (w : World) : Prop :=
 ∀ X : OA → OA → BA → Int → OA → Nat → Nat → WP, (∀ x0 x1 x6 x9 x10q x10n x10c w, bl1 R X x0 x1 x6 x9 x10q x10n x10c w → X x0 x1 x6 x9 x10q x10n x10c w) → X x0 x1 x6 x9 x10q x10n x10c w

noncomputable def al1 (R : EP) (Xa : OA → OA → BA → Int → OA → Nat → Nat → WP) : AC :=
 (.seq (.leaf (sel [1,0,1,1,1,1,1,1,1,1,1,1,0,0,0,0] body)) (.mark (leaf [(0, .s .ptr), (1, .s .ptr), (6, .s .str), (9, .s (.int .i64)), (10, .s .slice)] (k5 R Xa)) (.seq (.block 2 (.seq (.leaf (sel [1,0,1,1,1,1,1,1,1,1,1,1,0,0,0,1,0,0,0] body)) (.seq (.leaf (sel [1,0,1,1,1,1,1,1,1,1,1,1,0,0,0,1,0,0,1,0] body)) (.mark (leaf [(0, .s .ptr), (1, .s .ptr), (6, .s .str), (9, .s (.int .i64)), (10, .s .slice), (11, .s (.int .u8))] (k7 R Xa)) (.seq (.leaf (sel [1,0,1,1,1,1,1,1,1,1,1,1,0,0,0,1,0,0,1,1,0] body)) (.mark (leaf [(0, .s .ptr), (1, .s .ptr), (6, .s .str), (9, .s (.int .i64)), (10, .s .slice), (11, .s (.int .u8))] (k10 R Xa)) (.leaf (sel [1,0,1,1,1,1,1,1,1,1,1,1,0,0,0,1,0,0,1,1,1] body)))))))) (.leaf (sel [1,0,1,1,1,1,1,1,1,1,1,1,0,0,0,1,1] body)))))
def k3 (R : EP) (x0 x1 : OA) (x6 : BA) (x9 : Int) (w : World) : Prop :=
 ∃ (r54q : OA), ∃ (r54n : Nat), ∃ (r54c : Nat), ∃ w55, (Instr.makeSlice ty_S_uint8 (.int .i64 0) (.int .i64 16)).run P w = .ok (.slice r54q r54n r54c) w55 ∧
 l1 R x0 x1 x6 x9 r54q r54n r54c w55

def k1 (R : EP) (x0 x1 : OA) (x6 : BA) (x7 : Nat) (w : World) : Prop :=
 ∃ (v35 : BA), w.cell? ⟨x7, 0, none⟩ = some (.string v35) ∧
 br (!(v35.toList == (ByteArray.mk #[]).toList))
 (box w #[.bool false, .slice none 0 0, .func (.func i_parseState_startHTML_1) #[] #[.pointer (some ⟨x7, 0, none⟩)]] ty_htmlBuilder fun b36 w37 =>
 callE P i_parseState_addBlock #[.pointer x0, .iface ty_P_htmlBuilder (.pointer (some ⟨b36, 0, none⟩))] (fun e w39 => e = .returned (.tuple #[]) ∧
 tk w39 fun w40 =>
 ∃ (v41q : OA), ∃ (v41n : Nat), ∃ (v41c : Nat), w40.cell? ⟨b36, 1, none⟩ = some (.slice v41q v41n v41c) ∧
 callE P i_line_string #[.pointer x1] (fun e w43 => ∃ (r42 : BA), e = .returned (.string r42) ∧
 SameC w40 w43 ⟨b36, 1, none⟩ 1 ∧
 ∃ (r44q : OA), ∃ (r44n : Nat), ∃ (r44c : Nat), ∃ w45, (Instr.buildSlice ty_S_string 1 #[(0, .string r42)]).run P w43 = .ok (.slice r44q r44n r44c) w45 ∧
 SameC w43 w45 ⟨b36, 1, none⟩ 1 ∧
 ∃ (r46q : OA), ∃ (r46n : Nat), ∃ (r46c : Nat), ∃ w47, (Builtin.append_ #[ty_S_string, ty_S_string] ty_S_string #[.slice v41q v41n v41c, .slice r44q r44n r44c]).run P w45 = .ok (.slice r46q r46n r46c) w47 ∧
 stV w47 ⟨b36, 1, none⟩ (.slice r46q r46n r46c) fun w48 =>
 ∃ (v49 : Value), w48.cell? ⟨b36, 2, none⟩ = some v49 ∧
 enterE P (do let d ← Deferred.ofValue v49 #[.string x6]; invoke d.target d.args) (fun e w51 => ∃ (r50 : Bool), e = .returned (.bool r50) ∧
 br r50
 (callE P i_parseState_closeBlock #[.pointer x0] (fun e w53 => ∃ (r52 : Value), e = .returned r52 ∧
 R (.returned (.bool true)) w53) w51)
 (R (.returned (.bool true)) w51)) w48) w40) w37)
 (((decide (1 < (x6.size : Int))) = true → 0 ≤ (1 : Int) ∧ 1 < (x6.size : Int)) ∧
 br ((decide (1 < (x6.size : Int))) && ((bt x6 1) == 47))
 (k3 R x0 x1 x6 (IntKind.i64.wrap (1 + 1)) w)
 (k3 R x0 x1 x6 1 w))

def k4 (R : EP) (x0 x1 : OA) (x6 : BA) (x7 : Nat) (x63 : Bool) (w : World) : Prop :=
 br x63
 (nilP x0 fun a56 =>
 stV w ((a56.add 6).add 0) (.bool true) fun w57 =>
 stV w57 ⟨x7, 0, none⟩ (.string (ByteArray.mk #[62])) fun w58 =>
 k1 R x0 x1 x6 x7 w58)
 (stV w ⟨x7, 0, none⟩ (.string (ByteArray.mk #[62])) fun w59 =>
 k1 R x0 x1 x6 x7 w59)

def k2 (R : EP) (x0 x1 : OA) (x6 : BA) (x7 : Nat) (x43 : Bool) (w : World) : Prop :=
 br x43
 (0 ≤ (2 : Int) ∧ 2 < (x6.size : Int) ∧
 ((decide (97 ≤ (bt x6 2))) = true → 0 ≤ (2 : Int) ∧ 2 < (x6.size : Int)) ∧
 k4 R x0 x1 x6 x7 ((decide (97 ≤ (bt x6 2))) && (decide ((bt x6 2) ≤ 122))) w)
 (k1 R x0 x1 x6 x7 w)

end g_parseState_startHTML
def g_parseState_startHTML (R : EP) (x0 x1 : OA) (w : World) : Prop :=
 nilP x1 fun a1 =>
 ∃ (v2 : Int), w.cell? (a1.add 0) = some (.int .i64 v2) ∧
 ∃ (v3 : Int), w.cell? (a1.add 1) = some (.int .i64 v3) ∧
 ∃ (v4 : Int), w.cell? (a1.add 2) = some (.int .i64 v4) ∧
 ∃ (v5 : BA), w.cell? (a1.add 3) = some (.string v5) ∧
 ∃ (v6 : Int), w.cell? (a1.add 4) = some (.int .u8 v6) ∧
 box w #[.int .i64 0, .int .i64 0, .int .i64 0, .string (ByteArray.mk #[]), .int .u8 0] ty_line fun b7 w8 =>
 stV w8 ⟨b7, 0, none⟩ (.int .i64 v2) fun w9 =>
 stV w9 ⟨b7, 1, none⟩ (.int .i64 v3) fun w10 =>
 stV w10 ⟨b7, 2, none⟩ (.int .i64 v4) fun w11 =>
 stV w11 ⟨b7, 3, none⟩ (.string v5) fun w12 =>
 stV w12 ⟨b7, 4, none⟩ (.int .u8 v6) fun w13 =>
 callE P i_line_trimSpace #[.pointer (some ⟨b7, 0, none⟩), .int .i64 0, .int .i64 3, .bool false] (fun e w15 => ∃ (r14 : Bool), e = .returned (.bool r14) ∧
 callE P i_line_peek #[.pointer (some ⟨b7, 0, none⟩)] (fun e w17 => ∃ (r16 : Int), e = .returned (.int .u8 r16) ∧
 br (r16 != 60)
 (R (.returned (.bool false)) w17)
 (callE P i_line_string #[.pointer (some ⟨b7, 0, none⟩)] (fun e w19 => ∃ (r18 : BA), e = .returned (.string r18) ∧
 box w19 #[.string (ByteArray.mk #[])] ty_string fun b20 w21 =>
 callE P i_strings_HasPrefix #[.string r18, .string (ByteArray.mk #[60, 33, 45, 45])] (fun e w23 => ∃ (r22 : Bool), e = .returned (.bool r22) ∧
 br r22
 (stV w23 ⟨b20, 0, none⟩ (.string (ByteArray.mk #[45, 45, 62])) fun w24 =>
 g_parseState_startHTML.k1 R x0 x1 r18 b20 w24)
 (callE P i_strings_HasPrefix #[.string r18, .string (ByteArray.mk #[60, 63])] (fun e w26 => ∃ (r25 : Bool), e = .returned (.bool r25) ∧
 br r25
 (stV w26 ⟨b20, 0, none⟩ (.string (ByteArray.mk #[63, 62])) fun w27 =>
 g_parseState_startHTML.k1 R x0 x1 r18 b20 w27)
 (callE P i_strings_HasPrefix #[.string r18, .string (ByteArray.mk #[60, 33, 91, 67, 68, 65, 84, 65, 91])] (fun e w29 => ∃ (r28 : Bool), e = .returned (.bool r28) ∧
 br r28
 (stV w29 ⟨b20, 0, none⟩ (.string (ByteArray.mk #[93, 93, 62])) fun w30 =>
 g_parseState_startHTML.k1 R x0 x1 r18 b20 w30)
 (callE P i_strings_HasPrefix #[.string r18, .string (ByteArray.mk #[60, 33])] (fun e w32 => ∃ (r31 : Bool), e = .returned (.bool r31) ∧
 ((r31 && (decide ((r18.size : Int) ≥ 3))) = true → 0 ≤ (2 : Int) ∧ 2 < (r18.size : Int)) ∧
 br (r31 && (decide ((r18.size : Int) ≥ 3)))
 (callE P i_isLetter #[.int .u8 (bt r18 2)] (fun e w34 => ∃ (r33 : Bool), e = .returned (.bool r33) ∧
 g_parseState_startHTML.k2 R x0 x1 r18 b20 r33 w34) w32)
 (g_parseState_startHTML.k2 R x0 x1 r18 b20 false w32)) w29)) w26)) w23)) w21) w17)) w15) w13

namespace g_parseState_startHTML
noncomputable def ac (R : EP) : AC :=
 (.seq (.leaf (sel [0] body)) (.jump 0 (leaf [(0, .s .ptr), (1, .s .ptr), (6, .s .str), (9, .s (.int .i64)), (10, .s .slice)] (k11 R)) (.seq (.leaf (sel [1,0,0] body)) (.seq (.leaf (sel [1,0,1,0] body)) (.seq (.leaf (sel [1,0,1,1,0] body)) (.seq (.leaf (sel [1,0,1,1,1,0] body)) (.seq (.leaf (sel [1,0,1,1,1,1,0] body)) (.seq (.block 0 (.seq (.leaf (sel [1,0,1,1,1,1,1,0,0,0] body)) (.cond 34 (.leaf (sel [1,0,1,1,1,1,1,0,0,1,0] body)) (.seq (.leaf (sel [1,0,1,1,1,1,1,0,0,1,1,0] body)) (.cond 37 (.leaf (sel [1,0,1,1,1,1,1,0,0,1,1,1,0] body)) (.seq (.leaf (sel [1,0,1,1,1,1,1,0,0,1,1,1,1,0] body)) (.cond 40 (.leaf (sel [1,0,1,1,1,1,1,0,0,1,1,1,1,1,0] body)) (.seq (.leaf (sel [1,0,1,1,1,1,1,0,0,1,1,1,1,1,1,0] body)) (.mark (leaf [(0, .s .ptr), (1, .s .ptr), (6, .s .str), (7, .s .loc), (43, .s .bool)] (k2 R)) (.cond 43 (.seq (.seq (.leaf (sel [1,0,1,1,1,1,1,0,0,1,1,1,1,1,1,1,0,0,0] body)) (.mark (leaf [(0, .s .ptr), (1, .s .ptr), (6, .s .str), (7, .s .loc), (63, .s .bool)] (k4 R)) (.leaf (sel [1,0,1,1,1,1,1,0,0,1,1,1,1,1,1,1,0,0,1] body)))) (.leaf (sel [1,0,1,1,1,1,1,0,0,1,1,1,1,1,1,1,0,1] body))) (.leaf (sel [1,0,1,1,1,1,1,0,0,1,1,1,1,1,1,1,1] body)))))))))))) (.mark (leaf [(0, .s .ptr), (1, .s .ptr), (6, .s .str), (7, .s .loc)] (k1 R)) (.seq (.seq (.leaf (sel [1,0,1,1,1,1,1,1,0,0] body)) (.cond 68 (.seq (.leaf (sel [1,0,1,1,1,1,1,1,0,1,0,0] body)) (.seq (.leaf (sel [1,0,1,1,1,1,1,1,0,1,0,1,0] body)) (.seq (.draw (.pure 0 (.pure 1 (.pure 2 (.pure 3 (.pure 5 (.load 4 (.one 6 (.one 7 (.one 8 (.pure 9 (.pure 10 (.one 11 .done)))))))))))) (sel [1,0,1,1,1,1,1,1,0,1,0,1,1,0] body)) (.leaf (sel [1,0,1,1,1,1,1,1,0,1,0,1,1,1] body))))) (.leaf (sel [1,0,1,1,1,1,1,1,0,1,1] body)))) (.seq (.leaf (sel [1,0,1,1,1,1,1,1,1,0] body)) (.seq (.leaf (sel [1,0,1,1,1,1,1,1,1,1,0] body)) (.mark (leaf [(0, .s .ptr), (1, .s .ptr), (6, .s .str), (9, .s (.int .i64))] (k3 R)) (.seq (.leaf (sel [1,0,1,1,1,1,1,1,1,1,1,0] body)) (.seq (.block 1 (.loop (leaf [(0, .s .ptr), (1, .s .ptr), (6, .s .str), (9, .s (.int .i64)), (10, .s .slice)] (l1 R)) (sel [1,0,1,1,1,1,1,1,1,1,1,1,0,0,0] body))) (.mark (leaf [(0, .s .ptr), (1, .s .ptr), (6, .s .str), (9, .s (.int .i64)), (10, .s .slice)] (k6 R)) (.seq (.leaf (sel [1,0,1,1,1,1,1,1,1,1,1,1,1,0] body)) (.seq (.seq (.leaf (sel [1,0,1,1,1,1,1,1,1,1,1,1,1,1,0,0] body)) (.cond 153 (.seq (.leaf (sel [1,0,1,1,1,1,1,1,1,1,1,1,1,1,0,1,0,0] body)) (.block 3 (.seq (.leaf (sel [1,0,1,1,1,1,1,1,1,1,1,1,1,1,0,1,0,1,0,0] body)) (.mark (leaf [(0, .s .ptr), (1, .s .ptr), (6, .s .str), (9, .s (.int .i64)), (10, .s .slice), (12, .s (.int .u8)), (156, .s (.int .u8)), (157, .s .bool)] (k8 R)) (.leaf (sel [1,0,1,1,1,1,1,1,1,1,1,1,1,1,0,1,0,1,0,1] body)))))) (.leaf (sel [1,0,1,1,1,1,1,1,1,1,1,1,1,1,0,1,1] body)))) (.mark (leaf [(0, .s .ptr), (1, .s .ptr), (6, .s .str), (9, .s (.int .i64)), (10, .s .slice), (12, .s (.int .u8))] (k9 R)) (.seq (.leaf (sel [1,0,1,1,1,1,1,1,1,1,1,1,1,1,1,0] body)) (.seq (.seq (.leaf (sel [1,0,1,1,1,1,1,1,1,1,1,1,1,1,1,1,0,0] body)) (.seq (.leaf (sel [1,0,1,1,1,1,1,1,1,1,1,1,1,1,1,1,0,1,0] body)) (.seq (.seq (.leaf (sel [1,0,1,1,1,1,1,1,1,1,1,1,1,1,1,1,0,1,1,0,0] body)) (.block 4 (.loop (leaf [(0, .s .ptr), (1, .s .ptr), (6, .s .str), (9, .s (.int .i64)), (10, .s .slice), (12, .s (.int .u8)), (13, .s (.int .u8)), (14, .s .bool), (184, .s .slice), (185, .s (.int .i64)), (186, .s (.int .i64))] (l2 R)) (sel [1,0,1,1,1,1,1,1,1,1,1,1,1,1,1,1,0,1,1,0,1,0,0] body)))) (.leaf (sel [1,0,1,1,1,1,1,1,1,1,1,1,1,1,1,1,0,1,1,1] body))))) (.mark (leaf [(0, .s .ptr), (1, .s .ptr)] (k14 R)) (.seq (.seq (.leaf (sel [1,0,1,1,1,1,1,1,1,1,1,1,1,1,1,1,1,0,0] body)) (.seq (.leaf (sel [1,0,1,1,1,1,1,1,1,1,1,1,1,1,1,1,1,0,1,0] body)) (.seq (.draw (.pure 0 (.pure 1 (.pure 2 (.pure 3 (.pure 5 (.load 4 (.one 6 (.one 7 (.one 8 (.pure 9 (.pure 10 (.one 11 .done)))))))))))) (sel [1,0,1,1,1,1,1,1,1,1,1,1,1,1,1,1,1,0,1,1,0] body)) (.leaf (sel [1,0,1,1,1,1,1,1,1,1,1,1,1,1,1,1,1,0,1,1,1] body))))) (.seq (.leaf (sel [1,0,1,1,1,1,1,1,1,1,1,1,1,1,1,1,1,1,0] body)) (.mark (leaf [(0, .s .ptr), (1, .s .ptr), (6, .s .str), (9, .s (.int .i64)), (10, .s .slice)] (k11 R)) (.seq (.seq (.leaf (sel [1,0,1,1,1,1,1,1,1,1,1,1,1,1,1,1,1,1,1,0,0] body)) (.mark (leaf [(0, .s .ptr), (1, .s .ptr), (6, .s .str), (10, .s .slice), (263, .s .bool)] (k12 R)) (.cond 263 (.seq (.leaf (sel [1,0,1,1,1,1,1,1,1,1,1,1,1,1,1,1,1,1,1,0,1,0,0] body)) (.block 6 (.seq (.leaf (sel [1,0,1,1,1,1,1,1,1,1,1,1,1,1,1,1,1,1,1,0,1,0,1,0,0] body)) (.mark (leaf [(0, .s .ptr), (1, .s .ptr), (6, .s .str), (266, .s .bool)] (k15 R)) (.cond 266 (.seq (.leaf (sel [1,0,1,1,1,1,1,1,1,1,1,1,1,1,1,1,1,1,1,0,1,0,1,0,1,0,0] body)) (.seq (.leaf (sel [1,0,1,1,1,1,1,1,1,1,1,1,1,1,1,1,1,1,1,0,1,0,1,0,1,0,1,0] body)) (.seq (.draw (.pure 0 (.pure 1 (.pure 2 (.pure 3 (.pure 5 (.load 4 (.one 6 (.one 7 (.one 8 (.pure 9 (.pure 10 (.one 11 .done)))))))))))) (sel [1,0,1,1,1,1,1,1,1,1,1,1,1,1,1,1,1,1,1,0,1,0,1,0,1,0,1,1,0] body)) (.leaf (sel [1,0,1,1,1,1,1,1,1,1,1,1,1,1,1,1,1,1,1,0,1,0,1,0,1,0,1,1,1] body))))) (.leaf (sel [1,0,1,1,1,1,1,1,1,1,1,1,1,1,1,1,1,1,1,0,1,0,1,0,1,1] body))))))) (.leaf (sel [1,0,1,1,1,1,1,1,1,1,1,1,1,1,1,1,1,1,1,0,1,1] body))))) (.mark (leaf [(0, .s .ptr), (1, .s .ptr), (6, .s .str)] (k16 R)) (.seq (.seq (.leaf (sel [1,0,1,1,1,1,1,1,1,1,1,1,1,1,1,1,1,1,1,1,0,0] body)) (.cond 294 (.seq (.seq (.leaf (sel [1,0,1,1,1,1,1,1,1,1,1,1,1,1,1,1,1,1,1,1,0,1,0,0,0] body)) (.seq (.leaf (sel [1,0,1,1,1,1,1,1,1,1,1,1,1,1,1,1,1,1,1,1,0,1,0,0,1,0] body)) (.mark (leaf [(0, .s .ptr), (1, .s .ptr), (6, .s .str), (20, .s (.int .i64)), (310, .s .bool)] (k17 R)) (.cond 310 (.seq (.leaf (sel [1,0,1,1,1,1,1,1,1,1,1,1,1,1,1,1,1,1,1,1,0,1,0,0,1,1,0,0] body)) (.mark (leaf [(0, .s .ptr), (1, .s .ptr)] (k18 R)) (.seq (.leaf (sel [1,0,1,1,1,1,1,1,1,1,1,1,1,1,1,1,1,1,1,1,0,1,0,0,1,1,0,1,0] body)) (.seq (.leaf (sel [1,0,1,1,1,1,1,1,1,1,1,1,1,1,1,1,1,1,1,1,0,1,0,0,1,1,0,1,1,0] body)) (.seq (.draw (.pure 0 (.pure 1 (.pure 2 (.pure 3 (.pure 5 (.load 4 (.one 6 (.one 7 (.one 8 (.pure 9 (.pure 10 (.one 11 .done)))))))))))) (sel [1,0,1,1,1,1,1,1,1,1,1,1,1,1,1,1,1,1,1,1,0,1,0,0,1,1,0,1,1,1,0] body)) (.leaf (sel [1,0,1,1,1,1,1,1,1,1,1,1,1,1,1,1,1,1,1,1,0,1,0,0,1,1,0,1,1,1,1] body))))))) (.leaf (sel [1,0,1,1,1,1,1,1,1,1,1,1,1,1,1,1,1,1,1,1,0,1,0,0,1,1,1] body)))))) (.seq (.leaf (sel [1,0,1,1,1,1,1,1,1,1,1,1,1,1,1,1,1,1,1,1,0,1,0,1,0] body)) (.seq (.leaf (sel [1,0,1,1,1,1,1,1,1,1,1,1,1,1,1,1,1,1,1,1,0,1,0,1,1,0] body)) (.mark (leaf [(0, .s .ptr), (1, .s .ptr), (350, .s .bool)] (k19 R)) (.cond 350 (.seq (.leaf (sel [1,0,1,1,1,1,1,1,1,1,1,1,1,1,1,1,1,1,1,1,0,1,0,1,1,1,0,0] body)) (.seq (.leaf (sel [1,0,1,1,1,1,1,1,1,1,1,1,1,1,1,1,1,1,1,1,0,1,0,1,1,1,0,1,0] body)) (.seq (.draw (.pure 0 (.pure 1 (.pure 2 (.pure 3 (.pure 5 (.load 4 (.one 6 (.one 7 (.one 8 (.pure 9 (.pure 10 (.one 11 .done)))))))))))) (sel [1,0,1,1,1,1,1,1,1,1,1,1,1,1,1,1,1,1,1,1,0,1,0,1,1,1,0,1,1,0] body)) (.leaf (sel [1,0,1,1,1,1,1,1,1,1,1,1,1,1,1,1,1,1,1,1,0,1,0,1,1,1,0,1,1,1] body))))) (.leaf (sel [1,0,1,1,1,1,1,1,1,1,1,1,1,1,1,1,1,1,1,1,0,1,0,1,1,1,1] body))))))) (.leaf (sel [1,0,1,1,1,1,1,1,1,1,1,1,1,1,1,1,1,1,1,1,0,1,1] body)))) (.leaf (sel [1,0,1,1,1,1,1,1,1,1,1,1,1,1,1,1,1,1,1,1,1] body))))))))))))))))))))))))))))))
theorem good (R : EP) : Good P 368 (ac R) (QF P [.tmp 4] R) :=
 ⟨trivial, ⟨⟨trivial, ⟨trivial, ⟨trivial, ⟨trivial, ⟨trivial, ⟨⟨trivial, ⟨trivial, ⟨trivial, ⟨trivial, ⟨trivial, ⟨trivial, ⟨trivial, ⟨⟨⟨⟨trivial, ⟨trivial, cutZ⟩⟩, trivial⟩, trivial⟩, cutZ⟩⟩⟩⟩⟩⟩⟩⟩, ⟨⟨⟨trivial, ⟨⟨trivial, ⟨trivial, ⟨⟨by kernel_rfl, by kernel_rfl, fun _ _ _ h => h⟩, trivial⟩⟩⟩, trivial⟩⟩, ⟨trivial, ⟨trivial, ⟨⟨trivial, ⟨(loopG (al1 R) (bl1 R) (fun _ => by kernel_rfl) (fun Xa => ⟨trivial, ⟨⟨⟨trivial, ⟨trivial, ⟨⟨trivial, ⟨trivial, cutZ⟩⟩, cutZ⟩⟩⟩, trivial⟩, cutZ⟩⟩) (fun Xa => by intro x0 x1 x6 x9 x10q x10n x10c ρ w; kernel_rfl) (fun X h _ _ _ _ _ _ _ _ g => g X h)), ⟨⟨trivial, ⟨⟨trivial, ⟨⟨trivial, ⟨trivial, ⟨trivial, cutZ⟩⟩⟩, trivial⟩⟩, ⟨⟨trivial, ⟨⟨trivial, ⟨trivial, ⟨⟨trivial, (loopG (al2 R) (bl2 R) (fun _ => by kernel_rfl) (fun Xb => ⟨trivial, ⟨trivial, ⟨⟨trivial, ⟨trivial, ⟨trivial, cutZ⟩⟩⟩, trivial⟩⟩⟩) (fun Xb => by intro x0 x1 x6 x9 x10q x10n x10c x12 x13 x14 x184q x184n x184c x185 x186 ρ w; kernel_rfl) (fun X h _ _ _ _ _ _ _ _ _ _ _ _ _ _ _ _ g => g X h))⟩, trivial⟩⟩⟩, ⟨⟨⟨trivial, ⟨trivial, ⟨⟨by kernel_rfl, by kernel_rfl, fun _ _ _ h => h⟩, trivial⟩⟩⟩, ⟨trivial, ⟨⟨⟨trivial, ⟨⟨⟨trivial, ⟨trivial, ⟨⟨⟨trivial, ⟨trivial, ⟨⟨by kernel_rfl, by kernel_rfl, fun _ _ _ h => h⟩, trivial⟩⟩⟩, trivial⟩, cutZ⟩⟩⟩, trivial⟩, cutZ⟩⟩, ⟨⟨⟨trivial, ⟨⟨⟨trivial, ⟨trivial, ⟨⟨⟨trivial, ⟨⟨trivial, ⟨trivial, ⟨⟨by kernel_rfl, by kernel_rfl, fun _ _ _ h => h⟩, trivial⟩⟩⟩, cutZ⟩⟩, trivial⟩, cutZ⟩⟩⟩, ⟨trivial, ⟨trivial, ⟨⟨⟨trivial, ⟨trivial, ⟨⟨by kernel_rfl, by kernel_rfl, fun _ _ _ h => h⟩, trivial⟩⟩⟩, trivial⟩, cutZ⟩⟩⟩⟩, trivial⟩⟩, trivial⟩, cutZ⟩⟩, cutZ⟩⟩⟩, cutZ⟩⟩⟩, cutZ⟩⟩⟩, cutZ⟩⟩⟩, cutZ⟩⟩⟩⟩, cutZ⟩⟩⟩⟩⟩⟩⟩, .seq .skip (sel [1,0,1,1,1,1,1,1,1,1,1,1,1,1,1,1,1,1,1] body), by kernel_rfl, jumpK (l := 0) (.seq (.leaf .skip) (.seq (.seq (.leaf (sel [1,0,1,1,1,1,1,1,1,1,1,1,1,1,1,1,1,1,1,0,0] body)) (.mark (leaf [(0, .s .ptr), (1, .s .ptr), (6, .s .str), (10, .s .slice), (263, .s .bool)] (k12 R)) (.cond 263 (.seq (.leaf (sel [1,0,1,1,1,1,1,1,1,1,1,1,1,1,1,1,1,1,1,0,1,0,0] body)) (.block 6 (.seq (.leaf (sel [1,0,1,1,1,1,1,1,1,1,1,1,1,1,1,1,1,1,1,0,1,0,1,0,0] body)) (.mark (leaf [(0, .s .ptr), (1, .s .ptr), (6, .s .str), (266, .s .bool)] (k15 R)) (.cond 266 (.seq (.leaf (sel [1,0,1,1,1,1,1,1,1,1,1,1,1,1,1,1,1,1,1,0,1,0,1,0,1,0,0] body)) (.seq (.leaf (sel [1,0,1,1,1,1,1,1,1,1,1,1,1,1,1,1,1,1,1,0,1,0,1,0,1,0,1,0] body)) (.seq (.draw (.pure 0 (.pure 1 (.pure 2 (.pure 3 (.pure 5 (.load 4 (.one 6 (.one 7 (.one 8 (.pure 9 (.pure 10 (.one 11 .done)))))))))))) (sel [1,0,1,1,1,1,1,1,1,1,1,1,1,1,1,1,1,1,1,0,1,0,1,0,1,0,1,1,0] body)) (.leaf (sel [1,0,1,1,1,1,1,1,1,1,1,1,1,1,1,1,1,1,1,0,1,0,1,0,1,0,1,1,1] body))))) (.leaf (sel [1,0,1,1,1,1,1,1,1,1,1,1,1,1,1,1,1,1,1,0,1,0,1,0,1,1] body))))))) (.leaf (sel [1,0,1,1,1,1,1,1,1,1,1,1,1,1,1,1,1,1,1,0,1,1] body))))) (.mark (leaf [(0, .s .ptr), (1, .s .ptr), (6, .s .str)] (k16 R)) (.seq (.seq (.leaf (sel [1,0,1,1,1,1,1,1,1,1,1,1,1,1,1,1,1,1,1,1,0,0] body)) (.cond 294 (.seq (.seq (.leaf (sel [1,0,1,1,1,1,1,1,1,1,1,1,1,1,1,1,1,1,1,1,0,1,0,0,0] body)) (.seq (.leaf (sel [1,0,1,1,1,1,1,1,1,1,1,1,1,1,1,1,1,1,1,1,0,1,0,0,1,0] body)) (.mark (leaf [(0, .s .ptr), (1, .s .ptr), (6, .s .str), (20, .s (.int .i64)), (310, .s .bool)] (k17 R)) (.cond 310 (.seq (.leaf (sel [1,0,1,1,1,1,1,1,1,1,1,1,1,1,1,1,1,1,1,1,0,1,0,0,1,1,0,0] body)) (.mark (leaf [(0, .s .ptr), (1, .s .ptr)] (k18 R)) (.seq (.leaf (sel [1,0,1,1,1,1,1,1,1,1,1,1,1,1,1,1,1,1,1,1,0,1,0,0,1,1,0,1,0] body)) (.seq (.leaf (sel [1,0,1,1,1,1,1,1,1,1,1,1,1,1,1,1,1,1,1,1,0,1,0,0,1,1,0,1,1,0] body)) (.seq (.draw (.pure 0 (.pure 1 (.pure 2 (.pure 3 (.pure 5 (.load 4 (.one 6 (.one 7 (.one 8 (.pure 9 (.pure 10 (.one 11 .done)))))))))))) (sel [1,0,1,1,1,1,1,1,1,1,1,1,1,1,1,1,1,1,1,1,0,1,0,0,1,1,0,1,1,1,0] body)) (.leaf (sel [1,0,1,1,1,1,1,1,1,1,1,1,1,1,1,1,1,1,1,1,0,1,0,0,1,1,0,1,1,1,1] body))))))) (.leaf (sel [1,0,1,1,1,1,1,1,1,1,1,1,1,1,1,1,1,1,1,1,0,1,0,0,1,1,1] body)))))) (.seq (.leaf (sel [1,0,1,1,1,1,1,1,1,1,1,1,1,1,1,1,1,1,1,1,0,1,0,1,0] body)) (.seq (.leaf (sel [1,0,1,1,1,1,1,1,1,1,1,1,1,1,1,1,1,1,1,1,0,1,0,1,1,0] body)) (.mark (leaf [(0, .s .ptr), (1, .s .ptr), (350, .s .bool)] (k19 R)) (.cond 350 (.seq (.leaf (sel [1,0,1,1,1,1,1,1,1,1,1,1,1,1,1,1,1,1,1,1,0,1,0,1,1,1,0,0] body)) (.seq (.leaf (sel [1,0,1,1,1,1,1,1,1,1,1,1,1,1,1,1,1,1,1,1,0,1,0,1,1,1,0,1,0] body)) (.seq (.draw (.pure 0 (.pure 1 (.pure 2 (.pure 3 (.pure 5 (.load 4 (.one 6 (.one 7 (.one 8 (.pure 9 (.pure 10 (.one 11 .done)))))))))))) (sel [1,0,1,1,1,1,1,1,1,1,1,1,1,1,1,1,1,1,1,1,0,1,0,1,1,1,0,1,1,0] body)) (.leaf (sel [1,0,1,1,1,1,1,1,1,1,1,1,1,1,1,1,1,1,1,1,0,1,0,1,1,1,0,1,1,1] body))))) (.leaf (sel [1,0,1,1,1,1,1,1,1,1,1,1,1,1,1,1,1,1,1,1,0,1,0,1,1,1,1] body))))))) (.leaf (sel [1,0,1,1,1,1,1,1,1,1,1,1,1,1,1,1,1,1,1,1,0,1,1] body)))) (.leaf (sel [1,0,1,1,1,1,1,1,1,1,1,1,1,1,1,1,1,1,1,1,1] body)))))) (by kernel_rfl) (by kernel_rfl) ⟨trivial, ⟨⟨trivial, ⟨⟨⟨trivial, ⟨trivial, ⟨⟨⟨trivial, ⟨trivial, ⟨⟨by kernel_rfl, by kernel_rfl, fun _ _ _ h => h⟩, trivial⟩⟩⟩, trivial⟩, cutZ⟩⟩⟩, trivial⟩, cutZ⟩⟩, ⟨⟨⟨trivial, ⟨⟨⟨trivial, ⟨trivial, ⟨⟨⟨trivial, ⟨⟨trivial, ⟨trivial, ⟨⟨by kernel_rfl, by kernel_rfl, fun _ _ _ h => h⟩, trivial⟩⟩⟩, cutZ⟩⟩, trivial⟩, cutZ⟩⟩⟩, ⟨trivial, ⟨trivial, ⟨⟨⟨trivial, ⟨trivial, ⟨⟨by kernel_rfl, by kernel_rfl, fun _ _ _ h => h⟩, trivial⟩⟩⟩, trivial⟩, cutZ⟩⟩⟩⟩, trivial⟩⟩, trivial⟩, cutZ⟩⟩⟩ (cutZ)⟩⟩
theorem eq (R : EP) (x0 x1 : OA) (w : World) : g_parseState_startHTML R x0 x1 w = vcA P 368 (ac R) (QF P [.tmp 4] R) (fr0 [.pointer x0, .pointer x1]) w := by kernel_rfl
theorem sound {R : EP} {x0 x1 : OA} {w : World} (h : g_parseState_startHTML R x0 x1 w) : callE P i_parseState_startHTML #[.pointer x0, .pointer x1] R w :=
 callE_fz (c := body) Tryz.func189 Tryz.call189 (good R) (eq R x0 x1 w) h
end g_parseState_startHTML
namespace g_line_trimHeading
noncomputable def body : Code := bodyOf Tryz.f174
def k1 (R : EP) (x0 x1 : OA) (x5 : Nat) (x6 : Int) (w : World) : Prop :=
 callE P i_line_trimSpace #[.pointer (some ⟨x5, 0, none⟩), .int .i64 1, .int .i64 1, .bool true] (fun e w21 => ∃ (r20 : Bool), e = .returned (.bool r20) ∧
 br (!r20)
 (R (.returned (.bool false)) w21)
 (nilP x1 fun a22 =>
 stV w21 (a22.add 0) (.int .i64 x6) fun w23 =>
 ∃ (v24 : Int), w23.cell? ⟨x5, 0, none⟩ = some (.int .i64 v24) ∧
 ∃ (v25 : Int), w23.cell? ⟨x5, 1, none⟩ = some (.int .i64 v25) ∧
 ∃ (v26 : Int), w23.cell? ⟨x5, 2, none⟩ = some (.int .i64 v26) ∧
 ∃ (v27 : BA), w23.cell? ⟨x5, 3, none⟩ = some (.string v27) ∧
 ∃ (v28 : Int), w23.cell? ⟨x5, 4, none⟩ = some (.int .u8 v28) ∧
 nilP x0 fun a29 =>
 stV w23 (a29.add 0) (.int .i64 v24) fun w30 =>
 stV w30 (a29.add 1) (.int .i64 v25) fun w31 =>
 stV w31 (a29.add 2) (.int .i64 v26) fun w32 =>
 stV w32 (a29.add 3) (.string v27) fun w33 =>
 stV w33 (a29.add 4) (.int .u8 v28) fun w34 =>
 R (.returned (.bool true)) w34)) w

def bl1 (R : EP) (Xa : OA → OA → Nat → Int → WP) (x0 x1 : OA) (x5 : Nat) (x6 : Int) (w : World) : Prop :=
 br (decide (x6 < 6))
 (callE P i_line_trim #[.pointer (some ⟨x5, 0, none⟩), .int .u8 35] (fun e w19 => ∃ (r18 : Bool), e = .returned (.bool r18) ∧
 br r18
 (Xa x0 x1 x5 (IntKind.i64.wrap (x6 + 1)) w19)
 (k1 R x0 x1 x5 x6 w19)) w)
 (k1 R x0 x1 x5 x6 w)
def l1 (R : EP) (x0 x1 : OA) (x5 : Nat) (x6 : Int) (w : World) : Prop :=
 ∀ X : OA → OA → Nat → Int → WP, (∀ x0 x1 x5 x6 w, bl1 R X x0 x1 x5 x6 w → X x0 x1 x5 x6 w) → X x0 x1 x5 x6 w

noncomputable def al1 (R : EP) (Xa : OA → OA → Nat → Int → WP) : AC :=
 (.leaf (sel [1,1,1,1,1,0,0,0] body))
end g_line_trimHeading
def g_line_trimHeading (R : EP) (x0 x1 : OA) (w : World) : Prop :=
 nilP x0 fun a1 =>
 ∃ (v2 : Int), w.cell? (a1.add 0) = some (.int .i64 v2) ∧
 ∃ (v3 : Int), w.cell? (a1.add 1) = some (.int .i64 v3) ∧
 ∃ (v4 : Int), w.cell? (a1.add 2) = some (.int .i64 v4) ∧
 ∃ (v5 : BA), w.cell? (a1.add 3) = some (.string v5) ∧
 ∃ (v6 : Int), w.cell? (a1.add 4) = some (.int .u8 v6) ∧
 box w #[.int .i64 0, .int .i64 0, .int .i64 0, .string (ByteArray.mk #[]), .int .u8 0] ty_line fun b7 w8 =>
 stV w8 ⟨b7, 0, none⟩ (.int .i64 v2) fun w9 =>
 stV w9 ⟨b7, 1, none⟩ (.int .i64 v3) fun w10 =>
 stV w10 ⟨b7, 2, none⟩ (.int .i64 v4) fun w11 =>
 stV w11 ⟨b7, 3, none⟩ (.string v5) fun w12 =>
 stV w12 ⟨b7, 4, none⟩ (.int .u8 v6) fun w13 =>
 callE P i_line_trimSpace #[.pointer (some ⟨b7, 0, none⟩), .int .i64 0, .int .i64 3, .bool false] (fun e w15 => ∃ (r14 : Bool), e = .returned (.bool r14) ∧
 callE P i_line_trim #[.pointer (some ⟨b7, 0, none⟩), .int .u8 35] (fun e w17 => ∃ (r16 : Bool), e = .returned (.bool r16) ∧
 br (!r16)
 (R (.returned (.bool false)) w17)
 (g_line_trimHeading.l1 R x0 x1 b7 1 w17)) w15) w13

namespace g_line_trimHeading
noncomputable def ac (R : EP) : AC :=
 (.seq (.leaf (sel [0] body)) (.seq (.leaf (sel [1,0] body)) (.seq (.leaf (sel [1,1,0] body)) (.seq (.leaf (sel [1,1,1,0] body)) (.seq (.leaf (sel [1,1,1,1,0] body)) (.seq (.block 0 (.loop (leaf [(0, .s .ptr), (1, .s .ptr), (5, .s .loc), (6, .s (.int .i64))] (l1 R)) (sel [1,1,1,1,1,0,0,0] body))) (.mark (leaf [(0, .s .ptr), (1, .s .ptr), (5, .s .loc), (6, .s (.int .i64))] (k1 R)) (.leaf (sel [1,1,1,1,1,1] body)))))))))
theorem good (R : EP) : Good P 28 (ac R) (QF P [.tmp 4] R) :=
 ⟨trivial, ⟨trivial, ⟨trivial, ⟨trivial, ⟨trivial, ⟨(loopG (al1 R) (bl1 R) (fun _ => by kernel_rfl) (fun Xa => trivial) (fun Xa => by intro x0 x1 x5 x6 ρ w; kernel_rfl) (fun X h _ _ _ _ _ g => g X h)), ⟨trivial, cutZ⟩⟩⟩⟩⟩⟩⟩
theorem eq (R : EP) (x0 x1 : OA) (w : World) : g_line_trimHeading R x0 x1 w = vcA P 28 (ac R) (QF P [.tmp 4] R) (fr0 [.pointer x0, .pointer x1]) w := by kernel_rfl
theorem sound {R : EP} {x0 x1 : OA} {w : World} (h : g_line_trimHeading R x0 x1 w) : callE P i_line_trimHeading #[.pointer x0, .pointer x1] R w :=
 callE_fz (c := body) Tryz.func174 Tryz.call174 (good R) (eq R x0 x1 w) h
end g_line_trimHeading
namespace g_newATXHeading
noncomputable def body : Code := bodyOf Tryz.f125
def k2 (R : EP) (x0 : OA) (x4 x7 : Nat) (x8 x10 : BA) (w : World) : Prop :=
 tk w fun w57 =>
 nilP x0 fun a58 =>
 nilP x0 fun a59 =>
 ∃ (v60 : Int), w57.cell? (a58.add 3) = some (.int .i64 v60) ∧
 ∃ (v61 : Int), w57.cell? (a59.add 3) = some (.int .i64 v61) ∧
 box w57 #[.int .i64 0, .int .i64 0] ty_Position fun b62 w63 =>
 SameC w57 w63 (a59.add 3) 1 ∧
 SameC w57 w63 (a58.add 3) 1 ∧
 stV w63 ⟨b62, 0, none⟩ (.int .i64 v60) fun w64 =>
 stV w64 ⟨b62, 1, none⟩ (.int .i64 v61) fun w65 =>
 tk w65 fun w66 =>
 ∃ (v67 : Int), w66.cell? ⟨b62, 0, none⟩ = some (.int .i64 v67) ∧
 ∃ (v68 : Int), w66.cell? ⟨b62, 1, none⟩ = some (.int .i64 v68) ∧
 ∃ (v69 : Int), w66.cell? ⟨x7, 0, none⟩ = some (.int .i64 v69) ∧
 ∃ (v70 : Int), w66.cell? ⟨b62, 0, none⟩ = some (.int .i64 v70) ∧
 ∃ (v71 : Int), w66.cell? ⟨b62, 1, none⟩ = some (.int .i64 v71) ∧
 callE P i_parseState_newText #[.pointer x0, .agg #[.int .i64 v70, .int .i64 v71], .string x8] (fun e w73 => ∃ (r72 : OA), e = .returned (.pointer r72) ∧
 SameC w66 w73 ⟨x7, 0, none⟩ 1 ∧
 SameC w66 w73 ⟨b62, 0, none⟩ 2 ∧
 box w73 #[.int .i64 v67, .int .i64 v68, .int .i64 v69, .pointer r72, .string x10] ty_Heading fun b74 w75 =>
 callE P i_parseState_doneBlock #[.pointer x0, .iface ty_P_Heading (.pointer (some ⟨b74, 0, none⟩))] (fun e w77 => e = .returned (.tuple #[]) ∧
 stV w77 ⟨x4, 0, none⟩ (.int .i64 0) fun w78 =>
 stV w78 ⟨x4, 1, none⟩ (.int .i64 0) fun w79 =>
 stV w79 ⟨x4, 2, none⟩ (.int .i64 0) fun w80 =>
 stV w80 ⟨x4, 3, none⟩ (.string (ByteArray.mk #[])) fun w81 =>
 stV w81 ⟨x4, 4, none⟩ (.int .u8 0) fun w82 =>
 ∃ (v83 : Int), w82.cell? ⟨x4, 0, none⟩ = some (.int .i64 v83) ∧
 ∃ (v84 : Int), w82.cell? ⟨x4, 1, none⟩ = some (.int .i64 v84) ∧
 ∃ (v85 : Int), w82.cell? ⟨x4, 2, none⟩ = some (.int .i64 v85) ∧
 ∃ (v86 : BA), w82.cell? ⟨x4, 3, none⟩ = some (.string v86) ∧
 ∃ (v87 : Int), w82.cell? ⟨x4, 4, none⟩ = some (.int .u8 v87) ∧
 R (.returned (.tuple #[.agg #[.int .i64 v83, .int .i64 v84, .int .i64 v85, .string v86, .int .u8 v87], .bool true])) w82) w75) w66

def k3 (R : EP) (Xa : OA → Nat → Nat → BA → BA → Value → WP) (x0 : OA) (x4 x7 : Nat) (x8 x10 : BA) (x44 : Value) (x55 : Bool) (w : World) : Prop :=
 br x55
 (nilP x0 fun a88 =>
 stV w ((a88.add 6).add 0) (.bool true) fun w89 =>
 Xa x0 x4 x7 x8 x10 x44 w89)
 (Xa x0 x4 x7 x8 x10 x44 w)

def bl1 (R : EP) (Xa : OA → Nat → Nat → BA → BA → Value → WP) (x0 : OA) (x4 x7 : Nat) (x8 x10 : BA) (x44 : Value) (w : World) : Prop :=
 (∃ w52, (Instr.next x44 true ty_).run P w = .ok (.tuple #[.bool false]) w52 ∧
 k2 R x0 x4 x7 x8 x10 w52) ∨
 (∃ (r53_0 : Int), ∃ (r53_1 : Int), ∃ w54, (Instr.next x44 true ty_).run P w = .ok (.tuple #[.bool true, .int .i64 r53_0, .int .i32 r53_1]) w54 ∧
 br (decide (r53_1 ≥ 128))
 (k3 R Xa x0 x4 x7 x8 x10 x44 true w54)
 (callE P i_isLetterDigit #[.int .u8 (IntKind.u8.wrap r53_1)] (fun e w56 => ∃ (r55 : Bool), e = .returned (.bool r55) ∧
 k3 R Xa x0 x4 x7 x8 x10 x44 (!r55) w56) w54))
def l1 (R : EP) (x0 : OA) (x4 x7 : Nat) (x8 x10 : BA) (x44 : Value) (w : World) : Prop :=
 ∀ X : OA → Nat → Nat → BA → BA → Value → WP, (∀ x0 x4 x7 x8 x10 x44 w, bl1 R X x0 x4 x7 x8 x10 x44 w → X x0 x4 x7 x8 x10 x44 w) → X x0 x4 x7 x8 x10 x44 w

noncomputable def al1 (R : EP) (Xa : OA → Nat → Nat → BA → BA → Value → WP) : AC :=
 (.seq (.leaf (sel [1,1,1,0,1,0,1,1,1,1,0,1,0,1,1,0,0,0] body)) (.seq (.leaf (sel [1,1,1,0,1,0,1,1,1,1,0,1,0,1,1,0,0,1,0] body)) (.block 1 (.seq (.leaf (sel [1,1,1,0,1,0,1,1,1,1,0,1,0,1,1,0,0,1,1,0,0] body)) (.seq (.leaf (sel [1,1,1,0,1,0,1,1,1,1,0,1,0,1,1,0,0,1,1,0,1,0] body)) (.mark (leaf [(0, .s .ptr), (4, .s .loc), (7, .s .loc), (8, .s .str), (10, .s .str), (44, .s .any), (55, .s .bool)] (k3 R Xa)) (.leaf (sel [1,1,1,0,1,0,1,1,1,1,0,1,0,1,1,0,0,1,1,0,1,1] body))))))))
def k1 (R : EP) (x0 : OA) (x4 x7 : Nat) (x8 : BA) (w : World) : Prop :=
 nilP x0 fun a44 =>
 ∃ (v45 : OA), w.cell? a44 = some (.pointer v45) ∧
 nilP v45 fun a46 =>
 ∃ (v47 : Bool), w.cell? a46 = some (.bool v47) ∧
 br v47
 (callE P i_extractID #[.pointer x0, .string x8] (fun e w49 => ∃ (r48_0 : BA), ∃ (r48_1 : BA), e = .returned (.tuple #[.string r48_0, .string r48_1]) ∧
 ∃ (r50 : Value), ∃ w51, (Instr.range ty_string (.string r48_0)).run P w49 = .ok r50 w51 ∧
 l1 R x0 x4 x7 r48_1 r48_0 r50 w51) w)
 (k2 R x0 x4 x7 x8 (ByteArray.mk #[]) w)

end g_newATXHeading
def g_newATXHeading (R : EP) (x0 : OA) (x1_0 x1_1 x1_2 : Int) (x1_3 : BA) (x1_4 : Int) (w : World) : Prop :=
 box w #[.int .i64 x1_0, .int .i64 x1_1, .int .i64 x1_2, .string x1_3, .int .u8 x1_4] ty_line fun b1 w2 =>
 box w2 #[.int .i64 0, .int .i64 0, .int .i64 0, .string (ByteArray.mk #[]), .int .u8 0] ty_line fun b3 w4 =>
 ∃ (v5 : Int), w4.cell? ⟨b1, 0, none⟩ = some (.int .i64 v5) ∧
 ∃ (v6 : Int), w4.cell? ⟨b1, 1, none⟩ = some (.int .i64 v6) ∧
 ∃ (v7 : Int), w4.cell? ⟨b1, 2, none⟩ = some (.int .i64 v7) ∧
 ∃ (v8 : BA), w4.cell? ⟨b1, 3, none⟩ = some (.string v8) ∧
 ∃ (v9 : Int), w4.cell? ⟨b1, 4, none⟩ = some (.int .u8 v9) ∧
 box w4 #[.int .i64 0, .int .i64 0, .int .i64 0, .string (ByteArray.mk #[]), .int .u8 0] ty_line fun b10 w11 =>
 stV w11 ⟨b10, 0, none⟩ (.int .i64 v5) fun w12 =>
 stV w12 ⟨b10, 1, none⟩ (.int .i64 v6) fun w13 =>
 stV w13 ⟨b10, 2, none⟩ (.int .i64 v7) fun w14 =>
 stV w14 ⟨b10, 3, none⟩ (.string v8) fun w15 =>
 stV w15 ⟨b10, 4, none⟩ (.int .u8 v9) fun w16 =>
 box w16 #[.int .i64 0] ty_int fun b17 w18 =>
 callE P i_line_trimHeading #[.pointer (some ⟨b10, 0, none⟩), .pointer (some ⟨b17, 0, none⟩)] (fun e w20 => ∃ (r19 : Bool), e = .returned (.bool r19) ∧
 br r19
 (callE P i_line_string #[.pointer (some ⟨b10, 0, none⟩)] (fun e w22 => ∃ (r21 : BA), e = .returned (.string r21) ∧
 callE P i_trimRightSpaceTab #[.string r21] (fun e w24 => ∃ (r23 : BA), e = .returned (.string r23) ∧
 callE P i_zzTrimRight #[.string r23, .string (ByteArray.mk #[35])] (fun e w26 => ∃ (r25 : BA), e = .returned (.string r25) ∧
 callE P i_trimRightSpaceTab #[.string r25] (fun e w28 => ∃ (r27 : BA), e = .returned (.string r27) ∧
 br ((!(r25.toList == r27.toList)) || (r25.toList == (ByteArray.mk #[]).toList))
 (g_newATXHeading.k1 R x0 b3 b17 r25 w28)
 (g_newATXHeading.k1 R x0 b3 b17 r23 w28)) w26) w24) w22) w20)
 (∃ (v29 : Int), w20.cell? ⟨b1, 0, none⟩ = some (.int .i64 v29) ∧
 ∃ (v30 : Int), w20.cell? ⟨b1, 1, none⟩ = some (.int .i64 v30) ∧
 ∃ (v31 : Int), w20.cell? ⟨b1, 2, none⟩ = some (.int .i64 v31) ∧
 ∃ (v32 : BA), w20.cell? ⟨b1, 3, none⟩ = some (.string v32) ∧
 ∃ (v33 : Int), w20.cell? ⟨b1, 4, none⟩ = some (.int .u8 v33) ∧
 stV w20 ⟨b3, 0, none⟩ (.int .i64 v29) fun w34 =>
 stV w34 ⟨b3, 1, none⟩ (.int .i64 v30) fun w35 =>
 stV w35 ⟨b3, 2, none⟩ (.int .i64 v31) fun w36 =>
 stV w36 ⟨b3, 3, none⟩ (.string v32) fun w37 =>
 stV w37 ⟨b3, 4, none⟩ (.int .u8 v33) fun w38 =>
 ∃ (v39 : Int), w38.cell? ⟨b3, 0, none⟩ = some (.int .i64 v39) ∧
 ∃ (v40 : Int), w38.cell? ⟨b3, 1, none⟩ = some (.int .i64 v40) ∧
 ∃ (v41 : Int), w38.cell? ⟨b3, 2, none⟩ = some (.int .i64 v41) ∧
 ∃ (v42 : BA), w38.cell? ⟨b3, 3, none⟩ = some (.string v42) ∧
 ∃ (v43 : Int), w38.cell? ⟨b3, 4, none⟩ = some (.int .u8 v43) ∧
 R (.returned (.tuple #[.agg #[.int .i64 v39, .int .i64 v40, .int .i64 v41, .string v42, .int .u8 v43], .bool false])) w38)) w18

namespace g_newATXHeading
noncomputable def ac (R : EP) : AC :=
 (.seq (.leaf (sel [0] body)) (.seq (.leaf (sel [1,0] body)) (.seq (.leaf (sel [1,1,0] body)) (.seq (.seq (.leaf (sel [1,1,1,0,0] body)) (.cond 15 (.seq (.leaf (sel [1,1,1,0,1,0,0] body)) (.seq (.leaf (sel [1,1,1,0,1,0,1,0] body)) (.seq (.leaf (sel [1,1,1,0,1,0,1,1,0] body)) (.mark (leaf [(0, .s .ptr), (4, .s .loc), (7, .s .loc), (8, .s .str)] (k1 R)) (.seq (.leaf (sel [1,1,1,0,1,0,1,1,1,0] body)) (.seq (.seq (.leaf (sel [1,1,1,0,1,0,1,1,1,1,0,0] body)) (.cond 36 (.seq (.leaf (sel [1,1,1,0,1,0,1,1,1,1,0,1,0,0] body)) (.seq (.leaf (sel [1,1,1,0,1,0,1,1,1,1,0,1,0,1,0] body)) (.block 0 (.loop (leaf [(0, .s .ptr), (4, .s .loc), (7, .s .loc), (8, .s .str), (10, .s .str), (44, .s .any)] (l1 R)) (sel [1,1,1,0,1,0,1,1,1,1,0,1,0,1,1,0,0] body))))) (.leaf (sel [1,1,1,0,1,0,1,1,1,1,0,1,1] body)))) (.mark (leaf [(0, .s .ptr), (4, .s .loc), (7, .s .loc), (8, .s .str), (10, .s .str)] (k2 R)) (.seq (.draw (.pure 0 (.pure 1 (.pure 2 (.pure 4 (.pure 5 (.pure 6 (.load 3 (.load 7 (.pure 8 (.one 9 (.one 10 .done))))))))))) (sel [1,1,1,0,1,0,1,1,1,1,1,0] body)) (.seq (.draw (.pure 0 (.pure 3 (.pure 5 (.pure 7 (.load 1 (.load 2 (.load 4 (.one 6 (.pure 8 (.one 9 (.pure 10 (.one 11 .done)))))))))))) (sel [1,1,1,0,1,0,1,1,1,1,1,1,0] body)) (.leaf (sel [1,1,1,0,1,0,1,1,1,1,1,1,1] body))))))))))) (.leaf (sel [1,1,1,0,1,1] body)))) (.leaf (sel [1,1,1,1] body))))))
theorem good (R : EP) : Good P 82 (ac R) (QF P [.cell 4 159, .tmp 5] R) :=
 ⟨trivial, ⟨trivial, ⟨trivial, ⟨⟨trivial, ⟨⟨trivial, ⟨trivial, ⟨trivial, ⟨⟨trivial, ⟨⟨trivial, ⟨⟨trivial, ⟨trivial, (loopG (al1 R) (bl1 R) (fun _ => by kernel_rfl) (fun Xa => ⟨trivial, ⟨trivial, ⟨trivial, ⟨trivial, ⟨trivial, cutZ⟩⟩⟩⟩⟩) (fun Xa => by intro x0 x4 x7 x8 x10 x44 ρ w; kernel_rfl) (fun X h _ _ _ _ _ _ _ g => g X h))⟩⟩, trivial⟩⟩, ⟨⟨⟨by kernel_rfl, by kernel_rfl, fun _ _ _ h => h⟩, ⟨⟨by kernel_rfl, by kernel_rfl, fun _ _ _ h => h⟩, trivial⟩⟩, cutZ⟩⟩⟩, cutZ⟩⟩⟩⟩, trivial⟩⟩, trivial⟩⟩⟩⟩
theorem eq (R : EP) (x0 : OA) (x1_0 x1_1 x1_2 : Int) (x1_3 : BA) (x1_4 : Int) (w : World) : g_newATXHeading R x0 x1_0 x1_1 x1_2 x1_3 x1_4 w = vcA P 82 (ac R) (QF P [.cell 4 159, .tmp 5] R) (fr0 [.pointer x0, .agg #[.int .i64 x1_0, .int .i64 x1_1, .int .i64 x1_2, .string x1_3, .int .u8 x1_4]]) w := by kernel_rfl
theorem sound {R : EP} {x0 : OA} {x1_0 x1_1 x1_2 : Int} {x1_3 : ByteArray} {x1_4 : Int} {w : World} (h : g_newATXHeading R x0 x1_0 x1_1 x1_2 x1_3 x1_4 w) : callE P i_newATXHeading #[.pointer x0, .agg #[.int .i64 x1_0, .int .i64 x1_1, .int .i64 x1_2, .string x1_3, .int .u8 x1_4]] R w :=
 callE_fz (c := body) Tryz.func125 Tryz.call125 (good R) (eq R x0 x1_0 x1_1 x1_2 x1_3 x1_4 w) h
end g_newATXHeading
namespace g_newHR
noncomputable def body : Code := bodyOf Tryz.f127
end g_newHR
def g_newHR (R : EP) (x0 : OA) (x1_0 x1_1 x1_2 : Int) (x1_3 : BA) (x1_4 : Int) (w : World) : Prop :=
 box w #[.int .i64 x1_0, .int .i64 x1_1, .int .i64 x1_2, .string x1_3, .int .u8 x1_4] ty_line fun b1 w2 =>
 box w2 #[.int .i64 0, .int .i64 0, .int .i64 0, .string (ByteArray.mk #[]), .int .u8 0] ty_line fun b3 w4 =>
 ∃ (v5 : Int), w4.cell? ⟨b1, 0, none⟩ = some (.int .i64 v5) ∧
 ∃ (v6 : Int), w4.cell? ⟨b1, 1, none⟩ = some (.int .i64 v6) ∧
 ∃ (v7 : Int), w4.cell? ⟨b1, 2, none⟩ = some (.int .i64 v7) ∧
 ∃ (v8 : BA), w4.cell? ⟨b1, 3, none⟩ = some (.string v8) ∧
 ∃ (v9 : Int), w4.cell? ⟨b1, 4, none⟩ = some (.int .u8 v9) ∧
 callE P i_isHR #[.agg #[.int .i64 v5, .int .i64 v6, .int .i64 v7, .string v8, .int .u8 v9]] (fun e w11 => ∃ (r10 : Bool), e = .returned (.bool r10) ∧
 br r10
 (tk w11 fun w12 =>
 nilP x0 fun a13 =>
 nilP x0 fun a14 =>
 ∃ (v15 : Int), w12.cell? (a13.add 3) = some (.int .i64 v15) ∧
 ∃ (v16 : Int), w12.cell? (a14.add 3) = some (.int .i64 v16) ∧
 callE P i_line_string #[.pointer (some ⟨b1, 0, none⟩)] (fun e w18 => ∃ (r17 : BA), e = .returned (.string r17) ∧
 SameC w12 w18 (a14.add 3) 1 ∧
 SameC w12 w18 (a13.add 3) 1 ∧
 box w18 #[.int .i64 v15, .int .i64 v16, .string r17] ty_ThematicBreak fun b19 w20 =>
 callE P i_parseState_doneBlock #[.pointer x0, .iface ty_P_ThematicBreak (.pointer (some ⟨b19, 0, none⟩))] (fun e w22 => e = .returned (.tuple #[]) ∧
 stV w22 ⟨b3, 0, none⟩ (.int .i64 0) fun w23 =>
 stV w23 ⟨b3, 1, none⟩ (.int .i64 0) fun w24 =>
 stV w24 ⟨b3, 2, none⟩ (.int .i64 0) fun w25 =>
 stV w25 ⟨b3, 3, none⟩ (.string (ByteArray.mk #[])) fun w26 =>
 stV w26 ⟨b3, 4, none⟩ (.int .u8 0) fun w27 =>
 ∃ (v28 : Int), w27.cell? ⟨b3, 0, none⟩ = some (.int .i64 v28) ∧
 ∃ (v29 : Int), w27.cell? ⟨b3, 1, none⟩ = some (.int .i64 v29) ∧
 ∃ (v30 : Int), w27.cell? ⟨b3, 2, none⟩ = some (.int .i64 v30) ∧
 ∃ (v31 : BA), w27.cell? ⟨b3, 3, none⟩ = some (.string v31) ∧
 ∃ (v32 : Int), w27.cell? ⟨b3, 4, none⟩ = some (.int .u8 v32) ∧
 R (.returned (.tuple #[.agg #[.int .i64 v28, .int .i64 v29, .int .i64 v30, .string v31, .int .u8 v32], .bool true])) w27) w20) w12)
 (∃ (v33 : Int), w11.cell? ⟨b1, 0, none⟩ = some (.int .i64 v33) ∧
 ∃ (v34 : Int), w11.cell? ⟨b1, 1, none⟩ = some (.int .i64 v34) ∧
 ∃ (v35 : Int), w11.cell? ⟨b1, 2, none⟩ = some (.int .i64 v35) ∧
 ∃ (v36 : BA), w11.cell? ⟨b1, 3, none⟩ = some (.string v36) ∧
 ∃ (v37 : Int), w11.cell? ⟨b1, 4, none⟩ = some (.int .u8 v37) ∧
 stV w11 ⟨b3, 0, none⟩ (.int .i64 v33) fun w38 =>
 stV w38 ⟨b3, 1, none⟩ (.int .i64 v34) fun w39 =>
 stV w39 ⟨b3, 2, none⟩ (.int .i64 v35) fun w40 =>
 stV w40 ⟨b3, 3, none⟩ (.string v36) fun w41 =>
 stV w41 ⟨b3, 4, none⟩ (.int .u8 v37) fun w42 =>
 ∃ (v43 : Int), w42.cell? ⟨b3, 0, none⟩ = some (.int .i64 v43) ∧
 ∃ (v44 : Int), w42.cell? ⟨b3, 1, none⟩ = some (.int .i64 v44) ∧
 ∃ (v45 : Int), w42.cell? ⟨b3, 2, none⟩ = some (.int .i64 v45) ∧
 ∃ (v46 : BA), w42.cell? ⟨b3, 3, none⟩ = some (.string v46) ∧
 ∃ (v47 : Int), w42.cell? ⟨b3, 4, none⟩ = some (.int .u8 v47) ∧
 R (.returned (.tuple #[.agg #[.int .i64 v43, .int .i64 v44, .int .i64 v45, .string v46, .int .u8 v47], .bool false])) w42)) w4

namespace g_newHR
noncomputable def ac (R : EP) : AC :=
 (.seq (.leaf (sel [0] body)) (.seq (.seq (.leaf (sel [1,0,0] body)) (.cond 7 (.seq (.draw (.pure 0 (.pure 1 (.pure 2 (.pure 3 (.pure 5 (.pure 6 (.pure 7 (.load 4 (.load 8 (.pure 9 (.one 10 (.pure 11 (.one 12 (.pure 13 (.one 14 .done))))))))))))))) (sel [1,0,1,0,0] body)) (.leaf (sel [1,0,1,0,1] body))) (.leaf (sel [1,0,1,1] body)))) (.leaf (sel [1,1] body))))
theorem good (R : EP) : Good P 25 (ac R) (QF P [.cell 4 159, .tmp 5] R) :=
 ⟨trivial, ⟨⟨trivial, ⟨⟨⟨by kernel_rfl, by kernel_rfl, fun _ _ _ h => h⟩, trivial⟩, trivial⟩⟩, trivial⟩⟩
theorem eq (R : EP) (x0 : OA) (x1_0 x1_1 x1_2 : Int) (x1_3 : BA) (x1_4 : Int) (w : World) : g_newHR R x0 x1_0 x1_1 x1_2 x1_3 x1_4 w = vcA P 25 (ac R) (QF P [.cell 4 159, .tmp 5] R) (fr0 [.pointer x0, .agg #[.int .i64 x1_0, .int .i64 x1_1, .int .i64 x1_2, .string x1_3, .int .u8 x1_4]]) w := by kernel_rfl
theorem sound {R : EP} {x0 : OA} {x1_0 x1_1 x1_2 : Int} {x1_3 : ByteArray} {x1_4 : Int} {w : World} (h : g_newHR R x0 x1_0 x1_1 x1_2 x1_3 x1_4 w) : callE P i_newHR #[.pointer x0, .agg #[.int .i64 x1_0, .int .i64 x1_1, .int .i64 x1_2, .string x1_3, .int .u8 x1_4]] R w :=
 callE_fz (c := body) Tryz.func127 Tryz.call127 (good R) (eq R x0 x1_0 x1_1 x1_2 x1_3 x1_4 w) h
end g_newHR
namespace g_newQuote
noncomputable def body : Code := bodyOf Tryz.f124
end g_newQuote
def g_newQuote (R : EP) (x0 : OA) (x1_0 x1_1 x1_2 : Int) (x1_3 : BA) (x1_4 : Int) (w : World) : Prop :=
 box w #[.int .i64 x1_0, .int .i64 x1_1, .int .i64 x1_2, .string x1_3, .int .u8 x1_4] ty_line fun b1 w2 =>
 box w2 #[.int .i64 0, .int .i64 0, .int .i64 0, .string (ByteArray.mk #[]), .int .u8 0] ty_line fun b3 w4 =>
 ∃ (v5 : Int), w4.cell? ⟨b1, 0, none⟩ = some (.int .i64 v5) ∧
 ∃ (v6 : Int), w4.cell? ⟨b1, 1, none⟩ = some (.int .i64 v6) ∧
 ∃ (v7 : Int), w4.cell? ⟨b1, 2, none⟩ = some (.int .i64 v7) ∧
 ∃ (v8 : BA), w4.cell? ⟨b1, 3, none⟩ = some (.string v8) ∧
 ∃ (v9 : Int), w4.cell? ⟨b1, 4, none⟩ = some (.int .u8 v9) ∧
 callE P i_trimQuote #[.agg #[.int .i64 v5, .int .i64 v6, .int .i64 v7, .string v8, .int .u8 v9]] (fun e w11 => ∃ (r10_0_0 : Int), ∃ (r10_0_1 : Int), ∃ (r10_0_2 : Int), ∃ (r10_0_3 : BA), ∃ (r10_0_4 : Int), ∃ (r10_1 : Bool), e = .returned (.tuple #[.agg #[.int .i64 r10_0_0, .int .i64 r10_0_1, .int .i64 r10_0_2, .string r10_0_3, .int .u8 r10_0_4], .bool r10_1]) ∧
 box w11 #[.int .i64 0, .int .i64 0, .int .i64 0, .string (ByteArray.mk #[]), .int .u8 0] ty_line fun b12 w13 =>
 stV w13 ⟨b12, 0, none⟩ (.int .i64 r10_0_0) fun w14 =>
 stV w14 ⟨b12, 1, none⟩ (.int .i64 r10_0_1) fun w15 =>
 stV w15 ⟨b12, 2, none⟩ (.int .i64 r10_0_2) fun w16 =>
 stV w16 ⟨b12, 3, none⟩ (.string r10_0_3) fun w17 =>
 stV w17 ⟨b12, 4, none⟩ (.int .u8 r10_0_4) fun w18 =>
 br r10_1
 (box w18 #[] ty_quoteBuilder fun b19 w20 =>
 callE P i_parseState_addBlock #[.pointer x0, .iface ty_P_quoteBuilder (.pointer (some ⟨b19, 0, none⟩))] (fun e w22 => e = .returned (.tuple #[]) ∧
 ∃ (v23 : Int), w22.cell? ⟨b12, 0, none⟩ = some (.int .i64 v23) ∧
 ∃ (v24 : Int), w22.cell? ⟨b12, 1, none⟩ = some (.int .i64 v24) ∧
 ∃ (v25 : Int), w22.cell? ⟨b12, 2, none⟩ = some (.int .i64 v25) ∧
 ∃ (v26 : BA), w22.cell? ⟨b12, 3, none⟩ = some (.string v26) ∧
 ∃ (v27 : Int), w22.cell? ⟨b12, 4, none⟩ = some (.int .u8 v27) ∧
 stV w22 ⟨b3, 0, none⟩ (.int .i64 v23) fun w28 =>
 stV w28 ⟨b3, 1, none⟩ (.int .i64 v24) fun w29 =>
 stV w29 ⟨b3, 2, none⟩ (.int .i64 v25) fun w30 =>
 stV w30 ⟨b3, 3, none⟩ (.string v26) fun w31 =>
 stV w31 ⟨b3, 4, none⟩ (.int .u8 v27) fun w32 =>
 ∃ (v33 : Int), w32.cell? ⟨b3, 0, none⟩ = some (.int .i64 v33) ∧
 ∃ (v34 : Int), w32.cell? ⟨b3, 1, none⟩ = some (.int .i64 v34) ∧
 ∃ (v35 : Int), w32.cell? ⟨b3, 2, none⟩ = some (.int .i64 v35) ∧
 ∃ (v36 : BA), w32.cell? ⟨b3, 3, none⟩ = some (.string v36) ∧
 ∃ (v37 : Int), w32.cell? ⟨b3, 4, none⟩ = some (.int .u8 v37) ∧
 R (.returned (.tuple #[.agg #[.int .i64 v33, .int .i64 v34, .int .i64 v35, .string v36, .int .u8 v37], .bool true])) w32) w20)
 (∃ (v38 : Int), w18.cell? ⟨b1, 0, none⟩ = some (.int .i64 v38) ∧
 ∃ (v39 : Int), w18.cell? ⟨b1, 1, none⟩ = some (.int .i64 v39) ∧
 ∃ (v40 : Int), w18.cell? ⟨b1, 2, none⟩ = some (.int .i64 v40) ∧
 ∃ (v41 : BA), w18.cell? ⟨b1, 3, none⟩ = some (.string v41) ∧
 ∃ (v42 : Int), w18.cell? ⟨b1, 4, none⟩ = some (.int .u8 v42) ∧
 stV w18 ⟨b3, 0, none⟩ (.int .i64 v38) fun w43 =>
 stV w43 ⟨b3, 1, none⟩ (.int .i64 v39) fun w44 =>
 stV w44 ⟨b3, 2, none⟩ (.int .i64 v40) fun w45 =>
 stV w45 ⟨b3, 3, none⟩ (.string v41) fun w46 =>
 stV w46 ⟨b3, 4, none⟩ (.int .u8 v42) fun w47 =>
 ∃ (v48 : Int), w47.cell? ⟨b3, 0, none⟩ = some (.int .i64 v48) ∧
 ∃ (v49 : Int), w47.cell? ⟨b3, 1, none⟩ = some (.int .i64 v49) ∧
 ∃ (v50 : Int), w47.cell? ⟨b3, 2, none⟩ = some (.int .i64 v50) ∧
 ∃ (v51 : BA), w47.cell? ⟨b3, 3, none⟩ = some (.string v51) ∧
 ∃ (v52 : Int), w47.cell? ⟨b3, 4, none⟩ = some (.int .u8 v52) ∧
 R (.returned (.tuple #[.agg #[.int .i64 v48, .int .i64 v49, .int .i64 v50, .string v51, .int .u8 v52], .bool false])) w47)) w4

namespace g_newQuote
noncomputable def ac (R : EP) : AC :=
 (.leaf (sel [] body))
theorem good (R : EP) : Good P 20 (ac R) (QF P [.cell 4 159, .tmp 5] R) :=
 trivial
theorem eq (R : EP) (x0 : OA) (x1_0 x1_1 x1_2 : Int) (x1_3 : BA) (x1_4 : Int) (w : World) : g_newQuote R x0 x1_0 x1_1 x1_2 x1_3 x1_4 w = vcA P 20 (ac R) (QF P [.cell 4 159, .tmp 5] R) (fr0 [.pointer x0, .agg #[.int .i64 x1_0, .int .i64 x1_1, .int .i64 x1_2, .string x1_3, .int .u8 x1_4]]) w := by kernel_rfl
theorem sound {R : EP} {x0 : OA} {x1_0 x1_1 x1_2 : Int} {x1_3 : ByteArray} {x1_4 : Int} {w : World} (h : g_newQuote R x0 x1_0 x1_1 x1_2 x1_3 x1_4 w) : callE P i_newQuote #[.pointer x0, .agg #[.int .i64 x1_0, .int .i64 x1_1, .int .i64 x1_2, .string x1_3, .int .u8 x1_4]] R w :=
 callE_fz (c := body) Tryz.func124 Tryz.call124 (good R) (eq R x0 x1_0 x1_1 x1_2 x1_3 x1_4 w) h
end g_newQuote
namespace g_isHR
noncomputable def body : Code := bodyOf Tryz.f186
def bl1 (R : EP) (Xa : Nat → Int → Int → WP) (x3 : Nat) (x4 x5 : Int) (w : World) : Prop :=
 callE P i_line_trim #[.pointer (some ⟨x3, 0, none⟩), .int .u8 x4] (fun e w20 => ∃ (r19 : Bool), e = .returned (.bool r19) ∧
 br (!r19)
 (br (decide (x5 ≥ 3))
 (callE P i_line_eof #[.pointer (some ⟨x3, 0, none⟩)] (fun e w22 => ∃ (r21 : Bool), e = .returned (.bool r21) ∧
 R (.returned (.bool r21)) w22) w20)
 (R (.returned (.bool false)) w20))
 (callE P i_line_skipSpace #[.pointer (some ⟨x3, 0, none⟩)] (fun e w24 => e = .returned (.tuple #[]) ∧
 Xa x3 x4 (IntKind.i64.wrap (x5 + 1)) w24) w20)) w
def l1 (R : EP) (x3 : Nat) (x4 x5 : Int) (w : World) : Prop :=
 ∀ X : Nat → Int → Int → WP, (∀ x3 x4 x5 w, bl1 R X x3 x4 x5 w → X x3 x4 x5 w) → X x3 x4 x5 w

noncomputable def al1 (R : EP) (Xa : Nat → Int → Int → WP) : AC :=
 (.leaf (sel [1,1,1,0,1,1,0,1,0,0,1,0,0] body))
def k1 (R : EP) (x3 : Nat) (x4 : Int) (x10 : Bool) (w : World) : Prop :=
 br x10
 (l1 R x3 x4 0 w)
 (R (.returned (.bool false)) w)

end g_isHR
def g_isHR (R : EP) (x0_0 x0_1 x0_2 : Int) (x0_3 : BA) (x0_4 : Int) (w : World) : Prop :=
 box w #[.int .i64 x0_0, .int .i64 x0_1, .int .i64 x0_2, .string x0_3, .int .u8 x0_4] ty_line fun b1 w2 =>
 ∃ (v3 : Int), w2.cell? ⟨b1, 0, none⟩ = some (.int .i64 v3) ∧
 ∃ (v4 : Int), w2.cell? ⟨b1, 1, none⟩ = some (.int .i64 v4) ∧
 ∃ (v5 : Int), w2.cell? ⟨b1, 2, none⟩ = some (.int .i64 v5) ∧
 ∃ (v6 : BA), w2.cell? ⟨b1, 3, none⟩ = some (.string v6) ∧
 ∃ (v7 : Int), w2.cell? ⟨b1, 4, none⟩ = some (.int .u8 v7) ∧
 box w2 #[.int .i64 0, .int .i64 0, .int .i64 0, .string (ByteArray.mk #[]), .int .u8 0] ty_line fun b8 w9 =>
 stV w9 ⟨b8, 0, none⟩ (.int .i64 v3) fun w10 =>
 stV w10 ⟨b8, 1, none⟩ (.int .i64 v4) fun w11 =>
 stV w11 ⟨b8, 2, none⟩ (.int .i64 v5) fun w12 =>
 stV w12 ⟨b8, 3, none⟩ (.string v6) fun w13 =>
 stV w13 ⟨b8, 4, none⟩ (.int .u8 v7) fun w14 =>
 callE P i_line_trimSpace #[.pointer (some ⟨b8, 0, none⟩), .int .i64 0, .int .i64 3, .bool false] (fun e w16 => ∃ (r15 : Bool), e = .returned (.bool r15) ∧
 callE P i_line_peek #[.pointer (some ⟨b8, 0, none⟩)] (fun e w18 => ∃ (r17 : Int), e = .returned (.int .u8 r17) ∧
 br (r17 == 45)
 (g_isHR.k1 R b8 r17 true w18)
 (br (r17 == 95)
 (g_isHR.k1 R b8 r17 true w18)
 (g_isHR.k1 R b8 r17 (r17 == 42) w18))) w16) w14

namespace g_isHR
noncomputable def ac (R : EP) : AC :=
 (.seq (.leaf (sel [0] body)) (.seq (.leaf (sel [1,0] body)) (.seq (.leaf (sel [1,1,0] body)) (.seq (.seq (.leaf (sel [1,1,1,0,0] body)) (.seq (.leaf (sel [1,1,1,0,1,0] body)) (.block 0 (.seq (.leaf (sel [1,1,1,0,1,1,0,0] body)) (.mark (leaf [(3, .s .loc), (4, .s (.int .u8)), (10, .s .bool)] (k1 R)) (.cond 10 (.seq (.seq (.leaf (sel [1,1,1,0,1,1,0,1,0,0,0] body)) (.block 1 (.loop (leaf [(3, .s .loc), (4, .s (.int .u8)), (5, .s (.int .i64))] (l1 R)) (sel [1,1,1,0,1,1,0,1,0,0,1,0,0] body)))) (.leaf (sel [1,1,1,0,1,1,0,1,0,1] body))) (.leaf (sel [1,1,1,0,1,1,0,1,1] body)))))))) (.leaf (sel [1,1,1,1] body))))))
theorem good (R : EP) : Good P 23 (ac R) (QF P [.tmp 2] R) :=
 ⟨trivial, ⟨trivial, ⟨trivial, ⟨⟨trivial, ⟨trivial, ⟨trivial, ⟨⟨⟨⟨trivial, (loopG (al1 R) (bl1 R) (fun _ => by kernel_rfl) (fun Xa => trivial) (fun Xa => by intro x3 x4 x5 ρ w; kernel_rfl) (fun X h _ _ _ _ g => g X h))⟩, trivial⟩, trivial⟩, cutZ⟩⟩⟩⟩, trivial⟩⟩⟩⟩
theorem eq (R : EP) (x0_0 x0_1 x0_2 : Int) (x0_3 : BA) (x0_4 : Int) (w : World) : g_isHR R x0_0 x0_1 x0_2 x0_3 x0_4 w = vcA P 23 (ac R) (QF P [.tmp 2] R) (fr0 [.agg #[.int .i64 x0_0, .int .i64 x0_1, .int .i64 x0_2, .string x0_3, .int .u8 x0_4]]) w := by kernel_rfl
theorem sound {R : EP} {x0_0 x0_1 x0_2 : Int} {x0_3 : ByteArray} {x0_4 : Int} {w : World} (h : g_isHR R x0_0 x0_1 x0_2 x0_3 x0_4 w) : callE P i_isHR #[.agg #[.int .i64 x0_0, .int .i64 x0_1, .int .i64 x0_2, .string x0_3, .int .u8 x0_4]] R w :=
 callE_fz (c := body) Tryz.func186 Tryz.call186 (good R) (eq R x0_0 x0_1 x0_2 x0_3 x0_4 w) h
end g_isHR
namespace g_trimQuote
noncomputable def body : Code := bodyOf Tryz.f173
end g_trimQuote
def g_trimQuote (R : EP) (x0_0 x0_1 x0_2 : Int) (x0_3 : BA) (x0_4 : Int) (w : World) : Prop :=
 box w #[.int .i64 x0_0, .int .i64 x0_1, .int .i64 x0_2, .string x0_3, .int .u8 x0_4] ty_line fun b1 w2 =>
 box w2 #[.int .i64 0, .int .i64 0, .int .i64 0, .string (ByteArray.mk #[]), .int .u8 0] ty_line fun b3 w4 =>
 ∃ (v5 : Int), w4.cell? ⟨b1, 0, none⟩ = some (.int .i64 v5) ∧
 ∃ (v6 : Int), w4.cell? ⟨b1, 1, none⟩ = some (.int .i64 v6) ∧
 ∃ (v7 : Int), w4.cell? ⟨b1, 2, none⟩ = some (.int .i64 v7) ∧
 ∃ (v8 : BA), w4.cell? ⟨b1, 3, none⟩ = some (.string v8) ∧
 ∃ (v9 : Int), w4.cell? ⟨b1, 4, none⟩ = some (.int .u8 v9) ∧
 box w4 #[.int .i64 0, .int .i64 0, .int .i64 0, .string (ByteArray.mk #[]), .int .u8 0] ty_line fun b10 w11 =>
 stV w11 ⟨b10, 0, none⟩ (.int .i64 v5) fun w12 =>
 stV w12 ⟨b10, 1, none⟩ (.int .i64 v6) fun w13 =>
 stV w13 ⟨b10, 2, none⟩ (.int .i64 v7) fun w14 =>
 stV w14 ⟨b10, 3, none⟩ (.string v8) fun w15 =>
 stV w15 ⟨b10, 4, none⟩ (.int .u8 v9) fun w16 =>
 callE P i_line_trimSpace #[.pointer (some ⟨b10, 0, none⟩), .int .i64 0, .int .i64 3, .bool false] (fun e w18 => ∃ (r17 : Bool), e = .returned (.bool r17) ∧
 callE P i_line_trim #[.pointer (some ⟨b10, 0, none⟩), .int .u8 62] (fun e w20 => ∃ (r19 : Bool), e = .returned (.bool r19) ∧
 br (!r19)
 (∃ (v21 : Int), w20.cell? ⟨b1, 0, none⟩ = some (.int .i64 v21) ∧
 ∃ (v22 : Int), w20.cell? ⟨b1, 1, none⟩ = some (.int .i64 v22) ∧
 ∃ (v23 : Int), w20.cell? ⟨b1, 2, none⟩ = some (.int .i64 v23) ∧
 ∃ (v24 : BA), w20.cell? ⟨b1, 3, none⟩ = some (.string v24) ∧
 ∃ (v25 : Int), w20.cell? ⟨b1, 4, none⟩ = some (.int .u8 v25) ∧
 stV w20 ⟨b3, 0, none⟩ (.int .i64 v21) fun w26 =>
 stV w26 ⟨b3, 1, none⟩ (.int .i64 v22) fun w27 =>
 stV w27 ⟨b3, 2, none⟩ (.int .i64 v23) fun w28 =>
 stV w28 ⟨b3, 3, none⟩ (.string v24) fun w29 =>
 stV w29 ⟨b3, 4, none⟩ (.int .u8 v25) fun w30 =>
 ∃ (v31 : Int), w30.cell? ⟨b3, 0, none⟩ = some (.int .i64 v31) ∧
 ∃ (v32 : Int), w30.cell? ⟨b3, 1, none⟩ = some (.int .i64 v32) ∧
 ∃ (v33 : Int), w30.cell? ⟨b3, 2, none⟩ = some (.int .i64 v33) ∧
 ∃ (v34 : BA), w30.cell? ⟨b3, 3, none⟩ = some (.string v34) ∧
 ∃ (v35 : Int), w30.cell? ⟨b3, 4, none⟩ = some (.int .u8 v35) ∧
 R (.returned (.tuple #[.agg #[.int .i64 v31, .int .i64 v32, .int .i64 v33, .string v34, .int .u8 v35], .bool false])) w30)
 (callE P i_line_trimSpace #[.pointer (some ⟨b10, 0, none⟩), .int .i64 0, .int .i64 1, .bool true] (fun e w37 => ∃ (r36 : Bool), e = .returned (.bool r36) ∧
 ∃ (v38 : Int), w37.cell? ⟨b10, 0, none⟩ = some (.int .i64 v38) ∧
 ∃ (v39 : Int), w37.cell? ⟨b10, 1, none⟩ = some (.int .i64 v39) ∧
 ∃ (v40 : Int), w37.cell? ⟨b10, 2, none⟩ = some (.int .i64 v40) ∧
 ∃ (v41 : BA), w37.cell? ⟨b10, 3, none⟩ = some (.string v41) ∧
 ∃ (v42 : Int), w37.cell? ⟨b10, 4, none⟩ = some (.int .u8 v42) ∧
 stV w37 ⟨b3, 0, none⟩ (.int .i64 v38) fun w43 =>
 stV w43 ⟨b3, 1, none⟩ (.int .i64 v39) fun w44 =>
 stV w44 ⟨b3, 2, none⟩ (.int .i64 v40) fun w45 =>
 stV w45 ⟨b3, 3, none⟩ (.string v41) fun w46 =>
 stV w46 ⟨b3, 4, none⟩ (.int .u8 v42) fun w47 =>
 ∃ (v48 : Int), w47.cell? ⟨b3, 0, none⟩ = some (.int .i64 v48) ∧
 ∃ (v49 : Int), w47.cell? ⟨b3, 1, none⟩ = some (.int .i64 v49) ∧
 ∃ (v50 : Int), w47.cell? ⟨b3, 2, none⟩ = some (.int .i64 v50) ∧
 ∃ (v51 : BA), w47.cell? ⟨b3, 3, none⟩ = some (.string v51) ∧
 ∃ (v52 : Int), w47.cell? ⟨b3, 4, none⟩ = some (.int .u8 v52) ∧
 R (.returned (.tuple #[.agg #[.int .i64 v48, .int .i64 v49, .int .i64 v50, .string v51, .int .u8 v52], .bool true])) w47) w20)) w18) w16

namespace g_trimQuote
noncomputable def ac (R : EP) : AC :=
 (.leaf (sel [] body))
theorem good (R : EP) : Good P 12 (ac R) (QF P [.cell 2 159, .tmp 3] R) :=
 trivial
theorem eq (R : EP) (x0_0 x0_1 x0_2 : Int) (x0_3 : BA) (x0_4 : Int) (w : World) : g_trimQuote R x0_0 x0_1 x0_2 x0_3 x0_4 w = vcA P 12 (ac R) (QF P [.cell 2 159, .tmp 3] R) (fr0 [.agg #[.int .i64 x0_0, .int .i64 x0_1, .int .i64 x0_2, .string x0_3, .int .u8 x0_4]]) w := by kernel_rfl
theorem sound {R : EP} {x0_0 x0_1 x0_2 : Int} {x0_3 : ByteArray} {x0_4 : Int} {w : World} (h : g_trimQuote R x0_0 x0_1 x0_2 x0_3 x0_4 w) : callE P i_trimQuote #[.agg #[.int .i64 x0_0, .int .i64 x0_1, .int .i64 x0_2, .string x0_3, .int .u8 x0_4]] R w :=
 callE_fz (c := body) Tryz.func173 Tryz.call173 (good R) (eq R x0_0 x0_1 x0_2 x0_3 x0_4 w) h
end g_trimQuote
namespace g_parseState_addBlock
noncomputable def body : Code := bodyOf Tryz.f66
end g_parseState_addBlock
def g_parseState_addBlock (R : EP) (x0 : OA) (x1 : Value) (w : World) : Prop :=
 nilP x0 fun a1 =>
 ∃ (v2 : Int), w.cell? (a1.add 5) = some (.int .i64 v2) ∧
 callE P i_parseState_trimStack #[.pointer x0, .int .i64 (IntKind.i64.wrap (v2 + 1))] (fun e w4 => e = .returned (.tuple #[]) ∧
 nilP x0 fun a5 =>
 ∃ (v6q : OA), ∃ (v6n : Nat), ∃ (v6c : Nat), w4.cell? (a5.add 4) = some (.slice v6q v6n v6c) ∧
 ∃ (r7q : OA), ∃ (r7n : Nat), ∃ (r7c : Nat), ∃ w8, (Instr.buildSlice ty_S_openBlock 1 #[(0, .agg #[.nilIface, .slice none 0 0, .int .i64 0, .int .i64 0])]).run P w4 = .ok (.slice r7q r7n r7c) w8 ∧
 ∃ (r9q : OA), ∃ (r9n : Nat), ∃ (r9c : Nat), ∃ w10, (Builtin.append_ #[ty_S_openBlock, ty_S_openBlock] ty_S_openBlock #[.slice v6q v6n v6c, .slice r7q r7n r7c]).run P w8 = .ok (.slice r9q r9n r9c) w10 ∧
 nilP x0 fun a11 =>
 stV w10 ((a11.add 4).add 0) (.slice r9q r9n r9c) fun w12 =>
 tk w12 fun w13 =>
 nilP x0 fun a14 =>
 nilP x0 fun a15 =>
 ∃ (v16q : OA), ∃ (v16n : Nat), ∃ (v16c : Nat), w13.cell? (a14.add 4) = some (.slice v16q v16n v16c) ∧
 ∃ (v17q : OA), ∃ (v17n : Nat), ∃ (v17c : Nat), w13.cell? (a15.add 4) = some (.slice v17q v17n v17c) ∧
 0 ≤ (IntKind.i64.wrap ((v17n : Int) - 1)) ∧ (IntKind.i64.wrap ((v17n : Int) - 1)) < (v16n : Int) ∧
 nilP v16q fun a18 =>
 cellV x1 (
 stV w13 ((a18.add (Int.toNat (IntKind.i64.wrap ((v17n : Int) - 1)) * 4)).add 0) x1 fun w19 =>
 nilP x0 fun a20 =>
 ∃ (v21 : Int), w19.cell? (a20.add 3) = some (.int .i64 v21) ∧
 stV w19 (((a18.add (Int.toNat (IntKind.i64.wrap ((v17n : Int) - 1)) * 4)).add 2).add 0) (.int .i64 v21) fun w22 =>
 nilP x0 fun a23 =>
 ∃ (v24 : Int), w22.cell? (a23.add 3) = some (.int .i64 v24) ∧
 stV w22 ((((a18.add (Int.toNat (IntKind.i64.wrap ((v17n : Int) - 1)) * 4)).add 2).add 1).add 0) (.int .i64 v24) fun w25 =>
 R (.returned (.tuple #[])) w25)) w

namespace g_parseState_addBlock
noncomputable def ac (R : EP) : AC :=
 (.seq (.leaf (sel [0] body)) (.seq (.leaf (sel [1,0] body)) (.seq (.draw (.pure 0 (.pure 1 (.pure 2 (.pure 4 (.pure 5 (.pure 6 (.load 3 (.load 7 (.pure 8 (.pure 9 (.pure 10 (.pure 11 .done)))))))))))) (sel [1,1,0] body)) (.leaf (sel [1,1,1] body)))))
theorem good (R : EP) : Good P 53 (ac R) (QF P [] R) :=
 ⟨trivial, ⟨trivial, ⟨⟨by kernel_rfl, by kernel_rfl, fun _ _ _ h => h⟩, trivial⟩⟩⟩
theorem eq (R : EP) (x0 : OA) (x1 : Value) (w : World) : g_parseState_addBlock R x0 x1 w = vcA P 53 (ac R) (QF P [] R) (fr0 [.pointer x0, x1]) w := by kernel_rfl
theorem sound {R : EP} {x0 : OA} {x1 : Value} {w : World} (h : g_parseState_addBlock R x0 x1 w) : callE P i_parseState_addBlock #[.pointer x0, x1] R w :=
 callE_fz (c := body) Tryz.func66 Tryz.call66 (good R) (eq R x0 x1 w) h
end g_parseState_addBlock
namespace g_parseState_blocks
noncomputable def body : Code := bodyOf Tryz.f334
end g_parseState_blocks
def g_parseState_blocks (R : EP) (x0 : OA) (w : World) : Prop :=
 tk w fun w1 =>
 nilP x0 fun a2 =>
 nilP x0 fun a3 =>
 ∃ (v4q : OA), ∃ (v4n : Nat), ∃ (v4c : Nat), w1.cell? (a2.add 4) = some (.slice v4q v4n v4c) ∧
 ∃ (v5q : OA), ∃ (v5n : Nat), ∃ (v5c : Nat), w1.cell? (a3.add 4) = some (.slice v5q v5n v5c) ∧
 0 ≤ (IntKind.i64.wrap ((v5n : Int) - 1)) ∧ (IntKind.i64.wrap ((v5n : Int) - 1)) < (v4n : Int) ∧
 nilP v4q fun a6 =>
 ∃ (v7q : OA), ∃ (v7n : Nat), ∃ (v7c : Nat), w1.cell? ((a6.add (Int.toNat (IntKind.i64.wrap ((v5n : Int) - 1)) * 4)).add 1) = some (.slice v7q v7n v7c) ∧
 R (.returned (.slice v7q v7n v7c)) w1

namespace g_parseState_blocks
noncomputable def ac (R : EP) : AC :=
 (.seq (.leaf (sel [0] body)) (.seq (.draw (.pure 0 (.pure 1 (.pure 2 (.pure 4 (.pure 5 (.pure 6 (.load 3 (.load 7 (.pure 8 (.pure 9 (.pure 10 (.pure 11 .done)))))))))))) (sel [1,0] body)) (.leaf (sel [1,1] body))))
theorem good (R : EP) : Good P 19 (ac R) (QF P [.tmp 2] R) :=
 ⟨trivial, ⟨⟨by kernel_rfl, by kernel_rfl, fun _ _ _ h => h⟩, trivial⟩⟩
theorem eq (R : EP) (x0 : OA) (w : World) : g_parseState_blocks R x0 w = vcA P 19 (ac R) (QF P [.tmp 2] R) (fr0 [.pointer x0]) w := by kernel_rfl
theorem sound {R : EP} {x0 : OA} {w : World} (h : g_parseState_blocks R x0 w) : callE P i_parseState_blocks #[.pointer x0] R w :=
 callE_fz (c := body) Tryz.func334 Tryz.call334 (good R) (eq R x0 w) h
end g_parseState_blocks
namespace g_line_skipSpace
noncomputable def body : Code := bodyOf Tryz.f229
def k1 (R : EP) (Xa : OA → WP) (x0 : OA) (w : World) : Prop :=
 nilP x0 fun a16 =>
 ∃ (v17 : Int), w.cell? (a16.add 1) = some (.int .i64 v17) ∧
 nilP x0 fun a18 =>
 stV w ((a18.add 1).add 0) (.int .i64 (IntKind.i64.wrap (v17 + 1))) fun w19 =>
 Xa x0 w19

def bl1 (R : EP) (Xa : OA → WP) (x0 : OA) (w : World) : Prop :=
 tk w fun w3 =>
 nilP x0 fun a4 =>
 nilP x0 fun a5 =>
 ∃ (v6 : Int), w3.cell? (a4.add 1) = some (.int .i64 v6) ∧
 ∃ (v7 : BA), w3.cell? (a5.add 3) = some (.string v7) ∧
 br (decide (v6 < (v7.size : Int)))
 (nilP x0 fun a8 =>
 nilP x0 fun a9 =>
 ∃ (v10 : BA), w3.cell? (a8.add 3) = some (.string v10) ∧
 ∃ (v11 : Int), w3.cell? (a9.add 1) = some (.int .i64 v11) ∧
 0 ≤ v11 ∧ v11 < (v10.size : Int) ∧
 br ((bt v10 v11) == 32)
 (k1 R Xa x0 w3)
 (nilP x0 fun a12 =>
 nilP x0 fun a13 =>
 ∃ (v14 : BA), w3.cell? (a12.add 3) = some (.string v14) ∧
 ∃ (v15 : Int), w3.cell? (a13.add 1) = some (.int .i64 v15) ∧
 0 ≤ v15 ∧ v15 < (v14.size : Int) ∧
 br ((bt v14 v15) == 9)
 (k1 R Xa x0 w3)
 (R (.returned (.tuple #[])) w3)))
 (R (.returned (.tuple #[])) w3)
def l1 (R : EP) (x0 : OA) (w : World) : Prop :=
 ∀ X : OA → WP, (∀ x0 w, bl1 R X x0 w → X x0 w) → X x0 w

noncomputable def al1 (R : EP) (Xa : OA → WP) : AC :=
 (.seq (.seq (.draw (.pure 0 (.pure 1 (.pure 2 (.pure 4 (.pure 5 (.pure 6 (.load 3 (.load 7 (.pure 8 (.pure 9 (.pure 10 (.pure 11 (.pure 12 (.pure 13 (.pure 15 (.pure 16 (.pure 17 (.load 14 (.load 18 (.pure 19 (.pure 20 (.pure 21 (.pure 22 (.pure 23 (.pure 24 (.pure 26 (.pure 27 (.pure 28 (.load 25 (.load 29 (.pure 30 (.pure 31 (.pure 32 (.pure 33 .done)))))))))))))))))))))))))))))))))) (sel [1,0,0,0,0] body)) (.leaf (sel [1,0,0,0,1] body))) (.mark (leaf [(0, .s .ptr)] (k1 R Xa)) (.leaf (sel [1,0,0,1] body))))
end g_line_skipSpace
def g_line_skipSpace (R : EP) (x0 : OA) (w : World) : Prop :=
 nilP x0 fun a1 =>
 stV w (a1.add 0) (.int .i64 0) fun w2 =>
 g_line_skipSpace.l1 R x0 w2

namespace g_line_skipSpace
noncomputable def ac (R : EP) : AC :=
 (.seq (.leaf (sel [0] body)) (.block 0 (.loop (leaf [(0, .s .ptr)] (l1 R)) (sel [1,0,0] body))))
theorem good (R : EP) : Good P 46 (ac R) (QF P [] R) :=
 ⟨trivial, (loopG (al1 R) (bl1 R) (fun _ => by kernel_rfl) (fun Xa => ⟨⟨⟨by kernel_rfl, by kernel_rfl, fun _ _ _ h => h⟩, trivial⟩, ⟨trivial, cutZ⟩⟩) (fun Xa => by intro x0 ρ w; kernel_rfl) (fun X h _ _ g => g X h))⟩
theorem eq (R : EP) (x0 : OA) (w : World) : g_line_skipSpace R x0 w = vcA P 46 (ac R) (QF P [] R) (fr0 [.pointer x0]) w := by kernel_rfl
theorem sound {R : EP} {x0 : OA} {w : World} (h : g_line_skipSpace R x0 w) : callE P i_line_skipSpace #[.pointer x0] R w :=
 callE_fz (c := body) Tryz.func229 Tryz.call229 (good R) (eq R x0 w) h
end g_line_skipSpace
namespace g_line_string
noncomputable def body : Code := bodyOf Tryz.f175
end g_line_string
def g_line_string (R : EP) (x0 : OA) (w : World) : Prop :=
 nilP x0 fun a1 =>
 ∃ (v2 : Int), w.cell? a1 = some (.int .i64 v2) ∧
 br (v2 == 0)
 (tk w fun w3 =>
 nilP x0 fun a4 =>
 nilP x0 fun a5 =>
 ∃ (v6 : BA), w3.cell? (a4.add 3) = some (.string v6) ∧
 ∃ (v7 : Int), w3.cell? (a5.add 1) = some (.int .i64 v7) ∧
 0 ≤ v7 ∧ v7 ≤ (v6.size : Int) ∧
 R (.returned (.string (v6.extract (Int.toNat v7) v6.size))) w3)
 (br (v2 == 1)
 (tk w fun w8 =>
 nilP x0 fun a9 =>
 nilP x0 fun a10 =>
 ∃ (v11 : BA), w8.cell? (a9.add 3) = some (.string v11) ∧
 ∃ (v12 : Int), w8.cell? (a10.add 1) = some (.int .i64 v12) ∧
 0 ≤ v12 ∧ v12 ≤ (v11.size : Int) ∧
 (((ByteArray.mk #[32]).size + (v11.extract (Int.toNat v12) v11.size).size : Nat) : Int) ≤ IntKind.i64.max ∧
 R (.returned (.string ((ByteArray.mk #[32]) ++ (v11.extract (Int.toNat v12) v11.size)))) w8)
 (br (v2 == 2)
 (tk w fun w13 =>
 nilP x0 fun a14 =>
 nilP x0 fun a15 =>
 ∃ (v16 : BA), w13.cell? (a14.add 3) = some (.string v16) ∧
 ∃ (v17 : Int), w13.cell? (a15.add 1) = some (.int .i64 v17) ∧
 0 ≤ v17 ∧ v17 ≤ (v16.size : Int) ∧
 (((ByteArray.mk #[32, 32]).size + (v16.extract (Int.toNat v17) v16.size).size : Nat) : Int) ≤ IntKind.i64.max ∧
 R (.returned (.string ((ByteArray.mk #[32, 32]) ++ (v16.extract (Int.toNat v17) v16.size)))) w13)
 (br (v2 == 3)
 (tk w fun w18 =>
 nilP x0 fun a19 =>
 nilP x0 fun a20 =>
 ∃ (v21 : BA), w18.cell? (a19.add 3) = some (.string v21) ∧
 ∃ (v22 : Int), w18.cell? (a20.add 1) = some (.int .i64 v22) ∧
 0 ≤ v22 ∧ v22 ≤ (v21.size : Int) ∧
 (((ByteArray.mk #[32, 32, 32]).size + (v21.extract (Int.toNat v22) v21.size).size : Nat) : Int) ≤ IntKind.i64.max ∧
 R (.returned (.string ((ByteArray.mk #[32, 32, 32]) ++ (v21.extract (Int.toNat v22) v21.size)))) w18)
 (False))))

namespace g_line_string
noncomputable def ac (R : EP) : AC :=
 (.seq (.leaf (sel [0] body)) (.seq (.seq (.leaf (sel [1,0,0] body)) (.block 0 (.seq (.leaf (sel [1,0,1,0,0] body)) (.cond 7 (.seq (.draw (.pure 0 (.pure 1 (.pure 2 (.pure 4 (.pure 5 (.pure 6 (.load 3 (.load 7 (.pure 8 (.pure 9 .done)))))))))) (sel [1,0,1,0,1,0,0] body)) (.leaf (sel [1,0,1,0,1,0,1] body))) (.seq (.leaf (sel [1,0,1,0,1,1,0] body)) (.cond 18 (.seq (.draw (.pure 0 (.pure 1 (.pure 2 (.pure 4 (.pure 5 (.pure 6 (.load 3 (.load 7 (.pure 8 (.pure 9 (.pure 10 .done))))))))))) (sel [1,0,1,0,1,1,1,0,0] body)) (.leaf (sel [1,0,1,0,1,1,1,0,1] body))) (.seq (.leaf (sel [1,0,1,0,1,1,1,1,0] body)) (.cond 30 (.seq (.draw (.pure 0 (.pure 1 (.pure 2 (.pure 4 (.pure 5 (.pure 6 (.load 3 (.load 7 (.pure 8 (.pure 9 (.pure 10 .done))))))))))) (sel [1,0,1,0,1,1,1,1,1,0,0] body)) (.leaf (sel [1,0,1,0,1,1,1,1,1,0,1] body))) (.seq (.leaf (sel [1,0,1,0,1,1,1,1,1,1,0] body)) (.cond 42 (.seq (.draw (.pure 0 (.pure 1 (.pure 2 (.pure 4 (.pure 5 (.pure 6 (.load 3 (.load 7 (.pure 8 (.pure 9 (.pure 10 .done))))))))))) (sel [1,0,1,0,1,1,1,1,1,1,1,0,0] body)) (.leaf (sel [1,0,1,0,1,1,1,1,1,1,1,0,1] body))) (.leaf (sel [1,0,1,0,1,1,1,1,1,1,1,1] body)))))))))))) (.leaf (sel [1,1] body))))
theorem good (R : EP) : Good P 55 (ac R) (QF P [.tmp 2] R) :=
 ⟨trivial, ⟨⟨trivial, ⟨trivial, ⟨⟨⟨by kernel_rfl, by kernel_rfl, fun _ _ _ h => h⟩, trivial⟩, ⟨trivial, ⟨⟨⟨by kernel_rfl, by kernel_rfl, fun _ _ _ h => h⟩, trivial⟩, ⟨trivial, ⟨⟨⟨by kernel_rfl, by kernel_rfl, fun _ _ _ h => h⟩, trivial⟩, ⟨trivial, ⟨⟨⟨by kernel_rfl, by kernel_rfl, fun _ _ _ h => h⟩, trivial⟩, trivial⟩⟩⟩⟩⟩⟩⟩⟩⟩, trivial⟩⟩
theorem eq (R : EP) (x0 : OA) (w : World) : g_line_string R x0 w = vcA P 55 (ac R) (QF P [.tmp 2] R) (fr0 [.pointer x0]) w := by kernel_rfl
theorem sound {R : EP} {x0 : OA} {w : World} (h : g_line_string R x0 w) : callE P i_line_string #[.pointer x0] R w :=
 callE_fz (c := body) Tryz.func175 Tryz.call175 (good R) (eq R x0 w) h
end g_line_string
namespace g_line_trim
noncomputable def body : Code := bodyOf Tryz.f226
def k1 (R : EP) (x0 : OA) (x41 : Bool) (w : World) : Prop :=
 br x41
 (nilP x0 fun a16 =>
 ∃ (v17 : Int), w.cell? (a16.add 1) = some (.int .i64 v17) ∧
 nilP x0 fun a18 =>
 stV w ((a18.add 1).add 0) (.int .i64 (IntKind.i64.wrap (v17 + 1))) fun w19 =>
 R (.returned (.bool true)) w19)
 (R (.returned (.bool false)) w)

end g_line_trim
def g_line_trim (R : EP) (x0 : OA) (x1 : Int) (w : World) : Prop :=
 nilP x0 fun a1 =>
 ∃ (v2 : Int), w.cell? a1 = some (.int .i64 v2) ∧
 br (decide (v2 > 0))
 (br (x1 == 32)
 (nilP x0 fun a3 =>
 ∃ (v4 : Int), w.cell? a3 = some (.int .i64 v4) ∧
 nilP x0 fun a5 =>
 stV w (a5.add 0) (.int .i64 (IntKind.i64.wrap (v4 - 1))) fun w6 =>
 R (.returned (.bool true)) w6)
 (R (.returned (.bool false)) w))
 (tk w fun w7 =>
 nilP x0 fun a8 =>
 nilP x0 fun a9 =>
 ∃ (v10 : Int), w7.cell? (a8.add 1) = some (.int .i64 v10) ∧
 ∃ (v11 : BA), w7.cell? (a9.add 3) = some (.string v11) ∧
 br (decide (v10 < (v11.size : Int)))
 (nilP x0 fun a12 =>
 nilP x0 fun a13 =>
 ∃ (v14 : BA), w7.cell? (a12.add 3) = some (.string v14) ∧
 ∃ (v15 : Int), w7.cell? (a13.add 1) = some (.int .i64 v15) ∧
 0 ≤ v15 ∧ v15 < (v14.size : Int) ∧
 g_line_trim.k1 R x0 ((bt v14 v15) == x1) w7)
 (g_line_trim.k1 R x0 false w7))

namespace g_line_trim
noncomputable def ac (R : EP) : AC :=
 (.seq (.leaf (sel [0] body)) (.seq (.leaf (sel [1,0] body)) (.seq (.seq (.draw (.pure 0 (.pure 1 (.pure 2 (.pure 4 (.pure 5 (.pure 6 (.load 3 (.load 7 (.pure 8 (.pure 9 (.pure 10 (.pure 11 (.pure 12 (.pure 13 (.pure 15 (.pure 16 (.pure 17 (.pure 20 (.load 14 (.load 18 (.pure 19 (.pure 21 (.pure 22 .done))))))))))))))))))))))) (sel [1,1,0,0] body)) (.mark (leaf [(0, .s .ptr), (41, .s .bool)] (k1 R)) (.leaf (sel [1,1,0,1] body)))) (.leaf (sel [1,1,1] body)))))
theorem good (R : EP) : Good P 49 (ac R) (QF P [.tmp 4] R) :=
 ⟨trivial, ⟨trivial, ⟨⟨⟨by kernel_rfl, by kernel_rfl, fun _ _ _ h => h⟩, ⟨trivial, cutZ⟩⟩, trivial⟩⟩⟩
theorem eq (R : EP) (x0 : OA) (x1 : Int) (w : World) : g_line_trim R x0 x1 w = vcA P 49 (ac R) (QF P [.tmp 4] R) (fr0 [.pointer x0, .int .u8 x1]) w := by kernel_rfl
theorem sound {R : EP} {x0 : OA} {x1 : Int} {w : World} (h : g_line_trim R x0 x1 w) : callE P i_line_trim #[.pointer x0, .int .u8 x1] R w :=
 callE_fz (c := body) Tryz.func226 Tryz.call226 (good R) (eq R x0 x1 w) h
end g_line_trim
namespace g_line_eof
noncomputable def body : Code := bodyOf Tryz.f230
end g_line_eof
def g_line_eof (R : EP) (x0 : OA) (w : World) : Prop :=
 tk w fun w1 =>
 nilP x0 fun a2 =>
 nilP x0 fun a3 =>
 ∃ (v4 : Int), w1.cell? (a2.add 1) = some (.int .i64 v4) ∧
 ∃ (v5 : BA), w1.cell? (a3.add 3) = some (.string v5) ∧
 R (.returned (.bool (decide (v4 ≥ (v5.size : Int))))) w1

namespace g_line_eof
noncomputable def ac (R : EP) : AC :=
 (.seq (.leaf (sel [0] body)) (.seq (.draw (.pure 0 (.pure 1 (.pure 2 (.pure 4 (.pure 5 (.pure 6 (.load 3 (.load 7 (.pure 8 (.pure 9 (.pure 10 .done))))))))))) (sel [1,0] body)) (.leaf (sel [1,1] body))))
theorem good (R : EP) : Good P 13 (ac R) (QF P [.tmp 2] R) :=
 ⟨trivial, ⟨⟨by kernel_rfl, by kernel_rfl, fun _ _ _ h => h⟩, trivial⟩⟩
theorem eq (R : EP) (x0 : OA) (w : World) : g_line_eof R x0 w = vcA P 13 (ac R) (QF P [.tmp 2] R) (fr0 [.pointer x0]) w := by kernel_rfl
theorem sound {R : EP} {x0 : OA} {w : World} (h : g_line_eof R x0 w) : callE P i_line_eof #[.pointer x0] R w :=
 callE_fz (c := body) Tryz.func230 Tryz.call230 (good R) (eq R x0 w) h
end g_line_eof
namespace g_line_isBlank
noncomputable def body : Code := bodyOf Tryz.f85
end g_line_isBlank
def g_line_isBlank (R : EP) (x0 : OA) (w : World) : Prop :=
 tk w fun w1 =>
 nilP x0 fun a2 =>
 nilP x0 fun a3 =>
 ∃ (v4 : BA), w1.cell? (a2.add 3) = some (.string v4) ∧
 ∃ (v5 : Int), w1.cell? (a3.add 1) = some (.int .i64 v5) ∧
 0 ≤ v5 ∧ v5 ≤ (v4.size : Int) ∧
 callE P i_trimLeftSpaceTab #[.string (v4.extract (Int.toNat v5) v4.size)] (fun e w7 => ∃ (r6 : BA), e = .returned (.string r6) ∧
 R (.returned (.bool (r6.toList == (ByteArray.mk #[]).toList))) w7) w1

namespace g_line_isBlank
noncomputable def ac (R : EP) : AC :=
 (.seq (.leaf (sel [0] body)) (.seq (.draw (.pure 0 (.pure 1 (.pure 2 (.pure 4 (.pure 5 (.pure 6 (.load 3 (.load 7 (.pure 8 (.one 9 (.pure 10 (.pure 11 .done)))))))))))) (sel [1,0] body)) (.leaf (sel [1,1] body))))
theorem good (R : EP) : Good P 14 (ac R) (QF P [.tmp 2] R) :=
 ⟨trivial, ⟨⟨by kernel_rfl, by kernel_rfl, fun _ _ _ h => h⟩, trivial⟩⟩
theorem eq (R : EP) (x0 : OA) (w : World) : g_line_isBlank R x0 w = vcA P 14 (ac R) (QF P [.tmp 2] R) (fr0 [.pointer x0]) w := by kernel_rfl
theorem sound {R : EP} {x0 : OA} {w : World} (h : g_line_isBlank R x0 w) : callE P i_line_isBlank #[.pointer x0] R w :=
 callE_fz (c := body) Tryz.func85 Tryz.call85 (good R) (eq R x0 w) h
end g_line_isBlank
namespace g_line_peek
noncomputable def body : Code := bodyOf Tryz.f228
end g_line_peek
def g_line_peek (R : EP) (x0 : OA) (w : World) : Prop :=
 nilP x0 fun a1 =>
 ∃ (v2 : Int), w.cell? a1 = some (.int .i64 v2) ∧
 br (decide (v2 > 0))
 (R (.returned (.int .u8 32)) w)
 (tk w fun w3 =>
 nilP x0 fun a4 =>
 nilP x0 fun a5 =>
 ∃ (v6 : Int), w3.cell? (a4.add 1) = some (.int .i64 v6) ∧
 ∃ (v7 : BA), w3.cell? (a5.add 3) = some (.string v7) ∧
 br (decide (v6 ≥ (v7.size : Int)))
 (R (.returned (.int .u8 0)) w3)
 (tk w3 fun w8 =>
 nilP x0 fun a9 =>
 nilP x0 fun a10 =>
 ∃ (v11 : BA), w8.cell? (a9.add 3) = some (.string v11) ∧
 ∃ (v12 : Int), w8.cell? (a10.add 1) = some (.int .i64 v12) ∧
 0 ≤ v12 ∧ v12 < (v11.size : Int) ∧
 R (.returned (.int .u8 (bt v11 v12))) w8))

namespace g_line_peek
noncomputable def ac (R : EP) : AC :=
 (.seq (.leaf (sel [0] body)) (.seq (.leaf (sel [1,0] body)) (.seq (.seq (.draw (.pure 0 (.pure 1 (.pure 2 (.pure 4 (.pure 5 (.pure 6 (.load 3 (.load 7 (.pure 8 (.pure 9 .done)))))))))) (sel [1,1,0,0] body)) (.leaf (sel [1,1,0,1] body))) (.seq (.draw (.pure 0 (.pure 1 (.pure 2 (.pure 4 (.pure 5 (.pure 6 (.load 3 (.load 7 (.pure 8 (.pure 9 .done)))))))))) (sel [1,1,1,0] body)) (.leaf (sel [1,1,1,1] body))))))
theorem good (R : EP) : Good P 27 (ac R) (QF P [.tmp 2] R) :=
 ⟨trivial, ⟨trivial, ⟨⟨⟨by kernel_rfl, by kernel_rfl, fun _ _ _ h => h⟩, trivial⟩, ⟨⟨by kernel_rfl, by kernel_rfl, fun _ _ _ h => h⟩, trivial⟩⟩⟩⟩
theorem eq (R : EP) (x0 : OA) (w : World) : g_line_peek R x0 w = vcA P 27 (ac R) (QF P [.tmp 2] R) (fr0 [.pointer x0]) w := by kernel_rfl
theorem sound {R : EP} {x0 : OA} {w : World} (h : g_line_peek R x0 w) : callE P i_line_peek #[.pointer x0] R w :=
 callE_fz (c := body) Tryz.func228 Tryz.call228 (good R) (eq R x0 w) h
end g_line_peek
namespace g_line_trimSpace
noncomputable def body : Code := bodyOf Tryz.f192
def k2 (R : EP) (x0 : OA) (x9 : Nat) (w : World) : Prop :=
 ∃ (v32 : Int), w.cell? ⟨x9, 0, none⟩ = some (.int .i64 v32) ∧
 ∃ (v33 : Int), w.cell? ⟨x9, 1, none⟩ = some (.int .i64 v33) ∧
 ∃ (v34 : Int), w.cell? ⟨x9, 2, none⟩ = some (.int .i64 v34) ∧
 ∃ (v35 : BA), w.cell? ⟨x9, 3, none⟩ = some (.string v35) ∧
 ∃ (v36 : Int), w.cell? ⟨x9, 4, none⟩ = some (.int .u8 v36) ∧
 nilP x0 fun a37 =>
 stV w (a37.add 0) (.int .i64 v32) fun w38 =>
 stV w38 (a37.add 1) (.int .i64 v33) fun w39 =>
 stV w39 (a37.add 2) (.int .i64 v34) fun w40 =>
 stV w40 (a37.add 3) (.string v35) fun w41 =>
 stV w41 (a37.add 4) (.int .u8 v36) fun w42 =>
 R (.returned (.bool true)) w42

def k3 (R : EP) (Xa : OA → Int → Int → Bool → Nat → Int → WP) (x0 : OA) (x1 : Int) (x9 : Nat) (x10 : Int) (w : World) : Prop :=
 br (decide (x10 ≥ x1))
 (k2 R x0 x9 w)
 (R (.returned (.bool false)) w)

def k1 (R : EP) (Xa : OA → Int → Int → Bool → Nat → Int → WP) (x0 : OA) (x1 x2 : Int) (x3 : Bool) (x9 : Nat) (x10 : Int) (w : World) : Prop :=
 ∃ (v19 : Int), w.cell? ⟨x9, 1, none⟩ = some (.int .i64 v19) ∧
 ∃ (v20 : BA), w.cell? ⟨x9, 3, none⟩ = some (.string v20) ∧
 br (decide (v19 < (v20.size : Int)))
 (∃ (v21 : BA), w.cell? ⟨x9, 3, none⟩ = some (.string v21) ∧
 ∃ (v22 : Int), w.cell? ⟨x9, 1, none⟩ = some (.int .i64 v22) ∧
 0 ≤ v22 ∧ v22 < (v21.size : Int) ∧
 br ((bt v21 v22) == 9)
 (∃ (v23 : Int), w.cell? ⟨x9, 1, none⟩ = some (.int .i64 v23) ∧
 ∃ (v24 : Int), w.cell? ⟨x9, 2, none⟩ = some (.int .i64 v24) ∧
 stV w ⟨x9, 0, none⟩ (.int .i64 (IntKind.i64.wrap ((IntKind.i64.wrap (4 - (bitAnd .i64 (IntKind.i64.wrap (v23 - v24)) 3))) - 1))) fun w25 =>
 ∃ (v26 : Int), w25.cell? ⟨x9, 1, none⟩ = some (.int .i64 v26) ∧
 stV w25 ⟨x9, 1, none⟩ (.int .i64 (IntKind.i64.wrap (v26 + 1))) fun w27 =>
 ∃ (v28 : Int), w27.cell? ⟨x9, 1, none⟩ = some (.int .i64 v28) ∧
 stV w27 ⟨x9, 2, none⟩ (.int .i64 v28) fun w29 =>
 Xa x0 x1 x2 x3 x9 (IntKind.i64.wrap (x10 + 1)) w29)
 (br ((bt v21 v22) == 32)
 (∃ (v30 : Int), w.cell? ⟨x9, 1, none⟩ = some (.int .i64 v30) ∧
 stV w ⟨x9, 1, none⟩ (.int .i64 (IntKind.i64.wrap (v30 + 1))) fun w31 =>
 Xa x0 x1 x2 x3 x9 (IntKind.i64.wrap (x10 + 1)) w31)
 (k3 R Xa x0 x1 x9 x10 w)))
 (k3 R Xa x0 x1 x9 x10 w)

def bl1 (R : EP) (Xa : OA → Int → Int → Bool → Nat → Int → WP) (x0 : OA) (x1 x2 : Int) (x3 : Bool) (x9 : Nat) (x10 : Int) (w : World) : Prop :=
 br (decide (x10 < x2))
 (∃ (v14 : Int), w.cell? ⟨x9, 0, none⟩ = some (.int .i64 v14) ∧
 br (decide (v14 > 0))
 (∃ (v15 : Int), w.cell? ⟨x9, 0, none⟩ = some (.int .i64 v15) ∧
 stV w ⟨x9, 0, none⟩ (.int .i64 (IntKind.i64.wrap (v15 - 1))) fun w16 =>
 Xa x0 x1 x2 x3 x9 (IntKind.i64.wrap (x10 + 1)) w16)
 (∃ (v17 : Int), w.cell? ⟨x9, 1, none⟩ = some (.int .i64 v17) ∧
 ∃ (v18 : BA), w.cell? ⟨x9, 3, none⟩ = some (.string v18) ∧
 br ((decide (v17 ≥ (v18.size : Int))) && x3)
 (Xa x0 x1 x2 x3 x9 (IntKind.i64.wrap (x10 + 1)) w)
 (k1 R Xa x0 x1 x2 x3 x9 x10 w)))
 (k2 R x0 x9 w)
def l1 (R : EP) (x0 : OA) (x1 x2 : Int) (x3 : Bool) (x9 : Nat) (x10 : Int) (w : World) : Prop :=
 ∀ X : OA → Int → Int → Bool → Nat → Int → WP, (∀ x0 x1 x2 x3 x9 x10 w, bl1 R X x0 x1 x2 x3 x9 x10 w → X x0 x1 x2 x3 x9 x10 w) → X x0 x1 x2 x3 x9 x10 w

noncomputable def al1 (R : EP) (Xa : OA → Int → Int → Bool → Nat → Int → WP) : AC :=
 (.seq (.leaf (sel [1,1,0,1,0,0,0] body)) (.seq (.block 1 (.seq (.leaf (sel [1,1,0,1,0,0,1,0,0,0] body)) (.seq (.leaf (sel [1,1,0,1,0,0,1,0,0,1,0] body)) (.mark (leaf [(0, .s .ptr), (1, .s (.int .i64)), (2, .s (.int .i64)), (3, .s .bool), (9, .s .loc), (10, .s (.int .i64))] (k1 R Xa)) (.seq (.leaf (sel [1,1,0,1,0,0,1,0,0,1,1,0] body)) (.mark (leaf [(0, .s .ptr), (1, .s (.int .i64)), (9, .s .loc), (10, .s (.int .i64))] (k3 R Xa)) (.leaf (sel [1,1,0,1,0,0,1,0,0,1,1,1] body)))))))) (.leaf (sel [1,1,0,1,0,0,1,1] body))))
end g_line_trimSpace
def g_line_trimSpace (R : EP) (x0 : OA) (x1 x2 : Int) (x3 : Bool) (w : World) : Prop :=
 nilP x0 fun a1 =>
 ∃ (v2 : Int), w.cell? (a1.add 0) = some (.int .i64 v2) ∧
 ∃ (v3 : Int), w.cell? (a1.add 1) = some (.int .i64 v3) ∧
 ∃ (v4 : Int), w.cell? (a1.add 2) = some (.int .i64 v4) ∧
 ∃ (v5 : BA), w.cell? (a1.add 3) = some (.string v5) ∧
 ∃ (v6 : Int), w.cell? (a1.add 4) = some (.int .u8 v6) ∧
 box w #[.int .i64 0, .int .i64 0, .int .i64 0, .string (ByteArray.mk #[]), .int .u8 0] ty_line fun b7 w8 =>
 stV w8 ⟨b7, 0, none⟩ (.int .i64 v2) fun w9 =>
 stV w9 ⟨b7, 1, none⟩ (.int .i64 v3) fun w10 =>
 stV w10 ⟨b7, 2, none⟩ (.int .i64 v4) fun w11 =>
 stV w11 ⟨b7, 3, none⟩ (.string v5) fun w12 =>
 stV w12 ⟨b7, 4, none⟩ (.int .u8 v6) fun w13 =>
 g_line_trimSpace.l1 R x0 x1 x2 x3 b7 0 w13

namespace g_line_trimSpace
noncomputable def ac (R : EP) : AC :=
 (.seq (.leaf (sel [0] body)) (.seq (.leaf (sel [1,0] body)) (.seq (.seq (.leaf (sel [1,1,0,0] body)) (.block 0 (.loop (leaf [(0, .s .ptr), (1, .s (.int .i64)), (2, .s (.int .i64)), (3, .s .bool), (9, .s .loc), (10, .s (.int .i64))] (l1 R)) (sel [1,1,0,1,0,0] body)))) (.mark (leaf [(0, .s .ptr), (9, .s .loc)] (k2 R)) (.leaf (sel [1,1,1] body))))))
theorem good (R : EP) : Good P 76 (ac R) (QF P [.tmp 8] R) :=
 ⟨trivial, ⟨trivial, ⟨⟨trivial, (loopG (al1 R) (bl1 R) (fun _ => by kernel_rfl) (fun Xa => ⟨trivial, ⟨⟨trivial, ⟨trivial, ⟨⟨trivial, ⟨trivial, cutZ⟩⟩, cutZ⟩⟩⟩, trivial⟩⟩) (fun Xa => by intro x0 x1 x2 x3 x9 x10 ρ w; kernel_rfl) (fun X h _ _ _ _ _ _ _ g => g X h))⟩, ⟨trivial, cutZ⟩⟩⟩⟩
theorem eq (R : EP) (x0 : OA) (x1 x2 : Int) (x3 : Bool) (w : World) : g_line_trimSpace R x0 x1 x2 x3 w = vcA P 76 (ac R) (QF P [.tmp 8] R) (fr0 [.pointer x0, .int .i64 x1, .int .i64 x2, .bool x3]) w := by kernel_rfl
theorem sound {R : EP} {x0 : OA} {x1 x2 : Int} {x3 : Bool} {w : World} (h : g_line_trimSpace R x0 x1 x2 x3 w) : callE P i_line_trimSpace #[.pointer x0, .int .i64 x1, .int .i64 x2, .bool x3] R w :=
 callE_fz (c := body) Tryz.func192 Tryz.call192 (good R) (eq R x0 x1 x2 x3 w) h
end g_line_trimSpace
namespace g_trimLeftSpaceTab
noncomputable def body : Code := bodyOf Tryz.f123
def k1 (R : EP) (x0 : BA) (x3 : Int) (w : World) : Prop :=
 0 ≤ x3 ∧ x3 ≤ (x0.size : Int) ∧
 R (.returned (.string (x0.extract (Int.toNat x3) x0.size))) w

def bl1 (R : EP) (Xa : BA → Int → WP) (x0 : BA) (x3 : Int) (w : World) : Prop :=
 ((decide (x3 < (x0.size : Int))) = true → 0 ≤ x3 ∧ x3 < (x0.size : Int)) ∧
 (((decide (x3 < (x0.size : Int))) && (!((bt x0 x3) == 32))) = true → 0 ≤ x3 ∧ x3 < (x0.size : Int)) ∧
 br ((decide (x3 < (x0.size : Int))) && (((bt x0 x3) == 32) || ((bt x0 x3) == 9)))
 (Xa x0 (IntKind.i64.wrap (x3 + 1)) w)
 (k1 R x0 x3 w)
def l1 (R : EP) (x0 : BA) (x3 : Int) (w : World) : Prop :=
 ∀ X : BA → Int → WP, (∀ x0 x3 w, bl1 R X x0 x3 w → X x0 x3 w) → X x0 x3 w

noncomputable def al1 (R : EP) (Xa : BA → Int → WP) : AC :=
 (.leaf (sel [1,1,0,0,0] body))
end g_trimLeftSpaceTab
def g_trimLeftSpaceTab (R : EP) (x0 : BA) (w : World) : Prop :=
 g_trimLeftSpaceTab.l1 R x0 0 w

namespace g_trimLeftSpaceTab
noncomputable def ac (R : EP) : AC :=
 (.seq (.leaf (sel [0] body)) (.seq (.leaf (sel [1,0] body)) (.seq (.block 0 (.loop (leaf [(0, .s .str), (3, .s (.int .i64))] (l1 R)) (sel [1,1,0,0,0] body))) (.mark (leaf [(0, .s .str), (3, .s (.int .i64))] (k1 R)) (.leaf (sel [1,1,1] body))))))
theorem good (R : EP) : Good P 25 (ac R) (QF P [.tmp 2] R) :=
 ⟨trivial, ⟨trivial, ⟨(loopG (al1 R) (bl1 R) (fun _ => by kernel_rfl) (fun Xa => trivial) (fun Xa => by intro x0 x3 ρ w; kernel_rfl) (fun X h _ _ _ g => g X h)), ⟨trivial, cutZ⟩⟩⟩⟩
theorem eq (R : EP) (x0 : BA) (w : World) : g_trimLeftSpaceTab R x0 w = vcA P 25 (ac R) (QF P [.tmp 2] R) (fr0 [.string x0]) w := by kernel_rfl
theorem sound {R : EP} {x0 : ByteArray} {w : World} (h : g_trimLeftSpaceTab R x0 w) : callE P i_trimLeftSpaceTab #[.string x0] R w :=
 callE_fz (c := body) Tryz.func123 Tryz.call123 (good R) (eq R x0 w) h
end g_trimLeftSpaceTab
end Go.Proofs.YtgbgadkldalkbaaGreatDoor

set_option linter.unusedVariables false
namespace Go.Proofs.YtgbgadkldalkbaaGreatDoor
open Go.Proofs Go.IntWalk
variable {σ : Out} {w : World} {L L' : List Chunk} {R : Ending → World → Prop}

theorem trimLeftSpaceTab_ok {l : List UInt8} (hl : l.length < 4611686018427387904) (h : R (.returned (.string (bs (l.dropWhile isST)))) w) : callE P i_trimLeftSpaceTab #[.string (bs l)] R w := by
 refine g_trimLeftSpaceTab.sound ?_
 intro X hX
 refine scanF (l := l) (X := fun i => X (bs l) (i : Int) w) (p := isST) (fun i hi hp hx => hX _ _ _ ?_) 0 (Nat.zero_le _) (fun i hi hf he => hX _ _ _ ?_)
 ·refine ⟨fun _ => ⟨by omega, by simp; omega⟩, fun _ => ⟨by omega, by simp; omega⟩, br_true ?_ ?_⟩
  ·rw [bt_beq hi 32 32 rfl, bt_beq hi 9 9 rfl]
   simpa [hi, isST] using hp
  ·rw [i64_inc (by omega)]; exact hx
 ·refine ⟨fun h => ⟨by omega, by simpa using h⟩, fun h => ⟨by omega, ?_⟩, br_false ?_ ?_⟩
  ·simp only [Bool.and_eq_true, decide_eq_true_eq] at h; exact h.1
  ·by_cases hi' : i < l.length
   ·rw [bt_beq hi' 32 32 rfl, bt_beq hi' 9 9 rfl]
    simpa [hi', isST] using hf hi'
   ·simp [hi']
  ·refine ⟨by omega, by simp; omega, ?_⟩
   rw [bs_size, bs_extract]
   simp only [Int.toNat_natCast, List.take_length, he, List.drop_zero]
   exact h
end Go.Proofs.YtgbgadkldalkbaaGreatDoor


set_option linter.unusedVariables false
namespace Go.Proofs.YtgbgadkldalkbaaGreatDoor
open Go.Proofs Go.IntWalk
variable {σ : Out} {w : World} {L L' : List Chunk} {R : Ending → World → Prop}

structure Ln where
 sp : Nat
 i : Nat
 tab : Nat
 text : List UInt8
 nl : UInt8
def Ln.cells (l : Ln) : List Value := [.int .i64 l.sp, .int .i64 l.i, .int .i64 l.tab, .string (bs l.text), .int .u8 l.nl.toNat]
abbrev Ln.at (b : Nat) (l : Ln) : Chunk := (b, cel l.cells ty_line)
structure Ln.ok (l : Ln) : Prop where
 i : l.i ≤ l.text.length
 tab : l.tab ≤ l.i
 len : l.text.length < 4611686018427387904
 sp : l.sp ≤ 3
def Ln.blank (l : Ln) : Bool := (l.text.drop l.i).all isST
def Ln.peek (l : Ln) : UInt8 := if 0 < l.sp then 32 else l.text.getD l.i 0

theorem dropWhile_nil_iff {p : UInt8 → Bool} : ∀ {l : List UInt8}, ((l.dropWhile p) == []) = l.all p
 | [] => rfl
 | a :: l => by
  cases hp : p a with
  | true => rw [List.dropWhile_cons_of_pos hp, dropWhile_nil_iff, List.all_cons, hp, Bool.true_and]
  | false => rw [List.dropWhile_cons_of_neg (by simp [hp]), List.all_cons, hp]; rfl

theorem isBlank_ok {b : Nat} {l : Ln} (h : Sat σ w L) (hm : l.at b ∈ L) (hl : l.ok) (hR : ∀ w, Sat σ w L → R (.returned (.bool l.blank)) w) :
 callE P i_line_isBlank #[.pointer (some ⟨b, 0, none⟩)] R w := by
 refine g_line_isBlank.sound ?_
 repeat (first | refine nilP_some ?_ | refine h.tk fun w h => ?_ | refine ⟨_, h.ldA, ?_⟩ | refine ⟨_, _, _, h.ldA, ?_⟩)
 have := hl.i
 refine ⟨by omega, by simp; omega, ?_⟩
 rw [bs_size, Int.toNat_natCast, bs_ext]
 refine trimLeftSpaceTab_ok (by simp; have := hl.len; omega) ⟨_, rfl, ?_⟩
 rw [bs_toList, mk_toList, dropWhile_nil_iff]
 exact hR _ h

theorem eof_ok {b : Nat} {l : Ln} (h : Sat σ w L) (hm : l.at b ∈ L) (hR : ∀ w, Sat σ w L → R (.returned (.bool (decide (l.text.length ≤ l.i)))) w) :
 callE P i_line_eof #[.pointer (some ⟨b, 0, none⟩)] R w := by
 refine g_line_eof.sound ?_
 repeat (first | refine nilP_some ?_ | refine h.tk fun w h => ?_ | refine ⟨_, h.ldA, ?_⟩ | refine ⟨_, _, _, h.ldA, ?_⟩)
 have : (decide ((l.i : Int) ≥ ((bs l.text).size : Int))) = decide (l.text.length ≤ l.i) := by simp
 rw [this]
 exact hR _ h

theorem peek_ok {b : Nat} {l : Ln} (h : Sat σ w L) (hm : l.at b ∈ L) (hl : l.ok) (hR : ∀ w, Sat σ w L → R (.returned (.int .u8 l.peek.toNat)) w) :
 callE P i_line_peek #[.pointer (some ⟨b, 0, none⟩)] R w := by
 refine g_line_peek.sound ?_
 repeat (first | refine nilP_some ?_ | refine h.tk fun w h => ?_ | refine ⟨_, h.ldA, ?_⟩ | refine ⟨_, _, _, h.ldA, ?_⟩)
 refine br_split (fun hs => ?_) (fun hs => ?_)
 ·have hp : l.peek = 32 := by simp only [Ln.peek]; rw [if_pos (by simpa using hs)]
  have := hR _ h
  rw [hp] at this
  exact this
 ·have hs : l.sp = 0 := by simpa using hs
  repeat (first | refine nilP_some ?_ | refine h.tk fun w h => ?_ | refine ⟨_, h.ldA, ?_⟩ | refine ⟨_, _, _, h.ldA, ?_⟩)
  refine br_split (fun hi => ?_) (fun hi => ?_)
  ·have hp : l.peek = 0 := by
    simp at hi
    simp [Ln.peek, hs, hi]
   have := hR _ h
   rw [hp] at this
   exact this
  ·repeat (first | refine nilP_some ?_ | refine h.tk fun w h => ?_ | refine ⟨_, h.ldA, ?_⟩ | refine ⟨_, _, _, h.ldA, ?_⟩)
   simp at hi
   refine ⟨by omega, by simp; omega, ?_⟩
   have hp : (l.peek.toNat : Int) = bt (bs l.text) l.i := by rw [bt_at hi]; simp [Ln.peek, hs, hi]
   rw [← hp]
   exact hR _ h

theorem bitAnd3 (n : Nat) (hn : n < 4611686018427387904) : bitAnd .i64 (n : Int) 3 = ((n % 4 : Nat) : Int) := by
 have h1 : (BitVec.ofInt 64 (n : Int) &&& BitVec.ofInt 64 3).toNat = n % 4 := by
  rw [BitVec.toNat_and]
  have h2 : (BitVec.ofInt 64 (n : Int)).toNat = n := by
   simp
   omega
  rw [h2, show (BitVec.ofInt 64 3).toNat = 2 ^ 2 - 1 from rfl, Nat.and_two_pow_sub_one_eq_mod]
 show IntKind.i64.wrap (((BitVec.ofInt 64 (n : Int) &&& BitVec.ofInt 64 3).toNat : Nat) : Int) = _
 rw [h1, i64_in _ (by omega)]

def Ln.tsGo (min : Nat) (eol : Bool) : Nat → Nat → Ln → Option Ln
 | 0, _, t => some t
 | k + 1, n, t =>
  if 0 < t.sp then tsGo min eol k (n + 1) { t with sp := t.sp - 1 }
  else if t.text.length ≤ t.i ∧ eol = true then tsGo min eol k (n + 1) t
  else if t.text[t.i]? = some 9 then tsGo min eol k (n + 1) { t with sp := 3 - (t.i - t.tab) % 4, i := t.i + 1, tab := t.i + 1 }
  else if t.text[t.i]? = some 32 then tsGo min eol k (n + 1) { t with i := t.i + 1 }
  else if min ≤ n then some t else none
def Ln.trimSp (min max : Nat) (eol : Bool) (t : Ln) : Option Ln := t.tsGo min eol max 0

theorem trimSp_ok {b : Nat} {l : Ln} {min max : Nat} {eol : Bool} (h : Sat σ w (l.at b :: L)) (hl : l.ok) (h1 : min < 4611686018427387904) (h2 : max < 4611686018427387904)
 (hR : match l.trimSp min max eol with
  | some l' => ∀ w, Sat σ w (l'.at b :: L) → R (.returned (.bool true)) w
  | none => ∀ w, Sat σ w (l.at b :: L) → R (.returned (.bool false)) w) :
 callE P i_line_trimSpace #[.pointer (some ⟨b, 0, none⟩), .int .i64 min, .int .i64 max, .bool eol] R w := by
 refine g_line_trimSpace.sound ?_
 repeat (first | refine nilP_some ?_ | refine h.tk fun w h => ?_ | refine ⟨_, h.ldA, ?_⟩ | refine ⟨_, _, _, h.ldA, ?_⟩ | refine h.stA 0 fun w h => ?_ | refine h.stA 1 fun w h => ?_ | refine h.stA 2 fun w h => ?_ | refine h.stA 3 fun w h => ?_ | refine h.stA 4 fun w h => ?_ | refine h.stA 5 fun w h => ?_ | refine h.stA 6 fun w h => ?_ | refine h.bx fun b0 w h => ?_)
 have h : Sat σ _ (l.at b0 :: l.at b :: L) := h
 intro X hX
 have key : ∀ k n (t : Ln) w, n + k = max → t.ok → Sat σ w (t.at b0 :: l.at b :: L) →
  (match t.tsGo min eol k n with
  | some l' => ∀ w, Sat σ w (l'.at b :: L) → R (.returned (.bool true)) w
  | none => ∀ w, Sat σ w (l.at b :: L) → R (.returned (.bool false)) w) → X (some ⟨b, 0, none⟩) min max eol b0 n w := by
  intro k
  induction k with
  | zero =>
   intro n t w hn ht h hR
   refine hX _ _ _ _ _ _ _ (br_false (by simp; omega) ?_)
   repeat (first | refine nilP_some ?_ | refine h.tk fun w h => ?_ | refine ⟨_, h.ldA, ?_⟩ | refine ⟨_, _, _, h.ldA, ?_⟩ | refine h.stA 0 fun w h => ?_ | refine h.stA 1 fun w h => ?_ | refine h.stA 2 fun w h => ?_ | refine h.stA 3 fun w h => ?_ | refine h.stA 4 fun w h => ?_ | refine h.stA 5 fun w h => ?_ | refine h.stA 6 fun w h => ?_ | refine h.bx fun b0 w h => ?_)
   have h : Sat σ _ (t.at b0 :: t.at b :: L) := h
   exact hR _ h.tail
  | succ k ih =>
   intro n t w hn ht h hR
   simp only [Ln.tsGo] at hR
   refine hX _ _ _ _ _ _ _ (br_true (by simp; omega) ?_)
   have hni : IntKind.i64.wrap ((n : Int) + 1) = ((n + 1 : Nat) : Int) := i64_inc (by omega)
   repeat (first | refine nilP_some ?_ | refine h.tk fun w h => ?_ | refine ⟨_, h.ldA, ?_⟩ | refine ⟨_, _, _, h.ldA, ?_⟩)
   by_cases hs : 0 < t.sp
   ·rw [if_pos hs] at hR
    refine br_true (by simpa using hs) ?_
    have hd := i64_dec (n := t.sp) (by have := ht.sp; omega) hs
    repeat (first | refine nilP_some ?_ | refine h.tk fun w h => ?_ | refine ⟨_, h.ldA, ?_⟩ | refine ⟨_, _, _, h.ldA, ?_⟩ | refine h.stA 0 fun w h => ?_ | refine h.stA 1 fun w h => ?_ | refine h.stA 2 fun w h => ?_ | refine h.stA 3 fun w h => ?_ | refine h.stA 4 fun w h => ?_ | refine h.stA 5 fun w h => ?_ | refine h.stA 6 fun w h => ?_ | refine h.bx fun b0 w h => ?_)
    rw [hd] at h
    rw [hni]
    exact ih _ { t with sp := t.sp - 1 } _ (by omega) ⟨ht.i, ht.tab, ht.len, by have := ht.sp; simp; omega⟩ h hR
   ·rw [if_neg hs] at hR
    refine br_false (by simpa using hs) ?_
    repeat (first | refine nilP_some ?_ | refine h.tk fun w h => ?_ | refine ⟨_, h.ldA, ?_⟩ | refine ⟨_, _, _, h.ldA, ?_⟩)
    by_cases he : t.text.length ≤ t.i ∧ eol = true
    ·rw [if_pos he] at hR
     refine br_true (by simpa using he) ?_
     rw [hni]
     exact ih _ t _ (by omega) ht h hR
    ·rw [if_neg he] at hR
     refine br_false (by rw [Bool.and_eq_false_iff]; by_cases h : eol = true <;> simp_all) ?_
     repeat (first | refine nilP_some ?_ | refine h.tk fun w h => ?_ | refine ⟨_, h.ldA, ?_⟩ | refine ⟨_, _, _, h.ldA, ?_⟩)
     by_cases hi : t.i < t.text.length
     ·refine br_true (by simpa using hi) ?_
      repeat (first | refine nilP_some ?_ | refine h.tk fun w h => ?_ | refine ⟨_, h.ldA, ?_⟩ | refine ⟨_, _, _, h.ldA, ?_⟩)
      refine ⟨by omega, by simpa using hi, ?_⟩
      rw [List.getElem?_eq_getElem hi] at hR
      have hlen := ht.len
      have htab := ht.tab
      have hii : IntKind.i64.wrap ((t.i : Int) + 1) = ((t.i + 1 : Nat) : Int) := i64_inc (by omega)
      by_cases h9 : t.text[t.i] = 9
      ·rw [if_pos (by rw [h9])] at hR
       refine br_true (by rw [bt_beq hi 9 9 rfl, h9]; rfl) ?_
       repeat (first | refine nilP_some ?_ | refine h.tk fun w h => ?_ | refine ⟨_, h.ldA, ?_⟩ | refine ⟨_, _, _, h.ldA, ?_⟩)
       have e1 : IntKind.i64.wrap ((t.i : Int) - (t.tab : Int)) = ((t.i - t.tab : Nat) : Int) := by rw [i64_in _ (by omega)]; omega
       rw [e1, bitAnd3 _ (by omega), i64_in (4 - _) (by omega), i64_in _ (by omega)]
       have e2 : (4 - (((t.i - t.tab) % 4 : Nat) : Int) - 1) = ((3 - (t.i - t.tab) % 4 : Nat) : Int) := by omega
       rw [e2]
       repeat (first | refine nilP_some ?_ | refine h.tk fun w h => ?_ | refine ⟨_, h.ldA, ?_⟩ | refine ⟨_, _, _, h.ldA, ?_⟩ | refine h.stA 0 fun w h => ?_ | refine h.stA 1 fun w h => ?_ | refine h.stA 2 fun w h => ?_ | refine h.stA 3 fun w h => ?_ | refine h.stA 4 fun w h => ?_ | refine h.stA 5 fun w h => ?_ | refine h.stA 6 fun w h => ?_ | refine h.bx fun b0 w h => ?_)
       rw [hii] at h
       rw [hni]
       exact ih _ { t with sp := 3 - (t.i - t.tab) % 4, i := t.i + 1, tab := t.i + 1 } _ (by omega) ⟨by simp; omega, by simp, ht.len, by simp⟩ h hR
      ·rw [if_neg (by simpa using h9)] at hR
       refine br_false (by rw [bt_beq hi 9 9 rfl]; simpa using h9) ?_
       by_cases h32 : t.text[t.i] = 32
       ·rw [if_pos (by rw [h32])] at hR
        refine br_true (by rw [bt_beq hi 32 32 rfl, h32]; rfl) ?_
        repeat (first | refine nilP_some ?_ | refine h.tk fun w h => ?_ | refine ⟨_, h.ldA, ?_⟩ | refine ⟨_, _, _, h.ldA, ?_⟩ | refine h.stA 0 fun w h => ?_ | refine h.stA 1 fun w h => ?_ | refine h.stA 2 fun w h => ?_ | refine h.stA 3 fun w h => ?_ | refine h.stA 4 fun w h => ?_ | refine h.stA 5 fun w h => ?_ | refine h.stA 6 fun w h => ?_ | refine h.bx fun b0 w h => ?_)
        rw [hii] at h
        rw [hni]
        exact ih _ { t with i := t.i + 1 } _ (by omega) ⟨by simp; omega, by simp; omega, ht.len, ht.sp⟩ h hR
       ·rw [if_neg (by simpa using h32)] at hR
        refine br_false (by rw [bt_beq hi 32 32 rfl]; simpa using h32) ?_
        by_cases hm : min ≤ n
        ·rw [if_pos hm] at hR
         refine br_true (by simpa using hm) ?_
         repeat (first | refine nilP_some ?_ | refine h.tk fun w h => ?_ | refine ⟨_, h.ldA, ?_⟩ | refine ⟨_, _, _, h.ldA, ?_⟩ | refine h.stA 0 fun w h => ?_ | refine h.stA 1 fun w h => ?_ | refine h.stA 2 fun w h => ?_ | refine h.stA 3 fun w h => ?_ | refine h.stA 4 fun w h => ?_ | refine h.stA 5 fun w h => ?_ | refine h.stA 6 fun w h => ?_ | refine h.bx fun b0 w h => ?_)
         have h : Sat σ _ (t.at b0 :: t.at b :: L) := h
         exact hR _ h.tail
        ·rw [if_neg hm] at hR
         refine br_false (by simpa using hm) ?_
         exact hR _ h.tail
     ·refine br_false (by simpa using hi) ?_
      rw [List.getElem?_eq_none (by omega), if_neg (by simp), if_neg (by simp)] at hR
      by_cases hm : min ≤ n
      ·rw [if_pos hm] at hR
       refine br_true (by simpa using hm) ?_
       repeat (first | refine nilP_some ?_ | refine h.tk fun w h => ?_ | refine ⟨_, h.ldA, ?_⟩ | refine ⟨_, _, _, h.ldA, ?_⟩ | refine h.stA 0 fun w h => ?_ | refine h.stA 1 fun w h => ?_ | refine h.stA 2 fun w h => ?_ | refine h.stA 3 fun w h => ?_ | refine h.stA 4 fun w h => ?_ | refine h.stA 5 fun w h => ?_ | refine h.stA 6 fun w h => ?_ | refine h.bx fun b0 w h => ?_)
       have h : Sat σ _ (t.at b0 :: t.at b :: L) := h
       exact hR _ h.tail
      ·rw [if_neg hm] at hR
       refine br_false (by simpa using hm) ?_
       exact hR _ h.tail
 exact key max 0 l _ (by omega) hl h hR

end Go.Proofs.YtgbgadkldalkbaaGreatDoor


set_option linter.unusedVariables false
namespace Go.Proofs.YtgbgadkldalkbaaGreatDoor
open Go.Proofs Go.IntWalk
variable {σ : Out} {w : World} {L L' : List Chunk} {R : Ending → World → Prop}

def Ln.trimC (c : UInt8) (l : Ln) : Option Ln :=
 if 0 < l.sp then (if c = 32 then some { l with sp := l.sp - 1 } else none)
 else if l.text[l.i]? = some c then some { l with i := l.i + 1 } else none
theorem Ln.trimC_ok {c : UInt8} {l l' : Ln} (hl : l.ok) (h : l.trimC c = some l') : l'.ok := by
 simp only [Ln.trimC] at h
 have h1 := hl.i; have h2 := hl.tab; have h3 := hl.sp
 split at h
 ·split at h
  ·cases h; exact ⟨h1, h2, hl.len, by simp; omega⟩
  ·cases h
 ·split at h
  ·rename_i hg
   have := (List.getElem?_eq_some_iff.1 hg).1
   cases h; exact ⟨by simp; omega, by simp; omega, hl.len, hl.sp⟩
  ·cases h
theorem trimC_ok {b : Nat} {l : Ln} {c : UInt8} {n : Int} (hc : (c.toNat : Int) = n) (h : Sat σ w (l.at b :: L)) (hl : l.ok)
 (hR : match l.trimC c with
  | some l' => ∀ w, Sat σ w (l'.at b :: L) → R (.returned (.bool true)) w
  | none => ∀ w, Sat σ w (l.at b :: L) → R (.returned (.bool false)) w) :
 callE P i_line_trim #[.pointer (some ⟨b, 0, none⟩), .int .u8 n] R w := by
 subst hc
 refine g_line_trim.sound ?_
 simp only [Ln.trimC] at hR
 have h1 := hl.i; have h2 := hl.tab; have h3 := hl.sp; have h4 := hl.len
 repeat (first | refine nilP_some ?_ | refine h.tk fun w h => ?_ | refine ⟨_, h.ldA, ?_⟩ | refine ⟨_, _, _, h.ldA, ?_⟩)
 by_cases hs : 0 < l.sp
 ·rw [if_pos hs] at hR
  refine br_true (by simpa using hs) ?_
  by_cases hc : c = 32
  ·rw [if_pos hc] at hR
   refine br_true (by rw [hc]; rfl) ?_
   have hd := i64_dec (n := l.sp) (by omega) hs
   repeat (first | refine nilP_some ?_ | refine h.tk fun w h => ?_ | refine ⟨_, h.ldA, ?_⟩ | refine ⟨_, _, _, h.ldA, ?_⟩ | refine h.stA 0 fun w h => ?_ | refine h.stA 1 fun w h => ?_ | refine h.stA 2 fun w h => ?_ | refine h.stA 3 fun w h => ?_ | refine h.stA 4 fun w h => ?_ | refine h.stA 5 fun w h => ?_ | refine h.stA 6 fun w h => ?_ | refine h.bx fun b0 w h => ?_)
   rw [hd] at h
   exact hR _ h
  ·rw [if_neg hc] at hR
   refine br_false ?_ (hR _ h)
   have := u8_beq c 32
   rw [show ((32 : UInt8).toNat : Int) = 32 from rfl] at this
   rw [this]
   simpa using hc
 ·rw [if_neg hs] at hR
  refine br_false (by simpa using hs) ?_
  repeat (first | refine nilP_some ?_ | refine h.tk fun w h => ?_ | refine ⟨_, h.ldA, ?_⟩ | refine ⟨_, _, _, h.ldA, ?_⟩)
  have hii : IntKind.i64.wrap ((l.i : Int) + 1) = ((l.i + 1 : Nat) : Int) := i64_inc (by omega)
  by_cases hi : l.i < l.text.length
  ·rw [List.getElem?_eq_getElem hi] at hR
   refine br_true (by simpa using hi) ?_
   repeat (first | refine nilP_some ?_ | refine h.tk fun w h => ?_ | refine ⟨_, h.ldA, ?_⟩ | refine ⟨_, _, _, h.ldA, ?_⟩)
   refine ⟨by omega, by simpa using hi, ?_⟩
   rw [bt_beq hi c _ rfl]
   by_cases hc : l.text[l.i] = c
   ·rw [if_pos (by rw [hc])] at hR
    refine br_true (by simpa using hc) ?_
    repeat (first | refine nilP_some ?_ | refine h.tk fun w h => ?_ | refine ⟨_, h.ldA, ?_⟩ | refine ⟨_, _, _, h.ldA, ?_⟩ | refine h.stA 0 fun w h => ?_ | refine h.stA 1 fun w h => ?_ | refine h.stA 2 fun w h => ?_ | refine h.stA 3 fun w h => ?_ | refine h.stA 4 fun w h => ?_ | refine h.stA 5 fun w h => ?_ | refine h.stA 6 fun w h => ?_ | refine h.bx fun b0 w h => ?_)
    rw [hii] at h
    exact hR _ h
   ·rw [if_neg (by simpa using hc)] at hR
    exact br_false (by simpa using hc) (hR _ h)
  ·rw [List.getElem?_eq_none (by omega), if_neg (by simp)] at hR
   exact br_false (by simpa using hi) (br_false rfl (hR _ h))

def Ln.skip (l : Ln) : Ln := { l with sp := 0, i := l.text.length - ((l.text.drop l.i).dropWhile isST).length }
theorem Ln.skip_ok {l : Ln} (hl : l.ok) : l.skip.ok := by
 have h1 := hl.i; have h2 := hl.tab
 have h3 := (List.dropWhile_sublist isST (l := l.text.drop l.i)).length_le
 rw [List.length_drop] at h3
 exact ⟨by simp only [Ln.skip]; omega, by simp only [Ln.skip]; omega, hl.len, by simp [Ln.skip]⟩
theorem skipSpace_ok {b : Nat} {l : Ln} (h : Sat σ w (l.at b :: L)) (hl : l.ok) (hR : ∀ w, Sat σ w (l.skip.at b :: L) → R (.returned (.tuple #[])) w) :
 callE P i_line_skipSpace #[.pointer (some ⟨b, 0, none⟩)] R w := by
 refine g_line_skipSpace.sound ?_
 repeat (first | refine nilP_some ?_ | refine h.tk fun w h => ?_ | refine ⟨_, h.ldA, ?_⟩ | refine ⟨_, _, _, h.ldA, ?_⟩ | refine h.stA 0 fun w h => ?_ | refine h.stA 1 fun w h => ?_ | refine h.stA 2 fun w h => ?_ | refine h.stA 3 fun w h => ?_ | refine h.stA 4 fun w h => ?_ | refine h.stA 5 fun w h => ?_ | refine h.stA 6 fun w h => ?_ | refine h.bx fun b0 w h => ?_)
 intro X hX
 have h1 := hl.i; have h4 := hl.len
 refine scanF (l := l.text) (p := isST) (X := fun i => ∀ w, Sat σ w (Ln.at b { l with sp := 0, i := i } :: L) → X (some ⟨b, 0, none⟩) w) (fun i hi hp hx w h => hX _ _ ?_) l.i h1 (fun i hi hf he w h => hX _ _ ?_) _ h
 ·repeat (first | refine nilP_some ?_ | refine h.tk fun w h => ?_ | refine ⟨_, h.ldA, ?_⟩ | refine ⟨_, _, _, h.ldA, ?_⟩)
  refine br_true (by simpa using hi) ?_
  repeat (first | refine nilP_some ?_ | refine h.tk fun w h => ?_ | refine ⟨_, h.ldA, ?_⟩ | refine ⟨_, _, _, h.ldA, ?_⟩)
  refine ⟨by omega, by simpa using hi, ?_⟩
  have hii : IntKind.i64.wrap ((i : Int) + 1) = ((i + 1 : Nat) : Int) := i64_inc (by omega)
  rw [bt_beq hi 32 32 rfl]
  by_cases hc : l.text[i] = 32
  ·refine br_true (by simpa using hc) ?_
   repeat (first | refine nilP_some ?_ | refine h.tk fun w h => ?_ | refine ⟨_, h.ldA, ?_⟩ | refine ⟨_, _, _, h.ldA, ?_⟩ | refine h.stA 0 fun w h => ?_ | refine h.stA 1 fun w h => ?_ | refine h.stA 2 fun w h => ?_ | refine h.stA 3 fun w h => ?_ | refine h.stA 4 fun w h => ?_ | refine h.stA 5 fun w h => ?_ | refine h.stA 6 fun w h => ?_ | refine h.bx fun b0 w h => ?_)
   rw [hii] at h
   exact hx _ h
  ·refine br_false (by simpa using hc) ?_
   repeat (first | refine nilP_some ?_ | refine h.tk fun w h => ?_ | refine ⟨_, h.ldA, ?_⟩ | refine ⟨_, _, _, h.ldA, ?_⟩)
   refine ⟨by omega, by simpa using hi, ?_⟩
   rw [bt_beq hi 9 9 rfl]
   refine br_true (by simpa [isST, hc] using hp) ?_
   repeat (first | refine nilP_some ?_ | refine h.tk fun w h => ?_ | refine ⟨_, h.ldA, ?_⟩ | refine ⟨_, _, _, h.ldA, ?_⟩ | refine h.stA 0 fun w h => ?_ | refine h.stA 1 fun w h => ?_ | refine h.stA 2 fun w h => ?_ | refine h.stA 3 fun w h => ?_ | refine h.stA 4 fun w h => ?_ | refine h.stA 5 fun w h => ?_ | refine h.stA 6 fun w h => ?_ | refine h.bx fun b0 w h => ?_)
   rw [hii] at h
   exact hx _ h
 ·have hfin : l.skip = { l with sp := 0, i := i } := by
   simp only [Ln.skip, ← he, List.length_drop]
   congr 1
   omega
  rw [← hfin] at h
  have hsk : l.skip.i = i := by rw [hfin]
  have hst : l.skip.text = l.text := rfl
  repeat (first | refine nilP_some ?_ | refine h.tk fun w h => ?_ | refine ⟨_, h.ldA, ?_⟩ | refine ⟨_, _, _, h.ldA, ?_⟩)
  rw [hsk, hst]
  by_cases hi' : i < l.text.length
  ·have hp := hf hi'
   simp only [isST, Bool.or_eq_false_iff, beq_eq_false_iff_ne] at hp
   refine br_true (by simpa using hi') ?_
   repeat (first | refine nilP_some ?_ | refine h.tk fun w h => ?_ | refine ⟨_, h.ldA, ?_⟩ | refine ⟨_, _, _, h.ldA, ?_⟩)
   rw [hsk, hst]
   refine ⟨by omega, by simpa using hi', ?_⟩
   rw [bt_beq hi' 32 32 rfl]
   refine br_false (by simpa using hp.1) ?_
   repeat (first | refine nilP_some ?_ | refine h.tk fun w h => ?_ | refine ⟨_, h.ldA, ?_⟩ | refine ⟨_, _, _, h.ldA, ?_⟩)
   rw [hsk, hst]
   refine ⟨by omega, by simpa using hi', ?_⟩
   rw [bt_beq hi' 9 9 rfl]
   exact br_false (by simpa using hp.2) (hR _ h)
  ·exact br_false (by simpa using hi') (hR _ h)

def Ln.str (l : Ln) : List UInt8 := List.replicate l.sp 32 ++ l.text.drop l.i
theorem string_ok {b : Nat} {l : Ln} (h : Sat σ w L) (hm : l.at b ∈ L) (hl : l.ok) (hR : ∀ w, Sat σ w L → R (.returned (.string (bs l.str))) w) :
 callE P i_line_string #[.pointer (some ⟨b, 0, none⟩)] R w := by
 refine g_line_string.sound ?_
 have h1 := hl.i; have h3 := hl.sp; have h4 := hl.len
 have key : ∀ (k : Nat) (pre : ByteArray), l.sp = k → pre = bs (List.replicate k 32) → (∀ w, Sat σ w L → R (.returned (.string (pre ++ (bs l.text).extract l.i l.text.length))) w) := by
  intro k pre hk hp w h
  rw [hp, bs_ext, bs_append, ← hk]
  exact hR w h
 have hm64 : IntKind.i64.max = 9223372036854775807 := rfl
 repeat (first | refine nilP_some ?_ | refine h.tk fun w h => ?_ | refine ⟨_, h.ldA, ?_⟩ | refine ⟨_, _, _, h.ldA, ?_⟩)
 have h5 : l.sp = 0 ∨ l.sp = 1 ∨ l.sp = 2 ∨ l.sp = 3 := by omega
 rcases h5 with h5 | h5 | h5 | h5
 ·refine br_true (by rw [h5]; rfl) ?_
  repeat (first | refine nilP_some ?_ | refine h.tk fun w h => ?_ | refine ⟨_, h.ldA, ?_⟩ | refine ⟨_, _, _, h.ldA, ?_⟩)
  refine ⟨by omega, by simp; omega, ?_⟩
  rw [bs_size, Int.toNat_natCast, bs_ext]
  have := hR _ h
  rw [Ln.str, h5] at this
  exact this
 ·refine br_false (by rw [h5]; rfl) (br_true (by rw [h5]; rfl) ?_)
  repeat (first | refine nilP_some ?_ | refine h.tk fun w h => ?_ | refine ⟨_, h.ldA, ?_⟩ | refine ⟨_, _, _, h.ldA, ?_⟩)
  refine ⟨by omega, by simp; omega, ?_, ?_⟩
  ·rw [hm64, bs_size, Int.toNat_natCast, bs_ext, bs_size, List.length_drop]
   show ((1 + (l.text.length - l.i) : Nat) : Int) ≤ _
   omega
  ·rw [bs_size, Int.toNat_natCast]; exact key 1 _ h5 rfl _ h
 ·refine br_false (by rw [h5]; rfl) (br_false (by rw [h5]; rfl) (br_true (by rw [h5]; rfl) ?_))
  repeat (first | refine nilP_some ?_ | refine h.tk fun w h => ?_ | refine ⟨_, h.ldA, ?_⟩ | refine ⟨_, _, _, h.ldA, ?_⟩)
  refine ⟨by omega, by simp; omega, ?_, ?_⟩
  ·rw [hm64, bs_size, Int.toNat_natCast, bs_ext, bs_size, List.length_drop]
   show ((2 + (l.text.length - l.i) : Nat) : Int) ≤ _
   omega
  ·rw [bs_size, Int.toNat_natCast]; exact key 2 _ h5 rfl _ h
 ·refine br_false (by rw [h5]; rfl) (br_false (by rw [h5]; rfl) (br_false (by rw [h5]; rfl) (br_true (by rw [h5]; rfl) ?_)))
  repeat (first | refine nilP_some ?_ | refine h.tk fun w h => ?_ | refine ⟨_, h.ldA, ?_⟩ | refine ⟨_, _, _, h.ldA, ?_⟩)
  refine ⟨by omega, by simp; omega, ?_, ?_⟩
  ·rw [hm64, bs_size, Int.toNat_natCast, bs_ext, bs_size, List.length_drop]
   show ((3 + (l.text.length - l.i) : Nat) : Int) ≤ _
   omega
  ·rw [bs_size, Int.toNat_natCast]; exact key 3 _ h5 rfl _ h

end Go.Proofs.YtgbgadkldalkbaaGreatDoor


set_option linter.unusedVariables false
namespace Go.Proofs.YtgbgadkldalkbaaGreatDoor
open Go.Proofs Go.IntWalk
variable {σ : Out} {w : World} {L L' : List Chunk} {R : Ending → World → Prop}

structure PS where
 pz : Option Addr
 root : Option Addr
 links : Option Nat
 lineno : Nat
 stq : Option Addr
 stn : Nat
 stc : Nat
 depth : Int
 corner : Bool
 s : List UInt8
 em : Int
 lq : Option Addr
 ln : Nat
 lc : Nat
 Lq : Option Addr
 Ln : Nat
 Lc : Nat
 tq : Option Addr
 tn : Nat
 tc : Nat
 bt : List Value
def PS.cells (p : PS) : List Value :=
 .pointer p.pz :: .pointer p.root :: .map p.links :: .int .i64 p.lineno :: .slice p.stq p.stn p.stc :: .int .i64 p.depth :: .bool p.corner :: .string (bs p.s) :: .int .i64 p.em ::
  .slice p.lq p.ln p.lc :: .slice p.Lq p.Ln p.Lc :: .slice p.tq p.tn p.tc :: p.bt
abbrev PS.at (b : Nat) (p : PS) : Chunk := (b, cel p.cells ty_parseState)
structure OB where
 bd : Value
 q : Option Addr
 n : Nat
 c : Nat
 s : Nat
 e : Nat
def OB.cells (o : OB) : List Value := [o.bd, .slice o.q o.n o.c, .int .i64 o.s, .int .i64 o.e]
def obCells (l : List OB) : List Value := l.flatMap OB.cells
theorem obCells_length : ∀ l : List OB, (obCells l).length = l.length * 4
 | [] => rfl
 | o :: l => by simp only [obCells, List.flatMap_cons, List.length_append, List.length_cons] at *; rw [show (List.flatMap OB.cells l).length = l.length * 4 from obCells_length l]; simp [OB.cells]; omega
theorem obCells_get {f : Nat} (hf : f < 4) : ∀ (l : List OB) (j : Nat) (o : OB), l[j]? = some o → (obCells l)[j * 4 + f]? = o.cells[f]?
 | [], j, o, h => by simp at h
 | o' :: l, 0, o, h => by
  simp only [List.getElem?_cons_zero, Option.some.injEq] at h
  subst h
  simp only [obCells, List.flatMap_cons, Nat.zero_mul, Nat.zero_add]
  rw [List.getElem?_append_left (by simp [OB.cells]; omega)]
 | o' :: l, j + 1, o, h => by
  simp only [List.getElem?_cons_succ] at h
  simp only [obCells, List.flatMap_cons]
  rw [List.getElem?_append_right (by simp [OB.cells]; omega)]
  have := obCells_get hf l j o h
  rw [← this]
  congr 1
  simp [OB.cells]
  omega
def Stk (p : PS) (l : List OB) (M : List Chunk) : Prop := Sl 4 ty_openBlock p.stq p.stn p.stc (obCells l) M ∧ p.stn = l.length ∧ l.length < 1048576
theorem Stk.split {p : PS} {l : List OB} {M : List Chunk} (h : Stk p l M) (hl : l ≠ []) : ∃ b sp, p.stq = some ⟨b, 0, none⟩ ∧ M = [(b, cel (obCells l ++ sp) ty_openBlock)] ∧ (obCells l ++ sp).length = p.stc * 4 := by
 obtain ⟨⟨_, _, h | ⟨b, sp, h1, h2, h3⟩⟩, hn, _⟩ := h
 ·obtain ⟨_, h, _⟩ := h
  rw [h] at hn
  exact absurd (List.eq_nil_of_length_eq_zero hn.symm) hl
 ·exact ⟨b, sp, h1, h2, h3⟩
theorem Stk.mk' {p : PS} {l : List OB} {b : Nat} {sp : List Value} (h1 : p.stq = some ⟨b, 0, none⟩) (h2 : (obCells l ++ sp).length = p.stc * 4) (h3 : p.stn = l.length) (h4 : l.length < 1048576) :
 Stk p l [(b, cel (obCells l ++ sp) ty_openBlock)] := by
 refine ⟨⟨by rw [obCells_length, h3], ?_, .inr ⟨b, sp, h1, rfl, h2⟩⟩, h3, h4⟩
 rw [List.length_append, obCells_length] at h2
 omega
theorem stk_get {l : List OB} {sp : List Value} {j f : Nat} {o : OB} (hf : f < 4) (ho : l[j]? = some o) : (obCells l ++ sp)[j * 4 + f]? = o.cells[f]? := by
 have hj := (List.getElem?_eq_some_iff.1 ho).1
 rw [List.getElem?_append_left (by rw [obCells_length]; omega), obCells_get hf l j o ho]
theorem last_get {l : List OB} (o : OB) : (l ++ [o])[l.length]? = some o := by simp
theorem len_dec {n : Nat} (h : n < 1048576) : IntKind.i64.wrap (((n + 1 : Nat) : Int) - 1) = (n : Int) := by
 rw [i64_in _ (by omega)]; omega

theorem blocks_ok {b : Nat} {p : PS} {l : List OB} {o : OB} {M : List Chunk} (h : Sat σ w (p.at b :: M ++ L)) (hs : Stk p (l ++ [o]) M)
 (hR : ∀ w, Sat σ w (p.at b :: M ++ L) → R (.returned (.slice o.q o.n o.c)) w) : callE P i_parseState_blocks #[.pointer (some ⟨b, 0, none⟩)] R w := by
 obtain ⟨sb, sp, hq, rfl, hsp⟩ := hs.split (by simp)
 have hn := hs.2.1
 have hlt := hs.2.2
 rw [List.length_append, List.length_singleton] at hn hlt
 refine g_parseState_blocks.sound ?_
 repeat (first | refine nilP_some ?_ | refine h.tk fun w h => ?_ | refine ⟨_, h.ldA, ?_⟩ | refine ⟨_, _, _, h.ldA, ?_⟩)
 rw [hn, len_dec (by omega)]
 refine ⟨by omega, by omega, ?_⟩
 rw [hq]
 refine nilP_some ?_
 simp only [Addr.add_lit, Nat.zero_add, Int.toNat_natCast]
 exact ⟨_, _, _, Sat.ld h (by first | assumption | (repeat (first | exact .head _ | apply List.Mem.tail))) (stk_get (f := 1) (by decide) (last_get o)), hR _ h⟩

theorem trimStack_noop {b : Nat} {p : PS} {d : Int} (h : Sat σ w (p.at b :: L)) (hd : (p.stn : Int) = d) (hR : ∀ w, Sat σ w (p.at b :: L) → R (.returned (.tuple #[])) w) :
 callE P i_parseState_trimStack #[.pointer (some ⟨b, 0, none⟩), .int .i64 d] R w := by
 refine g_parseState_trimStack.sound ?_
 repeat (first | refine nilP_some ?_ | refine h.tk fun w h => ?_ | refine ⟨_, h.ldA, ?_⟩ | refine ⟨_, _, _, h.ldA, ?_⟩)
 refine br_false (by simp; omega) ?_
 intro X hX
 refine hX _ _ _ ?_
 repeat (first | refine nilP_some ?_ | refine h.tk fun w h => ?_ | refine ⟨_, h.ldA, ?_⟩ | refine ⟨_, _, _, h.ldA, ?_⟩)
 exact br_false (by simp; omega) (hR _ h)

noncomputable def rowOB : Row P ty_S_openBlock ty_openBlock 4 56 :=
 ⟨(P.info? ty_openBlock).getD default, ((P.info? ty_openBlock).bind (·.zero)).getD default, by kernel_rfl, by kernel_rfl, by kernel_rfl, by kernel_rfl, by kernel_rfl, by kernel_rfl, by decide⟩

theorem obCells_snoc (l : List OB) (o : OB) : obCells (l ++ [o]) = obCells l ++ o.cells := by simp [obCells]
theorem stk_set {l : List OB} {sp : List Value} {o o' : OB} {f : Nat} {v : Value} (hf : f < 4) (ho : o.cells.set f v = o'.cells) :
 (obCells (l ++ [o]) ++ sp).set (l.length * 4 + f) v = obCells (l ++ [o']) ++ sp := by
 rw [obCells_snoc, obCells_snoc, List.append_assoc, List.append_assoc, List.set_append_right _ _ (by rw [obCells_length]; omega), obCells_length,
  show l.length * 4 + f - l.length * 4 = f by omega, List.set_append_left _ _ (by simp [OB.cells]; omega), ho]

theorem ta_yes {t xt : TypeId} {v : Value} (hu : ∀ ms, P.underlying t ≠ some (.interface ms)) {d : TypeDesc} (hd : P.underlying t = some d) (w : World) :
 (Instr.typeAssert (.iface t v) xt t true).run P w = .ok (.tuple #[v, .bool true]) w := by
 cases d <;> first | (exact absurd hd (hu _)) | simp [Instr.typeAssert, run_underlying hd]
theorem ta_no {t a xt : TypeId} {v : Value} (hu : ∀ ms, P.underlying a ≠ some (.interface ms)) {d : TypeDesc} (hd : P.underlying a = some d) (hne : t ≠ a) {i : TypeInfo} {z : Value}
 (hi : P.info? a = some i) (hz : i.zero = some z) (w : World) :
 (Instr.typeAssert (.iface t v) xt a true).run P w = .ok (.tuple #[z, .bool false]) w := by
 cases d <;> first | (exact absurd hd (hu _)) | simp [Instr.typeAssert, run_underlying hd, hne, zeroValue, typeInfo, hi, hz]
end Go.Proofs.YtgbgadkldalkbaaGreatDoor


set_option linter.unusedVariables false
namespace Go.Proofs.YtgbgadkldalkbaaGreatDoor
open Go.Proofs Go.IntWalk
variable {σ : Out} {w : World} {L L' : List Chunk} {R : Ending → World → Prop}

theorem addBlock_ok {b : Nat} {p : PS} {l : List OB} {M : List Chunk} {t : TypeId} {v : Value} (h : Sat σ w (p.at b :: M ++ L)) (hs : Stk p l M) (hd : p.depth + 1 = l.length)
 (hl : l.length < 1048575)
 (hR : ∀ w p' M', p' = { p with stq := p'.stq, stn := l.length + 1, stc := p'.stc } → Stk p' (l ++ [⟨.iface t v, none, 0, 0, p.lineno, p.lineno⟩]) M' → Sat σ w (p'.at b :: M' ++ L) → R (.returned (.tuple #[])) w) :
 callE P i_parseState_addBlock #[.pointer (some ⟨b, 0, none⟩), .iface t v] R w := by
 have hn := hs.2.1
 refine g_parseState_addBlock.sound ?_
 repeat (first | refine nilP_some ?_ | refine h.tk fun w h => ?_ | refine ⟨_, h.ldA, ?_⟩ | refine ⟨_, _, _, h.ldA, ?_⟩)
 rw [show IntKind.i64.wrap (p.depth + 1) = p.depth + 1 by rw [hd]; exact i64_in _ (by omega)]
 refine trimStack_noop h (by rw [hd, hn]) fun w h => ⟨rfl, ?_⟩
 repeat (first | refine nilP_some ?_ | refine h.tk fun w h => ?_ | refine ⟨_, h.ldA, ?_⟩ | refine ⟨_, _, _, h.ldA, ?_⟩)
 have h : Sat σ w (M ++ (p.at b :: L)) := h.re
 refine Sat.app1 rowOB hs.1 h (v := .agg #[.nilIface, .slice none 0 0, .int .i64 0, .int .i64 0]) rfl (by decide) (by kernel_rfl) (by omega) (by omega) (by decide) fun q' c' w M' hs' h => ?_
 have h : Sat σ w (p.at b :: M' ++ L) := h.re
 let p' : PS := { p with stq := q', stn := l.length + 1, stc := c' }
 rw [hn] at hs' ⊢
 (first | refine nilP_some ?_ | refine h.tk fun w h => ?_ | refine ⟨_, h.ldA, ?_⟩ | refine ⟨_, _, _, h.ldA, ?_⟩ | refine h.stA 0 fun w h => ?_ | refine h.stA 1 fun w h => ?_ | refine h.stA 2 fun w h => ?_ | refine h.stA 3 fun w h => ?_ | refine h.stA 4 fun w h => ?_ | refine h.stA 5 fun w h => ?_ | refine h.stA 6 fun w h => ?_ | refine h.bx fun b0 w h => ?_)
 (first | refine nilP_some ?_ | refine h.tk fun w h => ?_ | refine ⟨_, h.ldA, ?_⟩ | refine ⟨_, _, _, h.ldA, ?_⟩ | refine h.stA 0 fun w h => ?_ | refine h.stA 1 fun w h => ?_ | refine h.stA 2 fun w h => ?_ | refine h.stA 3 fun w h => ?_ | refine h.stA 4 fun w h => ?_ | refine h.stA 5 fun w h => ?_ | refine h.stA 6 fun w h => ?_ | refine h.bx fun b0 w h => ?_)
 have h : Sat σ w (p'.at b :: M' ++ L) := h
 have hs2 : Stk p' (l ++ [⟨.nilIface, none, 0, 0, 0, 0⟩]) M' := by
  refine ⟨?_, by simp [p'], by simp; omega⟩
  rw [obCells_snoc]
  exact hs'
 obtain ⟨sb, sp, hq, rfl, hsp⟩ := hs2.split (by simp)
 repeat (first | refine nilP_some ?_ | refine h.tk fun w h => ?_ | refine ⟨_, h.ldA, ?_⟩ | refine ⟨_, _, _, h.ldA, ?_⟩)
 rw [show p'.stn = l.length + 1 from rfl, len_dec (by omega)]
 refine ⟨by omega, by omega, ?_⟩
 rw [hq]
 refine nilP_some ?_
 dsimp only [cellV]
 simp only [Addr.add_lit, Nat.zero_add, Int.toNat_natCast, Nat.add_zero]
 have hlen : ∀ (o : OB) (sp : List Value) f, f < 4 → l.length * 4 + f < (obCells (l ++ [o]) ++ sp).length := by
  intro o sp f hf
  rw [List.length_append, obCells_length, List.length_append, List.length_singleton]; omega
 refine Sat.st h (k := 1) rfl (by have := hlen ⟨.nilIface, none, 0, 0, 0, 0⟩ sp 0 (by decide); simpa using this) trivial rfl fun w h => ?_
 have h : Sat σ w (p'.at b :: [(sb, cel (obCells (l ++ [⟨.iface t v, none, 0, 0, 0, 0⟩]) ++ sp) ty_openBlock)] ++ L) := by
  have e := stk_set (l := l) (sp := sp) (o := ⟨.nilIface, none, 0, 0, 0, 0⟩) (o' := ⟨.iface t v, none, 0, 0, 0, 0⟩) (f := 0) (v := .iface t v) (by decide) rfl
  rw [Nat.add_zero] at e
  rw [e] at h
  exact h
 repeat (first | refine nilP_some ?_ | refine h.tk fun w h => ?_ | refine ⟨_, h.ldA, ?_⟩ | refine ⟨_, _, _, h.ldA, ?_⟩)
 refine Sat.st h (k := 1) rfl (hlen _ sp 2 (by decide)) trivial rfl fun w h => ?_
 have h : Sat σ w (p'.at b :: [(sb, cel (obCells (l ++ [⟨.iface t v, none, 0, 0, p.lineno, 0⟩]) ++ sp) ty_openBlock)] ++ L) := by
  have e := stk_set (l := l) (sp := sp) (o := ⟨.iface t v, none, 0, 0, 0, 0⟩) (o' := ⟨.iface t v, none, 0, 0, p.lineno, 0⟩) (f := 2) (v := .int .i64 p.lineno) (by decide) rfl
  have h := h
  rw [e] at h
  exact h
 repeat (first | refine nilP_some ?_ | refine h.tk fun w h => ?_ | refine ⟨_, h.ldA, ?_⟩ | refine ⟨_, _, _, h.ldA, ?_⟩)
 refine Sat.st h (k := 1) rfl (hlen _ sp 3 (by decide)) trivial rfl fun w h => ?_
 have h : Sat σ w (p'.at b :: [(sb, cel (obCells (l ++ [⟨.iface t v, none, 0, 0, p.lineno, p.lineno⟩]) ++ sp) ty_openBlock)] ++ L) := by
  have e := stk_set (l := l) (sp := sp) (o := ⟨.iface t v, none, 0, 0, p.lineno, 0⟩) (o' := ⟨.iface t v, none, 0, 0, p.lineno, p.lineno⟩) (f := 3) (v := .int .i64 p.lineno) (by decide) rfl
  have h := h
  rw [e] at h
  exact h
 refine hR _ p' _ rfl ?_ h
 refine Stk.mk' hq ?_ (by simp [p']) (by simp; omega)
 rw [← hsp, List.length_append, List.length_append, obCells_length, obCells_length, List.length_append, List.length_append]
 rfl
end Go.Proofs.YtgbgadkldalkbaaGreatDoor


set_option linter.unusedVariables false
namespace Go.Proofs.YtgbgadkldalkbaaGreatDoor
open Go.Proofs Go.IntWalk
variable {σ : Out} {w : World} {L L' : List Chunk} {R : Ending → World → Prop}

theorem Ln.tsGo_ok {min : Nat} {eol : Bool} : ∀ (k n : Nat) {l l' : Ln}, l.ok → l.tsGo min eol k n = some l' → l'.ok ∧ l'.text = l.text ∧ l'.nl = l.nl
 | 0, n, l, l', hl, h => by simp only [Ln.tsGo, Option.some.injEq] at h; subst h; exact ⟨hl, rfl, rfl⟩
 | k + 1, n, l, l', hl, h => by
  have h1 := hl.i; have h2 := hl.tab; have h3 := hl.sp
  simp only [Ln.tsGo] at h
  split at h
  ·exact tsGo_ok k _ (l := { l with sp := l.sp - 1 }) ⟨h1, h2, hl.len, by simp; omega⟩ h
  ·split at h
   ·exact tsGo_ok k _ hl h
   ·split at h
    ·rename_i hg
     have := (List.getElem?_eq_some_iff.1 hg).1
     exact tsGo_ok k _ (l := { l with sp := 3 - (l.i - l.tab) % 4, i := l.i + 1, tab := l.i + 1 }) ⟨by simp; omega, by simp, hl.len, by simp⟩ h
    ·split at h
     ·rename_i hg
      have := (List.getElem?_eq_some_iff.1 hg).1
      exact tsGo_ok k _ (l := { l with i := l.i + 1 }) ⟨by simp; omega, by simp; omega, hl.len, h3⟩ h
     ·split at h
      ·cases h; exact ⟨hl, rfl, rfl⟩
      ·cases h
theorem Ln.tsGo_some {eol : Bool} : ∀ (k n : Nat) (l : Ln), ∃ l', l.tsGo 0 eol k n = some l'
 | 0, n, l => ⟨l, rfl⟩
 | k + 1, n, l => by
  simp only [Ln.tsGo]
  split
  ·exact tsGo_some k _ _
  ·split
   ·exact tsGo_some k _ _
   ·split
    ·exact tsGo_some k _ _
    ·split
     ·exact tsGo_some k _ _
     ·exact ⟨l, by simp⟩
theorem Ln.trimSp_ok {min max : Nat} {eol : Bool} {l l' : Ln} (hl : l.ok) (h : l.trimSp min max eol = some l') : l'.ok := (Ln.tsGo_ok max 0 hl h).1
def Ln.lead (m : Nat) (eol : Bool) (l : Ln) : Ln := (l.trimSp 0 m eol).getD l
theorem Ln.lead_eq (m : Nat) (eol : Bool) (l : Ln) : l.trimSp 0 m eol = some (l.lead m eol) := by
 obtain ⟨l', h⟩ := Ln.tsGo_some (eol := eol) m 0 l
 rw [Ln.lead, Ln.trimSp, h]; rfl
theorem Ln.lead_ok {m : Nat} {eol : Bool} {l : Ln} (hl : l.ok) : (l.lead m eol).ok := Ln.trimSp_ok hl (l.lead_eq m eol)
theorem lead_ok {b : Nat} {l : Ln} {max : Nat} {eol : Bool} (h : Sat σ w (l.at b :: L)) (hl : l.ok) (h2 : max < 4611686018427387904)
 (hR : ∀ w, Sat σ w ((l.lead max eol).at b :: L) → R (.returned (.bool true)) w) :
 callE P i_line_trimSpace #[.pointer (some ⟨b, 0, none⟩), .int .i64 0, .int .i64 max, .bool eol] R w := by
 refine YtgbgadkldalkbaaGreatDoor.trimSp_ok (min := 0) h hl (by omega) h2 ?_
 rw [Ln.lead_eq]
 exact hR

abbrev Ln.val (l : Ln) : Value := .agg #[.int .i64 l.sp, .int .i64 l.i, .int .i64 l.tab, .string (bs l.text), .int .u8 l.nl.toNat]

def Ln.quote (l : Ln) : Option Ln := ((l.lead 3 false).trimC 62).map fun t => t.lead 1 true
theorem trimQuote_ok {l : Ln} (h : Sat σ w L) (hl : l.ok)
 (hR : match l.quote with
  | some l' => ∀ w, Sat σ w L → R (.returned (.tuple #[l'.val, .bool true])) w
  | none => ∀ w, Sat σ w L → R (.returned (.tuple #[l.val, .bool false])) w) : callE P i_trimQuote #[l.val] R w := by
 refine g_trimQuote.sound ?_
 refine Sat.bx h fun b1 w h => ?_
 refine Sat.bx h fun b3 w h => ?_
 repeat (first | refine nilP_some ?_ | refine h.tk fun w h => ?_ | refine ⟨_, h.ldA, ?_⟩ | refine ⟨_, _, _, h.ldA, ?_⟩ | refine h.stA 0 fun w h => ?_ | refine h.stA 1 fun w h => ?_ | refine h.stA 2 fun w h => ?_ | refine h.stA 3 fun w h => ?_ | refine h.stA 4 fun w h => ?_ | refine h.stA 5 fun w h => ?_ | refine h.stA 6 fun w h => ?_ | refine h.bx fun b0 w h => ?_)
 have h : Sat σ _ (l.at b0 :: (b3, cel [.int .i64 0, .int .i64 0, .int .i64 0, .string (bs []), .int .u8 0] ty_line) :: l.at b1 :: L) := h
 refine lead_ok (max := 3) h hl (by decide) fun w h => ⟨_, rfl, ?_⟩
 refine trimC_ok (c := 62) rfl h (Ln.lead_ok hl) ?_
 simp only [Ln.quote] at hR
 cases hq : (l.lead 3 false).trimC 62 with
 | none =>
  rw [hq] at hR
  intro w h
  refine ⟨_, rfl, br_true rfl ?_⟩
  repeat (first | refine nilP_some ?_ | refine h.tk fun w h => ?_ | refine ⟨_, h.ldA, ?_⟩ | refine ⟨_, _, _, h.ldA, ?_⟩ | refine h.stA 0 fun w h => ?_ | refine h.stA 1 fun w h => ?_ | refine h.stA 2 fun w h => ?_ | refine h.stA 3 fun w h => ?_ | refine h.stA 4 fun w h => ?_ | refine h.stA 5 fun w h => ?_ | refine h.stA 6 fun w h => ?_ | refine h.bx fun b0 w h => ?_)
  exact hR _ h.tail.tail.tail
 | some t =>
  rw [hq] at hR
  intro w h
  refine ⟨_, rfl, br_false rfl ?_⟩
  refine lead_ok (max := 1) h (Ln.trimC_ok (Ln.lead_ok hl) hq) (by decide) fun w h => ⟨_, rfl, ?_⟩
  repeat (first | refine nilP_some ?_ | refine h.tk fun w h => ?_ | refine ⟨_, h.ldA, ?_⟩ | refine ⟨_, _, _, h.ldA, ?_⟩ | refine h.stA 0 fun w h => ?_ | refine h.stA 1 fun w h => ?_ | refine h.stA 2 fun w h => ?_ | refine h.stA 3 fun w h => ?_ | refine h.stA 4 fun w h => ?_ | refine h.stA 5 fun w h => ?_ | refine h.stA 6 fun w h => ?_ | refine h.bx fun b0 w h => ?_)
  exact hR _ h.tail.tail.tail
end Go.Proofs.YtgbgadkldalkbaaGreatDoor


set_option linter.unusedVariables false
namespace Go.Proofs.YtgbgadkldalkbaaGreatDoor
open Go.Proofs Go.IntWalk
variable {σ : Out} {w : World} {L L' : List Chunk} {R : Ending → World → Prop}

theorem u8b (c d : UInt8) (n : Int) (hd : (d.toNat : Int) = n) : (((c.toNat : Nat) : Int) == n) = (c == d) := by subst hd; exact u8_beq c d

def Ln.hrGo (c : UInt8) : Nat → Nat → Ln → Bool
 | 0, _, _ => false
 | f + 1, n, l => match l.trimC c with
  | none => decide (3 ≤ n) && decide (l.text.length ≤ l.i)
  | some l' => l'.skip.hrGo c f (n + 1)
def Ln.isHR (l : Ln) : Bool :=
 let t := l.lead 3 false
 if t.peek = 45 ∨ t.peek = 95 ∨ t.peek = 42 then t.hrGo t.peek (t.text.length + 1) 0 else false
theorem Ln.skip_ge {l : Ln} (hl : l.ok) : l.i ≤ l.skip.i := by
 have h1 := hl.i
 have h3 := (List.dropWhile_sublist isST (l := l.text.drop l.i)).length_le
 rw [List.length_drop] at h3
 simp only [Ln.skip]; omega
theorem isHR_ok {l : Ln} (h : Sat σ w L) (hl : l.ok) (hR : ∀ w, Sat σ w L → R (.returned (.bool l.isHR)) w) : callE P i_isHR #[l.val] R w := by
 refine g_isHR.sound ?_
 refine Sat.bx h fun b1 w h => ?_
 repeat (first | refine nilP_some ?_ | refine h.tk fun w h => ?_ | refine ⟨_, h.ldA, ?_⟩ | refine ⟨_, _, _, h.ldA, ?_⟩ | refine h.stA 0 fun w h => ?_ | refine h.stA 1 fun w h => ?_ | refine h.stA 2 fun w h => ?_ | refine h.stA 3 fun w h => ?_ | refine h.stA 4 fun w h => ?_ | refine h.stA 5 fun w h => ?_ | refine h.stA 6 fun w h => ?_ | refine h.bx fun b0 w h => ?_)
 have h : Sat σ _ (l.at b0 :: l.at b1 :: L) := h
 refine lead_ok (max := 3) h hl (by decide) fun w h => ⟨_, rfl, ?_⟩
 have ht := Ln.lead_ok (m := 3) (eol := false) hl
 refine peek_ok h (by first | assumption | (repeat (first | exact .head _ | apply List.Mem.tail))) ht fun w h => ⟨_, rfl, ?_⟩
 generalize hg : l.lead 3 false = t at *
 have hi : l.isHR = if t.peek = 45 ∨ t.peek = 95 ∨ t.peek = 42 then t.hrGo t.peek (t.text.length + 1) 0 else false := by simp only [Ln.isHR, hg]
 have loop : ∀ (c : UInt8), c ≠ 32 → ∀ f n (t : Ln) w, t.ok → t.text.length - t.i < f → n ≤ t.i → Sat σ w (t.at b0 :: l.at b1 :: L) → (∀ w, Sat σ w L → R (.returned (.bool (t.hrGo c f n))) w) →
  g_isHR.l1 R b0 c.toNat n w := by
  intro c hc f n t w ht hf hn h hR X hX
  induction f generalizing n t w with
  | zero => omega
  | succ f ih =>
   refine hX _ _ _ _ ?_
   refine trimC_ok (c := c) rfl h ht ?_
   simp only [Ln.hrGo] at hR
   have h1 := ht.i; have h4 := ht.len
   cases hq : t.trimC c with
   | none =>
    rw [hq] at hR
    intro w h
    refine ⟨_, rfl, br_true rfl ?_⟩
    refine br_split (fun h3 => ?_) (fun h3 => ?_)
    ·refine eof_ok h (by first | assumption | (repeat (first | exact .head _ | apply List.Mem.tail))) fun w h => ⟨_, rfl, ?_⟩
     have := hR _ h.tail.tail
     rw [show decide (3 ≤ n) = true by simp at h3 ⊢; omega, Bool.true_and] at this
     exact this
    ·have := hR _ h.tail.tail
     rw [show decide (3 ≤ n) = false by simp at h3 ⊢; omega, Bool.false_and] at this
     exact this
   | some t' =>
    rw [hq] at hR
    intro w h
    refine ⟨_, rfl, br_false rfl ?_⟩
    have ht' := Ln.trimC_ok ht hq
    refine skipSpace_ok h ht' fun w h => ⟨rfl, ?_⟩
    have hd : t'.i = t.i + 1 ∧ t'.text = t.text := by
     simp only [Ln.trimC, hc, if_false] at hq
     split at hq
     ·cases hq
     ·split at hq
      ·cases hq; exact ⟨rfl, rfl⟩
      ·cases hq
    have hge := Ln.skip_ge ht'
    have htl : t'.skip.text = t.text := hd.2
    rw [i64_inc (by omega)]
    have hge2 := ht'.i
    rw [hd.2] at hge2
    exact ih (n + 1) t'.skip _ (Ln.skip_ok ht') (by rw [htl]; omega) (by omega) h hR
 have fin : (t.peek = 45 ∨ t.peek = 95 ∨ t.peek = 42) → Sat σ w (t.at b0 :: l.at b1 :: L) → g_isHR.k1 R b0 t.peek.toNat true w := by
  intro hp h
  rw [if_pos hp] at hi
  refine br_true rfl ?_
  refine loop t.peek (by rcases hp with hp | hp | hp <;> rw [hp] <;> decide) (t.text.length + 1) 0 t w ht (by omega) (by omega) h (by rw [← hi]; exact hR)
 rw [u8b _ 45 45 rfl, u8b _ 95 95 rfl, u8b _ 42 42 rfl]
 refine br_split (fun hp => fin (.inl (by simpa using hp)) h) (fun h45 => br_split (fun hp => fin (.inr (.inl (by simpa using hp))) h) (fun h95 => ?_))
 by_cases hp : t.peek = 42
 ·rw [show (t.peek == 42) = true by simpa using hp]
  exact fin (.inr (.inr hp)) h
 ·rw [show (t.peek == 42) = false by simpa using hp]
  have := hR _ h.tail.tail
  rw [hi, if_neg (by simp at h45 h95; simp [h45, h95, hp])] at this
  exact br_false rfl this
end Go.Proofs.YtgbgadkldalkbaaGreatDoor


set_option linter.unusedVariables false
namespace Go.Proofs.YtgbgadkldalkbaaGreatDoor
open Go.Proofs Go.IntWalk
variable {σ : Out} {w : World} {L L' : List Chunk} {R : Ending → World → Prop}

theorem newQuote_no {x : Value} {q : Option Addr} {l : Ln} (h : Sat σ w L) (hl : l.ok) (hq : l.quote = none)
 (hR : ∀ w, Sat σ w L → R (.returned (.tuple #[l.val, .bool false])) w) : callE P i_newQuote #[.pointer q, l.val] R w := by
 refine g_newQuote.sound ?_
 refine Sat.bx h fun b1 w h => ?_
 refine Sat.bx h fun b3 w h => ?_
 repeat (first | refine nilP_some ?_ | refine h.tk fun w h => ?_ | refine ⟨_, h.ldA, ?_⟩ | refine ⟨_, _, _, h.ldA, ?_⟩)
 refine trimQuote_ok (l := l) h hl ?_
 rw [hq]
 intro w h
 refine ⟨_, _, _, _, _, _, rfl, ?_⟩
 refine Sat.bx h fun b4 w h => ?_
 repeat (first | refine nilP_some ?_ | refine h.tk fun w h => ?_ | refine ⟨_, h.ldA, ?_⟩ | refine ⟨_, _, _, h.ldA, ?_⟩ | refine h.stA 0 fun w h => ?_ | refine h.stA 1 fun w h => ?_ | refine h.stA 2 fun w h => ?_ | refine h.stA 3 fun w h => ?_ | refine h.stA 4 fun w h => ?_ | refine h.stA 5 fun w h => ?_ | refine h.stA 6 fun w h => ?_ | refine h.bx fun b0 w h => ?_)
 exact hR _ h.tail.tail.tail
theorem newHR_no {q : Option Addr} {l : Ln} (h : Sat σ w L) (hl : l.ok) (hq : l.isHR = false)
 (hR : ∀ w, Sat σ w L → R (.returned (.tuple #[l.val, .bool false])) w) : callE P i_newHR #[.pointer q, l.val] R w := by
 refine g_newHR.sound ?_
 refine Sat.bx h fun b1 w h => ?_
 refine Sat.bx h fun b3 w h => ?_
 repeat (first | refine nilP_some ?_ | refine h.tk fun w h => ?_ | refine ⟨_, h.ldA, ?_⟩ | refine ⟨_, _, _, h.ldA, ?_⟩)
 refine isHR_ok (l := l) h hl fun w h => ⟨_, rfl, ?_⟩
 rw [hq]
 repeat (first | refine nilP_some ?_ | refine h.tk fun w h => ?_ | refine ⟨_, h.ldA, ?_⟩ | refine ⟨_, _, _, h.ldA, ?_⟩ | refine h.stA 0 fun w h => ?_ | refine h.stA 1 fun w h => ?_ | refine h.stA 2 fun w h => ?_ | refine h.stA 3 fun w h => ?_ | refine h.stA 4 fun w h => ?_ | refine h.stA 5 fun w h => ?_ | refine h.stA 6 fun w h => ?_ | refine h.bx fun b0 w h => ?_)
 exact hR _ h.tail.tail

def Ln.hashes : Nat → Nat → Ln → Nat × Ln
 | 0, n, l => (n, l)
 | k + 1, n, l => match l.trimC 35 with
  | none => (n, l)
  | some l' => l'.hashes k (n + 1)
def Ln.heading (l : Ln) : Option (Nat × Ln) :=
 match (l.lead 3 false).trimC 35 with
 | none => none
 | some t => ((t.hashes 5 1).2.trimSp 1 1 true).map fun t' => ((t.hashes 5 1).1, t')
theorem trimHeading_ok {b nb : Nat} {l : Ln} {v : Int} {e : TypeId} (h : Sat σ w (l.at b :: (nb, cel [.int .i64 v] e) :: L)) (hl : l.ok)
 (hR : match l.heading with
  | some (n, l') => ∀ w, Sat σ w (l'.at b :: (nb, cel [.int .i64 n] e) :: L) → R (.returned (.bool true)) w
  | none => ∀ w, Sat σ w (l.at b :: (nb, cel [.int .i64 v] e) :: L) → R (.returned (.bool false)) w) :
 callE P i_line_trimHeading #[.pointer (some ⟨b, 0, none⟩), .pointer (some ⟨nb, 0, none⟩)] R w := by
 refine g_line_trimHeading.sound ?_
 repeat (first | refine nilP_some ?_ | refine h.tk fun w h => ?_ | refine ⟨_, h.ldA, ?_⟩ | refine ⟨_, _, _, h.ldA, ?_⟩ | refine h.stA 0 fun w h => ?_ | refine h.stA 1 fun w h => ?_ | refine h.stA 2 fun w h => ?_ | refine h.stA 3 fun w h => ?_ | refine h.stA 4 fun w h => ?_ | refine h.stA 5 fun w h => ?_ | refine h.stA 6 fun w h => ?_ | refine h.bx fun b0 w h => ?_)
 have h : Sat σ _ (l.at b0 :: l.at b :: (nb, cel [.int .i64 v] e) :: L) := h
 refine lead_ok (max := 3) h hl (by decide) fun w h => ⟨_, rfl, ?_⟩
 have ht := Ln.lead_ok (m := 3) (eol := false) hl
 refine trimC_ok (c := 35) rfl h ht ?_
 simp only [Ln.heading] at hR
 cases hq : (l.lead 3 false).trimC 35 with
 | none =>
  rw [hq] at hR
  exact fun w h => ⟨_, rfl, br_true rfl (hR _ h.tail)⟩
 | some t =>
  rw [hq] at hR
  intro w h
  refine ⟨_, rfl, br_false rfl ?_⟩
  have ht := Ln.trimC_ok ht hq
  have fin : ∀ (n : Nat) (t' : Ln) w, t'.ok → Sat σ w (t'.at b0 :: l.at b :: (nb, cel [.int .i64 v] e) :: L) →
   (match (t'.trimSp 1 1 true).map fun t' => (n, t') with
   | some (n, l') => ∀ w, Sat σ w (l'.at b :: (nb, cel [.int .i64 n] e) :: L) → R (.returned (.bool true)) w
   | none => ∀ w, Sat σ w (l.at b :: (nb, cel [.int .i64 v] e) :: L) → R (.returned (.bool false)) w) →
   g_line_trimHeading.k1 R (some ⟨b, 0, none⟩) (some ⟨nb, 0, none⟩) b0 n w := by
   intro n t' w ht' h hR
   refine YtgbgadkldalkbaaGreatDoor.trimSp_ok (min := 1) (max := 1) h ht' (by decide) (by decide) ?_
   cases hs : t'.trimSp 1 1 true with
   | none =>
    rw [hs] at hR
    exact fun w h => ⟨_, rfl, br_true rfl (hR _ h.tail)⟩
   | some t2 =>
    rw [hs] at hR
    intro w h
    refine ⟨_, rfl, br_false rfl ?_⟩
    repeat (first | refine nilP_some ?_ | refine h.tk fun w h => ?_ | refine ⟨_, h.ldA, ?_⟩ | refine ⟨_, _, _, h.ldA, ?_⟩ | refine h.stA 0 fun w h => ?_ | refine h.stA 1 fun w h => ?_ | refine h.stA 2 fun w h => ?_ | refine h.stA 3 fun w h => ?_ | refine h.stA 4 fun w h => ?_ | refine h.stA 5 fun w h => ?_ | refine h.stA 6 fun w h => ?_ | refine h.bx fun b0 w h => ?_)
    have h : Sat σ _ (t2.at b0 :: t2.at b :: (nb, cel [.int .i64 n] e) :: L) := h
    exact hR _ h.tail
  have loop : ∀ k n (t : Ln) w, t.ok → k + n = 6 → Sat σ w (t.at b0 :: l.at b :: (nb, cel [.int .i64 v] e) :: L) →
   (match ((t.hashes k n).2.trimSp 1 1 true).map fun t' => ((t.hashes k n).1, t') with
   | some (n, l') => ∀ w, Sat σ w (l'.at b :: (nb, cel [.int .i64 n] e) :: L) → R (.returned (.bool true)) w
   | none => ∀ w, Sat σ w (l.at b :: (nb, cel [.int .i64 v] e) :: L) → R (.returned (.bool false)) w) →
   g_line_trimHeading.l1 R (some ⟨b, 0, none⟩) (some ⟨nb, 0, none⟩) b0 n w := by
   intro k n t w ht hk h hR X hX
   induction k generalizing n t w with
   | zero => exact hX _ _ _ _ _ (br_false (by simp; omega) (fin n t w ht h hR))
   | succ k ih =>
    refine hX _ _ _ _ _ (br_true (by simp; omega) ?_)
    refine trimC_ok (c := 35) rfl h ht ?_
    simp only [Ln.hashes] at hR
    cases hq : t.trimC 35 with
    | none =>
     rw [hq] at hR
     exact fun w h => ⟨_, rfl, br_false rfl (fin n t w ht h hR)⟩
    | some t' =>
     rw [hq] at hR
     intro w h
     refine ⟨_, rfl, br_true rfl ?_⟩
     rw [i64_inc (by omega)]
     exact ih (n + 1) t' w (Ln.trimC_ok ht hq) (by omega) h hR
  exact loop 5 1 t w ht rfl h hR
theorem newATX_no {q : Option Addr} {l : Ln} (h : Sat σ w L) (hl : l.ok) (hq : l.heading = none)
 (hR : ∀ w, Sat σ w L → R (.returned (.tuple #[l.val, .bool false])) w) : callE P i_newATXHeading #[.pointer q, l.val] R w := by
 refine g_newATXHeading.sound ?_
 refine Sat.bx h fun b1 w h => ?_
 refine Sat.bx h fun b3 w h => ?_
 repeat (first | refine nilP_some ?_ | refine h.tk fun w h => ?_ | refine ⟨_, h.ldA, ?_⟩ | refine ⟨_, _, _, h.ldA, ?_⟩)
 refine Sat.bx h fun b4 w h => ?_
 repeat (first | refine nilP_some ?_ | refine h.tk fun w h => ?_ | refine ⟨_, h.ldA, ?_⟩ | refine ⟨_, _, _, h.ldA, ?_⟩ | refine h.stA 0 fun w h => ?_ | refine h.stA 1 fun w h => ?_ | refine h.stA 2 fun w h => ?_ | refine h.stA 3 fun w h => ?_ | refine h.stA 4 fun w h => ?_ | refine h.stA 5 fun w h => ?_ | refine h.stA 6 fun w h => ?_ | refine h.bx fun b0 w h => ?_)
 have h : Sat σ _ ((b0, cel [.int .i64 0] ty_int) :: l.at b4 :: (b3, cel [.int .i64 0, .int .i64 0, .int .i64 0, .string (bs []), .int .u8 0] ty_line) :: l.at b1 :: L) := h
 refine trimHeading_ok h.up1 hl ?_
 rw [hq]
 intro w h
 refine ⟨_, rfl, br_false rfl ?_⟩
 repeat (first | refine nilP_some ?_ | refine h.tk fun w h => ?_ | refine ⟨_, h.ldA, ?_⟩ | refine ⟨_, _, _, h.ldA, ?_⟩ | refine h.stA 0 fun w h => ?_ | refine h.stA 1 fun w h => ?_ | refine h.stA 2 fun w h => ?_ | refine h.stA 3 fun w h => ?_ | refine h.stA 4 fun w h => ?_ | refine h.stA 5 fun w h => ?_ | refine h.stA 6 fun w h => ?_ | refine h.bx fun b0 w h => ?_)
 exact hR _ h.tail.tail.tail.tail
end Go.Proofs.YtgbgadkldalkbaaGreatDoor


set_option linter.unusedVariables false
namespace Go.Proofs.YtgbgadkldalkbaaGreatDoor
open Go.Proofs Go.IntWalk
variable {σ : Out} {w : World} {L L' : List Chunk} {R : Ending → World → Prop}

theorem top_ok {b : Nat} {p : PS} {l : List OB} {o : OB} {M : List Chunk} (h : Sat σ w (p.at b :: M ++ L)) (hs : Stk p (l ++ [o]) M) {t : TypeId} {v : Value} (ho : o.bd = .iface t v)
 (hR : ∀ w, Sat σ w (p.at b :: M ++ L) → R (.returned (if t = ty_P_paraBuilder then v else .pointer none)) w) (hv : t = ty_P_paraBuilder → ∃ q, v = .pointer q) :
 callE P i_parseState_para #[.pointer (some ⟨b, 0, none⟩)] R w := by
 obtain ⟨sb, sp, hq, rfl, hsp⟩ := hs.split (by simp)
 have hn := hs.2.1
 have hlt := hs.2.2
 rw [List.length_append, List.length_singleton] at hn hlt
 refine g_parseState_para.sound ?_
 repeat (first | refine nilP_some ?_ | refine h.tk fun w h => ?_ | refine ⟨_, h.ldA, ?_⟩ | refine ⟨_, _, _, h.ldA, ?_⟩)
 rw [hn, len_dec (by omega)]
 refine ⟨by omega, by omega, ?_⟩
 rw [hq]
 refine nilP_some ?_
 simp only [Addr.add_lit, Nat.zero_add, Int.toNat_natCast]
 refine ⟨o.bd, Sat.ld h (by first | assumption | (repeat (first | exact .head _ | apply List.Mem.tail))) (stk_get (f := 0) (by decide) (last_get o)), ?_⟩
 rw [ho]
 have hund : P.underlying ty_P_paraBuilder = some (.pointer ty_paraBuilder) := by kernel_rfl
 by_cases ht : t = ty_P_paraBuilder
 ·obtain ⟨q, rfl⟩ := hv ht
  subst ht
  have := hR _ h
  rw [if_pos rfl] at this
  exact ⟨q, true, fun w => ta_yes (by rw [hund]; intro ms h; cases h) hund w, br_true rfl this⟩
 ·have := hR _ h
  rw [if_neg ht] at this
  refine ⟨none, false, fun w => ?_, br_false rfl this⟩
  exact ta_no (by rw [hund]; intro ms h; cases h) hund ht (i := (P.info? ty_P_paraBuilder).getD default) (by kernel_rfl) (by kernel_rfl) w
end Go.Proofs.YtgbgadkldalkbaaGreatDoor


set_option linter.unusedVariables false
namespace Go.Proofs.YtgbgadkldalkbaaGreatDoor
open Go.Proofs Go.IntWalk
variable {σ : Out} {w : World} {L L' : List Chunk} {R : Ending → World → Prop}

def Ln.strip : Nat → Nat → Ln → Nat × Ln
 | 0, n, l => (n, l)
 | k + 1, n, l => match l.trimSp 1 1 false with
  | none => (n, l)
  | some l' => l'.strip k (n + 1)
def isBullet (c : UInt8) : Bool := c == 45 || c == 42 || c == 43 || (48 ≤ c && c ≤ 57)
theorem beqf {c d : UInt8} {n : Int} (hd : (d.toNat : Int) = n) (h : c ≠ d) : (((c.toNat : Nat) : Int) == n) = false := by
 rw [u8b _ d n hd]; simpa using h
theorem startListItem_no {b : Nat} {q : Option Addr} {l : Ln} (h : Sat σ w (l.at b :: L)) (hl : l.ok) (hp : isBullet (l.strip 3 0).2.peek = false)
 (hR : ∀ w, Sat σ w (l.at b :: L) → R (.returned (.bool false)) w) : callE P i_parseState_startListItem #[.pointer q, .pointer (some ⟨b, 0, none⟩)] R w := by
 refine g_parseState_startListItem.sound ?_
 refine Sat.bx h fun b1 w h => ?_
 repeat (first | refine nilP_some ?_ | refine h.tk fun w h => ?_ | refine ⟨_, h.ldA, ?_⟩ | refine ⟨_, _, _, h.ldA, ?_⟩ | refine h.stA 0 fun w h => ?_ | refine h.stA 1 fun w h => ?_ | refine h.stA 2 fun w h => ?_ | refine h.stA 3 fun w h => ?_ | refine h.stA 4 fun w h => ?_ | refine h.stA 5 fun w h => ?_ | refine h.stA 6 fun w h => ?_ | refine h.bx fun b0 w h => ?_)
 have h : Sat σ _ (l.at b0 :: (b1, cel [.pointer q] ty_P_parseState) :: l.at b :: L) := h
 have fin : ∀ (n : Nat) (t : Ln) w, t.ok → isBullet t.peek = false → Sat σ w (t.at b0 :: (b1, cel [.pointer q] ty_P_parseState) :: l.at b :: L) → g_parseState_startListItem.k1 R b1 b0 n w := by
  intro n t w ht hp h
  refine peek_ok h (by first | assumption | (repeat (first | exact .head _ | apply List.Mem.tail))) ht fun w h => ⟨_, rfl, ?_⟩
  generalize t.peek = c at *
  simp only [isBullet, Bool.or_eq_false_iff, beq_eq_false_iff_ne, Bool.and_eq_false_iff, decide_eq_false_iff_not] at hp
  obtain ⟨⟨⟨h1, h2⟩, h3⟩, h4⟩ := hp
  have hd : ∀ d : UInt8, 48 ≤ d → d ≤ 57 → c ≠ d := by
   intro d hd1 hd2 hc
   subst hc
   rcases h4 with h4 | h4
   ·exact h4 hd1
   ·exact h4 hd2
  have h43 := beqf (n := 43) rfl h3
  have h57 := beqf (n := 57) rfl (hd 57 (by decide) (by decide))
  refine br_false (beqf (d := 45) rfl h1) (br_false (beqf (d := 42) rfl h2) ?_)
  rw [h43]
  refine br_false rfl ?_
  refine br_false (beqf (d := 48) rfl (hd _ (by decide) (by decide))) ?_
  refine br_false (beqf (d := 49) rfl (hd _ (by decide) (by decide))) ?_
  refine br_false (beqf (d := 50) rfl (hd _ (by decide) (by decide))) ?_
  refine br_false (beqf (d := 51) rfl (hd _ (by decide) (by decide))) ?_
  refine br_false (beqf (d := 52) rfl (hd _ (by decide) (by decide))) ?_
  refine br_false (beqf (d := 53) rfl (hd _ (by decide) (by decide))) ?_
  refine br_false (beqf (d := 54) rfl (hd _ (by decide) (by decide))) ?_
  refine br_false (beqf (d := 55) rfl (hd _ (by decide) (by decide))) ?_
  refine br_false (beqf (d := 56) rfl (hd _ (by decide) (by decide))) ?_
  rw [h57]
  exact br_false rfl (hR _ h.tail.tail)
 intro X hX
 have loop : ∀ k n (t : Ln) w, t.ok → k + n = 3 → isBullet (t.strip k n).2.peek = false → Sat σ w (t.at b0 :: (b1, cel [.pointer q] ty_P_parseState) :: l.at b :: L) → X b1 b0 n n w := by
  intro k n t w ht hk hp h
  induction k generalizing n t w with
  | zero => exact hX _ _ _ _ _ (br_false (by simp; omega) (fin n t w ht hp h))
  | succ k ih =>
   refine hX _ _ _ _ _ (br_true (by simp; omega) ?_)
   refine YtgbgadkldalkbaaGreatDoor.trimSp_ok (min := 1) (max := 1) h ht (by decide) (by decide) ?_
   simp only [Ln.strip] at hp
   cases hs : t.trimSp 1 1 false with
   | none =>
    rw [hs] at hp
    exact fun w h => ⟨_, rfl, br_true rfl (fin n t w ht hp h)⟩
   | some t' =>
    rw [hs] at hp
    intro w h
    refine ⟨_, rfl, br_false rfl ?_⟩
    rw [i64_inc (by omega)]
    exact ih (n + 1) t' w (Ln.trimSp_ok ht hs) (by omega) hp h
 exact loop 3 0 l _ hl rfl hp h
end Go.Proofs.YtgbgadkldalkbaaGreatDoor


set_option linter.unusedVariables false
namespace Go.Proofs.YtgbgadkldalkbaaGreatDoor
open Go.Proofs Go.IntWalk
variable {σ : Out} {w : World} {L L' : List Chunk} {R : Ending → World → Prop}

abbrev zLn (b : Nat) : Chunk := (b, cel [.int .i64 0, .int .i64 0, .int .i64 0, .string (bs []), .int .u8 0] ty_line)
theorem curB_ok {b d : Nat} {p : PS} {l : List OB} {M : List Chunk} (h : Sat σ w (p.at b :: M ++ L)) (hs : Stk p l M) (hd : p.depth = d)
 (hR : ∀ w, Sat σ w (p.at b :: M ++ L) → R (.returned (match l[d]? with | some o => o.bd | none => .nilIface)) w) :
 callE P i_parseState_curB #[.pointer (some ⟨b, 0, none⟩)] R w := by
 have hn := hs.2.1
 have hlt := hs.2.2
 refine g_parseState_curB.sound ?_
 repeat (first | refine nilP_some ?_ | refine h.tk fun w h => ?_ | refine ⟨_, h.ldA, ?_⟩ | refine ⟨_, _, _, h.ldA, ?_⟩)
 rw [hn, hd]
 by_cases hdl : d < l.length
 ·obtain ⟨sb, sp, hq, rfl, hsp⟩ := hs.split (by intro h; subst h; simp at hdl)
  refine br_true (by simpa using hdl) ?_
  repeat (first | refine nilP_some ?_ | refine h.tk fun w h => ?_ | refine ⟨_, h.ldA, ?_⟩ | refine ⟨_, _, _, h.ldA, ?_⟩)
  rw [hn, hd]
  refine ⟨by omega, by omega, ?_⟩
  rw [hq]
  refine nilP_some ?_
  simp only [Addr.add_lit, Nat.zero_add, Int.toNat_natCast]
  refine ⟨l[d].bd, Sat.ld h (by first | assumption | (repeat (first | exact .head _ | apply List.Mem.tail))) (stk_get (f := 0) (by decide) (List.getElem?_eq_getElem hdl)), ?_⟩
  have := hR _ h
  rw [List.getElem?_eq_getElem hdl] at this
  exact this
 ·have := hR _ h
  rw [List.getElem?_eq_none (by omega)] at this
  exact br_false (by simpa using hdl) this
theorem nextB_ok {b d : Nat} {p : PS} {l : List OB} {M : List Chunk} (h : Sat σ w (p.at b :: M ++ L)) (hs : Stk p l M) (hd : p.depth = d) (hdb : d < 1048577)
 (hR : ∀ w, Sat σ w (p.at b :: M ++ L) → R (.returned (match l[d + 1]? with | some o => o.bd | none => .nilIface)) w) :
 callE P i_parseState_nextB #[.pointer (some ⟨b, 0, none⟩)] R w := by
 have hn := hs.2.1
 have hlt := hs.2.2
 refine g_parseState_nextB.sound ?_
 repeat (first | refine nilP_some ?_ | refine h.tk fun w h => ?_ | refine ⟨_, h.ldA, ?_⟩ | refine ⟨_, _, _, h.ldA, ?_⟩)
 rw [hn, hd, i64_inc (by omega)]
 by_cases hdl : d + 1 < l.length
 ·obtain ⟨sb, sp, hq, rfl, hsp⟩ := hs.split (by intro h; subst h; simp at hdl)
  refine br_true (by simp; omega) ?_
  repeat (first | refine nilP_some ?_ | refine h.tk fun w h => ?_ | refine ⟨_, h.ldA, ?_⟩ | refine ⟨_, _, _, h.ldA, ?_⟩)
  rw [hn, hd, i64_inc (by omega)]
  refine ⟨by omega, by omega, ?_⟩
  rw [hq]
  refine nilP_some ?_
  simp only [Addr.add_lit, Nat.zero_add, Int.toNat_natCast]
  refine ⟨l[d + 1].bd, Sat.ld h (by first | assumption | (repeat (first | exact .head _ | apply List.Mem.tail))) (stk_get (f := 0) (by decide) (List.getElem?_eq_getElem hdl)), ?_⟩
  have := hR _ h
  rw [List.getElem?_eq_getElem hdl] at this
  exact this
 ·have := hR _ h
  rw [List.getElem?_eq_none (by omega)] at this
  exact br_false (by simp; omega) this

theorem ta_listBuilder_no {v : Value} {t : TypeId} (ht : t ≠ ty_P_listBuilder) (w : World) :
 (Instr.typeAssert (.iface t v) ty_blockBuilder ty_P_listBuilder true).run P w = .ok (.tuple #[.pointer none, .bool false]) w := by
 have hund : P.underlying ty_P_listBuilder = some (.pointer ty_listBuilder) := by kernel_rfl
 exact ta_no (by rw [hund]; intro ms h; cases h) hund ht (i := (P.info? ty_P_listBuilder).getD default) (by kernel_rfl) (by kernel_rfl) w
theorem newListItem_no {b d : Nat} {p : PS} {ob : List OB} {o : OB} {M : List Chunk} {t : TypeId} {v : Value} {l : Ln} (h : Sat σ w (p.at b :: M ++ L)) (hs : Stk p ob M) (hd : p.depth = d)
 (ho : ob[d]? = some o) (hb : o.bd = .iface t v) (ht : t ≠ ty_P_listBuilder) (hl : l.ok) (hp : isBullet (l.strip 3 0).2.peek = false)
 (hR : ∀ w, Sat σ w (p.at b :: M ++ L) → R (.returned (.tuple #[l.val, .bool false])) w) : callE P i_newListItem #[.pointer (some ⟨b, 0, none⟩), l.val] R w := by
 refine g_newListItem.sound ?_
 refine Sat.bx h fun b1 w h => ?_
 refine Sat.bx h fun b3 w h => ?_
 have h : Sat σ w (zLn b3 :: l.at b1 :: (p.at b :: M ++ L)) := h
 have h : Sat σ w (p.at b :: M ++ (zLn b3 :: l.at b1 :: L)) := h.re
 refine curB_ok h hs hd fun w h => ?_
 rw [ho]
 dsimp only
 refine ⟨_, rfl, none, false, w, by rw [hb]; exact ta_listBuilder_no ht w, br_false rfl (br_false rfl ?_)⟩
 have h : Sat σ w (l.at b1 :: zLn b3 :: p.at b :: M ++ L) := h.re
 refine startListItem_no h hl hp fun w h => ⟨_, rfl, br_false rfl ?_⟩
 repeat (first | refine nilP_some ?_ | refine h.tk fun w h => ?_ | refine ⟨_, h.ldA, ?_⟩ | refine ⟨_, _, _, h.ldA, ?_⟩ | refine h.stA 0 fun w h => ?_ | refine h.stA 1 fun w h => ?_ | refine h.stA 2 fun w h => ?_ | refine h.stA 3 fun w h => ?_ | refine h.stA 4 fun w h => ?_ | refine h.stA 5 fun w h => ?_ | refine h.stA 6 fun w h => ?_ | refine h.bx fun b0 w h => ?_)
 exact hR _ h.tail.tail
end Go.Proofs.YtgbgadkldalkbaaGreatDoor


set_option linter.unusedVariables false
namespace Go.Proofs.YtgbgadkldalkbaaGreatDoor
open Go.Proofs Go.IntWalk
variable {σ : Out} {w : World} {L L' : List Chunk} {R : Ending → World → Prop}

theorem equalIn_nil_iface {t u : TypeId} {v : Value} {ms : Array (String × TypeId)} (hu : P.underlying t = some (.interface ms)) (d : Nat) (w : World) :
 (Op.equalIn (d + 1) t .nilIface (.iface u v)).run P w = .ok false w := by
 simp [Op.equalIn, run_underlying hu]
theorem equalIn_ptr_nil {t e : TypeId} (hu : P.underlying t = some (.pointer e)) (q : Option Addr) (d : Nat) (w : World) :
 (Op.equalIn (d + 1) t (.pointer q) (.pointer none)).run P w = .ok q.isNone w := by
 cases q <;> simp [Op.equalIn, run_underlying hu]
theorem bin_eq {t : TypeId} {a b : Value} {r : Bool} {w : World} {x y : Operand} (h1 : (eqGuard .eql t x y a b).run P w = .ok () w) (h2 : binOp .eql t a b = (do pure (.bool (← Op.equal t a b))))
 (h : (Op.equal t a b).run P w = .ok r w) : (do eqGuard .eql t x y a b; binOp .eql t a b).run P w = .ok (.bool r) w := by
 rw [h2]
 simp only [Sem.run_bind, h1, h, Result.andThen_ok]
 rfl
theorem eq_nil_iface {t u : TypeId} {v : Value} {ms : Array (String × TypeId)} (hu : P.underlying t = some (.interface ms)) (x y : Operand) (w : World) :
 (do eqGuard .eql t x y .nilIface (.iface u v); binOp .eql t .nilIface (.iface u v)).run P w = .ok (.bool false) w :=
 bin_eq rfl rfl (equalIn_nil_iface hu 9999 w)
theorem eq_ptr_nil {t e : TypeId} (hu : P.underlying t = some (.pointer e)) (q : Option Addr) (x y : Operand) (w : World) :
 (do eqGuard .eql t x y (.pointer q) (.pointer none); binOp .eql t (.pointer q) (.pointer none)).run P w = .ok (.bool q.isNone) w :=
 bin_eq rfl rfl (equalIn_ptr_nil hu q 9999 w)
theorem und_bb : P.underlying ty_blockBuilder = some (.interface ((match P.underlying ty_blockBuilder with | some (.interface ms) => ms | _ => #[]))) := by kernel_rfl
theorem und_para : P.underlying ty_P_paraBuilder = some (.pointer ty_paraBuilder) := by kernel_rfl

theorem newSetext_no {b d : Nat} {p : PS} {ob : List OB} {o : OB} {M : List Chunk} {t : TypeId} {v : Value} {l : Ln} (h : Sat σ w (p.at b :: M ++ L)) (hs : Stk p (ob ++ [o]) M) (hd : p.depth = d)
 (hlen : ob.length = d) (hb : o.bd = .iface t v) (ht : t ≠ ty_P_paraBuilder) (hl : l.ok)
 (hR : ∀ w, Sat σ w (p.at b :: M ++ L) → R (.returned (.tuple #[l.val, .bool false])) w) : callE P i_newSetextHeading #[.pointer (some ⟨b, 0, none⟩), l.val] R w := by
 have hlt := hs.2.2
 rw [List.length_append, List.length_singleton] at hlt
 refine g_newSetextHeading.sound ?_
 refine Sat.bx h fun b1 w h => ?_
 refine Sat.bx h fun b3 w h => ?_
 refine Sat.bx h fun b5 w h => ?_
 repeat (first | refine nilP_some ?_ | refine h.tk fun w h => ?_ | refine ⟨_, h.ldA, ?_⟩ | refine ⟨_, _, _, h.ldA, ?_⟩ | refine h.stA 0 fun w h => ?_ | refine h.stA 1 fun w h => ?_ | refine h.stA 2 fun w h => ?_ | refine h.stA 3 fun w h => ?_ | refine h.stA 4 fun w h => ?_ | refine h.stA 5 fun w h => ?_ | refine h.stA 6 fun w h => ?_ | refine h.bx fun b0 w h => ?_)
 have h : Sat σ _ (l.at b0 :: (b5, cel [.int .i64 0] ty_int) :: zLn b3 :: l.at b1 :: (p.at b :: M ++ L)) := h
 have h : Sat σ _ (p.at b :: M ++ (l.at b0 :: (b5, cel [.int .i64 0] ty_int) :: zLn b3 :: l.at b1 :: L)) := h.re
 refine nextB_ok h hs hd (by omega) fun w h => ?_
 rw [List.getElem?_eq_none (by simp; omega)]
 refine ⟨_, rfl, ?_⟩
 refine top_ok h hs hb (fun w h => ?_) (fun hc => absurd hc ht)
 rw [if_neg ht]
 refine ⟨_, rfl, false, w, eq_nil_iface und_bb _ _ w, br_false rfl ?_⟩
 have h : Sat σ _ (zLn b3 :: l.at b1 :: (b5, cel [.int .i64 0] ty_int) :: l.at b0 :: (p.at b :: M ++ L)) := h.re
 refine br_false rfl ?_
 repeat (first | refine nilP_some ?_ | refine h.tk fun w h => ?_ | refine ⟨_, h.ldA, ?_⟩ | refine ⟨_, _, _, h.ldA, ?_⟩ | refine h.stA 0 fun w h => ?_ | refine h.stA 1 fun w h => ?_ | refine h.stA 2 fun w h => ?_ | refine h.stA 3 fun w h => ?_ | refine h.stA 4 fun w h => ?_ | refine h.stA 5 fun w h => ?_ | refine h.stA 6 fun w h => ?_ | refine h.bx fun b0 w h => ?_)
 have h : Sat σ _ (l.at b3 :: l.at b1 :: (b5, cel [.int .i64 0] ty_int) :: l.at b0 :: (p.at b :: M ++ L)) := h
 exact hR _ h.tail.tail.tail.tail
end Go.Proofs.YtgbgadkldalkbaaGreatDoor


set_option linter.unusedVariables false
namespace Go.Proofs.YtgbgadkldalkbaaGreatDoor
open Go.Proofs Go.IntWalk
variable {σ : Out} {w : World} {L L' : List Chunk} {R : Ending → World → Prop}

structure Opt where
 ids : Bool
 strike : Bool
 task : Bool
 auto : Bool
 http : Bool
 table : Bool
 emoji : Bool
 dot : Bool
 dash : Bool
 quote : Bool
def Opt.cells (o : Opt) : List Value := [.bool o.ids, .bool o.strike, .bool o.task, .bool o.auto, .bool o.http, .bool o.table, .bool o.emoji, .bool o.dot, .bool o.dash, .bool o.quote]
abbrev Opt.at (b : Nat) (o : Opt) : Chunk := (b, cel o.cells ty_Parser)

end Go.Proofs.YtgbgadkldalkbaaGreatDoor


set_option linter.unusedVariables false
namespace Go.Proofs.YtgbgadkldalkbaaGreatDoor
open Go.Proofs Go.IntWalk
variable {σ : Out} {w : World} {L L' : List Chunk} {R : Ending → World → Prop}

def Ln.zero : Ln := ⟨0, 0, 0, [], 0⟩
noncomputable def rowStr : Row P ty_S_string ty_string 1 16 :=
 ⟨(P.info? ty_string).getD default, ((P.info? ty_string).bind (·.zero)).getD default, by kernel_rfl, by kernel_rfl, by kernel_rfl, by kernel_rfl, by kernel_rfl, by kernel_rfl, by decide⟩
def ParaAt (qb : Nat) (ts : List (List UInt8)) (M : List Chunk) : Prop :=
 ∃ q c TM, Sl 1 ty_string q ts.length c (ts.map fun t => .string (bs t)) TM ∧ M = (qb, cel [.slice q ts.length c, .pointer none] ty_paraBuilder) :: TM

end Go.Proofs.YtgbgadkldalkbaaGreatDoor


set_option linter.unusedVariables false
namespace Go.Proofs.YtgbgadkldalkbaaGreatDoor
open Go.Proofs Go.IntWalk
variable {σ : Out} {w : World} {L L' : List Chunk} {R : Ending → World → Prop}

theorem enter_fn {f : FuncId} {args first captured : Array Value} (h : callE P f (first ++ args ++ captured) R w) :
 enterE P (do let d ← Deferred.ofValue (.func (.func f) first captured) args; invoke d.target d.args) R w :=
 h.imp (fun h => ⟨f, _, w, h.1 _ _, h.2⟩) id

def newsF : List FuncId := [i_newQuote, i_newATXHeading, i_newSetextHeading, i_newHR, i_newListItem, i_newHTML, i_newFence, i_newPre]
def newsC : List Value := newsF.map fun f => .func (.func f) #[] #[]
theorem news_ok (h : Sat σ w L) (hR : ∀ w b e, Sat σ w ((b, cel newsC e) :: L) → R (.returned (.slice (some ⟨b, 0, none⟩) 8 8)) w) : callE P i_news #[] R w := by
 refine g_news.sound ?_
 have hu : P.underlying ty_S_func_P_parseState_line_line_bool = some (.slice ty_func_P_parseState_line_line_bool) := by kernel_rfl
 have hrun := run_buildSlice (P := P) w ty_S_func_P_parseState_line_line_bool ty_func_P_parseState_line_line_bool 8
  #[(0, .func (.func i_newQuote) #[] #[]), (1, .func (.func i_newATXHeading) #[] #[]), (2, .func (.func i_newSetextHeading) #[] #[]), (3, .func (.func i_newHR) #[] #[]),
   (4, .func (.func i_newListItem) #[] #[]), (5, .func (.func i_newHTML) #[] #[]), (6, .func (.func i_newFence) #[] #[]), (7, .func (.func i_newPre) #[] #[])] newsC.toArray
  ((P.info? ty_func_P_parseState_line_line_bool).getD default) (((P.info? ty_func_P_parseState_line_line_bool).bind (·.zero)).getD default) hu (by kernel_rfl) (by kernel_rfl)
  (by rw [show ((P.info? ty_func_P_parseState_line_line_bool).getD default).size = 1 by kernel_rfl]; decide) (by rw [show ((P.info? ty_func_P_parseState_line_line_bool).getD default).size = 1 by kernel_rfl]; decide) (by kernel_rfl)
 exact ⟨_, _, _, _, hrun, hR _ _ _ (h.alc newsC _)⟩
end Go.Proofs.YtgbgadkldalkbaaGreatDoor


set_option linter.unusedVariables false
namespace Go.Proofs.YtgbgadkldalkbaaGreatDoor
open Go.Proofs Go.IntWalk
variable {σ : Out} {w : World} {L L' : List Chunk} {R : Ending → World → Prop}

def Decl (b : Nat) (p : PS) (M : List Chunk) (l : Ln) (f : FuncId) : Prop :=
 ∀ (σ : Out) (w : World) (L : List Chunk) (R : Ending → World → Prop), Sat σ w (p.at b :: M ++ L) → (∀ w, Sat σ w (p.at b :: M ++ L) → R (.returned (.tuple #[l.val, .bool false])) w) →
  callE P f #[.pointer (some ⟨b, 0, none⟩), l.val] R w
def LDecl (l : Ln) : Prop :=
 ∀ (b d : Nat) (p : PS) (ob : List OB) (o : OB) (M : List Chunk) (t : TypeId) (v : Value), Stk p ob M → p.depth = d → ob[d]? = some o → o.bd = .iface t v → t ≠ ty_P_listBuilder → Decl b p M l i_newListItem
theorem LDecl.of_peek {l : Ln} (hl : l.ok) (hp : isBullet (l.strip 3 0).2.peek = false) : LDecl l :=
 fun _ _ _ _ _ _ _ _ hs hd ho hb ht _ _ _ _ h hR => newListItem_no h hs hd ho hb ht hl hp hR
theorem newsC_get {i : Nat} {f : FuncId} (h : newsF[i]? = some f) : newsC[i]? = some (.func (.func f) #[] #[]) := by
 rw [newsC, List.getElem?_map, h]; rfl

end Go.Proofs.YtgbgadkldalkbaaGreatDoor


set_option linter.unusedVariables false
set_option maxRecDepth 20000
namespace Go.Proofs.YtgbgadkldalkbaaGreatDoor
open Go.Proofs
namespace g_zzContains
noncomputable def body : Code := bodyOf Tryz.f64
end g_zzContains
def g_zzContains (R : EP) (x0 x1 : BA) (w : World) : Prop :=
 callE P i_zzIndex #[.string x0, .string x1] (fun e w2 => ∃ (r1 : Int), e = .returned (.int .i64 r1) ∧
 R (.returned (.bool (decide (r1 ≥ 0)))) w2) w

namespace g_zzContains
noncomputable def ac (R : EP) : AC :=
 (.leaf (sel [] body))
theorem good (R : EP) : Good P 9 (ac R) (QF P [.tmp 4] R) :=
 trivial
theorem eq (R : EP) (x0 x1 : BA) (w : World) : g_zzContains R x0 x1 w = vcA P 9 (ac R) (QF P [.tmp 4] R) (fr0 [.string x0, .string x1]) w := by kernel_rfl
theorem sound {R : EP} {x0 x1 : ByteArray} {w : World} (h : g_zzContains R x0 x1 w) : callE P i_zzContains #[.string x0, .string x1] R w :=
 callE_fz (c := body) Tryz.func64 Tryz.call64 (good R) (eq R x0 x1 w) h
end g_zzContains
namespace g_zzIndex
noncomputable def body : Code := bodyOf Tryz.f67
def bl1 (R : EP) (Xa : BA → BA → Int → WP) (x0 x1 : BA) (x5 : Int) (w : World) : Prop :=
 br (decide ((IntKind.i64.wrap (x5 + (x1.size : Int))) ≤ (x0.size : Int)))
 (0 ≤ x5 ∧ x5 ≤ (IntKind.i64.wrap (x5 + (x1.size : Int))) ∧ (IntKind.i64.wrap (x5 + (x1.size : Int))) ≤ (x0.size : Int) ∧
 br ((x0.extract (Int.toNat x5) (Int.toNat (IntKind.i64.wrap (x5 + (x1.size : Int))))).toList == x1.toList)
 (R (.returned (.int .i64 x5)) w)
 (Xa x0 x1 (IntKind.i64.wrap (x5 + 1)) w))
 (R (.returned (.int .i64 (-1))) w)
def l1 (R : EP) (x0 x1 : BA) (x5 : Int) (w : World) : Prop :=
 ∀ X : BA → BA → Int → WP, (∀ x0 x1 x5 w, bl1 R X x0 x1 x5 w → X x0 x1 x5 w) → X x0 x1 x5 w

noncomputable def al1 (R : EP) (Xa : BA → BA → Int → WP) : AC :=
 (.leaf (sel [1,0,1,0,0] body))
end g_zzIndex
def g_zzIndex (R : EP) (x0 x1 : BA) (w : World) : Prop :=
 g_zzIndex.l1 R x0 x1 0 w

namespace g_zzIndex
noncomputable def ac (R : EP) : AC :=
 (.seq (.leaf (sel [0] body)) (.seq (.seq (.leaf (sel [1,0,0] body)) (.block 0 (.loop (leaf [(0, .s .str), (1, .s .str), (5, .s (.int .i64))] (l1 R)) (sel [1,0,1,0,0] body)))) (.leaf (sel [1,1] body))))
theorem good (R : EP) : Good P 25 (ac R) (QF P [.tmp 4] R) :=
 ⟨trivial, ⟨⟨trivial, (loopG (al1 R) (bl1 R) (fun _ => by kernel_rfl) (fun Xa => trivial) (fun Xa => by intro x0 x1 x5 ρ w; kernel_rfl) (fun X h _ _ _ _ g => g X h))⟩, trivial⟩⟩
theorem eq (R : EP) (x0 x1 : BA) (w : World) : g_zzIndex R x0 x1 w = vcA P 25 (ac R) (QF P [.tmp 4] R) (fr0 [.string x0, .string x1]) w := by kernel_rfl
theorem sound {R : EP} {x0 x1 : ByteArray} {w : World} (h : g_zzIndex R x0 x1 w) : callE P i_zzIndex #[.string x0, .string x1] R w :=
 callE_fz (c := body) Tryz.func67 Tryz.call67 (good R) (eq R x0 x1 w) h
end g_zzIndex
end Go.Proofs.YtgbgadkldalkbaaGreatDoor

set_option linter.unusedVariables false
namespace Go.Proofs.YtgbgadkldalkbaaGreatDoor
open Go.Proofs Go.IntWalk
variable {σ : Out} {w : World} {L L' : List Chunk} {R : Ending → World → Prop}

def findSub (sub l : List UInt8) : Nat → Nat → Option Nat
 | 0, _ => none
 | k + 1, i => if i + sub.length ≤ l.length then (if (l.drop i).take sub.length = sub then some i else findSub sub l k (i + 1)) else none
def idx (l sub : List UInt8) : Option Nat := findSub sub l (l.length + 1) 0
def idxInt (l sub : List UInt8) : Int := match idx l sub with
 | some i => (i : Int)
 | none => -1
theorem zzIndex_ok {l sub : List UInt8} (hl : l.length < 4611686018427387904) (hs : sub.length < 4611686018427387904) (hR : R (.returned (.int .i64 (idxInt l sub))) w) : callE P i_zzIndex #[.string (bs l), .string (bs sub)] R w := by
 refine g_zzIndex.sound ?_
 intro X hX
 have loop : ∀ (k i : Nat), l.length < k + i → i ≤ l.length + 1 → (match findSub sub l k i with | some i => (i : Int) | none => -1) = idxInt l sub → X (bs l) (bs sub) i w := by
  intro k
  induction k with
  | zero =>
   intro i hk hi he
   have hw : IntKind.i64.wrap ((i : Int) + (sub.length : Int)) = ((i + sub.length : Nat) : Int) := by rw [i64_in _ (by omega)]; omega
   refine hX _ _ _ _ (br_false (by rw [bs_size, bs_size, hw]; simp; omega) ?_)
   rw [← he] at hR
   exact hR
  | succ k ih =>
   intro i hk hi he
   have hw : IntKind.i64.wrap ((i : Int) + (sub.length : Int)) = ((i + sub.length : Nat) : Int) := by rw [i64_in _ (by omega)]; omega
   simp only [findSub] at he
   by_cases h1 : i + sub.length ≤ l.length
   ·rw [if_pos h1] at he
    refine hX _ _ _ _ (br_true (by rw [bs_size, bs_size, hw]; simp; omega) ?_)
    rw [bs_size, bs_size, hw]
    refine ⟨by omega, by omega, by omega, ?_⟩
    rw [Int.toNat_natCast, Int.toNat_natCast, bs_extract, bs_toList, bs_toList]
    have ht : (l.take (i + sub.length)).drop i = (l.drop i).take sub.length := by rw [List.drop_take]; congr 1; omega
    rw [ht]
    by_cases h2 : (l.drop i).take sub.length = sub
    ·rw [if_pos h2] at he
     rw [← he] at hR
     exact br_true (by simpa using h2) hR
    ·rw [if_neg h2] at he
     refine br_false (by simpa using h2) ?_
     rw [i64_inc (by omega)]
     exact ih (i + 1) (by omega) (by omega) he
   ·rw [if_neg h1] at he
    refine hX _ _ _ _ (br_false (by rw [bs_size, bs_size, hw]; simp; omega) ?_)
    rw [← he] at hR
    exact hR
 exact loop (l.length + 1) 0 (by omega) (by omega) rfl
theorem zzContains_ok {l sub : List UInt8} (hl : l.length < 4611686018427387904) (hs : sub.length < 4611686018427387904) (hR : R (.returned (.bool (idx l sub).isSome)) w) : callE P i_zzContains #[.string (bs l), .string (bs sub)] R w := by
 refine g_zzContains.sound ?_
 refine zzIndex_ok hl hs ⟨_, rfl, ?_⟩
 have : decide (idxInt l sub ≥ 0) = (idx l sub).isSome := by
  unfold idxInt
  cases idx l sub with
  | none => rfl
  | some i => simp
 rw [this]
 exact hR
theorem findSub_none {c : UInt8} {l : List UInt8} (hc : c ∉ l) : ∀ k i, findSub [c] l k i = none
 | 0, i => rfl
 | k + 1, i => by
  simp only [findSub]
  split
  ·rename_i h
   simp only [List.length_singleton] at h
   rw [if_neg]
   ·exact findSub_none hc k (i + 1)
   ·intro he
    have hm : c ∈ (l.drop i).take 1 := by
     have he' : (l.drop i).take 1 = [c] := he
     rw [he']; exact List.mem_singleton.2 rfl
    exact hc (List.mem_of_mem_drop (List.mem_of_mem_take hm))
  ·rfl
theorem idx_none {c : UInt8} {l : List UInt8} (hc : c ∉ l) : idx l [c] = none := findSub_none hc _ _
end Go.Proofs.YtgbgadkldalkbaaGreatDoor


set_option linter.unusedVariables false
namespace Go.Proofs.YtgbgadkldalkbaaGreatDoor
open Go.Proofs Go.IntWalk
variable {σ : Out} {w : World} {L L' : List Chunk} {R : Ending → World → Prop}

def methB (P : Program) (t : TypeId) (name : String) (f : FuncId) : Bool :=
 match P.info? t, P.underlying t with
 | some i, some (.pointer _) => match i.methods.find? (·.name == name) with
  | some m => m.path.isEmpty && (match m.func with | some (g, true) => Nat.beq g f | _ => false)
  | none => false
 | _, _ => false
theorem methB_run {P : Program} {t : TypeId} {name : String} {f : FuncId} (h : methB P t name f = true) (q : Option Addr) (fuel : Nat) (w : World) :
 (Go.method (fuel + 1) t (.pointer q) name).run P w = .ok (f, .pointer q) w := by
 unfold methB at h
 split at h
 ·rename_i i e hi hu
  split at h
  ·rename_i m hm
   simp only [Bool.and_eq_true] at h
   obtain ⟨hp, h⟩ := h
   split at h
   ·rename_i g hf
    have hg := Nat.eq_of_beq_eq_true h
    subst hg
    have hp' : m.path = #[] := by simpa using hp
    simp [Go.method, typeInfo, hi, hm, hp', Go.follow, hf, Go.receiverAt, run_underlying hu, Go.Place.get]
   ·cases h
  ·cases h
 ·cases h
theorem depth_succ (P : Program) : ∃ n, P.types.size + Made.depth = n + 1 := by
 have h : 0 < Made.depth := by decide
 exact ⟨P.types.size + (Made.depth - 1), by omega⟩
theorem enter_meth {t : TypeId} {name : String} {f : FuncId} {q : Option Addr} {args : Array Value} (hm : methB P t name f = true) (h : callE P f (#[.pointer q] ++ args) R w) :
 enterE P (callMethod (.iface t (.pointer q)) name args) R w := by
 obtain ⟨n, hn⟩ := depth_succ P
 have hr := methB_run hm q n w
 have e : (callMethod (.iface t (.pointer q)) name args).run P w = (callFunc f (#[.pointer q] ++ args)).run P w := by
  simp only [callMethod, Sem.run_bind, run_program, Result.andThen_ok, hn, hr]
 unfold enterE
 rw [e]
 exact h.imp (fun h => ⟨f, _, w, h.1 _ _, h.2⟩) id
theorem Sat.same {σ' : Out} {w w' : World} {L L' : List Chunk} (h : Sat σ w L) (h' : Sat σ' w' L') {b i : Nat} {o : Obj} (hm : (b, o) ∈ L) (hm' : (b, o) ∈ L') (n : Nat) : SameC w w' ⟨b, i, none⟩ n := by
 intro k _
 rw [Addr.add_lit]
 unfold World.cell?
 rw [h.at_ _ hm, h'.at_ _ hm']
theorem meth_pos : methB P ty_P_parseState "pub-paratext/pub/rscmarkdown.pos" i_parseState_pos = true := by kernel_rfl
theorem meth_blocks : methB P ty_P_parseState "pub-paratext/pub/rscmarkdown.blocks" i_parseState_blocks = true := by kernel_rfl
theorem meth_rootBuild : methB P ty_P_rootBuilder "pub-paratext/pub/rscmarkdown.build" i_rootBuilder_build = true := by kernel_rfl
end Go.Proofs.YtgbgadkldalkbaaGreatDoor


set_option linter.unusedVariables false
namespace Go.Proofs.YtgbgadkldalkbaaGreatDoor
open Go.Proofs Go.IntWalk
variable {σ : Out} {w : World} {L L' : List Chunk} {R : Ending → World → Prop}

def isSTN (c : UInt8) : Bool := c == 32 || c == 9 || c == 10
def pastSTN (l : List UInt8) (i : Nat) : Nat := l.length - ((l.drop i).dropWhile isSTN).length
theorem skipSp_ok {l : List UInt8} {i : Nat} (hl : l.length < 4611686018427387904) (hi : i ≤ l.length) (hR : R (.returned (.int .i64 (pastSTN l i))) w) : callE P i_skipSpace #[.string (bs l), .int .i64 i] R w := by
 refine g_skipSpace.sound ?_
 intro X hX
 refine scanF (l := l) (X := fun i => X (bs l) (i : Int) w) (p := isSTN) (fun i hi hp hx => hX _ _ _ ?_) i hi (fun j hj hf he => hX _ _ _ ?_)
 ·refine ⟨fun _ => ⟨by omega, by simp; omega⟩, fun _ => ⟨by omega, by simp; omega⟩, fun _ => ⟨by omega, by simp; omega⟩, br_true ?_ ?_⟩
  ·rw [bt_beq hi 32 32 rfl, bt_beq hi 9 9 rfl, bt_beq hi 10 10 rfl]
   simpa [hi, isSTN] using hp
  ·rw [i64_inc (by omega)]; exact hx
 ·have hlt : ∀ {b : Bool}, (decide ((j : Int) < ((bs l).size : Int)) && b) = true → j < l.length := by
   intro b h
   simp only [Bool.and_eq_true, decide_eq_true_eq, bs_size] at h
   omega
  refine ⟨fun h => ⟨by omega, by simpa using h⟩, fun h => ⟨by omega, by have := hlt h; simp; omega⟩, fun h => ⟨by omega, by have := hlt h; simp; omega⟩, br_false ?_ ?_⟩
  ·by_cases hi' : j < l.length
   ·rw [bt_beq hi' 32 32 rfl, bt_beq hi' 9 9 rfl, bt_beq hi' 10 10 rfl]
    simpa [hi', isSTN] using hf hi'
   ·simp [hi']
  ·have : pastSTN l i = j := by
    rw [pastSTN, ← he, List.length_drop]; omega
   rw [← this]; exact hR

theorem ta_yes1 {t xt : TypeId} {v : Value} (hu : ∀ ms, P.underlying t ≠ some (.interface ms)) {d : TypeDesc} (hd : P.underlying t = some d) (w : World) :
 (Instr.typeAssert (.iface t v) xt t false).run P w = .ok v w := by
 cases d <;> first | (exact absurd hd (hu _)) | simp [Instr.typeAssert, run_underlying hd]
theorem und_ps : P.underlying ty_P_parseState = some (.pointer ty_parseState) := by kernel_rfl
theorem ta_ps (q : Option Addr) (w : World) : (Instr.typeAssert (.iface ty_P_parseState (.pointer q)) ty_buildState ty_P_parseState false).run P w = .ok (.pointer q) w :=
 ta_yes1 (by rw [und_ps]; intro ms h; cases h) und_ps w

end Go.Proofs.YtgbgadkldalkbaaGreatDoor


set_option linter.unusedVariables false
namespace Go.Proofs.YtgbgadkldalkbaaGreatDoor
open Go.Proofs Go.IntWalk
variable {σ : Out} {w : World} {L L' : List Chunk} {R : Ending → World → Prop}

theorem pos_ok {b : Nat} {p : PS} {l : List OB} {o : OB} {M : List Chunk} (h : Sat σ w (p.at b :: M ++ L)) (hs : Stk p (l ++ [o]) M)
 (hR : ∀ w, Sat σ w (p.at b :: M ++ L) → R (.returned (.agg #[.int .i64 o.s, .int .i64 o.e])) w) : callE P i_parseState_pos #[.pointer (some ⟨b, 0, none⟩)] R w := by
 obtain ⟨sb, sp, hq, rfl, hsp⟩ := hs.split (by simp)
 have hn := hs.2.1
 have hlt := hs.2.2
 rw [List.length_append, List.length_singleton] at hn hlt
 refine g_parseState_pos.sound ?_
 refine Sat.bx h fun b1 w h => ?_
 repeat (first | refine nilP_some ?_ | refine h.tk fun w h => ?_ | refine ⟨_, h.ldA, ?_⟩ | refine ⟨_, _, _, h.ldA, ?_⟩)
 rw [hn, len_dec (by omega)]
 refine ⟨by omega, by omega, ?_⟩
 rw [hq]
 refine nilP_some ?_
 simp only [Addr.add_lit, Nat.zero_add, Int.toNat_natCast, Nat.add_zero]
 refine ⟨_, Sat.ld h (by first | assumption | (repeat (first | exact .head _ | apply List.Mem.tail))) (stk_get (f := 2) (by decide) (last_get o)), ?_⟩
 refine ⟨_, Sat.ld h (by first | assumption | (repeat (first | exact .head _ | apply List.Mem.tail))) (stk_get (f := 3) (by decide) (last_get o)), ?_⟩
 repeat (first | refine nilP_some ?_ | refine h.tk fun w h => ?_ | refine ⟨_, h.ldA, ?_⟩ | refine ⟨_, _, _, h.ldA, ?_⟩ | refine h.stA 0 fun w h => ?_ | refine h.stA 1 fun w h => ?_ | refine h.stA 2 fun w h => ?_ | refine h.stA 3 fun w h => ?_ | refine h.stA 4 fun w h => ?_ | refine h.stA 5 fun w h => ?_ | refine h.stA 6 fun w h => ?_ | refine h.bx fun b0 w h => ?_)
 exact hR _ h.tail

def Txts (p : PS) (ts : List Nat) (M : List Chunk) : Prop := Sl 1 ty_P_Text p.tq p.tn p.tc (ts.map fun t => .pointer (some ⟨t, 0, none⟩)) M ∧ p.tn = ts.length ∧ ts.length < 1048576
def textC (t : Nat) (s e : Nat) (q : Option Addr) (n c : Nat) (raw : List UInt8) : Chunk := (t, cel [.int .i64 s, .int .i64 e, .slice q n c, .string (bs raw)] ty_Text)
end Go.Proofs.YtgbgadkldalkbaaGreatDoor


set_option linter.unusedVariables false
namespace Go.Proofs.YtgbgadkldalkbaaGreatDoor
open Go.Proofs Go.IntWalk
variable {σ : Out} {w : World} {L L' : List Chunk} {R : Ending → World → Prop}

theorem Stk.of {p p' : PS} {l : List OB} {M : List Chunk} (h : Stk p l M) (h1 : p'.stq = p.stq) (h2 : p'.stn = p.stn) (h3 : p'.stc = p.stc) : Stk p' l M := by
 unfold Stk at *; rw [h1, h2, h3]; exact h
theorem Txts.of {p p' : PS} {l : List Nat} {M : List Chunk} (h : Txts p l M) (h1 : p'.tq = p.tq) (h2 : p'.tn = p.tn) (h3 : p'.tc = p.tc) : Txts p' l M := by
 unfold Txts at *; rw [h1, h2, h3]; exact h
end Go.Proofs.YtgbgadkldalkbaaGreatDoor


set_option linter.unusedVariables false
namespace Go.Proofs.YtgbgadkldalkbaaGreatDoor
open Go.Proofs Go.IntWalk
variable {σ : Out} {w : World} {L L' : List Chunk} {R : Ending → World → Prop}

theorem equalIn_iface_nil {t u : TypeId} {v : Value} {ms : Array (String × TypeId)} (hu : P.underlying t = some (.interface ms)) (d : Nat) (w : World) :
 (Op.equalIn (d + 1) t (.iface u v) .nilIface).run P w = .ok false w := by
 simp [Op.equalIn, run_underlying hu]
theorem eq_iface_nil {t u : TypeId} {v : Value} {ms : Array (String × TypeId)} (hu : P.underlying t = some (.interface ms)) (x y : Operand) (w : World) :
 (do eqGuard .eql t x y (.iface u v) .nilIface; binOp .eql t (.iface u v) .nilIface).run P w = .ok (.bool false) w :=
 bin_eq rfl rfl (equalIn_iface_nil hu 9999 w)
theorem ta_list_no {t : TypeId} {v : Value} (ht : t ≠ ty_P_List) (w : World) :
 (Instr.typeAssert (.iface t v) ty_Block ty_P_List true).run P w = .ok (.tuple #[.pointer none, .bool false]) w := by
 have hund : P.underlying ty_P_List = some (.pointer ty_List) := by kernel_rfl
 exact ta_no (by rw [hund]; intro ms h; cases h) hund ht (i := (P.info? ty_P_List).getD default) (by kernel_rfl) (by kernel_rfl) w
theorem sliceTo {P : Program} {t e : TypeId} {i : TypeInfo} (ht : P.underlying t = some (.slice e)) (hi : P.info? e = some i) (b n c m : Nat) (hm : m ≤ n) (hc : n ≤ c) (w : World) :
 (Instr.sliceAt t (.slice (some ⟨b, 0, none⟩) n c) none (some (.int .i64 m)) none).run P w = .ok (.slice (some ⟨b, 0, none⟩) m c) w := by
 have h1 : ¬ ((m : Int) < 0) := by omega
 have h2 : ¬ ((c : Int) < (m : Int)) := by omega
 simp [Instr.sliceAt, Instr.slice, Instr.sliceBounds, run_underlying ht, sizeOf, typeInfo, hi, run_sliceBound w .i64 (m : Int) c .sliceAcap (by omega) (by omega), Addr.add_lit]
end Go.Proofs.YtgbgadkldalkbaaGreatDoor


set_option linter.unusedVariables false
namespace Go.Proofs.YtgbgadkldalkbaaGreatDoor
open Go.Proofs Go.IntWalk
variable {σ : Out} {w : World} {L L' : List Chunk} {R : Ending → World → Prop}

noncomputable def rowBlock : Row P ty_S_Block ty_Block 1 16 :=
 ⟨(P.info? ty_Block).getD default, ((P.info? ty_Block).bind (·.zero)).getD default, by kernel_rfl, by kernel_rfl, by kernel_rfl, by kernel_rfl, by kernel_rfl, by kernel_rfl, by decide⟩
theorem closeBlock_ok {b : Nat} {p : PS} {ob : List OB} {par o : OB} {M IM : List Chunk} {inner : List Value} {t : TypeId} {v : Value} (Post : PS → List Chunk → TypeId → Option Addr → Prop)
 (h : Sat σ w (p.at b :: M ++ (IM ++ L))) (hs : Stk p (ob ++ [par] ++ [o]) M) (ho : o.bd = .iface t v) (hI : Sl 1 ty_Block par.q par.n par.c inner IM) (hin : par.n < 1000000)
 (hb : ∀ (R' : Ending → World → Prop) w, Sat σ w (p.at b :: M ++ (IM ++ L)) →
  (∀ w p1 L1 tb q, p1.stq = p.stq → p1.stn = p.stn → p1.stc = p.stc → tb ≠ ty_P_List → Post p1 L1 tb q → Sat σ w (p1.at b :: M ++ (IM ++ L1)) → R' (.returned (.iface tb (.pointer q))) w) →
  enterE P (callMethod o.bd "pub-paratext/pub/rscmarkdown.build" #[.iface ty_P_parseState (.pointer (some ⟨b, 0, none⟩))]) R' w)
 (hR : ∀ w p2 M2 IM2 p1 L1 tb q q' c', Post p1 L1 tb q → p2 = { p1 with stn := ob.length + 1 } → Stk p2 (ob ++ [{ par with q := q', n := par.n + 1, c := c' }]) M2 →
  Sl 1 ty_Block q' (par.n + 1) c' (inner ++ [.iface tb (.pointer q)]) IM2 → Sat σ w (p2.at b :: M2 ++ (IM2 ++ L1)) → R (.returned (.iface tb (.pointer q))) w) :
 callE P i_parseState_closeBlock #[.pointer (some ⟨b, 0, none⟩)] R w := by
 have hlt := hs.2.2
 have hn := hs.2.1
 obtain ⟨sb, sp, hq, rfl, hsp⟩ := hs.split (by simp)
 simp only [List.length_append, List.length_singleton] at hn hlt
 refine g_parseState_closeBlock.sound ?_
 refine h.tk fun w h => ?_
 refine nilP_some (nilP_some ?_)
 refine ⟨_, _, _, h.ldA, ?_⟩
 refine ⟨_, _, _, h.ldA, ?_⟩
 rw [hn, len_dec (by omega)]
 refine ⟨by omega, by omega, ?_⟩
 rw [hq]
 refine nilP_some ?_
 simp only [Addr.add_lit, Nat.zero_add, Int.toNat_natCast]
 have hg : ((ob ++ [par]) ++ [o])[ob.length + 1]? = some o := by simp
 refine ⟨o.bd, Sat.ld h (.tail _ (.head _)) (stk_get (f := 0) (by decide) hg), false, w, by rw [ho]; exact eq_iface_nil und_bb _ _ w, br_false rfl ?_⟩
 refine nilP_some ?_
 refine ⟨o.bd, Sat.ld h (.tail _ (.head _)) (stk_get (f := 0) (by decide) hg), ?_⟩
 refine hb _ w h fun w p1 L1 tb q h1 h2 h3 htb hpost h => ⟨_, rfl, none, false, w, ta_list_no htb w, br_false rfl ?_⟩
 have hq1 : p1.stq = some ⟨sb, 0, none⟩ := by rw [h1, hq]
 have hn1 : p1.stn = ob.length + 1 + 1 := by rw [h2, hn]
 refine h.tk fun w h => ?_
 refine nilP_some (nilP_some ?_)
 refine ⟨_, _, _, h.ldA, ?_⟩
 refine ⟨_, _, _, h.ldA, ?_⟩
 rw [hn1, len_dec (by omega), hq1]
 have hcap : ob.length + 1 + 1 ≤ p1.stc := by have := hs.1.2.1; rw [hn] at this; rw [h3]; exact this
 refine ⟨_, _, _, fun w => sliceTo rowOB.ht rowOB.hi sb (ob.length + 1 + 1) p1.stc (ob.length + 1) (by omega) hcap w, ?_⟩
 refine nilP_some ?_
 refine h.stA 0 fun w h => ?_
 let p2 : PS := { p1 with stq := some ⟨sb, 0, none⟩, stn := ob.length + 1 }
 have hp2 : p2 = { p1 with stn := ob.length + 1 } := by simp only [p2, ← hq1]
 have h : Sat σ w (p2.at b :: [(sb, cel (obCells (ob ++ [par]) ++ (o.cells ++ sp)) ty_openBlock)] ++ (IM ++ L1)) := by
  rw [obCells_snoc, List.append_assoc] at h
  exact h
 refine nilP_some ?_
 refine ⟨_, _, _, h.ldA, ?_⟩
 refine br_true (by simp [p2]) ?_
 refine h.tk fun w h => ?_
 refine nilP_some (nilP_some ?_)
 refine ⟨_, _, _, h.ldA, ?_⟩
 refine ⟨_, _, _, h.ldA, ?_⟩
 rw [show p2.stn = ob.length + 1 from rfl, len_dec (by omega), show p2.stq = some ⟨sb, 0, none⟩ from rfl]
 refine ⟨by omega, by omega, nilP_some ?_⟩
 simp only [Addr.add_lit, Nat.zero_add, Int.toNat_natCast, Nat.add_zero]
 refine ⟨_, _, _, Sat.ld h (.tail _ (.head _)) (stk_get (f := 1) (by decide) (last_get par)), ?_⟩
 have h : Sat σ _ (IM ++ (p2.at b :: (sb, cel (obCells (ob ++ [par]) ++ (o.cells ++ sp)) ty_openBlock) :: L1)) := h.re
 refine Sat.app1 rowBlock hI h (v := .iface tb (.pointer q)) rfl (by simp [Value.cells, Value.oneCell']) (by kernel_rfl) (by omega) (by omega) (by decide) fun q' c' w IM2 hI' h => ?_
 have h : Sat σ _ (p2.at b :: (sb, cel (obCells (ob ++ [par]) ++ (o.cells ++ sp)) ty_openBlock) :: (IM2 ++ L1)) := h.re
 refine Sat.st h (k := 1) rfl (by rw [List.length_append, obCells_length, List.length_append, List.length_singleton]; omega) trivial rfl fun w h => ?_
 have e := stk_set (l := ob) (sp := o.cells ++ sp) (o := par) (o' := { par with q := q', n := par.n + 1, c := c' }) (f := 1) (v := .slice q' (par.n + 1) c') (by decide) rfl
 have h : Sat σ w (p2.at b :: (sb, cel (obCells (ob ++ [{ par with q := q', n := par.n + 1, c := c' }]) ++ (o.cells ++ sp)) ty_openBlock) :: (IM2 ++ L1)) := by
  rw [← e]; exact h
 have hs2 : Stk p2 (ob ++ [{ par with q := q', n := par.n + 1, c := c' }]) [(sb, cel (obCells (ob ++ [{ par with q := q', n := par.n + 1, c := c' }]) ++ (o.cells ++ sp)) ty_openBlock)] := by
  refine Stk.mk' rfl ?_ (by simp [p2]) (by simp; omega)
  show _ = p1.stc * 4
  rw [h3, ← hsp]
  simp only [List.length_append, obCells_length, List.length_singleton, OB.cells, List.length_cons, List.length_nil]
  omega
 refine hR w p2 _ IM2 p1 L1 tb q q' c' hpost hp2 hs2 hI' h
end Go.Proofs.YtgbgadkldalkbaaGreatDoor

