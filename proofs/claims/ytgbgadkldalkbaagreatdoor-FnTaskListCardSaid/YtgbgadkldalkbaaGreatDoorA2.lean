/- Part 2 of the proof of the law FnTaskList: for every input the law returns true, the inputs read as they did, and memory that was there is as it was; under the conditions of the given row alone. -/
import Derived.Deep.AppendSrc
import Derived.Great.BuildSlice
import Derived.Lib.UnsafeStr
import Derived.Lib.BufferWrite
import Derived.Lib.BufferRead
import Derived.Laws.IdiomStrings
import Derived.Laws.MakeOwn
import Derived.Laws.Slices
import Derived.Shelf.Bytes.GrowSlice
import Derived.Laws.Externs
import Derived.Lib.Bytealg
import Derived.Lib.MakeNoZero
import Derived.Lib.Builder
import Derived.Test.YtgbgadkldalkbaaGreatDoorA1
set_option linter.all false
set_option linter.unusedVariables false
set_option maxRecDepth 20000
namespace Go.Proofs.YtgbgadkldalkbaaGreatDoor
open Go.Proofs
namespace g_strings_Builder_String
noncomputable def body : Code := bodyOf Tryz.f84
end g_strings_Builder_String
def g_strings_Builder_String (R : EP) (x0 : OA) (w : World) : Prop :=
 tk w fun w1 =>
 nilP x0 fun a2 =>
 nilP x0 fun a3 =>
 ∃ (v4q : OA), ∃ (v4n : Nat), ∃ (v4c : Nat), w1.cell? (a2.add 1) = some (.slice v4q v4n v4c) ∧
 ∃ (v5q : OA), ∃ (v5n : Nat), ∃ (v5c : Nat), w1.cell? (a3.add 1) = some (.slice v5q v5n v5c) ∧
 ∃ (r6 : OA), ∃ w7, (Builtin.unsafeSliceData_ #[ty_S_uint8] ty_P_uint8 #[.slice v4q v4n v4c]).run P w1 = .ok (.pointer r6) w7 ∧
 SameC w1 w7 (a3.add 1) 1 ∧
 ∃ (r8 : BA), ∃ w9, (Builtin.unsafeString_ #[ty_P_uint8, ty_int] ty_string #[.pointer r6, .int .i64 (v5n : Int)]).run P w7 = .ok (.string r8) w9 ∧
 R (.returned (.string r8)) w9

namespace g_strings_Builder_String
noncomputable def ac (R : EP) : AC :=
 (.seq (.leaf (sel [0] body)) (.seq (.draw (.pure 0 (.pure 1 (.pure 2 (.pure 5 (.pure 6 (.pure 7 (.load 3 (.load 8 (.pure 9 (.one 4 (.one 10 (.pure 11 .done)))))))))))) (sel [1,0] body)) (.leaf (sel [1,1] body))))
theorem good (R : EP) : Good P 14 (ac R) (QF P [.tmp 2] R) :=
 ⟨trivial, ⟨⟨by kernel_rfl, by kernel_rfl, fun _ _ _ h => h⟩, trivial⟩⟩
theorem eq (R : EP) (x0 : OA) (w : World) : g_strings_Builder_String R x0 w = vcA P 14 (ac R) (QF P [.tmp 2] R) (fr0 [.pointer x0]) w := by kernel_rfl
theorem sound {R : EP} {x0 : OA} {w : World} (h : g_strings_Builder_String R x0 w) : callE P i_strings_Builder_String #[.pointer x0] R w :=
 callE_fz (c := body) Tryz.func84 Tryz.call84 (good R) (eq R x0 w) h
end g_strings_Builder_String
namespace g_strings_Builder_WriteByte
noncomputable def body : Code := bodyOf Tryz.f83
end g_strings_Builder_WriteByte
def g_strings_Builder_WriteByte (R : EP) (x0 : OA) (x1 : Int) (w : World) : Prop :=
 callE P i_strings_Builder_copyCheck #[.pointer x0] (fun e w2 => e = .returned (.tuple #[]) ∧
 nilP x0 fun a3 =>
 ∃ (v4q : OA), ∃ (v4n : Nat), ∃ (v4c : Nat), w2.cell? (a3.add 1) = some (.slice v4q v4n v4c) ∧
 ∃ (r5q : OA), ∃ (r5n : Nat), ∃ (r5c : Nat), ∃ w6, (Instr.buildSlice ty_S_uint8 1 #[(0, .int .u8 x1)]).run P w2 = .ok (.slice r5q r5n r5c) w6 ∧
 ∃ (r7q : OA), ∃ (r7n : Nat), ∃ (r7c : Nat), ∃ w8, (Builtin.append_ #[ty_S_uint8, ty_S_uint8] ty_S_uint8 #[.slice v4q v4n v4c, .slice r5q r5n r5c]).run P w6 = .ok (.slice r7q r7n r7c) w8 ∧
 nilP x0 fun a9 =>
 stV w8 ((a9.add 1).add 0) (.slice r7q r7n r7c) fun w10 =>
 R (.returned .nilIface) w10) w

namespace g_strings_Builder_WriteByte
noncomputable def ac (R : EP) : AC :=
 (.leaf (sel [] body))
theorem good (R : EP) : Good P 17 (ac R) (QF P [.tmp 4] R) :=
 trivial
theorem eq (R : EP) (x0 : OA) (x1 : Int) (w : World) : g_strings_Builder_WriteByte R x0 x1 w = vcA P 17 (ac R) (QF P [.tmp 4] R) (fr0 [.pointer x0, .int .u8 x1]) w := by kernel_rfl
theorem sound {R : EP} {x0 : OA} {x1 : Int} {w : World} (h : g_strings_Builder_WriteByte R x0 x1 w) : callE P i_strings_Builder_WriteByte #[.pointer x0, .int .u8 x1] R w :=
 callE_fz (c := body) Tryz.func83 Tryz.call83 (good R) (eq R x0 x1 w) h
end g_strings_Builder_WriteByte
namespace g_strings_Builder_WriteString
noncomputable def body : Code := bodyOf Tryz.f82
end g_strings_Builder_WriteString
def g_strings_Builder_WriteString (R : EP) (x0 : OA) (x1 : BA) (w : World) : Prop :=
 callE P i_strings_Builder_copyCheck #[.pointer x0] (fun e w2 => e = .returned (.tuple #[]) ∧
 nilP x0 fun a3 =>
 ∃ (v4q : OA), ∃ (v4n : Nat), ∃ (v4c : Nat), w2.cell? (a3.add 1) = some (.slice v4q v4n v4c) ∧
 ∃ (r5q : OA), ∃ (r5n : Nat), ∃ (r5c : Nat), ∃ w6, (Builtin.append_ #[ty_S_uint8, ty_string] ty_S_uint8 #[.slice v4q v4n v4c, .string x1]).run P w2 = .ok (.slice r5q r5n r5c) w6 ∧
 nilP x0 fun a7 =>
 stV w6 ((a7.add 1).add 0) (.slice r5q r5n r5c) fun w8 =>
 R (.returned (.tuple #[.int .i64 (x1.size : Int), .nilIface])) w8) w

namespace g_strings_Builder_WriteString
noncomputable def ac (R : EP) : AC :=
 (.leaf (sel [] body))
theorem good (R : EP) : Good P 19 (ac R) (QF P [.tmp 4, .tmp 5] R) :=
 trivial
theorem eq (R : EP) (x0 : OA) (x1 : BA) (w : World) : g_strings_Builder_WriteString R x0 x1 w = vcA P 19 (ac R) (QF P [.tmp 4, .tmp 5] R) (fr0 [.pointer x0, .string x1]) w := by kernel_rfl
theorem sound {R : EP} {x0 : OA} {x1 : ByteArray} {w : World} (h : g_strings_Builder_WriteString R x0 x1 w) : callE P i_strings_Builder_WriteString #[.pointer x0, .string x1] R w :=
 callE_fz (c := body) Tryz.func82 Tryz.call82 (good R) (eq R x0 x1 w) h
end g_strings_Builder_WriteString
namespace g_strings_Builder_copyCheck
noncomputable def body : Code := bodyOf Tryz.f122
end g_strings_Builder_copyCheck
def g_strings_Builder_copyCheck (R : EP) (x0 : OA) (w : World) : Prop :=
 nilP x0 fun a1 =>
 ∃ (v2 : OA), w.cell? a1 = some (.pointer v2) ∧
 ∃ (r3 : Bool), ∃ w4, (do eqGuard .eql ty_P_strings_Builder (.tmp 5) (.const (.pointer none)) (.pointer v2) (.pointer none); binOp .eql ty_P_strings_Builder (.pointer v2) (.pointer none)).run P w = .ok (.bool r3) w4 ∧
 br r3
 (∃ (r5 : OA), ∃ w6, (convert ty_P_strings_Builder ty_unsafe_Pointer (.pointer x0)).run P w4 = .ok (.pointer r5) w6 ∧
 callE P i_internal_abi_NoEscape #[.pointer r5] (fun e w8 => ∃ (r7 : OA), e = .returned (.pointer r7) ∧
 ∃ (r9 : OA), ∃ w10, (convert ty_unsafe_Pointer ty_P_strings_Builder (.pointer r7)).run P w8 = .ok (.pointer r9) w10 ∧
 nilP x0 fun a11 =>
 stV w10 (a11.add 0) (.pointer r9) fun w12 =>
 R (.returned (.tuple #[])) w12) w6)
 (nilP x0 fun a13 =>
 ∃ (v14 : OA), w4.cell? a13 = some (.pointer v14) ∧
 ∃ (r15 : Bool), ∃ w16, (do eqGuard .neq ty_P_strings_Builder (.tmp 17) (.tmp 18) (.pointer v14) (.pointer x0); binOp .neq ty_P_strings_Builder (.pointer v14) (.pointer x0)).run P w4 = .ok (.bool r15) w16 ∧
 br r15
 (False)
 (R (.returned (.tuple #[])) w16))

namespace g_strings_Builder_copyCheck
noncomputable def ac (R : EP) : AC :=
 (.leaf (sel [] body))
theorem good (R : EP) : Good P 20 (ac R) (QF P [] R) :=
 trivial
theorem eq (R : EP) (x0 : OA) (w : World) : g_strings_Builder_copyCheck R x0 w = vcA P 20 (ac R) (QF P [] R) (fr0 [.pointer x0]) w := by kernel_rfl
theorem sound {R : EP} {x0 : OA} {w : World} (h : g_strings_Builder_copyCheck R x0 w) : callE P i_strings_Builder_copyCheck #[.pointer x0] R w :=
 callE_fz (c := body) Tryz.func122 Tryz.call122 (good R) (eq R x0 w) h
end g_strings_Builder_copyCheck
namespace g_bytes_Buffer_String
noncomputable def body : Code := bodyOf Tryz.f44
end g_bytes_Buffer_String
def g_bytes_Buffer_String (R : EP) (x0 : OA) (w : World) : Prop :=
 ∃ (r1 : Bool), ∃ w2, (do eqGuard .eql ty_P_bytes_Buffer (.tmp 3) (.const (.pointer none)) (.pointer x0) (.pointer none); binOp .eql ty_P_bytes_Buffer (.pointer x0) (.pointer none)).run P w = .ok (.bool r1) w2 ∧
 br r1
 (R (.returned (.string (ByteArray.mk #[60, 110, 105, 108, 62]))) w2)
 (tk w2 fun w3 =>
 nilP x0 fun a4 =>
 nilP x0 fun a5 =>
 ∃ (v6q : OA), ∃ (v6n : Nat), ∃ (v6c : Nat), w3.cell? a4 = some (.slice v6q v6n v6c) ∧
 ∃ (v7 : Int), w3.cell? (a5.add 1) = some (.int .i64 v7) ∧
 ∃ (r8q : OA), ∃ (r8n : Nat), ∃ (r8c : Nat), (∀ w, (Instr.sliceAt ty_S_uint8 (.slice v6q v6n v6c) (some (.int .i64 v7)) none none).run P w = .ok (.slice r8q r8n r8c) w) ∧
 ∃ (r9 : BA), ∃ w10, (convert ty_S_uint8 ty_string (.slice r8q r8n r8c)).run P w3 = .ok (.string r9) w10 ∧
 R (.returned (.string r9)) w10)

namespace g_bytes_Buffer_String
noncomputable def ac (R : EP) : AC :=
 (.seq (.leaf (sel [0] body)) (.seq (.leaf (sel [1,0] body)) (.seq (.draw (.pure 0 (.pure 1 (.pure 2 (.pure 4 (.pure 5 (.pure 6 (.load 3 (.load 7 (.pure 8 (.one 9 (.pure 10 .done))))))))))) (sel [1,1,0] body)) (.leaf (sel [1,1,1] body)))))
theorem good (R : EP) : Good P 15 (ac R) (QF P [.tmp 2] R) :=
 ⟨trivial, ⟨trivial, ⟨⟨by kernel_rfl, by kernel_rfl, fun _ _ _ h => h⟩, trivial⟩⟩⟩
theorem eq (R : EP) (x0 : OA) (w : World) : g_bytes_Buffer_String R x0 w = vcA P 15 (ac R) (QF P [.tmp 2] R) (fr0 [.pointer x0]) w := by kernel_rfl
theorem sound {R : EP} {x0 : OA} {w : World} (h : g_bytes_Buffer_String R x0 w) : callE P i_bytes_Buffer_String #[.pointer x0] R w :=
 callE_fz (c := body) Tryz.func44 Tryz.call44 (good R) (eq R x0 w) h
end g_bytes_Buffer_String
namespace g_bytes_Buffer_WriteByte
noncomputable def body : Code := bodyOf Tryz.f305
def k1 (R : EP) (x0 : OA) (x1 x5 : Int) (w : World) : Prop :=
 nilP x0 fun a7 =>
 ∃ (v8q : OA), ∃ (v8n : Nat), ∃ (v8c : Nat), w.cell? a7 = some (.slice v8q v8n v8c) ∧
 0 ≤ x5 ∧ x5 < (v8n : Int) ∧
 nilP v8q fun a9 =>
 stV w ((a9.add (Int.toNat x5 * 1)).add 0) (.int .u8 x1) fun w10 =>
 R (.returned .nilIface) w10

end g_bytes_Buffer_WriteByte
def g_bytes_Buffer_WriteByte (R : EP) (x0 : OA) (x1 : Int) (w : World) : Prop :=
 nilP x0 fun a1 =>
 stV w ((a1.add 2).add 0) (.int .i8 0) fun w2 =>
 callE P i_bytes_Buffer_tryGrowByReslice #[.pointer x0, .int .i64 1] (fun e w4 => ∃ (r3_0 : Int), ∃ (r3_1 : Bool), e = .returned (.tuple #[.int .i64 r3_0, .bool r3_1]) ∧
 br (!r3_1)
 (callE P i_bytes_Buffer_grow #[.pointer x0, .int .i64 1] (fun e w6 => ∃ (r5 : Int), e = .returned (.int .i64 r5) ∧
 g_bytes_Buffer_WriteByte.k1 R x0 x1 r5 w6) w4)
 (g_bytes_Buffer_WriteByte.k1 R x0 x1 r3_0 w4)) w2

namespace g_bytes_Buffer_WriteByte
noncomputable def ac (R : EP) : AC :=
 (.seq (.leaf (sel [0] body)) (.seq (.leaf (sel [1,0] body)) (.seq (.leaf (sel [1,1,0] body)) (.seq (.leaf (sel [1,1,1,0] body)) (.mark (leaf [(0, .s .ptr), (1, .s (.int .u8)), (5, .s (.int .i64))] (k1 R)) (.leaf (sel [1,1,1,1] body)))))))
theorem good (R : EP) : Good P 26 (ac R) (QF P [.tmp 4] R) :=
 ⟨trivial, ⟨trivial, ⟨trivial, ⟨trivial, ⟨trivial, cutZ⟩⟩⟩⟩⟩
theorem eq (R : EP) (x0 : OA) (x1 : Int) (w : World) : g_bytes_Buffer_WriteByte R x0 x1 w = vcA P 26 (ac R) (QF P [.tmp 4] R) (fr0 [.pointer x0, .int .u8 x1]) w := by kernel_rfl
theorem sound {R : EP} {x0 : OA} {x1 : Int} {w : World} (h : g_bytes_Buffer_WriteByte R x0 x1 w) : callE P i_bytes_Buffer_WriteByte #[.pointer x0, .int .u8 x1] R w :=
 callE_fz (c := body) Tryz.func305 Tryz.call305 (good R) (eq R x0 x1 w) h
end g_bytes_Buffer_WriteByte
namespace g_bytes_Buffer_WriteString
noncomputable def body : Code := bodyOf Tryz.f296
def k1 (R : EP) (x0 : OA) (x1 : BA) (x6 : Int) (w : World) : Prop :=
 nilP x0 fun a7 =>
 ∃ (v8q : OA), ∃ (v8n : Nat), ∃ (v8c : Nat), w.cell? a7 = some (.slice v8q v8n v8c) ∧
 ∃ (r9q : OA), ∃ (r9n : Nat), ∃ (r9c : Nat), ∃ w10, (Instr.sliceAt ty_S_uint8 (.slice v8q v8n v8c) (some (.int .i64 x6)) none none).run P w = .ok (.slice r9q r9n r9c) w10 ∧
 ∃ (r11 : Int), ∃ w12, (Builtin.copy_ #[ty_S_uint8, ty_string] ty_int #[.slice r9q r9n r9c, .string x1]).run P w10 = .ok (.int .i64 r11) w12 ∧
 R (.returned (.tuple #[.int .i64 r11, .nilIface])) w12

end g_bytes_Buffer_WriteString
def g_bytes_Buffer_WriteString (R : EP) (x0 : OA) (x1 : BA) (w : World) : Prop :=
 nilP x0 fun a1 =>
 stV w ((a1.add 2).add 0) (.int .i8 0) fun w2 =>
 callE P i_bytes_Buffer_tryGrowByReslice #[.pointer x0, .int .i64 (x1.size : Int)] (fun e w4 => ∃ (r3_0 : Int), ∃ (r3_1 : Bool), e = .returned (.tuple #[.int .i64 r3_0, .bool r3_1]) ∧
 br (!r3_1)
 (callE P i_bytes_Buffer_grow #[.pointer x0, .int .i64 (x1.size : Int)] (fun e w6 => ∃ (r5 : Int), e = .returned (.int .i64 r5) ∧
 g_bytes_Buffer_WriteString.k1 R x0 x1 r5 w6) w4)
 (g_bytes_Buffer_WriteString.k1 R x0 x1 r3_0 w4)) w2

namespace g_bytes_Buffer_WriteString
noncomputable def ac (R : EP) : AC :=
 (.seq (.leaf (sel [0] body)) (.seq (.leaf (sel [1,0] body)) (.seq (.leaf (sel [1,1,0] body)) (.seq (.leaf (sel [1,1,1,0] body)) (.mark (leaf [(0, .s .ptr), (1, .s .str), (6, .s (.int .i64))] (k1 R)) (.leaf (sel [1,1,1,1] body)))))))
theorem good (R : EP) : Good P 32 (ac R) (QF P [.tmp 4, .tmp 5] R) :=
 ⟨trivial, ⟨trivial, ⟨trivial, ⟨trivial, ⟨trivial, cutZ⟩⟩⟩⟩⟩
theorem eq (R : EP) (x0 : OA) (x1 : BA) (w : World) : g_bytes_Buffer_WriteString R x0 x1 w = vcA P 32 (ac R) (QF P [.tmp 4, .tmp 5] R) (fr0 [.pointer x0, .string x1]) w := by kernel_rfl
theorem sound {R : EP} {x0 : OA} {x1 : ByteArray} {w : World} (h : g_bytes_Buffer_WriteString R x0 x1 w) : callE P i_bytes_Buffer_WriteString #[.pointer x0, .string x1] R w :=
 callE_fz (c := body) Tryz.func296 Tryz.call296 (good R) (eq R x0 x1 w) h
end g_bytes_Buffer_WriteString
namespace g_bytes_Buffer_grow
noncomputable def body : Code := bodyOf Tryz.f301
def k3 (R : EP) (x0 : OA) (x1 x5 : Int) (w : World) : Prop :=
 nilP x0 fun a44 =>
 stV w ((a44.add 1).add 0) (.int .i64 0) fun w45 =>
 nilP x0 fun a46 =>
 ∃ (v47q : OA), ∃ (v47n : Nat), ∃ (v47c : Nat), w45.cell? a46 = some (.slice v47q v47n v47c) ∧
 ∃ (r48q : OA), ∃ (r48n : Nat), ∃ (r48c : Nat), ∃ w49, (Instr.sliceAt ty_S_uint8 (.slice v47q v47n v47c) none (some (.int .i64 (IntKind.i64.wrap (x5 + x1)))) none).run P w45 = .ok (.slice r48q r48n r48c) w49 ∧
 nilP x0 fun a50 =>
 stV w49 (a50.add 0) (.slice r48q r48n r48c) fun w51 =>
 R (.returned (.int .i64 x5)) w51

def k2 (R : EP) (x0 : OA) (x1 x5 : Int) (x38 : Bool) (w : World) : Prop :=
 br x38
 (∃ (r13q : OA), ∃ (r13n : Nat), ∃ (r13c : Nat), ∃ w14, (Instr.makeSlice ty_S_uint8 (.int .i64 x1) (.int .i64 64)).run P w = .ok (.slice r13q r13n r13c) w14 ∧
 nilP x0 fun a15 =>
 stV w14 (a15.add 0) (.slice r13q r13n r13c) fun w16 =>
 R (.returned (.int .i64 0)) w16)
 (nilP x0 fun a17 =>
 ∃ (v18q : OA), ∃ (v18n : Nat), ∃ (v18c : Nat), w.cell? a17 = some (.slice v18q v18n v18c) ∧
 ∃ (r19 : Int), ∃ w20, (Builtin.cap_ #[ty_S_uint8] ty_int #[.slice v18q v18n v18c]).run P w = .ok (.int .i64 r19) w20 ∧
 (2 : Int) ≠ 0 ∧
 br (decide (x1 ≤ (IntKind.i64.wrap ((IntKind.i64.wrap (Int.tdiv r19 2)) - x5))))
 (tk w20 fun w21 =>
 nilP x0 fun a22 =>
 nilP x0 fun a23 =>
 nilP x0 fun a24 =>
 ∃ (v25q : OA), ∃ (v25n : Nat), ∃ (v25c : Nat), w21.cell? a22 = some (.slice v25q v25n v25c) ∧
 ∃ (v26q : OA), ∃ (v26n : Nat), ∃ (v26c : Nat), w21.cell? a23 = some (.slice v26q v26n v26c) ∧
 ∃ (v27 : Int), w21.cell? (a24.add 1) = some (.int .i64 v27) ∧
 ∃ (r28q : OA), ∃ (r28n : Nat), ∃ (r28c : Nat), (∀ w, (Instr.sliceAt ty_S_uint8 (.slice v26q v26n v26c) (some (.int .i64 v27)) none none).run P w = .ok (.slice r28q r28n r28c) w) ∧
 ∃ (r29 : Int), ∃ w30, (Builtin.copy_ #[ty_S_uint8, ty_S_uint8] ty_int #[.slice v25q v25n v25c, .slice r28q r28n r28c]).run P w21 = .ok (.int .i64 r29) w30 ∧
 k3 R x0 x1 x5 w30)
 (br (decide (r19 > (IntKind.i64.wrap ((IntKind.i64.wrap (9223372036854775807 - r19)) - x1))))
 (∃ (v31 : Value), w20.cell? ⟨9, 0, none⟩ = some v31 ∧
 False)
 (tk w20 fun w32 =>
 nilP x0 fun a33 =>
 nilP x0 fun a34 =>
 nilP x0 fun a35 =>
 ∃ (v36q : OA), ∃ (v36n : Nat), ∃ (v36c : Nat), w32.cell? a33 = some (.slice v36q v36n v36c) ∧
 ∃ (v37 : Int), w32.cell? (a34.add 1) = some (.int .i64 v37) ∧
 ∃ (r38q : OA), ∃ (r38n : Nat), ∃ (r38c : Nat), (∀ w, (Instr.sliceAt ty_S_uint8 (.slice v36q v36n v36c) (some (.int .i64 v37)) none none).run P w = .ok (.slice r38q r38n r38c) w) ∧
 ∃ (v39 : Int), w32.cell? (a35.add 1) = some (.int .i64 v39) ∧
 callE P i_bytes_growSlice #[.slice r38q r38n r38c, .int .i64 (IntKind.i64.wrap (v39 + x1))] (fun e w41 => ∃ (r40q : OA), ∃ (r40n : Nat), ∃ (r40c : Nat), e = .returned (.slice r40q r40n r40c) ∧
 nilP x0 fun a42 =>
 stV w41 (a42.add 0) (.slice r40q r40n r40c) fun w43 =>
 k3 R x0 x1 x5 w43) w32)))

def k1 (R : EP) (x0 : OA) (x1 x5 : Int) (w : World) : Prop :=
 callE P i_bytes_Buffer_tryGrowByReslice #[.pointer x0, .int .i64 x1] (fun e w8 => ∃ (r7_0 : Int), ∃ (r7_1 : Bool), e = .returned (.tuple #[.int .i64 r7_0, .bool r7_1]) ∧
 br r7_1
 (R (.returned (.int .i64 r7_0)) w8)
 (nilP x0 fun a9 =>
 ∃ (v10q : OA), ∃ (v10n : Nat), ∃ (v10c : Nat), w8.cell? a9 = some (.slice v10q v10n v10c) ∧
 ∃ (r11 : Bool), ∃ w12, (do eqGuard .eql ty_S_uint8 (.tmp 33) (.const (.slice none 0 0)) (.slice v10q v10n v10c) (.slice none 0 0); binOp .eql ty_S_uint8 (.slice v10q v10n v10c) (.slice none 0 0)).run P w8 = .ok (.bool r11) w12 ∧
 k2 R x0 x1 x5 (r11 && (decide (x1 ≤ 64))) w12)) w

end g_bytes_Buffer_grow
def g_bytes_Buffer_grow (R : EP) (x0 : OA) (x1 : Int) (w : World) : Prop :=
 callE P i_bytes_Buffer_Len #[.pointer x0] (fun e w2 => ∃ (r1 : Int), e = .returned (.int .i64 r1) ∧
 br (r1 == 0)
 (nilP x0 fun a3 =>
 ∃ (v4 : Int), w2.cell? (a3.add 1) = some (.int .i64 v4) ∧
 br (v4 != 0)
 (callE P i_bytes_Buffer_Reset #[.pointer x0] (fun e w6 => e = .returned (.tuple #[]) ∧
 g_bytes_Buffer_grow.k1 R x0 x1 r1 w6) w2)
 (g_bytes_Buffer_grow.k1 R x0 x1 r1 w2))
 (g_bytes_Buffer_grow.k1 R x0 x1 r1 w2)) w

namespace g_bytes_Buffer_grow
noncomputable def ac (R : EP) : AC :=
 (.seq (.leaf (sel [0] body)) (.seq (.leaf (sel [1,0] body)) (.seq (.leaf (sel [1,1,0] body)) (.mark (leaf [(0, .s .ptr), (1, .s (.int .i64)), (5, .s (.int .i64))] (k1 R)) (.seq (.leaf (sel [1,1,1,0] body)) (.seq (.seq (.leaf (sel [1,1,1,1,0,0] body)) (.mark (leaf [(0, .s .ptr), (1, .s (.int .i64)), (5, .s (.int .i64)), (38, .s .bool)] (k2 R)) (.leaf (sel [1,1,1,1,0,1] body)))) (.seq (.leaf (sel [1,1,1,1,1,0] body)) (.seq (.seq (.leaf (sel [1,1,1,1,1,1,0,0] body)) (.cond 54 (.draw (.pure 0 (.pure 1 (.pure 2 (.pure 4 (.pure 5 (.pure 6 (.pure 8 (.pure 9 (.pure 10 (.load 3 (.load 7 (.load 11 (.pure 12 (.one 13 .done)))))))))))))) (sel [1,1,1,1,1,1,0,1,0] body)) (.seq (.leaf (sel [1,1,1,1,1,1,0,1,1,0] body)) (.cond 74 (.leaf (sel [1,1,1,1,1,1,0,1,1,1,0] body)) (.draw (.pure 0 (.pure 1 (.pure 2 (.pure 3 (.pure 5 (.pure 6 (.pure 7 (.pure 10 (.pure 11 (.pure 12 (.pure 14 (.load 4 (.load 8 (.pure 9 (.load 13 (.pure 15 (.one 16 (.pure 17 (.pure 18 (.one 19 .done)))))))))))))))))))) (sel [1,1,1,1,1,1,0,1,1,1,1] body)))))) (.mark (leaf [(0, .s .ptr), (1, .s (.int .i64)), (5, .s (.int .i64))] (k3 R)) (.leaf (sel [1,1,1,1,1,1,1] body)))))))))))
theorem good (R : EP) : Good P 110 (ac R) (QF P [.tmp 4] R) :=
 ⟨trivial, ⟨trivial, ⟨trivial, ⟨⟨trivial, ⟨⟨trivial, ⟨trivial, cutZ⟩⟩, ⟨trivial, ⟨⟨trivial, ⟨⟨by kernel_rfl, by kernel_rfl, fun _ _ _ h => h⟩, ⟨trivial, ⟨trivial, ⟨by kernel_rfl, by kernel_rfl, fun _ _ _ h => h⟩⟩⟩⟩⟩, ⟨trivial, cutZ⟩⟩⟩⟩⟩, cutZ⟩⟩⟩⟩
theorem eq (R : EP) (x0 : OA) (x1 : Int) (w : World) : g_bytes_Buffer_grow R x0 x1 w = vcA P 110 (ac R) (QF P [.tmp 4] R) (fr0 [.pointer x0, .int .i64 x1]) w := by kernel_rfl
theorem sound {R : EP} {x0 : OA} {x1 : Int} {w : World} (h : g_bytes_Buffer_grow R x0 x1 w) : callE P i_bytes_Buffer_grow #[.pointer x0, .int .i64 x1] R w :=
 callE_fz (c := body) Tryz.func301 Tryz.call301 (good R) (eq R x0 x1 w) h
end g_bytes_Buffer_grow
namespace g_internal_stringslite_IndexByte
noncomputable def body : Code := bodyOf Tryz.f50
end g_internal_stringslite_IndexByte
def g_internal_stringslite_IndexByte (R : EP) (x0 : BA) (x1 : Int) (w : World) : Prop :=
 callE P i_internal_bytealg_IndexByteString #[.string x0, .int .u8 x1] (fun e w2 => ∃ (r1 : Int), e = .returned (.int .i64 r1) ∧
 R (.returned (.int .i64 r1)) w2) w

namespace g_internal_stringslite_IndexByte
noncomputable def ac (R : EP) : AC :=
 (.leaf (sel [] body))
theorem good (R : EP) : Good P 8 (ac R) (QF P [.tmp 4] R) :=
 trivial
theorem eq (R : EP) (x0 : BA) (x1 : Int) (w : World) : g_internal_stringslite_IndexByte R x0 x1 w = vcA P 8 (ac R) (QF P [.tmp 4] R) (fr0 [.string x0, .int .u8 x1]) w := by kernel_rfl
theorem sound {R : EP} {x0 : ByteArray} {x1 : Int} {w : World} (h : g_internal_stringslite_IndexByte R x0 x1 w) : callE P i_internal_stringslite_IndexByte #[.string x0, .int .u8 x1] R w :=
 callE_fz (c := body) Tryz.func50 Tryz.call50 (good R) (eq R x0 x1 w) h
end g_internal_stringslite_IndexByte
namespace g_strings_IndexByte
noncomputable def body : Code := bodyOf Tryz.f33
end g_strings_IndexByte
def g_strings_IndexByte (R : EP) (x0 : BA) (x1 : Int) (w : World) : Prop :=
 callE P i_internal_stringslite_IndexByte #[.string x0, .int .u8 x1] (fun e w2 => ∃ (r1 : Int), e = .returned (.int .i64 r1) ∧
 R (.returned (.int .i64 r1)) w2) w

namespace g_strings_IndexByte
noncomputable def ac (R : EP) : AC :=
 (.leaf (sel [] body))
theorem good (R : EP) : Good P 8 (ac R) (QF P [.tmp 4] R) :=
 trivial
theorem eq (R : EP) (x0 : BA) (x1 : Int) (w : World) : g_strings_IndexByte R x0 x1 w = vcA P 8 (ac R) (QF P [.tmp 4] R) (fr0 [.string x0, .int .u8 x1]) w := by kernel_rfl
theorem sound {R : EP} {x0 : ByteArray} {x1 : Int} {w : World} (h : g_strings_IndexByte R x0 x1 w) : callE P i_strings_IndexByte #[.string x0, .int .u8 x1] R w :=
 callE_fz (c := body) Tryz.func33 Tryz.call33 (good R) (eq R x0 x1 w) h
end g_strings_IndexByte
namespace g_bytes_Buffer_Len
noncomputable def body : Code := bodyOf Tryz.f303
end g_bytes_Buffer_Len
def g_bytes_Buffer_Len (R : EP) (x0 : OA) (w : World) : Prop :=
 tk w fun w1 =>
 nilP x0 fun a2 =>
 nilP x0 fun a3 =>
 ∃ (v4q : OA), ∃ (v4n : Nat), ∃ (v4c : Nat), w1.cell? a2 = some (.slice v4q v4n v4c) ∧
 ∃ (v5 : Int), w1.cell? (a3.add 1) = some (.int .i64 v5) ∧
 R (.returned (.int .i64 (IntKind.i64.wrap ((v4n : Int) - v5)))) w1

namespace g_bytes_Buffer_Len
noncomputable def ac (R : EP) : AC :=
 (.seq (.leaf (sel [0] body)) (.seq (.draw (.pure 0 (.pure 1 (.pure 2 (.pure 5 (.pure 6 (.pure 7 (.load 3 (.pure 4 (.load 8 (.pure 9 (.pure 10 .done))))))))))) (sel [1,0] body)) (.leaf (sel [1,1] body))))
theorem good (R : EP) : Good P 13 (ac R) (QF P [.tmp 2] R) :=
 ⟨trivial, ⟨⟨by kernel_rfl, by kernel_rfl, fun _ _ _ h => h⟩, trivial⟩⟩
theorem eq (R : EP) (x0 : OA) (w : World) : g_bytes_Buffer_Len R x0 w = vcA P 13 (ac R) (QF P [.tmp 2] R) (fr0 [.pointer x0]) w := by kernel_rfl
theorem sound {R : EP} {x0 : OA} {w : World} (h : g_bytes_Buffer_Len R x0 w) : callE P i_bytes_Buffer_Len #[.pointer x0] R w :=
 callE_fz (c := body) Tryz.func303 Tryz.call303 (good R) (eq R x0 w) h
end g_bytes_Buffer_Len
namespace g_bytes_Buffer_tryGrowByReslice
noncomputable def body : Code := bodyOf Tryz.f300
end g_bytes_Buffer_tryGrowByReslice
def g_bytes_Buffer_tryGrowByReslice (R : EP) (x0 : OA) (x1 : Int) (w : World) : Prop :=
 nilP x0 fun a1 =>
 ∃ (v2q : OA), ∃ (v2n : Nat), ∃ (v2c : Nat), w.cell? a1 = some (.slice v2q v2n v2c) ∧
 nilP x0 fun a3 =>
 ∃ (v4q : OA), ∃ (v4n : Nat), ∃ (v4c : Nat), w.cell? a3 = some (.slice v4q v4n v4c) ∧
 ∃ (r5 : Int), ∃ w6, (Builtin.cap_ #[ty_S_uint8] ty_int #[.slice v4q v4n v4c]).run P w = .ok (.int .i64 r5) w6 ∧
 br (decide (x1 ≤ (IntKind.i64.wrap (r5 - (v2n : Int)))))
 (nilP x0 fun a7 =>
 ∃ (v8q : OA), ∃ (v8n : Nat), ∃ (v8c : Nat), w6.cell? a7 = some (.slice v8q v8n v8c) ∧
 ∃ (r9q : OA), ∃ (r9n : Nat), ∃ (r9c : Nat), ∃ w10, (Instr.sliceAt ty_S_uint8 (.slice v8q v8n v8c) none (some (.int .i64 (IntKind.i64.wrap ((v2n : Int) + x1)))) none).run P w6 = .ok (.slice r9q r9n r9c) w10 ∧
 nilP x0 fun a11 =>
 stV w10 (a11.add 0) (.slice r9q r9n r9c) fun w12 =>
 R (.returned (.tuple #[.int .i64 (v2n : Int), .bool true])) w12)
 (R (.returned (.tuple #[.int .i64 0, .bool false])) w6)

namespace g_bytes_Buffer_tryGrowByReslice
noncomputable def ac (R : EP) : AC :=
 (.leaf (sel [] body))
theorem good (R : EP) : Good P 33 (ac R) (QF P [.tmp 4, .tmp 5] R) :=
 trivial
theorem eq (R : EP) (x0 : OA) (x1 : Int) (w : World) : g_bytes_Buffer_tryGrowByReslice R x0 x1 w = vcA P 33 (ac R) (QF P [.tmp 4, .tmp 5] R) (fr0 [.pointer x0, .int .i64 x1]) w := by kernel_rfl
theorem sound {R : EP} {x0 : OA} {x1 : Int} {w : World} (h : g_bytes_Buffer_tryGrowByReslice R x0 x1 w) : callE P i_bytes_Buffer_tryGrowByReslice #[.pointer x0, .int .i64 x1] R w :=
 callE_fz (c := body) Tryz.func300 Tryz.call300 (good R) (eq R x0 x1 w) h
end g_bytes_Buffer_tryGrowByReslice
end Go.Proofs.YtgbgadkldalkbaaGreatDoor

set_option linter.unusedVariables false
namespace Go.Proofs.YtgbgadkldalkbaaGreatDoor
open Go.IntWalk
variable {P : Program} {σ : Out} {w : World} {L L' : List Chunk} {R : Ending → World → Prop}

def Sl (sz : Nat) (e : TypeId) (q : Option Addr) (n c : Nat) (vs : List Value) (M : List Chunk) : Prop :=
 vs.length = n * sz ∧ n ≤ c ∧ ((q = none ∧ n = 0 ∧ c = 0 ∧ M = []) ∨ ∃ b sp, q = some ⟨b, 0, none⟩ ∧ M = [(b, cel (vs ++ sp) e)] ∧ (vs ++ sp).length = c * sz)
theorem Sl.nil (sz : Nat) (e : TypeId) : Sl sz e none 0 0 [] [] := ⟨by simp, Nat.le_refl _, .inl ⟨rfl, rfl, rfl, rfl⟩⟩

structure Row (P : Program) (t e : TypeId) (sz bytes : Nat) where
 i : TypeInfo
 z : Value
 ht : P.underlying t = some (.slice e)
 hi : P.info? e = some i
 hz : i.zero = some z
 hs : i.size = sz
 hb : i.bytes = bytes
 hc : z.cells.size = sz
 pos : 0 < sz

theorem setCells_sat {b : Nat} {cs : List Value} {e : TypeId} (h : Sat σ w ((b, cel cs e) :: L)) : ∀ (o : Nat) (vs : List Value), o + vs.length ≤ cs.length →
 Sat σ (w.setCells b o vs) ((b, cel (cs.take o ++ vs ++ cs.drop (o + vs.length)) e) :: L) := by
 intro o vs
 induction vs generalizing o w cs with
 | nil => intro _; simpa [World.setCells] using h
 | cons v vs ih =>
  intro hl
  simp only [List.length_cons] at hl
  have h1 := h.set (k := 0) (i := o) v rfl
  have h2 := ih (w := w.setCell ⟨b, o, none⟩ v) (cs := cs.set o v) h1 (o + 1) (by simp; omega)
  simp only [World.setCells]
  have e1 : (cs.set o v).take (o + 1) = cs.take o ++ [v] := by
   rw [List.take_set, List.take_succ_eq_append_getElem (by omega), List.set_append_right _ _ (by simp; omega)]
   simp
   rw [show o - min o cs.length = 0 by omega]
   rfl
  have e2 : (cs.set o v).drop (o + 1 + vs.length) = cs.drop (o + (vs.length + 1)) := by
   rw [List.drop_set_of_lt (by omega)]
   congr 1
   omega
  rw [e1, e2] at h2
  simpa using h2

theorem Addr.add_zero_lit (b j : Nat) : Addr.add ⟨b, 0, none⟩ j = ⟨b, j, none⟩ := by
 simp [Addr.add]
 omega
theorem firstCells_sl {sz : Nat} {e : TypeId} {q : Option Addr} {n c : Nat} {vs : List Value} {M : List Chunk} (hS : Sl sz e q n c vs M) (h : Sat σ w (M ++ L)) :
 (Builtin.firstCells sz n (.slice q n c)).run P w = .ok vs.toArray w := by
 obtain ⟨hl, hnc, h1 | ⟨b, sp, h1, h2, h3⟩⟩ := hS
 ·obtain ⟨rfl, rfl, rfl, rfl⟩ := h1
  have : vs = [] := List.eq_nil_of_length_eq_zero (by simpa using hl)
  subst this
  exact run_firstCells_none w sz 0 0 0
 ·subst h1; subst h2
  refine run_firstCells_some w sz n _ n c vs hl fun j u hu => ?_
  rw [show (Addr.add ⟨b, 0, none⟩ j) = ⟨b, j, none⟩ from Addr.add_zero_lit b j]
  refine h.ld (List.mem_cons_self ..) ?_
  rw [List.getElem?_append_left (List.getElem?_eq_some_iff.1 hu).1]
  exact hu

theorem Sat.app {t tx ty e : TypeId} {sz bytes : Nat} (r : Row P t e sz bytes) {q : Option Addr} {n c : Nat} {vs : List Value} {M : List Chunk} (hS : Sl sz e q n c vs M)
 (h : Sat σ w (M ++ L)) {x : Value} {m : Nat} {news : List Value} (hs : Src P sz tx x m news w) (hm : 0 < m ∨ q ≠ none) (hb : (n + m) * bytes ≤ 140737488355328) (hn : n + m < 4611686018427387904) :
 ∃ q' c' w' M', (Builtin.append_ #[t, tx] ty #[.slice q n c, x]).run P w = .ok (.slice q' (n + m) c') w' ∧ Sl sz e q' (n + m) c' (vs ++ news) M' ∧ Sat σ w' (M' ++ L) ∧ q' ≠ none ∧ c ≤ c' := by
 have hfc := firstCells_sl (P := P) hS h.drew
 obtain ⟨hl, hnc, hS⟩ := hS
 obtain ⟨i, z, ht, hi, hz, hsi, hby, hzc, hpos⟩ := r
 subst hsi
 have hnl := hs.newsLen
 by_cases hroom : n + m ≤ c
 ·rcases hS with ⟨rfl, rfl, rfl, rfl⟩ | ⟨b, sp, rfl, rfl, h3⟩
  ·exact absurd hm (by simp; omega)
  ·simp only [List.length_append] at h3
   have hle : (n + m) * i.size ≤ c * i.size := Nat.mul_le_mul_right _ hroom
   rw [Nat.add_mul] at hle
   have hlen : n * i.size + news.length ≤ (vs ++ sp).length := by rw [List.length_append, hnl]; omega
   refine ⟨_, _, _, [(b, cel (vs ++ news ++ sp.drop news.length) e)], run_append_room_src w t tx ty e i ht hi b 0 n c x m news hs hroom ?_ ?_, ⟨?_, hroom, .inr ⟨b, sp.drop news.length, rfl, rfl, ?_⟩⟩, ?_, by simp, Nat.le_refl _⟩
   ·intro j hj
    rw [Nat.zero_add, h.ld (List.mem_cons_self ..) (List.getElem?_eq_getElem (by omega))]
    rfl
   ·exact fun j hj => h.not_frozen (List.mem_cons_self ..)
   ·rw [List.length_append, hl, hnl, Nat.add_mul]
   ·rw [List.length_append, List.length_append, List.length_drop, hl, hnl]; omega
   ·have := setCells_sat h (n * i.size) news hlen
    rw [Nat.zero_add]
    have e1 : (vs ++ sp).take (n * i.size) = vs := by rw [← hl, List.take_left]
    have e2 : (vs ++ sp).drop (n * i.size + news.length) = sp.drop news.length := by rw [← hl, ← List.drop_drop, List.drop_left]
    rw [e1, e2] at this
    exact this
 ·have hg : c < n + m := by omega
  have hfit := growslice_fits (need := n + m) (old := c) (bytes := i.bytes) hg (by rw [hby]; exact hb)
  have hcap := grownCap_ge w (n + m) c e
  have hd : Sat σ w.drew L := h.drew.right
  refine ⟨_, _, _, [(w.heap.size, cel (vs ++ news ++ (Builtin.zeroCells z.cells (grownCap w (n + m) c e - (n + m))).toList) e)], run_append_grow_src w t tx ty e i z ht hi hz q n c vs hfc x m news hs hg (by omega) hfit,
   ⟨?_, hcap, .inr ⟨_, _, rfl, rfl, ?_⟩⟩, ?_, by simp, by omega⟩
  ·rw [List.length_append, hl, hnl, Nat.add_mul]
  ·rw [List.length_append, List.length_append, hl, hnl, Array.length_toList, size_zeroCells, hzc, ← Nat.add_mul, ← Nat.add_mul]
   congr 1
   omega
  ·have := hd.alc (vs ++ news ++ (Builtin.zeroCells z.cells (grownCap w (n + m) c e - (n + m))).toList) e
   have e3 : YtgbgadkldalkbaaGreatDoor.alc w.drew (vs ++ news ++ (Builtin.zeroCells z.cells (grownCap w (n + m) c e - (n + m))).toList).toArray e
    = w.drew.alloc (.cells ((vs ++ news).toArray ++ Builtin.zeroCells z.cells (grownCap w (n + m) c e - (n + m))) e) := by
    rw [show (vs ++ news ++ (Builtin.zeroCells z.cells (grownCap w (n + m) c e - (n + m))).toList).toArray = (vs ++ news).toArray ++ Builtin.zeroCells z.cells (grownCap w (n + m) c e - (n + m)) from by
     apply Array.ext'; simp [List.append_assoc]]
    rfl
   rw [e3] at this
   exact this

theorem Sat.app1 {t ty e : TypeId} {sz bytes : Nat} (r : Row P t e sz bytes) {q : Option Addr} {n c : Nat} {vs : List Value} {M : List Chunk} (hS : Sl sz e q n c vs M)
 (h : Sat σ w (M ++ L)) {v : Value} (hv : v.cells.size = sz) (h1 : ∀ u ∈ v.cells.toList, u.oneCell' = true)
 (hfill : Instr.fill (fun i => some (i * sz, sz)) ((Array.range (1 * sz)).map (r.z.cells[· % r.z.cells.size]!)) [(0, v)] = some v.cells)
 (hb : (n + 1) * bytes ≤ 140737488355328) (hn : n + 1 < 4611686018427387904) (hsz : sz ≤ 100) {K : Option Addr → Nat → Nat → World → Prop}
 (hK : ∀ q' c' w' M', Sl sz e q' (n + 1) c' (vs ++ v.cells.toList) M' → Sat σ w' (M' ++ L) → K q' (n + 1) c' w') :
 ∃ rq rn rc w1, (Instr.buildSlice t 1 #[(0, v)]).run P w = .ok (.slice rq rn rc) w1 ∧
  ∃ q' n' c' w2, (Builtin.append_ #[t, t] ty #[.slice q n c, .slice rq rn rc]).run P w1 = .ok (.slice q' n' c') w2 ∧ K q' n' c' w2 := by
 have hrun := run_buildSlice (P := P) w t e 1 #[(0, v)] v.cells r.i r.z r.ht r.hi r.hz (by rw [r.hs]; omega) (by rw [r.hs]; have := r.pos; omega) (by rw [r.hs]; exact hfill)
 refine ⟨_, _, _, _, hrun, ?_⟩
 have ha := h.alc v.cells.toList e
 have e3 : YtgbgadkldalkbaaGreatDoor.alc w v.cells.toList.toArray e = w.alloc (.cells v.cells e) := by rw [Array.toArray_toList]; rfl
 rw [e3] at ha
 generalize hw1 : w.alloc (.cells v.cells e) = w1 at ha ⊢
 generalize w.heap.size = nb at ha ⊢
 have hs : Src P sz t (.slice (some ⟨nb, 0, none⟩) 1 1) 1 v.cells.toList w1 := by
  refine Src.ofSlice w1 r.ht _ 1 1 _ (by simp [hv]) (fun j u hu => ?_) h1
  rw [show (Addr.add ⟨nb, 0, none⟩ j) = ⟨nb, j, none⟩ from Addr.add_zero_lit nb j]
  exact ha.ld (List.mem_cons_self ..) hu
 have ha2 : Sat σ w1 (M ++ ((nb, cel v.cells.toList e) :: L)) := ha.perm List.perm_middle.symm
 obtain ⟨q', c', w', M', hr, hS', h', _⟩ := Sat.app r (ty := ty) hS ha2 hs (.inl (by omega)) hb hn
 refine ⟨q', n + 1, c', w', hr, hK q' c' w' M' hS' ?_⟩
 exact h'.sub (List.Sublist.append_left (List.sublist_cons_self ..) _)
theorem Sat.app1S {t ty e : TypeId} {sz bytes : Nat} (r : Row P t e sz bytes) {q : Option Addr} {n c : Nat} {vs : List Value} {M : List Chunk} (hS : Sl sz e q n c vs M)
 (h : Sat σ w (M ++ L)) {v : Value} (hv : v.cells.size = sz) (h1 : ∀ u ∈ v.cells.toList, u.oneCell' = true)
 (hfill : Instr.fill (fun i => some (i * sz, sz)) ((Array.range (1 * sz)).map (r.z.cells[· % r.z.cells.size]!)) [(0, v)] = some v.cells)
 (hb : (n + 1) * bytes ≤ 140737488355328) (hn : n + 1 < 4611686018427387904) (hsz : sz ≤ 100) {K : Option Addr → Nat → Nat → World → Prop} {C : World → Prop} (hC : ∀ w1 X, Sat σ w1 (X :: (M ++ L)) → C w1)
 (hK : ∀ q' c' w' M', Sl sz e q' (n + 1) c' (vs ++ v.cells.toList) M' → Sat σ w' (M' ++ L) → K q' (n + 1) c' w') :
 ∃ rq rn rc w1, (Instr.buildSlice t 1 #[(0, v)]).run P w = .ok (.slice rq rn rc) w1 ∧ C w1 ∧
  ∃ q' n' c' w2, (Builtin.append_ #[t, t] ty #[.slice q n c, .slice rq rn rc]).run P w1 = .ok (.slice q' n' c') w2 ∧ K q' n' c' w2 := by
 have hrun := run_buildSlice (P := P) w t e 1 #[(0, v)] v.cells r.i r.z r.ht r.hi r.hz (by rw [r.hs]; omega) (by rw [r.hs]; have := r.pos; omega) (by rw [r.hs]; exact hfill)
 refine ⟨_, _, _, _, hrun, ?_⟩
 have ha := h.alc v.cells.toList e
 have e3 : YtgbgadkldalkbaaGreatDoor.alc w v.cells.toList.toArray e = w.alloc (.cells v.cells e) := by rw [Array.toArray_toList]; rfl
 rw [e3] at ha
 generalize hw1 : w.alloc (.cells v.cells e) = w1 at ha ⊢
 generalize w.heap.size = nb at ha ⊢
 have hs : Src P sz t (.slice (some ⟨nb, 0, none⟩) 1 1) 1 v.cells.toList w1 := by
  refine Src.ofSlice w1 r.ht _ 1 1 _ (by simp [hv]) (fun j u hu => ?_) h1
  rw [show (Addr.add ⟨nb, 0, none⟩ j) = ⟨nb, j, none⟩ from Addr.add_zero_lit nb j]
  exact ha.ld (List.mem_cons_self ..) hu
 have ha2 : Sat σ w1 (M ++ ((nb, cel v.cells.toList e) :: L)) := ha.perm List.perm_middle.symm
 obtain ⟨q', c', w', M', hr, hS', h', _⟩ := Sat.app r (ty := ty) hS ha2 hs (.inl (by omega)) hb hn
 refine ⟨hC _ _ ha, q', n + 1, c', w', hr, hK q' c' w' M' hS' ?_⟩
 exact h'.sub (List.Sublist.append_left (List.sublist_cons_self ..) _)
end Go.Proofs.YtgbgadkldalkbaaGreatDoor


set_option linter.unusedVariables false
namespace Go.Proofs.YtgbgadkldalkbaaGreatDoor
open Go.Proofs Go.IntWalk
variable {σ : Out} {w : World} {L L' : List Chunk} {R : Ending → World → Prop}

noncomputable def rowU8 : Row P ty_S_uint8 ty_uint8 1 1 :=
 ⟨(P.info? ty_uint8).getD default, ((P.info? ty_uint8).bind (·.zero)).getD default, by kernel_rfl, by kernel_rfl, by kernel_rfl, by kernel_rfl, by kernel_rfl, by kernel_rfl, by decide⟩
def bc (l : List UInt8) : List Value := l.map fun c => .int .u8 (c.toNat : Int)
@[simp] theorem bc_length (l : List UInt8) : (bc l).length = l.length := by simp [bc]
theorem bc_append (a b : List UInt8) : bc (a ++ b) = bc a ++ bc b := by simp [bc]
theorem bc_get {l : List UInt8} {j : Nat} (h : j < l.length) : (bc l)[j]? = some (.int .u8 (l[j].toNat : Int)) := by simp [bc, h]
theorem bc_one {l : List UInt8} : ∀ v ∈ bc l, v.oneCell' = true := by
 intro v hv
 obtain ⟨c, _, rfl⟩ := List.mem_map.1 hv
 rfl
abbrev By (q : Option Addr) (n c : Nat) (l : List UInt8) (M : List Chunk) : Prop := Sl 1 ty_uint8 q n c (bc l) M
theorem By.len {q : Option Addr} {n c : Nat} {l : List UInt8} {M : List Chunk} (h : By q n c l M) : n = l.length := by
 have := h.1
 rw [bc_length] at this
 omega
theorem By.nil : By none 0 0 [] [] := Sl.nil 1 ty_uint8

theorem byteCells_bs (s : List UInt8) : Go.byteCells (bs s) = bc s := by
 simp [Go.byteCells, bc, bs]
theorem By.appS {q : Option Addr} {n c : Nat} {l : List UInt8} {M : List Chunk} (hS : By q n c l M) (h : Sat σ w (M ++ L)) (s : List UInt8) (h0 : s ≠ [] ∨ q ≠ none) (hb : n + s.length ≤ 1099511627776)
 {K : Option Addr → Nat → Nat → World → Prop} (hK : ∀ q' c' w' M', By q' (n + s.length) c' (l ++ s) M' → Sat σ w' (M' ++ L) → q' ≠ none → c ≤ c' → K q' (n + s.length) c' w') :
 ∃ q' n' c' w', (Builtin.append_ #[ty_S_uint8, ty_string] ty_S_uint8 #[.slice q n c, .string (bs s)]).run P w = .ok (.slice q' n' c') w' ∧ K q' n' c' w' := by
 have hsrc := Src.ofString (P := P) (w := w) (tx := ty_string) (by kernel_rfl) (bs s)
 rw [bs_size, byteCells_bs] at hsrc
 have h0' : 0 < s.length ∨ q ≠ none := by
  rcases h0 with h | h
  ·exact .inl (List.length_pos_iff.2 h)
  ·exact .inr h
 obtain ⟨q', c', w', M', hr, hS', h', h1, h2⟩ := Sat.app rowU8 (ty := ty_S_uint8) hS h hsrc h0' (by omega) (by omega)
 refine ⟨q', _, c', w', hr, hK q' c' w' M' ?_ h' h1 h2⟩
 show Sl _ _ _ _ _ (bc (l ++ s)) _
 rw [bc_append]
 exact hS'
theorem By.app1 {q : Option Addr} {n c : Nat} {l : List UInt8} {M : List Chunk} (hS : By q n c l M) (h : Sat σ w (M ++ L)) (k : UInt8) (hb : n + 1 ≤ 1099511627776)
 {K : Option Addr → Nat → Nat → World → Prop} (hK : ∀ q' c' w' M', By q' (n + 1) c' (l ++ [k]) M' → Sat σ w' (M' ++ L) → K q' (n + 1) c' w') :
 ∃ rq rn rc w1, (Instr.buildSlice ty_S_uint8 1 #[(0, .int .u8 (k.toNat : Int))]).run P w = .ok (.slice rq rn rc) w1 ∧
 ∃ q' n' c' w', (Builtin.append_ #[ty_S_uint8, ty_S_uint8] ty_S_uint8 #[.slice q n c, .slice rq rn rc]).run P w1 = .ok (.slice q' n' c') w' ∧ K q' n' c' w' := by
 refine Sat.app1 rowU8 hS h (v := .int .u8 (k.toNat : Int)) rfl (by simp [Value.cells, Value.oneCell']) (by kernel_rfl) (by omega) (by omega) (by decide) fun q' c' w' M' h1 h2 => hK q' c' w' M' ?_ h2
 show Sl _ _ _ _ _ (bc (l ++ [k])) _
 rw [bc_append]
 exact h1
theorem By.str {q : Option Addr} {n c : Nat} {l : List UInt8} {M : List Chunk} (hS : By q n c l M) (h : Sat σ w (M ++ L)) :
 (convert ty_S_uint8 ty_string (.slice q n c)).run P w = .ok (.string (bs l)) w := by
 have hn := hS.len
 subst hn
 obtain ⟨_, _, ⟨rfl, hn0, rfl, rfl⟩ | ⟨b, sp, rfl, rfl, h3⟩⟩ := hS
 ·obtain rfl := List.eq_nil_of_length_eq_zero hn0
  exact Lib.run_convert_nil_bytes w _ _ ty_uint8 0 (by kernel_rfl) (by kernel_rfl) (by kernel_rfl)
 ·refine run_convert_bytes_back w _ _ ty_uint8 ⟨b, 0, none⟩ c l (by kernel_rfl) (by kernel_rfl) (by kernel_rfl) fun j hj => ?_
  rw [Addr.add_zero_lit]
  refine h.ld (.head _) ?_
  rw [List.getElem?_append_left (by rw [bc_length]; exact hj), bc_get hj]
theorem sliceLH {P : Program} {t e : TypeId} {i : TypeInfo} (ht : P.underlying t = some (.slice e)) (hi : P.info? e = some i) (a : Option Addr) (n c l m : Nat) (h1 : l ≤ m) (h2 : m ≤ c) (w : World) :
 (Instr.sliceAt t (.slice a n c) (some (.int .i64 l)) (some (.int .i64 m)) none).run P w = .ok (.slice (if c = l then a else a.map (·.add (l * i.size))) (m - l) (c - l)) w := by
 simp [Instr.sliceAt, Instr.slice, Instr.sliceBounds, run_underlying ht, sizeOf, typeInfo, hi, run_sliceBound w .i64 (m : Int) c .sliceAcap (by omega) (by omega), run_sliceBound w .i64 (l : Int) m .sliceB (by omega) (by omega)]
theorem sliceF {P : Program} {t e : TypeId} {i : TypeInfo} (ht : P.underlying t = some (.slice e)) (hi : P.info? e = some i) (a : Option Addr) (n c l : Nat) (h1 : l ≤ n) (w : World) :
 (Instr.sliceAt t (.slice a n c) (some (.int .i64 l)) none none).run P w = .ok (.slice (if c = l then a else a.map (·.add (l * i.size))) (n - l) (c - l)) w := by
 simp [Instr.sliceAt, Instr.slice, Instr.sliceBounds, run_underlying ht, sizeOf, typeInfo, hi, run_sliceBound w .i64 (l : Int) n .sliceB (by omega) (by omega)]
theorem sliceT {P : Program} {t e : TypeId} {i : TypeInfo} (ht : P.underlying t = some (.slice e)) (hi : P.info? e = some i) (a : Option Addr) (n c m : Nat) (h2 : m ≤ c) (w : World) :
 (Instr.sliceAt t (.slice a n c) none (some (.int .i64 m)) none).run P w = .ok (.slice a m c) w := by
 have e1 : ∀ a : Addr, a.add 0 = a := fun a => rfl
 simp [Instr.sliceAt, Instr.slice, Instr.sliceBounds, run_underlying ht, sizeOf, typeInfo, hi, run_sliceBound w .i64 (m : Int) c .sliceAcap (by omega) (by omega), e1]

theorem capRun {P : Program} (t ty : TypeId) (q : Option Addr) (n c : Nat) (e : TypeId) (ht : P.underlying t = some (.slice e)) (w : World) : (Builtin.cap_ #[t] ty #[.slice q n c]).run P w = .ok (.int .i64 c) w := by
 simp [Builtin.cap_, underlying, ht, goInt]
abbrev bufC (b : Nat) (q : Option Addr) (n c : Nat) (lr : Int) : Chunk := (b, cel [.slice q n c, .int .i64 0, .int .i8 lr] ty_bytes_Buffer)
def Buf (b : Nat) (l : List UInt8) (M : List Chunk) : Prop := ∃ q c lr M0, M = bufC b q l.length c lr :: M0 ∧ By q l.length c l M0 ∧ c ≤ 9223372036854775807
theorem tryGrow_ok {b : Nat} {q : Option Addr} {n c m : Nat} {lr : Int} (h : Sat σ w (bufC b q n c lr :: L)) (hnc : n ≤ c) (hc : c ≤ 9223372036854775807) (hn : n < 4611686018427387904) (hm : m < 4611686018427387904)
 (h1 : n + m ≤ c → ∀ w, Sat σ w (bufC b q (n + m) c lr :: L) → R (.returned (.tuple #[.int .i64 n, .bool true])) w)
 (h0 : c < n + m → ∀ w, Sat σ w (bufC b q n c lr :: L) → R (.returned (.tuple #[.int .i64 0, .bool false])) w) :
 callE P i_bytes_Buffer_tryGrowByReslice #[.pointer (some ⟨b, 0, none⟩), .int .i64 m] R w := by
 refine g_bytes_Buffer_tryGrowByReslice.sound ?_
 refine nilP_some ?_
 refine ⟨_, _, _, h.ldA, ?_⟩
 refine nilP_some ?_
 refine ⟨_, _, _, h.ldA, ?_⟩
 refine ⟨_, _, capRun _ _ _ _ _ _ rowU8.ht w, ?_⟩
 rw [i64_in _ (by omega)]
 by_cases hm' : n + m ≤ c
 ·refine br_true (by simp; omega) ?_
  refine nilP_some ?_
  refine ⟨_, _, _, h.ldA, ?_⟩
  rw [i64_in _ (by omega), show ((n : Int) + m) = ((n + m : Nat) : Int) by omega]
  refine ⟨_, _, _, _, sliceT rowU8.ht rowU8.hi q n c (n + m) hm' w, ?_⟩
  refine nilP_some ?_
  refine h.stA 0 fun w h => ?_
  exact h1 hm' _ h
 ·refine br_false (by simp; omega) ?_
  exact h0 (by omega) _ h
theorem bufLen_ok {b : Nat} {q : Option Addr} {n c : Nat} {lr : Int} (h : Sat σ w (bufC b q n c lr :: L)) (hn : n < 4611686018427387904) (hR : ∀ w, Sat σ w (bufC b q n c lr :: L) → R (.returned (.int .i64 n)) w) :
 callE P i_bytes_Buffer_Len #[.pointer (some ⟨b, 0, none⟩)] R w := by
 refine g_bytes_Buffer_Len.sound ?_
 refine h.tk fun w h => ?_
 refine nilP_some (nilP_some ?_)
 refine ⟨_, _, _, h.ldA, ?_⟩
 refine ⟨_, h.ldA, ?_⟩
 rw [i64_in _ (by omega), Int.sub_zero]
 exact hR _ h
end Go.Proofs.YtgbgadkldalkbaaGreatDoor


set_option linter.unusedVariables false
set_option maxRecDepth 20000
namespace Go.Proofs.YtgbgadkldalkbaaGreatDoor
open Go.Proofs
noncomputable abbrev x_internal_bytealg_IndexByteString : Func := Tryz.f77
theorem xf_internal_bytealg_IndexByteString : P.funcs[i_internal_bytealg_IndexByteString]? = some x_internal_bytealg_IndexByteString := Tryz.func77
noncomputable abbrev x_internal_abi_NoEscape : Func := Tryz.f172
theorem xf_internal_abi_NoEscape : P.funcs[i_internal_abi_NoEscape]? = some x_internal_abi_NoEscape := Tryz.func172
noncomputable abbrev x_internal_bytealg_MakeNoZero : Func := Tryz.f256
theorem xf_internal_bytealg_MakeNoZero : P.funcs[i_internal_bytealg_MakeNoZero]? = some x_internal_bytealg_MakeNoZero := Tryz.func256
theorem cf_bytes_growSlice : ∀ args w, (callFunc i_bytes_growSlice args).run P w = .ok (.enter i_bytes_growSlice args) w := Tryz.call304
end Go.Proofs.YtgbgadkldalkbaaGreatDoor


set_option linter.unusedVariables false
namespace Go.Proofs.YtgbgadkldalkbaaGreatDoor
open Go.Proofs Go.Shelf
def lays290_ren : Go.Shelf.Ren := ⟨fun | 290 => 304 | 324 => 306 | n => n, fun | 37 => 22 | 3 => 3 | 0 => 0 | 4 => 4 | 20 => 20 | 75 => 174 | 5 => 5 | 80 => 80 | 9 => 9 | n => n, fun | 14 => 9 | n => n⟩
theorem lays290 : Go.Proofs.LaysM.n290 Tryz.prog lays290_ren := {
 mixed := by kernel_rfl
 f290 := Tryz.func304.trans (congrArg some (by kernel_rfl))
 f324 := Tryz.func306.trans (congrArg some (by kernel_rfl))
 t0 := Tryz.underlying0
 a0 := Tryz.isAgg0
 z0 := Tryz.sizeOf0
 v0 := Tryz.zeroValue0
 t3 := Tryz.underlying3
 a3 := Tryz.isAgg3
 z3 := Tryz.sizeOf3
 v3 := Tryz.zeroValue3
 t4 := Tryz.underlying4
 a4 := Tryz.isAgg4
 z4 := Tryz.sizeOf4
 v4 := Tryz.zeroValue4
 t20 := Tryz.underlying20
 a20 := Tryz.isAgg20
 z20 := Tryz.sizeOf20
 v20 := Tryz.zeroValue20
 t37 := Tryz.underlying22
 a37 := Tryz.isAgg22
 z37 := Tryz.sizeOf22
 v37 := Tryz.zeroValue22
 t75 := Tryz.underlying174
 a75 := Tryz.isAgg174
 z75 := Tryz.sizeOf174
 v75 := Tryz.zeroValue174
 g14 := by kernel_rfl
 t5 := Tryz.underlying5
 a5 := Tryz.isAgg5
 z5 := Tryz.sizeOf5
 v5 := Tryz.zeroValue5
 t9 := Tryz.underlying9
 a9 := Tryz.isAgg9
 z9 := Tryz.sizeOf9
 v9 := Tryz.zeroValue9
 t80 := Tryz.underlying80
 a80 := Tryz.isAgg80
 z80 := Tryz.sizeOf80
 v80 := Tryz.zeroValue80
 i0 := by kernel_rfl
 i3 := by kernel_rfl
 i4 := by kernel_rfl
 i5 := by kernel_rfl
 i9 := by kernel_rfl
 i20 := by kernel_rfl
 i37 := by kernel_rfl
 i75 := by kernel_rfl
 i80 := by kernel_rfl
 m14 := by kernel_rfl }
end Go.Proofs.YtgbgadkldalkbaaGreatDoor


set_option linter.unusedVariables false
namespace Go.Proofs.YtgbgadkldalkbaaGreatDoor
open Go.Proofs Go.IntWalk
variable {σ : Out} {w : World} {L L' : List Chunk} {R : Ending → World → Prop}

theorem ext_of {f : FuncId} {fn : Func} {e : Array Value → Sem Value} {args : Array Value} {v : Value} {w' : World} (hf : P.funcs[f]? = some fn) (hname : (fn.name == "runtime.NumGoroutine") = false)
 (hb : fn.body.isNone = true) (hn : Extern.findNext fn = none) (he : Extern.find fn = some e) (hr : (e args).run P w = .ok v w') (h : R (.returned v) w') : callE P f args R w := by
 refine .inr ⟨v, w', ?_, h⟩
 rw [run_callFunc_extern hf hname hb hn he, hr]
 rfl
theorem noEscape_ok {x : Value} (h : R (.returned x) w) : callE P i_internal_abi_NoEscape #[x] R w :=
 ext_of (e := Extern.AbiNoEscape.same) xf_internal_abi_NoEscape (by kernel_rfl) (by kernel_rfl) (by kernel_rfl) (by kernel_rfl) rfl h
def idxB (l : List UInt8) (c : UInt8) : Int := Lib.indexByte l c
theorem indexByte_ok {l : List UInt8} {c : UInt8} (h : R (.returned (.int .i64 (idxB l c))) w) : callE P i_internal_bytealg_IndexByteString #[.string (bs l), .int .u8 (c.toNat : Int)] R w := by
 refine ext_of (e := Extern.BytealgIndexByte.indexByte) xf_internal_bytealg_IndexByteString (by kernel_rfl) (by kernel_rfl) (by kernel_rfl) (by kernel_rfl) (Lib.run_indexByteString _ _ w) ?_
 have e : ((c.toNat : Int)).toNat.toUInt8 = c := by simp
 rw [e]
 exact h
theorem indexByte2_ok {l : List UInt8} {c : UInt8} (h : R (.returned (.int .i64 (idxB l c))) w) : callE P i_strings_IndexByte #[.string (bs l), .int .u8 (c.toNat : Int)] R w := by
 refine g_strings_IndexByte.sound ?_
 refine g_internal_stringslite_IndexByte.sound ?_
 refine indexByte_ok ⟨_, rfl, ⟨_, rfl, h⟩⟩
end Go.Proofs.YtgbgadkldalkbaaGreatDoor


set_option linter.unusedVariables false
namespace Go.Proofs.YtgbgadkldalkbaaGreatDoor
open Go.Proofs
theorem bin_eql {P : Program} {t : TypeId} {a b : Value} {r : Bool} {w : World} {x y : Operand} (h1 : (eqGuard .eql t x y a b).run P w = .ok () w) (h2 : binOp .eql t a b = (do pure (.bool (← Op.equal t a b))))
 (h : (Op.equal t a b).run P w = .ok r w) : (do eqGuard .eql t x y a b; binOp .eql t a b).run P w = .ok (.bool r) w := by
 rw [h2]
 simp only [Sem.run_bind, h1, h, Result.andThen_ok]
 rfl
theorem bin_neq {P : Program} {t : TypeId} {a b : Value} {r : Bool} {w : World} {x y : Operand} (h1 : (eqGuard .neq t x y a b).run P w = .ok () w) (h2 : binOp .neq t a b = (do pure (.bool (!(← Op.equal t a b)))))
 (h : (Op.equal t a b).run P w = .ok r w) : (do eqGuard .neq t x y a b; binOp .neq t a b).run P w = .ok (.bool (!r)) w := by
 rw [h2]
 simp only [Sem.run_bind, h1, h, Result.andThen_ok]
 rfl
variable {P : Program}
theorem equal_slice_nil {t e : TypeId} (hu : P.underlying t = some (.slice e)) (q : Option Addr) (n c : Nat) (w : World) : (Op.equal t (.slice q n c) (.slice none 0 0)).run P w = .ok q.isNone w :=
 have h : ∀ d, (Op.equalIn (d + 1) t (.slice q n c) (.slice none 0 0)).run P w = .ok q.isNone w := fun d => by
  cases q <;> simp [Op.equalIn, run_underlying hu]
 h 9999
theorem eq_slice_nil {t e : TypeId} {x y : Operand} (hu : P.underlying t = some (.slice e)) (q : Option Addr) (n c : Nat) (w : World) :
 (do eqGuard .eql t x y (.slice q n c) (.slice none 0 0); binOp .eql t (.slice q n c) (.slice none 0 0)).run P w = .ok (.bool q.isNone) w :=
 bin_eql rfl rfl (equal_slice_nil hu q n c w)
theorem equal_ptr_nil {t e : TypeId} (hu : P.underlying t = some (.pointer e)) (q : Option Addr) (w : World) : (Op.equal t (.pointer q) (.pointer none)).run P w = .ok q.isNone w :=
 have h : ∀ d, (Op.equalIn (d + 1) t (.pointer q) (.pointer none)).run P w = .ok q.isNone w := fun d => by
  cases q <;> simp [Op.equalIn, run_underlying hu]
 h 9999
theorem ptrNil_eq {t e : TypeId} {x y : Operand} (hu : P.underlying t = some (.pointer e)) (q : Option Addr) (w : World) :
 (do eqGuard .eql t x y (.pointer q) (.pointer none); binOp .eql t (.pointer q) (.pointer none)).run P w = .ok (.bool q.isNone) w :=
 bin_eql rfl rfl (equal_ptr_nil hu q w)
theorem neq_ptr_nil {t e : TypeId} {x y : Operand} (hu : P.underlying t = some (.pointer e)) (q : Option Addr) (w : World) :
 (do eqGuard .neq t x y (.pointer q) (.pointer none); binOp .neq t (.pointer q) (.pointer none)).run P w = .ok (.bool (!q.isNone)) w :=
 bin_neq rfl rfl (equal_ptr_nil hu q w)
theorem equal_ptr_same {t e : TypeId} (hu : P.underlying t = some (.pointer e)) {i : TypeInfo} (hi : P.info? e = some i) (hs : i.size ≠ 0) (b : Nat) (w : World) : (Op.equal t (.pointer (some ⟨b, 0, none⟩)) (.pointer (some ⟨b, 0, none⟩))).run P w = .ok true w :=
 have h : ∀ d, (Op.equalIn (d + 1) t (.pointer (some ⟨b, 0, none⟩)) (.pointer (some ⟨b, 0, none⟩))).run P w = .ok true w := fun d => by
  simp [Op.equalIn, run_underlying hu, sizeOf, typeInfo, hi, hs, sameAddr]
 h 9999
theorem neq_ptr_same {t e : TypeId} {x y : Operand} (hu : P.underlying t = some (.pointer e)) {i : TypeInfo} (hi : P.info? e = some i) (hs : i.size ≠ 0) (b : Nat) (w : World) :
 (do eqGuard .neq t x y (.pointer (some ⟨b, 0, none⟩)) (.pointer (some ⟨b, 0, none⟩)); binOp .neq t (.pointer (some ⟨b, 0, none⟩)) (.pointer (some ⟨b, 0, none⟩))).run P w = .ok (.bool false) w :=
 bin_neq rfl rfl (equal_ptr_same hu hi hs b w)
theorem neq_func_nil {t : TypeId} {ps rs : Array TypeId} {vr : Bool} {x y : Operand} (hu : P.underlying t = some (.func ps rs vr)) (k : FuncId) (f g : Array Value) (w : World) :
 (do eqGuard .neq t x y (.func (.func k) f g) .nilFunc; binOp .neq t (.func (.func k) f g) .nilFunc).run P w = .ok (.bool true) w := by
 have h : ∀ d, (Op.equalIn (d + 1) t (.func (.func k) f g) .nilFunc).run P w = .ok false w := fun d => by
  simp [Op.equalIn, run_underlying hu]
 exact bin_neq rfl rfl (h 9999)
theorem neq_nil_nil {t : TypeId} {ps rs : Array TypeId} {vr : Bool} {x y : Operand} (hu : P.underlying t = some (.func ps rs vr)) (w : World) :
 (do eqGuard .neq t x y .nilFunc .nilFunc; binOp .neq t .nilFunc .nilFunc).run P w = .ok (.bool false) w := by
 have h : ∀ d, (Op.equalIn (d + 1) t .nilFunc .nilFunc).run P w = .ok true w := fun d => by
  simp [Op.equalIn, run_underlying hu]
 exact bin_neq rfl rfl (h 9999)
end Go.Proofs.YtgbgadkldalkbaaGreatDoor


set_option linter.unusedVariables false
namespace Go.Proofs.YtgbgadkldalkbaaGreatDoor
open Go.Proofs Go.IntWalk Go.RowKit
variable {σ : Out} {w : World} {L L' : List Chunk} {R : Ending → World → Prop}

theorem Sat.newRow (h : Sat σ w L) {w' : World} (hb : Below w.heap.size w w') {cs : Array Value} {e : TypeId} (hr : w'.heap[w.heap.size]? = some (.cells cs e)) : Sat σ w' ((w.heap.size, cel cs.toList e) :: L) := by
 refine ⟨hb.os.trans h.os, hb.output.trans h.out, ?_, ?_⟩
 ·simp only [List.map_cons, List.nodup_cons]
  refine ⟨fun hm => ?_, h.nodup⟩
  obtain ⟨c, hc, he⟩ := List.mem_map.1 hm
  exact Nat.lt_irrefl _ (he ▸ h.lt hc)
 ·intro c hc
  cases hc with
  | head => simpa [cel] using hr
  | tail _ hc =>
   rw [hb.block _ (h.lt hc)]
   exact h.at_ _ hc
theorem callE_calls {f : FuncId} {args : Array Value} (hc : ∀ args w, (callFunc f args).run P w = .ok (.enter f args) w) (h : Calls P f args w R) : callE P f args R w := .inl ⟨hc, h⟩

theorem growSlice_ok {q : Option Addr} {n c m : Nat} {l : List UInt8} {M : List Chunk} (hS : By q n c l M) (h : Sat σ w (M ++ L)) (hm : 1 ≤ m) (hcm : c < n + m) (hb : n + m ≤ 1099511627776)
 (hR : ∀ w b c' sp, n + m ≤ c' → c' ≤ 9223372036854775807 → By (some ⟨b, 0, none⟩) n c' l [(b, cel (bc l ++ sp) ty_uint8)] → Sat σ w ((b, cel (bc l ++ sp) ty_uint8) :: (M ++ L)) → R (.returned (.slice (some ⟨b, 0, none⟩) n c')) w) :
 callE P i_bytes_growSlice #[.slice q n c, .int .i64 m] R w := by
 have hn := hS.len
 have hS0 := hS
 obtain ⟨hl, hnc, ⟨rfl, rfl, rfl, rfl⟩ | ⟨b, sp, rfl, rfl, h3⟩⟩ := hS
 ·have hl0 : l = [] := List.eq_nil_of_length_eq_zero (by omega)
  subst hl0
  refine callE_calls cf_bytes_growSlice ((Any.bytes_growSlice_nil (P := P) lays290 m w hm (by omega)).mono ?_)
  rintro e w' ⟨cap2, cells, rfl, hr, hsz, hge, hle, hbl⟩
  have := h.newRow hbl hr
  have ht5 : lays290_ren.t 5 = ty_uint8 := rfl
  rw [ht5] at this
  refine hR w' _ cap2 cells.toList (by omega) (by unfold maxLen at hle; exact hle) ⟨by simp [bc], by omega, .inr ⟨_, cells.toList, rfl, rfl, ?_⟩⟩ this
  simp [bc, hsz]
 ·have hg := h.at_ _ (.head _)
  refine callE_calls cf_bytes_growSlice ((Any.bytes_growSlice_row (P := P) lays290 b n c m (bc l ++ sp).toArray w hg (by simpa using h3) hnc hm (by omega) (by omega) ?_).mono ?_)
  ·intro v hv
   rw [hn] at hv
   rw [show (bc l ++ sp).toArray.toList.take l.length = bc l from by rw [← bc_length l]; simp] at hv
   exact bc_one v hv
  ·rintro e w' ⟨cap2, cells, rfl, hr, hsz, htk, hge, hle, hbl⟩
   have htk' : cells.toList.take n = bc l := by rw [htk, hn, ← bc_length l]; simp
   have hcs : cells.toList = bc l ++ cells.toList.drop n := by rw [← htk', List.take_append_drop]
   have := h.newRow hbl hr
   rw [hcs] at this
   refine hR w' _ cap2 (cells.toList.drop n) hge (by unfold maxLen at hle; exact hle) ⟨by simp; omega, by omega, .inr ⟨_, _, rfl, rfl, ?_⟩⟩ this
   rw [← hcs, Array.length_toList]; omega
theorem By.raw {q : Option Addr} {n c : Nat} {l : List UInt8} {M : List Chunk} (h : By q n c l M) : (q = none ∧ n = 0 ∧ c = 0 ∧ M = []) ∨ ∃ b sp, q = some ⟨b, 0, none⟩ ∧ M = [(b, cel (bc l ++ sp) ty_uint8)] ∧ (bc l ++ sp).length = c := by
 obtain ⟨_, _, h | ⟨b, sp, h1, h2, h3⟩⟩ := h
 ·exact .inl h
 ·exact .inr ⟨b, sp, h1, h2, by omega⟩
theorem grow_ok {b : Nat} {q : Option Addr} {c m : Nat} {lr : Int} {l : List UInt8} {M : List Chunk} (h : Sat σ w (bufC b q l.length c lr :: (M ++ L))) (hS : By q l.length c l M) (hm : 1 ≤ m) (hcm : c < l.length + m) (hb : l.length + m ≤ 1099511627776)
 (hR : ∀ w g c' sp lr, l.length + m ≤ c' → c' ≤ 9223372036854775807 → (bc l ++ sp).length = c' → Sat σ w (bufC b (some ⟨g, 0, none⟩) (l.length + m) c' lr :: (g, cel (bc l ++ sp) ty_uint8) :: L) → R (.returned (.int .i64 l.length)) w) :
 callE P i_bytes_Buffer_grow #[.pointer (some ⟨b, 0, none⟩), .int .i64 m] R w := by
 have hnc := hS.2.1
 refine g_bytes_Buffer_grow.sound ?_
 refine bufLen_ok h (by omega) fun w h => ⟨_, rfl, ?_⟩
 have key2 : ∀ w, Sat σ w (bufC b q l.length c lr :: (M ++ L)) → 1 ≤ m → tk w fun w32 =>
  nilP (some ⟨b, 0, none⟩) fun a33 => nilP (some ⟨b, 0, none⟩) fun a34 => nilP (some ⟨b, 0, none⟩) fun a35 =>
  ∃ (v36q : Option Addr), ∃ (v36n : Nat), ∃ (v36c : Nat), w32.cell? a33 = some (.slice v36q v36n v36c) ∧
  ∃ (v37 : Int), w32.cell? (a34.add 1) = some (.int .i64 v37) ∧
  ∃ (r38q : Option Addr), ∃ (r38n : Nat), ∃ (r38c : Nat), (∀ w, (Instr.sliceAt ty_S_uint8 (.slice v36q v36n v36c) (some (.int .i64 v37)) none none).run P w = .ok (.slice r38q r38n r38c) w) ∧
  ∃ (v39 : Int), w32.cell? (a35.add 1) = some (.int .i64 v39) ∧
  callE P i_bytes_growSlice #[.slice r38q r38n r38c, .int .i64 (IntKind.i64.wrap (v39 + (m : Int)))] (fun e w41 => ∃ (r40q : Option Addr), ∃ (r40n : Nat), ∃ (r40c : Nat), e = .returned (.slice r40q r40n r40c) ∧
  nilP (some ⟨b, 0, none⟩) fun a42 => stV w41 (a42.add 0) (.slice r40q r40n r40c) fun w43 => g_bytes_Buffer_grow.k3 R (some ⟨b, 0, none⟩) m l.length w43) w32 := by
  intro w h _
  refine h.tk fun w h => ?_
  refine nilP_some (nilP_some (nilP_some ?_))
  refine ⟨_, _, _, h.ldA, ?_⟩
  refine ⟨_, h.ldA, ?_⟩
  refine ⟨_, _, _, fun w => sliceF rowU8.ht rowU8.hi q l.length c 0 (by omega) w, ?_⟩
  refine ⟨_, h.ldA, ?_⟩
  rw [Int.zero_add, i64_in _ (by omega)]
  have e0 : (if c = 0 then q else q.map (·.add (0 * rowU8.i.size))) = q := by
   rw [Nat.zero_mul]
   split
   ·rfl
   ·cases q <;> rfl
  rw [e0, Nat.sub_zero, Nat.sub_zero]
  have h : Sat σ w (M ++ (bufC b q l.length c lr :: L)) := h.re
  refine growSlice_ok hS h hm hcm hb fun w g c' sp h1 h2 h3 h => ⟨_, _, _, rfl, nilP_some ?_⟩
  have h : Sat σ w (bufC b q l.length c lr :: (g, cel (bc l ++ sp) ty_uint8) :: (M ++ L)) := h.re
  refine h.stA 0 fun w h => ?_
  refine nilP_some ?_
  refine h.stA 0 fun w h => ?_
  refine nilP_some ?_
  refine ⟨_, _, _, h.ldA, ?_⟩
  rw [i64_in _ (by omega), show ((l.length : Int) + m) = ((l.length + m : Nat) : Int) by omega]
  refine ⟨_, _, _, _, sliceT rowU8.ht rowU8.hi _ _ c' (l.length + m) h1 w, ?_⟩
  refine nilP_some ?_
  refine h.stA 0 fun w h => ?_
  have h4 : (bc l ++ sp).length = c' := by
   obtain ⟨_, _, ⟨h, _⟩ | ⟨b', sp', e1, e2, h3⟩⟩ := h3
   ·cases h
   ·simp only [List.cons.injEq, Prod.mk.injEq] at e2
    have : cel (bc l ++ sp) ty_uint8 = cel (bc l ++ sp') ty_uint8 := e2.1.2
    simp only [cel, Obj.cells.injEq, and_true] at this
    have e3 : bc l ++ sp = bc l ++ sp' := by simpa using congrArg Array.toList this
    rw [e3]; omega
  refine hR w g c' sp lr h1 h2 h4 ?_
  have h : Sat σ w (bufC b (some ⟨g, 0, none⟩) (l.length + m) c' lr :: (g, cel (bc l ++ sp) ty_uint8) :: (M ++ L)) := h
  exact h.less M
 have key : ∀ w, Sat σ w (bufC b q l.length c lr :: (M ++ L)) → g_bytes_Buffer_grow.k1 R (some ⟨b, 0, none⟩) m l.length w := by
  intro w h
  refine tryGrow_ok h hnc (by omega) (by omega) (by omega) (fun hh => absurd hh (by omega)) fun _ w h => ⟨_, _, rfl, ?_⟩
  refine br_false rfl ?_
  refine nilP_some ?_
  refine ⟨_, _, _, h.ldA, ?_⟩
  refine ⟨_, _, eq_slice_nil rowU8.ht q _ c w, ?_⟩
  rcases hS.raw with ⟨rfl, hl0, rfl, rfl⟩ | ⟨g, sp, rfl, rfl, h3⟩
  ·obtain rfl := List.eq_nil_of_length_eq_zero hl0
   by_cases h64 : m ≤ 64
   ·refine br_true (by simp; omega) ?_
    have hmk := run_makeSlice (P := P) (w := w) ty_S_uint8 ty_uint8 rowU8.i rowU8.z rowU8.ht rowU8.hi rowU8.hz .i64 .i64 (m : Int) 64 (by omega) (by omega) (by rw [rowU8.hs]; decide) (by rw [rowU8.hb]; decide) (by omega)
    refine ⟨_, _, _, _, hmk, nilP_some ?_⟩
    rw [rowU8.hs]
    have hal := h.alc (madeCells rowU8.z.cells ((64 : Int).toNat * 1)).toList ty_uint8
    rw [show YtgbgadkldalkbaaGreatDoor.alc w (madeCells rowU8.z.cells ((64 : Int).toNat * 1)).toList.toArray ty_uint8 = w.alloc (.cells (madeCells rowU8.z.cells ((64 : Int).toNat * 1)) ty_uint8) from by rw [Array.toArray_toList]; rfl] at hal
    generalize w.heap.size = g at hal ⊢
    refine Sat.st hal (k := 1) rfl (Nat.le_of_ble_eq_true rfl) trivial rfl fun w h => ?_
    refine hR w g 64 (madeCells rowU8.z.cells ((64 : Int).toNat * 1)).toList lr (by simpa using h64) (by omega) ?_ ?_
    ·show ([] ++ (madeCells rowU8.z.cells ((64 : Int).toNat * 1)).toList).length = 64
     rw [List.nil_append, Array.length_toList, size_madeCells]; decide
    ·have e : m = ([] : List UInt8).length + m := by simp
     rw [← e]
     have h : Sat σ w ((g, cel (madeCells rowU8.z.cells ((64 : Int).toNat * 1)).toList ty_uint8) :: bufC b (some ⟨g, 0, none⟩) m 64 lr :: L) := h
     exact h.up1
   ·refine br_false (by simp; omega) ?_
    refine nilP_some ?_
    refine ⟨_, _, _, h.ldA, ?_⟩
    refine ⟨_, _, capRun _ _ _ _ _ _ rowU8.ht w, by decide, ?_⟩
    refine br_false (by rw [show Int.tdiv ((0 : Nat) : Int) 2 = 0 from rfl]; simp (disch := omega) only [i64_in]; simp; omega) ?_
    refine br_false (by simp (disch := omega) only [i64_in]; simp; omega) ?_
    exact key2 w h (by omega)
  ·refine br_false (by simp) ?_
   refine nilP_some ?_
   refine ⟨_, _, _, h.ldA, ?_⟩
   refine ⟨_, _, capRun _ _ _ _ _ _ rowU8.ht w, by decide, ?_⟩
   have hd : Int.tdiv (c : Int) 2 = ((c / 2 : Nat) : Int) := by rw [Int.tdiv_eq_ediv_of_nonneg (by omega)]; omega
   rw [hd]
   refine br_false (by simp (disch := omega) only [i64_in]; simp; omega) ?_
   refine br_false (by simp (disch := omega) only [i64_in]; simp; omega) ?_
   exact key2 w h (by omega)
 refine br_split (fun h0 => ?_) (fun _ => key w h)
 refine nilP_some ?_
 refine ⟨_, h.ldA, ?_⟩
 exact br_false rfl (key w h)
theorem u8size : (P.info? ty_uint8).map (·.size) = some 1 := by kernel_rfl
theorem byS_mk {b n c : Nat} {l : List UInt8} {sp : List Value} (hn : n = l.length) (h : (bc l ++ sp).length = c) : By (some ⟨b, 0, none⟩) n c l [(b, cel (bc l ++ sp) ty_uint8)] := by
 refine ⟨by rw [bc_length]; omega, ?_, .inr ⟨b, sp, rfl, rfl, by omega⟩⟩
 rw [List.length_append, bc_length] at h
 omega
theorem Sat.row {g : Nat} {cs : List Value} {e : TypeId} (h : Sat σ w ((g, cel cs e) :: L)) (o : Nat) (vs : List Value) (hl : o + vs.length ≤ cs.length) :
 Sat σ (w.setRow g (cs.take o ++ vs ++ cs.drop (o + vs.length)).toArray) ((g, cel (cs.take o ++ vs ++ cs.drop (o + vs.length)) e) :: L) := by
 have hg := h.at_ _ (.head _)
 refine ⟨h.os, h.out, h.nodup, fun c hc => ?_⟩
 cases hc with
 | head =>
  simp only [World.setRow, Array.getElem?_modify, if_true]
  rw [show w.heap[g]? = _ from hg]
  simp [cel]
 | tail _ hc =>
  have hne : g ≠ c.1 := by
   intro h1
   have := h.nodup
   simp only [List.map_cons, List.nodup_cons] at this
   exact this.1 (by rw [h1]; exact List.mem_map.2 ⟨c, hc, rfl⟩)
  simp only [World.setRow, Array.getElem?_modify, if_neg hne]
  exact h.at_ _ (.tail _ hc)
theorem writeK_ok {b g c : Nat} {lr : Int} {l s : List UInt8} {sp : List Value} (h : Sat σ w (bufC b (some ⟨g, 0, none⟩) (l.length + s.length) c lr :: (g, cel (bc l ++ sp) ty_uint8) :: L)) (hc : (bc l ++ sp).length = c) (hle : l.length + s.length ≤ c) (hc2 : c ≤ 9223372036854775807)
 (hR : ∀ w M, Buf b (l ++ s) M → Sat σ w (M ++ L) → R (.returned (.tuple #[.int .i64 s.length, .nilIface])) w) : g_bytes_Buffer_WriteString.k1 R (some ⟨b, 0, none⟩) (bs s) l.length w := by
 refine nilP_some ?_
 refine ⟨_, _, _, h.ldA, ?_⟩
 refine ⟨_, _, _, _, sliceF rowU8.ht rowU8.hi _ (l.length + s.length) c l.length (by omega) w, ?_⟩
 have h : Sat σ w ((g, cel (bc l ++ sp) ty_uint8) :: bufC b (some ⟨g, 0, none⟩) (l.length + s.length) c lr :: L) := h.up1
 have hg := h.at_ _ (.head _)
 by_cases h0 : c = l.length
 ·have hs : s = [] := List.eq_nil_of_length_eq_zero (by omega)
  subst hs
  rw [if_pos h0]
  have hcp := Lib.run_copy_row_string (P := P) w ty_S_uint8 ty_string ty_int ty_uint8 g 0 (l.length + ([] : List UInt8).length - l.length) (c - l.length) (bs []) (bc l ++ sp).toArray ty_uint8 rowU8.ht u8size hg (by simp) (by simp)
  refine ⟨_, _, hcp, ?_⟩
  have hrow := h.row 0 [] (by simp)
  have e1 : ((bc l ++ sp).toArray.toList.take 0 ++ Lib.byteCells (bs []).data.toList ++ (bc l ++ sp).toArray.toList.drop (0 + (bs []).size)) = (bc l ++ sp).take 0 ++ [] ++ (bc l ++ sp).drop (0 + ([] : List Value).length) := by
   simp [Lib.byteCells]
  rw [e1]
  have e2 : (bc l ++ sp).take 0 ++ [] ++ (bc l ++ sp).drop (0 + ([] : List Value).length) = bc l ++ sp := by simp
  rw [e2] at hrow ⊢
  refine hR _ (bufC b (some ⟨g, 0, none⟩) (l ++ []).length c lr :: [(g, cel (bc (l ++ []) ++ sp) ty_uint8)]) ⟨_, c, lr, _, rfl, byS_mk rfl (by rw [List.append_nil]; exact hc), hc2⟩ ?_
  rw [List.append_nil]
  exact hrow.up1
 ·rw [if_neg h0]
  rw [rowU8.hs, Nat.mul_one]
  have e1 : (some (⟨g, 0, none⟩ : Addr)).map (·.add l.length) = some ⟨g, l.length, none⟩ := by simp [Addr.add_zero_lit]
  rw [e1]
  have hcp := Lib.run_copy_row_string (P := P) w ty_S_uint8 ty_string ty_int ty_uint8 g l.length (l.length + s.length - l.length) (c - l.length) (bs s) (bc l ++ sp).toArray ty_uint8 rowU8.ht u8size hg (by simp) (by simp at hc ⊢; omega)
  refine ⟨_, _, hcp, ?_⟩
  have hb : Lib.byteCells (bs s).data.toList = bc s := by simp [Lib.byteCells, bc, bs]
  rw [hb, bs_size]
  have hrow := h.row l.length (bc s) (by simp at hc ⊢; omega)
  rw [bc_length] at hrow
  have e2 : (bc l ++ sp).take l.length = bc l := by rw [← bc_length l, List.take_left]
  have e3 : (bc l ++ sp).drop (l.length + s.length) = sp.drop s.length := by
   rw [List.drop_append, List.drop_eq_nil_of_le (by rw [bc_length]; omega), bc_length, Nat.add_sub_cancel_left]; rfl
  rw [e2, e3] at hrow
  refine hR _ (bufC b (some ⟨g, 0, none⟩) (l ++ s).length c lr :: [(g, cel (bc (l ++ s) ++ sp.drop s.length) ty_uint8)]) ⟨_, c, lr, _, rfl, byS_mk rfl ?_, hc2⟩ ?_
  ·simp at hc ⊢; omega
  ·rw [List.length_append, bc_append]
   simp only [e2, e3]
   exact hrow.up1
end Go.Proofs.YtgbgadkldalkbaaGreatDoor


set_option linter.unusedVariables false
namespace Go.Proofs.YtgbgadkldalkbaaGreatDoor
open Go.Proofs Go.IntWalk Go.RowKit
variable {σ : Out} {w : World} {L L' : List Chunk} {R : Ending → World → Prop}
theorem copyNil (w : World) : (Builtin.copy_ #[ty_S_uint8, ty_string] ty_int #[.slice none 0 0, .string (bs [])]).run P w = .ok (.int .i64 0) w := by
 have h : P.underlying ty_S_uint8 = some (.slice ty_uint8) := rowU8.ht
 have h2 : P.info? ty_uint8 = some rowU8.i := rowU8.hi
 have h3 := firstCells_string (P := P) (bs []) w
 have h4 : (Builtin.lenOf (.string (bs []))).run P w = .ok 0 w := rfl
 have h5 : rowU8.i.size = 1 := rowU8.hs
 have h6 : (Builtin.firstCells 1 0 (.string (bs []))).run P w = .ok (Go.byteCells (bs [])).toArray w := h3
 simp [Builtin.copy_, run_underlying h, sizeOf, typeInfo, h2, goInt, h4, h5, h6]
theorem writeS_ok {b : Nat} {l s : List UInt8} {M : List Chunk} (hB : Buf b l M) (h : Sat σ w (M ++ L)) (hb : l.length + s.length ≤ 1099511627776)
 (hR : ∀ w M', Buf b (l ++ s) M' → Sat σ w (M' ++ L) → R (.returned (.tuple #[.int .i64 s.length, .nilIface])) w) : callE P i_bytes_Buffer_WriteString #[.pointer (some ⟨b, 0, none⟩), .string (bs s)] R w := by
 obtain ⟨q, c, lr, M0, rfl, hS, hc⟩ := hB
 have hnc := hS.2.1
 refine g_bytes_Buffer_WriteString.sound ?_
 refine nilP_some ?_
 refine h.stA 0 fun w h => ?_
 have h : Sat σ w (bufC b q l.length c 0 :: (M0 ++ L)) := h
 rw [bs_size]
 refine tryGrow_ok h hnc hc (by omega) (by omega) (fun hh w h => ⟨_, _, rfl, br_false rfl ?_⟩) (fun hh w h => ⟨_, _, rfl, br_true rfl ?_⟩)
 ·rcases hS.raw with ⟨rfl, hl0, rfl, rfl⟩ | ⟨g, sp, rfl, rfl, h3⟩
  ·obtain rfl := List.eq_nil_of_length_eq_zero hl0
   obtain rfl : s = [] := List.eq_nil_of_length_eq_zero (by simpa using hh)
   refine nilP_some ?_
   refine ⟨_, _, _, h.ldA, ?_⟩
   refine ⟨_, _, _, _, sliceF rowU8.ht rowU8.hi none 0 0 0 (by omega) w, ?_⟩
   refine ⟨_, _, copyNil w, ?_⟩
   exact hR w _ ⟨none, 0, 0, [], rfl, By.nil, by omega⟩ h
  ·exact writeK_ok h h3 hh hc fun w M' hB h => hR w M' hB h
 ·refine grow_ok h hS (by omega) hh hb fun w g c' sp lr h1 h2 h3 h => ⟨_, rfl, ?_⟩
  exact writeK_ok h h3 h1 h2 fun w M' hB h => hR w M' hB h
theorem writeB_ok {b : Nat} {l : List UInt8} {k : UInt8} {M : List Chunk} (hB : Buf b l M) (h : Sat σ w (M ++ L)) (hb : l.length + 1 ≤ 1099511627776)
 (hR : ∀ w M', Buf b (l ++ [k]) M' → Sat σ w (M' ++ L) → R (.returned .nilIface) w) : callE P i_bytes_Buffer_WriteByte #[.pointer (some ⟨b, 0, none⟩), .int .u8 (k.toNat : Int)] R w := by
 obtain ⟨q, c, lr, M0, rfl, hS, hc⟩ := hB
 have hnc := hS.2.1
 refine g_bytes_Buffer_WriteByte.sound ?_
 refine nilP_some ?_
 refine h.stA 0 fun w h => ?_
 have h : Sat σ w (bufC b q l.length c 0 :: (M0 ++ L)) := h
 have key : ∀ w g c' sp lr, l.length + 1 ≤ c' → c' ≤ 9223372036854775807 → (bc l ++ sp).length = c' → Sat σ w (bufC b (some ⟨g, 0, none⟩) (l.length + 1) c' lr :: (g, cel (bc l ++ sp) ty_uint8) :: L) →
  g_bytes_Buffer_WriteByte.k1 R (some ⟨b, 0, none⟩) (k.toNat : Int) (l.length : Int) w := by
  intro w g c' sp lr h1 h2 h3 h
  refine nilP_some ?_
  refine ⟨_, _, _, h.ldA, ?_⟩
  refine ⟨by omega, by omega, nilP_some ?_⟩
  simp only [Addr.add_lit, Int.toNat_natCast, Nat.mul_one, Nat.zero_add, Nat.add_zero]
  simp only [List.length_append, bc_length] at h3
  refine Sat.st h (k := 1) rfl (by simp; omega) trivial rfl fun w h => ?_
  have e : (bc l ++ sp).set l.length (.int .u8 (k.toNat : Int)) = bc (l ++ [k]) ++ sp.drop 1 := by
   rw [List.set_append_right _ _ (by simp), bc_length, Nat.sub_self, bc_append]
   cases sp with
   | nil => simp at h3; omega
   | cons x sp => simp [bc]
  have h : Sat σ w (bufC b (some ⟨g, 0, none⟩) (l.length + 1) c' lr :: (g, cel ((bc l ++ sp).set l.length (.int .u8 (k.toNat : Int))) ty_uint8) :: L) := h
  rw [e] at h
  refine hR w (bufC b (some ⟨g, 0, none⟩) (l ++ [k]).length c' lr :: [(g, cel (bc (l ++ [k]) ++ sp.drop 1) ty_uint8)]) ⟨_, c', lr, _, rfl, byS_mk rfl (by simp; omega), h2⟩ ?_
  rw [List.length_append]
  exact h
 refine tryGrow_ok (m := 1) h hnc hc (by omega) (by omega) (fun hh w h => ⟨_, _, rfl, br_false rfl ?_⟩) (fun hh w h => ⟨_, _, rfl, br_true rfl ?_⟩)
 ·rcases hS.raw with ⟨rfl, hl0, rfl, rfl⟩ | ⟨g, sp, rfl, rfl, h3⟩
  ·omega
  ·exact key w g c sp 0 hh hc h3 h
 ·exact grow_ok (m := 1) h hS (by omega) hh hb fun w g c' sp lr h1 h2 h3 h => ⟨_, rfl, key w g c' sp lr h1 h2 h3 h⟩
theorem bufStr_ok {b : Nat} {l : List UInt8} {M : List Chunk} (hB : Buf b l M) (h : Sat σ w (M ++ L)) (hR : ∀ w, Sat σ w (M ++ L) → R (.returned (.string (bs l))) w) :
 callE P i_bytes_Buffer_String #[.pointer (some ⟨b, 0, none⟩)] R w := by
 obtain ⟨q, c, lr, M0, rfl, hS, hc⟩ := hB
 refine g_bytes_Buffer_String.sound ?_
 refine ⟨_, _, ptrNil_eq (e := ty_bytes_Buffer) (by kernel_rfl) _ w, br_false rfl ?_⟩
 refine h.tk fun w h => ?_
 refine nilP_some (nilP_some ?_)
 refine ⟨_, _, _, h.ldA, ?_⟩
 refine ⟨_, h.ldA, ?_⟩
 refine ⟨_, _, _, fun w => sliceF rowU8.ht rowU8.hi q l.length c 0 (by omega) w, ?_⟩
 have e0 : (if c = 0 then q else q.map (·.add (0 * rowU8.i.size))) = q := by
  rw [Nat.zero_mul]
  split
  ·rfl
  ·cases q <;> rfl
 rw [e0, Nat.sub_zero, Nat.sub_zero]
 have h' : Sat σ w (M0 ++ (bufC b q l.length c lr :: L)) := h.re
 exact ⟨_, _, hS.str h', hR w h⟩
theorem bufNew (b : Nat) : Buf b [] [(b, cel [.slice none 0 0, .int .i64 0, .int .i8 0] ty_bytes_Buffer)] := ⟨none, 0, 0, [], rfl, By.nil, by omega⟩
end Go.Proofs.YtgbgadkldalkbaaGreatDoor


set_option linter.unusedVariables false
namespace Go.Proofs.YtgbgadkldalkbaaGreatDoor
open Go.Proofs Go.IntWalk Go.RowKit
variable {σ : Out} {w : World} {L L' : List Chunk} {R : Ending → World → Prop}
abbrev bldC (b : Nat) (p q : Option Addr) (n c : Nat) : Chunk := (b, cel [.pointer p, .slice q n c] ty_strings_Builder)
def Bld (b : Nat) (g : Bool) (l : List UInt8) (M : List Chunk) : Prop :=
 ∃ p q c M0, M = bldC b p q l.length c :: M0 ∧ By q l.length c l M0 ∧ (p = none ∨ p = some ⟨b, 0, none⟩) ∧ q.isSome = g ∧ (g = true → 0 < c)
theorem bldNew (b : Nat) : Bld b false [] [(b, cel [.pointer none, .slice none 0 0] ty_strings_Builder)] := ⟨none, none, 0, [], rfl, By.nil, .inl rfl, rfl, by simp⟩
theorem Sat.shape (h : Sat σ w L) {b : Nat} {cs : List Value} {e : TypeId} (hm : (b, cel cs e) ∈ L) : w.shape? b = some (e, cs.length) := by
 have := h.at_ _ hm
 simp only [cel] at this
 simp [World.shape?, this]
theorem copyCheck_ok {b : Nat} {p q : Option Addr} {n c : Nat} (h : Sat σ w (bldC b p q n c :: L)) (hp : p = none ∨ p = some ⟨b, 0, none⟩)
 (hR : ∀ w, Sat σ w (bldC b (some ⟨b, 0, none⟩) q n c :: L) → R (.returned (.tuple #[])) w) : callE P i_strings_Builder_copyCheck #[.pointer (some ⟨b, 0, none⟩)] R w := by
 have hu : P.underlying ty_P_strings_Builder = some (.pointer ty_strings_Builder) := by kernel_rfl
 have hun : P.underlying ty_unsafe_Pointer = some .unsafePointer := by kernel_rfl
 have hi : P.info? ty_strings_Builder = some ((P.info? ty_strings_Builder).getD default) := by kernel_rfl
 have hs : ((P.info? ty_strings_Builder).getD default).size = 2 := by kernel_rfl
 have hsh := h.shape (.head _)
 refine g_strings_Builder_copyCheck.sound ?_
 refine nilP_some ?_
 refine ⟨_, h.ldA, ?_⟩
 refine ⟨_, _, ptrNil_eq hu _ w, ?_⟩
 rcases hp with rfl | rfl
 ·refine br_true rfl ?_
  refine ⟨_, _, Lib.run_to_unsafe w ⟨b, 0, none⟩ hu hun hi (by rw [hs]; decide) hsh (Nat.zero_lt_succ _), ?_⟩
  refine noEscape_ok ⟨_, rfl, ?_⟩
  refine ⟨_, _, Lib.run_from_unsafe w ⟨b, 0, none⟩ hun hu hi hsh (by kernel_rfl), ?_⟩
  refine nilP_some ?_
  refine h.stA 0 fun w h => ?_
  exact hR _ h
 ·refine br_false rfl ?_
  refine nilP_some ?_
  refine ⟨_, h.ldA, ?_⟩
  refine ⟨_, _, neq_ptr_same hu hi (by rw [hs]; decide) b w, br_false rfl ?_⟩
  exact hR _ h
theorem bldS_ok {b : Nat} {g : Bool} {l s : List UInt8} {M : List Chunk} (hB : Bld b g l M) (h : Sat σ w (M ++ L)) (h0 : s ≠ [] ∨ g = true) (hb : l.length + s.length ≤ 1099511627776)
 (hR : ∀ w M', Bld b true (l ++ s) M' → Sat σ w (M' ++ L) → R (.returned (.tuple #[.int .i64 s.length, .nilIface])) w) : callE P i_strings_Builder_WriteString #[.pointer (some ⟨b, 0, none⟩), .string (bs s)] R w := by
 obtain ⟨p, q, c, M0, rfl, hS, hp, hg, hc⟩ := hB
 refine g_strings_Builder_WriteString.sound ?_
 refine copyCheck_ok h hp fun w h => ⟨rfl, ?_⟩
 refine nilP_some ?_
 refine ⟨_, _, _, h.ldA, ?_⟩
 have h : Sat σ w (M0 ++ (bldC b (some ⟨b, 0, none⟩) q l.length c :: L)) := h.re
 have h0' : s ≠ [] ∨ q ≠ none := h0.imp id (fun hg1 => by rw [← hg] at hg1; intro h; rw [h] at hg1; cases hg1)
 refine hS.appS h s h0' hb fun q' c' w M' hS' h hq' hcc => ?_
 have h : Sat σ w (bldC b (some ⟨b, 0, none⟩) q l.length c :: (M' ++ L)) := h.re
 refine nilP_some ?_
 refine h.stA 0 fun w h => ?_
 rw [bs_size]
 have hc' : 0 < c' := by
  rcases h0 with h0 | h0
  ·have := hS'.2.1
   have := List.length_pos_iff.2 h0
   omega
  ·have := hc h0; omega
 rw [← List.length_append] at hS'
 refine hR w (bldC b (some ⟨b, 0, none⟩) q' (l ++ s).length c' :: M') ⟨_, _, _, _, rfl, hS', .inr rfl, Option.isSome_iff_ne_none.2 hq', fun _ => hc'⟩ ?_
 rw [List.length_append]
 exact h
theorem bldB_ok {b : Nat} {g : Bool} {l : List UInt8} {k : UInt8} {M : List Chunk} (hB : Bld b g l M) (h : Sat σ w (M ++ L)) (hb : l.length + 1 ≤ 1099511627776)
 (hR : ∀ w M', Bld b true (l ++ [k]) M' → Sat σ w (M' ++ L) → R (.returned .nilIface) w) : callE P i_strings_Builder_WriteByte #[.pointer (some ⟨b, 0, none⟩), .int .u8 (k.toNat : Int)] R w := by
 obtain ⟨p, q, c, M0, rfl, hS, hp, hg, hc⟩ := hB
 refine g_strings_Builder_WriteByte.sound ?_
 refine copyCheck_ok h hp fun w h => ⟨rfl, ?_⟩
 refine nilP_some ?_
 refine ⟨_, _, _, h.ldA, ?_⟩
 have h : Sat σ w (M0 ++ (bldC b (some ⟨b, 0, none⟩) q l.length c :: L)) := h.re
 refine hS.app1 h k hb fun q' c' w M' hS' h => ?_
 have h : Sat σ w (bldC b (some ⟨b, 0, none⟩) q l.length c :: (M' ++ L)) := h.re
 refine nilP_some ?_
 refine h.stA 0 fun w h => ?_
 have hq' : q'.isSome = true := by
  rcases hS'.raw with ⟨_, h2, _, _⟩ | ⟨b', sp, rfl, _, _⟩
  ·omega
  ·rfl
 refine hR w (bldC b (some ⟨b, 0, none⟩) q' (l ++ [k]).length c' :: M') ⟨_, _, _, _, rfl, by rw [List.length_append]; exact hS', .inr rfl, hq', fun _ => by have := hS'.2.1; omega⟩ ?_
 rw [List.length_append]
 exact h
theorem Sat.freeze {b : Nat} {cs : List Value} {e : TypeId} (h : Sat σ w ((b, cel cs e) :: L)) (n : Nat) : Sat σ (w.freeze ⟨b, 0, none⟩ n) L := by
 unfold World.freeze
 split
 ·exact h.tail
 ·refine ⟨h.os, h.out, h.tail.nodup, fun c hc => ?_⟩
  have hne : b ≠ c.1 := by
   intro h1
   have := h.nodup
   simp only [List.map_cons, List.nodup_cons] at this
   exact this.1 (by rw [h1]; exact List.mem_map.2 ⟨c, hc, rfl⟩)
  simp only [Array.getElem?_modify, if_neg hne]
  exact h.at_ _ (.tail _ hc)
theorem bldStr_ok {b : Nat} {g : Bool} {l : List UInt8} {M : List Chunk} (hB : Bld b g l M) (h : Sat σ w (M ++ L)) (hl : l.length < 4611686018427387904) (hR : ∀ w, Sat σ w L → R (.returned (.string (bs l))) w) :
 callE P i_strings_Builder_String #[.pointer (some ⟨b, 0, none⟩)] R w := by
 obtain ⟨p, q, c, M0, rfl, hS, hp, hg, hc⟩ := hB
 refine g_strings_Builder_String.sound ?_
 refine h.tk fun w h => ?_
 refine nilP_some (nilP_some ?_)
 refine ⟨_, _, _, h.ldA, ?_⟩
 refine ⟨_, _, _, h.ldA, ?_⟩
 rcases hS.raw with ⟨rfl, hl0, rfl, rfl⟩ | ⟨gb, sp, rfl, rfl, h3⟩
 ·obtain rfl := List.eq_nil_of_length_eq_zero hl0
  refine ⟨_, _, Lib.run_unsafeSliceData_nil (P := P) (w := w) _ _ _ _, fun _ _ => rfl, ?_⟩
  refine ⟨_, _, Lib.run_unsafeString_none (P := P) (w := w) _ _ _ _, hR _ h.tail⟩
 ·refine ⟨_, _, Lib.run_unsafeSliceData_row (P := P) (w := w) _ _ _ _ _ (by have := hc (by rw [← hg]; rfl); omega), fun _ _ => rfl, ?_⟩
  have h' : Sat σ w ((gb, cel (bc l ++ sp) ty_uint8) :: L) := h.tail
  by_cases hl0 : l = []
  ·subst hl0
   refine ⟨_, _, Lib.run_unsafeString_none (P := P) (w := w) _ _ _ _, hR _ h'.tail⟩
  ·refine ⟨_, _, Lib.run_unsafeString_row (w := w) ty_P_uint8 ty_int ty_string ty_uint8 (by kernel_rfl) (by kernel_rfl) gb _ (h'.shape (.head _)) l hl0 (by simp) (by omega) (fun j x hj => ?_), hR _ (h'.freeze _)⟩
   rw [Addr.add_zero_lit]
   have hj' := (List.getElem?_eq_some_iff.1 hj).1
   refine h'.ld (.head _) ?_
   rw [List.getElem?_append_left (by rw [bc_length]; exact hj'), bc_get hj']
   rw [(List.getElem?_eq_some_iff.1 hj).2]
end Go.Proofs.YtgbgadkldalkbaaGreatDoor


set_option linter.unusedVariables false
namespace Go.Proofs.YtgbgadkldalkbaaGreatDoor
open Go.Proofs Go.IntWalk Go.RowKit
variable {σ : Out} {w : World} {L L' : List Chunk} {R : Ending → World → Prop}
abbrev Prs := List (UInt8 × List UInt8)
def escB (ps : Prs) (c : UInt8) : List UInt8 := match ps.find? (fun p => p.1 == c) with | some p => p.2 | none => [c]
def escS (ps : Prs) (s : List UInt8) : List UInt8 := s.flatMap (escB ps)
def pairC : Prs → List Value
 | [] => []
 | p :: ps => .string (bs [p.1]) :: .string (bs p.2) :: pairC ps
theorem pairC_key : ∀ {ps : Prs} {j : Nat} (h : j < ps.length), (pairC ps)[2 * j]? = some (.string (bs [ps[j].1]))
 | p :: ps, 0, h => rfl
 | p :: ps, j + 1, h => by
  rw [show 2 * (j + 1) = 2 * j + 1 + 1 by omega]
  simp only [pairC, List.getElem?_cons_succ, List.getElem_cons_succ]
  exact pairC_key (by simpa using h)
theorem pairC_val : ∀ {ps : Prs} {j : Nat} (h : j < ps.length), (pairC ps)[2 * j + 1]? = some (.string (bs ps[j].2))
 | p :: ps, 0, h => rfl
 | p :: ps, j + 1, h => by
  rw [show 2 * (j + 1) + 1 = 2 * j + 1 + 1 + 1 by omega]
  simp only [pairC, List.getElem?_cons_succ, List.getElem_cons_succ]
  exact pairC_val (by simpa using h)
def small8 (ps : Prs) : Bool := ps.all fun p => p.2.length ≤ 8
theorem escB_length {ps : Prs} (h : small8 ps = true) (c : UInt8) : (escB ps c).length ≤ 8 := by
 unfold escB
 split
 ·rename_i p hp
  have := List.mem_of_find?_eq_some hp
  simpa using (List.all_eq_true.1 h) p this
 ·simp
theorem escS_length {ps : Prs} (h : small8 ps = true) : ∀ s : List UInt8, (escS ps s).length ≤ 8 * s.length
 | [] => by simp [escS]
 | c :: s => by
  have := escS_length h s
  have := escB_length h c
  simp only [escS, List.flatMap_cons, List.length_append, List.length_cons] at *
  omega
theorem escS_cons (ps : Prs) (c : UInt8) (s : List UInt8) : escS ps (c :: s) = escB ps c ++ escS ps s := by simp [escS]
theorem escS_append (ps : Prs) (s t : List UInt8) : escS ps (s ++ t) = escS ps s ++ escS ps t := by simp [escS]

theorem writePairs_ok {b pb c : Nat} {e : TypeId} {l s : List UInt8} {ps : Prs} {M : List Chunk} (hB : Buf b l M) (h : Sat σ w (M ++ L)) (hp : (pb, cel (pairC ps) e) ∈ L) (h8 : small8 ps = true) (hpl : ps.length < 100000)
 (hs : s.length < 4611686018427387904) (hb : l.length + 8 * s.length ≤ 1099511627776)
 (hR : ∀ w M', Buf b (l ++ escS ps s) M' → Sat σ w (M' ++ L) → R (.returned (.tuple #[])) w) :
 callE P i_zzPairs_WriteString #[.slice (some ⟨pb, 0, none⟩) (2 * ps.length) c, .pointer (some ⟨b, 0, none⟩), .string (bs s)] R w := by
 refine g_zzPairs_WriteString.sound ?_
 intro X hX
 have key : ∀ k i l w M, i + k = s.length → Buf b l M → Sat σ w (M ++ L) → l.length + 8 * k ≤ 1099511627776 → (∀ w M', Buf b (l ++ escS ps (s.drop i)) M' → Sat σ w (M' ++ L) → R (.returned (.tuple #[])) w) →
  X (some ⟨pb, 0, none⟩) (2 * ps.length) c (some ⟨b, 0, none⟩) (bs s) i w := by
  intro k
  induction k with
  | zero =>
   intro i l w M hi hB h hb hR
   refine hX _ _ _ _ _ _ _ (br_false (by simp; omega) ?_)
   refine hR w M ?_ h
   rw [List.drop_eq_nil_of_le (by omega)]
   simpa [escS] using hB
  | succ k ih =>
   intro i l w M hi hB h hb hR
   have hil : i < s.length := by omega
   rw [List.drop_eq_getElem_cons hil, escS_cons, ← List.append_assoc] at hR
   have hlen8 := escB_length h8 s[i]
   refine hX _ _ _ _ _ _ _ (br_true (by simp; omega) ?_)
   intro Y hY
   have key2 : ∀ m j w, j + m = ps.length → ps.find? (fun p => p.1 == s[i]) = (ps.drop j).find? (fun p => p.1 == s[i]) → Sat σ w (M ++ L) → Y (some ⟨pb, 0, none⟩) (2 * ps.length) c (some ⟨b, 0, none⟩) (bs s) i ((2 * j : Nat) : Int) w := by
    intro m
    induction m with
    | zero =>
     intro j w hj hf h
     refine hY _ _ _ _ _ _ _ _ (br_false (by simp; omega) ?_)
     refine ⟨by omega, by simp; omega, ?_⟩
     rw [bt_at hil]
     have he : escB ps s[i] = [s[i]] := by
      unfold escB
      rw [hf, List.drop_eq_nil_of_le (by omega)]
      rfl
     rw [he] at hR hlen8
     refine writeB_ok hB h (by omega) fun w M' hB h => ⟨_, rfl, ?_⟩
     rw [i64_inc (by omega)]
     exact ih (i + 1) _ w M' (by omega) hB h (by simp; omega) hR
    | succ m ihm =>
     intro j w hj hf h
     have hjl : j < ps.length := by omega
     refine hY _ _ _ _ _ _ _ _ (br_true (by simp; omega) ?_)
     refine h.tk fun w h => ?_
     refine ⟨by omega, by simp; omega, by omega, by omega, nilP_some ?_⟩
     simp only [Addr.add_lit, Int.toNat_natCast, Nat.mul_one, Nat.zero_add]
     refine ⟨_, Sat.ld h (List.mem_append_right _ hp) (pairC_key hjl), by omega, by simp, ?_⟩
     rw [bt_at hil, show bt (bs [ps[j].1]) 0 = (ps[j].1.toNat : Int) from rfl, u8_beq]
     by_cases hk : s[i] = ps[j].1
     ·refine br_true (by simp [hk]) ?_
      have e1 : IntKind.i64.wrap (((2 * j : Nat) : Int) + 1) = ((2 * j + 1 : Nat) : Int) := i64_inc (by omega)
      rw [e1]
      refine ⟨by omega, by omega, nilP_some ?_⟩
      simp only [Addr.add_lit, Int.toNat_natCast, Nat.mul_one, Nat.zero_add]
      refine ⟨_, Sat.ld h (List.mem_append_right _ hp) (pairC_val hjl), ?_⟩
      have he : escB ps s[i] = ps[j].2 := by
       unfold escB
       rw [hf, List.drop_eq_getElem_cons hjl, List.find?_cons_of_pos (by simp [hk])]
      rw [he] at hR hlen8
      refine writeS_ok hB h (by omega) fun w M' hB h => ⟨_, _, rfl, ?_⟩
      rw [i64_inc (by omega)]
      exact ih (i + 1) _ w M' (by omega) hB h (by simp; omega) hR
     ·refine br_false (by simpa using hk) ?_
      have e1 : IntKind.i64.wrap (((2 * j : Nat) : Int) + 2) = ((2 * (j + 1) : Nat) : Int) := by simp (disch := omega) only [i64_in]; omega
      rw [e1]
      refine ihm (j + 1) w (by omega) ?_ h
      rw [hf, List.drop_eq_getElem_cons hjl, List.find?_cons_of_neg (by simpa using fun h => hk h.symm)]
   exact key2 ps.length 0 w (by omega) (by rw [List.drop_zero]) h
 exact key s.length 0 l w M (by omega) hB h hb (by rw [List.drop_zero]; exact hR)

theorem buildR {t e : TypeId} {n : Nat} {ps : Array (Nat × Value)} {cs : List Value} (h : Sat σ w L) (ht : P.underlying t = some (.slice e)) (hi : P.info? e = some ((P.info? e).getD default))
 (hz : ((P.info? e).getD default).zero = some (((P.info? e).bind (·.zero)).getD default)) (hs : ((P.info? e).getD default).size = 1) (hn : n ≤ 1000) (hn0 : n ≠ 0)
 (hfill : Instr.fill (fun i => some (i * 1, 1)) ((Array.range (n * 1)).map ((((P.info? e).bind (·.zero)).getD default).cells[· % (((P.info? e).bind (·.zero)).getD default).cells.size]!)) ps.toList = some cs.toArray) {K : Option Addr → Nat → Nat → World → Prop}
 (hK : ∀ b w, Sat σ w ((b, cel cs e) :: L) → K (some ⟨b, 0, none⟩) n n w) : ∃ rq rn rc w1, (Instr.buildSlice t n ps).run P w = .ok (.slice rq rn rc) w1 ∧ K rq rn rc w1 := by
 have hrun := run_buildSlice (P := P) w t e n ps cs.toArray _ _ ht hi hz (by rw [hs]; omega) (by rw [hs]; omega) (by rw [hs]; exact hfill)
 exact ⟨_, _, _, _, hrun, hK _ _ (h.alc cs e)⟩
def htmlPs : Prs := [(34, [38, 113, 117, 111, 116, 59]), (38, [38, 97, 109, 112, 59]), (60, [38, 108, 116, 59]), (62, [38, 103, 116, 59])]
theorem buildPairs {n : Nat} {ps : Array (Nat × Value)} (pr : Prs) (h : Sat σ w L) (hn : n ≤ 1000) (hn0 : n ≠ 0)
 (hfill : Instr.fill (fun i => some (i * 1, 1)) ((Array.range (n * 1)).map ((((P.info? ty_string).bind (·.zero)).getD default).cells[· % (((P.info? ty_string).bind (·.zero)).getD default).cells.size]!)) ps.toList = some (pairC pr).toArray) {K : Option Addr → Nat → Nat → World → Prop}
 (hK : ∀ b w, Sat σ w ((b, cel (pairC pr) ty_string) :: L) → K (some ⟨b, 0, none⟩) n n w) : ∃ rq rn rc w1, (Instr.buildSlice ty_zzPairs n ps).run P w = .ok (.slice rq rn rc) w1 ∧ K rq rn rc w1 :=
 buildR h (by kernel_rfl) (by kernel_rfl) (by kernel_rfl) (by kernel_rfl) hn hn0 hfill hK
theorem htmlEscaper_ok (h : Sat σ w L) (hR : ∀ w b, Sat σ w ((b, cel (pairC htmlPs) ty_string) :: L) → R (.returned (.slice (some ⟨b, 0, none⟩) 8 8)) w) : callE P i_htmlEscaper #[] R w := by
 refine g_htmlEscaper.sound ?_
 exact buildPairs htmlPs h (by decide) (by decide) (by kernel_rfl) fun b w h => hR w b h
end Go.Proofs.YtgbgadkldalkbaaGreatDoor


set_option linter.unusedVariables false
set_option maxRecDepth 20000
namespace Go.Proofs.YtgbgadkldalkbaaGreatDoor
open Go.Proofs
namespace g_parseState_addLine
noncomputable def body : Code := bodyOf Tryz.f68
def k3 (R : EP) (Xa : OA → Nat → WP) (x0 : OA) (x3 : Nat) (w : World) : Prop :=
 nilP x0 fun a70 =>
 ∃ (v71 : Int), w.cell? (a70.add 5) = some (.int .i64 v71) ∧
 nilP x0 fun a72 =>
 stV w ((a72.add 5).add 0) (.int .i64 (IntKind.i64.wrap (v71 + 1))) fun w73 =>
 Xa x0 x3 w73

def bl2 (R : EP) (Xb : OA → Nat → WP) (Xc : OA → Nat → OA → Nat → Nat → Int → Int → WP) (x0 : OA) (x3 : Nat) (x86q : OA) (x86n x86c : Nat) (x87 x88 : Int) (w : World) : Prop :=
 br (decide (x88 < x87))
 (0 ≤ x88 ∧ x88 < (x86n : Int) ∧
 nilP x86q fun a76 =>
 ∃ (v77 : Value), w.cell? (a76.add (Int.toNat x88 * 1)) = some v77 ∧
 ∃ (v78 : Int), w.cell? ⟨x3, 0, none⟩ = some (.int .i64 v78) ∧
 ∃ (v79 : Int), w.cell? ⟨x3, 1, none⟩ = some (.int .i64 v79) ∧
 ∃ (v80 : Int), w.cell? ⟨x3, 2, none⟩ = some (.int .i64 v80) ∧
 ∃ (v81 : BA), w.cell? ⟨x3, 3, none⟩ = some (.string v81) ∧
 ∃ (v82 : Int), w.cell? ⟨x3, 4, none⟩ = some (.int .u8 v82) ∧
 enterE P (do let d ← Deferred.ofValue v77 #[.pointer x0, .agg #[.int .i64 v78, .int .i64 v79, .int .i64 v80, .string v81, .int .u8 v82]]; invoke d.target d.args) (fun e w84 => ∃ (r83_0_0 : Int), ∃ (r83_0_1 : Int), ∃ (r83_0_2 : Int), ∃ (r83_0_3 : BA), ∃ (r83_0_4 : Int), ∃ (r83_1 : Bool), e = .returned (.tuple #[.agg #[.int .i64 r83_0_0, .int .i64 r83_0_1, .int .i64 r83_0_2, .string r83_0_3, .int .u8 r83_0_4], .bool r83_1]) ∧
 box w84 #[.int .i64 0, .int .i64 0, .int .i64 0, .string (ByteArray.mk #[]), .int .u8 0] ty_line fun b85 w86 =>
 stV w86 ⟨b85, 0, none⟩ (.int .i64 r83_0_0) fun w87 =>
 stV w87 ⟨b85, 1, none⟩ (.int .i64 r83_0_1) fun w88 =>
 stV w88 ⟨b85, 2, none⟩ (.int .i64 r83_0_2) fun w89 =>
 stV w89 ⟨b85, 3, none⟩ (.string r83_0_3) fun w90 =>
 stV w90 ⟨b85, 4, none⟩ (.int .u8 r83_0_4) fun w91 =>
 br r83_1
 (∃ (v92 : Int), w91.cell? ⟨b85, 0, none⟩ = some (.int .i64 v92) ∧
 ∃ (v93 : Int), w91.cell? ⟨b85, 1, none⟩ = some (.int .i64 v93) ∧
 ∃ (v94 : Int), w91.cell? ⟨b85, 2, none⟩ = some (.int .i64 v94) ∧
 ∃ (v95 : BA), w91.cell? ⟨b85, 3, none⟩ = some (.string v95) ∧
 ∃ (v96 : Int), w91.cell? ⟨b85, 4, none⟩ = some (.int .u8 v96) ∧
 stV w91 ⟨x3, 0, none⟩ (.int .i64 v92) fun w97 =>
 stV w97 ⟨x3, 1, none⟩ (.int .i64 v93) fun w98 =>
 stV w98 ⟨x3, 2, none⟩ (.int .i64 v94) fun w99 =>
 stV w99 ⟨x3, 3, none⟩ (.string v95) fun w100 =>
 stV w100 ⟨x3, 4, none⟩ (.int .u8 v96) fun w101 =>
 callE P i_line_isBlank #[.pointer (some ⟨x3, 0, none⟩)] (fun e w103 => ∃ (r102 : Bool), e = .returned (.bool r102) ∧
 br r102
 (R (.returned (.tuple #[])) w103)
 (nilP x0 fun a104 =>
 ∃ (v105 : Int), w103.cell? (a104.add 5) = some (.int .i64 v105) ∧
 nilP x0 fun a106 =>
 stV w103 ((a106.add 5).add 0) (.int .i64 (IntKind.i64.wrap (v105 + 1))) fun w107 =>
 Xb x0 x3 w107)) w101)
 (Xc x0 x3 x86q x86n x86c x87 (IntKind.i64.wrap (x88 + 1)) w91)) w)
 (∃ (v108 : Int), w.cell? ⟨x3, 0, none⟩ = some (.int .i64 v108) ∧
 ∃ (v109 : Int), w.cell? ⟨x3, 1, none⟩ = some (.int .i64 v109) ∧
 ∃ (v110 : Int), w.cell? ⟨x3, 2, none⟩ = some (.int .i64 v110) ∧
 ∃ (v111 : BA), w.cell? ⟨x3, 3, none⟩ = some (.string v111) ∧
 ∃ (v112 : Int), w.cell? ⟨x3, 4, none⟩ = some (.int .u8 v112) ∧
 callE P i_newPara #[.pointer x0, .agg #[.int .i64 v108, .int .i64 v109, .int .i64 v110, .string v111, .int .u8 v112]] (fun e w114 => ∃ (r113_0_0 : Int), ∃ (r113_0_1 : Int), ∃ (r113_0_2 : Int), ∃ (r113_0_3 : BA), ∃ (r113_0_4 : Int), ∃ (r113_1 : Bool), e = .returned (.tuple #[.agg #[.int .i64 r113_0_0, .int .i64 r113_0_1, .int .i64 r113_0_2, .string r113_0_3, .int .u8 r113_0_4], .bool r113_1]) ∧
 R (.returned (.tuple #[])) w114) w)
def l2 (R : EP) (Xb : OA → Nat → WP) (x0 : OA) (x3 : Nat) (x86q : OA) (x86n x86c : Nat) (x87 x88 : Int) (w : World) : Prop :=
 ∀ X : OA → Nat → OA → Nat → Nat → Int → Int → WP, (∀ x0 x3 x86q x86n x86c x87 x88 w, bl2 R Xb X x0 x3 x86q x86n x86c x87 x88 w → X x0 x3 x86q x86n x86c x87 x88 w) → X x0 x3 x86q x86n x86c x87 x88 w

noncomputable def al2 (R : EP) (Xb : OA → Nat → WP) (Xc : OA → Nat → OA → Nat → Nat → Int → Int → WP) : AC :=
 (.leaf (sel [1,0,1,1,1,1,0,1,0,0] body))
def bl102 (R : EP) (Xb : OA → Nat → WP) (x0 : OA) (x3 : Nat) (w : World) : Prop :=
 callE P i_news #[] (fun e w75 => ∃ (r74q : OA), ∃ (r74n : Nat), ∃ (r74c : Nat), e = .returned (.slice r74q r74n r74c) ∧
 l2 R Xb x0 x3 r74q r74n r74c (r74n : Int) 0 w75) w
def l102 (R : EP) (x0 : OA) (x3 : Nat) (w : World) : Prop :=
 ∀ X : OA → Nat → WP, (∀ x0 x3 w, bl102 R X x0 x3 w → X x0 x3 w) → X x0 x3 w

noncomputable def al102 (R : EP) (Xb : OA → Nat → WP) : AC :=
 (.seq (.seq (.leaf (sel [1,0,1,1,1,1,0,0] body)) (.block 2 (.loop (leaf [(0, .s .ptr), (3, .s .loc), (86, .s .slice), (87, .s (.int .i64)), (88, .s (.int .i64))] (l2 R Xb)) (sel [1,0,1,1,1,1,0,1,0,0] body)))) (.leaf (sel [1,0,1,1,1,1,1] body)))
def k2 (R : EP) (x0 : OA) (x3 : Nat) (w : World) : Prop :=
 callE P i_line_isBlank #[.pointer (some ⟨x3, 0, none⟩)] (fun e w65 => ∃ (r64 : Bool), e = .returned (.bool r64) ∧
 br r64
 (nilP x0 fun a66 =>
 ∃ (v67 : Int), w65.cell? (a66.add 5) = some (.int .i64 v67) ∧
 callE P i_parseState_trimStack #[.pointer x0, .int .i64 (IntKind.i64.wrap (v67 + 1))] (fun e w69 => e = .returned (.tuple #[]) ∧
 R (.returned (.tuple #[])) w69) w65)
 (bl102 R (l102 R) x0 x3 w65)) w

def k1 (R : EP) (Xa : OA → Nat → WP) (x0 : OA) (x3 : Nat) (x5 x59 : Bool) (w : World) : Prop :=
 br x59
 (tk w fun w55 =>
 nilP x0 fun a56 =>
 nilP x0 fun a57 =>
 nilP x0 fun a58 =>
 ∃ (v59q : OA), ∃ (v59n : Nat), ∃ (v59c : Nat), w55.cell? (a56.add 4) = some (.slice v59q v59n v59c) ∧
 ∃ (v60 : Int), w55.cell? (a57.add 5) = some (.int .i64 v60) ∧
 ∃ (v61 : Int), w55.cell? (a58.add 3) = some (.int .i64 v61) ∧
 0 ≤ (IntKind.i64.wrap (v60 + 1)) ∧ (IntKind.i64.wrap (v60 + 1)) < (v59n : Int) ∧
 nilP v59q fun a62 =>
 stV w55 ((((a62.add (Int.toNat (IntKind.i64.wrap (v60 + 1)) * 4)).add 2).add 1).add 0) (.int .i64 v61) fun w63 =>
 br (!x5)
 (k2 R x0 x3 w63)
 (k3 R Xa x0 x3 w63))
 (br (!x5)
 (k2 R x0 x3 w)
 (k3 R Xa x0 x3 w))

def bl1 (R : EP) (Xa : OA → Nat → WP) (x0 : OA) (x3 : Nat) (w : World) : Prop :=
 tk w fun w5 =>
 nilP x0 fun a6 =>
 nilP x0 fun a7 =>
 ∃ (v8 : Int), w5.cell? (a6.add 5) = some (.int .i64 v8) ∧
 ∃ (v9q : OA), ∃ (v9n : Nat), ∃ (v9c : Nat), w5.cell? (a7.add 4) = some (.slice v9q v9n v9c) ∧
 br (decide ((IntKind.i64.wrap (v8 + 1)) < (v9n : Int)))
 (∃ (v10 : Int), w5.cell? ⟨x3, 0, none⟩ = some (.int .i64 v10) ∧
 ∃ (v11 : Int), w5.cell? ⟨x3, 1, none⟩ = some (.int .i64 v11) ∧
 ∃ (v12 : Int), w5.cell? ⟨x3, 2, none⟩ = some (.int .i64 v12) ∧
 ∃ (v13 : BA), w5.cell? ⟨x3, 3, none⟩ = some (.string v13) ∧
 ∃ (v14 : Int), w5.cell? ⟨x3, 4, none⟩ = some (.int .u8 v14) ∧
 box w5 #[.int .i64 0, .int .i64 0, .int .i64 0, .string (ByteArray.mk #[]), .int .u8 0] ty_line fun b15 w16 =>
 stV w16 ⟨b15, 0, none⟩ (.int .i64 v10) fun w17 =>
 stV w17 ⟨b15, 1, none⟩ (.int .i64 v11) fun w18 =>
 stV w18 ⟨b15, 2, none⟩ (.int .i64 v12) fun w19 =>
 stV w19 ⟨b15, 3, none⟩ (.string v13) fun w20 =>
 stV w20 ⟨b15, 4, none⟩ (.int .u8 v14) fun w21 =>
 tk w21 fun w22 =>
 nilP x0 fun a23 =>
 nilP x0 fun a24 =>
 ∃ (v25q : OA), ∃ (v25n : Nat), ∃ (v25c : Nat), w22.cell? (a23.add 4) = some (.slice v25q v25n v25c) ∧
 ∃ (v26 : Int), w22.cell? (a24.add 5) = some (.int .i64 v26) ∧
 0 ≤ (IntKind.i64.wrap (v26 + 1)) ∧ (IntKind.i64.wrap (v26 + 1)) < (v25n : Int) ∧
 nilP v25q fun a27 =>
 ∃ (v28 : Value), w22.cell? (a27.add (Int.toNat (IntKind.i64.wrap (v26 + 1)) * 4)) = some v28 ∧
 ∃ (v29 : Int), w22.cell? ⟨x3, 0, none⟩ = some (.int .i64 v29) ∧
 ∃ (v30 : Int), w22.cell? ⟨x3, 1, none⟩ = some (.int .i64 v30) ∧
 ∃ (v31 : Int), w22.cell? ⟨x3, 2, none⟩ = some (.int .i64 v31) ∧
 ∃ (v32 : BA), w22.cell? ⟨x3, 3, none⟩ = some (.string v32) ∧
 ∃ (v33 : Int), w22.cell? ⟨x3, 4, none⟩ = some (.int .u8 v33) ∧
 enterE P (callMethod v28 "pub-paratext/pub/rscmarkdown.extend" #[.pointer x0, .agg #[.int .i64 v29, .int .i64 v30, .int .i64 v31, .string v32, .int .u8 v33]]) (fun e w35 => ∃ (r34_0_0 : Int), ∃ (r34_0_1 : Int), ∃ (r34_0_2 : Int), ∃ (r34_0_3 : BA), ∃ (r34_0_4 : Int), ∃ (r34_1 : Bool), e = .returned (.tuple #[.agg #[.int .i64 r34_0_0, .int .i64 r34_0_1, .int .i64 r34_0_2, .string r34_0_3, .int .u8 r34_0_4], .bool r34_1]) ∧
 stV w35 ⟨x3, 0, none⟩ (.int .i64 r34_0_0) fun w36 =>
 stV w36 ⟨x3, 1, none⟩ (.int .i64 r34_0_1) fun w37 =>
 stV w37 ⟨x3, 2, none⟩ (.int .i64 r34_0_2) fun w38 =>
 stV w38 ⟨x3, 3, none⟩ (.string r34_0_3) fun w39 =>
 stV w39 ⟨x3, 4, none⟩ (.int .u8 r34_0_4) fun w40 =>
 callE P i_line_isBlank #[.pointer (some ⟨b15, 0, none⟩)] (fun e w42 => ∃ (r41 : Bool), e = .returned (.bool r41) ∧
 br (!r41)
 (br r34_1
 (k1 R Xa x0 x3 r34_1 true w42)
 (∃ (v43 : Int), w42.cell? ⟨x3, 0, none⟩ = some (.int .i64 v43) ∧
 ∃ (v44 : Int), w42.cell? ⟨x3, 1, none⟩ = some (.int .i64 v44) ∧
 ∃ (v45 : Int), w42.cell? ⟨x3, 2, none⟩ = some (.int .i64 v45) ∧
 ∃ (v46 : BA), w42.cell? ⟨x3, 3, none⟩ = some (.string v46) ∧
 ∃ (v47 : Int), w42.cell? ⟨x3, 4, none⟩ = some (.int .u8 v47) ∧
 ∃ (v48 : Int), w42.cell? ⟨b15, 0, none⟩ = some (.int .i64 v48) ∧
 ∃ (v49 : Int), w42.cell? ⟨b15, 1, none⟩ = some (.int .i64 v49) ∧
 ∃ (v50 : Int), w42.cell? ⟨b15, 2, none⟩ = some (.int .i64 v50) ∧
 ∃ (v51 : BA), w42.cell? ⟨b15, 3, none⟩ = some (.string v51) ∧
 ∃ (v52 : Int), w42.cell? ⟨b15, 4, none⟩ = some (.int .u8 v52) ∧
 ∃ (r53 : Bool), ∃ w54, (do eqGuard .neq ty_line (.tmp 55) (.tmp 56) (.agg #[.int .i64 v43, .int .i64 v44, .int .i64 v45, .string v46, .int .u8 v47]) (.agg #[.int .i64 v48, .int .i64 v49, .int .i64 v50, .string v51, .int .u8 v52]); binOp .neq ty_line (.agg #[.int .i64 v43, .int .i64 v44, .int .i64 v45, .string v46, .int .u8 v47]) (.agg #[.int .i64 v48, .int .i64 v49, .int .i64 v50, .string v51, .int .u8 v52])).run P w42 = .ok (.bool r53) w54 ∧
 k1 R Xa x0 x3 r34_1 r53 w54))
 (k1 R Xa x0 x3 r34_1 false w42)) w40) w22)
 (k2 R x0 x3 w5)
def l1 (R : EP) (x0 : OA) (x3 : Nat) (w : World) : Prop :=
 ∀ X : OA → Nat → WP, (∀ x0 x3 w, bl1 R X x0 x3 w → X x0 x3 w) → X x0 x3 w

noncomputable def al1 (R : EP) (Xa : OA → Nat → WP) : AC :=
 (.seq (.seq (.draw (.pure 0 (.pure 1 (.pure 2 (.pure 5 (.pure 6 (.pure 7 (.load 3 (.pure 4 (.load 8 (.pure 9 (.pure 10 .done))))))))))) (sel [1,0,1,0,0,0,0,0] body)) (.leaf (sel [1,0,1,0,0,0,0,1] body))) (.seq (.block 1 (.seq (.leaf (sel [1,0,1,0,0,0,1,0,0,0] body)) (.seq (.leaf (sel [1,0,1,0,0,0,1,0,0,1,0] body)) (.seq (.draw (.pure 0 (.pure 1 (.pure 2 (.pure 4 (.pure 5 (.pure 6 (.pure 12 (.load 3 (.load 7 (.pure 8 (.pure 9 (.pure 10 (.load 11 (.load 13 (.one 14 (.pure 15 (.pure 16 (.pure 17 (.one 18 (.pure 19 .done)))))))))))))))))))) (sel [1,0,1,0,0,0,1,0,0,1,1,0] body)) (.seq (.seq (.leaf (sel [1,0,1,0,0,0,1,0,0,1,1,1,0,0] body)) (.mark (leaf [(0, .s .ptr), (3, .s .loc), (5, .s .bool), (59, .s .bool)] (k1 R Xa)) (.cond 59 (.draw (.pure 0 (.pure 1 (.pure 2 (.pure 4 (.pure 5 (.pure 6 (.pure 9 (.pure 10 (.pure 11 (.load 3 (.load 7 (.pure 8 (.load 12 (.pure 13 (.pure 14 (.pure 15 (.one 16 .done))))))))))))))))) (sel [1,0,1,0,0,0,1,0,0,1,1,1,0,1,0] body)) (.leaf (sel [1,0,1,0,0,0,1,0,0,1,1,1,0,1,1] body))))) (.leaf (sel [1,0,1,0,0,0,1,0,0,1,1,1,1] body))))))) (.mark (leaf [(0, .s .ptr), (3, .s .loc)] (k3 R Xa)) (.leaf (sel [1,0,1,0,0,0,1,1] body)))))
end g_parseState_addLine
def g_parseState_addLine (R : EP) (x0 : OA) (x1_0 x1_1 x1_2 : Int) (x1_3 : BA) (x1_4 : Int) (w : World) : Prop :=
 box w #[.int .i64 x1_0, .int .i64 x1_1, .int .i64 x1_2, .string x1_3, .int .u8 x1_4] ty_line fun b1 w2 =>
 nilP x0 fun a3 =>
 stV w2 ((a3.add 5).add 0) (.int .i64 0) fun w4 =>
 g_parseState_addLine.l1 R x0 b1 w4

namespace g_parseState_addLine
noncomputable def ac (R : EP) : AC :=
 (.seq (.leaf (sel [0] body)) (.jump 0 (leaf [(0, .s .ptr), (3, .s .loc)] (l102 R)) (.seq (.leaf (sel [1,0,0] body)) (.seq (.block 0 (.loop (leaf [(0, .s .ptr), (3, .s .loc)] (l1 R)) (sel [1,0,1,0,0,0] body))) (.mark (leaf [(0, .s .ptr), (3, .s .loc)] (k2 R)) (.seq (.leaf (sel [1,0,1,1,0] body)) (.seq (.leaf (sel [1,0,1,1,1,0] body)) (.mark (leaf [(0, .s .ptr), (3, .s .loc)] (bl102 R (l102 R))) (al102 R (l102 R))))))))))
theorem good (R : EP) : Good P 113 (ac R) (QF P [] R) :=
 ⟨trivial, ⟨⟨trivial, ⟨(loopG (al1 R) (bl1 R) (fun _ => by kernel_rfl) (fun Xa => ⟨⟨⟨by kernel_rfl, by kernel_rfl, fun _ _ _ h => h⟩, trivial⟩, ⟨⟨trivial, ⟨trivial, ⟨⟨by kernel_rfl, by kernel_rfl, fun _ _ _ h => h⟩, ⟨⟨trivial, ⟨⟨⟨by kernel_rfl, by kernel_rfl, fun _ _ _ h => h⟩, trivial⟩, cutZ⟩⟩, trivial⟩⟩⟩⟩, ⟨trivial, cutZ⟩⟩⟩) (fun Xa => by intro x0 x3 ρ w; kernel_rfl) (fun X h _ _ _ g => g X h)), ⟨⟨trivial, ⟨trivial, ⟨⟨trivial, (loopG (al2 R (l102 R)) (bl2 R (l102 R)) (fun _ => by kernel_rfl) (fun Xc => trivial) (fun Xc => by intro x0 x3 x86q x86n x86c x87 x88 ρ w; kernel_rfl) (fun X h _ _ _ _ _ _ _ _ g => g X h))⟩, trivial⟩, cutZ⟩⟩, cutZ⟩⟩⟩, .seq .skip (sel [1,0,1,1,1,1] body), by kernel_rfl, jumpG (l := 0) (fun X => .seq (.leaf .skip) (al102 R X)) (bl102 R) (by kernel_rfl) (fun _ => by kernel_rfl) (fun Xb => ⟨trivial, ⟨⟨trivial, (loopG (al2 R Xb) (bl2 R Xb) (fun _ => by kernel_rfl) (fun Xc => trivial) (fun Xc => by intro x0 x3 x86q x86n x86c x87 x88 ρ w; kernel_rfl) (fun X h _ _ _ _ _ _ _ _ g => g X h))⟩, trivial⟩⟩) (fun Xb => by intro x0 x3 ρ w; kernel_rfl) (fun X h _ _ _ g => g X h)⟩⟩
theorem eq (R : EP) (x0 : OA) (x1_0 x1_1 x1_2 : Int) (x1_3 : BA) (x1_4 : Int) (w : World) : g_parseState_addLine R x0 x1_0 x1_1 x1_2 x1_3 x1_4 w = vcA P 113 (ac R) (QF P [] R) (fr0 [.pointer x0, .agg #[.int .i64 x1_0, .int .i64 x1_1, .int .i64 x1_2, .string x1_3, .int .u8 x1_4]]) w := by kernel_rfl
theorem sound {R : EP} {x0 : OA} {x1_0 x1_1 x1_2 : Int} {x1_3 : ByteArray} {x1_4 : Int} {w : World} (h : g_parseState_addLine R x0 x1_0 x1_1 x1_2 x1_3 x1_4 w) : callE P i_parseState_addLine #[.pointer x0, .agg #[.int .i64 x1_0, .int .i64 x1_1, .int .i64 x1_2, .string x1_3, .int .u8 x1_4]] R w :=
 callE_fz (c := body) Tryz.func68 Tryz.call68 (good R) (eq R x0 x1_0 x1_1 x1_2 x1_3 x1_4 w) h
end g_parseState_addLine
namespace g_news
noncomputable def body : Code := bodyOf Tryz.f86
end g_news
def g_news (R : EP) (w : World) : Prop :=
 ∃ (r1q : OA), ∃ (r1n : Nat), ∃ (r1c : Nat), ∃ w2, (Instr.buildSlice ty_S_func_P_parseState_line_line_bool 8 #[(0, .func (.func i_newQuote) #[] #[]), (1, .func (.func i_newATXHeading) #[] #[]), (2, .func (.func i_newSetextHeading) #[] #[]), (3, .func (.func i_newHR) #[] #[]), (4, .func (.func i_newListItem) #[] #[]), (5, .func (.func i_newHTML) #[] #[]), (6, .func (.func i_newFence) #[] #[]), (7, .func (.func i_newPre) #[] #[])]).run P w = .ok (.slice r1q r1n r1c) w2 ∧
 R (.returned (.slice r1q r1n r1c)) w2

namespace g_news
noncomputable def ac (R : EP) : AC :=
 (.leaf (sel [] body))
theorem good (R : EP) : Good P 2 (ac R) (QF P [.tmp 0] R) :=
 trivial
theorem eq (R : EP) (w : World) : g_news R w = vcA P 2 (ac R) (QF P [.tmp 0] R) (fr0 []) w := by kernel_rfl
theorem sound {R : EP} {w : World} (h : g_news R w) : callE P i_news #[] R w :=
 callE_fz (c := body) Tryz.func86 Tryz.call86 (good R) (eq R w) h
end g_news
namespace g_newPara
noncomputable def body : Code := bodyOf Tryz.f87
def k5 (R : EP) (x4 : Nat) (x6 : OA) (x8 : BA) (w : World) : Prop :=
 nilP x6 fun a102 =>
 ∃ (v103q : OA), ∃ (v103n : Nat), ∃ (v103c : Nat), w.cell? a102 = some (.slice v103q v103n v103c) ∧
 ∃ (r104q : OA), ∃ (r104n : Nat), ∃ (r104c : Nat), ∃ w105, (Instr.buildSlice ty_S_string 1 #[(0, .string x8)]).run P w = .ok (.slice r104q r104n r104c) w105 ∧
 ∃ (r106q : OA), ∃ (r106n : Nat), ∃ (r106c : Nat), ∃ w107, (Builtin.append_ #[ty_S_string, ty_S_string] ty_S_string #[.slice v103q v103n v103c, .slice r104q r104n r104c]).run P w105 = .ok (.slice r106q r106n r106c) w107 ∧
 nilP x6 fun a108 =>
 stV w107 (a108.add 0) (.slice r106q r106n r106c) fun w109 =>
 stV w109 ⟨x4, 0, none⟩ (.int .i64 0) fun w110 =>
 stV w110 ⟨x4, 1, none⟩ (.int .i64 0) fun w111 =>
 stV w111 ⟨x4, 2, none⟩ (.int .i64 0) fun w112 =>
 stV w112 ⟨x4, 3, none⟩ (.string (ByteArray.mk #[])) fun w113 =>
 stV w113 ⟨x4, 4, none⟩ (.int .u8 0) fun w114 =>
 ∃ (v115 : Int), w114.cell? ⟨x4, 0, none⟩ = some (.int .i64 v115) ∧
 ∃ (v116 : Int), w114.cell? ⟨x4, 1, none⟩ = some (.int .i64 v116) ∧
 ∃ (v117 : Int), w114.cell? ⟨x4, 2, none⟩ = some (.int .i64 v117) ∧
 ∃ (v118 : BA), w114.cell? ⟨x4, 3, none⟩ = some (.string v118) ∧
 ∃ (v119 : Int), w114.cell? ⟨x4, 4, none⟩ = some (.int .u8 v119) ∧
 R (.returned (.tuple #[.agg #[.int .i64 v115, .int .i64 v116, .int .i64 v117, .string v118, .int .u8 v119], .bool true])) w114

def bl1 (R : EP) (Xa : OA → Nat → OA → BA → Int → WP) (x0 : OA) (x4 : Nat) (x6 : OA) (x8 : BA) (x11 : Int) (w : World) : Prop :=
 nilP x0 fun a93 =>
 ∃ (v94q : OA), ∃ (v94n : Nat), ∃ (v94c : Nat), w.cell? (a93.add 4) = some (.slice v94q v94n v94c) ∧
 br (decide (x11 < (v94n : Int)))
 (tk w fun w95 =>
 nilP x0 fun a96 =>
 nilP x0 fun a97 =>
 ∃ (v98q : OA), ∃ (v98n : Nat), ∃ (v98c : Nat), w95.cell? (a96.add 4) = some (.slice v98q v98n v98c) ∧
 ∃ (v99 : Int), w95.cell? (a97.add 3) = some (.int .i64 v99) ∧
 0 ≤ x11 ∧ x11 < (v98n : Int) ∧
 nilP v98q fun a100 =>
 stV w95 ((((a100.add (Int.toNat x11 * 4)).add 2).add 1).add 0) (.int .i64 v99) fun w101 =>
 Xa x0 x4 x6 x8 (IntKind.i64.wrap (x11 + 1)) w101)
 (k5 R x4 x6 x8 w)
def l1 (R : EP) (x0 : OA) (x4 : Nat) (x6 : OA) (x8 : BA) (x11 : Int) (w : World) : Prop :=
 ∀ X : OA → Nat → OA → BA → Int → WP, (∀ x0 x4 x6 x8 x11 w, bl1 R X x0 x4 x6 x8 x11 w → X x0 x4 x6 x8 x11 w) → X x0 x4 x6 x8 x11 w

noncomputable def al1 (R : EP) (Xa : OA → Nat → OA → BA → Int → WP) : AC :=
 (.seq (.leaf (sel [1,1,1,1,1,1,0,1,0,1,0,0,0] body)) (.seq (.block 1 (.draw (.pure 0 (.pure 1 (.pure 2 (.pure 4 (.pure 5 (.pure 6 (.pure 7 (.load 3 (.load 8 (.pure 9 (.pure 10 (.pure 11 (.one 12 .done))))))))))))) (sel [1,1,1,1,1,1,0,1,0,1,0,0,1,0,0] body))) (.leaf (sel [1,1,1,1,1,1,0,1,0,1,0,0,1,1] body))))
def k4 (R : EP) (x0 : OA) (x4 : Nat) (x6 : OA) (x8 : BA) (x88 : Bool) (w : World) : Prop :=
 br x88
 (tk w fun w50 =>
 nilP x6 fun a51 =>
 nilP x6 fun a52 =>
 ∃ (v53q : OA), ∃ (v53n : Nat), ∃ (v53c : Nat), w50.cell? a51 = some (.slice v53q v53n v53c) ∧
 ∃ (v54q : OA), ∃ (v54n : Nat), ∃ (v54c : Nat), w50.cell? a52 = some (.slice v54q v54n v54c) ∧
 0 ≤ (IntKind.i64.wrap ((v54n : Int) - 1)) ∧ (IntKind.i64.wrap ((v54n : Int) - 1)) < (v53n : Int) ∧
 nilP v53q fun a55 =>
 ∃ (v56 : BA), w50.cell? (a55.add (Int.toNat (IntKind.i64.wrap ((v54n : Int) - 1)) * 1)) = some (.string v56) ∧
 tk w50 fun w57 =>
 nilP x6 fun a58 =>
 nilP x6 fun a59 =>
 ∃ (v60q : OA), ∃ (v60n : Nat), ∃ (v60c : Nat), w57.cell? a58 = some (.slice v60q v60n v60c) ∧
 ∃ (v61q : OA), ∃ (v61n : Nat), ∃ (v61c : Nat), w57.cell? a59 = some (.slice v61q v61n v61c) ∧
 ∃ (r62q : OA), ∃ (r62n : Nat), ∃ (r62c : Nat), (∀ w, (Instr.sliceAt ty_S_string (.slice v60q v60n v60c) none (some (.int .i64 (IntKind.i64.wrap ((v61n : Int) - 1)))) none).run P w = .ok (.slice r62q r62n r62c) w) ∧
 nilP x6 fun a63 =>
 stV w57 (a63.add 0) (.slice r62q r62n r62c) fun w64 =>
 box w64 #[.slice none 0 0, .pointer none] ty_paraBuilder fun b65 w66 =>
 callE P i_parseState_addBlock #[.pointer x0, .iface ty_P_paraBuilder (.pointer (some ⟨b65, 0, none⟩))] (fun e w68 => e = .returned (.tuple #[]) ∧
 box w68 #[.string (ByteArray.mk #[]), .string (ByteArray.mk #[]), .slice none 0 0] ty_tableBuilder fun b69 w70 =>
 stV w70 ⟨b65, 1, none⟩ (.pointer (some ⟨b69, 0, none⟩)) fun w71 =>
 ∃ (v72 : OA), w71.cell? ⟨b65, 1, none⟩ = some (.pointer v72) ∧
 callE P i_tableBuilder_start #[.pointer v72, .string v56, .string x8] (fun e w74 => e = .returned (.tuple #[]) ∧
 stV w74 ⟨x4, 0, none⟩ (.int .i64 0) fun w75 =>
 stV w75 ⟨x4, 1, none⟩ (.int .i64 0) fun w76 =>
 stV w76 ⟨x4, 2, none⟩ (.int .i64 0) fun w77 =>
 stV w77 ⟨x4, 3, none⟩ (.string (ByteArray.mk #[])) fun w78 =>
 stV w78 ⟨x4, 4, none⟩ (.int .u8 0) fun w79 =>
 ∃ (v80 : Int), w79.cell? ⟨x4, 0, none⟩ = some (.int .i64 v80) ∧
 ∃ (v81 : Int), w79.cell? ⟨x4, 1, none⟩ = some (.int .i64 v81) ∧
 ∃ (v82 : Int), w79.cell? ⟨x4, 2, none⟩ = some (.int .i64 v82) ∧
 ∃ (v83 : BA), w79.cell? ⟨x4, 3, none⟩ = some (.string v83) ∧
 ∃ (v84 : Int), w79.cell? ⟨x4, 4, none⟩ = some (.int .u8 v84) ∧
 R (.returned (.tuple #[.agg #[.int .i64 v80, .int .i64 v81, .int .i64 v82, .string v83, .int .u8 v84], .bool true])) w79) w71) w66)
 (∃ (r85 : Bool), ∃ w86, (do eqGuard .neq ty_P_paraBuilder (.tmp 132) (.const (.pointer none)) (.pointer x6) (.pointer none); binOp .neq ty_P_paraBuilder (.pointer x6) (.pointer none)).run P w = .ok (.bool r85) w86 ∧
 br r85
 (nilP x0 fun a87 =>
 ∃ (v88 : Int), w86.cell? (a87.add 5) = some (.int .i64 v88) ∧
 l1 R x0 x4 x6 x8 v88 w86)
 (box w86 #[.slice none 0 0, .pointer none] ty_paraBuilder fun b89 w90 =>
 callE P i_parseState_addBlock #[.pointer x0, .iface ty_P_paraBuilder (.pointer (some ⟨b89, 0, none⟩))] (fun e w92 => e = .returned (.tuple #[]) ∧
 k5 R x4 (some ⟨b89, 0, none⟩) x8 w92) w90))

def k3 (R : EP) (x0 : OA) (x4 : Nat) (x6 : OA) (x7 : Bool) (x8 : BA) (w : World) : Prop :=
 tk w fun w34 =>
 nilP x0 fun a35 =>
 ∃ (v36 : OA), w34.cell? a35 = some (.pointer v36) ∧
 nilP v36 fun a37 =>
 ∃ (v38 : Bool), w34.cell? (a37.add 5) = some (.bool v38) ∧
 br v38
 (∃ (r39 : Bool), (∀ w, (do eqGuard .neq ty_P_paraBuilder (.tmp 59) (.const (.pointer none)) (.pointer x6) (.pointer none); binOp .neq ty_P_paraBuilder (.pointer x6) (.pointer none)).run P w = .ok (.bool r39) w) ∧
 br r39
 (br x7
 (nilP x6 fun a40 =>
 ∃ (v41q : OA), ∃ (v41n : Nat), ∃ (v41c : Nat), w34.cell? a40 = some (.slice v41q v41n v41c) ∧
 br (decide ((v41n : Int) > 0))
 (nilP x6 fun a42 =>
 nilP x6 fun a43 =>
 ∃ (v44q : OA), ∃ (v44n : Nat), ∃ (v44c : Nat), w34.cell? a42 = some (.slice v44q v44n v44c) ∧
 ∃ (v45q : OA), ∃ (v45n : Nat), ∃ (v45c : Nat), w34.cell? a43 = some (.slice v45q v45n v45c) ∧
 0 ≤ (IntKind.i64.wrap ((v45n : Int) - 1)) ∧ (IntKind.i64.wrap ((v45n : Int) - 1)) < (v44n : Int) ∧
 nilP v44q fun a46 =>
 ∃ (v47 : BA), w34.cell? (a46.add (Int.toNat (IntKind.i64.wrap ((v45n : Int) - 1)) * 1)) = some (.string v47) ∧
 callE P i_isTableStart #[.string v47, .string x8] (fun e w49 => ∃ (r48 : Bool), e = .returned (.bool r48) ∧
 k4 R x0 x4 x6 x8 r48 w49) w34)
 (k4 R x0 x4 x6 x8 false w34))
 (k4 R x0 x4 x6 x8 false w34))
 (k4 R x0 x4 x6 x8 false w34))
 (k4 R x0 x4 x6 x8 false w34)

def k2 (R : EP) (x0 : OA) (x4 : Nat) (x6 : OA) (x7 : Bool) (x8 : BA) (x43 : Bool) (w : World) : Prop :=
 br x43
 (nilP x6 fun a20 =>
 ∃ (v21 : OA), w.cell? (a20.add 1) = some (.pointer v21) ∧
 callE P i_tableBuilder_addRow #[.pointer v21, .string x8] (fun e w23 => e = .returned (.tuple #[]) ∧
 stV w23 ⟨x4, 0, none⟩ (.int .i64 0) fun w24 =>
 stV w24 ⟨x4, 1, none⟩ (.int .i64 0) fun w25 =>
 stV w25 ⟨x4, 2, none⟩ (.int .i64 0) fun w26 =>
 stV w26 ⟨x4, 3, none⟩ (.string (ByteArray.mk #[])) fun w27 =>
 stV w27 ⟨x4, 4, none⟩ (.int .u8 0) fun w28 =>
 ∃ (v29 : Int), w28.cell? ⟨x4, 0, none⟩ = some (.int .i64 v29) ∧
 ∃ (v30 : Int), w28.cell? ⟨x4, 1, none⟩ = some (.int .i64 v30) ∧
 ∃ (v31 : Int), w28.cell? ⟨x4, 2, none⟩ = some (.int .i64 v31) ∧
 ∃ (v32 : BA), w28.cell? ⟨x4, 3, none⟩ = some (.string v32) ∧
 ∃ (v33 : Int), w28.cell? ⟨x4, 4, none⟩ = some (.int .u8 v33) ∧
 R (.returned (.tuple #[.agg #[.int .i64 v29, .int .i64 v30, .int .i64 v31, .string v32, .int .u8 v33], .bool true])) w28) w)
 (k3 R x0 x4 none x7 x8 w)

def k1 (R : EP) (x0 : OA) (x4 : Nat) (x6 : OA) (x7 : Bool) (x8 : BA) (x34 : Bool) (w : World) : Prop :=
 br x34
 (k2 R x0 x4 x6 x7 x8 ((x7 && (!(x8.toList == (ByteArray.mk #[]).toList))) && (!(x8.toList == (ByteArray.mk #[124]).toList))) w)
 (k3 R x0 x4 x6 x7 x8 w)

end g_newPara
def g_newPara (R : EP) (x0 : OA) (x1_0 x1_1 x1_2 : Int) (x1_3 : BA) (x1_4 : Int) (w : World) : Prop :=
 box w #[.int .i64 x1_0, .int .i64 x1_1, .int .i64 x1_2, .string x1_3, .int .u8 x1_4] ty_line fun b1 w2 =>
 box w2 #[.int .i64 0, .int .i64 0, .int .i64 0, .string (ByteArray.mk #[]), .int .u8 0] ty_line fun b3 w4 =>
 callE P i_parseState_para #[.pointer x0] (fun e w6 => ∃ (r5 : OA), e = .returned (.pointer r5) ∧
 tk w6 fun w7 =>
 nilP x0 fun a8 =>
 nilP x0 fun a9 =>
 ∃ (v10 : Int), w7.cell? (a8.add 5) = some (.int .i64 v10) ∧
 ∃ (v11q : OA), ∃ (v11n : Nat), ∃ (v11c : Nat), w7.cell? (a9.add 4) = some (.slice v11q v11n v11c) ∧
 callE P i_line_trimSpaceString #[.pointer (some ⟨b1, 0, none⟩)] (fun e w13 => ∃ (r12 : BA), e = .returned (.string r12) ∧
 ∃ (r14 : Bool), ∃ w15, (do eqGuard .neq ty_P_paraBuilder (.tmp 26) (.const (.pointer none)) (.pointer r5) (.pointer none); binOp .neq ty_P_paraBuilder (.pointer r5) (.pointer none)).run P w13 = .ok (.bool r14) w15 ∧
 br r14
 (nilP r5 fun a16 =>
 ∃ (v17 : OA), w15.cell? (a16.add 1) = some (.pointer v17) ∧
 ∃ (r18 : Bool), ∃ w19, (do eqGuard .neq ty_P_tableBuilder (.tmp 32) (.const (.pointer none)) (.pointer v17) (.pointer none); binOp .neq ty_P_tableBuilder (.pointer v17) (.pointer none)).run P w15 = .ok (.bool r18) w19 ∧
 g_newPara.k1 R x0 b3 r5 (v10 == (IntKind.i64.wrap ((v11n : Int) - 2))) r12 r18 w19)
 (g_newPara.k1 R x0 b3 r5 (v10 == (IntKind.i64.wrap ((v11n : Int) - 2))) r12 false w15)) w7) w4

namespace g_newPara
noncomputable def ac (R : EP) : AC :=
 (.seq (.leaf (sel [0] body)) (.seq (.leaf (sel [1,0] body)) (.seq (.draw (.pure 0 (.pure 1 (.pure 2 (.pure 4 (.pure 5 (.pure 6 (.load 3 (.load 7 (.pure 8 (.pure 9 (.pure 10 (.pure 11 .done)))))))))))) (sel [1,1,0] body)) (.seq (.leaf (sel [1,1,1,0] body)) (.seq (.seq (.leaf (sel [1,1,1,1,0,0] body)) (.mark (leaf [(0, .s .ptr), (4, .s .loc), (6, .s .ptr), (7, .s .bool), (8, .s .str), (34, .s .bool)] (k1 R)) (.cond 34 (.seq (.seq (.leaf (sel [1,1,1,1,0,1,0,0,0] body)) (.mark (leaf [(0, .s .ptr), (4, .s .loc), (6, .s .ptr), (7, .s .bool), (8, .s .str), (43, .s .bool)] (k2 R)) (.leaf (sel [1,1,1,1,0,1,0,0,1] body)))) (.leaf (sel [1,1,1,1,0,1,0,1] body))) (.leaf (sel [1,1,1,1,0,1,1] body))))) (.mark (leaf [(0, .s .ptr), (4, .s .loc), (6, .s .ptr), (7, .s .bool), (8, .s .str)] (k3 R)) (.seq (.seq (.draw (.pure 0 (.pure 1 (.pure 2 (.load 3 (.pure 4 (.pure 5 (.load 6 (.pure 7 (.pure 8 (.pure 9 (.pure 10 (.pure 11 (.pure 12 (.pure 13 (.pure 14 (.pure 15 (.pure 16 (.pure 17 (.load 18 (.pure 19 (.pure 20 (.pure 21 (.pure 22 (.pure 23 (.pure 24 (.pure 25 (.pure 27 (.pure 28 (.pure 29 (.pure 35 (.load 26 (.load 30 (.pure 31 (.pure 32 (.pure 33 (.load 34 (.one 36 (.pure 37 .done)))))))))))))))))))))))))))))))))))))) (sel [1,1,1,1,1,0,0] body)) (.mark (leaf [(0, .s .ptr), (4, .s .loc), (6, .s .ptr), (8, .s .str), (88, .s .bool)] (k4 R)) (.cond 88 (.seq (.draw (.pure 0 (.pure 1 (.pure 2 (.pure 4 (.pure 5 (.pure 6 (.load 3 (.load 7 (.pure 8 (.pure 9 (.pure 10 (.load 11 (.pure 12 .done))))))))))))) (sel [1,1,1,1,1,0,1,0,0] body)) (.seq (.draw (.pure 0 (.pure 1 (.pure 2 (.pure 3 (.pure 5 (.pure 6 (.pure 7 (.load 4 (.load 8 (.pure 9 (.pure 10 (.pure 11 (.pure 12 (.pure 13 (.one 14 .done))))))))))))))) (sel [1,1,1,1,1,0,1,0,1,0] body)) (.leaf (sel [1,1,1,1,1,0,1,0,1,1] body)))) (.leaf (sel [1,1,1,1,1,0,1,1] body))))) (.seq (.seq (.leaf (sel [1,1,1,1,1,1,0,0] body)) (.cond 133 (.seq (.leaf (sel [1,1,1,1,1,1,0,1,0,0] body)) (.block 0 (.loop (leaf [(0, .s .ptr), (4, .s .loc), (6, .s .ptr), (8, .s .str), (11, .s (.int .i64))] (l1 R)) (sel [1,1,1,1,1,1,0,1,0,1,0,0] body)))) (.leaf (sel [1,1,1,1,1,1,0,1,1] body)))) (.mark (leaf [(4, .s .loc), (6, .s .ptr), (8, .s .str)] (k5 R)) (.leaf (sel [1,1,1,1,1,1,1] body)))))))))))
theorem good (R : EP) : Good P 175 (ac R) (QF P [.cell 4 159, .tmp 5] R) :=
 ⟨trivial, ⟨trivial, ⟨⟨by kernel_rfl, by kernel_rfl, fun _ _ _ h => h⟩, ⟨trivial, ⟨⟨trivial, ⟨⟨⟨⟨trivial, ⟨trivial, cutZ⟩⟩, trivial⟩, trivial⟩, cutZ⟩⟩, ⟨⟨⟨⟨by kernel_rfl, by kernel_rfl, fun _ _ _ h => h⟩, ⟨⟨⟨⟨by kernel_rfl, by kernel_rfl, fun _ _ _ h => h⟩, ⟨⟨by kernel_rfl, by kernel_rfl, fun _ _ _ h => h⟩, trivial⟩⟩, trivial⟩, cutZ⟩⟩, ⟨⟨trivial, ⟨⟨trivial, (loopG (al1 R) (bl1 R) (fun _ => by kernel_rfl) (fun Xa => ⟨trivial, ⟨⟨by kernel_rfl, by kernel_rfl, fun _ _ _ h => h⟩, trivial⟩⟩) (fun Xa => by intro x0 x4 x6 x8 x11 ρ w; kernel_rfl) (fun X h _ _ _ _ _ _ g => g X h))⟩, trivial⟩⟩, ⟨trivial, cutZ⟩⟩⟩, cutZ⟩⟩⟩⟩⟩⟩
theorem eq (R : EP) (x0 : OA) (x1_0 x1_1 x1_2 : Int) (x1_3 : BA) (x1_4 : Int) (w : World) : g_newPara R x0 x1_0 x1_1 x1_2 x1_3 x1_4 w = vcA P 175 (ac R) (QF P [.cell 4 159, .tmp 5] R) (fr0 [.pointer x0, .agg #[.int .i64 x1_0, .int .i64 x1_1, .int .i64 x1_2, .string x1_3, .int .u8 x1_4]]) w := by kernel_rfl
theorem sound {R : EP} {x0 : OA} {x1_0 x1_1 x1_2 : Int} {x1_3 : ByteArray} {x1_4 : Int} {w : World} (h : g_newPara R x0 x1_0 x1_1 x1_2 x1_3 x1_4 w) : callE P i_newPara #[.pointer x0, .agg #[.int .i64 x1_0, .int .i64 x1_1, .int .i64 x1_2, .string x1_3, .int .u8 x1_4]] R w :=
 callE_fz (c := body) Tryz.func87 Tryz.call87 (good R) (eq R x0 x1_0 x1_1 x1_2 x1_3 x1_4 w) h
end g_newPara
namespace g_newPre
noncomputable def body : Code := bodyOf Tryz.f131
def k2 (R : EP) (x4 x6 : Nat) (x7 : OA) (w : World) : Prop :=
 tk w fun w51 =>
 nilP x7 fun a52 =>
 ∃ (v53q : OA), ∃ (v53n : Nat), ∃ (v53c : Nat), w51.cell? (a52.add 1) = some (.slice v53q v53n v53c) ∧
 callE P i_line_string #[.pointer (some ⟨x6, 0, none⟩)] (fun e w55 => ∃ (r54 : BA), e = .returned (.string r54) ∧
 SameC w51 w55 (a52.add 1) 1 ∧
 ∃ (r56q : OA), ∃ (r56n : Nat), ∃ (r56c : Nat), ∃ w57, (Instr.buildSlice ty_S_string 1 #[(0, .string r54)]).run P w55 = .ok (.slice r56q r56n r56c) w57 ∧
 SameC w55 w57 (a52.add 1) 1 ∧
 ∃ (r58q : OA), ∃ (r58n : Nat), ∃ (r58c : Nat), ∃ w59, (Builtin.append_ #[ty_S_string, ty_S_string] ty_S_string #[.slice v53q v53n v53c, .slice r56q r56n r56c]).run P w57 = .ok (.slice r58q r58n r58c) w59 ∧
 nilP x7 fun a60 =>
 stV w59 ((a60.add 1).add 0) (.slice r58q r58n r58c) fun w61 =>
 stV w61 ⟨x4, 0, none⟩ (.int .i64 0) fun w62 =>
 stV w62 ⟨x4, 1, none⟩ (.int .i64 0) fun w63 =>
 stV w63 ⟨x4, 2, none⟩ (.int .i64 0) fun w64 =>
 stV w64 ⟨x4, 3, none⟩ (.string (ByteArray.mk #[])) fun w65 =>
 stV w65 ⟨x4, 4, none⟩ (.int .u8 0) fun w66 =>
 ∃ (v67 : Int), w66.cell? ⟨x4, 0, none⟩ = some (.int .i64 v67) ∧
 ∃ (v68 : Int), w66.cell? ⟨x4, 1, none⟩ = some (.int .i64 v68) ∧
 ∃ (v69 : Int), w66.cell? ⟨x4, 2, none⟩ = some (.int .i64 v69) ∧
 ∃ (v70 : BA), w66.cell? ⟨x4, 3, none⟩ = some (.string v70) ∧
 ∃ (v71 : Int), w66.cell? ⟨x4, 4, none⟩ = some (.int .u8 v71) ∧
 R (.returned (.tuple #[.agg #[.int .i64 v67, .int .i64 v68, .int .i64 v69, .string v70, .int .u8 v71], .bool true])) w66) w51

def k1 (R : EP) (x0 : OA) (x3 x4 x6 : Nat) (x18 : Bool) (w : World) : Prop :=
 br x18
 (box w #[.string (ByteArray.mk #[]), .slice none 0 0] ty_preBuilder fun b25 w26 =>
 callE P i_parseState_addBlock #[.pointer x0, .iface ty_P_preBuilder (.pointer (some ⟨b25, 0, none⟩))] (fun e w28 => e = .returned (.tuple #[]) ∧
 nilP x0 fun a29 =>
 ∃ (v30 : Bool), w28.cell? (a29.add 6) = some (.bool v30) ∧
 br v30
 (nilP x0 fun a31 =>
 stV w28 ((a31.add 6).add 0) (.bool true) fun w32 =>
 k2 R x4 x6 (some ⟨b25, 0, none⟩) w32)
 (∃ (v33 : Int), w28.cell? ⟨x6, 4, none⟩ = some (.int .u8 v33) ∧
 nilP x0 fun a34 =>
 stV w28 ((a34.add 6).add 0) (.bool (v33 != 10)) fun w35 =>
 k2 R x4 x6 (some ⟨b25, 0, none⟩) w35)) w26)
 (∃ (v36 : Int), w.cell? ⟨x3, 0, none⟩ = some (.int .i64 v36) ∧
 ∃ (v37 : Int), w.cell? ⟨x3, 1, none⟩ = some (.int .i64 v37) ∧
 ∃ (v38 : Int), w.cell? ⟨x3, 2, none⟩ = some (.int .i64 v38) ∧
 ∃ (v39 : BA), w.cell? ⟨x3, 3, none⟩ = some (.string v39) ∧
 ∃ (v40 : Int), w.cell? ⟨x3, 4, none⟩ = some (.int .u8 v40) ∧
 stV w ⟨x4, 0, none⟩ (.int .i64 v36) fun w41 =>
 stV w41 ⟨x4, 1, none⟩ (.int .i64 v37) fun w42 =>
 stV w42 ⟨x4, 2, none⟩ (.int .i64 v38) fun w43 =>
 stV w43 ⟨x4, 3, none⟩ (.string v39) fun w44 =>
 stV w44 ⟨x4, 4, none⟩ (.int .u8 v40) fun w45 =>
 ∃ (v46 : Int), w45.cell? ⟨x4, 0, none⟩ = some (.int .i64 v46) ∧
 ∃ (v47 : Int), w45.cell? ⟨x4, 1, none⟩ = some (.int .i64 v47) ∧
 ∃ (v48 : Int), w45.cell? ⟨x4, 2, none⟩ = some (.int .i64 v48) ∧
 ∃ (v49 : BA), w45.cell? ⟨x4, 3, none⟩ = some (.string v49) ∧
 ∃ (v50 : Int), w45.cell? ⟨x4, 4, none⟩ = some (.int .u8 v50) ∧
 R (.returned (.tuple #[.agg #[.int .i64 v46, .int .i64 v47, .int .i64 v48, .string v49, .int .u8 v50], .bool false])) w45)

end g_newPre
def g_newPre (R : EP) (x0 : OA) (x1_0 x1_1 x1_2 : Int) (x1_3 : BA) (x1_4 : Int) (w : World) : Prop :=
 box w #[.int .i64 x1_0, .int .i64 x1_1, .int .i64 x1_2, .string x1_3, .int .u8 x1_4] ty_line fun b1 w2 =>
 box w2 #[.int .i64 0, .int .i64 0, .int .i64 0, .string (ByteArray.mk #[]), .int .u8 0] ty_line fun b3 w4 =>
 ∃ (v5 : Int), w4.cell? ⟨b1, 0, none⟩ = some (.int .i64 v5) ∧
 ∃ (v6 : Int), w4.cell? ⟨b1, 1, none⟩ = some (.int .i64 v6) ∧
 ∃ (v7 : Int), w4.cell? ⟨b1, 2, none⟩ = some (.int .i64 v7) ∧
 ∃ (v8 : BA), w4.cell? ⟨b1, 3, none⟩ = some (.string v8) ∧
 ∃ (v9 : Int), w4.cell? ⟨b1, 4, none⟩ = some (.int .u8 v9) ∧
 box w4 #[.int .i64 0, .int .i64 0, .int .i64 0, .string (ByteArray.mk #[]), .int .u8 0] ty_line fun b10 w11 =>
 stV w11 ⟨b10, 0, none⟩ (.int .i64 v5) fun w12 =>
 stV w12 ⟨b10, 1, none⟩ (.int .i64 v6) fun w13 =>
 stV w13 ⟨b10, 2, none⟩ (.int .i64 v7) fun w14 =>
 stV w14 ⟨b10, 3, none⟩ (.string v8) fun w15 =>
 stV w15 ⟨b10, 4, none⟩ (.int .u8 v9) fun w16 =>
 callE P i_parseState_para #[.pointer x0] (fun e w18 => ∃ (r17 : OA), e = .returned (.pointer r17) ∧
 ∃ (r19 : Bool), ∃ w20, (do eqGuard .eql ty_P_paraBuilder (.tmp 10) (.const (.pointer none)) (.pointer r17) (.pointer none); binOp .eql ty_P_paraBuilder (.pointer r17) (.pointer none)).run P w18 = .ok (.bool r19) w20 ∧
 br r19
 (callE P i_line_trimSpace #[.pointer (some ⟨b10, 0, none⟩), .int .i64 4, .int .i64 4, .bool false] (fun e w22 => ∃ (r21 : Bool), e = .returned (.bool r21) ∧
 br r21
 (callE P i_line_isBlank #[.pointer (some ⟨b10, 0, none⟩)] (fun e w24 => ∃ (r23 : Bool), e = .returned (.bool r23) ∧
 g_newPre.k1 R x0 b1 b3 b10 (!r23) w24) w22)
 (g_newPre.k1 R x0 b1 b3 b10 false w22)) w20)
 (g_newPre.k1 R x0 b1 b3 b10 false w20)) w16

namespace g_newPre
noncomputable def ac (R : EP) : AC :=
 (.seq (.leaf (sel [0] body)) (.seq (.leaf (sel [1,0] body)) (.seq (.seq (.leaf (sel [1,1,0,0] body)) (.mark (leaf [(0, .s .ptr), (3, .s .loc), (4, .s .loc), (6, .s .loc), (18, .s .bool)] (k1 R)) (.cond 18 (.seq (.leaf (sel [1,1,0,1,0,0] body)) (.seq (.leaf (sel [1,1,0,1,0,1,0] body)) (.seq (.leaf (sel [1,1,0,1,0,1,1,0] body)) (.mark (leaf [(4, .s .loc), (6, .s .loc), (7, .s .ptr)] (k2 R)) (.seq (.draw (.pure 0 (.pure 1 (.pure 2 (.pure 3 (.load 4 (.one 5 (.one 6 (.one 7 (.pure 8 (.pure 9 (.one 10 .done))))))))))) (sel [1,1,0,1,0,1,1,1,0] body)) (.leaf (sel [1,1,0,1,0,1,1,1,1] body))))))) (.leaf (sel [1,1,0,1,1] body))))) (.leaf (sel [1,1,1] body)))))
theorem good (R : EP) : Good P 49 (ac R) (QF P [.cell 4 159, .tmp 5] R) :=
 ⟨trivial, ⟨trivial, ⟨⟨trivial, ⟨⟨⟨trivial, ⟨trivial, ⟨trivial, ⟨⟨⟨by kernel_rfl, by kernel_rfl, fun _ _ _ h => h⟩, trivial⟩, cutZ⟩⟩⟩⟩, trivial⟩, cutZ⟩⟩, trivial⟩⟩⟩
theorem eq (R : EP) (x0 : OA) (x1_0 x1_1 x1_2 : Int) (x1_3 : BA) (x1_4 : Int) (w : World) : g_newPre R x0 x1_0 x1_1 x1_2 x1_3 x1_4 w = vcA P 49 (ac R) (QF P [.cell 4 159, .tmp 5] R) (fr0 [.pointer x0, .agg #[.int .i64 x1_0, .int .i64 x1_1, .int .i64 x1_2, .string x1_3, .int .u8 x1_4]]) w := by kernel_rfl
theorem sound {R : EP} {x0 : OA} {x1_0 x1_1 x1_2 : Int} {x1_3 : ByteArray} {x1_4 : Int} {w : World} (h : g_newPre R x0 x1_0 x1_1 x1_2 x1_3 x1_4 w) : callE P i_newPre #[.pointer x0, .agg #[.int .i64 x1_0, .int .i64 x1_1, .int .i64 x1_2, .string x1_3, .int .u8 x1_4]] R w :=
 callE_fz (c := body) Tryz.func131 Tryz.call131 (good R) (eq R x0 x1_0 x1_1 x1_2 x1_3 x1_4 w) h
end g_newPre
namespace g_line_trimFence
noncomputable def body : Code := bodyOf Tryz.f190
def k1 (R : EP) (Xa : OA → OA → OA → OA → Nat → WP) (x0 x1 : OA) (x2 x3 : OA) (x9 : Nat) (w : World) : Prop :=
 nilP x3 fun a20 =>
 ∃ (v21 : Int), w.cell? a20 = some (.int .i64 v21) ∧
 nilP x3 fun a22 =>
 stV w (a22.add 0) (.int .i64 (IntKind.i64.wrap (v21 + 1))) fun w23 =>
 Xa x0 x1 x2 x3 x9 w23

def k4 (R : EP) (x0 x1 x2 : OA) (x11 : BA) (x12 : Int) (x14 : BA) (w : World) : Prop :=
 callE P i_trimSpaceTab #[.string x14] (fun e w37 => ∃ (r36 : BA), e = .returned (.string r36) ∧
 nilP x2 fun a38 =>
 stV w37 (a38.add 0) (.string r36) fun w39 =>
 0 ≤ x12 ∧ x12 ≤ (x11.size : Int) ∧
 nilP x1 fun a40 =>
 stV w39 (a40.add 0) (.string (x11.extract 0 (Int.toNat x12))) fun w41 =>
 nilP x0 fun a42 =>
 stV w41 (a42.add 0) (.int .i64 0) fun w43 =>
 stV w43 (a42.add 1) (.int .i64 0) fun w44 =>
 stV w44 (a42.add 2) (.int .i64 0) fun w45 =>
 stV w45 (a42.add 3) (.string (ByteArray.mk #[])) fun w46 =>
 stV w46 (a42.add 4) (.int .u8 0) fun w47 =>
 R (.returned (.bool true)) w47) w

def bl2 (R : EP) (Xb : OA → OA → OA → Nat → Int → BA → Int → Int → WP) (x0 x1 x2 : OA) (x9 : Nat) (x10 : Int) (x11 : BA) (x12 x13 : Int) (w : World) : Prop :=
 callE P i_line_trim #[.pointer (some ⟨x9, 0, none⟩), .int .u8 x10] (fun e w29 => ∃ (r28 : Bool), e = .returned (.bool r28) ∧
 br (!r28)
 (br (decide (x13 ≥ 3))
 (callE P i_line_trimString #[.pointer (some ⟨x9, 0, none⟩)] (fun e w31 => ∃ (r30 : BA), e = .returned (.string r30) ∧
 callE P i_mdUnescaper_Replace #[.agg #[], .string r30] (fun e w33 => ∃ (r32 : BA), e = .returned (.string r32) ∧
 br (x10 == 96)
 (callE P i_zzContains #[.string r32, .string (ByteArray.mk #[96])] (fun e w35 => ∃ (r34 : Bool), e = .returned (.bool r34) ∧
 br r34
 (R (.returned (.bool false)) w35)
 (k4 R x0 x1 x2 x11 x12 r32 w35)) w33)
 (k4 R x0 x1 x2 x11 x12 r32 w33)) w31) w29)
 (R (.returned (.bool false)) w29))
 (Xb x0 x1 x2 x9 x10 x11 (IntKind.i64.wrap (x12 + 1)) (IntKind.i64.wrap (x13 + 1)) w29)) w
def l2 (R : EP) (x0 x1 x2 : OA) (x9 : Nat) (x10 : Int) (x11 : BA) (x12 x13 : Int) (w : World) : Prop :=
 ∀ X : OA → OA → OA → Nat → Int → BA → Int → Int → WP, (∀ x0 x1 x2 x9 x10 x11 x12 x13 w, bl2 R X x0 x1 x2 x9 x10 x11 x12 x13 w → X x0 x1 x2 x9 x10 x11 x12 x13 w) → X x0 x1 x2 x9 x10 x11 x12 x13 w

noncomputable def al2 (R : EP) (Xb : OA → OA → OA → Nat → Int → BA → Int → Int → WP) : AC :=
 (.leaf (sel [1,1,1,1,0,1,1,0,1,0,1,1,0,1,0,0] body))
def k3 (R : EP) (x0 x1 x2 : OA) (x9 : Nat) (x10 : Int) (x34 : Bool) (w : World) : Prop :=
 br x34
 (callE P i_line_string #[.pointer (some ⟨x9, 0, none⟩)] (fun e w27 => ∃ (r26 : BA), e = .returned (.string r26) ∧
 l2 R x0 x1 x2 x9 x10 r26 0 0 w27) w)
 (R (.returned (.bool false)) w)

def k2 (R : EP) (x0 x1 x2 : OA) (x9 : Nat) (w : World) : Prop :=
 callE P i_line_peek #[.pointer (some ⟨x9, 0, none⟩)] (fun e w25 => ∃ (r24 : Int), e = .returned (.int .u8 r24) ∧
 br (r24 == 96)
 (k3 R x0 x1 x2 x9 r24 true w25)
 (k3 R x0 x1 x2 x9 r24 (r24 == 126) w25)) w

def bl1 (R : EP) (Xa : OA → OA → OA → OA → Nat → WP) (x0 x1 : OA) (x2 x3 : OA) (x9 : Nat) (w : World) : Prop :=
 nilP x3 fun a16 =>
 ∃ (v17 : Int), w.cell? a16 = some (.int .i64 v17) ∧
 br (decide (v17 < 3))
 (callE P i_line_trimSpace #[.pointer (some ⟨x9, 0, none⟩), .int .i64 1, .int .i64 1, .bool false] (fun e w19 => ∃ (r18 : Bool), e = .returned (.bool r18) ∧
 br r18
 (k1 R Xa x0 x1 x2 x3 x9 w19)
 (k2 R x0 x1 x2 x9 w19)) w)
 (k2 R x0 x1 x2 x9 w)
def l1 (R : EP) (x0 x1 : OA) (x2 x3 : OA) (x9 : Nat) (w : World) : Prop :=
 ∀ X : OA → OA → OA → OA → Nat → WP, (∀ x0 x1 x2 x3 x9 w, bl1 R X x0 x1 x2 x3 x9 w → X x0 x1 x2 x3 x9 w) → X x0 x1 x2 x3 x9 w

noncomputable def al1 (R : EP) (Xa : OA → OA → OA → OA → Nat → WP) : AC :=
 (.seq (.leaf (sel [1,1,1,0,0,0,0] body)) (.mark (leaf [(0, .s .ptr), (1, .s .ptr), (2, .s .ptr), (3, .s .ptr), (9, .s .loc)] (k1 R Xa)) (.leaf (sel [1,1,1,0,0,0,1] body))))
end g_line_trimFence
def g_line_trimFence (R : EP) (x0 x1 : OA) (x2 x3 : OA) (w : World) : Prop :=
 nilP x0 fun a1 =>
 ∃ (v2 : Int), w.cell? (a1.add 0) = some (.int .i64 v2) ∧
 ∃ (v3 : Int), w.cell? (a1.add 1) = some (.int .i64 v3) ∧
 ∃ (v4 : Int), w.cell? (a1.add 2) = some (.int .i64 v4) ∧
 ∃ (v5 : BA), w.cell? (a1.add 3) = some (.string v5) ∧
 ∃ (v6 : Int), w.cell? (a1.add 4) = some (.int .u8 v6) ∧
 box w #[.int .i64 0, .int .i64 0, .int .i64 0, .string (ByteArray.mk #[]), .int .u8 0] ty_line fun b7 w8 =>
 stV w8 ⟨b7, 0, none⟩ (.int .i64 v2) fun w9 =>
 stV w9 ⟨b7, 1, none⟩ (.int .i64 v3) fun w10 =>
 stV w10 ⟨b7, 2, none⟩ (.int .i64 v4) fun w11 =>
 stV w11 ⟨b7, 3, none⟩ (.string v5) fun w12 =>
 stV w12 ⟨b7, 4, none⟩ (.int .u8 v6) fun w13 =>
 nilP x3 fun a14 =>
 stV w13 (a14.add 0) (.int .i64 0) fun w15 =>
 g_line_trimFence.l1 R x0 x1 x2 x3 b7 w15

namespace g_line_trimFence
noncomputable def ac (R : EP) : AC :=
 (.seq (.leaf (sel [0] body)) (.seq (.leaf (sel [1,0] body)) (.seq (.leaf (sel [1,1,0] body)) (.seq (.block 0 (.loop (leaf [(0, .s .ptr), (1, .s .ptr), (2, .s .ptr), (3, .s .ptr), (9, .s .loc)] (l1 R)) (sel [1,1,1,0,0,0] body))) (.mark (leaf [(0, .s .ptr), (1, .s .ptr), (2, .s .ptr), (9, .s .loc)] (k2 R)) (.seq (.seq (.leaf (sel [1,1,1,1,0,0] body)) (.seq (.leaf (sel [1,1,1,1,0,1,0] body)) (.block 2 (.seq (.leaf (sel [1,1,1,1,0,1,1,0,0] body)) (.mark (leaf [(0, .s .ptr), (1, .s .ptr), (2, .s .ptr), (9, .s .loc), (10, .s (.int .u8)), (34, .s .bool)] (k3 R)) (.cond 34 (.seq (.leaf (sel [1,1,1,1,0,1,1,0,1,0,0] body)) (.seq (.leaf (sel [1,1,1,1,0,1,1,0,1,0,1,0] body)) (.seq (.seq (.leaf (sel [1,1,1,1,0,1,1,0,1,0,1,1,0,0] body)) (.block 3 (.loop (leaf [(0, .s .ptr), (1, .s .ptr), (2, .s .ptr), (9, .s .loc), (10, .s (.int .u8)), (11, .s .str), (12, .s (.int .i64)), (13, .s (.int .i64))] (l2 R)) (sel [1,1,1,1,0,1,1,0,1,0,1,1,0,1,0,0] body)))) (.seq (.leaf (sel [1,1,1,1,0,1,1,0,1,0,1,1,1,0] body)) (.seq (.leaf (sel [1,1,1,1,0,1,1,0,1,0,1,1,1,1,0] body)) (.mark (leaf [(0, .s .ptr), (1, .s .ptr), (2, .s .ptr), (11, .s .str), (12, .s (.int .i64)), (14, .s .str)] (k4 R)) (.leaf (sel [1,1,1,1,0,1,1,0,1,0,1,1,1,1,1] body)))))))) (.leaf (sel [1,1,1,1,0,1,1,0,1,1] body)))))))) (.leaf (sel [1,1,1,1,1] body))))))))
theorem good (R : EP) : Good P 69 (ac R) (QF P [.tmp 8] R) :=
 ⟨trivial, ⟨trivial, ⟨trivial, ⟨(loopG (al1 R) (bl1 R) (fun _ => by kernel_rfl) (fun Xa => ⟨trivial, ⟨trivial, cutZ⟩⟩) (fun Xa => by intro x0 x1 x2 x3 x9 ρ w; kernel_rfl) (fun X h _ _ _ _ _ _ g => g X h)), ⟨⟨⟨trivial, ⟨trivial, ⟨trivial, ⟨⟨⟨trivial, ⟨trivial, ⟨⟨trivial, (loopG (al2 R) (bl2 R) (fun _ => by kernel_rfl) (fun Xb => trivial) (fun Xb => by intro x0 x1 x2 x9 x10 x11 x12 x13 ρ w; kernel_rfl) (fun X h _ _ _ _ _ _ _ _ _ g => g X h))⟩, ⟨trivial, ⟨trivial, ⟨trivial, cutZ⟩⟩⟩⟩⟩⟩, trivial⟩, cutZ⟩⟩⟩⟩, trivial⟩, cutZ⟩⟩⟩⟩⟩
theorem eq (R : EP) (x0 x1 : OA) (x2 x3 : OA) (w : World) : g_line_trimFence R x0 x1 x2 x3 w = vcA P 69 (ac R) (QF P [.tmp 8] R) (fr0 [.pointer x0, .pointer x1, .pointer x2, .pointer x3]) w := by kernel_rfl
theorem sound {R : EP} {x0 x1 : OA} {x2 x3 : OA} {w : World} (h : g_line_trimFence R x0 x1 x2 x3 w) : callE P i_line_trimFence #[.pointer x0, .pointer x1, .pointer x2, .pointer x3] R w :=
 callE_fz (c := body) Tryz.func190 Tryz.call190 (good R) (eq R x0 x1 x2 x3 w) h
end g_line_trimFence
namespace g_newFence
noncomputable def body : Code := bodyOf Tryz.f130
def k4 (R : EP) (x0 : OA) (x4 x6 : Nat) (x7 x8 : Nat) (w : World) : Prop :=
 ∃ (v60 : BA), w.cell? ⟨x6, 0, none⟩ = some (.string v60) ∧
 ∃ (v61 : BA), w.cell? ⟨x7, 0, none⟩ = some (.string v61) ∧
 ∃ (v62 : Int), w.cell? ⟨x8, 0, none⟩ = some (.int .i64 v62) ∧
 box w #[.string v60, .string v61, .int .i64 v62, .slice none 0 0] ty_fenceBuilder fun b63 w64 =>
 callE P i_parseState_addBlock #[.pointer x0, .iface ty_P_fenceBuilder (.pointer (some ⟨b63, 0, none⟩))] (fun e w66 => e = .returned (.tuple #[]) ∧
 stV w66 ⟨x4, 0, none⟩ (.int .i64 0) fun w67 =>
 stV w67 ⟨x4, 1, none⟩ (.int .i64 0) fun w68 =>
 stV w68 ⟨x4, 2, none⟩ (.int .i64 0) fun w69 =>
 stV w69 ⟨x4, 3, none⟩ (.string (ByteArray.mk #[])) fun w70 =>
 stV w70 ⟨x4, 4, none⟩ (.int .u8 0) fun w71 =>
 ∃ (v72 : Int), w71.cell? ⟨x4, 0, none⟩ = some (.int .i64 v72) ∧
 ∃ (v73 : Int), w71.cell? ⟨x4, 1, none⟩ = some (.int .i64 v73) ∧
 ∃ (v74 : Int), w71.cell? ⟨x4, 2, none⟩ = some (.int .i64 v74) ∧
 ∃ (v75 : BA), w71.cell? ⟨x4, 3, none⟩ = some (.string v75) ∧
 ∃ (v76 : Int), w71.cell? ⟨x4, 4, none⟩ = some (.int .u8 v76) ∧
 R (.returned (.tuple #[.agg #[.int .i64 v72, .int .i64 v73, .int .i64 v74, .string v75, .int .u8 v76], .bool true])) w71) w64

def bl1 (R : EP) (Xa : OA → Nat → Nat → Nat → Nat → Value → WP) (x0 : OA) (x4 x6 : Nat) (x7 x8 : Nat) (x36 : Value) (w : World) : Prop :=
 (∃ w53, (Instr.next x36 true ty_).run P w = .ok (.tuple #[.bool false]) w53 ∧
 k4 R x0 x4 x6 x7 x8 w53) ∨
 (∃ (r54_0 : Int), ∃ (r54_1 : Int), ∃ w55, (Instr.next x36 true ty_).run P w = .ok (.tuple #[.bool true, .int .i64 r54_0, .int .i32 r54_1]) w55 ∧
 callE P i_isUnicodeSpace #[.int .i32 r54_1] (fun e w57 => ∃ (r56 : Bool), e = .returned (.bool r56) ∧
 br r56
 (br (r54_1 != 32)
 (nilP x0 fun a58 =>
 stV w57 ((a58.add 6).add 0) (.bool true) fun w59 =>
 k4 R x0 x4 x6 x7 x8 w59)
 (k4 R x0 x4 x6 x7 x8 w57))
 (Xa x0 x4 x6 x7 x8 x36 w57)) w55)
def l1 (R : EP) (x0 : OA) (x4 x6 : Nat) (x7 x8 : Nat) (x36 : Value) (w : World) : Prop :=
 ∀ X : OA → Nat → Nat → Nat → Nat → Value → WP, (∀ x0 x4 x6 x7 x8 x36 w, bl1 R X x0 x4 x6 x7 x8 x36 w → X x0 x4 x6 x7 x8 x36 w) → X x0 x4 x6 x7 x8 x36 w

noncomputable def al1 (R : EP) (Xa : OA → Nat → Nat → Nat → Nat → Value → WP) : AC :=
 (.leaf (sel [1,1,1,1,0,1,0,1,0,1,0,0] body))
def k2 (R : EP) (x0 : OA) (x4 x6 : Nat) (x7 x8 : Nat) (w : World) : Prop :=
 ∃ (v48 : BA), w.cell? ⟨x7, 0, none⟩ = some (.string v48) ∧
 ∃ (r49 : Value), ∃ w50, (Instr.range ty_string (.string v48)).run P w = .ok r49 w50 ∧
 l1 R x0 x4 x6 x7 x8 r49 w50

def k3 (R : EP) (x0 : OA) (x4 x6 : Nat) (x7 x8 : Nat) (x31 : Bool) (w : World) : Prop :=
 br x31
 (nilP x0 fun a51 =>
 stV w ((a51.add 6).add 0) (.bool true) fun w52 =>
 k2 R x0 x4 x6 x7 x8 w52)
 (k2 R x0 x4 x6 x7 x8 w)

def k1 (R : EP) (x0 : OA) (x4 x6 : Nat) (x7 x8 : Nat) (x20 : Bool) (w : World) : Prop :=
 br x20
 (nilP x0 fun a42 =>
 stV w ((a42.add 6).add 0) (.bool true) fun w43 =>
 k2 R x0 x4 x6 x7 x8 w43)
 (∃ (v44 : BA), w.cell? ⟨x7, 0, none⟩ = some (.string v44) ∧
 br (!(v44.toList == (ByteArray.mk #[]).toList))
 (∃ (v45 : BA), w.cell? ⟨x7, 0, none⟩ = some (.string v45) ∧
 (true = true → 0 ≤ (0 : Int) ∧ 0 < (v45.size : Int)) ∧
 callE P i_isLetter #[.int .u8 (bt v45 0)] (fun e w47 => ∃ (r46 : Bool), e = .returned (.bool r46) ∧
 k3 R x0 x4 x6 x7 x8 (!r46) w47) w)
 (k3 R x0 x4 x6 x7 x8 false w))

end g_newFence
def g_newFence (R : EP) (x0 : OA) (x1_0 x1_1 x1_2 : Int) (x1_3 : BA) (x1_4 : Int) (w : World) : Prop :=
 box w #[.int .i64 x1_0, .int .i64 x1_1, .int .i64 x1_2, .string x1_3, .int .u8 x1_4] ty_line fun b1 w2 =>
 box w2 #[.int .i64 0, .int .i64 0, .int .i64 0, .string (ByteArray.mk #[]), .int .u8 0] ty_line fun b3 w4 =>
 box w4 #[.string (ByteArray.mk #[])] ty_string fun b5 w6 =>
 box w6 #[.string (ByteArray.mk #[])] ty_string fun b7 w8 =>
 box w8 #[.int .i64 0] ty_int fun b9 w10 =>
 ∃ (v11 : Int), w10.cell? ⟨b1, 0, none⟩ = some (.int .i64 v11) ∧
 ∃ (v12 : Int), w10.cell? ⟨b1, 1, none⟩ = some (.int .i64 v12) ∧
 ∃ (v13 : Int), w10.cell? ⟨b1, 2, none⟩ = some (.int .i64 v13) ∧
 ∃ (v14 : BA), w10.cell? ⟨b1, 3, none⟩ = some (.string v14) ∧
 ∃ (v15 : Int), w10.cell? ⟨b1, 4, none⟩ = some (.int .u8 v15) ∧
 box w10 #[.int .i64 0, .int .i64 0, .int .i64 0, .string (ByteArray.mk #[]), .int .u8 0] ty_line fun b16 w17 =>
 stV w17 ⟨b16, 0, none⟩ (.int .i64 v11) fun w18 =>
 stV w18 ⟨b16, 1, none⟩ (.int .i64 v12) fun w19 =>
 stV w19 ⟨b16, 2, none⟩ (.int .i64 v13) fun w20 =>
 stV w20 ⟨b16, 3, none⟩ (.string v14) fun w21 =>
 stV w21 ⟨b16, 4, none⟩ (.int .u8 v15) fun w22 =>
 callE P i_line_trimFence #[.pointer (some ⟨b16, 0, none⟩), .pointer (some ⟨b5, 0, none⟩), .pointer (some ⟨b7, 0, none⟩), .pointer (some ⟨b9, 0, none⟩)] (fun e w24 => ∃ (r23 : Bool), e = .returned (.bool r23) ∧
 br r23
 (∃ (v25 : BA), w24.cell? ⟨b5, 0, none⟩ = some (.string v25) ∧
 0 ≤ (0 : Int) ∧ 0 < (v25.size : Int) ∧
 br ((bt v25 0) == 126)
 (∃ (v26 : BA), w24.cell? ⟨b7, 0, none⟩ = some (.string v26) ∧
 g_newFence.k1 R x0 b3 b5 b7 b9 (!(v26.toList == (ByteArray.mk #[]).toList)) w24)
 (g_newFence.k1 R x0 b3 b5 b7 b9 false w24))
 (∃ (v27 : Int), w24.cell? ⟨b1, 0, none⟩ = some (.int .i64 v27) ∧
 ∃ (v28 : Int), w24.cell? ⟨b1, 1, none⟩ = some (.int .i64 v28) ∧
 ∃ (v29 : Int), w24.cell? ⟨b1, 2, none⟩ = some (.int .i64 v29) ∧
 ∃ (v30 : BA), w24.cell? ⟨b1, 3, none⟩ = some (.string v30) ∧
 ∃ (v31 : Int), w24.cell? ⟨b1, 4, none⟩ = some (.int .u8 v31) ∧
 stV w24 ⟨b3, 0, none⟩ (.int .i64 v27) fun w32 =>
 stV w32 ⟨b3, 1, none⟩ (.int .i64 v28) fun w33 =>
 stV w33 ⟨b3, 2, none⟩ (.int .i64 v29) fun w34 =>
 stV w34 ⟨b3, 3, none⟩ (.string v30) fun w35 =>
 stV w35 ⟨b3, 4, none⟩ (.int .u8 v31) fun w36 =>
 ∃ (v37 : Int), w36.cell? ⟨b3, 0, none⟩ = some (.int .i64 v37) ∧
 ∃ (v38 : Int), w36.cell? ⟨b3, 1, none⟩ = some (.int .i64 v38) ∧
 ∃ (v39 : Int), w36.cell? ⟨b3, 2, none⟩ = some (.int .i64 v39) ∧
 ∃ (v40 : BA), w36.cell? ⟨b3, 3, none⟩ = some (.string v40) ∧
 ∃ (v41 : Int), w36.cell? ⟨b3, 4, none⟩ = some (.int .u8 v41) ∧
 R (.returned (.tuple #[.agg #[.int .i64 v37, .int .i64 v38, .int .i64 v39, .string v40, .int .u8 v41], .bool false])) w36)) w22

namespace g_newFence
noncomputable def ac (R : EP) : AC :=
 (.seq (.leaf (sel [0] body)) (.seq (.leaf (sel [1,0] body)) (.seq (.leaf (sel [1,1,0] body)) (.seq (.leaf (sel [1,1,1,0] body)) (.seq (.seq (.leaf (sel [1,1,1,1,0,0] body)) (.cond 13 (.seq (.seq (.leaf (sel [1,1,1,1,0,1,0,0,0] body)) (.mark (leaf [(0, .s .ptr), (4, .s .loc), (6, .s .loc), (7, .s .loc), (8, .s .loc), (20, .s .bool)] (k1 R)) (.cond 20 (.leaf (sel [1,1,1,1,0,1,0,0,1,0] body)) (.seq (.leaf (sel [1,1,1,1,0,1,0,0,1,1,0] body)) (.mark (leaf [(0, .s .ptr), (4, .s .loc), (6, .s .loc), (7, .s .loc), (8, .s .loc), (31, .s .bool)] (k3 R)) (.leaf (sel [1,1,1,1,0,1,0,0,1,1,1] body))))))) (.mark (leaf [(0, .s .ptr), (4, .s .loc), (6, .s .loc), (7, .s .loc), (8, .s .loc)] (k2 R)) (.seq (.seq (.leaf (sel [1,1,1,1,0,1,0,1,0,0] body)) (.block 0 (.loop (leaf [(0, .s .ptr), (4, .s .loc), (6, .s .loc), (7, .s .loc), (8, .s .loc), (36, .s .any)] (l1 R)) (sel [1,1,1,1,0,1,0,1,0,1,0,0] body)))) (.mark (leaf [(0, .s .ptr), (4, .s .loc), (6, .s .loc), (7, .s .loc), (8, .s .loc)] (k4 R)) (.leaf (sel [1,1,1,1,0,1,0,1,1] body)))))) (.leaf (sel [1,1,1,1,0,1,1] body)))) (.leaf (sel [1,1,1,1,1] body)))))))
theorem good (R : EP) : Good P 57 (ac R) (QF P [.cell 4 159, .tmp 5] R) :=
 ⟨trivial, ⟨trivial, ⟨trivial, ⟨trivial, ⟨⟨trivial, ⟨⟨⟨trivial, ⟨⟨trivial, ⟨trivial, ⟨trivial, cutZ⟩⟩⟩, cutZ⟩⟩, ⟨⟨⟨trivial, (loopG (al1 R) (bl1 R) (fun _ => by kernel_rfl) (fun Xa => trivial) (fun Xa => by intro x0 x4 x6 x7 x8 x36 ρ w; kernel_rfl) (fun X h _ _ _ _ _ _ _ g => g X h))⟩, ⟨trivial, cutZ⟩⟩, cutZ⟩⟩, trivial⟩⟩, trivial⟩⟩⟩⟩⟩
theorem eq (R : EP) (x0 : OA) (x1_0 x1_1 x1_2 : Int) (x1_3 : BA) (x1_4 : Int) (w : World) : g_newFence R x0 x1_0 x1_1 x1_2 x1_3 x1_4 w = vcA P 57 (ac R) (QF P [.cell 4 159, .tmp 5] R) (fr0 [.pointer x0, .agg #[.int .i64 x1_0, .int .i64 x1_1, .int .i64 x1_2, .string x1_3, .int .u8 x1_4]]) w := by kernel_rfl
theorem sound {R : EP} {x0 : OA} {x1_0 x1_1 x1_2 : Int} {x1_3 : ByteArray} {x1_4 : Int} {w : World} (h : g_newFence R x0 x1_0 x1_1 x1_2 x1_3 x1_4 w) : callE P i_newFence #[.pointer x0, .agg #[.int .i64 x1_0, .int .i64 x1_1, .int .i64 x1_2, .string x1_3, .int .u8 x1_4]] R w :=
 callE_fz (c := body) Tryz.func130 Tryz.call130 (good R) (eq R x0 x1_0 x1_1 x1_2 x1_3 x1_4 w) h
end g_newFence
namespace g_newSetextHeading
noncomputable def body : Code := bodyOf Tryz.f126
def k1 (R : EP) (x0 : OA) (x3 x4 x6 : Nat) (x19 : Bool) (w : World) : Prop :=
 br x19
 (callE P i_parseState_closeBlock #[.pointer x0] (fun e w28 => ∃ (r27 : Value), e = .returned r27 ∧
 callE P i_parseState_last #[.pointer x0] (fun e w30 => ∃ (r29 : Value), e = .returned r29 ∧
 ∃ (r31_0 : OA), ∃ (r31_1 : Bool), ∃ w32, (Instr.typeAssert r29 ty_Block ty_P_Paragraph true).run P w30 = .ok (.tuple #[.pointer r31_0, .bool r31_1]) w32 ∧
 br (!r31_1)
 (∃ (v33 : Int), w32.cell? ⟨x3, 0, none⟩ = some (.int .i64 v33) ∧
 ∃ (v34 : Int), w32.cell? ⟨x3, 1, none⟩ = some (.int .i64 v34) ∧
 ∃ (v35 : Int), w32.cell? ⟨x3, 2, none⟩ = some (.int .i64 v35) ∧
 ∃ (v36 : BA), w32.cell? ⟨x3, 3, none⟩ = some (.string v36) ∧
 ∃ (v37 : Int), w32.cell? ⟨x3, 4, none⟩ = some (.int .u8 v37) ∧
 stV w32 ⟨x4, 0, none⟩ (.int .i64 v33) fun w38 =>
 stV w38 ⟨x4, 1, none⟩ (.int .i64 v34) fun w39 =>
 stV w39 ⟨x4, 2, none⟩ (.int .i64 v35) fun w40 =>
 stV w40 ⟨x4, 3, none⟩ (.string v36) fun w41 =>
 stV w41 ⟨x4, 4, none⟩ (.int .u8 v37) fun w42 =>
 ∃ (v43 : Int), w42.cell? ⟨x4, 0, none⟩ = some (.int .i64 v43) ∧
 ∃ (v44 : Int), w42.cell? ⟨x4, 1, none⟩ = some (.int .i64 v44) ∧
 ∃ (v45 : Int), w42.cell? ⟨x4, 2, none⟩ = some (.int .i64 v45) ∧
 ∃ (v46 : BA), w42.cell? ⟨x4, 3, none⟩ = some (.string v46) ∧
 ∃ (v47 : Int), w42.cell? ⟨x4, 4, none⟩ = some (.int .u8 v47) ∧
 R (.returned (.tuple #[.agg #[.int .i64 v43, .int .i64 v44, .int .i64 v45, .string v46, .int .u8 v47], .bool false])) w42)
 (callE P i_parseState_deleteLast #[.pointer x0] (fun e w49 => e = .returned (.tuple #[]) ∧
 tk w49 fun w50 =>
 nilP r31_0 fun a51 =>
 nilP x0 fun a52 =>
 nilP r31_0 fun a53 =>
 ∃ (v54 : Int), w50.cell? a51 = some (.int .i64 v54) ∧
 ∃ (v55 : Int), w50.cell? (a52.add 3) = some (.int .i64 v55) ∧
 ∃ (v56 : Int), w50.cell? ⟨x6, 0, none⟩ = some (.int .i64 v56) ∧
 ∃ (v57 : OA), w50.cell? (a53.add 2) = some (.pointer v57) ∧
 box w50 #[.int .i64 v54, .int .i64 v55, .int .i64 v56, .pointer v57, .string (ByteArray.mk #[])] ty_Heading fun b58 w59 =>
 callE P i_parseState_doneBlock #[.pointer x0, .iface ty_P_Heading (.pointer (some ⟨b58, 0, none⟩))] (fun e w61 => e = .returned (.tuple #[]) ∧
 stV w61 ⟨x4, 0, none⟩ (.int .i64 0) fun w62 =>
 stV w62 ⟨x4, 1, none⟩ (.int .i64 0) fun w63 =>
 stV w63 ⟨x4, 2, none⟩ (.int .i64 0) fun w64 =>
 stV w64 ⟨x4, 3, none⟩ (.string (ByteArray.mk #[])) fun w65 =>
 stV w65 ⟨x4, 4, none⟩ (.int .u8 0) fun w66 =>
 ∃ (v67 : Int), w66.cell? ⟨x4, 0, none⟩ = some (.int .i64 v67) ∧
 ∃ (v68 : Int), w66.cell? ⟨x4, 1, none⟩ = some (.int .i64 v68) ∧
 ∃ (v69 : Int), w66.cell? ⟨x4, 2, none⟩ = some (.int .i64 v69) ∧
 ∃ (v70 : BA), w66.cell? ⟨x4, 3, none⟩ = some (.string v70) ∧
 ∃ (v71 : Int), w66.cell? ⟨x4, 4, none⟩ = some (.int .u8 v71) ∧
 R (.returned (.tuple #[.agg #[.int .i64 v67, .int .i64 v68, .int .i64 v69, .string v70, .int .u8 v71], .bool true])) w66) w59) w32)) w28) w)
 (∃ (v72 : Int), w.cell? ⟨x3, 0, none⟩ = some (.int .i64 v72) ∧
 ∃ (v73 : Int), w.cell? ⟨x3, 1, none⟩ = some (.int .i64 v73) ∧
 ∃ (v74 : Int), w.cell? ⟨x3, 2, none⟩ = some (.int .i64 v74) ∧
 ∃ (v75 : BA), w.cell? ⟨x3, 3, none⟩ = some (.string v75) ∧
 ∃ (v76 : Int), w.cell? ⟨x3, 4, none⟩ = some (.int .u8 v76) ∧
 stV w ⟨x4, 0, none⟩ (.int .i64 v72) fun w77 =>
 stV w77 ⟨x4, 1, none⟩ (.int .i64 v73) fun w78 =>
 stV w78 ⟨x4, 2, none⟩ (.int .i64 v74) fun w79 =>
 stV w79 ⟨x4, 3, none⟩ (.string v75) fun w80 =>
 stV w80 ⟨x4, 4, none⟩ (.int .u8 v76) fun w81 =>
 ∃ (v82 : Int), w81.cell? ⟨x4, 0, none⟩ = some (.int .i64 v82) ∧
 ∃ (v83 : Int), w81.cell? ⟨x4, 1, none⟩ = some (.int .i64 v83) ∧
 ∃ (v84 : Int), w81.cell? ⟨x4, 2, none⟩ = some (.int .i64 v84) ∧
 ∃ (v85 : BA), w81.cell? ⟨x4, 3, none⟩ = some (.string v85) ∧
 ∃ (v86 : Int), w81.cell? ⟨x4, 4, none⟩ = some (.int .u8 v86) ∧
 R (.returned (.tuple #[.agg #[.int .i64 v82, .int .i64 v83, .int .i64 v84, .string v85, .int .u8 v86], .bool false])) w81)

end g_newSetextHeading
def g_newSetextHeading (R : EP) (x0 : OA) (x1_0 x1_1 x1_2 : Int) (x1_3 : BA) (x1_4 : Int) (w : World) : Prop :=
 box w #[.int .i64 x1_0, .int .i64 x1_1, .int .i64 x1_2, .string x1_3, .int .u8 x1_4] ty_line fun b1 w2 =>
 box w2 #[.int .i64 0, .int .i64 0, .int .i64 0, .string (ByteArray.mk #[]), .int .u8 0] ty_line fun b3 w4 =>
 box w4 #[.int .i64 0] ty_int fun b5 w6 =>
 ∃ (v7 : Int), w6.cell? ⟨b1, 0, none⟩ = some (.int .i64 v7) ∧
 ∃ (v8 : Int), w6.cell? ⟨b1, 1, none⟩ = some (.int .i64 v8) ∧
 ∃ (v9 : Int), w6.cell? ⟨b1, 2, none⟩ = some (.int .i64 v9) ∧
 ∃ (v10 : BA), w6.cell? ⟨b1, 3, none⟩ = some (.string v10) ∧
 ∃ (v11 : Int), w6.cell? ⟨b1, 4, none⟩ = some (.int .u8 v11) ∧
 box w6 #[.int .i64 0, .int .i64 0, .int .i64 0, .string (ByteArray.mk #[]), .int .u8 0] ty_line fun b12 w13 =>
 stV w13 ⟨b12, 0, none⟩ (.int .i64 v7) fun w14 =>
 stV w14 ⟨b12, 1, none⟩ (.int .i64 v8) fun w15 =>
 stV w15 ⟨b12, 2, none⟩ (.int .i64 v9) fun w16 =>
 stV w16 ⟨b12, 3, none⟩ (.string v10) fun w17 =>
 stV w17 ⟨b12, 4, none⟩ (.int .u8 v11) fun w18 =>
 callE P i_parseState_nextB #[.pointer x0] (fun e w20 => ∃ (r19 : Value), e = .returned r19 ∧
 callE P i_parseState_para #[.pointer x0] (fun e w22 => ∃ (r21 : OA), e = .returned (.pointer r21) ∧
 ∃ (r23 : Bool), ∃ w24, (do eqGuard .eql ty_blockBuilder (.tmp 12) (.tmp 15) r19 (.iface ty_P_paraBuilder (.pointer r21)); binOp .eql ty_blockBuilder r19 (.iface ty_P_paraBuilder (.pointer r21))).run P w22 = .ok (.bool r23) w24 ∧
 br r23
 (callE P i_line_trimSetext #[.pointer (some ⟨b12, 0, none⟩), .pointer (some ⟨b5, 0, none⟩)] (fun e w26 => ∃ (r25 : Bool), e = .returned (.bool r25) ∧
 g_newSetextHeading.k1 R x0 b1 b3 b5 r25 w26) w24)
 (g_newSetextHeading.k1 R x0 b1 b3 b5 false w24)) w20) w18

namespace g_newSetextHeading
noncomputable def ac (R : EP) : AC :=
 (.seq (.leaf (sel [0] body)) (.seq (.leaf (sel [1,0] body)) (.seq (.leaf (sel [1,1,0] body)) (.seq (.seq (.leaf (sel [1,1,1,0,0] body)) (.mark (leaf [(0, .s .ptr), (3, .s .loc), (4, .s .loc), (6, .s .loc), (19, .s .bool)] (k1 R)) (.cond 19 (.seq (.leaf (sel [1,1,1,0,1,0,0] body)) (.seq (.leaf (sel [1,1,1,0,1,0,1,0] body)) (.seq (.leaf (sel [1,1,1,0,1,0,1,1,0] body)) (.seq (.leaf (sel [1,1,1,0,1,0,1,1,1,0] body)) (.seq (.draw (.pure 0 (.pure 1 (.pure 2 (.pure 3 (.pure 4 (.pure 6 (.pure 7 (.pure 8 (.pure 12 (.pure 13 (.pure 14 (.load 5 (.load 9 (.pure 10 (.load 11 (.load 15 (.pure 16 (.one 17 (.pure 18 (.one 19 .done)))))))))))))))))))) (sel [1,1,1,0,1,0,1,1,1,1,0] body)) (.leaf (sel [1,1,1,0,1,0,1,1,1,1,1] body))))))) (.leaf (sel [1,1,1,0,1,1] body))))) (.leaf (sel [1,1,1,1] body))))))
theorem good (R : EP) : Good P 55 (ac R) (QF P [.cell 4 159, .tmp 5] R) :=
 ⟨trivial, ⟨trivial, ⟨trivial, ⟨⟨trivial, ⟨⟨⟨trivial, ⟨trivial, ⟨trivial, ⟨trivial, ⟨⟨by kernel_rfl, by kernel_rfl, fun _ _ _ h => h⟩, trivial⟩⟩⟩⟩⟩, trivial⟩, cutZ⟩⟩, trivial⟩⟩⟩⟩
theorem eq (R : EP) (x0 : OA) (x1_0 x1_1 x1_2 : Int) (x1_3 : BA) (x1_4 : Int) (w : World) : g_newSetextHeading R x0 x1_0 x1_1 x1_2 x1_3 x1_4 w = vcA P 55 (ac R) (QF P [.cell 4 159, .tmp 5] R) (fr0 [.pointer x0, .agg #[.int .i64 x1_0, .int .i64 x1_1, .int .i64 x1_2, .string x1_3, .int .u8 x1_4]]) w := by kernel_rfl
theorem sound {R : EP} {x0 : OA} {x1_0 x1_1 x1_2 : Int} {x1_3 : ByteArray} {x1_4 : Int} {w : World} (h : g_newSetextHeading R x0 x1_0 x1_1 x1_2 x1_3 x1_4 w) : callE P i_newSetextHeading #[.pointer x0, .agg #[.int .i64 x1_0, .int .i64 x1_1, .int .i64 x1_2, .string x1_3, .int .u8 x1_4]] R w :=
 callE_fz (c := body) Tryz.func126 Tryz.call126 (good R) (eq R x0 x1_0 x1_1 x1_2 x1_3 x1_4 w) h
end g_newSetextHeading
namespace g_newListItem
noncomputable def body : Code := bodyOf Tryz.f128
def k1 (R : EP) (x0 : OA) (x3 x4 : Nat) (x6 : OA) (x21 : Bool) (w : World) : Prop :=
 br x21
 (nilP x6 fun a13 =>
 ∃ (v14 : Value), w.cell? (a13.add 4) = some v14 ∧
 enterE P (do let d ← Deferred.ofValue v14 #[]; invoke d.target d.args) (fun e w16 => ∃ (r15_0 : Int), ∃ (r15_1 : Int), ∃ (r15_2 : Int), ∃ (r15_3 : BA), ∃ (r15_4 : Int), e = .returned (.agg #[.int .i64 r15_0, .int .i64 r15_1, .int .i64 r15_2, .string r15_3, .int .u8 r15_4]) ∧
 stV w16 ⟨x3, 0, none⟩ (.int .i64 r15_0) fun w17 =>
 stV w17 ⟨x3, 1, none⟩ (.int .i64 r15_1) fun w18 =>
 stV w18 ⟨x3, 2, none⟩ (.int .i64 r15_2) fun w19 =>
 stV w19 ⟨x3, 3, none⟩ (.string r15_3) fun w20 =>
 stV w20 ⟨x3, 4, none⟩ (.int .u8 r15_4) fun w21 =>
 nilP x6 fun a22 =>
 stV w21 ((a22.add 4).add 0) .nilFunc fun w23 =>
 ∃ (v24 : Int), w23.cell? ⟨x3, 0, none⟩ = some (.int .i64 v24) ∧
 ∃ (v25 : Int), w23.cell? ⟨x3, 1, none⟩ = some (.int .i64 v25) ∧
 ∃ (v26 : Int), w23.cell? ⟨x3, 2, none⟩ = some (.int .i64 v26) ∧
 ∃ (v27 : BA), w23.cell? ⟨x3, 3, none⟩ = some (.string v27) ∧
 ∃ (v28 : Int), w23.cell? ⟨x3, 4, none⟩ = some (.int .u8 v28) ∧
 stV w23 ⟨x4, 0, none⟩ (.int .i64 v24) fun w29 =>
 stV w29 ⟨x4, 1, none⟩ (.int .i64 v25) fun w30 =>
 stV w30 ⟨x4, 2, none⟩ (.int .i64 v26) fun w31 =>
 stV w31 ⟨x4, 3, none⟩ (.string v27) fun w32 =>
 stV w32 ⟨x4, 4, none⟩ (.int .u8 v28) fun w33 =>
 ∃ (v34 : Int), w33.cell? ⟨x4, 0, none⟩ = some (.int .i64 v34) ∧
 ∃ (v35 : Int), w33.cell? ⟨x4, 1, none⟩ = some (.int .i64 v35) ∧
 ∃ (v36 : Int), w33.cell? ⟨x4, 2, none⟩ = some (.int .i64 v36) ∧
 ∃ (v37 : BA), w33.cell? ⟨x4, 3, none⟩ = some (.string v37) ∧
 ∃ (v38 : Int), w33.cell? ⟨x4, 4, none⟩ = some (.int .u8 v38) ∧
 R (.returned (.tuple #[.agg #[.int .i64 v34, .int .i64 v35, .int .i64 v36, .string v37, .int .u8 v38], .bool true])) w33) w)
 (callE P i_parseState_startListItem #[.pointer x0, .pointer (some ⟨x3, 0, none⟩)] (fun e w40 => ∃ (r39 : Bool), e = .returned (.bool r39) ∧
 br r39
 (∃ (v41 : Int), w40.cell? ⟨x3, 0, none⟩ = some (.int .i64 v41) ∧
 ∃ (v42 : Int), w40.cell? ⟨x3, 1, none⟩ = some (.int .i64 v42) ∧
 ∃ (v43 : Int), w40.cell? ⟨x3, 2, none⟩ = some (.int .i64 v43) ∧
 ∃ (v44 : BA), w40.cell? ⟨x3, 3, none⟩ = some (.string v44) ∧
 ∃ (v45 : Int), w40.cell? ⟨x3, 4, none⟩ = some (.int .u8 v45) ∧
 stV w40 ⟨x4, 0, none⟩ (.int .i64 v41) fun w46 =>
 stV w46 ⟨x4, 1, none⟩ (.int .i64 v42) fun w47 =>
 stV w47 ⟨x4, 2, none⟩ (.int .i64 v43) fun w48 =>
 stV w48 ⟨x4, 3, none⟩ (.string v44) fun w49 =>
 stV w49 ⟨x4, 4, none⟩ (.int .u8 v45) fun w50 =>
 ∃ (v51 : Int), w50.cell? ⟨x4, 0, none⟩ = some (.int .i64 v51) ∧
 ∃ (v52 : Int), w50.cell? ⟨x4, 1, none⟩ = some (.int .i64 v52) ∧
 ∃ (v53 : Int), w50.cell? ⟨x4, 2, none⟩ = some (.int .i64 v53) ∧
 ∃ (v54 : BA), w50.cell? ⟨x4, 3, none⟩ = some (.string v54) ∧
 ∃ (v55 : Int), w50.cell? ⟨x4, 4, none⟩ = some (.int .u8 v55) ∧
 R (.returned (.tuple #[.agg #[.int .i64 v51, .int .i64 v52, .int .i64 v53, .string v54, .int .u8 v55], .bool true])) w50)
 (∃ (v56 : Int), w40.cell? ⟨x3, 0, none⟩ = some (.int .i64 v56) ∧
 ∃ (v57 : Int), w40.cell? ⟨x3, 1, none⟩ = some (.int .i64 v57) ∧
 ∃ (v58 : Int), w40.cell? ⟨x3, 2, none⟩ = some (.int .i64 v58) ∧
 ∃ (v59 : BA), w40.cell? ⟨x3, 3, none⟩ = some (.string v59) ∧
 ∃ (v60 : Int), w40.cell? ⟨x3, 4, none⟩ = some (.int .u8 v60) ∧
 stV w40 ⟨x4, 0, none⟩ (.int .i64 v56) fun w61 =>
 stV w61 ⟨x4, 1, none⟩ (.int .i64 v57) fun w62 =>
 stV w62 ⟨x4, 2, none⟩ (.int .i64 v58) fun w63 =>
 stV w63 ⟨x4, 3, none⟩ (.string v59) fun w64 =>
 stV w64 ⟨x4, 4, none⟩ (.int .u8 v60) fun w65 =>
 ∃ (v66 : Int), w65.cell? ⟨x4, 0, none⟩ = some (.int .i64 v66) ∧
 ∃ (v67 : Int), w65.cell? ⟨x4, 1, none⟩ = some (.int .i64 v67) ∧
 ∃ (v68 : Int), w65.cell? ⟨x4, 2, none⟩ = some (.int .i64 v68) ∧
 ∃ (v69 : BA), w65.cell? ⟨x4, 3, none⟩ = some (.string v69) ∧
 ∃ (v70 : Int), w65.cell? ⟨x4, 4, none⟩ = some (.int .u8 v70) ∧
 R (.returned (.tuple #[.agg #[.int .i64 v66, .int .i64 v67, .int .i64 v68, .string v69, .int .u8 v70], .bool false])) w65)) w)

end g_newListItem
def g_newListItem (R : EP) (x0 : OA) (x1_0 x1_1 x1_2 : Int) (x1_3 : BA) (x1_4 : Int) (w : World) : Prop :=
 box w #[.int .i64 x1_0, .int .i64 x1_1, .int .i64 x1_2, .string x1_3, .int .u8 x1_4] ty_line fun b1 w2 =>
 box w2 #[.int .i64 0, .int .i64 0, .int .i64 0, .string (ByteArray.mk #[]), .int .u8 0] ty_line fun b3 w4 =>
 callE P i_parseState_curB #[.pointer x0] (fun e w6 => ∃ (r5 : Value), e = .returned r5 ∧
 ∃ (r7_0 : OA), ∃ (r7_1 : Bool), ∃ w8, (Instr.typeAssert r5 ty_blockBuilder ty_P_listBuilder true).run P w6 = .ok (.tuple #[.pointer r7_0, .bool r7_1]) w8 ∧
 br r7_1
 (nilP r7_0 fun a9 =>
 ∃ (v10 : Value), w8.cell? (a9.add 4) = some v10 ∧
 ∃ (r11 : Bool), ∃ w12, (do eqGuard .neq ty_func_line (.tmp 19) (.const .nilFunc) v10 .nilFunc; binOp .neq ty_func_line v10 .nilFunc).run P w8 = .ok (.bool r11) w12 ∧
 g_newListItem.k1 R x0 b1 b3 r7_0 r11 w12)
 (g_newListItem.k1 R x0 b1 b3 r7_0 false w8)) w4

namespace g_newListItem
noncomputable def ac (R : EP) : AC :=
 (.seq (.leaf (sel [0] body)) (.seq (.seq (.leaf (sel [1,0,0] body)) (.seq (.leaf (sel [1,0,1,0] body)) (.mark (leaf [(0, .s .ptr), (3, .s .loc), (4, .s .loc), (6, .s .ptr), (21, .s .bool)] (k1 R)) (.leaf (sel [1,0,1,1] body))))) (.leaf (sel [1,1] body))))
theorem good (R : EP) : Good P 35 (ac R) (QF P [.cell 4 159, .tmp 5] R) :=
 ⟨trivial, ⟨⟨trivial, ⟨trivial, ⟨trivial, cutZ⟩⟩⟩, trivial⟩⟩
theorem eq (R : EP) (x0 : OA) (x1_0 x1_1 x1_2 : Int) (x1_3 : BA) (x1_4 : Int) (w : World) : g_newListItem R x0 x1_0 x1_1 x1_2 x1_3 x1_4 w = vcA P 35 (ac R) (QF P [.cell 4 159, .tmp 5] R) (fr0 [.pointer x0, .agg #[.int .i64 x1_0, .int .i64 x1_1, .int .i64 x1_2, .string x1_3, .int .u8 x1_4]]) w := by kernel_rfl
theorem sound {R : EP} {x0 : OA} {x1_0 x1_1 x1_2 : Int} {x1_3 : ByteArray} {x1_4 : Int} {w : World} (h : g_newListItem R x0 x1_0 x1_1 x1_2 x1_3 x1_4 w) : callE P i_newListItem #[.pointer x0, .agg #[.int .i64 x1_0, .int .i64 x1_1, .int .i64 x1_2, .string x1_3, .int .u8 x1_4]] R w :=
 callE_fz (c := body) Tryz.func128 Tryz.call128 (good R) (eq R x0 x1_0 x1_1 x1_2 x1_3 x1_4 w) h
end g_newListItem
namespace g_parseState_curB
noncomputable def body : Code := bodyOf Tryz.f187
end g_parseState_curB
def g_parseState_curB (R : EP) (x0 : OA) (w : World) : Prop :=
 tk w fun w1 =>
 nilP x0 fun a2 =>
 nilP x0 fun a3 =>
 ∃ (v4 : Int), w1.cell? (a2.add 5) = some (.int .i64 v4) ∧
 ∃ (v5q : OA), ∃ (v5n : Nat), ∃ (v5c : Nat), w1.cell? (a3.add 4) = some (.slice v5q v5n v5c) ∧
 br (decide (v4 < (v5n : Int)))
 (tk w1 fun w6 =>
 nilP x0 fun a7 =>
 nilP x0 fun a8 =>
 ∃ (v9q : OA), ∃ (v9n : Nat), ∃ (v9c : Nat), w6.cell? (a7.add 4) = some (.slice v9q v9n v9c) ∧
 ∃ (v10 : Int), w6.cell? (a8.add 5) = some (.int .i64 v10) ∧
 0 ≤ v10 ∧ v10 < (v9n : Int) ∧
 nilP v9q fun a11 =>
 ∃ (v12 : Value), w6.cell? (a11.add (Int.toNat v10 * 4)) = some v12 ∧
 R (.returned v12) w6)
 (R (.returned .nilIface) w1)

namespace g_parseState_curB
noncomputable def ac (R : EP) : AC :=
 (.seq (.leaf (sel [0] body)) (.seq (.seq (.draw (.pure 0 (.pure 1 (.pure 2 (.pure 4 (.pure 5 (.pure 6 (.load 3 (.load 7 (.pure 8 (.pure 9 .done)))))))))) (sel [1,0,0] body)) (.cond 12 (.seq (.draw (.pure 0 (.pure 1 (.pure 2 (.pure 4 (.pure 5 (.pure 6 (.load 3 (.load 7 (.pure 8 (.pure 9 (.load 10 (.pure 11 .done)))))))))))) (sel [1,0,1,0,0] body)) (.leaf (sel [1,0,1,0,1] body))) (.leaf (sel [1,0,1,1] body)))) (.leaf (sel [1,1] body))))
theorem good (R : EP) : Good P 24 (ac R) (QF P [.tmp 2] R) :=
 ⟨trivial, ⟨⟨⟨by kernel_rfl, by kernel_rfl, fun _ _ _ h => h⟩, ⟨⟨⟨by kernel_rfl, by kernel_rfl, fun _ _ _ h => h⟩, trivial⟩, trivial⟩⟩, trivial⟩⟩
theorem eq (R : EP) (x0 : OA) (w : World) : g_parseState_curB R x0 w = vcA P 24 (ac R) (QF P [.tmp 2] R) (fr0 [.pointer x0]) w := by kernel_rfl
theorem sound {R : EP} {x0 : OA} {w : World} (h : g_parseState_curB R x0 w) : callE P i_parseState_curB #[.pointer x0] R w :=
 callE_fz (c := body) Tryz.func187 Tryz.call187 (good R) (eq R x0 w) h
end g_parseState_curB
namespace g_parseState_nextB
noncomputable def body : Code := bodyOf Tryz.f182
end g_parseState_nextB
def g_parseState_nextB (R : EP) (x0 : OA) (w : World) : Prop :=
 tk w fun w1 =>
 nilP x0 fun a2 =>
 nilP x0 fun a3 =>
 ∃ (v4 : Int), w1.cell? (a2.add 5) = some (.int .i64 v4) ∧
 ∃ (v5q : OA), ∃ (v5n : Nat), ∃ (v5c : Nat), w1.cell? (a3.add 4) = some (.slice v5q v5n v5c) ∧
 br (decide ((IntKind.i64.wrap (v4 + 1)) < (v5n : Int)))
 (tk w1 fun w6 =>
 nilP x0 fun a7 =>
 nilP x0 fun a8 =>
 ∃ (v9q : OA), ∃ (v9n : Nat), ∃ (v9c : Nat), w6.cell? (a7.add 4) = some (.slice v9q v9n v9c) ∧
 ∃ (v10 : Int), w6.cell? (a8.add 5) = some (.int .i64 v10) ∧
 0 ≤ (IntKind.i64.wrap (v10 + 1)) ∧ (IntKind.i64.wrap (v10 + 1)) < (v9n : Int) ∧
 nilP v9q fun a11 =>
 ∃ (v12 : Value), w6.cell? (a11.add (Int.toNat (IntKind.i64.wrap (v10 + 1)) * 4)) = some v12 ∧
 R (.returned v12) w6)
 (R (.returned .nilIface) w1)

namespace g_parseState_nextB
noncomputable def ac (R : EP) : AC :=
 (.seq (.leaf (sel [0] body)) (.seq (.seq (.draw (.pure 0 (.pure 1 (.pure 2 (.pure 5 (.pure 6 (.pure 7 (.load 3 (.pure 4 (.load 8 (.pure 9 (.pure 10 .done))))))))))) (sel [1,0,0] body)) (.cond 13 (.seq (.draw (.pure 0 (.pure 1 (.pure 2 (.pure 4 (.pure 5 (.pure 6 (.load 3 (.load 7 (.pure 8 (.pure 9 (.pure 10 (.load 11 (.pure 12 .done))))))))))))) (sel [1,0,1,0,0] body)) (.leaf (sel [1,0,1,0,1] body))) (.leaf (sel [1,0,1,1] body)))) (.leaf (sel [1,1] body))))
theorem good (R : EP) : Good P 26 (ac R) (QF P [.tmp 2] R) :=
 ⟨trivial, ⟨⟨⟨by kernel_rfl, by kernel_rfl, fun _ _ _ h => h⟩, ⟨⟨⟨by kernel_rfl, by kernel_rfl, fun _ _ _ h => h⟩, trivial⟩, trivial⟩⟩, trivial⟩⟩
theorem eq (R : EP) (x0 : OA) (w : World) : g_parseState_nextB R x0 w = vcA P 26 (ac R) (QF P [.tmp 2] R) (fr0 [.pointer x0]) w := by kernel_rfl
theorem sound {R : EP} {x0 : OA} {w : World} (h : g_parseState_nextB R x0 w) : callE P i_parseState_nextB #[.pointer x0] R w :=
 callE_fz (c := body) Tryz.func182 Tryz.call182 (good R) (eq R x0 w) h
end g_parseState_nextB
namespace g_parseState_startListItem
noncomputable def body : Code := bodyOf Tryz.f188
def k5 (R : EP) (Xa : Nat → Nat → Int → Int → Int → Nat → Int → Int → WP) (x2 x5 : Nat) (x6 x8 x9 : Int) (x12 : Nat) (x13 x14 : Int) (w : World) : Prop :=
 Xa x2 x5 x6 x8 x9 x12 (IntKind.i64.wrap (x13 + 1)) (IntKind.i64.wrap (x14 + 1)) w

def k9 (R : EP) (Xb : Nat → Nat → Int → Int → Int → WP) (x2 x5 : Nat) (x6 x9 : Int) (x10 x11 : Int) (w : World) : Prop :=
 ∃ (v63 : Int), w.cell? ⟨x5, 1, none⟩ = some (.int .i64 v63) ∧
 br (decide ((IntKind.i64.wrap (x10 - v63)) ≥ 9))
 (R (.returned (.bool false)) w)
 (Xb x2 x5 x6 (IntKind.i64.wrap ((IntKind.i64.wrap ((IntKind.i64.wrap (x9 * 10)) + (IntKind.i64.wrap x11))) - 48)) (IntKind.i64.wrap (x10 + 1)) w)

def k14 (R : EP) (x2 x5 : Nat) (x15 x18 : Nat) (w : World) : Prop :=
 ∃ (v111 : OA), w.cell? ⟨x15, 0, none⟩ = some (.pointer v111) ∧
 nilP v111 fun a112 =>
 stV w ((a112.add 4).add 0) (.func (.func i_parseState_startListItem_1) #[] #[.pointer (some ⟨x2, 0, none⟩), .pointer (some ⟨x18, 0, none⟩), .pointer (some ⟨x15, 0, none⟩), .pointer (some ⟨x5, 0, none⟩)]) fun w113 =>
 R (.returned (.bool true)) w113

def k13 (R : EP) (x2 x5 : Nat) (x6 : Int) (x15 : Nat) (w : World) : Prop :=
 tk w fun w90 =>
 ∃ (v91 : OA), w90.cell? ⟨x15, 0, none⟩ = some (.pointer v91) ∧
 (callE P i_line_isBlank #[.pointer (some ⟨x5, 0, none⟩)] (fun e w93 => ∃ (r92 : Bool), e = .returned (.bool r92) ∧
 SameC w90 w93 ⟨x15, 0, none⟩ 1 ∧
 (box w93 #[.pointer v91, .int .i64 x6, .bool (!r92)] ty_itemBuilder fun b94 w95 =>
 box w95 #[.pointer none] ty_P_itemBuilder fun b96 w97 =>
 SameC w95 w97 ⟨x15, 0, none⟩ 1 ∧
 stV w97 ⟨b96, 0, none⟩ (.pointer (some ⟨b94, 0, none⟩)) fun w98 =>
 k14 R x2 x5 x15 b96 w98) ∧
 (box w93 #[.pointer none] ty_P_itemBuilder fun b99 w100 =>
 SameC w93 w100 ⟨x15, 0, none⟩ 1 ∧
 box w100 #[.pointer v91, .int .i64 x6, .bool (!r92)] ty_itemBuilder fun b101 w102 =>
 stV w102 ⟨b99, 0, none⟩ (.pointer (some ⟨b101, 0, none⟩)) fun w103 =>
 k14 R x2 x5 x15 b99 w103)) w90) ∧
 (box w90 #[.pointer none] ty_P_itemBuilder fun b104 w105 =>
 SameC w90 w105 ⟨x15, 0, none⟩ 1 ∧
 callE P i_line_isBlank #[.pointer (some ⟨x5, 0, none⟩)] (fun e w107 => ∃ (r106 : Bool), e = .returned (.bool r106) ∧
 SameC w105 w107 ⟨x15, 0, none⟩ 1 ∧
 box w107 #[.pointer v91, .int .i64 x6, .bool (!r106)] ty_itemBuilder fun b108 w109 =>
 stV w109 ⟨b104, 0, none⟩ (.pointer (some ⟨b108, 0, none⟩)) fun w110 =>
 k14 R x2 x5 x15 b104 w110) w105)

def k12 (R : EP) (x2 x5 : Nat) (x6 x8 x9 : Int) (x15 : Nat) (x158 : Bool) (w : World) : Prop :=
 br x158
 (∃ (v80 : OA), w.cell? ⟨x2, 0, none⟩ = some (.pointer v80) ∧
 nilP v80 fun a81 =>
 stV w ((a81.add 6).add 0) (.bool true) fun w82 =>
 R (.returned (.bool false)) w82)
 (box w #[.int .i32 (IntKind.i32.wrap x8), .int .i64 x9, .bool false, .pointer none, .nilFunc] ty_listBuilder fun b83 w84 =>
 stV w84 ⟨x15, 0, none⟩ (.pointer (some ⟨b83, 0, none⟩)) fun w85 =>
 ∃ (v86 : OA), w85.cell? ⟨x2, 0, none⟩ = some (.pointer v86) ∧
 ∃ (v87 : OA), w85.cell? ⟨x15, 0, none⟩ = some (.pointer v87) ∧
 callE P i_parseState_addBlock #[.pointer v86, .iface ty_P_listBuilder (.pointer v87)] (fun e w89 => e = .returned (.tuple #[]) ∧
 k13 R x2 x5 x6 x15 w89) w85)

def k11 (R : EP) (x2 x5 : Nat) (x6 x8 x9 : Int) (x15 : Nat) (x136 : Bool) (w : World) : Prop :=
 br x136
 (∃ (v70 : OA), w.cell? ⟨x15, 0, none⟩ = some (.pointer v70) ∧
 ∃ (r71 : Bool), ∃ w72, (do eqGuard .eql ty_P_listBuilder (.tmp 137) (.const (.pointer none)) (.pointer v70) (.pointer none); binOp .eql ty_P_listBuilder (.pointer v70) (.pointer none)).run P w = .ok (.bool r71) w72 ∧
 br r71
 (∃ (v73 : OA), w72.cell? ⟨x2, 0, none⟩ = some (.pointer v73) ∧
 callE P i_parseState_para #[.pointer v73] (fun e w75 => ∃ (r74 : OA), e = .returned (.pointer r74) ∧
 ∃ (r76 : Bool), ∃ w77, (do eqGuard .neq ty_P_paraBuilder (.tmp 141) (.const (.pointer none)) (.pointer r74) (.pointer none); binOp .neq ty_P_paraBuilder (.pointer r74) (.pointer none)).run P w75 = .ok (.bool r76) w77 ∧
 br r76
 (callE P i_line_isBlank #[.pointer (some ⟨x5, 0, none⟩)] (fun e w79 => ∃ (r78 : Bool), e = .returned (.bool r78) ∧
 k12 R x2 x5 x6 x8 x9 x15 (r78 || (((x8 == 46) || (x8 == 41)) && (x9 != 1))) w79) w77)
 (k12 R x2 x5 x6 x8 x9 x15 false w77)) w72)
 (k12 R x2 x5 x6 x8 x9 x15 false w72))
 (k13 R x2 x5 x6 x15 w)

def k10 (R : EP) (x2 x5 : Nat) (x6 x8 x9 : Int) (x15 : Nat) (w : World) : Prop :=
 ∃ (v64 : OA), w.cell? ⟨x15, 0, none⟩ = some (.pointer v64) ∧
 ∃ (r65 : Bool), ∃ w66, (do eqGuard .eql ty_P_listBuilder (.tmp 126) (.const (.pointer none)) (.pointer v64) (.pointer none); binOp .eql ty_P_listBuilder (.pointer v64) (.pointer none)).run P w = .ok (.bool r65) w66 ∧
 br r65
 (k11 R x2 x5 x6 x8 x9 x15 true w66)
 (∃ (v67 : OA), w66.cell? ⟨x15, 0, none⟩ = some (.pointer v67) ∧
 nilP v67 fun a68 =>
 ∃ (v69 : Int), w66.cell? a68 = some (.int .i32 v69) ∧
 k11 R x2 x5 x6 x8 x9 x15 (v69 != (IntKind.i32.wrap x8)) w66)

def k8 (R : EP) (x2 x5 : Nat) (x6 x8 x9 : Int) (w : World) : Prop :=
 box w #[.pointer none] ty_P_listBuilder fun b55 w56 =>
 ∃ (v57 : OA), w56.cell? ⟨x2, 0, none⟩ = some (.pointer v57) ∧
 callE P i_parseState_nextB #[.pointer v57] (fun e w59 => ∃ (r58 : Value), e = .returned r58 ∧
 ∃ (r60_0 : OA), ∃ (r60_1 : Bool), ∃ w61, (Instr.typeAssert r58 ty_blockBuilder ty_P_listBuilder true).run P w59 = .ok (.tuple #[.pointer r60_0, .bool r60_1]) w61 ∧
 br r60_1
 (stV w61 ⟨b55, 0, none⟩ (.pointer r60_0) fun w62 =>
 k10 R x2 x5 x6 x8 x9 b55 w62)
 (k10 R x2 x5 x6 x8 x9 b55 w61)) w56

def k6 (R : EP) (x2 x5 : Nat) (x6 x8 x9 : Int) (x12 : Nat) (x13 : Int) (w : World) : Prop :=
 callE P i_line_trimSpace #[.pointer (some ⟨x12, 0, none⟩), .int .i64 1, .int .i64 1, .bool true] (fun e w42 => ∃ (r41 : Bool), e = .returned (.bool r41) ∧
 br (!r41)
 (∃ (v43 : Int), w42.cell? ⟨x12, 0, none⟩ = some (.int .i64 v43) ∧
 ∃ (v44 : Int), w42.cell? ⟨x12, 1, none⟩ = some (.int .i64 v44) ∧
 ∃ (v45 : Int), w42.cell? ⟨x12, 2, none⟩ = some (.int .i64 v45) ∧
 ∃ (v46 : BA), w42.cell? ⟨x12, 3, none⟩ = some (.string v46) ∧
 ∃ (v47 : Int), w42.cell? ⟨x12, 4, none⟩ = some (.int .u8 v47) ∧
 stV w42 ⟨x5, 0, none⟩ (.int .i64 v43) fun w48 =>
 stV w48 ⟨x5, 1, none⟩ (.int .i64 v44) fun w49 =>
 stV w49 ⟨x5, 2, none⟩ (.int .i64 v45) fun w50 =>
 stV w50 ⟨x5, 3, none⟩ (.string v46) fun w51 =>
 stV w51 ⟨x5, 4, none⟩ (.int .u8 v47) fun w52 =>
 k8 R x2 x5 (IntKind.i64.wrap (x6 + x13)) x8 x9 w52)
 (k8 R x2 x5 x6 x8 x9 w42)) w

def bl2 (R : EP) (Xa : Nat → Nat → Int → Int → Int → Nat → Int → Int → WP) (x2 x5 : Nat) (x6 x8 x9 : Int) (x12 : Nat) (x13 x14 : Int) (w : World) : Prop :=
 br (decide (x14 < 3))
 (callE P i_line_trimSpace #[.pointer (some ⟨x12, 0, none⟩), .int .i64 1, .int .i64 1, .bool false] (fun e w38 => ∃ (r37 : Bool), e = .returned (.bool r37) ∧
 br r37
 (k5 R Xa x2 x5 x6 x8 x9 x12 x13 x14 w38)
 (k6 R x2 x5 x6 x8 x9 x12 x13 w38)) w)
 (k6 R x2 x5 x6 x8 x9 x12 x13 w)
def l2 (R : EP) (x2 x5 : Nat) (x6 x8 x9 : Int) (x12 : Nat) (x13 x14 : Int) (w : World) : Prop :=
 ∀ X : Nat → Nat → Int → Int → Int → Nat → Int → Int → WP, (∀ x2 x5 x6 x8 x9 x12 x13 x14 w, bl2 R X x2 x5 x6 x8 x9 x12 x13 x14 w → X x2 x5 x6 x8 x9 x12 x13 x14 w) → X x2 x5 x6 x8 x9 x12 x13 x14 w

noncomputable def al2 (R : EP) (Xa : Nat → Nat → Int → Int → Int → Nat → Int → Int → WP) : AC :=
 (.seq (.leaf (sel [1,0,1,1,1,1,1,1,1,1,1,1,1,0,1,0,0,0] body)) (.mark (leaf [(2, .s .loc), (5, .s .loc), (6, .s (.int .i64)), (8, .s (.int .u8)), (9, .s (.int .i64)), (12, .s .loc), (13, .s (.int .i64)), (14, .s (.int .i64))] (k5 R Xa)) (.leaf (sel [1,0,1,1,1,1,1,1,1,1,1,1,1,0,1,0,0,1] body))))
def k3 (R : EP) (x2 x5 : Nat) (x6 x8 x9 : Int) (w : World) : Prop :=
 callE P i_line_trimSpace #[.pointer (some ⟨x5, 0, none⟩), .int .i64 1, .int .i64 1, .bool true] (fun e w23 => ∃ (r22 : Bool), e = .returned (.bool r22) ∧
 br (!r22)
 (R (.returned (.bool false)) w23)
 (∃ (v24 : Int), w23.cell? ⟨x5, 0, none⟩ = some (.int .i64 v24) ∧
 ∃ (v25 : Int), w23.cell? ⟨x5, 1, none⟩ = some (.int .i64 v25) ∧
 ∃ (v26 : Int), w23.cell? ⟨x5, 2, none⟩ = some (.int .i64 v26) ∧
 ∃ (v27 : BA), w23.cell? ⟨x5, 3, none⟩ = some (.string v27) ∧
 ∃ (v28 : Int), w23.cell? ⟨x5, 4, none⟩ = some (.int .u8 v28) ∧
 box w23 #[.int .i64 0, .int .i64 0, .int .i64 0, .string (ByteArray.mk #[]), .int .u8 0] ty_line fun b29 w30 =>
 stV w30 ⟨b29, 0, none⟩ (.int .i64 v24) fun w31 =>
 stV w31 ⟨b29, 1, none⟩ (.int .i64 v25) fun w32 =>
 stV w32 ⟨b29, 2, none⟩ (.int .i64 v26) fun w33 =>
 stV w33 ⟨b29, 3, none⟩ (.string v27) fun w34 =>
 stV w34 ⟨b29, 4, none⟩ (.int .u8 v28) fun w35 =>
 l2 R x2 x5 (IntKind.i64.wrap (x6 + 1)) x8 x9 b29 0 0 w35)) w

def k7 (R : EP) (Xb : Nat → Nat → Int → Int → Int → WP) (x2 x5 : Nat) (x6 x9 : Int) (x10 x11 : Int) (x69 : Bool) (w : World) : Prop :=
 br x69
 (∃ (v53 : Int), w.cell? ⟨x5, 1, none⟩ = some (.int .i64 v53) ∧
 stV w ⟨x5, 1, none⟩ (.int .i64 (IntKind.i64.wrap (x10 + 1))) fun w54 =>
 k3 R x2 x5 (IntKind.i64.wrap (x6 + (IntKind.i64.wrap ((IntKind.i64.wrap (x10 + 1)) - v53)))) x11 x9 w54)
 (br ((decide (x11 < 48)) || (decide (57 < x11)))
 (R (.returned (.bool false)) w)
 (k9 R Xb x2 x5 x6 x9 x10 x11 w))

def bl3 (R : EP) (Xb : Nat → Nat → Int → Int → Int → WP) (x2 x5 : Nat) (x6 x9 x10 : Int) (w : World) : Prop :=
 ∃ (v39 : BA), w.cell? ⟨x5, 3, none⟩ = some (.string v39) ∧
 br (decide (x10 ≥ (v39.size : Int)))
 (R (.returned (.bool false)) w)
 (∃ (v40 : BA), w.cell? ⟨x5, 3, none⟩ = some (.string v40) ∧
 0 ≤ x10 ∧ x10 < (v40.size : Int) ∧
 k7 R Xb x2 x5 x6 x9 x10 (bt v40 x10) (((bt v40 x10) == 46) || ((bt v40 x10) == 41)) w)
def l3 (R : EP) (x2 x5 : Nat) (x6 x9 x10 : Int) (w : World) : Prop :=
 ∀ X : Nat → Nat → Int → Int → Int → WP, (∀ x2 x5 x6 x9 x10 w, bl3 R X x2 x5 x6 x9 x10 w → X x2 x5 x6 x9 x10 w) → X x2 x5 x6 x9 x10 w

noncomputable def al3 (R : EP) (Xb : Nat → Nat → Int → Int → Int → WP) : AC :=
 (.seq (.block 4 (.seq (.leaf (sel [1,0,1,1,1,1,1,1,0,1,0,1,1,1,0,1,0,0,0,0,0] body)) (.seq (.leaf (sel [1,0,1,1,1,1,1,1,0,1,0,1,1,1,0,1,0,0,0,0,1,0] body)) (.seq (.seq (.leaf (sel [1,0,1,1,1,1,1,1,0,1,0,1,1,1,0,1,0,0,0,0,1,1,0,0] body)) (.mark (leaf [(2, .s .loc), (5, .s .loc), (6, .s (.int .i64)), (9, .s (.int .i64)), (10, .s (.int .i64)), (11, .s (.int .u8)), (69, .s .bool)] (k7 R Xb)) (.leaf (sel [1,0,1,1,1,1,1,1,0,1,0,1,1,1,0,1,0,0,0,0,1,1,0,1] body)))) (.seq (.leaf (sel [1,0,1,1,1,1,1,1,0,1,0,1,1,1,0,1,0,0,0,0,1,1,1,0] body)) (.mark (leaf [(2, .s .loc), (5, .s .loc), (6, .s (.int .i64)), (9, .s (.int .i64)), (10, .s (.int .i64)), (11, .s (.int .u8))] (k9 R Xb)) (.leaf (sel [1,0,1,1,1,1,1,1,0,1,0,1,1,1,0,1,0,0,0,0,1,1,1,1] body)))))))) (.leaf (sel [1,0,1,1,1,1,1,1,0,1,0,1,1,1,0,1,0,0,1] body)))
def k4 (R : EP) (x2 x5 : Nat) (x6 x9 : Int) (x40 : Bool) (w : World) : Prop :=
 br x40
 (∃ (v36 : Int), w.cell? ⟨x5, 1, none⟩ = some (.int .i64 v36) ∧
 l3 R x2 x5 x6 x9 v36 w)
 (R (.returned (.bool false)) w)

def k2 (R : EP) (x2 x5 : Nat) (x6 x8 : Int) (x9 x31 : Int) (x32 : Bool) (w : World) : Prop :=
 br x32
 (callE P i_line_trim #[.pointer (some ⟨x5, 0, none⟩), .int .u8 x8] (fun e w21 => ∃ (r20 : Bool), e = .returned (.bool r20) ∧
 k3 R x2 x5 (IntKind.i64.wrap (x6 + 1)) x8 x9 w21) w)
 (br (x31 == 48)
 (k4 R x2 x5 x6 x9 true w)
 (br (x31 == 49)
 (k4 R x2 x5 x6 x9 true w)
 (br (x31 == 50)
 (k4 R x2 x5 x6 x9 true w)
 (br (x31 == 51)
 (k4 R x2 x5 x6 x9 true w)
 (br (x31 == 52)
 (k4 R x2 x5 x6 x9 true w)
 (br (x31 == 53)
 (k4 R x2 x5 x6 x9 true w)
 (br (x31 == 54)
 (k4 R x2 x5 x6 x9 true w)
 (br (x31 == 55)
 (k4 R x2 x5 x6 x9 true w)
 (br (x31 == 56)
 (k4 R x2 x5 x6 x9 true w)
 (k4 R x2 x5 x6 x9 (x31 == 57) w))))))))))

def k1 (R : EP) (x2 x5 : Nat) (x6 : Int) (w : World) : Prop :=
 callE P i_line_peek #[.pointer (some ⟨x5, 0, none⟩)] (fun e w19 => ∃ (r18 : Int), e = .returned (.int .u8 r18) ∧
 br (r18 == 45)
 (k2 R x2 x5 x6 r18 0 r18 true w19)
 (br (r18 == 42)
 (k2 R x2 x5 x6 r18 0 r18 true w19)
 (k2 R x2 x5 x6 r18 0 r18 (r18 == 43) w19))) w

def bl1 (R : EP) (Xc : Nat → Nat → Int → Int → WP) (x2 x5 : Nat) (x6 x7 : Int) (w : World) : Prop :=
 br (decide (x7 < 3))
 (callE P i_line_trimSpace #[.pointer (some ⟨x5, 0, none⟩), .int .i64 1, .int .i64 1, .bool false] (fun e w17 => ∃ (r16 : Bool), e = .returned (.bool r16) ∧
 br (!r16)
 (k1 R x2 x5 x6 w17)
 (Xc x2 x5 (IntKind.i64.wrap (x6 + 1)) (IntKind.i64.wrap (x7 + 1)) w17)) w)
 (k1 R x2 x5 x6 w)
def l1 (R : EP) (x2 x5 : Nat) (x6 x7 : Int) (w : World) : Prop :=
 ∀ X : Nat → Nat → Int → Int → WP, (∀ x2 x5 x6 x7 w, bl1 R X x2 x5 x6 x7 w → X x2 x5 x6 x7 w) → X x2 x5 x6 x7 w

noncomputable def al1 (R : EP) (Xc : Nat → Nat → Int → Int → WP) : AC :=
 (.leaf (sel [1,0,1,1,0,1,0,0] body))
end g_parseState_startListItem
def g_parseState_startListItem (R : EP) (x0 x1 : OA) (w : World) : Prop :=
 box w #[.pointer x0] ty_P_parseState fun b1 w2 =>
 nilP x1 fun a3 =>
 ∃ (v4 : Int), w2.cell? (a3.add 0) = some (.int .i64 v4) ∧
 ∃ (v5 : Int), w2.cell? (a3.add 1) = some (.int .i64 v5) ∧
 ∃ (v6 : Int), w2.cell? (a3.add 2) = some (.int .i64 v6) ∧
 ∃ (v7 : BA), w2.cell? (a3.add 3) = some (.string v7) ∧
 ∃ (v8 : Int), w2.cell? (a3.add 4) = some (.int .u8 v8) ∧
 box w2 #[.int .i64 0, .int .i64 0, .int .i64 0, .string (ByteArray.mk #[]), .int .u8 0] ty_line fun b9 w10 =>
 stV w10 ⟨b9, 0, none⟩ (.int .i64 v4) fun w11 =>
 stV w11 ⟨b9, 1, none⟩ (.int .i64 v5) fun w12 =>
 stV w12 ⟨b9, 2, none⟩ (.int .i64 v6) fun w13 =>
 stV w13 ⟨b9, 3, none⟩ (.string v7) fun w14 =>
 stV w14 ⟨b9, 4, none⟩ (.int .u8 v8) fun w15 =>
 g_parseState_startListItem.l1 R b1 b9 0 0 w15

namespace g_parseState_startListItem
noncomputable def ac (R : EP) : AC :=
 (.seq (.leaf (sel [0] body)) (.scope (.seq (.leaf (sel [1,0,0] body)) (.seq (.leaf (sel [1,0,1,0] body)) (.seq (.seq (.leaf (sel [1,0,1,1,0,0] body)) (.block 0 (.loop (leaf [(2, .s .loc), (5, .s .loc), (6, .s (.int .i64)), (7, .s (.int .i64))] (l1 R)) (sel [1,0,1,1,0,1,0,0] body)))) (.mark (leaf [(2, .s .loc), (5, .s .loc), (6, .s (.int .i64))] (k1 R)) (.seq (.leaf (sel [1,0,1,1,1,0] body)) (.seq (.leaf (sel [1,0,1,1,1,1,0] body)) (.seq (.leaf (sel [1,0,1,1,1,1,1,0] body)) (.seq (.seq (.leaf (sel [1,0,1,1,1,1,1,1,0,0] body)) (.block 2 (.seq (.leaf (sel [1,0,1,1,1,1,1,1,0,1,0,0] body)) (.mark (leaf [(2, .s .loc), (5, .s .loc), (6, .s (.int .i64)), (8, .s (.int .u8)), (9, .s (.int .i64)), (31, .s (.int .u8)), (32, .s .bool)] (k2 R)) (.cond 32 (.leaf (sel [1,0,1,1,1,1,1,1,0,1,0,1,0] body)) (.seq (.leaf (sel [1,0,1,1,1,1,1,1,0,1,0,1,1,0] body)) (.mark (leaf [(2, .s .loc), (5, .s .loc), (6, .s (.int .i64)), (9, .s (.int .i64)), (40, .s .bool)] (k4 R)) (.cond 40 (.seq (.leaf (sel [1,0,1,1,1,1,1,1,0,1,0,1,1,1,0,0] body)) (.block 3 (.loop (leaf [(2, .s .loc), (5, .s .loc), (6, .s (.int .i64)), (9, .s (.int .i64)), (10, .s (.int .i64))] (l3 R)) (sel [1,0,1,1,1,1,1,1,0,1,0,1,1,1,0,1,0,0] body)))) (.leaf (sel [1,0,1,1,1,1,1,1,0,1,0,1,1,1,1] body)))))))))) (.mark (leaf [(2, .s .loc), (5, .s .loc), (6, .s (.int .i64)), (8, .s (.int .u8)), (9, .s (.int .i64))] (k3 R)) (.seq (.leaf (sel [1,0,1,1,1,1,1,1,1,0] body)) (.seq (.leaf (sel [1,0,1,1,1,1,1,1,1,1,0] body)) (.seq (.leaf (sel [1,0,1,1,1,1,1,1,1,1,1,0] body)) (.seq (.leaf (sel [1,0,1,1,1,1,1,1,1,1,1,1,0] body)) (.seq (.seq (.leaf (sel [1,0,1,1,1,1,1,1,1,1,1,1,1,0,0] body)) (.block 5 (.loop (leaf [(2, .s .loc), (5, .s .loc), (6, .s (.int .i64)), (8, .s (.int .u8)), (9, .s (.int .i64)), (12, .s .loc), (13, .s (.int .i64)), (14, .s (.int .i64))] (l2 R)) (sel [1,0,1,1,1,1,1,1,1,1,1,1,1,0,1,0,0] body)))) (.mark (leaf [(2, .s .loc), (5, .s .loc), (6, .s (.int .i64)), (8, .s (.int .u8)), (9, .s (.int .i64)), (12, .s .loc), (13, .s (.int .i64))] (k6 R)) (.seq (.leaf (sel [1,0,1,1,1,1,1,1,1,1,1,1,1,1,0] body)) (.mark (leaf [(2, .s .loc), (5, .s .loc), (6, .s (.int .i64)), (8, .s (.int .u8)), (9, .s (.int .i64))] (k8 R)) (.seq (.leaf (sel [1,0,1,1,1,1,1,1,1,1,1,1,1,1,1,0] body)) (.seq (.leaf (sel [1,0,1,1,1,1,1,1,1,1,1,1,1,1,1,1,0] body)) (.mark (leaf [(2, .s .loc), (5, .s .loc), (6, .s (.int .i64)), (8, .s (.int .u8)), (9, .s (.int .i64)), (15, .s .loc)] (k10 R)) (.seq (.seq (.leaf (sel [1,0,1,1,1,1,1,1,1,1,1,1,1,1,1,1,1,0,0] body)) (.mark (leaf [(2, .s .loc), (5, .s .loc), (6, .s (.int .i64)), (8, .s (.int .u8)), (9, .s (.int .i64)), (15, .s .loc), (136, .s .bool)] (k11 R)) (.cond 136 (.seq (.seq (.leaf (sel [1,0,1,1,1,1,1,1,1,1,1,1,1,1,1,1,1,0,1,0,0,0] body)) (.mark (leaf [(2, .s .loc), (5, .s .loc), (6, .s (.int .i64)), (8, .s (.int .u8)), (9, .s (.int .i64)), (15, .s .loc), (158, .s .bool)] (k12 R)) (.leaf (sel [1,0,1,1,1,1,1,1,1,1,1,1,1,1,1,1,1,0,1,0,0,1] body)))) (.leaf (sel [1,0,1,1,1,1,1,1,1,1,1,1,1,1,1,1,1,0,1,0,1] body))) (.leaf (sel [1,0,1,1,1,1,1,1,1,1,1,1,1,1,1,1,1,0,1,1] body))))) (.mark (leaf [(2, .s .loc), (5, .s .loc), (6, .s (.int .i64)), (15, .s .loc)] (k13 R)) (.seq (.draw (.pure 1 (.load 0 (.two 2 (.pure 3 (.pure 4 (.two 5 (.one 6 (.one 7 .done)) 6 (.one 5 (.one 7 .done))))) 6 (.one 2 (.pure 3 (.pure 4 (.one 5 (.one 7 .done)))))))) (sel [1,0,1,1,1,1,1,1,1,1,1,1,1,1,1,1,1,1,0] body)) (.mark (leaf [(2, .s .loc), (5, .s .loc), (15, .s .loc), (18, .s .loc)] (k14 R)) (.leaf (sel [1,0,1,1,1,1,1,1,1,1,1,1,1,1,1,1,1,1,1] body))))))))))))))))))))))))))))
theorem good (R : EP) : Good P 181 (ac R) (QF P [.tmp 4] R) :=
 ⟨trivial, ⟨trivial, ⟨trivial, ⟨⟨trivial, (loopG (al1 R) (bl1 R) (fun _ => by kernel_rfl) (fun Xc => trivial) (fun Xc => by intro x2 x5 x6 x7 ρ w; kernel_rfl) (fun X h _ _ _ _ _ g => g X h))⟩, ⟨⟨trivial, ⟨trivial, ⟨trivial, ⟨⟨trivial, ⟨trivial, ⟨⟨trivial, ⟨trivial, ⟨⟨⟨trivial, (loopG (al3 R) (bl3 R) (fun _ => by kernel_rfl) (fun Xb => ⟨⟨trivial, ⟨trivial, ⟨⟨trivial, ⟨trivial, cutZ⟩⟩, ⟨trivial, ⟨trivial, cutZ⟩⟩⟩⟩⟩, trivial⟩) (fun Xb => by intro x2 x5 x6 x9 x10 ρ w; kernel_rfl) (fun X h _ _ _ _ _ _ g => g X h))⟩, trivial⟩, cutZ⟩⟩⟩, cutZ⟩⟩⟩, ⟨⟨trivial, ⟨trivial, ⟨trivial, ⟨trivial, ⟨⟨trivial, (loopG (al2 R) (bl2 R) (fun _ => by kernel_rfl) (fun Xa => ⟨trivial, ⟨trivial, cutZ⟩⟩) (fun Xa => by intro x2 x5 x6 x8 x9 x12 x13 x14 ρ w; kernel_rfl) (fun X h _ _ _ _ _ _ _ _ _ g => g X h))⟩, ⟨⟨trivial, ⟨⟨trivial, ⟨trivial, ⟨⟨⟨trivial, ⟨⟨⟨⟨trivial, ⟨trivial, cutZ⟩⟩, trivial⟩, trivial⟩, cutZ⟩⟩, ⟨⟨⟨by kernel_rfl, by kernel_rfl, fun _ _ _ h => h⟩, ⟨trivial, cutZ⟩⟩, cutZ⟩⟩, cutZ⟩⟩⟩, cutZ⟩⟩, cutZ⟩⟩⟩⟩⟩⟩, cutZ⟩⟩⟩⟩⟩, cutZ⟩⟩⟩⟩⟩
theorem eq (R : EP) (x0 x1 : OA) (w : World) : g_parseState_startListItem R x0 x1 w = vcA P 181 (ac R) (QF P [.tmp 4] R) (fr0 [.pointer x0, .pointer x1]) w := by kernel_rfl
theorem sound {R : EP} {x0 x1 : OA} {w : World} (h : g_parseState_startListItem R x0 x1 w) : callE P i_parseState_startListItem #[.pointer x0, .pointer x1] R w :=
 callE_fz (c := body) Tryz.func188 Tryz.call188 (good R) (eq R x0 x1 w) h
end g_parseState_startListItem
namespace g_newHTML
noncomputable def body : Code := bodyOf Tryz.f129
end g_newHTML
def g_newHTML (R : EP) (x0 : OA) (x1_0 x1_1 x1_2 : Int) (x1_3 : BA) (x1_4 : Int) (w : World) : Prop :=
 box w #[.int .i64 x1_0, .int .i64 x1_1, .int .i64 x1_2, .string x1_3, .int .u8 x1_4] ty_line fun b1 w2 =>
 box w2 #[.int .i64 0, .int .i64 0, .int .i64 0, .string (ByteArray.mk #[]), .int .u8 0] ty_line fun b3 w4 =>
 ∃ (v5 : Int), w4.cell? ⟨b1, 0, none⟩ = some (.int .i64 v5) ∧
 ∃ (v6 : Int), w4.cell? ⟨b1, 1, none⟩ = some (.int .i64 v6) ∧
 ∃ (v7 : Int), w4.cell? ⟨b1, 2, none⟩ = some (.int .i64 v7) ∧
 ∃ (v8 : BA), w4.cell? ⟨b1, 3, none⟩ = some (.string v8) ∧
 ∃ (v9 : Int), w4.cell? ⟨b1, 4, none⟩ = some (.int .u8 v9) ∧
 box w4 #[.int .i64 0, .int .i64 0, .int .i64 0, .string (ByteArray.mk #[]), .int .u8 0] ty_line fun b10 w11 =>
 stV w11 ⟨b10, 0, none⟩ (.int .i64 v5) fun w12 =>
 stV w12 ⟨b10, 1, none⟩ (.int .i64 v6) fun w13 =>
 stV w13 ⟨b10, 2, none⟩ (.int .i64 v7) fun w14 =>
 stV w14 ⟨b10, 3, none⟩ (.string v8) fun w15 =>
 stV w15 ⟨b10, 4, none⟩ (.int .u8 v9) fun w16 =>
 callE P i_parseState_startHTML #[.pointer x0, .pointer (some ⟨b10, 0, none⟩)] (fun e w18 => ∃ (r17 : Bool), e = .returned (.bool r17) ∧
 br r17
 (stV w18 ⟨b3, 0, none⟩ (.int .i64 0) fun w19 =>
 stV w19 ⟨b3, 1, none⟩ (.int .i64 0) fun w20 =>
 stV w20 ⟨b3, 2, none⟩ (.int .i64 0) fun w21 =>
 stV w21 ⟨b3, 3, none⟩ (.string (ByteArray.mk #[])) fun w22 =>
 stV w22 ⟨b3, 4, none⟩ (.int .u8 0) fun w23 =>
 ∃ (v24 : Int), w23.cell? ⟨b3, 0, none⟩ = some (.int .i64 v24) ∧
 ∃ (v25 : Int), w23.cell? ⟨b3, 1, none⟩ = some (.int .i64 v25) ∧
 ∃ (v26 : Int), w23.cell? ⟨b3, 2, none⟩ = some (.int .i64 v26) ∧
 ∃ (v27 : BA), w23.cell? ⟨b3, 3, none⟩ = some (.string v27) ∧
 ∃ (v28 : Int), w23.cell? ⟨b3, 4, none⟩ = some (.int .u8 v28) ∧
 R (.returned (.tuple #[.agg #[.int .i64 v24, .int .i64 v25, .int .i64 v26, .string v27, .int .u8 v28], .bool true])) w23)
 (∃ (v29 : Int), w18.cell? ⟨b1, 0, none⟩ = some (.int .i64 v29) ∧
 ∃ (v30 : Int), w18.cell? ⟨b1, 1, none⟩ = some (.int .i64 v30) ∧
 ∃ (v31 : Int), w18.cell? ⟨b1, 2, none⟩ = some (.int .i64 v31) ∧
 ∃ (v32 : BA), w18.cell? ⟨b1, 3, none⟩ = some (.string v32) ∧
 ∃ (v33 : Int), w18.cell? ⟨b1, 4, none⟩ = some (.int .u8 v33) ∧
 stV w18 ⟨b3, 0, none⟩ (.int .i64 v29) fun w34 =>
 stV w34 ⟨b3, 1, none⟩ (.int .i64 v30) fun w35 =>
 stV w35 ⟨b3, 2, none⟩ (.int .i64 v31) fun w36 =>
 stV w36 ⟨b3, 3, none⟩ (.string v32) fun w37 =>
 stV w37 ⟨b3, 4, none⟩ (.int .u8 v33) fun w38 =>
 ∃ (v39 : Int), w38.cell? ⟨b3, 0, none⟩ = some (.int .i64 v39) ∧
 ∃ (v40 : Int), w38.cell? ⟨b3, 1, none⟩ = some (.int .i64 v40) ∧
 ∃ (v41 : Int), w38.cell? ⟨b3, 2, none⟩ = some (.int .i64 v41) ∧
 ∃ (v42 : BA), w38.cell? ⟨b3, 3, none⟩ = some (.string v42) ∧
 ∃ (v43 : Int), w38.cell? ⟨b3, 4, none⟩ = some (.int .u8 v43) ∧
 R (.returned (.tuple #[.agg #[.int .i64 v39, .int .i64 v40, .int .i64 v41, .string v42, .int .u8 v43], .bool false])) w38)) w16

namespace g_newHTML
noncomputable def ac (R : EP) : AC :=
 (.leaf (sel [] body))
theorem good (R : EP) : Good P 12 (ac R) (QF P [.cell 4 159, .tmp 5] R) :=
 trivial
theorem eq (R : EP) (x0 : OA) (x1_0 x1_1 x1_2 : Int) (x1_3 : BA) (x1_4 : Int) (w : World) : g_newHTML R x0 x1_0 x1_1 x1_2 x1_3 x1_4 w = vcA P 12 (ac R) (QF P [.cell 4 159, .tmp 5] R) (fr0 [.pointer x0, .agg #[.int .i64 x1_0, .int .i64 x1_1, .int .i64 x1_2, .string x1_3, .int .u8 x1_4]]) w := by kernel_rfl
theorem sound {R : EP} {x0 : OA} {x1_0 x1_1 x1_2 : Int} {x1_3 : ByteArray} {x1_4 : Int} {w : World} (h : g_newHTML R x0 x1_0 x1_1 x1_2 x1_3 x1_4 w) : callE P i_newHTML #[.pointer x0, .agg #[.int .i64 x1_0, .int .i64 x1_1, .int .i64 x1_2, .string x1_3, .int .u8 x1_4]] R w :=
 callE_fz (c := body) Tryz.func129 Tryz.call129 (good R) (eq R x0 x1_0 x1_1 x1_2 x1_3 x1_4 w) h
end g_newHTML
namespace g_parseState_para
noncomputable def body : Code := bodyOf Tryz.f132
end g_parseState_para
def g_parseState_para (R : EP) (x0 : OA) (w : World) : Prop :=
 tk w fun w1 =>
 nilP x0 fun a2 =>
 nilP x0 fun a3 =>
 ∃ (v4q : OA), ∃ (v4n : Nat), ∃ (v4c : Nat), w1.cell? (a2.add 4) = some (.slice v4q v4n v4c) ∧
 ∃ (v5q : OA), ∃ (v5n : Nat), ∃ (v5c : Nat), w1.cell? (a3.add 4) = some (.slice v5q v5n v5c) ∧
 0 ≤ (IntKind.i64.wrap ((v5n : Int) - 1)) ∧ (IntKind.i64.wrap ((v5n : Int) - 1)) < (v4n : Int) ∧
 nilP v4q fun a6 =>
 ∃ (v7 : Value), w1.cell? (a6.add (Int.toNat (IntKind.i64.wrap ((v5n : Int) - 1)) * 4)) = some v7 ∧
 ∃ (r8_0 : OA), ∃ (r8_1 : Bool), (∀ w, (Instr.typeAssert v7 ty_blockBuilder ty_P_paraBuilder true).run P w = .ok (.tuple #[.pointer r8_0, .bool r8_1]) w) ∧
 br r8_1
 (R (.returned (.pointer r8_0)) w1)
 (R (.returned (.pointer none)) w1)

namespace g_parseState_para
noncomputable def ac (R : EP) : AC :=
 (.seq (.leaf (sel [0] body)) (.seq (.seq (.draw (.pure 0 (.pure 1 (.pure 2 (.pure 4 (.pure 5 (.pure 6 (.load 3 (.load 7 (.pure 8 (.pure 9 (.pure 10 (.pure 11 (.load 12 (.pure 13 (.pure 14 (.pure 15 (.pure 16 (.pure 17 (.pure 18 .done))))))))))))))))))) (sel [1,0,0] body)) (.leaf (sel [1,0,1] body))) (.leaf (sel [1,1] body))))
theorem good (R : EP) : Good P 24 (ac R) (QF P [.tmp 2] R) :=
 ⟨trivial, ⟨⟨⟨by kernel_rfl, by kernel_rfl, fun _ _ _ h => h⟩, trivial⟩, trivial⟩⟩
theorem eq (R : EP) (x0 : OA) (w : World) : g_parseState_para R x0 w = vcA P 24 (ac R) (QF P [.tmp 2] R) (fr0 [.pointer x0]) w := by kernel_rfl
theorem sound {R : EP} {x0 : OA} {w : World} (h : g_parseState_para R x0 w) : callE P i_parseState_para #[.pointer x0] R w :=
 callE_fz (c := body) Tryz.func132 Tryz.call132 (good R) (eq R x0 w) h
end g_parseState_para
namespace g_parseState_startHTML
noncomputable def body : Code := bodyOf Tryz.f189
def k10 (R : EP) (Xa : OA → OA → BA → Int → OA → Nat → Nat → WP) (x0 x1 : OA) (x6 : BA) (x9 : Int) (x10q : OA) (x10n x10c : Nat) (x11 : Int) (w : World) : Prop :=
 ∃ (r64q : OA), ∃ (r64n : Nat), ∃ (r64c : Nat), ∃ w65, (Instr.buildSlice ty_S_uint8 1 #[(0, .int .u8 x11)]).run P w = .ok (.slice r64q r64n r64c) w65 ∧
 ∃ (r66q : OA), ∃ (r66n : Nat), ∃ (r66c : Nat), ∃ w67, (Builtin.append_ #[ty_S_uint8, ty_S_uint8] ty_S_uint8 #[.slice x10q x10n x10c, .slice r64q r64n r64c]).run P w65 = .ok (.slice r66q r66n r66c) w67 ∧
 Xa x0 x1 x6 (IntKind.i64.wrap (x9 + 1)) r66q r66n r66c w67

def k14 (R : EP) (x0 x1 : OA) (w : World) : Prop :=
 box w #[.bool true, .slice none 0 0, .nilFunc] ty_htmlBuilder fun b76 w77 =>
 callE P i_parseState_addBlock #[.pointer x0, .iface ty_P_htmlBuilder (.pointer (some ⟨b76, 0, none⟩))] (fun e w79 => e = .returned (.tuple #[]) ∧
 tk w79 fun w80 =>
 ∃ (v81q : OA), ∃ (v81n : Nat), ∃ (v81c : Nat), w80.cell? ⟨b76, 1, none⟩ = some (.slice v81q v81n v81c) ∧
 callE P i_line_string #[.pointer x1] (fun e w83 => ∃ (r82 : BA), e = .returned (.string r82) ∧
 SameC w80 w83 ⟨b76, 1, none⟩ 1 ∧
 ∃ (r84q : OA), ∃ (r84n : Nat), ∃ (r84c : Nat), ∃ w85, (Instr.buildSlice ty_S_string 1 #[(0, .string r82)]).run P w83 = .ok (.slice r84q r84n r84c) w85 ∧
 SameC w83 w85 ⟨b76, 1, none⟩ 1 ∧
 ∃ (r86q : OA), ∃ (r86n : Nat), ∃ (r86c : Nat), ∃ w87, (Builtin.append_ #[ty_S_string, ty_S_string] ty_S_string #[.slice v81q v81n v81c, .slice r84q r84n r84c]).run P w85 = .ok (.slice r86q r86n r86c) w87 ∧
 stV w87 ⟨b76, 1, none⟩ (.slice r86q r86n r86c) fun w88 =>
 R (.returned (.bool true)) w88) w80) w77

def k18 (R : EP) (x0 x1 : OA) (w : World) : Prop :=
 box w #[.bool true, .slice none 0 0, .nilFunc] ty_htmlBuilder fun b120 w121 =>
 callE P i_parseState_addBlock #[.pointer x0, .iface ty_P_htmlBuilder (.pointer (some ⟨b120, 0, none⟩))] (fun e w123 => e = .returned (.tuple #[]) ∧
 tk w123 fun w124 =>
 ∃ (v125q : OA), ∃ (v125n : Nat), ∃ (v125c : Nat), w124.cell? ⟨b120, 1, none⟩ = some (.slice v125q v125n v125c) ∧
 callE P i_line_string #[.pointer x1] (fun e w127 => ∃ (r126 : BA), e = .returned (.string r126) ∧
 SameC w124 w127 ⟨b120, 1, none⟩ 1 ∧
 ∃ (r128q : OA), ∃ (r128n : Nat), ∃ (r128c : Nat), ∃ w129, (Instr.buildSlice ty_S_string 1 #[(0, .string r126)]).run P w127 = .ok (.slice r128q r128n r128c) w129 ∧
 SameC w127 w129 ⟨b120, 1, none⟩ 1 ∧
 ∃ (r130q : OA), ∃ (r130n : Nat), ∃ (r130c : Nat), ∃ w131, (Builtin.append_ #[ty_S_string, ty_S_string] ty_S_string #[.slice v125q v125n v125c, .slice r128q r128n r128c]).run P w129 = .ok (.slice r130q r130n r130c) w131 ∧
 stV w131 ⟨b120, 1, none⟩ (.slice r130q r130n r130c) fun w132 =>
 R (.returned (.bool true)) w132) w124) w121

def k19 (R : EP) (x0 x1 : OA) (x350 : Bool) (w : World) : Prop :=
 br x350
 (box w #[.bool true, .slice none 0 0, .nilFunc] ty_htmlBuilder fun b133 w134 =>
 callE P i_parseState_addBlock #[.pointer x0, .iface ty_P_htmlBuilder (.pointer (some ⟨b133, 0, none⟩))] (fun e w136 => e = .returned (.tuple #[]) ∧
 tk w136 fun w137 =>
 ∃ (v138q : OA), ∃ (v138n : Nat), ∃ (v138c : Nat), w137.cell? ⟨b133, 1, none⟩ = some (.slice v138q v138n v138c) ∧
 callE P i_line_string #[.pointer x1] (fun e w140 => ∃ (r139 : BA), e = .returned (.string r139) ∧
 SameC w137 w140 ⟨b133, 1, none⟩ 1 ∧
 ∃ (r141q : OA), ∃ (r141n : Nat), ∃ (r141c : Nat), ∃ w142, (Instr.buildSlice ty_S_string 1 #[(0, .string r139)]).run P w140 = .ok (.slice r141q r141n r141c) w142 ∧
 SameC w140 w142 ⟨b133, 1, none⟩ 1 ∧
 ∃ (r143q : OA), ∃ (r143n : Nat), ∃ (r143c : Nat), ∃ w144, (Builtin.append_ #[ty_S_string, ty_S_string] ty_S_string #[.slice v138q v138n v138c, .slice r141q r141n r141c]).run P w142 = .ok (.slice r143q r143n r143c) w144 ∧
 stV w144 ⟨b133, 1, none⟩ (.slice r143q r143n r143c) fun w145 =>
 R (.returned (.bool true)) w145) w137) w134)
 (R (.returned (.bool false)) w)

def k13 (R : EP) (Xb : OA → OA → BA → Int → OA → Nat → Nat → Int → Int → Bool → OA → Nat → Nat → Int → Int → WP) (x0 x1 : OA) (x6 : BA) (x9 : Int) (x10q : OA) (x10n x10c : Nat) (x12 x13 : Int) (x14 : Bool) (x184q : OA) (x184n x184c : Nat) (x185 x186 : Int) (x206 : Bool) (w : World) : Prop :=
 br x206
 (br (x12 == 9)
 (nilP x0 fun a74 =>
 stV w ((a74.add 6).add 0) (.bool true) fun w75 =>
 k14 R x0 x1 w75)
 (k14 R x0 x1 w))
 (Xb x0 x1 x6 x9 x10q x10n x10c x12 x13 x14 x184q x184n x184c x185 (IntKind.i64.wrap (x186 + 1)) w)

def k17 (R : EP) (x0 x1 : OA) (x6 : BA) (x20 : Int) (x310 : Bool) (w : World) : Prop :=
 br x310
 (br (x20 != (x6.size : Int))
 (nilP x0 fun a114 =>
 stV w ((a114.add 6).add 0) (.bool true) fun w115 =>
 k18 R x0 x1 w115)
 (k18 R x0 x1 w))
 (callE P i_parseHTMLClosingTag #[.pointer x0, .string x6, .int .i64 0] (fun e w117 => ∃ (r116_0 : Value), ∃ (r116_1 : Int), ∃ (r116_2 : Bool), e = .returned (.tuple #[r116_0, .int .i64 r116_1, .bool r116_2]) ∧
 br r116_2
 (callE P i_skipSpace #[.string x6, .int .i64 r116_1] (fun e w119 => ∃ (r118 : Int), e = .returned (.int .i64 r118) ∧
 k19 R x0 x1 (r118 == (x6.size : Int)) w119) w117)
 (k19 R x0 x1 false w117)) w)

def k16 (R : EP) (x0 x1 : OA) (x6 : BA) (w : World) : Prop :=
 callE P i_parseState_para #[.pointer x0] (fun e w107 => ∃ (r106 : OA), e = .returned (.pointer r106) ∧
 ∃ (r108 : Bool), ∃ w109, (do eqGuard .eql ty_P_paraBuilder (.tmp 293) (.const (.pointer none)) (.pointer r106) (.pointer none); binOp .eql ty_P_paraBuilder (.pointer r106) (.pointer none)).run P w107 = .ok (.bool r108) w109 ∧
 br r108
 (callE P i_parseHTMLOpenTag #[.pointer x0, .string x6, .int .i64 0] (fun e w111 => ∃ (r110_0 : Value), ∃ (r110_1 : Int), ∃ (r110_2 : Bool), e = .returned (.tuple #[r110_0, .int .i64 r110_1, .bool r110_2]) ∧
 br r110_2
 (callE P i_skipSpace #[.string x6, .int .i64 r110_1] (fun e w113 => ∃ (r112 : Int), e = .returned (.int .i64 r112) ∧
 k17 R x0 x1 x6 r110_1 (r112 == (x6.size : Int)) w113) w111)
 (k17 R x0 x1 x6 r110_1 false w111)) w109)
 (R (.returned (.bool false)) w109)) w

def k15 (R : EP) (x0 x1 : OA) (x6 : BA) (x266 : Bool) (w : World) : Prop :=
 br x266
 (box w #[.bool false, .slice none 0 0, .func (.func i_hasEndPre) #[] #[]] ty_htmlBuilder fun b89 w90 =>
 callE P i_parseState_addBlock #[.pointer x0, .iface ty_P_htmlBuilder (.pointer (some ⟨b89, 0, none⟩))] (fun e w92 => e = .returned (.tuple #[]) ∧
 tk w92 fun w93 =>
 ∃ (v94q : OA), ∃ (v94n : Nat), ∃ (v94c : Nat), w93.cell? ⟨b89, 1, none⟩ = some (.slice v94q v94n v94c) ∧
 callE P i_line_string #[.pointer x1] (fun e w96 => ∃ (r95 : BA), e = .returned (.string r95) ∧
 SameC w93 w96 ⟨b89, 1, none⟩ 1 ∧
 ∃ (r97q : OA), ∃ (r97n : Nat), ∃ (r97c : Nat), ∃ w98, (Instr.buildSlice ty_S_string 1 #[(0, .string r95)]).run P w96 = .ok (.slice r97q r97n r97c) w98 ∧
 SameC w96 w98 ⟨b89, 1, none⟩ 1 ∧
 ∃ (r99q : OA), ∃ (r99n : Nat), ∃ (r99c : Nat), ∃ w100, (Builtin.append_ #[ty_S_string, ty_S_string] ty_S_string #[.slice v94q v94n v94c, .slice r97q r97n r97c]).run P w98 = .ok (.slice r99q r99n r99c) w100 ∧
 stV w100 ⟨b89, 1, none⟩ (.slice r99q r99n r99c) fun w101 =>
 callE P i_hasEndPre #[.string x6] (fun e w103 => ∃ (r102 : Bool), e = .returned (.bool r102) ∧
 br r102
 (callE P i_parseState_closeBlock #[.pointer x0] (fun e w105 => ∃ (r104 : Value), e = .returned r104 ∧
 R (.returned (.bool true)) w105) w103)
 (R (.returned (.bool true)) w103)) w101) w93) w90)
 (k16 R x0 x1 x6 w)

def k12 (R : EP) (x0 x1 : OA) (x6 : BA) (x10q : OA) (x10n x10c : Nat) (x263 : Bool) (w : World) : Prop :=
 br x263
 (∃ (r72 : BA), ∃ w73, (convert ty_S_uint8 ty_string (.slice x10q x10n x10c)).run P w = .ok (.string r72) w73 ∧
 br (r72.toList == (ByteArray.mk #[112, 114, 101]).toList)
 (k15 R x0 x1 x6 true w73)
 (br (r72.toList == (ByteArray.mk #[115, 99, 114, 105, 112, 116]).toList)
 (k15 R x0 x1 x6 true w73)
 (br (r72.toList == (ByteArray.mk #[115, 116, 121, 108, 101]).toList)
 (k15 R x0 x1 x6 true w73)
 (k15 R x0 x1 x6 (r72.toList == (ByteArray.mk #[116, 101, 120, 116, 97, 114, 101, 97]).toList) w73))))
 (k16 R x0 x1 x6 w)

def k11 (R : EP) (x0 x1 : OA) (x6 : BA) (x9 : Int) (x10q : OA) (x10n x10c : Nat) (w : World) : Prop :=
 ((decide ((x6.size : Int) > 1)) = true → 0 ≤ (1 : Int) ∧ 1 < (x6.size : Int)) ∧
 ((((decide ((x6.size : Int) > 1)) && ((bt x6 1) != 47)) && (!(decide (x9 ≥ (x6.size : Int))))) = true → 0 ≤ x9 ∧ x9 < (x6.size : Int)) ∧
 ((((decide ((x6.size : Int) > 1)) && ((bt x6 1) != 47)) && (!((decide (x9 ≥ (x6.size : Int))) || ((bt x6 x9) == 32)))) = true → 0 ≤ x9 ∧ x9 < (x6.size : Int)) ∧
 ((((decide ((x6.size : Int) > 1)) && ((bt x6 1) != 47)) && (!(((decide (x9 ≥ (x6.size : Int))) || ((bt x6 x9) == 32)) || ((bt x6 x9) == 9)))) = true → 0 ≤ x9 ∧ x9 < (x6.size : Int)) ∧
 k12 R x0 x1 x6 x10q x10n x10c (((decide ((x6.size : Int) > 1)) && ((bt x6 1) != 47)) && ((((decide (x9 ≥ (x6.size : Int))) || ((bt x6 x9) == 32)) || ((bt x6 x9) == 9)) || ((bt x6 x9) == 62))) w

def bl2 (R : EP) (Xb : OA → OA → BA → Int → OA → Nat → Nat → Int → Int → Bool → OA → Nat → Nat → Int → Int → WP) (x0 x1 : OA) (x6 : BA) (x9 : Int) (x10q : OA) (x10n x10c : Nat) (x12 x13 : Int) (x14 : Bool) (x184q : OA) (x184n x184c : Nat) (x185 x186 : Int) (w : World) : Prop :=
 br (decide (x186 < x185))
 (0 ≤ x186 ∧ x186 < (x184n : Int) ∧
 nilP x184q fun a68 =>
 ∃ (v69 : BA), w.cell? (a68.add (Int.toNat x186 * 1)) = some (.string v69) ∧
 0 ≤ (0 : Int) ∧ 0 < (v69.size : Int) ∧
 br (((bt v69 0) == x13) && ((v69.size : Int) == (x10n : Int)))
 (∃ (r70 : BA), ∃ w71, (convert ty_S_uint8 ty_string (.slice x10q x10n x10c)).run P w = .ok (.string r70) w71 ∧
 k13 R Xb x0 x1 x6 x9 x10q x10n x10c x12 x13 x14 x184q x184n x184c x185 x186 (v69.toList == r70.toList) w71)
 (k13 R Xb x0 x1 x6 x9 x10q x10n x10c x12 x13 x14 x184q x184n x184c x185 x186 false w))
 (br (!x14)
 (k11 R x0 x1 x6 x9 x10q x10n x10c w)
 (k14 R x0 x1 w))
def l2 (R : EP) (x0 x1 : OA) (x6 : BA) (x9 : Int) (x10q : OA) (x10n x10c : Nat) (x12 x13 : Int) (x14 : Bool) (x184q : OA) (x184n x184c : Nat) (x185 x186 : Int) (w : World) : Prop :=
 ∀ X : OA → OA → BA → Int → OA → Nat → Nat → Int → Int → Bool → OA → Nat → Nat → Int → Int → WP, (∀ x0 x1 x6 x9 x10q x10n x10c x12 x13 x14 x184q x184n x184c x185 x186 w, bl2 R X x0 x1 x6 x9 x10q x10n x10c x12 x13 x14 x184q x184n x184c x185 x186 w → X x0 x1 x6 x9 x10q x10n x10c x12 x13 x14 x184q x184n x184c x185 x186 w) → X x0 x1 x6 x9 x10q x10n x10c x12 x13 x14 x184q x184n x184c x185 x186 w

noncomputable def al2 (R : EP) (Xb : OA → OA → BA → Int → OA → Nat → Nat → Int → Int → Bool → OA → Nat → Nat → Int → Int → WP) : AC :=
 (.seq (.leaf (sel [1,0,1,1,1,1,1,1,1,1,1,1,1,1,1,1,0,1,1,0,1,0,0,0] body)) (.seq (.leaf (sel [1,0,1,1,1,1,1,1,1,1,1,1,1,1,1,1,0,1,1,0,1,0,0,1,0] body)) (.seq (.block 5 (.seq (.leaf (sel [1,0,1,1,1,1,1,1,1,1,1,1,1,1,1,1,0,1,1,0,1,0,0,1,1,0,0,0] body)) (.seq (.leaf (sel [1,0,1,1,1,1,1,1,1,1,1,1,1,1,1,1,0,1,1,0,1,0,0,1,1,0,0,1,0] body)) (.mark (leaf [(0, .s .ptr), (1, .s .ptr), (6, .s .str), (9, .s (.int .i64)), (10, .s .slice), (12, .s (.int .u8)), (13, .s (.int .u8)), (14, .s .bool), (184, .s .slice), (185, .s (.int .i64)), (186, .s (.int .i64)), (206, .s .bool)] (k13 R Xb)) (.leaf (sel [1,0,1,1,1,1,1,1,1,1,1,1,1,1,1,1,0,1,1,0,1,0,0,1,1,0,0,1,1] body)))))) (.leaf (sel [1,0,1,1,1,1,1,1,1,1,1,1,1,1,1,1,0,1,1,0,1,0,0,1,1,1] body)))))
def k9 (R : EP) (x0 x1 : OA) (x6 : BA) (x9 : Int) (x10q : OA) (x10n x10c : Nat) (x12 : Int) (w : World) : Prop :=
 br ((x10n : Int) == 0)
 (k11 R x0 x1 x6 x9 x10q x10n x10c w)
 (0 ≤ (0 : Int) ∧ 0 < (x10n : Int) ∧
 nilP x10q fun a60 =>
 ∃ (v61 : Int), w.cell? (a60.add (Int.toNat 0 * 1)) = some (.int .u8 v61) ∧
 callE P i_htmlTags #[] (fun e w63 => ∃ (r62q : OA), ∃ (r62n : Nat), ∃ (r62c : Nat), e = .returned (.slice r62q r62n r62c) ∧
 l2 R x0 x1 x6 x9 x10q x10n x10c x12 v61 false r62q r62n r62c (r62n : Int) 0 w63) w)

def k8 (R : EP) (x0 x1 : OA) (x6 : BA) (x9 : Int) (x10q : OA) (x10n x10c : Nat) (x12 x156 : Int) (x157 : Bool) (w : World) : Prop :=
 br x157
 (0 ≤ x9 ∧ x9 < (x6.size : Int) ∧
 k9 R x0 x1 x6 x9 x10q x10n x10c (bt x6 x9) w)
 (br (x156 == 47)
 (((!(decide ((IntKind.i64.wrap (x9 + 1)) ≥ (x6.size : Int)))) = true → 0 ≤ (IntKind.i64.wrap (x9 + 1)) ∧ (IntKind.i64.wrap (x9 + 1)) < (x6.size : Int)) ∧
 br ((decide ((IntKind.i64.wrap (x9 + 1)) ≥ (x6.size : Int))) || ((bt x6 (IntKind.i64.wrap (x9 + 1))) != 62))
 (k11 R x0 x1 x6 x9 x10q x10n x10c w)
 (k9 R x0 x1 x6 x9 x10q x10n x10c x12 w))
 (k11 R x0 x1 x6 x9 x10q x10n x10c w))

def k6 (R : EP) (x0 x1 : OA) (x6 : BA) (x9 : Int) (x10q : OA) (x10n x10c : Nat) (w : World) : Prop :=
 br (decide (x9 < (x6.size : Int)))
 (0 ≤ x9 ∧ x9 < (x6.size : Int) ∧
 br ((bt x6 x9) == 32)
 (k8 R x0 x1 x6 x9 x10q x10n x10c 0 (bt x6 x9) true w)
 (br ((bt x6 x9) == 9)
 (k8 R x0 x1 x6 x9 x10q x10n x10c 0 (bt x6 x9) true w)
 (k8 R x0 x1 x6 x9 x10q x10n x10c 0 (bt x6 x9) ((bt x6 x9) == 62) w)))
 (k9 R x0 x1 x6 x9 x10q x10n x10c 0 w)

def k7 (R : EP) (Xa : OA → OA → BA → Int → OA → Nat → Nat → WP) (x0 x1 : OA) (x6 : BA) (x9 : Int) (x10q : OA) (x10n x10c : Nat) (x11 : Int) (w : World) : Prop :=
 br ((!((decide (97 ≤ x11)) && (decide (x11 ≤ 122)))) && (!((decide (48 ≤ x11)) && (decide (x11 ≤ 57)))))
 (k6 R x0 x1 x6 x9 x10q x10n x10c w)
 (k10 R Xa x0 x1 x6 x9 x10q x10n x10c x11 w)

def k5 (R : EP) (Xa : OA → OA → BA → Int → OA → Nat → Nat → WP) (x0 x1 : OA) (x6 : BA) (x9 : Int) (x10q : OA) (x10n x10c : Nat) (w : World) : Prop :=
 0 ≤ x9 ∧ x9 < (x6.size : Int) ∧
 br ((decide (65 ≤ (bt x6 x9))) && (decide ((bt x6 x9) ≤ 90)))
 (k7 R Xa x0 x1 x6 x9 x10q x10n x10c (IntKind.u8.wrap ((bt x6 x9) + 32)) w)
 (k7 R Xa x0 x1 x6 x9 x10q x10n x10c (bt x6 x9) w)

def bl1 (R : EP) (Xa : OA → OA → BA → Int → OA → Nat → Nat → WP) (x0 x1 : OA) (x6 : BA) (x9 : Int) (x10q : OA) (x10n x10c : Nat) (w : World) : Prop :=
 br ((decide (x9 < (x6.size : Int))) && (decide ((x10n : Int) < 16)))
 (k5 R Xa x0 x1 x6 x9 x10q x10n x10c w)
 (k6 R x0 x1 x6 x9 x10q x10n x10c w)
def l1 (R : EP) (x0 x1 : OA) (x6 : BA) (x9 : Int) (x10q : OA) (x10n x10c : Nat) (w : World) : Prop :=
 ∀ X : OA → OA → BA → Int → OA → Nat → Nat → WP, (∀ x0 x1 x6 x9 x10q x10n x10c w, bl1 R X x0 x1 x6 x9 x10q x10n x10c w → X x0 x1 x6 x9 x10q x10n x10c w) → X x0 x1 x6 x9 x10q x10n x10c w

noncomputable def al1 (R : EP) (Xa : OA → OA → BA → Int → OA → Nat → Nat → WP) : AC :=
 (.seq (.leaf (sel [1,0,1,1,1,1,1,1,1,1,1,1,0,0,0,0] body)) (.mark (leaf [(0, .s .ptr), (1, .s .ptr), (6, .s .str), (9, .s (.int .i64)), (10, .s .slice)] (k5 R Xa)) (.seq (.block 2 (.seq (.leaf (sel [1,0,1,1,1,1,1,1,1,1,1,1,0,0,0,1,0,0,0] body)) (.seq (.leaf (sel [1,0,1,1,1,1,1,1,1,1,1,1,0,0,0,1,0,0,1,0] body)) (.mark (leaf [(0, .s .ptr), (1, .s .ptr), (6, .s .str), (9, .s (.int .i64)), (10, .s .slice), (11, .s (.int .u8))] (k7 R Xa)) (.seq (.leaf (sel [1,0,1,1,1,1,1,1,1,1,1,1,0,0,0,1,0,0,1,1,0] body)) (.mark (leaf [(0, .s .ptr), (1, .s .ptr), (6, .s .str), (9, .s (.int .i64)), (10, .s .slice), (11, .s (.int .u8))] (k10 R Xa)) (.leaf (sel [1,0,1,1,1,1,1,1,1,1,1,1,0,0,0,1,0,0,1,1,1] body)))))))) (.leaf (sel [1,0,1,1,1,1,1,1,1,1,1,1,0,0,0,1,1] body)))))
def k3 (R : EP) (x0 x1 : OA) (x6 : BA) (x9 : Int) (w : World) : Prop :=
 ∃ (r54q : OA), ∃ (r54n : Nat), ∃ (r54c : Nat), ∃ w55, (Instr.makeSlice ty_S_uint8 (.int .i64 0) (.int .i64 16)).run P w = .ok (.slice r54q r54n r54c) w55 ∧
 l1 R x0 x1 x6 x9 r54q r54n r54c w55

def k1 (R : EP) (x0 x1 : OA) (x6 : BA) (x7 : Nat) (w : World) : Prop :=
 ∃ (v35 : BA), w.cell? ⟨x7, 0, none⟩ = some (.string v35) ∧
 br (!(v35.toList == (ByteArray.mk #[]).toList))
 (box w #[.bool false, .slice none 0 0, .func (.func i_parseState_startHTML_1) #[] #[.pointer (some ⟨x7, 0, none⟩)]] ty_htmlBuilder fun b36 w37 =>
 callE P i_parseState_addBlock #[.pointer x0, .iface ty_P_htmlBuilder (.pointer (some ⟨b36, 0, none⟩))] (fun e w39 => e = .returned (.tuple #[]) ∧
 tk w39 fun w40 =>
 ∃ (v41q : OA), ∃ (v41n : Nat), ∃ (v41c : Nat), w40.cell? ⟨b36, 1, none⟩ = some (.slice v41q v41n v41c) ∧
 callE P i_line_string #[.pointer x1] (fun e w43 => ∃ (r42 : BA), e = .returned (.string r42) ∧
 SameC w40 w43 ⟨b36, 1, none⟩ 1 ∧
 ∃ (r44q : OA), ∃ (r44n : Nat), ∃ (r44c : Nat), ∃ w45, (Instr.buildSlice ty_S_string 1 #[(0, .string r42)]).run P w43 = .ok (.slice r44q r44n r44c) w45 ∧
 SameC w43 w45 ⟨b36, 1, none⟩ 1 ∧
 ∃ (r46q : OA), ∃ (r46n : Nat), ∃ (r46c : Nat), ∃ w47, (Builtin.append_ #[ty_S_string, ty_S_string] ty_S_string #[.slice v41q v41n v41c, .slice r44q r44n r44c]).run P w45 = .ok (.slice r46q r46n r46c) w47 ∧
 stV w47 ⟨b36, 1, none⟩ (.slice r46q r46n r46c) fun w48 =>
 ∃ (v49 : Value), w48.cell? ⟨b36, 2, none⟩ = some v49 ∧
 enterE P (do let d ← Deferred.ofValue v49 #[.string x6]; invoke d.target d.args) (fun e w51 => ∃ (r50 : Bool), e = .returned (.bool r50) ∧
 br r50
 (callE P i_parseState_closeBlock #[.pointer x0] (fun e w53 => ∃ (r52 : Value), e = .returned r52 ∧
 R (.returned (.bool true)) w53) w51)
 (R (.returned (.bool true)) w51)) w48) w40) w37)
 (((decide (1 < (x6.size : Int))) = true → 0 ≤ (1 : Int) ∧ 1 < (x6.size : Int)) ∧
 br ((decide (1 < (x6.size : Int))) && ((bt x6 1) == 47))
 (k3 R x0 x1 x6 (IntKind.i64.wrap (1 + 1)) w)
 (k3 R x0 x1 x6 1 w))

def k4 (R : EP) (x0 x1 : OA) (x6 : BA) (x7 : Nat) (x63 : Bool) (w : World) : Prop :=
 br x63
 (nilP x0 fun a56 =>
 stV w ((a56.add 6).add 0) (.bool true) fun w57 =>
 stV w57 ⟨x7, 0, none⟩ (.string (ByteArray.mk #[62])) fun w58 =>
 k1 R x0 x1 x6 x7 w58)
 (stV w ⟨x7, 0, none⟩ (.string (ByteArray.mk #[62])) fun w59 =>
 k1 R x0 x1 x6 x7 w59)

def k2 (R : EP) (x0 x1 : OA) (x6 : BA) (x7 : Nat) (x43 : Bool) (w : World) : Prop :=
 br x43
 (0 ≤ (2 : Int) ∧ 2 < (x6.size : Int) ∧
 ((decide (97 ≤ (bt x6 2))) = true → 0 ≤ (2 : Int) ∧ 2 < (x6.size : Int)) ∧
 k4 R x0 x1 x6 x7 ((decide (97 ≤ (bt x6 2))) && (decide ((bt x6 2) ≤ 122))) w)
 (k1 R x0 x1 x6 x7 w)

end g_parseState_startHTML
def g_parseState_startHTML (R : EP) (x0 x1 : OA) (w : World) : Prop :=
 nilP x1 fun a1 =>
 ∃ (v2 : Int), w.cell? (a1.add 0) = some (.int .i64 v2) ∧
 ∃ (v3 : Int), w.cell? (a1.add 1) = some (.int .i64 v3) ∧
 ∃ (v4 : Int), w.cell? (a1.add 2) = some (.int .i64 v4) ∧
 ∃ (v5 : BA), w.cell? (a1.add 3) = some (.string v5) ∧
 ∃ (v6 : Int), w.cell? (a1.add 4) = some (.int .u8 v6) ∧
 box w #[.int .i64 0, .int .i64 0, .int .i64 0, .string (ByteArray.mk #[]), .int .u8 0] ty_line fun b7 w8 =>
 stV w8 ⟨b7, 0, none⟩ (.int .i64 v2) fun w9 =>
 stV w9 ⟨b7, 1, none⟩ (.int .i64 v3) fun w10 =>
 stV w10 ⟨b7, 2, none⟩ (.int .i64 v4) fun w11 =>
 stV w11 ⟨b7, 3, none⟩ (.string v5) fun w12 =>
 stV w12 ⟨b7, 4, none⟩ (.int .u8 v6) fun w13 =>
 callE P i_line_trimSpace #[.pointer (some ⟨b7, 0, none⟩), .int .i64 0, .int .i64 3, .bool false] (fun e w15 => ∃ (r14 : Bool), e = .returned (.bool r14) ∧
 callE P i_line_peek #[.pointer (some ⟨b7, 0, none⟩)] (fun e w17 => ∃ (r16 : Int), e = .returned (.int .u8 r16) ∧
 br (r16 != 60)
 (R (.returned (.bool false)) w17)
 (callE P i_line_string #[.pointer (some ⟨b7, 0, none⟩)] (fun e w19 => ∃ (r18 : BA), e = .returned (.string r18) ∧
 box w19 #[.string (ByteArray.mk #[])] ty_string fun b20 w21 =>
 callE P i_strings_HasPrefix #[.string r18, .string (ByteArray.mk #[60, 33, 45, 45])] (fun e w23 => ∃ (r22 : Bool), e = .returned (.bool r22) ∧
 br r22
 (stV w23 ⟨b20, 0, none⟩ (.string (ByteArray.mk #[45, 45, 62])) fun w24 =>
 g_parseState_startHTML.k1 R x0 x1 r18 b20 w24)
 (callE P i_strings_HasPrefix #[.string r18, .string (ByteArray.mk #[60, 63])] (fun e w26 => ∃ (r25 : Bool), e = .returned (.bool r25) ∧
 br r25
 (stV w26 ⟨b20, 0, none⟩ (.string (ByteArray.mk #[63, 62])) fun w27 =>
 g_parseState_startHTML.k1 R x0 x1 r18 b20 w27)
 (callE P i_strings_HasPrefix #[.string r18, .string (ByteArray.mk #[60, 33, 91, 67, 68, 65, 84, 65, 91])] (fun e w29 => ∃ (r28 : Bool), e = .returned (.bool r28) ∧
 br r28
 (stV w29 ⟨b20, 0, none⟩ (.string (ByteArray.mk #[93, 93, 62])) fun w30 =>
 g_parseState_startHTML.k1 R x0 x1 r18 b20 w30)
 (callE P i_strings_HasPrefix #[.string r18, .string (ByteArray.mk #[60, 33])] (fun e w32 => ∃ (r31 : Bool), e = .returned (.bool r31) ∧
 ((r31 && (decide ((r18.size : Int) ≥ 3))) = true → 0 ≤ (2 : Int) ∧ 2 < (r18.size : Int)) ∧
 br (r31 && (decide ((r18.size : Int) ≥ 3)))
 (callE P i_isLetter #[.int .u8 (bt r18 2)] (fun e w34 => ∃ (r33 : Bool), e = .returned (.bool r33) ∧
 g_parseState_startHTML.k2 R x0 x1 r18 b20 r33 w34) w32)
 (g_parseState_startHTML.k2 R x0 x1 r18 b20 false w32)) w29)) w26)) w23)) w21) w17)) w15) w13

namespace g_parseState_startHTML
noncomputable def ac (R : EP) : AC :=
 (.seq (.leaf (sel [0] body)) (.jump 0 (leaf [(0, .s .ptr), (1, .s .ptr), (6, .s .str), (9, .s (.int .i64)), (10, .s .slice)] (k11 R)) (.seq (.leaf (sel [1,0,0] body)) (.seq (.leaf (sel [1,0,1,0] body)) (.seq (.leaf (sel [1,0,1,1,0] body)) (.seq (.leaf (sel [1,0,1,1,1,0] body)) (.seq (.leaf (sel [1,0,1,1,1,1,0] body)) (.seq (.block 0 (.seq (.leaf (sel [1,0,1,1,1,1,1,0,0,0] body)) (.cond 34 (.leaf (sel [1,0,1,1,1,1,1,0,0,1,0] body)) (.seq (.leaf (sel [1,0,1,1,1,1,1,0,0,1,1,0] body)) (.cond 37 (.leaf (sel [1,0,1,1,1,1,1,0,0,1,1,1,0] body)) (.seq (.leaf (sel [1,0,1,1,1,1,1,0,0,1,1,1,1,0] body)) (.cond 40 (.leaf (sel [1,0,1,1,1,1,1,0,0,1,1,1,1,1,0] body)) (.seq (.leaf (sel [1,0,1,1,1,1,1,0,0,1,1,1,1,1,1,0] body)) (.mark (leaf [(0, .s .ptr), (1, .s .ptr), (6, .s .str), (7, .s .loc), (43, .s .bool)] (k2 R)) (.cond 43 (.seq (.seq (.leaf (sel [1,0,1,1,1,1,1,0,0,1,1,1,1,1,1,1,0,0,0] body)) (.mark (leaf [(0, .s .ptr), (1, .s .ptr), (6, .s .str), (7, .s .loc), (63, .s .bool)] (k4 R)) (.leaf (sel [1,0,1,1,1,1,1,0,0,1,1,1,1,1,1,1,0,0,1] body)))) (.leaf (sel [1,0,1,1,1,1,1,0,0,1,1,1,1,1,1,1,0,1] body))) (.leaf (sel [1,0,1,1,1,1,1,0,0,1,1,1,1,1,1,1,1] body)))))))))))) (.mark (leaf [(0, .s .ptr), (1, .s .ptr), (6, .s .str), (7, .s .loc)] (k1 R)) (.seq (.seq (.leaf (sel [1,0,1,1,1,1,1,1,0,0] body)) (.cond 68 (.seq (.leaf (sel [1,0,1,1,1,1,1,1,0,1,0,0] body)) (.seq (.leaf (sel [1,0,1,1,1,1,1,1,0,1,0,1,0] body)) (.seq (.draw (.pure 0 (.pure 1 (.pure 2 (.pure 3 (.pure 5 (.load 4 (.one 6 (.one 7 (.one 8 (.pure 9 (.pure 10 (.one 11 .done)))))))))))) (sel [1,0,1,1,1,1,1,1,0,1,0,1,1,0] body)) (.leaf (sel [1,0,1,1,1,1,1,1,0,1,0,1,1,1] body))))) (.leaf (sel [1,0,1,1,1,1,1,1,0,1,1] body)))) (.seq (.leaf (sel [1,0,1,1,1,1,1,1,1,0] body)) (.seq (.leaf (sel [1,0,1,1,1,1,1,1,1,1,0] body)) (.mark (leaf [(0, .s .ptr), (1, .s .ptr), (6, .s .str), (9, .s (.int .i64))] (k3 R)) (.seq (.leaf (sel [1,0,1,1,1,1,1,1,1,1,1,0] body)) (.seq (.block 1 (.loop (leaf [(0, .s .ptr), (1, .s .ptr), (6, .s .str), (9, .s (.int .i64)), (10, .s .slice)] (l1 R)) (sel [1,0,1,1,1,1,1,1,1,1,1,1,0,0,0] body))) (.mark (leaf [(0, .s .ptr), (1, .s .ptr), (6, .s .str), (9, .s (.int .i64)), (10, .s .slice)] (k6 R)) (.seq (.leaf (sel [1,0,1,1,1,1,1,1,1,1,1,1,1,0] body)) (.seq (.seq (.leaf (sel [1,0,1,1,1,1,1,1,1,1,1,1,1,1,0,0] body)) (.cond 153 (.seq (.leaf (sel [1,0,1,1,1,1,1,1,1,1,1,1,1,1,0,1,0,0] body)) (.block 3 (.seq (.leaf (sel [1,0,1,1,1,1,1,1,1,1,1,1,1,1,0,1,0,1,0,0] body)) (.mark (leaf [(0, .s .ptr), (1, .s .ptr), (6, .s .str), (9, .s (.int .i64)), (10, .s .slice), (12, .s (.int .u8)), (156, .s (.int .u8)), (157, .s .bool)] (k8 R)) (.leaf (sel [1,0,1,1,1,1,1,1,1,1,1,1,1,1,0,1,0,1,0,1] body)))))) (.leaf (sel [1,0,1,1,1,1,1,1,1,1,1,1,1,1,0,1,1] body)))) (.mark (leaf [(0, .s .ptr), (1, .s .ptr), (6, .s .str), (9, .s (.int .i64)), (10, .s .slice), (12, .s (.int .u8))] (k9 R)) (.seq (.leaf (sel [1,0,1,1,1,1,1,1,1,1,1,1,1,1,1,0] body)) (.seq (.seq (.leaf (sel [1,0,1,1,1,1,1,1,1,1,1,1,1,1,1,1,0,0] body)) (.seq (.leaf (sel [1,0,1,1,1,1,1,1,1,1,1,1,1,1,1,1,0,1,0] body)) (.seq (.seq (.leaf (sel [1,0,1,1,1,1,1,1,1,1,1,1,1,1,1,1,0,1,1,0,0] body)) (.block 4 (.loop (leaf [(0, .s .ptr), (1, .s .ptr), (6, .s .str), (9, .s (.int .i64)), (10, .s .slice), (12, .s (.int .u8)), (13, .s (.int .u8)), (14, .s .bool), (184, .s .slice), (185, .s (.int .i64)), (186, .s (.int .i64))] (l2 R)) (sel [1,0,1,1,1,1,1,1,1,1,1,1,1,1,1,1,0,1,1,0,1,0,0] body)))) (.leaf (sel [1,0,1,1,1,1,1,1,1,1,1,1,1,1,1,1,0,1,1,1] body))))) (.mark (leaf [(0, .s .ptr), (1, .s .ptr)] (k14 R)) (.seq (.seq (.leaf (sel [1,0,1,1,1,1,1,1,1,1,1,1,1,1,1,1,1,0,0] body)) (.seq (.leaf (sel [1,0,1,1,1,1,1,1,1,1,1,1,1,1,1,1,1,0,1,0] body)) (.seq (.draw (.pure 0 (.pure 1 (.pure 2 (.pure 3 (.pure 5 (.load 4 (.one 6 (.one 7 (.one 8 (.pure 9 (.pure 10 (.one 11 .done)))))))))))) (sel [1,0,1,1,1,1,1,1,1,1,1,1,1,1,1,1,1,0,1,1,0] body)) (.leaf (sel [1,0,1,1,1,1,1,1,1,1,1,1,1,1,1,1,1,0,1,1,1] body))))) (.seq (.leaf (sel [1,0,1,1,1,1,1,1,1,1,1,1,1,1,1,1,1,1,0] body)) (.mark (leaf [(0, .s .ptr), (1, .s .ptr), (6, .s .str), (9, .s (.int .i64)), (10, .s .slice)] (k11 R)) (.seq (.seq (.leaf (sel [1,0,1,1,1,1,1,1,1,1,1,1,1,1,1,1,1,1,1,0,0] body)) (.mark (leaf [(0, .s .ptr), (1, .s .ptr), (6, .s .str), (10, .s .slice), (263, .s .bool)] (k12 R)) (.cond 263 (.seq (.leaf (sel [1,0,1,1,1,1,1,1,1,1,1,1,1,1,1,1,1,1,1,0,1,0,0] body)) (.block 6 (.seq (.leaf (sel [1,0,1,1,1,1,1,1,1,1,1,1,1,1,1,1,1,1,1,0,1,0,1,0,0] body)) (.mark (leaf [(0, .s .ptr), (1, .s .ptr), (6, .s .str), (266, .s .bool)] (k15 R)) (.cond 266 (.seq (.leaf (sel [1,0,1,1,1,1,1,1,1,1,1,1,1,1,1,1,1,1,1,0,1,0,1,0,1,0,0] body)) (.seq (.leaf (sel [1,0,1,1,1,1,1,1,1,1,1,1,1,1,1,1,1,1,1,0,1,0,1,0,1,0,1,0] body)) (.seq (.draw (.pure 0 (.pure 1 (.pure 2 (.pure 3 (.pure 5 (.load 4 (.one 6 (.one 7 (.one 8 (.pure 9 (.pure 10 (.one 11 .done)))))))))))) (sel [1,0,1,1,1,1,1,1,1,1,1,1,1,1,1,1,1,1,1,0,1,0,1,0,1,0,1,1,0] body)) (.leaf (sel [1,0,1,1,1,1,1,1,1,1,1,1,1,1,1,1,1,1,1,0,1,0,1,0,1,0,1,1,1] body))))) (.leaf (sel [1,0,1,1,1,1,1,1,1,1,1,1,1,1,1,1,1,1,1,0,1,0,1,0,1,1] body))))))) (.leaf (sel [1,0,1,1,1,1,1,1,1,1,1,1,1,1,1,1,1,1,1,0,1,1] body))))) (.mark (leaf [(0, .s .ptr), (1, .s .ptr), (6, .s .str)] (k16 R)) (.seq (.seq (.leaf (sel [1,0,1,1,1,1,1,1,1,1,1,1,1,1,1,1,1,1,1,1,0,0] body)) (.cond 294 (.seq (.seq (.leaf (sel [1,0,1,1,1,1,1,1,1,1,1,1,1,1,1,1,1,1,1,1,0,1,0,0,0] body)) (.seq (.leaf (sel [1,0,1,1,1,1,1,1,1,1,1,1,1,1,1,1,1,1,1,1,0,1,0,0,1,0] body)) (.mark (leaf [(0, .s .ptr), (1, .s .ptr), (6, .s .str), (20, .s (.int .i64)), (310, .s .bool)] (k17 R)) (.cond 310 (.seq (.leaf (sel [1,0,1,1,1,1,1,1,1,1,1,1,1,1,1,1,1,1,1,1,0,1,0,0,1,1,0,0] body)) (.mark (leaf [(0, .s .ptr), (1, .s .ptr)] (k18 R)) (.seq (.leaf (sel [1,0,1,1,1,1,1,1,1,1,1,1,1,1,1,1,1,1,1,1,0,1,0,0,1,1,0,1,0] body)) (.seq (.leaf (sel [1,0,1,1,1,1,1,1,1,1,1,1,1,1,1,1,1,1,1,1,0,1,0,0,1,1,0,1,1,0] body)) (.seq (.draw (.pure 0 (.pure 1 (.pure 2 (.pure 3 (.pure 5 (.load 4 (.one 6 (.one 7 (.one 8 (.pure 9 (.pure 10 (.one 11 .done)))))))))))) (sel [1,0,1,1,1,1,1,1,1,1,1,1,1,1,1,1,1,1,1,1,0,1,0,0,1,1,0,1,1,1,0] body)) (.leaf (sel [1,0,1,1,1,1,1,1,1,1,1,1,1,1,1,1,1,1,1,1,0,1,0,0,1,1,0,1,1,1,1] body))))))) (.leaf (sel [1,0,1,1,1,1,1,1,1,1,1,1,1,1,1,1,1,1,1,1,0,1,0,0,1,1,1] body)))))) (.seq (.leaf (sel [1,0,1,1,1,1,1,1,1,1,1,1,1,1,1,1,1,1,1,1,0,1,0,1,0] body)) (.seq (.leaf (sel [1,0,1,1,1,1,1,1,1,1,1,1,1,1,1,1,1,1,1,1,0,1,0,1,1,0] body)) (.mark (leaf [(0, .s .ptr), (1, .s .ptr), (350, .s .bool)] (k19 R)) (.cond 350 (.seq (.leaf (sel [1,0,1,1,1,1,1,1,1,1,1,1,1,1,1,1,1,1,1,1,0,1,0,1,1,1,0,0] body)) (.seq (.leaf (sel [1,0,1,1,1,1,1,1,1,1,1,1,1,1,1,1,1,1,1,1,0,1,0,1,1,1,0,1,0] body)) (.seq (.draw (.pure 0 (.pure 1 (.pure 2 (.pure 3 (.pure 5 (.load 4 (.one 6 (.one 7 (.one 8 (.pure 9 (.pure 10 (.one 11 .done)))))))))))) (sel [1,0,1,1,1,1,1,1,1,1,1,1,1,1,1,1,1,1,1,1,0,1,0,1,1,1,0,1,1,0] body)) (.leaf (sel [1,0,1,1,1,1,1,1,1,1,1,1,1,1,1,1,1,1,1,1,0,1,0,1,1,1,0,1,1,1] body))))) (.leaf (sel [1,0,1,1,1,1,1,1,1,1,1,1,1,1,1,1,1,1,1,1,0,1,0,1,1,1,1] body))))))) (.leaf (sel [1,0,1,1,1,1,1,1,1,1,1,1,1,1,1,1,1,1,1,1,0,1,1] body)))) (.leaf (sel [1,0,1,1,1,1,1,1,1,1,1,1,1,1,1,1,1,1,1,1,1] body))))))))))))))))))))))))))))))
theorem good (R : EP) : Good P 368 (ac R) (QF P [.tmp 4] R) :=
 ⟨trivial, ⟨⟨trivial, ⟨trivial, ⟨trivial, ⟨trivial, ⟨trivial, ⟨⟨trivial, ⟨trivial, ⟨trivial, ⟨trivial, ⟨trivial, ⟨trivial, ⟨trivial, ⟨⟨⟨⟨trivial, ⟨trivial, cutZ⟩⟩, trivial⟩, trivial⟩, cutZ⟩⟩⟩⟩⟩⟩⟩⟩, ⟨⟨⟨trivial, ⟨⟨trivial, ⟨trivial, ⟨⟨by kernel_rfl, by kernel_rfl, fun _ _ _ h => h⟩, trivial⟩⟩⟩, trivial⟩⟩, ⟨trivial, ⟨trivial, ⟨⟨trivial, ⟨(loopG (al1 R) (bl1 R) (fun _ => by kernel_rfl) (fun Xa => ⟨trivial, ⟨⟨⟨trivial, ⟨trivial, ⟨⟨trivial, ⟨trivial, cutZ⟩⟩, cutZ⟩⟩⟩, trivial⟩, cutZ⟩⟩) (fun Xa => by intro x0 x1 x6 x9 x10q x10n x10c ρ w; kernel_rfl) (fun X h _ _ _ _ _ _ _ _ g => g X h)), ⟨⟨trivial, ⟨⟨trivial, ⟨⟨trivial, ⟨trivial, ⟨trivial, cutZ⟩⟩⟩, trivial⟩⟩, ⟨⟨trivial, ⟨⟨trivial, ⟨trivial, ⟨⟨trivial, (loopG (al2 R) (bl2 R) (fun _ => by kernel_rfl) (fun Xb => ⟨trivial, ⟨trivial, ⟨⟨trivial, ⟨trivial, ⟨trivial, cutZ⟩⟩⟩, trivial⟩⟩⟩) (fun Xb => by intro x0 x1 x6 x9 x10q x10n x10c x12 x13 x14 x184q x184n x184c x185 x186 ρ w; kernel_rfl) (fun X h _ _ _ _ _ _ _ _ _ _ _ _ _ _ _ _ g => g X h))⟩, trivial⟩⟩⟩, ⟨⟨⟨trivial, ⟨trivial, ⟨⟨by kernel_rfl, by kernel_rfl, fun _ _ _ h => h⟩, trivial⟩⟩⟩, ⟨trivial, ⟨⟨⟨trivial, ⟨⟨⟨trivial, ⟨trivial, ⟨⟨⟨trivial, ⟨trivial, ⟨⟨by kernel_rfl, by kernel_rfl, fun _ _ _ h => h⟩, trivial⟩⟩⟩, trivial⟩, cutZ⟩⟩⟩, trivial⟩, cutZ⟩⟩, ⟨⟨⟨trivial, ⟨⟨⟨trivial, ⟨trivial, ⟨⟨⟨trivial, ⟨⟨trivial, ⟨trivial, ⟨⟨by kernel_rfl, by kernel_rfl, fun _ _ _ h => h⟩, trivial⟩⟩⟩, cutZ⟩⟩, trivial⟩, cutZ⟩⟩⟩, ⟨trivial, ⟨trivial, ⟨⟨⟨trivial, ⟨trivial, ⟨⟨by kernel_rfl, by kernel_rfl, fun _ _ _ h => h⟩, trivial⟩⟩⟩, trivial⟩, cutZ⟩⟩⟩⟩, trivial⟩⟩, trivial⟩, cutZ⟩⟩, cutZ⟩⟩⟩, cutZ⟩⟩⟩, cutZ⟩⟩⟩, cutZ⟩⟩⟩, cutZ⟩⟩⟩⟩, cutZ⟩⟩⟩⟩⟩⟩⟩, .seq .skip (sel [1,0,1,1,1,1,1,1,1,1,1,1,1,1,1,1,1,1,1] body), by kernel_rfl, jumpK (l := 0) (.seq (.leaf .skip) (.seq (.seq (.leaf (sel [1,0,1,1,1,1,1,1,1,1,1,1,1,1,1,1,1,1,1,0,0] body)) (.mark (leaf [(0, .s .ptr), (1, .s .ptr), (6, .s .str), (10, .s .slice), (263, .s .bool)] (k12 R)) (.cond 263 (.seq (.leaf (sel [1,0,1,1,1,1,1,1,1,1,1,1,1,1,1,1,1,1,1,0,1,0,0] body)) (.block 6 (.seq (.leaf (sel [1,0,1,1,1,1,1,1,1,1,1,1,1,1,1,1,1,1,1,0,1,0,1,0,0] body)) (.mark (leaf [(0, .s .ptr), (1, .s .ptr), (6, .s .str), (266, .s .bool)] (k15 R)) (.cond 266 (.seq (.leaf (sel [1,0,1,1,1,1,1,1,1,1,1,1,1,1,1,1,1,1,1,0,1,0,1,0,1,0,0] body)) (.seq (.leaf (sel [1,0,1,1,1,1,1,1,1,1,1,1,1,1,1,1,1,1,1,0,1,0,1,0,1,0,1,0] body)) (.seq (.draw (.pure 0 (.pure 1 (.pure 2 (.pure 3 (.pure 5 (.load 4 (.one 6 (.one 7 (.one 8 (.pure 9 (.pure 10 (.one 11 .done)))))))))))) (sel [1,0,1,1,1,1,1,1,1,1,1,1,1,1,1,1,1,1,1,0,1,0,1,0,1,0,1,1,0] body)) (.leaf (sel [1,0,1,1,1,1,1,1,1,1,1,1,1,1,1,1,1,1,1,0,1,0,1,0,1,0,1,1,1] body))))) (.leaf (sel [1,0,1,1,1,1,1,1,1,1,1,1,1,1,1,1,1,1,1,0,1,0,1,0,1,1] body))))))) (.leaf (sel [1,0,1,1,1,1,1,1,1,1,1,1,1,1,1,1,1,1,1,0,1,1] body))))) (.mark (leaf [(0, .s .ptr), (1, .s .ptr), (6, .s .str)] (k16 R)) (.seq (.seq (.leaf (sel [1,0,1,1,1,1,1,1,1,1,1,1,1,1,1,1,1,1,1,1,0,0] body)) (.cond 294 (.seq (.seq (.leaf (sel [1,0,1,1,1,1,1,1,1,1,1,1,1,1,1,1,1,1,1,1,0,1,0,0,0] body)) (.seq (.leaf (sel [1,0,1,1,1,1,1,1,1,1,1,1,1,1,1,1,1,1,1,1,0,1,0,0,1,0] body)) (.mark (leaf [(0, .s .ptr), (1, .s .ptr), (6, .s .str), (20, .s (.int .i64)), (310, .s .bool)] (k17 R)) (.cond 310 (.seq (.leaf (sel [1,0,1,1,1,1,1,1,1,1,1,1,1,1,1,1,1,1,1,1,0,1,0,0,1,1,0,0] body)) (.mark (leaf [(0, .s .ptr), (1, .s .ptr)] (k18 R)) (.seq (.leaf (sel [1,0,1,1,1,1,1,1,1,1,1,1,1,1,1,1,1,1,1,1,0,1,0,0,1,1,0,1,0] body)) (.seq (.leaf (sel [1,0,1,1,1,1,1,1,1,1,1,1,1,1,1,1,1,1,1,1,0,1,0,0,1,1,0,1,1,0] body)) (.seq (.draw (.pure 0 (.pure 1 (.pure 2 (.pure 3 (.pure 5 (.load 4 (.one 6 (.one 7 (.one 8 (.pure 9 (.pure 10 (.one 11 .done)))))))))))) (sel [1,0,1,1,1,1,1,1,1,1,1,1,1,1,1,1,1,1,1,1,0,1,0,0,1,1,0,1,1,1,0] body)) (.leaf (sel [1,0,1,1,1,1,1,1,1,1,1,1,1,1,1,1,1,1,1,1,0,1,0,0,1,1,0,1,1,1,1] body))))))) (.leaf (sel [1,0,1,1,1,1,1,1,1,1,1,1,1,1,1,1,1,1,1,1,0,1,0,0,1,1,1] body)))))) (.seq (.leaf (sel [1,0,1,1,1,1,1,1,1,1,1,1,1,1,1,1,1,1,1,1,0,1,0,1,0] body)) (.seq (.leaf (sel [1,0,1,1,1,1,1,1,1,1,1,1,1,1,1,1,1,1,1,1,0,1,0,1,1,0] body)) (.mark (leaf [(0, .s .ptr), (1, .s .ptr), (350, .s .bool)] (k19 R)) (.cond 350 (.seq (.leaf (sel [1,0,1,1,1,1,1,1,1,1,1,1,1,1,1,1,1,1,1,1,0,1,0,1,1,1,0,0] body)) (.seq (.leaf (sel [1,0,1,1,1,1,1,1,1,1,1,1,1,1,1,1,1,1,1,1,0,1,0,1,1,1,0,1,0] body)) (.seq (.draw (.pure 0 (.pure 1 (.pure 2 (.pure 3 (.pure 5 (.load 4 (.one 6 (.one 7 (.one 8 (.pure 9 (.pure 10 (.one 11 .done)))))))))))) (sel [1,0,1,1,1,1,1,1,1,1,1,1,1,1,1,1,1,1,1,1,0,1,0,1,1,1,0,1,1,0] body)) (.leaf (sel [1,0,1,1,1,1,1,1,1,1,1,1,1,1,1,1,1,1,1,1,0,1,0,1,1,1,0,1,1,1] body))))) (.leaf (sel [1,0,1,1,1,1,1,1,1,1,1,1,1,1,1,1,1,1,1,1,0,1,0,1,1,1,1] body))))))) (.leaf (sel [1,0,1,1,1,1,1,1,1,1,1,1,1,1,1,1,1,1,1,1,0,1,1] body)))) (.leaf (sel [1,0,1,1,1,1,1,1,1,1,1,1,1,1,1,1,1,1,1,1,1] body)))))) (by kernel_rfl) (by kernel_rfl) ⟨trivial, ⟨⟨trivial, ⟨⟨⟨trivial, ⟨trivial, ⟨⟨⟨trivial, ⟨trivial, ⟨⟨by kernel_rfl, by kernel_rfl, fun _ _ _ h => h⟩, trivial⟩⟩⟩, trivial⟩, cutZ⟩⟩⟩, trivial⟩, cutZ⟩⟩, ⟨⟨⟨trivial, ⟨⟨⟨trivial, ⟨trivial, ⟨⟨⟨trivial, ⟨⟨trivial, ⟨trivial, ⟨⟨by kernel_rfl, by kernel_rfl, fun _ _ _ h => h⟩, trivial⟩⟩⟩, cutZ⟩⟩, trivial⟩, cutZ⟩⟩⟩, ⟨trivial, ⟨trivial, ⟨⟨⟨trivial, ⟨trivial, ⟨⟨by kernel_rfl, by kernel_rfl, fun _ _ _ h => h⟩, trivial⟩⟩⟩, trivial⟩, cutZ⟩⟩⟩⟩, trivial⟩⟩, trivial⟩, cutZ⟩⟩⟩ (cutZ)⟩⟩
theorem eq (R : EP) (x0 x1 : OA) (w : World) : g_parseState_startHTML R x0 x1 w = vcA P 368 (ac R) (QF P [.tmp 4] R) (fr0 [.pointer x0, .pointer x1]) w := by kernel_rfl
theorem sound {R : EP} {x0 x1 : OA} {w : World} (h : g_parseState_startHTML R x0 x1 w) : callE P i_parseState_startHTML #[.pointer x0, .pointer x1] R w :=
 callE_fz (c := body) Tryz.func189 Tryz.call189 (good R) (eq R x0 x1 w) h
end g_parseState_startHTML
namespace g_line_trimHeading
noncomputable def body : Code := bodyOf Tryz.f174
def k1 (R : EP) (x0 x1 : OA) (x5 : Nat) (x6 : Int) (w : World) : Prop :=
 callE P i_line_trimSpace #[.pointer (some ⟨x5, 0, none⟩), .int .i64 1, .int .i64 1, .bool true] (fun e w21 => ∃ (r20 : Bool), e = .returned (.bool r20) ∧
 br (!r20)
 (R (.returned (.bool false)) w21)
 (nilP x1 fun a22 =>
 stV w21 (a22.add 0) (.int .i64 x6) fun w23 =>
 ∃ (v24 : Int), w23.cell? ⟨x5, 0, none⟩ = some (.int .i64 v24) ∧
 ∃ (v25 : Int), w23.cell? ⟨x5, 1, none⟩ = some (.int .i64 v25) ∧
 ∃ (v26 : Int), w23.cell? ⟨x5, 2, none⟩ = some (.int .i64 v26) ∧
 ∃ (v27 : BA), w23.cell? ⟨x5, 3, none⟩ = some (.string v27) ∧
 ∃ (v28 : Int), w23.cell? ⟨x5, 4, none⟩ = some (.int .u8 v28) ∧
 nilP x0 fun a29 =>
 stV w23 (a29.add 0) (.int .i64 v24) fun w30 =>
 stV w30 (a29.add 1) (.int .i64 v25) fun w31 =>
 stV w31 (a29.add 2) (.int .i64 v26) fun w32 =>
 stV w32 (a29.add 3) (.string v27) fun w33 =>
 stV w33 (a29.add 4) (.int .u8 v28) fun w34 =>
 R (.returned (.bool true)) w34)) w

def bl1 (R : EP) (Xa : OA → OA → Nat → Int → WP) (x0 x1 : OA) (x5 : Nat) (x6 : Int) (w : World) : Prop :=
 br (decide (x6 < 6))
 (callE P i_line_trim #[.pointer (some ⟨x5, 0, none⟩), .int .u8 35] (fun e w19 => ∃ (r18 : Bool), e = .returned (.bool r18) ∧
 br r18
 (Xa x0 x1 x5 (IntKind.i64.wrap (x6 + 1)) w19)
 (k1 R x0 x1 x5 x6 w19)) w)
 (k1 R x0 x1 x5 x6 w)
def l1 (R : EP) (x0 x1 : OA) (x5 : Nat) (x6 : Int) (w : World) : Prop :=
 ∀ X : OA → OA → Nat → Int → WP, (∀ x0 x1 x5 x6 w, bl1 R X x0 x1 x5 x6 w → X x0 x1 x5 x6 w) → X x0 x1 x5 x6 w

noncomputable def al1 (R : EP) (Xa : OA → OA → Nat → Int → WP) : AC :=
 (.leaf (sel [1,1,1,1,1,0,0,0] body))
end g_line_trimHeading
def g_line_trimHeading (R : EP) (x0 x1 : OA) (w : World) : Prop :=
 nilP x0 fun a1 =>
 ∃ (v2 : Int), w.cell? (a1.add 0) = some (.int .i64 v2) ∧
 ∃ (v3 : Int), w.cell? (a1.add 1) = some (.int .i64 v3) ∧
 ∃ (v4 : Int), w.cell? (a1.add 2) = some (.int .i64 v4) ∧
 ∃ (v5 : BA), w.cell? (a1.add 3) = some (.string v5) ∧
 ∃ (v6 : Int), w.cell? (a1.add 4) = some (.int .u8 v6) ∧
 box w #[.int .i64 0, .int .i64 0, .int .i64 0, .string (ByteArray.mk #[]), .int .u8 0] ty_line fun b7 w8 =>
 stV w8 ⟨b7, 0, none⟩ (.int .i64 v2) fun w9 =>
 stV w9 ⟨b7, 1, none⟩ (.int .i64 v3) fun w10 =>
 stV w10 ⟨b7, 2, none⟩ (.int .i64 v4) fun w11 =>
 stV w11 ⟨b7, 3, none⟩ (.string v5) fun w12 =>
 stV w12 ⟨b7, 4, none⟩ (.int .u8 v6) fun w13 =>
 callE P i_line_trimSpace #[.pointer (some ⟨b7, 0, none⟩), .int .i64 0, .int .i64 3, .bool false] (fun e w15 => ∃ (r14 : Bool), e = .returned (.bool r14) ∧
 callE P i_line_trim #[.pointer (some ⟨b7, 0, none⟩), .int .u8 35] (fun e w17 => ∃ (r16 : Bool), e = .returned (.bool r16) ∧
 br (!r16)
 (R (.returned (.bool false)) w17)
 (g_line_trimHeading.l1 R x0 x1 b7 1 w17)) w15) w13

namespace g_line_trimHeading
noncomputable def ac (R : EP) : AC :=
 (.seq (.leaf (sel [0] body)) (.seq (.leaf (sel [1,0] body)) (.seq (.leaf (sel [1,1,0] body)) (.seq (.leaf (sel [1,1,1,0] body)) (.seq (.leaf (sel [1,1,1,1,0] body)) (.seq (.block 0 (.loop (leaf [(0, .s .ptr), (1, .s .ptr), (5, .s .loc), (6, .s (.int .i64))] (l1 R)) (sel [1,1,1,1,1,0,0,0] body))) (.mark (leaf [(0, .s .ptr), (1, .s .ptr), (5, .s .loc), (6, .s (.int .i64))] (k1 R)) (.leaf (sel [1,1,1,1,1,1] body)))))))))
theorem good (R : EP) : Good P 28 (ac R) (QF P [.tmp 4] R) :=
 ⟨trivial, ⟨trivial, ⟨trivial, ⟨trivial, ⟨trivial, ⟨(loopG (al1 R) (bl1 R) (fun _ => by kernel_rfl) (fun Xa => trivial) (fun Xa => by intro x0 x1 x5 x6 ρ w; kernel_rfl) (fun X h _ _ _ _ _ g => g X h)), ⟨trivial, cutZ⟩⟩⟩⟩⟩⟩⟩
theorem eq (R : EP) (x0 x1 : OA) (w : World) : g_line_trimHeading R x0 x1 w = vcA P 28 (ac R) (QF P [.tmp 4] R) (fr0 [.pointer x0, .pointer x1]) w := by kernel_rfl
theorem sound {R : EP} {x0 x1 : OA} {w : World} (h : g_line_trimHeading R x0 x1 w) : callE P i_line_trimHeading #[.pointer x0, .pointer x1] R w :=
 callE_fz (c := body) Tryz.func174 Tryz.call174 (good R) (eq R x0 x1 w) h
end g_line_trimHeading
namespace g_newATXHeading
noncomputable def body : Code := bodyOf Tryz.f125
def k2 (R : EP) (x0 : OA) (x4 x7 : Nat) (x8 x10 : BA) (w : World) : Prop :=
 tk w fun w57 =>
 nilP x0 fun a58 =>
 nilP x0 fun a59 =>
 ∃ (v60 : Int), w57.cell? (a58.add 3) = some (.int .i64 v60) ∧
 ∃ (v61 : Int), w57.cell? (a59.add 3) = some (.int .i64 v61) ∧
 box w57 #[.int .i64 0, .int .i64 0] ty_Position fun b62 w63 =>
 SameC w57 w63 (a59.add 3) 1 ∧
 SameC w57 w63 (a58.add 3) 1 ∧
 stV w63 ⟨b62, 0, none⟩ (.int .i64 v60) fun w64 =>
 stV w64 ⟨b62, 1, none⟩ (.int .i64 v61) fun w65 =>
 tk w65 fun w66 =>
 ∃ (v67 : Int), w66.cell? ⟨b62, 0, none⟩ = some (.int .i64 v67) ∧
 ∃ (v68 : Int), w66.cell? ⟨b62, 1, none⟩ = some (.int .i64 v68) ∧
 ∃ (v69 : Int), w66.cell? ⟨x7, 0, none⟩ = some (.int .i64 v69) ∧
 ∃ (v70 : Int), w66.cell? ⟨b62, 0, none⟩ = some (.int .i64 v70) ∧
 ∃ (v71 : Int), w66.cell? ⟨b62, 1, none⟩ = some (.int .i64 v71) ∧
 callE P i_parseState_newText #[.pointer x0, .agg #[.int .i64 v70, .int .i64 v71], .string x8] (fun e w73 => ∃ (r72 : OA), e = .returned (.pointer r72) ∧
 SameC w66 w73 ⟨x7, 0, none⟩ 1 ∧
 SameC w66 w73 ⟨b62, 0, none⟩ 2 ∧
 box w73 #[.int .i64 v67, .int .i64 v68, .int .i64 v69, .pointer r72, .string x10] ty_Heading fun b74 w75 =>
 callE P i_parseState_doneBlock #[.pointer x0, .iface ty_P_Heading (.pointer (some ⟨b74, 0, none⟩))] (fun e w77 => e = .returned (.tuple #[]) ∧
 stV w77 ⟨x4, 0, none⟩ (.int .i64 0) fun w78 =>
 stV w78 ⟨x4, 1, none⟩ (.int .i64 0) fun w79 =>
 stV w79 ⟨x4, 2, none⟩ (.int .i64 0) fun w80 =>
 stV w80 ⟨x4, 3, none⟩ (.string (ByteArray.mk #[])) fun w81 =>
 stV w81 ⟨x4, 4, none⟩ (.int .u8 0) fun w82 =>
 ∃ (v83 : Int), w82.cell? ⟨x4, 0, none⟩ = some (.int .i64 v83) ∧
 ∃ (v84 : Int), w82.cell? ⟨x4, 1, none⟩ = some (.int .i64 v84) ∧
 ∃ (v85 : Int), w82.cell? ⟨x4, 2, none⟩ = some (.int .i64 v85) ∧
 ∃ (v86 : BA), w82.cell? ⟨x4, 3, none⟩ = some (.string v86) ∧
 ∃ (v87 : Int), w82.cell? ⟨x4, 4, none⟩ = some (.int .u8 v87) ∧
 R (.returned (.tuple #[.agg #[.int .i64 v83, .int .i64 v84, .int .i64 v85, .string v86, .int .u8 v87], .bool true])) w82) w75) w66

def k3 (R : EP) (Xa : OA → Nat → Nat → BA → BA → Value → WP) (x0 : OA) (x4 x7 : Nat) (x8 x10 : BA) (x44 : Value) (x55 : Bool) (w : World) : Prop :=
 br x55
 (nilP x0 fun a88 =>
 stV w ((a88.add 6).add 0) (.bool true) fun w89 =>
 Xa x0 x4 x7 x8 x10 x44 w89)
 (Xa x0 x4 x7 x8 x10 x44 w)

def bl1 (R : EP) (Xa : OA → Nat → Nat → BA → BA → Value → WP) (x0 : OA) (x4 x7 : Nat) (x8 x10 : BA) (x44 : Value) (w : World) : Prop :=
 (∃ w52, (Instr.next x44 true ty_).run P w = .ok (.tuple #[.bool false]) w52 ∧
 k2 R x0 x4 x7 x8 x10 w52) ∨
 (∃ (r53_0 : Int), ∃ (r53_1 : Int), ∃ w54, (Instr.next x44 true ty_).run P w = .ok (.tuple #[.bool true, .int .i64 r53_0, .int .i32 r53_1]) w54 ∧
 br (decide (r53_1 ≥ 128))
 (k3 R Xa x0 x4 x7 x8 x10 x44 true w54)
 (callE P i_isLetterDigit #[.int .u8 (IntKind.u8.wrap r53_1)] (fun e w56 => ∃ (r55 : Bool), e = .returned (.bool r55) ∧
 k3 R Xa x0 x4 x7 x8 x10 x44 (!r55) w56) w54))
def l1 (R : EP) (x0 : OA) (x4 x7 : Nat) (x8 x10 : BA) (x44 : Value) (w : World) : Prop :=
 ∀ X : OA → Nat → Nat → BA → BA → Value → WP, (∀ x0 x4 x7 x8 x10 x44 w, bl1 R X x0 x4 x7 x8 x10 x44 w → X x0 x4 x7 x8 x10 x44 w) → X x0 x4 x7 x8 x10 x44 w

noncomputable def al1 (R : EP) (Xa : OA → Nat → Nat → BA → BA → Value → WP) : AC :=
 (.seq (.leaf (sel [1,1,1,0,1,0,1,1,1,1,0,1,0,1,1,0,0,0] body)) (.seq (.leaf (sel [1,1,1,0,1,0,1,1,1,1,0,1,0,1,1,0,0,1,0] body)) (.block 1 (.seq (.leaf (sel [1,1,1,0,1,0,1,1,1,1,0,1,0,1,1,0,0,1,1,0,0] body)) (.seq (.leaf (sel [1,1,1,0,1,0,1,1,1,1,0,1,0,1,1,0,0,1,1,0,1,0] body)) (.mark (leaf [(0, .s .ptr), (4, .s .loc), (7, .s .loc), (8, .s .str), (10, .s .str), (44, .s .any), (55, .s .bool)] (k3 R Xa)) (.leaf (sel [1,1,1,0,1,0,1,1,1,1,0,1,0,1,1,0,0,1,1,0,1,1] body))))))))
def k1 (R : EP) (x0 : OA) (x4 x7 : Nat) (x8 : BA) (w : World) : Prop :=
 nilP x0 fun a44 =>
 ∃ (v45 : OA), w.cell? a44 = some (.pointer v45) ∧
 nilP v45 fun a46 =>
 ∃ (v47 : Bool), w.cell? a46 = some (.bool v47) ∧
 br v47
 (callE P i_extractID #[.pointer x0, .string x8] (fun e w49 => ∃ (r48_0 : BA), ∃ (r48_1 : BA), e = .returned (.tuple #[.string r48_0, .string r48_1]) ∧
 ∃ (r50 : Value), ∃ w51, (Instr.range ty_string (.string r48_0)).run P w49 = .ok r50 w51 ∧
 l1 R x0 x4 x7 r48_1 r48_0 r50 w51) w)
 (k2 R x0 x4 x7 x8 (ByteArray.mk #[]) w)

end g_newATXHeading
def g_newATXHeading (R : EP) (x0 : OA) (x1_0 x1_1 x1_2 : Int) (x1_3 : BA) (x1_4 : Int) (w : World) : Prop :=
 box w #[.int .i64 x1_0, .int .i64 x1_1, .int .i64 x1_2, .string x1_3, .int .u8 x1_4] ty_line fun b1 w2 =>
 box w2 #[.int .i64 0, .int .i64 0, .int .i64 0, .string (ByteArray.mk #[]), .int .u8 0] ty_line fun b3 w4 =>
 ∃ (v5 : Int), w4.cell? ⟨b1, 0, none⟩ = some (.int .i64 v5) ∧
 ∃ (v6 : Int), w4.cell? ⟨b1, 1, none⟩ = some (.int .i64 v6) ∧
 ∃ (v7 : Int), w4.cell? ⟨b1, 2, none⟩ = some (.int .i64 v7) ∧
 ∃ (v8 : BA), w4.cell? ⟨b1, 3, none⟩ = some (.string v8) ∧
 ∃ (v9 : Int), w4.cell? ⟨b1, 4, none⟩ = some (.int .u8 v9) ∧
 box w4 #[.int .i64 0, .int .i64 0, .int .i64 0, .string (ByteArray.mk #[]), .int .u8 0] ty_line fun b10 w11 =>
 stV w11 ⟨b10, 0, none⟩ (.int .i64 v5) fun w12 =>
 stV w12 ⟨b10, 1, none⟩ (.int .i64 v6) fun w13 =>
 stV w13 ⟨b10, 2, none⟩ (.int .i64 v7) fun w14 =>
 stV w14 ⟨b10, 3, none⟩ (.string v8) fun w15 =>
 stV w15 ⟨b10, 4, none⟩ (.int .u8 v9) fun w16 =>
 box w16 #[.int .i64 0] ty_int fun b17 w18 =>
 callE P i_line_trimHeading #[.pointer (some ⟨b10, 0, none⟩), .pointer (some ⟨b17, 0, none⟩)] (fun e w20 => ∃ (r19 : Bool), e = .returned (.bool r19) ∧
 br r19
 (callE P i_line_string #[.pointer (some ⟨b10, 0, none⟩)] (fun e w22 => ∃ (r21 : BA), e = .returned (.string r21) ∧
 callE P i_trimRightSpaceTab #[.string r21] (fun e w24 => ∃ (r23 : BA), e = .returned (.string r23) ∧
 callE P i_zzTrimRight #[.string r23, .string (ByteArray.mk #[35])] (fun e w26 => ∃ (r25 : BA), e = .returned (.string r25) ∧
 callE P i_trimRightSpaceTab #[.string r25] (fun e w28 => ∃ (r27 : BA), e = .returned (.string r27) ∧
 br ((!(r25.toList == r27.toList)) || (r25.toList == (ByteArray.mk #[]).toList))
 (g_newATXHeading.k1 R x0 b3 b17 r25 w28)
 (g_newATXHeading.k1 R x0 b3 b17 r23 w28)) w26) w24) w22) w20)
 (∃ (v29 : Int), w20.cell? ⟨b1, 0, none⟩ = some (.int .i64 v29) ∧
 ∃ (v30 : Int), w20.cell? ⟨b1, 1, none⟩ = some (.int .i64 v30) ∧
 ∃ (v31 : Int), w20.cell? ⟨b1, 2, none⟩ = some (.int .i64 v31) ∧
 ∃ (v32 : BA), w20.cell? ⟨b1, 3, none⟩ = some (.string v32) ∧
 ∃ (v33 : Int), w20.cell? ⟨b1, 4, none⟩ = some (.int .u8 v33) ∧
 stV w20 ⟨b3, 0, none⟩ (.int .i64 v29) fun w34 =>
 stV w34 ⟨b3, 1, none⟩ (.int .i64 v30) fun w35 =>
 stV w35 ⟨b3, 2, none⟩ (.int .i64 v31) fun w36 =>
 stV w36 ⟨b3, 3, none⟩ (.string v32) fun w37 =>
 stV w37 ⟨b3, 4, none⟩ (.int .u8 v33) fun w38 =>
 ∃ (v39 : Int), w38.cell? ⟨b3, 0, none⟩ = some (.int .i64 v39) ∧
 ∃ (v40 : Int), w38.cell? ⟨b3, 1, none⟩ = some (.int .i64 v40) ∧
 ∃ (v41 : Int), w38.cell? ⟨b3, 2, none⟩ = some (.int .i64 v41) ∧
 ∃ (v42 : BA), w38.cell? ⟨b3, 3, none⟩ = some (.string v42) ∧
 ∃ (v43 : Int), w38.cell? ⟨b3, 4, none⟩ = some (.int .u8 v43) ∧
 R (.returned (.tuple #[.agg #[.int .i64 v39, .int .i64 v40, .int .i64 v41, .string v42, .int .u8 v43], .bool false])) w38)) w18

namespace g_newATXHeading
noncomputable def ac (R : EP) : AC :=
 (.seq (.leaf (sel [0] body)) (.seq (.leaf (sel [1,0] body)) (.seq (.leaf (sel [1,1,0] body)) (.seq (.seq (.leaf (sel [1,1,1,0,0] body)) (.cond 15 (.seq (.leaf (sel [1,1,1,0,1,0,0] body)) (.seq (.leaf (sel [1,1,1,0,1,0,1,0] body)) (.seq (.leaf (sel [1,1,1,0,1,0,1,1,0] body)) (.mark (leaf [(0, .s .ptr), (4, .s .loc), (7, .s .loc), (8, .s .str)] (k1 R)) (.seq (.leaf (sel [1,1,1,0,1,0,1,1,1,0] body)) (.seq (.seq (.leaf (sel [1,1,1,0,1,0,1,1,1,1,0,0] body)) (.cond 36 (.seq (.leaf (sel [1,1,1,0,1,0,1,1,1,1,0,1,0,0] body)) (.seq (.leaf (sel [1,1,1,0,1,0,1,1,1,1,0,1,0,1,0] body)) (.block 0 (.loop (leaf [(0, .s .ptr), (4, .s .loc), (7, .s .loc), (8, .s .str), (10, .s .str), (44, .s .any)] (l1 R)) (sel [1,1,1,0,1,0,1,1,1,1,0,1,0,1,1,0,0] body))))) (.leaf (sel [1,1,1,0,1,0,1,1,1,1,0,1,1] body)))) (.mark (leaf [(0, .s .ptr), (4, .s .loc), (7, .s .loc), (8, .s .str), (10, .s .str)] (k2 R)) (.seq (.draw (.pure 0 (.pure 1 (.pure 2 (.pure 4 (.pure 5 (.pure 6 (.load 3 (.load 7 (.pure 8 (.one 9 (.one 10 .done))))))))))) (sel [1,1,1,0,1,0,1,1,1,1,1,0] body)) (.seq (.draw (.pure 0 (.pure 3 (.pure 5 (.pure 7 (.load 1 (.load 2 (.load 4 (.one 6 (.pure 8 (.one 9 (.pure 10 (.one 11 .done)))))))))))) (sel [1,1,1,0,1,0,1,1,1,1,1,1,0] body)) (.leaf (sel [1,1,1,0,1,0,1,1,1,1,1,1,1] body))))))))))) (.leaf (sel [1,1,1,0,1,1] body)))) (.leaf (sel [1,1,1,1] body))))))
theorem good (R : EP) : Good P 82 (ac R) (QF P [.cell 4 159, .tmp 5] R) :=
 ⟨trivial, ⟨trivial, ⟨trivial, ⟨⟨trivial, ⟨⟨trivial, ⟨trivial, ⟨trivial, ⟨⟨trivial, ⟨⟨trivial, ⟨⟨trivial, ⟨trivial, (loopG (al1 R) (bl1 R) (fun _ => by kernel_rfl) (fun Xa => ⟨trivial, ⟨trivial, ⟨trivial, ⟨trivial, ⟨trivial, cutZ⟩⟩⟩⟩⟩) (fun Xa => by intro x0 x4 x7 x8 x10 x44 ρ w; kernel_rfl) (fun X h _ _ _ _ _ _ _ g => g X h))⟩⟩, trivial⟩⟩, ⟨⟨⟨by kernel_rfl, by kernel_rfl, fun _ _ _ h => h⟩, ⟨⟨by kernel_rfl, by kernel_rfl, fun _ _ _ h => h⟩, trivial⟩⟩, cutZ⟩⟩⟩, cutZ⟩⟩⟩⟩, trivial⟩⟩, trivial⟩⟩⟩⟩
theorem eq (R : EP) (x0 : OA) (x1_0 x1_1 x1_2 : Int) (x1_3 : BA) (x1_4 : Int) (w : World) : g_newATXHeading R x0 x1_0 x1_1 x1_2 x1_3 x1_4 w = vcA P 82 (ac R) (QF P [.cell 4 159, .tmp 5] R) (fr0 [.pointer x0, .agg #[.int .i64 x1_0, .int .i64 x1_1, .int .i64 x1_2, .string x1_3, .int .u8 x1_4]]) w := by kernel_rfl
theorem sound {R : EP} {x0 : OA} {x1_0 x1_1 x1_2 : Int} {x1_3 : ByteArray} {x1_4 : Int} {w : World} (h : g_newATXHeading R x0 x1_0 x1_1 x1_2 x1_3 x1_4 w) : callE P i_newATXHeading #[.pointer x0, .agg #[.int .i64 x1_0, .int .i64 x1_1, .int .i64 x1_2, .string x1_3, .int .u8 x1_4]] R w :=
 callE_fz (c := body) Tryz.func125 Tryz.call125 (good R) (eq R x0 x1_0 x1_1 x1_2 x1_3 x1_4 w) h
end g_newATXHeading
end Go.Proofs.YtgbgadkldalkbaaGreatDoor
