/- Part 2 of the proof of the law FnRawBlock: for every input the law returns true, the inputs read as they did, and memory that was there is as it was; under the conditions of the given row alone. -/
import Derived.Deep.AppendSrc
import Derived.Great.BuildSlice
import Derived.Test.YtihmcipajjakgaaGreatDoorA1
set_option linter.all false
set_option linter.unusedVariables false
set_option maxRecDepth 20000
namespace Go.Proofs.YtihmcipajjakgaaGreatDoor
open Go.Proofs
namespace g_htmlBuilder_extend
noncomputable def body : Code := bodyOf Tryz.f332
def k1 (R : EP) (x0 : OA) (x5 : Nat) (x6 : Nat) (w : World) : Prop :=
 callE P i_line_string #[.pointer (some ⟨x5, 0, none⟩)] (fun e w25 => ∃ (r24 : BA), e = .returned (.string r24) ∧
 nilP x0 fun a26 =>
 ∃ (v27q : OA), ∃ (v27n : Nat), ∃ (v27c : Nat), w25.cell? (a26.add 1) = some (.slice v27q v27n v27c) ∧
 ∃ (r28q : OA), ∃ (r28n : Nat), ∃ (r28c : Nat), ∃ w29, (Instr.buildSlice ty_S_string 1 #[(0, .string r24)]).run P w25 = .ok (.slice r28q r28n r28c) w29 ∧
 ∃ (r30q : OA), ∃ (r30n : Nat), ∃ (r30c : Nat), ∃ w31, (Builtin.append_ #[ty_S_string, ty_S_string] ty_S_string #[.slice v27q v27n v27c, .slice r28q r28n r28c]).run P w29 = .ok (.slice r30q r30n r30c) w31 ∧
 nilP x0 fun a32 =>
 stV w31 ((a32.add 1).add 0) (.slice r30q r30n r30c) fun w33 =>
 nilP x0 fun a34 =>
 ∃ (v35 : Value), w33.cell? (a34.add 2) = some v35 ∧
 ∃ (r36 : Bool), ∃ w37, (do eqGuard .neq ty_func_string_bool (.tmp 31) (.const .nilFunc) v35 .nilFunc; binOp .neq ty_func_string_bool v35 .nilFunc).run P w33 = .ok (.bool r36) w37 ∧
 br r36
 (nilP x0 fun a38 =>
 ∃ (v39 : Value), w37.cell? (a38.add 2) = some v39 ∧
 enterE P (do let d ← Deferred.ofValue v39 #[.string r24]; invoke d.target d.args) (fun e w41 => ∃ (r40 : Bool), e = .returned (.bool r40) ∧
 br r40
 (stV w41 ⟨x6, 0, none⟩ (.int .i64 0) fun w42 =>
 stV w42 ⟨x6, 1, none⟩ (.int .i64 0) fun w43 =>
 stV w43 ⟨x6, 2, none⟩ (.int .i64 0) fun w44 =>
 stV w44 ⟨x6, 3, none⟩ (.string (ByteArray.mk #[])) fun w45 =>
 stV w45 ⟨x6, 4, none⟩ (.int .u8 0) fun w46 =>
 ∃ (v47 : Int), w46.cell? ⟨x6, 0, none⟩ = some (.int .i64 v47) ∧
 ∃ (v48 : Int), w46.cell? ⟨x6, 1, none⟩ = some (.int .i64 v48) ∧
 ∃ (v49 : Int), w46.cell? ⟨x6, 2, none⟩ = some (.int .i64 v49) ∧
 ∃ (v50 : BA), w46.cell? ⟨x6, 3, none⟩ = some (.string v50) ∧
 ∃ (v51 : Int), w46.cell? ⟨x6, 4, none⟩ = some (.int .u8 v51) ∧
 R (.returned (.tuple #[.agg #[.int .i64 v47, .int .i64 v48, .int .i64 v49, .string v50, .int .u8 v51], .bool false])) w46)
 (stV w41 ⟨x6, 0, none⟩ (.int .i64 0) fun w52 =>
 stV w52 ⟨x6, 1, none⟩ (.int .i64 0) fun w53 =>
 stV w53 ⟨x6, 2, none⟩ (.int .i64 0) fun w54 =>
 stV w54 ⟨x6, 3, none⟩ (.string (ByteArray.mk #[])) fun w55 =>
 stV w55 ⟨x6, 4, none⟩ (.int .u8 0) fun w56 =>
 ∃ (v57 : Int), w56.cell? ⟨x6, 0, none⟩ = some (.int .i64 v57) ∧
 ∃ (v58 : Int), w56.cell? ⟨x6, 1, none⟩ = some (.int .i64 v58) ∧
 ∃ (v59 : Int), w56.cell? ⟨x6, 2, none⟩ = some (.int .i64 v59) ∧
 ∃ (v60 : BA), w56.cell? ⟨x6, 3, none⟩ = some (.string v60) ∧
 ∃ (v61 : Int), w56.cell? ⟨x6, 4, none⟩ = some (.int .u8 v61) ∧
 R (.returned (.tuple #[.agg #[.int .i64 v57, .int .i64 v58, .int .i64 v59, .string v60, .int .u8 v61], .bool true])) w56)) w37)
 (stV w37 ⟨x6, 0, none⟩ (.int .i64 0) fun w62 =>
 stV w62 ⟨x6, 1, none⟩ (.int .i64 0) fun w63 =>
 stV w63 ⟨x6, 2, none⟩ (.int .i64 0) fun w64 =>
 stV w64 ⟨x6, 3, none⟩ (.string (ByteArray.mk #[])) fun w65 =>
 stV w65 ⟨x6, 4, none⟩ (.int .u8 0) fun w66 =>
 ∃ (v67 : Int), w66.cell? ⟨x6, 0, none⟩ = some (.int .i64 v67) ∧
 ∃ (v68 : Int), w66.cell? ⟨x6, 1, none⟩ = some (.int .i64 v68) ∧
 ∃ (v69 : Int), w66.cell? ⟨x6, 2, none⟩ = some (.int .i64 v69) ∧
 ∃ (v70 : BA), w66.cell? ⟨x6, 3, none⟩ = some (.string v70) ∧
 ∃ (v71 : Int), w66.cell? ⟨x6, 4, none⟩ = some (.int .u8 v71) ∧
 R (.returned (.tuple #[.agg #[.int .i64 v67, .int .i64 v68, .int .i64 v69, .string v70, .int .u8 v71], .bool true])) w66)) w

end g_htmlBuilder_extend
def g_htmlBuilder_extend (R : EP) (x0 : OA) (x1 : OA) (x2_0 : Int) (x2_1 : Int) (x2_2 : Int) (x2_3 : BA) (x2_4 : Int) (w : World) : Prop :=
 box w #[.int .i64 x2_0, .int .i64 x2_1, .int .i64 x2_2, .string x2_3, .int .u8 x2_4] ty_line fun b1 w2 =>
 box w2 #[.int .i64 0, .int .i64 0, .int .i64 0, .string (ByteArray.mk #[]), .int .u8 0] ty_line fun b3 w4 =>
 nilP x0 fun a5 =>
 ∃ (v6 : Bool), w4.cell? a5 = some (.bool v6) ∧
 br v6
 (callE P i_line_isBlank #[.pointer (some ⟨b1, 0, none⟩)] (fun e w8 => ∃ (r7 : Bool), e = .returned (.bool r7) ∧
 br r7
 (∃ (v9 : Int), w8.cell? ⟨b1, 0, none⟩ = some (.int .i64 v9) ∧
 ∃ (v10 : Int), w8.cell? ⟨b1, 1, none⟩ = some (.int .i64 v10) ∧
 ∃ (v11 : Int), w8.cell? ⟨b1, 2, none⟩ = some (.int .i64 v11) ∧
 ∃ (v12 : BA), w8.cell? ⟨b1, 3, none⟩ = some (.string v12) ∧
 ∃ (v13 : Int), w8.cell? ⟨b1, 4, none⟩ = some (.int .u8 v13) ∧
 stV w8 ⟨b3, 0, none⟩ (.int .i64 v9) fun w14 =>
 stV w14 ⟨b3, 1, none⟩ (.int .i64 v10) fun w15 =>
 stV w15 ⟨b3, 2, none⟩ (.int .i64 v11) fun w16 =>
 stV w16 ⟨b3, 3, none⟩ (.string v12) fun w17 =>
 stV w17 ⟨b3, 4, none⟩ (.int .u8 v13) fun w18 =>
 ∃ (v19 : Int), w18.cell? ⟨b3, 0, none⟩ = some (.int .i64 v19) ∧
 ∃ (v20 : Int), w18.cell? ⟨b3, 1, none⟩ = some (.int .i64 v20) ∧
 ∃ (v21 : Int), w18.cell? ⟨b3, 2, none⟩ = some (.int .i64 v21) ∧
 ∃ (v22 : BA), w18.cell? ⟨b3, 3, none⟩ = some (.string v22) ∧
 ∃ (v23 : Int), w18.cell? ⟨b3, 4, none⟩ = some (.int .u8 v23) ∧
 R (.returned (.tuple #[.agg #[.int .i64 v19, .int .i64 v20, .int .i64 v21, .string v22, .int .u8 v23], .bool false])) w18)
 (g_htmlBuilder_extend.k1 R x0 b1 b3 w8)) w4)
 (g_htmlBuilder_extend.k1 R x0 b1 b3 w4)

noncomputable def g_htmlBuilder_extend.ac (R : EP) : AC :=
  (.seq (.leaf (sel [0] g_htmlBuilder_extend.body)) (.seq (.leaf (sel [1, 0] g_htmlBuilder_extend.body)) (.mark (leaf [(0, .s .ptr), (5, .s .loc), (6, .s .loc)] (g_htmlBuilder_extend.k1 R)) (.leaf (sel [1, 1] g_htmlBuilder_extend.body)))))
theorem g_htmlBuilder_extend.good (R : EP) : Good P 43 (g_htmlBuilder_extend.ac R) (QF P [.cell 6 80, .tmp 7] R) :=
  ⟨trivial, ⟨trivial, ⟨trivial, cutE (by intro x0 x5 x6 ρ w; kernel_rfl)⟩⟩⟩
theorem g_htmlBuilder_extend.eq (R : EP) (x0 : OA) (x1 : OA) (x2_0 : Int) (x2_1 : Int) (x2_2 : Int) (x2_3 : BA) (x2_4 : Int) (w : World) : g_htmlBuilder_extend R x0 x1 x2_0 x2_1 x2_2 x2_3 x2_4 w = vcA P 43 (g_htmlBuilder_extend.ac R) (QF P [.cell 6 80, .tmp 7] R) (fr0 [.pointer x0, .pointer x1, .agg #[.int .i64 x2_0, .int .i64 x2_1, .int .i64 x2_2, .string x2_3, .int .u8 x2_4]]) w := by kernel_rfl
theorem g_htmlBuilder_extend.sound {R : EP} {x0 : OA} {x1 : OA} {x2_0 : Int} {x2_1 : Int} {x2_2 : Int} {x2_3 : ByteArray} {x2_4 : Int} {w : World} (h : g_htmlBuilder_extend R x0 x1 x2_0 x2_1 x2_2 x2_3 x2_4 w) : callE P i_htmlBuilder_extend #[.pointer x0, .pointer x1, .agg #[.int .i64 x2_0, .int .i64 x2_1, .int .i64 x2_2, .string x2_3, .int .u8 x2_4]] R w :=
  callE_fin (c := g_htmlBuilder_extend.body) Tryz.func332 Tryz.call332 (by kernel_rfl) (by kernel_rfl) (by kernel_rfl) (by kernel_rfl) (by kernel_rfl) (g_htmlBuilder_extend.good R) (g_htmlBuilder_extend.eq R x0 x1 x2_0 x2_1 x2_2 x2_3 x2_4 w) h
namespace g_parseState_startHTML_1
noncomputable def body : Code := bodyOf Tryz.f163
end g_parseState_startHTML_1
def g_parseState_startHTML_1 (R : EP) (x0 : BA) (x1 : Nat) (w : World) : Prop :=
 ∃ (v1 : BA), w.cell? ⟨x1, 0, none⟩ = some (.string v1) ∧
 callE P i_zzContains #[.string x0, .string v1] (fun e w3 => ∃ (r2 : Bool), e = .returned (.bool r2) ∧
 R (.returned (.bool r2)) w3) w

noncomputable def g_parseState_startHTML_1.ac (R : EP) : AC :=
  (.leaf (sel [] g_parseState_startHTML_1.body))
theorem g_parseState_startHTML_1.good (R : EP) : Good P 7 (g_parseState_startHTML_1.ac R) (QF P [.tmp 3] R) :=
  trivial
theorem g_parseState_startHTML_1.eq (R : EP) (x0 : BA) (x1 : Nat) (w : World) : g_parseState_startHTML_1 R x0 x1 w = vcA P 7 (g_parseState_startHTML_1.ac R) (QF P [.tmp 3] R) (fr0 [.string x0, .pointer (some ⟨x1, 0, none⟩)]) w := by kernel_rfl
theorem g_parseState_startHTML_1.sound {R : EP} {x0 : ByteArray} {x1 : Nat} {w : World} (h : g_parseState_startHTML_1 R x0 x1 w) : callE P i_parseState_startHTML_1 #[.string x0, .pointer (some ⟨x1, 0, none⟩)] R w :=
  callE_fin (c := g_parseState_startHTML_1.body) Tryz.func163 Tryz.call163 (by kernel_rfl) (by kernel_rfl) (by kernel_rfl) (by kernel_rfl) (by kernel_rfl) (g_parseState_startHTML_1.good R) (g_parseState_startHTML_1.eq R x0 x1 w) h
namespace g_paraBuilder_build
noncomputable def body : Code := bodyOf Tryz.f269
def k1 (R : EP) (x0 : OA) (x1 : Value) (x5 : BA) (w : World) : Prop :=
 br (x5.toList == (ByteArray.mk #[]).toList)
 (enterE P (callMethod x1 "pub-paratext/pub/rscmarkdown.pos" #[]) (fun e w18 => ∃ (r17_0 : Int), ∃ (r17_1 : Int), e = .returned (.agg #[.int .i64 r17_0, .int .i64 r17_1]) ∧
 box w18 #[.int .i64 r17_0, .int .i64 r17_1] ty_Empty fun b19 w20 =>
 R (.returned (.iface ty_P_Empty (.pointer (some ⟨b19, 0, none⟩)))) w20) w)
 (enterE P (callMethod x1 "pub-paratext/pub/rscmarkdown.pos" #[]) (fun e w22 => ∃ (r21_0 : Int), ∃ (r21_1 : Int), e = .returned (.agg #[.int .i64 r21_0, .int .i64 r21_1]) ∧
 box w22 #[.int .i64 0, .int .i64 0] ty_Position fun b23 w24 =>
 stV w24 ⟨b23, 0, none⟩ (.int .i64 r21_0) fun w25 =>
 stV w25 ⟨b23, 1, none⟩ (.int .i64 r21_1) fun w26 =>
 tk w26 fun w27 =>
 nilP x0 fun a28 =>
 ∃ (v29 : Int), w27.cell? ⟨b23, 0, none⟩ = some (.int .i64 v29) ∧
 ∃ (v30q : OA), ∃ (v30n : Nat), ∃ (v30c : Nat), w27.cell? a28 = some (.slice v30q v30n v30c) ∧
 stV w27 ⟨b23, 1, none⟩ (.int .i64 (IntKind.i64.wrap ((IntKind.i64.wrap (v29 + (v30n : Int))) - 1))) fun w31 =>
 tk w31 fun w32 =>
 ∃ (v33 : Int), w32.cell? ⟨b23, 0, none⟩ = some (.int .i64 v33) ∧
 ∃ (v34 : Int), w32.cell? ⟨b23, 1, none⟩ = some (.int .i64 v34) ∧
 ∃ (v35 : Int), w32.cell? ⟨b23, 0, none⟩ = some (.int .i64 v35) ∧
 ∃ (v36 : Int), w32.cell? ⟨b23, 1, none⟩ = some (.int .i64 v36) ∧
 enterE P (callMethod x1 "pub-paratext/pub/rscmarkdown.newText" #[.agg #[.int .i64 v35, .int .i64 v36], .string x5]) (fun e w38 => ∃ (r37 : OA), e = .returned (.pointer r37) ∧
 SameC w32 w38 ⟨b23, 0, none⟩ 2 ∧
 box w38 #[.int .i64 v33, .int .i64 v34, .pointer r37] ty_Paragraph fun b39 w40 =>
 R (.returned (.iface ty_P_Paragraph (.pointer (some ⟨b39, 0, none⟩)))) w40) w32) w)

def bl1 (R : EP) (Xa : OA → Value → BA → WP) (x0 : OA) (x1 : Value) (x5 : BA) (w : World) : Prop :=
 br (!(x5.toList == (ByteArray.mk #[]).toList))
 (callE P i_parseLinkRefDef #[x1, .string x5] (fun e w14 => ∃ (r13_0 : Int), ∃ (r13_1 : Bool), e = .returned (.tuple #[.int .i64 r13_0, .bool r13_1]) ∧
 br (!r13_1)
 (k1 R x0 x1 x5 w14)
 (callE P i_skipSpace #[.string x5, .int .i64 r13_0] (fun e w16 => ∃ (r15 : Int), e = .returned (.int .i64 r15) ∧
 0 ≤ r15 ∧ r15 ≤ (x5.size : Int) ∧
 Xa x0 x1 (x5.extract (Int.toNat r15) x5.size) w16) w14)) w)
 (k1 R x0 x1 x5 w)
def l1 (R : EP) (x0 : OA) (x1 : Value) (x5 : BA) (w : World) : Prop :=
  ∀ X : OA → Value → BA → WP, (∀ x0 x1 x5 w, bl1 R X x0 x1 x5 w → X x0 x1 x5 w) → X x0 x1 x5 w

noncomputable def al1 (R : EP) (Xa : OA → Value → BA → WP) : AC :=
  (.leaf (sel [1, 1, 1, 0, 0, 0] body))
end g_paraBuilder_build
def g_paraBuilder_build (R : EP) (x0 : OA) (x1 : Value) (w : World) : Prop :=
 nilP x0 fun a1 =>
 ∃ (v2 : OA), w.cell? (a1.add 1) = some (.pointer v2) ∧
 ∃ (r3 : Bool), ∃ w4, (do eqGuard .neq ty_P_tableBuilder (.tmp 12) (.const (.pointer none)) (.pointer v2) (.pointer none); binOp .neq ty_P_tableBuilder (.pointer v2) (.pointer none)).run P w = .ok (.bool r3) w4 ∧
 br r3
 (nilP x0 fun a5 =>
 ∃ (v6 : OA), w4.cell? (a5.add 1) = some (.pointer v6) ∧
 callE P i_tableBuilder_build #[.pointer v6, x1] (fun e w8 => ∃ (r7 : Value), e = .returned r7 ∧
 R (.returned r7) w8) w4)
 (nilP x0 fun a9 =>
 ∃ (v10q : OA), ∃ (v10n : Nat), ∃ (v10c : Nat), w4.cell? a9 = some (.slice v10q v10n v10c) ∧
 callE P i_strings_Join #[.slice v10q v10n v10c, .string (ByteArray.mk #[10])] (fun e w12 => ∃ (r11 : BA), e = .returned (.string r11) ∧
 g_paraBuilder_build.l1 R x0 x1 r11 w12) w4)

noncomputable def g_paraBuilder_build.ac (R : EP) : AC :=
  (.seq (.leaf (sel [0] g_paraBuilder_build.body)) (.seq (.leaf (sel [1, 0] g_paraBuilder_build.body)) (.seq (.leaf (sel [1, 1, 0] g_paraBuilder_build.body)) (.seq (.block 0 (.loop (leaf [(0, .s .ptr), (1, .s .any), (5, .s .str)] (g_paraBuilder_build.l1 R)) (sel [1, 1, 1, 0, 0, 0] g_paraBuilder_build.body))) (.mark (leaf [(0, .s .ptr), (1, .s .any), (5, .s .str)] (g_paraBuilder_build.k1 R)) (.seq (.leaf (sel [1, 1, 1, 1, 0] g_paraBuilder_build.body)) (.seq (.leaf (sel [1, 1, 1, 1, 1, 0] g_paraBuilder_build.body)) (.seq (.draw (.pure 0 (.pure 2 (.pure 3 (.pure 4 (.load 1 (.load 5 (.pure 6 (.pure 7 (.pure 8 (.pure 9 (.one 10 .done))))))))))) (sel [1, 1, 1, 1, 1, 1, 0] g_paraBuilder_build.body)) (.seq (.draw (.pure 1 (.pure 3 (.load 0 (.load 2 (.one 4 (.pure 5 (.one 6 (.pure 7 (.pure 8 .done))))))))) (sel [1, 1, 1, 1, 1, 1, 1, 0] g_paraBuilder_build.body)) (.leaf (sel [1, 1, 1, 1, 1, 1, 1, 1] g_paraBuilder_build.body)))))))))))
theorem g_paraBuilder_build.good (R : EP) : Good P 67 (g_paraBuilder_build.ac R) (QF P [.tmp 4] R) :=
  ⟨trivial, ⟨trivial, ⟨trivial, ⟨(loopG (g_paraBuilder_build.al1 R) (g_paraBuilder_build.bl1 R) (fun _ => by kernel_rfl) (fun Xa => trivial) (fun Xa => by intro x0 x1 x5 ρ w; kernel_rfl) (fun X h _ _ _ _ g => g X h)), ⟨⟨trivial, ⟨trivial, ⟨⟨by kernel_rfl, by kernel_rfl, fun _ _ _ h => h⟩, ⟨⟨by kernel_rfl, by kernel_rfl, fun _ _ _ h => h⟩, trivial⟩⟩⟩⟩, cutE (by intro x0 x1 x5 ρ w; kernel_rfl)⟩⟩⟩⟩⟩
theorem g_paraBuilder_build.eq (R : EP) (x0 : OA) (x1 : Value) (w : World) : g_paraBuilder_build R x0 x1 w = vcA P 67 (g_paraBuilder_build.ac R) (QF P [.tmp 4] R) (fr0 [.pointer x0, x1]) w := by kernel_rfl
theorem g_paraBuilder_build.sound {R : EP} {x0 : OA} {x1 : Value} {w : World} (h : g_paraBuilder_build R x0 x1 w) : callE P i_paraBuilder_build #[.pointer x0, x1] R w :=
  callE_fin (c := g_paraBuilder_build.body) Tryz.func269 Tryz.call269 (by kernel_rfl) (by kernel_rfl) (by kernel_rfl) (by kernel_rfl) (by kernel_rfl) (g_paraBuilder_build.good R) (g_paraBuilder_build.eq R x0 x1 w) h
namespace g_parseState_closeBlock
noncomputable def body : Code := bodyOf Tryz.f39
def k3 (R : EP) (x0 : OA) (x4 : Value) (w : World) : Prop :=
 tk w fun w38 =>
 nilP x0 fun a39 =>
 nilP x0 fun a40 =>
 ∃ (v41q : OA), ∃ (v41n : Nat), ∃ (v41c : Nat), w38.cell? (a39.add 4) = some (.slice v41q v41n v41c) ∧
 ∃ (v42q : OA), ∃ (v42n : Nat), ∃ (v42c : Nat), w38.cell? (a40.add 4) = some (.slice v42q v42n v42c) ∧
 ∃ (r43q : OA), ∃ (r43n : Nat), ∃ (r43c : Nat), (∀ w, (Instr.sliceAt ty_S_openBlock (.slice v41q v41n v41c) none (some (.int .i64 (IntKind.i64.wrap ((v42n : Int) - 1)))) none).run P w = .ok (.slice r43q r43n r43c) w) ∧
 nilP x0 fun a44 =>
 stV w38 ((a44.add 4).add 0) (.slice r43q r43n r43c) fun w45 =>
 nilP x0 fun a46 =>
 ∃ (v47q : OA), ∃ (v47n : Nat), ∃ (v47c : Nat), w45.cell? (a46.add 4) = some (.slice v47q v47n v47c) ∧
 br (decide ((v47n : Int) > 0))
 (tk w45 fun w48 =>
 nilP x0 fun a49 =>
 nilP x0 fun a50 =>
 ∃ (v51q : OA), ∃ (v51n : Nat), ∃ (v51c : Nat), w48.cell? (a49.add 4) = some (.slice v51q v51n v51c) ∧
 ∃ (v52q : OA), ∃ (v52n : Nat), ∃ (v52c : Nat), w48.cell? (a50.add 4) = some (.slice v52q v52n v52c) ∧
 0 ≤ (IntKind.i64.wrap ((v52n : Int) - 1)) ∧ (IntKind.i64.wrap ((v52n : Int) - 1)) < (v51n : Int) ∧
 nilP v51q fun a53 =>
 ∃ (v54q : OA), ∃ (v54n : Nat), ∃ (v54c : Nat), w48.cell? ((a53.add (Int.toNat (IntKind.i64.wrap ((v52n : Int) - 1)) * 4)).add 1) = some (.slice v54q v54n v54c) ∧
 ∃ (r55q : OA), ∃ (r55n : Nat), ∃ (r55c : Nat), ∃ w56, (Instr.buildSlice ty_S_Block 1 #[(0, x4)]).run P w48 = .ok (.slice r55q r55n r55c) w56 ∧
 ∃ (r57q : OA), ∃ (r57n : Nat), ∃ (r57c : Nat), ∃ w58, (Builtin.append_ #[ty_S_Block, ty_S_Block] ty_S_Block #[.slice v54q v54n v54c, .slice r55q r55n r55c]).run P w56 = .ok (.slice r57q r57n r57c) w58 ∧
 stV w58 (((a53.add (Int.toNat (IntKind.i64.wrap ((v52n : Int) - 1)) * 4)).add 1).add 0) (.slice r57q r57n r57c) fun w59 =>
 R (.returned x4) w59)
 (∃ (r60 : OA), ∃ w61, (Instr.typeAssert x4 ty_Block ty_P_Document false).run P w45 = .ok (.pointer r60) w61 ∧
 nilP x0 fun a62 =>
 stV w61 ((a62.add 1).add 0) (.pointer r60) fun w63 =>
 R (.returned x4) w63)

def k2 (R : EP) (x0 : OA) (x4 : Value) (x5 : OA) (w : World) : Prop :=
 nilP x0 fun a26 =>
 ∃ (v27 : OA), w.cell? a26 = some (.pointer v27) ∧
 nilP v27 fun a28 =>
 ∃ (v29 : Bool), w.cell? (a28.add 2) = some (.bool v29) ∧
 br v29
 (nilP x0 fun a30 =>
 ∃ (v31q : OA), ∃ (v31n : Nat), ∃ (v31c : Nat), w.cell? (a30.add 10) = some (.slice v31q v31n v31c) ∧
 ∃ (r32q : OA), ∃ (r32n : Nat), ∃ (r32c : Nat), ∃ w33, (Instr.buildSlice ty_S_P_List 1 #[(0, .pointer x5)]).run P w = .ok (.slice r32q r32n r32c) w33 ∧
 ∃ (r34q : OA), ∃ (r34n : Nat), ∃ (r34c : Nat), ∃ w35, (Builtin.append_ #[ty_S_P_List, ty_S_P_List] ty_S_P_List #[.slice v31q v31n v31c, .slice r32q r32n r32c]).run P w33 = .ok (.slice r34q r34n r34c) w35 ∧
 nilP x0 fun a36 =>
 stV w35 ((a36.add 10).add 0) (.slice r34q r34n r34c) fun w37 =>
 k3 R x0 x4 w37)
 (k3 R x0 x4 w)

def k1 (R : EP) (x0 : OA) (x3 : OA) (w : World) : Prop :=
 nilP x3 fun a12 =>
 ∃ (v13 : Value), w.cell? a12 = some v13 ∧
 enterE P (callMethod v13 "pub-paratext/pub/rscmarkdown.build" #[.iface ty_P_parseState (.pointer x0)]) (fun e w15 => ∃ (r14 : Value), e = .returned r14 ∧
 ∃ (r16_0 : OA), ∃ (r16_1 : Bool), ∃ w17, (Instr.typeAssert r14 ty_Block ty_P_List true).run P w15 = .ok (.tuple #[.pointer r16_0, .bool r16_1]) w17 ∧
 br r16_1
 (nilP x0 fun a18 =>
 ∃ (v19 : Bool), w17.cell? (a18.add 6) = some (.bool v19) ∧
 br v19
 (nilP x0 fun a20 =>
 stV w17 ((a20.add 6).add 0) (.bool true) fun w21 =>
 k2 R x0 r14 r16_0 w21)
 (callE P i_listCorner #[.pointer r16_0] (fun e w23 => ∃ (r22 : Bool), e = .returned (.bool r22) ∧
 nilP x0 fun a24 =>
 stV w23 ((a24.add 6).add 0) (.bool r22) fun w25 =>
 k2 R x0 r14 r16_0 w25) w17))
 (k3 R x0 r14 w17)) w

end g_parseState_closeBlock
def g_parseState_closeBlock (R : EP) (x0 : OA) (w : World) : Prop :=
 tk w fun w1 =>
 nilP x0 fun a2 =>
 nilP x0 fun a3 =>
 ∃ (v4q : OA), ∃ (v4n : Nat), ∃ (v4c : Nat), w1.cell? (a2.add 4) = some (.slice v4q v4n v4c) ∧
 ∃ (v5q : OA), ∃ (v5n : Nat), ∃ (v5c : Nat), w1.cell? (a3.add 4) = some (.slice v5q v5n v5c) ∧
 0 ≤ (IntKind.i64.wrap ((v5n : Int) - 1)) ∧ (IntKind.i64.wrap ((v5n : Int) - 1)) < (v4n : Int) ∧
 nilP v4q fun a6 =>
 ∃ (v7 : Value), w1.cell? (a6.add (Int.toNat (IntKind.i64.wrap ((v5n : Int) - 1)) * 4)) = some v7 ∧
 ∃ (r8 : Bool), ∃ w9, (do eqGuard .eql ty_blockBuilder (.tmp 22) (.const .nilIface) v7 .nilIface; binOp .eql ty_blockBuilder v7 .nilIface).run P w1 = .ok (.bool r8) w9 ∧
 br r8
 (nilP x0 fun a10 =>
 ∃ (v11q : OA), ∃ (v11n : Nat), ∃ (v11c : Nat), w9.cell? (a10.add 4) = some (.slice v11q v11n v11c) ∧
 False)
 (g_parseState_closeBlock.k1 R x0 (some (a6.add (Int.toNat (IntKind.i64.wrap ((v5n : Int) - 1)) * 4))) w9)

noncomputable def g_parseState_closeBlock.ac (R : EP) : AC :=
  (.seq (.leaf (sel [0] g_parseState_closeBlock.body)) (.seq (.draw (.pure 0 (.pure 1 (.pure 2 (.pure 4 (.pure 5 (.pure 6 (.load 3 (.load 7 (.pure 8 (.pure 9 (.pure 10 (.pure 11 .done)))))))))))) (sel [1, 0] g_parseState_closeBlock.body)) (.seq (.leaf (sel [1, 1, 0] g_parseState_closeBlock.body)) (.mark (leaf [(0, .s .ptr), (3, .s .ptr)] (g_parseState_closeBlock.k1 R)) (.seq (.leaf (sel [1, 1, 1, 0] g_parseState_closeBlock.body)) (.seq (.seq (.leaf (sel [1, 1, 1, 1, 0, 0] g_parseState_closeBlock.body)) (.seq (.leaf (sel [1, 1, 1, 1, 0, 1, 0] g_parseState_closeBlock.body)) (.cond 42 (.seq (.leaf (sel [1, 1, 1, 1, 0, 1, 1, 0, 0] g_parseState_closeBlock.body)) (.mark (leaf [(0, .s .ptr), (4, .s .any), (5, .s .ptr)] (g_parseState_closeBlock.k2 R)) (.leaf (sel [1, 1, 1, 1, 0, 1, 1, 0, 1] g_parseState_closeBlock.body)))) (.leaf (sel [1, 1, 1, 1, 0, 1, 1, 1] g_parseState_closeBlock.body))))) (.mark (leaf [(0, .s .ptr), (4, .s .any)] (g_parseState_closeBlock.k3 R)) (.seq (.draw (.pure 0 (.pure 1 (.pure 2 (.pure 3 (.pure 5 (.pure 6 (.pure 7 (.load 4 (.load 8 (.pure 9 (.pure 10 (.pure 11 (.pure 12 (.pure 13 (.one 14 .done))))))))))))))) (sel [1, 1, 1, 1, 1, 0] g_parseState_closeBlock.body)) (.seq (.seq (.leaf (sel [1, 1, 1, 1, 1, 1, 0, 0] g_parseState_closeBlock.body)) (.cond 90 (.seq (.draw (.pure 0 (.pure 1 (.pure 2 (.pure 4 (.pure 5 (.pure 6 (.load 3 (.load 7 (.pure 8 (.pure 9 (.pure 10 (.pure 11 .done)))))))))))) (sel [1, 1, 1, 1, 1, 1, 0, 1, 0, 0] g_parseState_closeBlock.body)) (.leaf (sel [1, 1, 1, 1, 1, 1, 0, 1, 0, 1] g_parseState_closeBlock.body))) (.leaf (sel [1, 1, 1, 1, 1, 1, 0, 1, 1] g_parseState_closeBlock.body)))) (.leaf (sel [1, 1, 1, 1, 1, 1, 1] g_parseState_closeBlock.body)))))))))))
theorem g_parseState_closeBlock.good (R : EP) : Good P 118 (g_parseState_closeBlock.ac R) (QF P [.tmp 2] R) :=
  ⟨trivial, ⟨⟨by kernel_rfl, by kernel_rfl, fun _ _ _ h => h⟩, ⟨trivial, ⟨⟨trivial, ⟨⟨trivial, ⟨trivial, ⟨⟨trivial, ⟨trivial, cutE (by intro x0 x4 x5 ρ w; kernel_rfl)⟩⟩, trivial⟩⟩⟩, ⟨⟨⟨by kernel_rfl, by kernel_rfl, fun _ _ _ h => h⟩, ⟨⟨trivial, ⟨⟨⟨by kernel_rfl, by kernel_rfl, fun _ _ _ h => h⟩, trivial⟩, trivial⟩⟩, trivial⟩⟩, cutE (by intro x0 x4 ρ w; kernel_rfl)⟩⟩⟩, cutE (by intro x0 x3 ρ w; kernel_rfl)⟩⟩⟩⟩
theorem g_parseState_closeBlock.eq (R : EP) (x0 : OA) (w : World) : g_parseState_closeBlock R x0 w = vcA P 118 (g_parseState_closeBlock.ac R) (QF P [.tmp 2] R) (fr0 [.pointer x0]) w := by kernel_rfl
theorem g_parseState_closeBlock.sound {R : EP} {x0 : OA} {w : World} (h : g_parseState_closeBlock R x0 w) : callE P i_parseState_closeBlock #[.pointer x0] R w :=
  callE_fin (c := g_parseState_closeBlock.body) Tryz.func39 Tryz.call39 (by kernel_rfl) (by kernel_rfl) (by kernel_rfl) (by kernel_rfl) (by kernel_rfl) (g_parseState_closeBlock.good R) (g_parseState_closeBlock.eq R x0 w) h
namespace g_rootBuilder_build
noncomputable def body : Code := bodyOf Tryz.f228
end g_rootBuilder_build
def g_rootBuilder_build (R : EP) (x0 : OA) (x1 : Value) (w : World) : Prop :=
 tk w fun w1 =>
 ∃ (r2 : OA), (∀ w, (Instr.typeAssert x1 ty_buildState ty_P_parseState false).run P w = .ok (.pointer r2) w) ∧
 nilP r2 fun a3 =>
 ∃ (v4 : Option Nat), w1.cell? (a3.add 2) = some (.map v4) ∧
 enterE P (callMethod x1 "pub-paratext/pub/rscmarkdown.pos" #[]) (fun e w6 => ∃ (r5_0 : Int), ∃ (r5_1 : Int), e = .returned (.agg #[.int .i64 r5_0, .int .i64 r5_1]) ∧
 SameC w1 w6 (a3.add 2) 1 ∧
 enterE P (callMethod x1 "pub-paratext/pub/rscmarkdown.blocks" #[]) (fun e w8 => ∃ (r7q : OA), ∃ (r7n : Nat), ∃ (r7c : Nat), e = .returned (.slice r7q r7n r7c) ∧
 SameC w6 w8 (a3.add 2) 1 ∧
 box w8 #[.int .i64 r5_0, .int .i64 r5_1, .slice r7q r7n r7c, .map v4] ty_Document fun b9 w10 =>
 R (.returned (.iface ty_P_Document (.pointer (some ⟨b9, 0, none⟩)))) w10) w6) w1

noncomputable def g_rootBuilder_build.ac (R : EP) : AC :=
  (.seq (.leaf (sel [0] g_rootBuilder_build.body)) (.seq (.draw (.pure 0 (.pure 2 (.pure 4 (.pure 5 (.pure 6 (.pure 7 (.load 8 (.one 1 (.one 3 (.pure 9 (.one 10 (.pure 11 (.pure 12 .done))))))))))))) (sel [1, 0] g_rootBuilder_build.body)) (.leaf (sel [1, 1] g_rootBuilder_build.body))))
theorem g_rootBuilder_build.good (R : EP) : Good P 17 (g_rootBuilder_build.ac R) (QF P [.tmp 4] R) :=
  ⟨trivial, ⟨⟨by kernel_rfl, by kernel_rfl, fun _ _ _ h => h⟩, trivial⟩⟩
theorem g_rootBuilder_build.eq (R : EP) (x0 : OA) (x1 : Value) (w : World) : g_rootBuilder_build R x0 x1 w = vcA P 17 (g_rootBuilder_build.ac R) (QF P [.tmp 4] R) (fr0 [.pointer x0, x1]) w := by kernel_rfl
theorem g_rootBuilder_build.sound {R : EP} {x0 : OA} {x1 : Value} {w : World} (h : g_rootBuilder_build R x0 x1 w) : callE P i_rootBuilder_build #[.pointer x0, x1] R w :=
  callE_fin (c := g_rootBuilder_build.body) Tryz.func228 Tryz.call228 (by kernel_rfl) (by kernel_rfl) (by kernel_rfl) (by kernel_rfl) (by kernel_rfl) (g_rootBuilder_build.good R) (g_rootBuilder_build.eq R x0 x1 w) h
namespace g_parseState_newText
noncomputable def body : Code := bodyOf Tryz.f110
end g_parseState_newText
def g_parseState_newText (R : EP) (x0 : OA) (x1_0 : Int) (x1_1 : Int) (x2 : BA) (w : World) : Prop :=
 box w #[.int .i64 x1_0, .int .i64 x1_1] ty_Position fun b1 w2 =>
 ∃ (v3 : Int), w2.cell? ⟨b1, 0, none⟩ = some (.int .i64 v3) ∧
 ∃ (v4 : Int), w2.cell? ⟨b1, 1, none⟩ = some (.int .i64 v4) ∧
 box w2 #[.int .i64 v3, .int .i64 v4, .slice none 0 0, .string x2] ty_Text fun b5 w6 =>
 nilP x0 fun a7 =>
 ∃ (v8q : OA), ∃ (v8n : Nat), ∃ (v8c : Nat), w6.cell? (a7.add 11) = some (.slice v8q v8n v8c) ∧
 ∃ (r9q : OA), ∃ (r9n : Nat), ∃ (r9c : Nat), ∃ w10, (Instr.buildSlice ty_S_P_Text 1 #[(0, .pointer (some ⟨b5, 0, none⟩))]).run P w6 = .ok (.slice r9q r9n r9c) w10 ∧
 ∃ (r11q : OA), ∃ (r11n : Nat), ∃ (r11c : Nat), ∃ w12, (Builtin.append_ #[ty_S_P_Text, ty_S_P_Text] ty_S_P_Text #[.slice v8q v8n v8c, .slice r9q r9n r9c]).run P w10 = .ok (.slice r11q r11n r11c) w12 ∧
 nilP x0 fun a13 =>
 stV w12 ((a13.add 11).add 0) (.slice r11q r11n r11c) fun w14 =>
 R (.returned (.pointer (some ⟨b5, 0, none⟩))) w14

noncomputable def g_parseState_newText.ac (R : EP) : AC :=
  (.leaf (sel [] g_parseState_newText.body))
theorem g_parseState_newText.good (R : EP) : Good P 23 (g_parseState_newText.ac R) (QF P [.tmp 6] R) :=
  trivial
theorem g_parseState_newText.eq (R : EP) (x0 : OA) (x1_0 : Int) (x1_1 : Int) (x2 : BA) (w : World) : g_parseState_newText R x0 x1_0 x1_1 x2 w = vcA P 23 (g_parseState_newText.ac R) (QF P [.tmp 6] R) (fr0 [.pointer x0, .agg #[.int .i64 x1_0, .int .i64 x1_1], .string x2]) w := by kernel_rfl
theorem g_parseState_newText.sound {R : EP} {x0 : OA} {x1_0 : Int} {x1_1 : Int} {x2 : ByteArray} {w : World} (h : g_parseState_newText R x0 x1_0 x1_1 x2 w) : callE P i_parseState_newText #[.pointer x0, .agg #[.int .i64 x1_0, .int .i64 x1_1], .string x2] R w :=
  callE_fin (c := g_parseState_newText.body) Tryz.func110 Tryz.call110 (by kernel_rfl) (by kernel_rfl) (by kernel_rfl) (by kernel_rfl) (by kernel_rfl) (g_parseState_newText.good R) (g_parseState_newText.eq R x0 x1_0 x1_1 x2 w) h
namespace g_parseState_pos
noncomputable def body : Code := bodyOf Tryz.f241
end g_parseState_pos
def g_parseState_pos (R : EP) (x0 : OA) (w : World) : Prop :=
 box w #[.int .i64 0, .int .i64 0] ty_Position fun b1 w2 =>
 tk w2 fun w3 =>
 nilP x0 fun a4 =>
 nilP x0 fun a5 =>
 ∃ (v6q : OA), ∃ (v6n : Nat), ∃ (v6c : Nat), w3.cell? (a4.add 4) = some (.slice v6q v6n v6c) ∧
 ∃ (v7q : OA), ∃ (v7n : Nat), ∃ (v7c : Nat), w3.cell? (a5.add 4) = some (.slice v7q v7n v7c) ∧
 0 ≤ (IntKind.i64.wrap ((v7n : Int) - 1)) ∧ (IntKind.i64.wrap ((v7n : Int) - 1)) < (v6n : Int) ∧
 nilP v6q fun a8 =>
 ∃ (v9 : Int), w3.cell? (((a8.add (Int.toNat (IntKind.i64.wrap ((v7n : Int) - 1)) * 4)).add 2).add 0) = some (.int .i64 v9) ∧
 ∃ (v10 : Int), w3.cell? (((a8.add (Int.toNat (IntKind.i64.wrap ((v7n : Int) - 1)) * 4)).add 2).add 1) = some (.int .i64 v10) ∧
 stV w3 ⟨b1, 0, none⟩ (.int .i64 v9) fun w11 =>
 stV w11 ⟨b1, 1, none⟩ (.int .i64 v10) fun w12 =>
 ∃ (v13 : Int), w12.cell? ⟨b1, 0, none⟩ = some (.int .i64 v13) ∧
 ∃ (v14 : Int), w12.cell? ⟨b1, 1, none⟩ = some (.int .i64 v14) ∧
 R (.returned (.agg #[.int .i64 v13, .int .i64 v14])) w12

noncomputable def g_parseState_pos.ac (R : EP) : AC :=
  (.seq (.leaf (sel [0] g_parseState_pos.body)) (.seq (.draw (.pure 0 (.pure 1 (.pure 2 (.pure 4 (.pure 5 (.pure 6 (.load 3 (.load 7 (.pure 8 (.pure 9 (.pure 10 (.pure 11 .done)))))))))))) (sel [1, 0] g_parseState_pos.body)) (.leaf (sel [1, 1] g_parseState_pos.body))))
theorem g_parseState_pos.good (R : EP) : Good P 19 (g_parseState_pos.ac R) (QF P [.cell 2 85] R) :=
  ⟨trivial, ⟨⟨by kernel_rfl, by kernel_rfl, fun _ _ _ h => h⟩, trivial⟩⟩
theorem g_parseState_pos.eq (R : EP) (x0 : OA) (w : World) : g_parseState_pos R x0 w = vcA P 19 (g_parseState_pos.ac R) (QF P [.cell 2 85] R) (fr0 [.pointer x0]) w := by kernel_rfl
theorem g_parseState_pos.sound {R : EP} {x0 : OA} {w : World} (h : g_parseState_pos R x0 w) : callE P i_parseState_pos #[.pointer x0] R w :=
  callE_fin (c := g_parseState_pos.body) Tryz.func241 Tryz.call241 (by kernel_rfl) (by kernel_rfl) (by kernel_rfl) (by kernel_rfl) (by kernel_rfl) (g_parseState_pos.good R) (g_parseState_pos.eq R x0 w) h
namespace g_parseLinkLabel
noncomputable def body : Code := bodyOf Tryz.f94
def bl1 (R : EP) (Xa : OA → BA → Int → Int → WP) (x0 : OA) (x1 : BA) (x2 : Int) (x9 : Int) (w : World) : Prop :=
 br (decide (x9 < (x1.size : Int)))
 (0 ≤ x9 ∧ x9 < (x1.size : Int) ∧
 br ((bt x1 x9) == 93)
 (br (decide ((IntKind.i64.wrap (x9 - (IntKind.i64.wrap (x2 + 1)))) > 999))
 (nilP x0 fun a1 =>
 stV w ((a1.add 6).add 0) (.bool true) fun w2 =>
 R (.returned (.tuple #[.string (ByteArray.mk #[]), .int .i64 0, .bool false])) w2)
 (0 ≤ (IntKind.i64.wrap (x2 + 1)) ∧ (IntKind.i64.wrap (x2 + 1)) ≤ x9 ∧ x9 ≤ (x1.size : Int) ∧
 callE P i_trimSpaceTabNewline #[.string (x1.extract (Int.toNat (IntKind.i64.wrap (x2 + 1))) (Int.toNat x9))] (fun e w4 => ∃ (r3 : BA), e = .returned (.string r3) ∧
 br (!(r3.toList == (ByteArray.mk #[]).toList))
 (R (.returned (.tuple #[.string r3, .int .i64 (IntKind.i64.wrap (x9 + 1)), .bool true])) w4)
 (R (.returned (.tuple #[.string (ByteArray.mk #[]), .int .i64 0, .bool false])) w4)) w))
 (0 ≤ x9 ∧ x9 < (x1.size : Int) ∧
 br ((bt x1 x9) == 91)
 (R (.returned (.tuple #[.string (ByteArray.mk #[]), .int .i64 0, .bool false])) w)
 (0 ≤ x9 ∧ x9 < (x1.size : Int) ∧
 br (((bt x1 x9) == 92) && (decide ((IntKind.i64.wrap (x9 + 1)) < (x1.size : Int))))
 (Xa x0 x1 x2 (IntKind.i64.wrap ((IntKind.i64.wrap (x9 + 1)) + 1)) w)
 (Xa x0 x1 x2 (IntKind.i64.wrap (x9 + 1)) w))))
 (R (.returned (.tuple #[.string (ByteArray.mk #[]), .int .i64 0, .bool false])) w)
def l1 (R : EP) (x0 : OA) (x1 : BA) (x2 : Int) (x9 : Int) (w : World) : Prop :=
  ∀ X : OA → BA → Int → Int → WP, (∀ x0 x1 x2 x9 w, bl1 R X x0 x1 x2 x9 w → X x0 x1 x2 x9 w) → X x0 x1 x2 x9 w

noncomputable def al1 (R : EP) (Xa : OA → BA → Int → Int → WP) : AC :=
  (.leaf (sel [1, 1, 1, 0, 0, 0] body))
def k1 (R : EP) (x0 : OA) (x1 : BA) (x2 : Int) (w : World) : Prop :=
 l1 R x0 x1 x2 (IntKind.i64.wrap (x2 + 1)) w

end g_parseLinkLabel
def g_parseLinkLabel (R : EP) (x0 : OA) (x1 : BA) (x2 : Int) (w : World) : Prop :=
 ((!(decide (x2 ≥ (x1.size : Int)))) = true → 0 ≤ x2 ∧ x2 < (x1.size : Int)) ∧
 br ((decide (x2 ≥ (x1.size : Int))) || ((bt x1 x2) != 91))
 (R (.returned (.tuple #[.string (ByteArray.mk #[]), .int .i64 0, .bool false])) w)
 (g_parseLinkLabel.k1 R x0 x1 x2 w)

noncomputable def g_parseLinkLabel.ac (R : EP) : AC :=
  (.seq (.leaf (sel [0] g_parseLinkLabel.body)) (.seq (.leaf (sel [1, 0] g_parseLinkLabel.body)) (.mark (leaf [(0, .s .ptr), (1, .s .str), (2, .s (.int .i64))] (g_parseLinkLabel.k1 R)) (.seq (.leaf (sel [1, 1, 0] g_parseLinkLabel.body)) (.seq (.block 0 (.loop (leaf [(0, .s .ptr), (1, .s .str), (2, .s (.int .i64)), (9, .s (.int .i64))] (g_parseLinkLabel.l1 R)) (sel [1, 1, 1, 0, 0, 0] g_parseLinkLabel.body))) (.leaf (sel [1, 1, 1, 1] g_parseLinkLabel.body)))))))
theorem g_parseLinkLabel.good (R : EP) : Good P 69 (g_parseLinkLabel.ac R) (QF P [.tmp 6, .tmp 7, .tmp 8] R) :=
  ⟨trivial, ⟨trivial, ⟨⟨trivial, ⟨(loopG (g_parseLinkLabel.al1 R) (g_parseLinkLabel.bl1 R) (fun _ => by kernel_rfl) (fun Xa => trivial) (fun Xa => by intro x0 x1 x2 x9 ρ w; kernel_rfl) (fun X h _ _ _ _ _ g => g X h)), trivial⟩⟩, cutE (by intro x0 x1 x2 ρ w; kernel_rfl)⟩⟩⟩
theorem g_parseLinkLabel.eq (R : EP) (x0 : OA) (x1 : BA) (x2 : Int) (w : World) : g_parseLinkLabel R x0 x1 x2 w = vcA P 69 (g_parseLinkLabel.ac R) (QF P [.tmp 6, .tmp 7, .tmp 8] R) (fr0 [.pointer x0, .string x1, .int .i64 x2]) w := by kernel_rfl
theorem g_parseLinkLabel.sound {R : EP} {x0 : OA} {x1 : ByteArray} {x2 : Int} {w : World} (h : g_parseLinkLabel R x0 x1 x2 w) : callE P i_parseLinkLabel #[.pointer x0, .string x1, .int .i64 x2] R w :=
  callE_fin (c := g_parseLinkLabel.body) Tryz.func94 Tryz.call94 (by kernel_rfl) (by kernel_rfl) (by kernel_rfl) (by kernel_rfl) (by kernel_rfl) (g_parseLinkLabel.good R) (g_parseLinkLabel.eq R x0 x1 x2 w) h
namespace g_parseLinkRefDef
noncomputable def body : Code := bodyOf Tryz.f272
def k2 (R : EP) (x0 : Value) (x67 : Bool) (w : World) : Prop :=
 br x67
 (∃ (r11 : OA), ∃ w12, (Instr.typeAssert x0 ty_buildState ty_P_parseState false).run P w = .ok (.pointer r11) w12 ∧
 nilP r11 fun a13 =>
 stV w12 ((a13.add 6).add 0) (.bool true) fun w14 =>
 R (.returned (.tuple #[.int .i64 0, .bool false])) w14)
 (R (.returned (.tuple #[.int .i64 0, .bool false])) w)

def k3 (R : EP) (Xa : Value → BA → Int → BA → BA → Bool → WP) (x0 : Value) (x1 : BA) (x6 : Int) (x7 : BA) (x10 : BA) (w : World) : Prop :=
 Xa x0 x1 (IntKind.i64.wrap (x6 + 1)) x7 x10 true w

def k10 (R : EP) (x0 : Value) (x6 : Int) (x7 : BA) (x10 : BA) (x13 : BA) (x14 : Int) (x15 : Bool) (w : World) : Prop :=
 callE P i_normalizeLabel #[.string x7] (fun e w18 => ∃ (r17 : BA), e = .returned (.string r17) ∧
 enterE P (callMethod x0 "pub-paratext/pub/rscmarkdown.link" #[.string r17]) (fun e w20 => ∃ (r19 : OA), e = .returned (.pointer r19) ∧
 ∃ (r21 : Bool), ∃ w22, (do eqGuard .eql ty_P_Link (.tmp 188) (.const (.pointer none)) (.pointer r19) (.pointer none); binOp .eql ty_P_Link (.pointer r19) (.pointer none)).run P w20 = .ok (.bool r21) w22 ∧
 br r21
 (box w22 #[.slice none 0 0, .string x10, .string x13, .int .u8 x14, .bool x15] ty_Link fun b23 w24 =>
 enterE P (callMethod x0 "pub-paratext/pub/rscmarkdown.defineLink" #[.string r17, .pointer (some ⟨b23, 0, none⟩)]) (fun e w26 => e = .returned (.tuple #[]) ∧
 R (.returned (.tuple #[.int .i64 x6, .bool true])) w26) w24)
 (R (.returned (.tuple #[.int .i64 x6, .bool true])) w22)) w18) w

def k9 (R : EP) (x0 : Value) (x1 : BA) (x6 : Int) (x7 : BA) (x10 : BA) (x13 : BA) (x14 : Int) (x15 : Bool) (w : World) : Prop :=
 br (decide (x6 < (x1.size : Int)))
 (k10 R x0 (IntKind.i64.wrap (x6 + 1)) x7 x10 x13 x14 x15 w)
 (k10 R x0 x6 x7 x10 x13 x14 x15 w)

def k7 (R : EP) (x0 : Value) (x1 : BA) (x6 : Int) (x7 : BA) (x10 : BA) (x13 : BA) (x14 : Int) (x15 : Bool) (w : World) : Prop :=
 ((decide (x6 < (x1.size : Int))) = true → 0 ≤ x6 ∧ x6 < (x1.size : Int)) ∧
 br ((decide (x6 < (x1.size : Int))) && ((bt x1 x6) != 10))
 (R (.returned (.tuple #[.int .i64 0, .bool false])) w)
 (k9 R x0 x1 x6 x7 x10 x13 x14 x15 w)

def k13 (R : EP) (x0 : Value) (x1 : BA) (x6 : Int) (x7 : BA) (x10 : BA) (x15 : Bool) (x16 : BA) (x17 : Int) (w : World) : Prop :=
 k7 R x0 x1 x6 x7 x10 x16 x17 x15 w

def k12 (R : EP) (x0 : Value) (x1 : BA) (x6 : Int) (x7 : BA) (x10 : BA) (x13 : BA) (x14 : Int) (x15 : Bool) (x16 : BA) (x17 : Int) (x18 : Int) (x162 : Bool) (w : World) : Prop :=
 br x162
 (br (x16.toList == (ByteArray.mk #[]).toList)
 (k13 R x0 x1 x18 x7 x10 true x16 x17 w)
 (k13 R x0 x1 x18 x7 x10 x15 x16 x17 w))
 (k7 R x0 x1 x6 x7 x10 x13 x14 x15 w)

def k11 (R : EP) (x0 : Value) (x1 : BA) (x6 : Int) (x7 : BA) (x10 : BA) (x13 : BA) (x14 : Int) (x15 : Bool) (x16 : BA) (x17 : Int) (x18 : Int) (w : World) : Prop :=
 ((!(decide (x18 ≥ (x1.size : Int)))) = true → 0 ≤ x18 ∧ x18 < (x1.size : Int)) ∧
 k12 R x0 x1 x6 x7 x10 x13 x14 x15 x16 x17 x18 ((decide (x18 ≥ (x1.size : Int))) || ((bt x1 x18) == 10)) w

def bl3 (R : EP) (Xb : Value → BA → Int → BA → BA → BA → Int → Bool → BA → Int → Int → WP) (x0 : Value) (x1 : BA) (x6 : Int) (x7 : BA) (x10 : BA) (x13 : BA) (x14 : Int) (x15 : Bool) (x16 : BA) (x17 : Int) (x18 : Int) (w : World) : Prop :=
 ((decide (x18 < (x1.size : Int))) = true → 0 ≤ x18 ∧ x18 < (x1.size : Int)) ∧
 (((decide (x18 < (x1.size : Int))) && (!((bt x1 x18) == 32))) = true → 0 ≤ x18 ∧ x18 < (x1.size : Int)) ∧
 br ((decide (x18 < (x1.size : Int))) && (((bt x1 x18) == 32) || ((bt x1 x18) == 9)))
 (Xb x0 x1 x6 x7 x10 x13 x14 x15 x16 x17 (IntKind.i64.wrap (x18 + 1)) w)
 (k11 R x0 x1 x6 x7 x10 x13 x14 x15 x16 x17 x18 w)
def l3 (R : EP) (x0 : Value) (x1 : BA) (x6 : Int) (x7 : BA) (x10 : BA) (x13 : BA) (x14 : Int) (x15 : Bool) (x16 : BA) (x17 : Int) (x18 : Int) (w : World) : Prop :=
  ∀ X : Value → BA → Int → BA → BA → BA → Int → Bool → BA → Int → Int → WP, (∀ x0 x1 x6 x7 x10 x13 x14 x15 x16 x17 x18 w, bl3 R X x0 x1 x6 x7 x10 x13 x14 x15 x16 x17 x18 w → X x0 x1 x6 x7 x10 x13 x14 x15 x16 x17 x18 w) → X x0 x1 x6 x7 x10 x13 x14 x15 x16 x17 x18 w

noncomputable def al3 (R : EP) (Xb : Value → BA → Int → BA → BA → BA → Int → Bool → BA → Int → Int → WP) : AC :=
  (.leaf (sel [1, 1, 1, 1, 1, 1, 1, 1, 1, 1, 1, 1, 1, 1, 1, 0, 1, 0, 1, 1, 1, 0, 0, 0, 0] body))
def k8 (R : EP) (x0 : Value) (x1 : BA) (x6 : Int) (x7 : BA) (x10 : BA) (x12 : Int) (x13 : BA) (x14 : Int) (x15 : Bool) (w : World) : Prop :=
 callE P i_parseLinkTitle #[.string x1, .int .i64 x12] (fun e w16 => ∃ (r15_0 : BA), ∃ (r15_1 : Int), ∃ (r15_2 : Int), ∃ (r15_3 : Bool), e = .returned (.tuple #[.string r15_0, .int .u8 r15_1, .int .i64 r15_2, .bool r15_3]) ∧
 br r15_3
 (l3 R x0 x1 x6 x7 x10 x13 x14 x15 r15_0 r15_1 r15_2 w16)
 (k7 R x0 x1 x6 x7 x10 x13 x14 x15 w16)) w

def bl2 (R : EP) (Xc : Value → BA → Int → BA → BA → Int → BA → Int → Bool → WP) (x0 : Value) (x1 : BA) (x6 : Int) (x7 : BA) (x10 : BA) (x12 : Int) (x13 : BA) (x14 : Int) (x15 : Bool) (w : World) : Prop :=
 ((decide (x12 < (x1.size : Int))) = true → 0 ≤ x12 ∧ x12 < (x1.size : Int)) ∧
 (((decide (x12 < (x1.size : Int))) && (!((bt x1 x12) == 32))) = true → 0 ≤ x12 ∧ x12 < (x1.size : Int)) ∧
 br ((decide (x12 < (x1.size : Int))) && (((bt x1 x12) == 32) || ((bt x1 x12) == 9)))
 (Xc x0 x1 x6 x7 x10 (IntKind.i64.wrap (x12 + 1)) x13 x14 x15 w)
 (k8 R x0 x1 x6 x7 x10 x12 x13 x14 x15 w)
def l2 (R : EP) (x0 : Value) (x1 : BA) (x6 : Int) (x7 : BA) (x10 : BA) (x12 : Int) (x13 : BA) (x14 : Int) (x15 : Bool) (w : World) : Prop :=
  ∀ X : Value → BA → Int → BA → BA → Int → BA → Int → Bool → WP, (∀ x0 x1 x6 x7 x10 x12 x13 x14 x15 w, bl2 R X x0 x1 x6 x7 x10 x12 x13 x14 x15 w → X x0 x1 x6 x7 x10 x12 x13 x14 x15 w) → X x0 x1 x6 x7 x10 x12 x13 x14 x15 w

noncomputable def al2 (R : EP) (Xc : Value → BA → Int → BA → BA → Int → BA → Int → Bool → WP) : AC :=
  (.leaf (sel [1, 1, 1, 1, 1, 1, 1, 1, 1, 1, 1, 1, 1, 1, 1, 0, 1, 0, 0, 0, 0] body))
def k6 (R : EP) (x0 : Value) (x1 : BA) (x6 : Int) (x7 : BA) (x10 : BA) (x11 : Bool) (x12 : Int) (w : World) : Prop :=
 br x11
 (l2 R x0 x1 x6 x7 x10 x12 (ByteArray.mk #[]) 0 false w)
 (k7 R x0 x1 x6 x7 x10 (ByteArray.mk #[]) 0 false w)

def k5 (R : EP) (x0 : Value) (x1 : BA) (x6 : Int) (x7 : BA) (x10 : BA) (x11 : Bool) (x12 : Int) (x100 : Bool) (w : World) : Prop :=
 br x100
 (br (decide (x12 < (x1.size : Int)))
 (k6 R x0 x1 x6 x7 x10 true (IntKind.i64.wrap (x12 + 1)) w)
 (k6 R x0 x1 x6 x7 x10 true x12 w))
 (k6 R x0 x1 x6 x7 x10 x11 x12 w)

def k4 (R : EP) (x0 : Value) (x1 : BA) (x6 : Int) (x7 : BA) (x10 : BA) (x11 : Bool) (w : World) : Prop :=
 ((!(decide (x6 ≥ (x1.size : Int)))) = true → 0 ≤ x6 ∧ x6 < (x1.size : Int)) ∧
 k5 R x0 x1 x6 x7 x10 x11 x6 ((decide (x6 ≥ (x1.size : Int))) || ((bt x1 x6) == 10)) w

def bl1 (R : EP) (Xa : Value → BA → Int → BA → BA → Bool → WP) (x0 : Value) (x1 : BA) (x6 : Int) (x7 : BA) (x10 : BA) (x11 : Bool) (w : World) : Prop :=
 ((decide (x6 < (x1.size : Int))) = true → 0 ≤ x6 ∧ x6 < (x1.size : Int)) ∧
 (((decide (x6 < (x1.size : Int))) && (!((bt x1 x6) == 32))) = true → 0 ≤ x6 ∧ x6 < (x1.size : Int)) ∧
 br ((decide (x6 < (x1.size : Int))) && (((bt x1 x6) == 32) || ((bt x1 x6) == 9)))
 (k3 R Xa x0 x1 x6 x7 x10 w)
 (k4 R x0 x1 x6 x7 x10 x11 w)
def l1 (R : EP) (x0 : Value) (x1 : BA) (x6 : Int) (x7 : BA) (x10 : BA) (x11 : Bool) (w : World) : Prop :=
  ∀ X : Value → BA → Int → BA → BA → Bool → WP, (∀ x0 x1 x6 x7 x10 x11 w, bl1 R X x0 x1 x6 x7 x10 x11 w → X x0 x1 x6 x7 x10 x11 w) → X x0 x1 x6 x7 x10 x11 w

noncomputable def al1 (R : EP) (Xa : Value → BA → Int → BA → BA → Bool → WP) : AC :=
  (.seq (.leaf (sel [1, 1, 1, 1, 1, 1, 1, 1, 1, 0, 0, 0, 0] body)) (.mark (leaf [(0, .s .any), (1, .s .str), (6, .s (.int .i64)), (7, .s .str), (10, .s .str)] (k3 R Xa)) (.leaf (sel [1, 1, 1, 1, 1, 1, 1, 1, 1, 0, 0, 0, 1] body))))
def k1 (R : EP) (x0 : Value) (x1 : BA) (x6 : Int) (x7 : BA) (w : World) : Prop :=
 callE P i_skipSpace #[.string x1, .int .i64 (IntKind.i64.wrap (x6 + 1))] (fun e w8 => ∃ (r7 : Int), e = .returned (.int .i64 r7) ∧
 0 ≤ r7 ∧ r7 ≤ (x1.size : Int) ∧
 callE P i_parseLinkDest #[.string x1, .int .i64 r7] (fun e w10 => ∃ (r9_0 : BA), ∃ (r9_1 : Int), ∃ (r9_2 : Bool), e = .returned (.tuple #[.string r9_0, .int .i64 r9_1, .bool r9_2]) ∧
 br (!r9_2)
 (((!((x1.extract (Int.toNat r7) x1.size).toList == (ByteArray.mk #[]).toList)) = true → 0 ≤ (0 : Int) ∧ 0 < ((x1.extract (Int.toNat r7) x1.size).size : Int)) ∧
 k2 R x0 ((!((x1.extract (Int.toNat r7) x1.size).toList == (ByteArray.mk #[]).toList)) && ((bt (x1.extract (Int.toNat r7) x1.size) 0) == 60)) w10)
 (l1 R x0 x1 r9_1 x7 r9_0 false w10)) w8) w

end g_parseLinkRefDef
def g_parseLinkRefDef (R : EP) (x0 : Value) (x1 : BA) (w : World) : Prop :=
 callE P i_skipSpace #[.string x1, .int .i64 0] (fun e w2 => ∃ (r1 : Int), e = .returned (.int .i64 r1) ∧
 ∃ (r3 : OA), ∃ w4, (Instr.typeAssert x0 ty_buildState ty_P_parseState false).run P w2 = .ok (.pointer r3) w4 ∧
 callE P i_parseLinkLabel #[.pointer r3, .string x1, .int .i64 r1] (fun e w6 => ∃ (r5_0 : BA), ∃ (r5_1 : Int), ∃ (r5_2 : Bool), e = .returned (.tuple #[.string r5_0, .int .i64 r5_1, .bool r5_2]) ∧
 ((!((!r5_2) || (decide (r5_1 ≥ (x1.size : Int))))) = true → 0 ≤ r5_1 ∧ r5_1 < (x1.size : Int)) ∧
 br (((!r5_2) || (decide (r5_1 ≥ (x1.size : Int)))) || ((bt x1 r5_1) != 58))
 (R (.returned (.tuple #[.int .i64 0, .bool false])) w6)
 (g_parseLinkRefDef.k1 R x0 x1 r5_1 r5_0 w6)) w4) w

noncomputable def g_parseLinkRefDef.ac (R : EP) : AC :=
  (.seq (.leaf (sel [0] g_parseLinkRefDef.body)) (.seq (.leaf (sel [1, 0] g_parseLinkRefDef.body)) (.seq (.leaf (sel [1, 1, 0] g_parseLinkRefDef.body)) (.seq (.leaf (sel [1, 1, 1, 0] g_parseLinkRefDef.body)) (.mark (leaf [(0, .s .any), (1, .s .str), (6, .s (.int .i64)), (7, .s .str)] (g_parseLinkRefDef.k1 R)) (.seq (.leaf (sel [1, 1, 1, 1, 0] g_parseLinkRefDef.body)) (.seq (.leaf (sel [1, 1, 1, 1, 1, 0] g_parseLinkRefDef.body)) (.seq (.leaf (sel [1, 1, 1, 1, 1, 1, 0] g_parseLinkRefDef.body)) (.seq (.seq (.leaf (sel [1, 1, 1, 1, 1, 1, 1, 0, 0] g_parseLinkRefDef.body)) (.cond 60 (.seq (.seq (.leaf (sel [1, 1, 1, 1, 1, 1, 1, 0, 1, 0, 0, 0] g_parseLinkRefDef.body)) (.mark (leaf [(0, .s .any), (67, .s .bool)] (g_parseLinkRefDef.k2 R)) (.leaf (sel [1, 1, 1, 1, 1, 1, 1, 0, 1, 0, 0, 1] g_parseLinkRefDef.body)))) (.leaf (sel [1, 1, 1, 1, 1, 1, 1, 0, 1, 0, 1] g_parseLinkRefDef.body))) (.leaf (sel [1, 1, 1, 1, 1, 1, 1, 0, 1, 1] g_parseLinkRefDef.body)))) (.seq (.leaf (sel [1, 1, 1, 1, 1, 1, 1, 1, 0] g_parseLinkRefDef.body)) (.seq (.block 0 (.loop (leaf [(0, .s .any), (1, .s .str), (6, .s (.int .i64)), (7, .s .str), (10, .s .str), (11, .s .bool)] (g_parseLinkRefDef.l1 R)) (sel [1, 1, 1, 1, 1, 1, 1, 1, 1, 0, 0, 0] g_parseLinkRefDef.body))) (.mark (leaf [(0, .s .any), (1, .s .str), (6, .s (.int .i64)), (7, .s .str), (10, .s .str), (11, .s .bool)] (g_parseLinkRefDef.k4 R)) (.seq (.leaf (sel [1, 1, 1, 1, 1, 1, 1, 1, 1, 1, 0] g_parseLinkRefDef.body)) (.seq (.seq (.leaf (sel [1, 1, 1, 1, 1, 1, 1, 1, 1, 1, 1, 0, 0] g_parseLinkRefDef.body)) (.mark (leaf [(0, .s .any), (1, .s .str), (6, .s (.int .i64)), (7, .s .str), (10, .s .str), (11, .s .bool), (12, .s (.int .i64)), (100, .s .bool)] (g_parseLinkRefDef.k5 R)) (.leaf (sel [1, 1, 1, 1, 1, 1, 1, 1, 1, 1, 1, 0, 1] g_parseLinkRefDef.body)))) (.mark (leaf [(0, .s .any), (1, .s .str), (6, .s (.int .i64)), (7, .s .str), (10, .s .str), (11, .s .bool), (12, .s (.int .i64))] (g_parseLinkRefDef.k6 R)) (.seq (.leaf (sel [1, 1, 1, 1, 1, 1, 1, 1, 1, 1, 1, 1, 0] g_parseLinkRefDef.body)) (.seq (.leaf (sel [1, 1, 1, 1, 1, 1, 1, 1, 1, 1, 1, 1, 1, 0] g_parseLinkRefDef.body)) (.seq (.leaf (sel [1, 1, 1, 1, 1, 1, 1, 1, 1, 1, 1, 1, 1, 1, 0] g_parseLinkRefDef.body)) (.seq (.seq (.leaf (sel [1, 1, 1, 1, 1, 1, 1, 1, 1, 1, 1, 1, 1, 1, 1, 0, 0] g_parseLinkRefDef.body)) (.cond 107 (.seq (.block 2 (.loop (leaf [(0, .s .any), (1, .s .str), (6, .s (.int .i64)), (7, .s .str), (10, .s .str), (12, .s (.int .i64)), (13, .s .str), (14, .s (.int .u8)), (15, .s .bool)] (g_parseLinkRefDef.l2 R)) (sel [1, 1, 1, 1, 1, 1, 1, 1, 1, 1, 1, 1, 1, 1, 1, 0, 1, 0, 0, 0, 0] g_parseLinkRefDef.body))) (.mark (leaf [(0, .s .any), (1, .s .str), (6, .s (.int .i64)), (7, .s .str), (10, .s .str), (12, .s (.int .i64)), (13, .s .str), (14, .s (.int .u8)), (15, .s .bool)] (g_parseLinkRefDef.k8 R)) (.seq (.leaf (sel [1, 1, 1, 1, 1, 1, 1, 1, 1, 1, 1, 1, 1, 1, 1, 0, 1, 0, 1, 0] g_parseLinkRefDef.body)) (.seq (.leaf (sel [1, 1, 1, 1, 1, 1, 1, 1, 1, 1, 1, 1, 1, 1, 1, 0, 1, 0, 1, 1, 0] g_parseLinkRefDef.body)) (.cond 134 (.seq (.block 4 (.loop (leaf [(0, .s .any), (1, .s .str), (6, .s (.int .i64)), (7, .s .str), (10, .s .str), (13, .s .str), (14, .s (.int .u8)), (15, .s .bool), (16, .s .str), (17, .s (.int .u8)), (18, .s (.int .i64))] (g_parseLinkRefDef.l3 R)) (sel [1, 1, 1, 1, 1, 1, 1, 1, 1, 1, 1, 1, 1, 1, 1, 0, 1, 0, 1, 1, 1, 0, 0, 0, 0] g_parseLinkRefDef.body))) (.mark (leaf [(0, .s .any), (1, .s .str), (6, .s (.int .i64)), (7, .s .str), (10, .s .str), (13, .s .str), (14, .s (.int .u8)), (15, .s .bool), (16, .s .str), (17, .s (.int .u8)), (18, .s (.int .i64))] (g_parseLinkRefDef.k11 R)) (.seq (.leaf (sel [1, 1, 1, 1, 1, 1, 1, 1, 1, 1, 1, 1, 1, 1, 1, 0, 1, 0, 1, 1, 1, 0, 1, 0] g_parseLinkRefDef.body)) (.mark (leaf [(0, .s .any), (1, .s .str), (6, .s (.int .i64)), (7, .s .str), (10, .s .str), (13, .s .str), (14, .s (.int .u8)), (15, .s .bool), (16, .s .str), (17, .s (.int .u8)), (18, .s (.int .i64)), (162, .s .bool)] (g_parseLinkRefDef.k12 R)) (.cond 162 (.seq (.leaf (sel [1, 1, 1, 1, 1, 1, 1, 1, 1, 1, 1, 1, 1, 1, 1, 0, 1, 0, 1, 1, 1, 0, 1, 1, 0, 0] g_parseLinkRefDef.body)) (.seq (.leaf (sel [1, 1, 1, 1, 1, 1, 1, 1, 1, 1, 1, 1, 1, 1, 1, 0, 1, 0, 1, 1, 1, 0, 1, 1, 0, 1, 0] g_parseLinkRefDef.body)) (.mark (leaf [(0, .s .any), (1, .s .str), (6, .s (.int .i64)), (7, .s .str), (10, .s .str), (15, .s .bool), (16, .s .str), (17, .s (.int .u8))] (g_parseLinkRefDef.k13 R)) (.leaf (sel [1, 1, 1, 1, 1, 1, 1, 1, 1, 1, 1, 1, 1, 1, 1, 0, 1, 0, 1, 1, 1, 0, 1, 1, 0, 1, 1] g_parseLinkRefDef.body))))) (.leaf (sel [1, 1, 1, 1, 1, 1, 1, 1, 1, 1, 1, 1, 1, 1, 1, 0, 1, 0, 1, 1, 1, 0, 1, 1, 1] g_parseLinkRefDef.body))))))) (.leaf (sel [1, 1, 1, 1, 1, 1, 1, 1, 1, 1, 1, 1, 1, 1, 1, 0, 1, 0, 1, 1, 1, 1] g_parseLinkRefDef.body))))))) (.leaf (sel [1, 1, 1, 1, 1, 1, 1, 1, 1, 1, 1, 1, 1, 1, 1, 0, 1, 1] g_parseLinkRefDef.body)))) (.mark (leaf [(0, .s .any), (1, .s .str), (6, .s (.int .i64)), (7, .s .str), (10, .s .str), (13, .s .str), (14, .s (.int .u8)), (15, .s .bool)] (g_parseLinkRefDef.k7 R)) (.seq (.leaf (sel [1, 1, 1, 1, 1, 1, 1, 1, 1, 1, 1, 1, 1, 1, 1, 1, 0] g_parseLinkRefDef.body)) (.mark (leaf [(0, .s .any), (1, .s .str), (6, .s (.int .i64)), (7, .s .str), (10, .s .str), (13, .s .str), (14, .s (.int .u8)), (15, .s .bool)] (g_parseLinkRefDef.k9 R)) (.seq (.leaf (sel [1, 1, 1, 1, 1, 1, 1, 1, 1, 1, 1, 1, 1, 1, 1, 1, 1, 0] g_parseLinkRefDef.body)) (.mark (leaf [(0, .s .any), (6, .s (.int .i64)), (7, .s .str), (10, .s .str), (13, .s .str), (14, .s (.int .u8)), (15, .s .bool)] (g_parseLinkRefDef.k10 R)) (.leaf (sel [1, 1, 1, 1, 1, 1, 1, 1, 1, 1, 1, 1, 1, 1, 1, 1, 1, 1] g_parseLinkRefDef.body))))))))))))))))))))))))))
theorem g_parseLinkRefDef.good (R : EP) : Good P 200 (g_parseLinkRefDef.ac R) (QF P [.tmp 4, .tmp 5] R) :=
  ⟨trivial, ⟨trivial, ⟨trivial, ⟨trivial, ⟨⟨trivial, ⟨trivial, ⟨trivial, ⟨⟨trivial, ⟨⟨⟨trivial, ⟨trivial, cutE (by intro x0 x67 ρ w; kernel_rfl)⟩⟩, trivial⟩, trivial⟩⟩, ⟨trivial, ⟨(loopG (g_parseLinkRefDef.al1 R) (g_parseLinkRefDef.bl1 R) (fun _ => by kernel_rfl) (fun Xa => ⟨trivial, ⟨trivial, cutE (by intro x0 x1 x6 x7 x10 ρ w; kernel_rfl)⟩⟩) (fun Xa => by intro x0 x1 x6 x7 x10 x11 ρ w; kernel_rfl) (fun X h _ _ _ _ _ _ _ g => g X h)), ⟨⟨trivial, ⟨⟨trivial, ⟨trivial, cutE (by intro x0 x1 x6 x7 x10 x11 x12 x100 ρ w; kernel_rfl)⟩⟩, ⟨⟨trivial, ⟨trivial, ⟨trivial, ⟨⟨trivial, ⟨⟨(loopG (g_parseLinkRefDef.al2 R) (g_parseLinkRefDef.bl2 R) (fun _ => by kernel_rfl) (fun Xc => trivial) (fun Xc => by intro x0 x1 x6 x7 x10 x12 x13 x14 x15 ρ w; kernel_rfl) (fun X h _ _ _ _ _ _ _ _ _ _ g => g X h)), ⟨⟨trivial, ⟨trivial, ⟨⟨(loopG (g_parseLinkRefDef.al3 R) (g_parseLinkRefDef.bl3 R) (fun _ => by kernel_rfl) (fun Xb => trivial) (fun Xb => by intro x0 x1 x6 x7 x10 x13 x14 x15 x16 x17 x18 ρ w; kernel_rfl) (fun X h _ _ _ _ _ _ _ _ _ _ _ _ g => g X h)), ⟨⟨trivial, ⟨⟨⟨trivial, ⟨trivial, ⟨trivial, cutE (by intro x0 x1 x6 x7 x10 x15 x16 x17 ρ w; kernel_rfl)⟩⟩⟩, trivial⟩, cutE (by intro x0 x1 x6 x7 x10 x13 x14 x15 x16 x17 x18 x162 ρ w; kernel_rfl)⟩⟩, cutE (by intro x0 x1 x6 x7 x10 x13 x14 x15 x16 x17 x18 ρ w; kernel_rfl)⟩⟩, trivial⟩⟩⟩, cutE (by intro x0 x1 x6 x7 x10 x12 x13 x14 x15 ρ w; kernel_rfl)⟩⟩, trivial⟩⟩, ⟨⟨trivial, ⟨⟨trivial, ⟨trivial, cutE (by intro x0 x6 x7 x10 x13 x14 x15 ρ w; kernel_rfl)⟩⟩, cutE (by intro x0 x1 x6 x7 x10 x13 x14 x15 ρ w; kernel_rfl)⟩⟩, cutE (by intro x0 x1 x6 x7 x10 x13 x14 x15 ρ w; kernel_rfl)⟩⟩⟩⟩⟩, cutE (by intro x0 x1 x6 x7 x10 x11 x12 ρ w; kernel_rfl)⟩⟩⟩, cutE (by intro x0 x1 x6 x7 x10 x11 ρ w; kernel_rfl)⟩⟩⟩⟩⟩⟩⟩, cutE (by intro x0 x1 x6 x7 ρ w; kernel_rfl)⟩⟩⟩⟩⟩
theorem g_parseLinkRefDef.eq (R : EP) (x0 : Value) (x1 : BA) (w : World) : g_parseLinkRefDef R x0 x1 w = vcA P 200 (g_parseLinkRefDef.ac R) (QF P [.tmp 4, .tmp 5] R) (fr0 [x0, .string x1]) w := by kernel_rfl
theorem g_parseLinkRefDef.sound {R : EP} {x0 : Value} {x1 : ByteArray} {w : World} (h : g_parseLinkRefDef R x0 x1 w) : callE P i_parseLinkRefDef #[x0, .string x1] R w :=
  callE_fin (c := g_parseLinkRefDef.body) Tryz.func272 Tryz.call272 (by kernel_rfl) (by kernel_rfl) (by kernel_rfl) (by kernel_rfl) (by kernel_rfl) (g_parseLinkRefDef.good R) (g_parseLinkRefDef.eq R x0 x1 w) h
namespace g_skipSpace
noncomputable def body : Code := bodyOf Tryz.f91
def bl1 (R : EP) (Xa : BA → Int → WP) (x0 : BA) (x1 : Int) (w : World) : Prop :=
 ((decide (x1 < (x0.size : Int))) = true → 0 ≤ x1 ∧ x1 < (x0.size : Int)) ∧
 (((decide (x1 < (x0.size : Int))) && (!((bt x0 x1) == 32))) = true → 0 ≤ x1 ∧ x1 < (x0.size : Int)) ∧
 (((decide (x1 < (x0.size : Int))) && (!(((bt x0 x1) == 32) || ((bt x0 x1) == 9)))) = true → 0 ≤ x1 ∧ x1 < (x0.size : Int)) ∧
 br ((decide (x1 < (x0.size : Int))) && ((((bt x0 x1) == 32) || ((bt x0 x1) == 9)) || ((bt x0 x1) == 10)))
 (Xa x0 (IntKind.i64.wrap (x1 + 1)) w)
 (R (.returned (.int .i64 x1)) w)
def l1 (R : EP) (x0 : BA) (x1 : Int) (w : World) : Prop :=
  ∀ X : BA → Int → WP, (∀ x0 x1 w, bl1 R X x0 x1 w → X x0 x1 w) → X x0 x1 w

noncomputable def al1 (R : EP) (Xa : BA → Int → WP) : AC :=
  (.leaf (sel [1, 0, 0, 0] body))
end g_skipSpace
def g_skipSpace (R : EP) (x0 : BA) (x1 : Int) (w : World) : Prop :=
 g_skipSpace.l1 R x0 x1 w

noncomputable def g_skipSpace.ac (R : EP) : AC :=
  (.seq (.leaf (sel [0] g_skipSpace.body)) (.seq (.block 0 (.loop (leaf [(0, .s .str), (1, .s (.int .i64))] (g_skipSpace.l1 R)) (sel [1, 0, 0, 0] g_skipSpace.body))) (.leaf (sel [1, 1] g_skipSpace.body))))
theorem g_skipSpace.good (R : EP) : Good P 30 (g_skipSpace.ac R) (QF P [.tmp 4] R) :=
  ⟨trivial, ⟨(loopG (g_skipSpace.al1 R) (g_skipSpace.bl1 R) (fun _ => by kernel_rfl) (fun Xa => trivial) (fun Xa => by intro x0 x1 ρ w; kernel_rfl) (fun X h _ _ _ g => g X h)), trivial⟩⟩
theorem g_skipSpace.eq (R : EP) (x0 : BA) (x1 : Int) (w : World) : g_skipSpace R x0 x1 w = vcA P 30 (g_skipSpace.ac R) (QF P [.tmp 4] R) (fr0 [.string x0, .int .i64 x1]) w := by kernel_rfl
theorem g_skipSpace.sound {R : EP} {x0 : ByteArray} {x1 : Int} {w : World} (h : g_skipSpace R x0 x1 w) : callE P i_skipSpace #[.string x0, .int .i64 x1] R w :=
  callE_fin (c := g_skipSpace.body) Tryz.func91 Tryz.call91 (by kernel_rfl) (by kernel_rfl) (by kernel_rfl) (by kernel_rfl) (by kernel_rfl) (g_skipSpace.good R) (g_skipSpace.eq R x0 x1 w) h
namespace g_strings_Join
noncomputable def body : Code := bodyOf Tryz.f153
def k3 (R : EP) (Xa : OA → Nat → Nat → BA → Int → OA → Nat → Nat → Int → Int → WP) (x0q : OA) (x0n : Nat) (x0c : Nat) (x1 : BA) (x5 : Int) (x7 : BA) (x39q : OA) (x39n : Nat) (x39c : Nat) (x40 : Int) (x41 : Int) (w : World) : Prop :=
 Xa x0q x0n x0c x1 (IntKind.i64.wrap (x5 + (x7.size : Int))) x39q x39n x39c x40 (IntKind.i64.wrap (x41 + 1)) w

def bl2 (R : EP) (Xb : BA → Nat → OA → Nat → Nat → Int → Int → WP) (x1 : BA) (x8 : Nat) (x63q : OA) (x63n : Nat) (x63c : Nat) (x64 : Int) (x65 : Int) (w : World) : Prop :=
 br (decide (x65 < x64))
 (0 ≤ x65 ∧ x65 < (x63n : Int) ∧
 nilP x63q fun a15 =>
 ∃ (v16 : BA), w.cell? (a15.add (Int.toNat x65 * 1)) = some (.string v16) ∧
 callE P i_strings_Builder_WriteString #[.pointer (some ⟨x8, 0, none⟩), .string x1] (fun e w18 => ∃ (r17_0 : Int), ∃ (r17_1 : Value), e = .returned (.tuple #[.int .i64 r17_0, r17_1]) ∧
 callE P i_strings_Builder_WriteString #[.pointer (some ⟨x8, 0, none⟩), .string v16] (fun e w20 => ∃ (r19_0 : Int), ∃ (r19_1 : Value), e = .returned (.tuple #[.int .i64 r19_0, r19_1]) ∧
 Xb x1 x8 x63q x63n x63c x64 (IntKind.i64.wrap (x65 + 1)) w20) w18) w)
 (callE P i_strings_Builder_String #[.pointer (some ⟨x8, 0, none⟩)] (fun e w22 => ∃ (r21 : BA), e = .returned (.string r21) ∧
 R (.returned (.string r21)) w22) w)
def l2 (R : EP) (x1 : BA) (x8 : Nat) (x63q : OA) (x63n : Nat) (x63c : Nat) (x64 : Int) (x65 : Int) (w : World) : Prop :=
  ∀ X : BA → Nat → OA → Nat → Nat → Int → Int → WP, (∀ x1 x8 x63q x63n x63c x64 x65 w, bl2 R X x1 x8 x63q x63n x63c x64 x65 w → X x1 x8 x63q x63n x63c x64 x65 w) → X x1 x8 x63q x63n x63c x64 x65 w

noncomputable def al2 (R : EP) (Xb : BA → Nat → OA → Nat → Nat → Int → Int → WP) : AC :=
  (.leaf (sel [1, 1, 1, 1, 1, 1, 1, 1, 0, 1, 0, 0] body))
def bl1 (R : EP) (Xa : OA → Nat → Nat → BA → Int → OA → Nat → Nat → Int → Int → WP) (x0q : OA) (x0n : Nat) (x0c : Nat) (x1 : BA) (x5 : Int) (x39q : OA) (x39n : Nat) (x39c : Nat) (x40 : Int) (x41 : Int) (w : World) : Prop :=
 br (decide (x41 < x40))
 (0 ≤ x41 ∧ x41 < (x39n : Int) ∧
 nilP x39q fun a3 =>
 ∃ (v4 : BA), w.cell? (a3.add (Int.toNat x41 * 1)) = some (.string v4) ∧
 br (decide ((v4.size : Int) > (IntKind.i64.wrap (9223372036854775807 - x5))))
 (False)
 (k3 R Xa x0q x0n x0c x1 x5 v4 x39q x39n x39c x40 x41 w))
 (box w #[.pointer none, .slice none 0 0] ty_strings_Builder fun b5 w6 =>
 callE P i_strings_Builder_Grow #[.pointer (some ⟨b5, 0, none⟩), .int .i64 x5] (fun e w8 => e = .returned (.tuple #[]) ∧
 0 ≤ (0 : Int) ∧ 0 < (x0n : Int) ∧
 nilP x0q fun a9 =>
 ∃ (v10 : BA), w8.cell? (a9.add (Int.toNat 0 * 1)) = some (.string v10) ∧
 callE P i_strings_Builder_WriteString #[.pointer (some ⟨b5, 0, none⟩), .string v10] (fun e w12 => ∃ (r11_0 : Int), ∃ (r11_1 : Value), e = .returned (.tuple #[.int .i64 r11_0, r11_1]) ∧
 ∃ (r13q : OA), ∃ (r13n : Nat), ∃ (r13c : Nat), ∃ w14, (Instr.sliceAt ty_S_string (.slice x0q x0n x0c) (some (.int .i64 1)) none none).run P w12 = .ok (.slice r13q r13n r13c) w14 ∧
 l2 R x1 b5 r13q r13n r13c (r13n : Int) 0 w14) w8) w6)
def l1 (R : EP) (x0q : OA) (x0n : Nat) (x0c : Nat) (x1 : BA) (x5 : Int) (x39q : OA) (x39n : Nat) (x39c : Nat) (x40 : Int) (x41 : Int) (w : World) : Prop :=
  ∀ X : OA → Nat → Nat → BA → Int → OA → Nat → Nat → Int → Int → WP, (∀ x0q x0n x0c x1 x5 x39q x39n x39c x40 x41 w, bl1 R X x0q x0n x0c x1 x5 x39q x39n x39c x40 x41 w → X x0q x0n x0c x1 x5 x39q x39n x39c x40 x41 w) → X x0q x0n x0c x1 x5 x39q x39n x39c x40 x41 w

noncomputable def al1 (R : EP) (Xa : OA → Nat → Nat → BA → Int → OA → Nat → Nat → Int → Int → WP) : AC :=
  (.seq (.leaf (sel [1, 1, 1, 1, 0, 1, 0, 0, 0] body)) (.seq (.leaf (sel [1, 1, 1, 1, 0, 1, 0, 0, 1, 0] body)) (.seq (.block 2 (.seq (.leaf (sel [1, 1, 1, 1, 0, 1, 0, 0, 1, 1, 0, 0, 0] body)) (.seq (.leaf (sel [1, 1, 1, 1, 0, 1, 0, 0, 1, 1, 0, 0, 1, 0] body)) (.mark (leaf [(0, .s .slice), (1, .s .str), (5, .s (.int .i64)), (7, .s .str), (39, .s .slice), (40, .s (.int .i64)), (41, .s (.int .i64))] (k3 R Xa)) (.leaf (sel [1, 1, 1, 1, 0, 1, 0, 0, 1, 1, 0, 0, 1, 1] body)))))) (.leaf (sel [1, 1, 1, 1, 0, 1, 0, 0, 1, 1, 1] body)))))
def k2 (R : EP) (x0q : OA) (x0n : Nat) (x0c : Nat) (x1 : BA) (x5 : Int) (w : World) : Prop :=
 l1 R x0q x0n x0c x1 x5 x0q x0n x0c (x0n : Int) 0 w

def k1 (R : EP) (x0q : OA) (x0n : Nat) (x0c : Nat) (x1 : BA) (x5 : Int) (w : World) : Prop :=
 k2 R x0q x0n x0c x1 (IntKind.i64.wrap (x5 + (IntKind.i64.wrap ((x1.size : Int) * (IntKind.i64.wrap ((x0n : Int) - 1)))))) w

end g_strings_Join
def g_strings_Join (R : EP) (x0q : OA) (x0n : Nat) (x0c : Nat) (x1 : BA) (w : World) : Prop :=
 br ((x0n : Int) == 0)
 (R (.returned (.string (ByteArray.mk #[]))) w)
 (br ((x0n : Int) == 1)
 (0 ≤ (0 : Int) ∧ 0 < (x0n : Int) ∧
 nilP x0q fun a1 =>
 ∃ (v2 : BA), w.cell? (a1.add (Int.toNat 0 * 1)) = some (.string v2) ∧
 R (.returned (.string v2)) w)
 (br (decide ((x1.size : Int) > 0))
 ((IntKind.i64.wrap ((x0n : Int) - 1)) ≠ 0 ∧
 br (decide ((x1.size : Int) ≥ (IntKind.i64.wrap (Int.tdiv 9223372036854775807 (IntKind.i64.wrap ((x0n : Int) - 1))))))
 (False)
 (g_strings_Join.k1 R x0q x0n x0c x1 0 w))
 (g_strings_Join.k2 R x0q x0n x0c x1 0 w)))

noncomputable def g_strings_Join.ac (R : EP) : AC :=
  (.seq (.leaf (sel [0] g_strings_Join.body)) (.seq (.leaf (sel [1, 0] g_strings_Join.body)) (.seq (.leaf (sel [1, 1, 0] g_strings_Join.body)) (.seq (.seq (.leaf (sel [1, 1, 1, 0, 0] g_strings_Join.body)) (.cond 22 (.seq (.leaf (sel [1, 1, 1, 0, 1, 0, 0] g_strings_Join.body)) (.mark (leaf [(0, .s .slice), (1, .s .str), (5, .s (.int .i64))] (g_strings_Join.k1 R)) (.leaf (sel [1, 1, 1, 0, 1, 0, 1] g_strings_Join.body)))) (.leaf (sel [1, 1, 1, 0, 1, 1] g_strings_Join.body)))) (.mark (leaf [(0, .s .slice), (1, .s .str), (5, .s (.int .i64))] (g_strings_Join.k2 R)) (.seq (.seq (.leaf (sel [1, 1, 1, 1, 0, 0] g_strings_Join.body)) (.block 1 (.loop (leaf [(0, .s .slice), (1, .s .str), (5, .s (.int .i64)), (39, .s .slice), (40, .s (.int .i64)), (41, .s (.int .i64))] (g_strings_Join.l1 R)) (sel [1, 1, 1, 1, 0, 1, 0, 0] g_strings_Join.body)))) (.seq (.leaf (sel [1, 1, 1, 1, 1, 0] g_strings_Join.body)) (.seq (.leaf (sel [1, 1, 1, 1, 1, 1, 0] g_strings_Join.body)) (.seq (.leaf (sel [1, 1, 1, 1, 1, 1, 1, 0] g_strings_Join.body)) (.seq (.seq (.leaf (sel [1, 1, 1, 1, 1, 1, 1, 1, 0, 0] g_strings_Join.body)) (.block 3 (.loop (leaf [(1, .s .str), (8, .s .loc), (63, .s .slice), (64, .s (.int .i64)), (65, .s (.int .i64))] (g_strings_Join.l2 R)) (sel [1, 1, 1, 1, 1, 1, 1, 1, 0, 1, 0, 0] g_strings_Join.body)))) (.leaf (sel [1, 1, 1, 1, 1, 1, 1, 1, 1] g_strings_Join.body))))))))))))
theorem g_strings_Join.good (R : EP) : Good P 75 (g_strings_Join.ac R) (QF P [.tmp 4] R) :=
  ⟨trivial, ⟨trivial, ⟨trivial, ⟨⟨trivial, ⟨⟨trivial, ⟨trivial, cutE (by intro x0q x0n x0c x1 x5 ρ w; kernel_rfl)⟩⟩, trivial⟩⟩, ⟨⟨⟨trivial, (loopG (g_strings_Join.al1 R) (g_strings_Join.bl1 R) (fun _ => by kernel_rfl) (fun Xa => ⟨trivial, ⟨trivial, ⟨⟨trivial, ⟨trivial, ⟨trivial, cutE (by intro x0q x0n x0c x1 x5 x7 x39q x39n x39c x40 x41 ρ w; kernel_rfl)⟩⟩⟩, trivial⟩⟩⟩) (fun Xa => by intro x0q x0n x0c x1 x5 x39q x39n x39c x40 x41 ρ w; kernel_rfl) (fun X h _ _ _ _ _ _ _ _ _ _ _ g => g X h))⟩, ⟨trivial, ⟨trivial, ⟨trivial, ⟨⟨trivial, (loopG (g_strings_Join.al2 R) (g_strings_Join.bl2 R) (fun _ => by kernel_rfl) (fun Xb => trivial) (fun Xb => by intro x1 x8 x63q x63n x63c x64 x65 ρ w; kernel_rfl) (fun X h _ _ _ _ _ _ _ _ g => g X h))⟩, trivial⟩⟩⟩⟩⟩, cutE (by intro x0q x0n x0c x1 x5 ρ w; kernel_rfl)⟩⟩⟩⟩⟩
theorem g_strings_Join.eq (R : EP) (x0q : OA) (x0n : Nat) (x0c : Nat) (x1 : BA) (w : World) : g_strings_Join R x0q x0n x0c x1 w = vcA P 75 (g_strings_Join.ac R) (QF P [.tmp 4] R) (fr0 [.slice x0q x0n x0c, .string x1]) w := by kernel_rfl
theorem g_strings_Join.sound {R : EP} {x0q : OA} {x0n : Nat} {x0c : Nat} {x1 : ByteArray} {w : World} (h : g_strings_Join R x0q x0n x0c x1 w) : callE P i_strings_Join #[.slice x0q x0n x0c, .string x1] R w :=
  callE_fin (c := g_strings_Join.body) Tryz.func153 Tryz.call153 (by kernel_rfl) (by kernel_rfl) (by kernel_rfl) (by kernel_rfl) (by kernel_rfl) (g_strings_Join.good R) (g_strings_Join.eq R x0q x0n x0c x1 w) h
namespace g_news
noncomputable def body : Code := bodyOf Tryz.f37
end g_news
def g_news (R : EP) (w : World) : Prop :=
 ∃ (r1q : OA), ∃ (r1n : Nat), ∃ (r1c : Nat), ∃ w2, (Instr.buildSlice ty_S_func_P_parseState_line_line_bool 8 #[(0, .func (.func i_newQuote) #[] #[]), (1, .func (.func i_newATXHeading) #[] #[]), (2, .func (.func i_newSetextHeading) #[] #[]), (3, .func (.func i_newHR) #[] #[]), (4, .func (.func i_newListItem) #[] #[]), (5, .func (.func i_newHTML) #[] #[]), (6, .func (.func i_newFence) #[] #[]), (7, .func (.func i_newPre) #[] #[])]).run P w = .ok (.slice r1q r1n r1c) w2 ∧
 R (.returned (.slice r1q r1n r1c)) w2

noncomputable def g_news.ac (R : EP) : AC :=
  (.leaf (sel [] g_news.body))
theorem g_news.good (R : EP) : Good P 2 (g_news.ac R) (QF P [.tmp 0] R) :=
  trivial
theorem g_news.eq (R : EP) (w : World) : g_news R w = vcA P 2 (g_news.ac R) (QF P [.tmp 0] R) (fr0 []) w := by kernel_rfl
theorem g_news.sound {R : EP} {w : World} (h : g_news R w) : callE P i_news #[] R w :=
  callE_fin (c := g_news.body) Tryz.func37 Tryz.call37 (by kernel_rfl) (by kernel_rfl) (by kernel_rfl) (by kernel_rfl) (by kernel_rfl) (g_news.good R) (g_news.eq R w) h
namespace g_newPara
noncomputable def body : Code := bodyOf Tryz.f38
def k5 (R : EP) (x4 : Nat) (x6 : OA) (x8 : BA) (w : World) : Prop :=
 nilP x6 fun a102 =>
 ∃ (v103q : OA), ∃ (v103n : Nat), ∃ (v103c : Nat), w.cell? a102 = some (.slice v103q v103n v103c) ∧
 ∃ (r104q : OA), ∃ (r104n : Nat), ∃ (r104c : Nat), ∃ w105, (Instr.buildSlice ty_S_string 1 #[(0, .string x8)]).run P w = .ok (.slice r104q r104n r104c) w105 ∧
 ∃ (r106q : OA), ∃ (r106n : Nat), ∃ (r106c : Nat), ∃ w107, (Builtin.append_ #[ty_S_string, ty_S_string] ty_S_string #[.slice v103q v103n v103c, .slice r104q r104n r104c]).run P w105 = .ok (.slice r106q r106n r106c) w107 ∧
 nilP x6 fun a108 =>
 stV w107 (a108.add 0) (.slice r106q r106n r106c) fun w109 =>
 stV w109 ⟨x4, 0, none⟩ (.int .i64 0) fun w110 =>
 stV w110 ⟨x4, 1, none⟩ (.int .i64 0) fun w111 =>
 stV w111 ⟨x4, 2, none⟩ (.int .i64 0) fun w112 =>
 stV w112 ⟨x4, 3, none⟩ (.string (ByteArray.mk #[])) fun w113 =>
 stV w113 ⟨x4, 4, none⟩ (.int .u8 0) fun w114 =>
 ∃ (v115 : Int), w114.cell? ⟨x4, 0, none⟩ = some (.int .i64 v115) ∧
 ∃ (v116 : Int), w114.cell? ⟨x4, 1, none⟩ = some (.int .i64 v116) ∧
 ∃ (v117 : Int), w114.cell? ⟨x4, 2, none⟩ = some (.int .i64 v117) ∧
 ∃ (v118 : BA), w114.cell? ⟨x4, 3, none⟩ = some (.string v118) ∧
 ∃ (v119 : Int), w114.cell? ⟨x4, 4, none⟩ = some (.int .u8 v119) ∧
 R (.returned (.tuple #[.agg #[.int .i64 v115, .int .i64 v116, .int .i64 v117, .string v118, .int .u8 v119], .bool true])) w114

def bl1 (R : EP) (Xa : OA → Nat → OA → BA → Int → WP) (x0 : OA) (x4 : Nat) (x6 : OA) (x8 : BA) (x11 : Int) (w : World) : Prop :=
 nilP x0 fun a93 =>
 ∃ (v94q : OA), ∃ (v94n : Nat), ∃ (v94c : Nat), w.cell? (a93.add 4) = some (.slice v94q v94n v94c) ∧
 br (decide (x11 < (v94n : Int)))
 (tk w fun w95 =>
 nilP x0 fun a96 =>
 nilP x0 fun a97 =>
 ∃ (v98q : OA), ∃ (v98n : Nat), ∃ (v98c : Nat), w95.cell? (a96.add 4) = some (.slice v98q v98n v98c) ∧
 ∃ (v99 : Int), w95.cell? (a97.add 3) = some (.int .i64 v99) ∧
 0 ≤ x11 ∧ x11 < (v98n : Int) ∧
 nilP v98q fun a100 =>
 stV w95 ((((a100.add (Int.toNat x11 * 4)).add 2).add 1).add 0) (.int .i64 v99) fun w101 =>
 Xa x0 x4 x6 x8 (IntKind.i64.wrap (x11 + 1)) w101)
 (k5 R x4 x6 x8 w)
def l1 (R : EP) (x0 : OA) (x4 : Nat) (x6 : OA) (x8 : BA) (x11 : Int) (w : World) : Prop :=
  ∀ X : OA → Nat → OA → BA → Int → WP, (∀ x0 x4 x6 x8 x11 w, bl1 R X x0 x4 x6 x8 x11 w → X x0 x4 x6 x8 x11 w) → X x0 x4 x6 x8 x11 w

noncomputable def al1 (R : EP) (Xa : OA → Nat → OA → BA → Int → WP) : AC :=
  (.seq (.leaf (sel [1, 1, 1, 1, 1, 1, 0, 1, 0, 1, 0, 0, 0] body)) (.seq (.block 1 (.draw (.pure 0 (.pure 1 (.pure 2 (.pure 4 (.pure 5 (.pure 6 (.pure 7 (.load 3 (.load 8 (.pure 9 (.pure 10 (.pure 11 (.one 12 .done))))))))))))) (sel [1, 1, 1, 1, 1, 1, 0, 1, 0, 1, 0, 0, 1, 0, 0] body))) (.leaf (sel [1, 1, 1, 1, 1, 1, 0, 1, 0, 1, 0, 0, 1, 1] body))))
def k4 (R : EP) (x0 : OA) (x4 : Nat) (x6 : OA) (x8 : BA) (x88 : Bool) (w : World) : Prop :=
 br x88
 (tk w fun w50 =>
 nilP x6 fun a51 =>
 nilP x6 fun a52 =>
 ∃ (v53q : OA), ∃ (v53n : Nat), ∃ (v53c : Nat), w50.cell? a51 = some (.slice v53q v53n v53c) ∧
 ∃ (v54q : OA), ∃ (v54n : Nat), ∃ (v54c : Nat), w50.cell? a52 = some (.slice v54q v54n v54c) ∧
 0 ≤ (IntKind.i64.wrap ((v54n : Int) - 1)) ∧ (IntKind.i64.wrap ((v54n : Int) - 1)) < (v53n : Int) ∧
 nilP v53q fun a55 =>
 ∃ (v56 : BA), w50.cell? (a55.add (Int.toNat (IntKind.i64.wrap ((v54n : Int) - 1)) * 1)) = some (.string v56) ∧
 tk w50 fun w57 =>
 nilP x6 fun a58 =>
 nilP x6 fun a59 =>
 ∃ (v60q : OA), ∃ (v60n : Nat), ∃ (v60c : Nat), w57.cell? a58 = some (.slice v60q v60n v60c) ∧
 ∃ (v61q : OA), ∃ (v61n : Nat), ∃ (v61c : Nat), w57.cell? a59 = some (.slice v61q v61n v61c) ∧
 ∃ (r62q : OA), ∃ (r62n : Nat), ∃ (r62c : Nat), (∀ w, (Instr.sliceAt ty_S_string (.slice v60q v60n v60c) none (some (.int .i64 (IntKind.i64.wrap ((v61n : Int) - 1)))) none).run P w = .ok (.slice r62q r62n r62c) w) ∧
 nilP x6 fun a63 =>
 stV w57 (a63.add 0) (.slice r62q r62n r62c) fun w64 =>
 box w64 #[.slice none 0 0, .pointer none] ty_paraBuilder fun b65 w66 =>
 callE P i_parseState_addBlock #[.pointer x0, .iface ty_P_paraBuilder (.pointer (some ⟨b65, 0, none⟩))] (fun e w68 => e = .returned (.tuple #[]) ∧
 box w68 #[.string (ByteArray.mk #[]), .string (ByteArray.mk #[]), .slice none 0 0] ty_tableBuilder fun b69 w70 =>
 stV w70 ⟨b65, 1, none⟩ (.pointer (some ⟨b69, 0, none⟩)) fun w71 =>
 ∃ (v72 : OA), w71.cell? ⟨b65, 1, none⟩ = some (.pointer v72) ∧
 callE P i_tableBuilder_start #[.pointer v72, .string v56, .string x8] (fun e w74 => e = .returned (.tuple #[]) ∧
 stV w74 ⟨x4, 0, none⟩ (.int .i64 0) fun w75 =>
 stV w75 ⟨x4, 1, none⟩ (.int .i64 0) fun w76 =>
 stV w76 ⟨x4, 2, none⟩ (.int .i64 0) fun w77 =>
 stV w77 ⟨x4, 3, none⟩ (.string (ByteArray.mk #[])) fun w78 =>
 stV w78 ⟨x4, 4, none⟩ (.int .u8 0) fun w79 =>
 ∃ (v80 : Int), w79.cell? ⟨x4, 0, none⟩ = some (.int .i64 v80) ∧
 ∃ (v81 : Int), w79.cell? ⟨x4, 1, none⟩ = some (.int .i64 v81) ∧
 ∃ (v82 : Int), w79.cell? ⟨x4, 2, none⟩ = some (.int .i64 v82) ∧
 ∃ (v83 : BA), w79.cell? ⟨x4, 3, none⟩ = some (.string v83) ∧
 ∃ (v84 : Int), w79.cell? ⟨x4, 4, none⟩ = some (.int .u8 v84) ∧
 R (.returned (.tuple #[.agg #[.int .i64 v80, .int .i64 v81, .int .i64 v82, .string v83, .int .u8 v84], .bool true])) w79) w71) w66)
 (∃ (r85 : Bool), ∃ w86, (do eqGuard .neq ty_P_paraBuilder (.tmp 132) (.const (.pointer none)) (.pointer x6) (.pointer none); binOp .neq ty_P_paraBuilder (.pointer x6) (.pointer none)).run P w = .ok (.bool r85) w86 ∧
 br r85
 (nilP x0 fun a87 =>
 ∃ (v88 : Int), w86.cell? (a87.add 5) = some (.int .i64 v88) ∧
 l1 R x0 x4 x6 x8 v88 w86)
 (box w86 #[.slice none 0 0, .pointer none] ty_paraBuilder fun b89 w90 =>
 callE P i_parseState_addBlock #[.pointer x0, .iface ty_P_paraBuilder (.pointer (some ⟨b89, 0, none⟩))] (fun e w92 => e = .returned (.tuple #[]) ∧
 k5 R x4 (some ⟨b89, 0, none⟩) x8 w92) w90))

def k3 (R : EP) (x0 : OA) (x4 : Nat) (x6 : OA) (x7 : Bool) (x8 : BA) (w : World) : Prop :=
 tk w fun w34 =>
 nilP x0 fun a35 =>
 ∃ (v36 : OA), w34.cell? a35 = some (.pointer v36) ∧
 nilP v36 fun a37 =>
 ∃ (v38 : Bool), w34.cell? (a37.add 5) = some (.bool v38) ∧
 br v38
 (∃ (r39 : Bool), (∀ w, (do eqGuard .neq ty_P_paraBuilder (.tmp 59) (.const (.pointer none)) (.pointer x6) (.pointer none); binOp .neq ty_P_paraBuilder (.pointer x6) (.pointer none)).run P w = .ok (.bool r39) w) ∧
 br r39
 (br x7
 (nilP x6 fun a40 =>
 ∃ (v41q : OA), ∃ (v41n : Nat), ∃ (v41c : Nat), w34.cell? a40 = some (.slice v41q v41n v41c) ∧
 br (decide ((v41n : Int) > 0))
 (nilP x6 fun a42 =>
 nilP x6 fun a43 =>
 ∃ (v44q : OA), ∃ (v44n : Nat), ∃ (v44c : Nat), w34.cell? a42 = some (.slice v44q v44n v44c) ∧
 ∃ (v45q : OA), ∃ (v45n : Nat), ∃ (v45c : Nat), w34.cell? a43 = some (.slice v45q v45n v45c) ∧
 0 ≤ (IntKind.i64.wrap ((v45n : Int) - 1)) ∧ (IntKind.i64.wrap ((v45n : Int) - 1)) < (v44n : Int) ∧
 nilP v44q fun a46 =>
 ∃ (v47 : BA), w34.cell? (a46.add (Int.toNat (IntKind.i64.wrap ((v45n : Int) - 1)) * 1)) = some (.string v47) ∧
 callE P i_isTableStart #[.string v47, .string x8] (fun e w49 => ∃ (r48 : Bool), e = .returned (.bool r48) ∧
 k4 R x0 x4 x6 x8 r48 w49) w34)
 (k4 R x0 x4 x6 x8 false w34))
 (k4 R x0 x4 x6 x8 false w34))
 (k4 R x0 x4 x6 x8 false w34))
 (k4 R x0 x4 x6 x8 false w34)

def k2 (R : EP) (x0 : OA) (x4 : Nat) (x6 : OA) (x7 : Bool) (x8 : BA) (x43 : Bool) (w : World) : Prop :=
 br x43
 (nilP x6 fun a20 =>
 ∃ (v21 : OA), w.cell? (a20.add 1) = some (.pointer v21) ∧
 callE P i_tableBuilder_addRow #[.pointer v21, .string x8] (fun e w23 => e = .returned (.tuple #[]) ∧
 stV w23 ⟨x4, 0, none⟩ (.int .i64 0) fun w24 =>
 stV w24 ⟨x4, 1, none⟩ (.int .i64 0) fun w25 =>
 stV w25 ⟨x4, 2, none⟩ (.int .i64 0) fun w26 =>
 stV w26 ⟨x4, 3, none⟩ (.string (ByteArray.mk #[])) fun w27 =>
 stV w27 ⟨x4, 4, none⟩ (.int .u8 0) fun w28 =>
 ∃ (v29 : Int), w28.cell? ⟨x4, 0, none⟩ = some (.int .i64 v29) ∧
 ∃ (v30 : Int), w28.cell? ⟨x4, 1, none⟩ = some (.int .i64 v30) ∧
 ∃ (v31 : Int), w28.cell? ⟨x4, 2, none⟩ = some (.int .i64 v31) ∧
 ∃ (v32 : BA), w28.cell? ⟨x4, 3, none⟩ = some (.string v32) ∧
 ∃ (v33 : Int), w28.cell? ⟨x4, 4, none⟩ = some (.int .u8 v33) ∧
 R (.returned (.tuple #[.agg #[.int .i64 v29, .int .i64 v30, .int .i64 v31, .string v32, .int .u8 v33], .bool true])) w28) w)
 (k3 R x0 x4 none x7 x8 w)

def k1 (R : EP) (x0 : OA) (x4 : Nat) (x6 : OA) (x7 : Bool) (x8 : BA) (x34 : Bool) (w : World) : Prop :=
 br x34
 (k2 R x0 x4 x6 x7 x8 ((x7 && (!(x8.toList == (ByteArray.mk #[]).toList))) && (!(x8.toList == (ByteArray.mk #[124]).toList))) w)
 (k3 R x0 x4 x6 x7 x8 w)

end g_newPara
def g_newPara (R : EP) (x0 : OA) (x1_0 : Int) (x1_1 : Int) (x1_2 : Int) (x1_3 : BA) (x1_4 : Int) (w : World) : Prop :=
 box w #[.int .i64 x1_0, .int .i64 x1_1, .int .i64 x1_2, .string x1_3, .int .u8 x1_4] ty_line fun b1 w2 =>
 box w2 #[.int .i64 0, .int .i64 0, .int .i64 0, .string (ByteArray.mk #[]), .int .u8 0] ty_line fun b3 w4 =>
 callE P i_parseState_para #[.pointer x0] (fun e w6 => ∃ (r5 : OA), e = .returned (.pointer r5) ∧
 tk w6 fun w7 =>
 nilP x0 fun a8 =>
 nilP x0 fun a9 =>
 ∃ (v10 : Int), w7.cell? (a8.add 5) = some (.int .i64 v10) ∧
 ∃ (v11q : OA), ∃ (v11n : Nat), ∃ (v11c : Nat), w7.cell? (a9.add 4) = some (.slice v11q v11n v11c) ∧
 callE P i_line_trimSpaceString #[.pointer (some ⟨b1, 0, none⟩)] (fun e w13 => ∃ (r12 : BA), e = .returned (.string r12) ∧
 ∃ (r14 : Bool), ∃ w15, (do eqGuard .neq ty_P_paraBuilder (.tmp 26) (.const (.pointer none)) (.pointer r5) (.pointer none); binOp .neq ty_P_paraBuilder (.pointer r5) (.pointer none)).run P w13 = .ok (.bool r14) w15 ∧
 br r14
 (nilP r5 fun a16 =>
 ∃ (v17 : OA), w15.cell? (a16.add 1) = some (.pointer v17) ∧
 ∃ (r18 : Bool), ∃ w19, (do eqGuard .neq ty_P_tableBuilder (.tmp 32) (.const (.pointer none)) (.pointer v17) (.pointer none); binOp .neq ty_P_tableBuilder (.pointer v17) (.pointer none)).run P w15 = .ok (.bool r18) w19 ∧
 g_newPara.k1 R x0 b3 r5 (v10 == (IntKind.i64.wrap ((v11n : Int) - 2))) r12 r18 w19)
 (g_newPara.k1 R x0 b3 r5 (v10 == (IntKind.i64.wrap ((v11n : Int) - 2))) r12 false w15)) w7) w4

noncomputable def g_newPara.ac (R : EP) : AC :=
  (.seq (.leaf (sel [0] g_newPara.body)) (.seq (.leaf (sel [1, 0] g_newPara.body)) (.seq (.draw (.pure 0 (.pure 1 (.pure 2 (.pure 4 (.pure 5 (.pure 6 (.load 3 (.load 7 (.pure 8 (.pure 9 (.pure 10 (.pure 11 .done)))))))))))) (sel [1, 1, 0] g_newPara.body)) (.seq (.leaf (sel [1, 1, 1, 0] g_newPara.body)) (.seq (.seq (.leaf (sel [1, 1, 1, 1, 0, 0] g_newPara.body)) (.mark (leaf [(0, .s .ptr), (4, .s .loc), (6, .s .ptr), (7, .s .bool), (8, .s .str), (34, .s .bool)] (g_newPara.k1 R)) (.cond 34 (.seq (.seq (.leaf (sel [1, 1, 1, 1, 0, 1, 0, 0, 0] g_newPara.body)) (.mark (leaf [(0, .s .ptr), (4, .s .loc), (6, .s .ptr), (7, .s .bool), (8, .s .str), (43, .s .bool)] (g_newPara.k2 R)) (.leaf (sel [1, 1, 1, 1, 0, 1, 0, 0, 1] g_newPara.body)))) (.leaf (sel [1, 1, 1, 1, 0, 1, 0, 1] g_newPara.body))) (.leaf (sel [1, 1, 1, 1, 0, 1, 1] g_newPara.body))))) (.mark (leaf [(0, .s .ptr), (4, .s .loc), (6, .s .ptr), (7, .s .bool), (8, .s .str)] (g_newPara.k3 R)) (.seq (.seq (.draw (.pure 0 (.pure 1 (.pure 2 (.load 3 (.pure 4 (.pure 5 (.load 6 (.pure 7 (.pure 8 (.pure 9 (.pure 10 (.pure 11 (.pure 12 (.pure 13 (.pure 14 (.pure 15 (.pure 16 (.pure 17 (.load 18 (.pure 19 (.pure 20 (.pure 21 (.pure 22 (.pure 23 (.pure 24 (.pure 25 (.pure 27 (.pure 28 (.pure 29 (.pure 35 (.load 26 (.load 30 (.pure 31 (.pure 32 (.pure 33 (.load 34 (.one 36 (.pure 37 .done)))))))))))))))))))))))))))))))))))))) (sel [1, 1, 1, 1, 1, 0, 0] g_newPara.body)) (.mark (leaf [(0, .s .ptr), (4, .s .loc), (6, .s .ptr), (8, .s .str), (88, .s .bool)] (g_newPara.k4 R)) (.cond 88 (.seq (.draw (.pure 0 (.pure 1 (.pure 2 (.pure 4 (.pure 5 (.pure 6 (.load 3 (.load 7 (.pure 8 (.pure 9 (.pure 10 (.load 11 (.pure 12 .done))))))))))))) (sel [1, 1, 1, 1, 1, 0, 1, 0, 0] g_newPara.body)) (.seq (.draw (.pure 0 (.pure 1 (.pure 2 (.pure 3 (.pure 5 (.pure 6 (.pure 7 (.load 4 (.load 8 (.pure 9 (.pure 10 (.pure 11 (.pure 12 (.pure 13 (.one 14 .done))))))))))))))) (sel [1, 1, 1, 1, 1, 0, 1, 0, 1, 0] g_newPara.body)) (.leaf (sel [1, 1, 1, 1, 1, 0, 1, 0, 1, 1] g_newPara.body)))) (.leaf (sel [1, 1, 1, 1, 1, 0, 1, 1] g_newPara.body))))) (.seq (.seq (.leaf (sel [1, 1, 1, 1, 1, 1, 0, 0] g_newPara.body)) (.cond 133 (.seq (.leaf (sel [1, 1, 1, 1, 1, 1, 0, 1, 0, 0] g_newPara.body)) (.block 0 (.loop (leaf [(0, .s .ptr), (4, .s .loc), (6, .s .ptr), (8, .s .str), (11, .s (.int .i64))] (g_newPara.l1 R)) (sel [1, 1, 1, 1, 1, 1, 0, 1, 0, 1, 0, 0] g_newPara.body)))) (.leaf (sel [1, 1, 1, 1, 1, 1, 0, 1, 1] g_newPara.body)))) (.mark (leaf [(4, .s .loc), (6, .s .ptr), (8, .s .str)] (g_newPara.k5 R)) (.leaf (sel [1, 1, 1, 1, 1, 1, 1] g_newPara.body)))))))))))
theorem g_newPara.good (R : EP) : Good P 175 (g_newPara.ac R) (QF P [.cell 4 80, .tmp 5] R) :=
  ⟨trivial, ⟨trivial, ⟨⟨by kernel_rfl, by kernel_rfl, fun _ _ _ h => h⟩, ⟨trivial, ⟨⟨trivial, ⟨⟨⟨⟨trivial, ⟨trivial, cutE (by intro x0 x4 x6 x7 x8 x43 ρ w; kernel_rfl)⟩⟩, trivial⟩, trivial⟩, cutE (by intro x0 x4 x6 x7 x8 x34 ρ w; kernel_rfl)⟩⟩, ⟨⟨⟨⟨by kernel_rfl, by kernel_rfl, fun _ _ _ h => h⟩, ⟨⟨⟨⟨by kernel_rfl, by kernel_rfl, fun _ _ _ h => h⟩, ⟨⟨by kernel_rfl, by kernel_rfl, fun _ _ _ h => h⟩, trivial⟩⟩, trivial⟩, cutE (by intro x0 x4 x6 x8 x88 ρ w; kernel_rfl)⟩⟩, ⟨⟨trivial, ⟨⟨trivial, (loopG (g_newPara.al1 R) (g_newPara.bl1 R) (fun _ => by kernel_rfl) (fun Xa => ⟨trivial, ⟨⟨by kernel_rfl, by kernel_rfl, fun _ _ _ h => h⟩, trivial⟩⟩) (fun Xa => by intro x0 x4 x6 x8 x11 ρ w; kernel_rfl) (fun X h _ _ _ _ _ _ g => g X h))⟩, trivial⟩⟩, ⟨trivial, cutE (by intro x4 x6 x8 ρ w; kernel_rfl)⟩⟩⟩, cutE (by intro x0 x4 x6 x7 x8 ρ w; kernel_rfl)⟩⟩⟩⟩⟩⟩
theorem g_newPara.eq (R : EP) (x0 : OA) (x1_0 : Int) (x1_1 : Int) (x1_2 : Int) (x1_3 : BA) (x1_4 : Int) (w : World) : g_newPara R x0 x1_0 x1_1 x1_2 x1_3 x1_4 w = vcA P 175 (g_newPara.ac R) (QF P [.cell 4 80, .tmp 5] R) (fr0 [.pointer x0, .agg #[.int .i64 x1_0, .int .i64 x1_1, .int .i64 x1_2, .string x1_3, .int .u8 x1_4]]) w := by kernel_rfl
theorem g_newPara.sound {R : EP} {x0 : OA} {x1_0 : Int} {x1_1 : Int} {x1_2 : Int} {x1_3 : ByteArray} {x1_4 : Int} {w : World} (h : g_newPara R x0 x1_0 x1_1 x1_2 x1_3 x1_4 w) : callE P i_newPara #[.pointer x0, .agg #[.int .i64 x1_0, .int .i64 x1_1, .int .i64 x1_2, .string x1_3, .int .u8 x1_4]] R w :=
  callE_fin (c := g_newPara.body) Tryz.func38 Tryz.call38 (by kernel_rfl) (by kernel_rfl) (by kernel_rfl) (by kernel_rfl) (by kernel_rfl) (g_newPara.good R) (g_newPara.eq R x0 x1_0 x1_1 x1_2 x1_3 x1_4 w) h
namespace g_newPre
noncomputable def body : Code := bodyOf Tryz.f68
def k2 (R : EP) (x4 : Nat) (x6 : Nat) (x7 : OA) (w : World) : Prop :=
 tk w fun w51 =>
 nilP x7 fun a52 =>
 ∃ (v53q : OA), ∃ (v53n : Nat), ∃ (v53c : Nat), w51.cell? (a52.add 1) = some (.slice v53q v53n v53c) ∧
 callE P i_line_string #[.pointer (some ⟨x6, 0, none⟩)] (fun e w55 => ∃ (r54 : BA), e = .returned (.string r54) ∧
 SameC w51 w55 (a52.add 1) 1 ∧
 ∃ (r56q : OA), ∃ (r56n : Nat), ∃ (r56c : Nat), ∃ w57, (Instr.buildSlice ty_S_string 1 #[(0, .string r54)]).run P w55 = .ok (.slice r56q r56n r56c) w57 ∧
 SameC w55 w57 (a52.add 1) 1 ∧
 ∃ (r58q : OA), ∃ (r58n : Nat), ∃ (r58c : Nat), ∃ w59, (Builtin.append_ #[ty_S_string, ty_S_string] ty_S_string #[.slice v53q v53n v53c, .slice r56q r56n r56c]).run P w57 = .ok (.slice r58q r58n r58c) w59 ∧
 nilP x7 fun a60 =>
 stV w59 ((a60.add 1).add 0) (.slice r58q r58n r58c) fun w61 =>
 stV w61 ⟨x4, 0, none⟩ (.int .i64 0) fun w62 =>
 stV w62 ⟨x4, 1, none⟩ (.int .i64 0) fun w63 =>
 stV w63 ⟨x4, 2, none⟩ (.int .i64 0) fun w64 =>
 stV w64 ⟨x4, 3, none⟩ (.string (ByteArray.mk #[])) fun w65 =>
 stV w65 ⟨x4, 4, none⟩ (.int .u8 0) fun w66 =>
 ∃ (v67 : Int), w66.cell? ⟨x4, 0, none⟩ = some (.int .i64 v67) ∧
 ∃ (v68 : Int), w66.cell? ⟨x4, 1, none⟩ = some (.int .i64 v68) ∧
 ∃ (v69 : Int), w66.cell? ⟨x4, 2, none⟩ = some (.int .i64 v69) ∧
 ∃ (v70 : BA), w66.cell? ⟨x4, 3, none⟩ = some (.string v70) ∧
 ∃ (v71 : Int), w66.cell? ⟨x4, 4, none⟩ = some (.int .u8 v71) ∧
 R (.returned (.tuple #[.agg #[.int .i64 v67, .int .i64 v68, .int .i64 v69, .string v70, .int .u8 v71], .bool true])) w66) w51

def k1 (R : EP) (x0 : OA) (x3 : Nat) (x4 : Nat) (x6 : Nat) (x18 : Bool) (w : World) : Prop :=
 br x18
 (box w #[.string (ByteArray.mk #[]), .slice none 0 0] ty_preBuilder fun b25 w26 =>
 callE P i_parseState_addBlock #[.pointer x0, .iface ty_P_preBuilder (.pointer (some ⟨b25, 0, none⟩))] (fun e w28 => e = .returned (.tuple #[]) ∧
 nilP x0 fun a29 =>
 ∃ (v30 : Bool), w28.cell? (a29.add 6) = some (.bool v30) ∧
 br v30
 (nilP x0 fun a31 =>
 stV w28 ((a31.add 6).add 0) (.bool true) fun w32 =>
 k2 R x4 x6 (some ⟨b25, 0, none⟩) w32)
 (∃ (v33 : Int), w28.cell? ⟨x6, 4, none⟩ = some (.int .u8 v33) ∧
 nilP x0 fun a34 =>
 stV w28 ((a34.add 6).add 0) (.bool (v33 != 10)) fun w35 =>
 k2 R x4 x6 (some ⟨b25, 0, none⟩) w35)) w26)
 (∃ (v36 : Int), w.cell? ⟨x3, 0, none⟩ = some (.int .i64 v36) ∧
 ∃ (v37 : Int), w.cell? ⟨x3, 1, none⟩ = some (.int .i64 v37) ∧
 ∃ (v38 : Int), w.cell? ⟨x3, 2, none⟩ = some (.int .i64 v38) ∧
 ∃ (v39 : BA), w.cell? ⟨x3, 3, none⟩ = some (.string v39) ∧
 ∃ (v40 : Int), w.cell? ⟨x3, 4, none⟩ = some (.int .u8 v40) ∧
 stV w ⟨x4, 0, none⟩ (.int .i64 v36) fun w41 =>
 stV w41 ⟨x4, 1, none⟩ (.int .i64 v37) fun w42 =>
 stV w42 ⟨x4, 2, none⟩ (.int .i64 v38) fun w43 =>
 stV w43 ⟨x4, 3, none⟩ (.string v39) fun w44 =>
 stV w44 ⟨x4, 4, none⟩ (.int .u8 v40) fun w45 =>
 ∃ (v46 : Int), w45.cell? ⟨x4, 0, none⟩ = some (.int .i64 v46) ∧
 ∃ (v47 : Int), w45.cell? ⟨x4, 1, none⟩ = some (.int .i64 v47) ∧
 ∃ (v48 : Int), w45.cell? ⟨x4, 2, none⟩ = some (.int .i64 v48) ∧
 ∃ (v49 : BA), w45.cell? ⟨x4, 3, none⟩ = some (.string v49) ∧
 ∃ (v50 : Int), w45.cell? ⟨x4, 4, none⟩ = some (.int .u8 v50) ∧
 R (.returned (.tuple #[.agg #[.int .i64 v46, .int .i64 v47, .int .i64 v48, .string v49, .int .u8 v50], .bool false])) w45)

end g_newPre
def g_newPre (R : EP) (x0 : OA) (x1_0 : Int) (x1_1 : Int) (x1_2 : Int) (x1_3 : BA) (x1_4 : Int) (w : World) : Prop :=
 box w #[.int .i64 x1_0, .int .i64 x1_1, .int .i64 x1_2, .string x1_3, .int .u8 x1_4] ty_line fun b1 w2 =>
 box w2 #[.int .i64 0, .int .i64 0, .int .i64 0, .string (ByteArray.mk #[]), .int .u8 0] ty_line fun b3 w4 =>
 ∃ (v5 : Int), w4.cell? ⟨b1, 0, none⟩ = some (.int .i64 v5) ∧
 ∃ (v6 : Int), w4.cell? ⟨b1, 1, none⟩ = some (.int .i64 v6) ∧
 ∃ (v7 : Int), w4.cell? ⟨b1, 2, none⟩ = some (.int .i64 v7) ∧
 ∃ (v8 : BA), w4.cell? ⟨b1, 3, none⟩ = some (.string v8) ∧
 ∃ (v9 : Int), w4.cell? ⟨b1, 4, none⟩ = some (.int .u8 v9) ∧
 box w4 #[.int .i64 0, .int .i64 0, .int .i64 0, .string (ByteArray.mk #[]), .int .u8 0] ty_line fun b10 w11 =>
 stV w11 ⟨b10, 0, none⟩ (.int .i64 v5) fun w12 =>
 stV w12 ⟨b10, 1, none⟩ (.int .i64 v6) fun w13 =>
 stV w13 ⟨b10, 2, none⟩ (.int .i64 v7) fun w14 =>
 stV w14 ⟨b10, 3, none⟩ (.string v8) fun w15 =>
 stV w15 ⟨b10, 4, none⟩ (.int .u8 v9) fun w16 =>
 callE P i_parseState_para #[.pointer x0] (fun e w18 => ∃ (r17 : OA), e = .returned (.pointer r17) ∧
 ∃ (r19 : Bool), ∃ w20, (do eqGuard .eql ty_P_paraBuilder (.tmp 10) (.const (.pointer none)) (.pointer r17) (.pointer none); binOp .eql ty_P_paraBuilder (.pointer r17) (.pointer none)).run P w18 = .ok (.bool r19) w20 ∧
 br r19
 (callE P i_line_trimSpace #[.pointer (some ⟨b10, 0, none⟩), .int .i64 4, .int .i64 4, .bool false] (fun e w22 => ∃ (r21 : Bool), e = .returned (.bool r21) ∧
 br r21
 (callE P i_line_isBlank #[.pointer (some ⟨b10, 0, none⟩)] (fun e w24 => ∃ (r23 : Bool), e = .returned (.bool r23) ∧
 g_newPre.k1 R x0 b1 b3 b10 (!r23) w24) w22)
 (g_newPre.k1 R x0 b1 b3 b10 false w22)) w20)
 (g_newPre.k1 R x0 b1 b3 b10 false w20)) w16

noncomputable def g_newPre.ac (R : EP) : AC :=
  (.seq (.leaf (sel [0] g_newPre.body)) (.seq (.leaf (sel [1, 0] g_newPre.body)) (.seq (.seq (.leaf (sel [1, 1, 0, 0] g_newPre.body)) (.mark (leaf [(0, .s .ptr), (3, .s .loc), (4, .s .loc), (6, .s .loc), (18, .s .bool)] (g_newPre.k1 R)) (.cond 18 (.seq (.leaf (sel [1, 1, 0, 1, 0, 0] g_newPre.body)) (.seq (.leaf (sel [1, 1, 0, 1, 0, 1, 0] g_newPre.body)) (.seq (.leaf (sel [1, 1, 0, 1, 0, 1, 1, 0] g_newPre.body)) (.mark (leaf [(4, .s .loc), (6, .s .loc), (7, .s .ptr)] (g_newPre.k2 R)) (.seq (.draw (.pure 0 (.pure 1 (.pure 2 (.pure 3 (.load 4 (.one 5 (.one 6 (.one 7 (.pure 8 (.pure 9 (.one 10 .done))))))))))) (sel [1, 1, 0, 1, 0, 1, 1, 1, 0] g_newPre.body)) (.leaf (sel [1, 1, 0, 1, 0, 1, 1, 1, 1] g_newPre.body))))))) (.leaf (sel [1, 1, 0, 1, 1] g_newPre.body))))) (.leaf (sel [1, 1, 1] g_newPre.body)))))
theorem g_newPre.good (R : EP) : Good P 49 (g_newPre.ac R) (QF P [.cell 4 80, .tmp 5] R) :=
  ⟨trivial, ⟨trivial, ⟨⟨trivial, ⟨⟨⟨trivial, ⟨trivial, ⟨trivial, ⟨⟨⟨by kernel_rfl, by kernel_rfl, fun _ _ _ h => h⟩, trivial⟩, cutE (by intro x4 x6 x7 ρ w; kernel_rfl)⟩⟩⟩⟩, trivial⟩, cutE (by intro x0 x3 x4 x6 x18 ρ w; kernel_rfl)⟩⟩, trivial⟩⟩⟩
theorem g_newPre.eq (R : EP) (x0 : OA) (x1_0 : Int) (x1_1 : Int) (x1_2 : Int) (x1_3 : BA) (x1_4 : Int) (w : World) : g_newPre R x0 x1_0 x1_1 x1_2 x1_3 x1_4 w = vcA P 49 (g_newPre.ac R) (QF P [.cell 4 80, .tmp 5] R) (fr0 [.pointer x0, .agg #[.int .i64 x1_0, .int .i64 x1_1, .int .i64 x1_2, .string x1_3, .int .u8 x1_4]]) w := by kernel_rfl
theorem g_newPre.sound {R : EP} {x0 : OA} {x1_0 : Int} {x1_1 : Int} {x1_2 : Int} {x1_3 : ByteArray} {x1_4 : Int} {w : World} (h : g_newPre R x0 x1_0 x1_1 x1_2 x1_3 x1_4 w) : callE P i_newPre #[.pointer x0, .agg #[.int .i64 x1_0, .int .i64 x1_1, .int .i64 x1_2, .string x1_3, .int .u8 x1_4]] R w :=
  callE_fin (c := g_newPre.body) Tryz.func68 Tryz.call68 (by kernel_rfl) (by kernel_rfl) (by kernel_rfl) (by kernel_rfl) (by kernel_rfl) (g_newPre.good R) (g_newPre.eq R x0 x1_0 x1_1 x1_2 x1_3 x1_4 w) h
namespace g_line_trimFence
noncomputable def body : Code := bodyOf Tryz.f119
def k1 (R : EP) (Xa : OA → OA → OA → OA → Nat → WP) (x0 : OA) (x1 : OA) (x2 : OA) (x3 : OA) (x9 : Nat) (w : World) : Prop :=
 nilP x3 fun a20 =>
 ∃ (v21 : Int), w.cell? a20 = some (.int .i64 v21) ∧
 nilP x3 fun a22 =>
 stV w (a22.add 0) (.int .i64 (IntKind.i64.wrap (v21 + 1))) fun w23 =>
 Xa x0 x1 x2 x3 x9 w23

def k4 (R : EP) (x0 : OA) (x1 : OA) (x2 : OA) (x11 : BA) (x12 : Int) (x14 : BA) (w : World) : Prop :=
 callE P i_trimSpaceTab #[.string x14] (fun e w37 => ∃ (r36 : BA), e = .returned (.string r36) ∧
 nilP x2 fun a38 =>
 stV w37 (a38.add 0) (.string r36) fun w39 =>
 0 ≤ x12 ∧ x12 ≤ (x11.size : Int) ∧
 nilP x1 fun a40 =>
 stV w39 (a40.add 0) (.string (x11.extract 0 (Int.toNat x12))) fun w41 =>
 nilP x0 fun a42 =>
 stV w41 (a42.add 0) (.int .i64 0) fun w43 =>
 stV w43 (a42.add 1) (.int .i64 0) fun w44 =>
 stV w44 (a42.add 2) (.int .i64 0) fun w45 =>
 stV w45 (a42.add 3) (.string (ByteArray.mk #[])) fun w46 =>
 stV w46 (a42.add 4) (.int .u8 0) fun w47 =>
 R (.returned (.bool true)) w47) w

def bl2 (R : EP) (Xb : OA → OA → OA → Nat → Int → BA → Int → Int → WP) (x0 : OA) (x1 : OA) (x2 : OA) (x9 : Nat) (x10 : Int) (x11 : BA) (x12 : Int) (x13 : Int) (w : World) : Prop :=
 callE P i_line_trim #[.pointer (some ⟨x9, 0, none⟩), .int .u8 x10] (fun e w29 => ∃ (r28 : Bool), e = .returned (.bool r28) ∧
 br (!r28)
 (br (decide (x13 ≥ 3))
 (callE P i_line_trimString #[.pointer (some ⟨x9, 0, none⟩)] (fun e w31 => ∃ (r30 : BA), e = .returned (.string r30) ∧
 callE P i_mdUnescaper_Replace #[.agg #[], .string r30] (fun e w33 => ∃ (r32 : BA), e = .returned (.string r32) ∧
 br (x10 == 96)
 (callE P i_zzContains #[.string r32, .string (ByteArray.mk #[96])] (fun e w35 => ∃ (r34 : Bool), e = .returned (.bool r34) ∧
 br r34
 (R (.returned (.bool false)) w35)
 (k4 R x0 x1 x2 x11 x12 r32 w35)) w33)
 (k4 R x0 x1 x2 x11 x12 r32 w33)) w31) w29)
 (R (.returned (.bool false)) w29))
 (Xb x0 x1 x2 x9 x10 x11 (IntKind.i64.wrap (x12 + 1)) (IntKind.i64.wrap (x13 + 1)) w29)) w
def l2 (R : EP) (x0 : OA) (x1 : OA) (x2 : OA) (x9 : Nat) (x10 : Int) (x11 : BA) (x12 : Int) (x13 : Int) (w : World) : Prop :=
  ∀ X : OA → OA → OA → Nat → Int → BA → Int → Int → WP, (∀ x0 x1 x2 x9 x10 x11 x12 x13 w, bl2 R X x0 x1 x2 x9 x10 x11 x12 x13 w → X x0 x1 x2 x9 x10 x11 x12 x13 w) → X x0 x1 x2 x9 x10 x11 x12 x13 w

noncomputable def al2 (R : EP) (Xb : OA → OA → OA → Nat → Int → BA → Int → Int → WP) : AC :=
  (.leaf (sel [1, 1, 1, 1, 0, 1, 1, 0, 1, 0, 1, 1, 0, 1, 0, 0] body))
def k3 (R : EP) (x0 : OA) (x1 : OA) (x2 : OA) (x9 : Nat) (x10 : Int) (x34 : Bool) (w : World) : Prop :=
 br x34
 (callE P i_line_string #[.pointer (some ⟨x9, 0, none⟩)] (fun e w27 => ∃ (r26 : BA), e = .returned (.string r26) ∧
 l2 R x0 x1 x2 x9 x10 r26 0 0 w27) w)
 (R (.returned (.bool false)) w)

def k2 (R : EP) (x0 : OA) (x1 : OA) (x2 : OA) (x9 : Nat) (w : World) : Prop :=
 callE P i_line_peek #[.pointer (some ⟨x9, 0, none⟩)] (fun e w25 => ∃ (r24 : Int), e = .returned (.int .u8 r24) ∧
 br (r24 == 96)
 (k3 R x0 x1 x2 x9 r24 true w25)
 (k3 R x0 x1 x2 x9 r24 (r24 == 126) w25)) w

def bl1 (R : EP) (Xa : OA → OA → OA → OA → Nat → WP) (x0 : OA) (x1 : OA) (x2 : OA) (x3 : OA) (x9 : Nat) (w : World) : Prop :=
 nilP x3 fun a16 =>
 ∃ (v17 : Int), w.cell? a16 = some (.int .i64 v17) ∧
 br (decide (v17 < 3))
 (callE P i_line_trimSpace #[.pointer (some ⟨x9, 0, none⟩), .int .i64 1, .int .i64 1, .bool false] (fun e w19 => ∃ (r18 : Bool), e = .returned (.bool r18) ∧
 br r18
 (k1 R Xa x0 x1 x2 x3 x9 w19)
 (k2 R x0 x1 x2 x9 w19)) w)
 (k2 R x0 x1 x2 x9 w)
def l1 (R : EP) (x0 : OA) (x1 : OA) (x2 : OA) (x3 : OA) (x9 : Nat) (w : World) : Prop :=
  ∀ X : OA → OA → OA → OA → Nat → WP, (∀ x0 x1 x2 x3 x9 w, bl1 R X x0 x1 x2 x3 x9 w → X x0 x1 x2 x3 x9 w) → X x0 x1 x2 x3 x9 w

noncomputable def al1 (R : EP) (Xa : OA → OA → OA → OA → Nat → WP) : AC :=
  (.seq (.leaf (sel [1, 1, 1, 0, 0, 0, 0] body)) (.mark (leaf [(0, .s .ptr), (1, .s .ptr), (2, .s .ptr), (3, .s .ptr), (9, .s .loc)] (k1 R Xa)) (.leaf (sel [1, 1, 1, 0, 0, 0, 1] body))))
end g_line_trimFence
def g_line_trimFence (R : EP) (x0 : OA) (x1 : OA) (x2 : OA) (x3 : OA) (w : World) : Prop :=
 nilP x0 fun a1 =>
 ∃ (v2 : Int), w.cell? (a1.add 0) = some (.int .i64 v2) ∧
 ∃ (v3 : Int), w.cell? (a1.add 1) = some (.int .i64 v3) ∧
 ∃ (v4 : Int), w.cell? (a1.add 2) = some (.int .i64 v4) ∧
 ∃ (v5 : BA), w.cell? (a1.add 3) = some (.string v5) ∧
 ∃ (v6 : Int), w.cell? (a1.add 4) = some (.int .u8 v6) ∧
 box w #[.int .i64 0, .int .i64 0, .int .i64 0, .string (ByteArray.mk #[]), .int .u8 0] ty_line fun b7 w8 =>
 stV w8 ⟨b7, 0, none⟩ (.int .i64 v2) fun w9 =>
 stV w9 ⟨b7, 1, none⟩ (.int .i64 v3) fun w10 =>
 stV w10 ⟨b7, 2, none⟩ (.int .i64 v4) fun w11 =>
 stV w11 ⟨b7, 3, none⟩ (.string v5) fun w12 =>
 stV w12 ⟨b7, 4, none⟩ (.int .u8 v6) fun w13 =>
 nilP x3 fun a14 =>
 stV w13 (a14.add 0) (.int .i64 0) fun w15 =>
 g_line_trimFence.l1 R x0 x1 x2 x3 b7 w15

noncomputable def g_line_trimFence.ac (R : EP) : AC :=
  (.seq (.leaf (sel [0] g_line_trimFence.body)) (.seq (.leaf (sel [1, 0] g_line_trimFence.body)) (.seq (.leaf (sel [1, 1, 0] g_line_trimFence.body)) (.seq (.block 0 (.loop (leaf [(0, .s .ptr), (1, .s .ptr), (2, .s .ptr), (3, .s .ptr), (9, .s .loc)] (g_line_trimFence.l1 R)) (sel [1, 1, 1, 0, 0, 0] g_line_trimFence.body))) (.mark (leaf [(0, .s .ptr), (1, .s .ptr), (2, .s .ptr), (9, .s .loc)] (g_line_trimFence.k2 R)) (.seq (.seq (.leaf (sel [1, 1, 1, 1, 0, 0] g_line_trimFence.body)) (.seq (.leaf (sel [1, 1, 1, 1, 0, 1, 0] g_line_trimFence.body)) (.block 2 (.seq (.leaf (sel [1, 1, 1, 1, 0, 1, 1, 0, 0] g_line_trimFence.body)) (.mark (leaf [(0, .s .ptr), (1, .s .ptr), (2, .s .ptr), (9, .s .loc), (10, .s (.int .u8)), (34, .s .bool)] (g_line_trimFence.k3 R)) (.cond 34 (.seq (.leaf (sel [1, 1, 1, 1, 0, 1, 1, 0, 1, 0, 0] g_line_trimFence.body)) (.seq (.leaf (sel [1, 1, 1, 1, 0, 1, 1, 0, 1, 0, 1, 0] g_line_trimFence.body)) (.seq (.seq (.leaf (sel [1, 1, 1, 1, 0, 1, 1, 0, 1, 0, 1, 1, 0, 0] g_line_trimFence.body)) (.block 3 (.loop (leaf [(0, .s .ptr), (1, .s .ptr), (2, .s .ptr), (9, .s .loc), (10, .s (.int .u8)), (11, .s .str), (12, .s (.int .i64)), (13, .s (.int .i64))] (g_line_trimFence.l2 R)) (sel [1, 1, 1, 1, 0, 1, 1, 0, 1, 0, 1, 1, 0, 1, 0, 0] g_line_trimFence.body)))) (.seq (.leaf (sel [1, 1, 1, 1, 0, 1, 1, 0, 1, 0, 1, 1, 1, 0] g_line_trimFence.body)) (.seq (.leaf (sel [1, 1, 1, 1, 0, 1, 1, 0, 1, 0, 1, 1, 1, 1, 0] g_line_trimFence.body)) (.mark (leaf [(0, .s .ptr), (1, .s .ptr), (2, .s .ptr), (11, .s .str), (12, .s (.int .i64)), (14, .s .str)] (g_line_trimFence.k4 R)) (.leaf (sel [1, 1, 1, 1, 0, 1, 1, 0, 1, 0, 1, 1, 1, 1, 1] g_line_trimFence.body)))))))) (.leaf (sel [1, 1, 1, 1, 0, 1, 1, 0, 1, 1] g_line_trimFence.body)))))))) (.leaf (sel [1, 1, 1, 1, 1] g_line_trimFence.body))))))))
theorem g_line_trimFence.good (R : EP) : Good P 69 (g_line_trimFence.ac R) (QF P [.tmp 8] R) :=
  ⟨trivial, ⟨trivial, ⟨trivial, ⟨(loopG (g_line_trimFence.al1 R) (g_line_trimFence.bl1 R) (fun _ => by kernel_rfl) (fun Xa => ⟨trivial, ⟨trivial, cutE (by intro x0 x1 x2 x3 x9 ρ w; kernel_rfl)⟩⟩) (fun Xa => by intro x0 x1 x2 x3 x9 ρ w; kernel_rfl) (fun X h _ _ _ _ _ _ g => g X h)), ⟨⟨⟨trivial, ⟨trivial, ⟨trivial, ⟨⟨⟨trivial, ⟨trivial, ⟨⟨trivial, (loopG (g_line_trimFence.al2 R) (g_line_trimFence.bl2 R) (fun _ => by kernel_rfl) (fun Xb => trivial) (fun Xb => by intro x0 x1 x2 x9 x10 x11 x12 x13 ρ w; kernel_rfl) (fun X h _ _ _ _ _ _ _ _ _ g => g X h))⟩, ⟨trivial, ⟨trivial, ⟨trivial, cutE (by intro x0 x1 x2 x11 x12 x14 ρ w; kernel_rfl)⟩⟩⟩⟩⟩⟩, trivial⟩, cutE (by intro x0 x1 x2 x9 x10 x34 ρ w; kernel_rfl)⟩⟩⟩⟩, trivial⟩, cutE (by intro x0 x1 x2 x9 ρ w; kernel_rfl)⟩⟩⟩⟩⟩
theorem g_line_trimFence.eq (R : EP) (x0 : OA) (x1 : OA) (x2 : OA) (x3 : OA) (w : World) : g_line_trimFence R x0 x1 x2 x3 w = vcA P 69 (g_line_trimFence.ac R) (QF P [.tmp 8] R) (fr0 [.pointer x0, .pointer x1, .pointer x2, .pointer x3]) w := by kernel_rfl
theorem g_line_trimFence.sound {R : EP} {x0 : OA} {x1 : OA} {x2 : OA} {x3 : OA} {w : World} (h : g_line_trimFence R x0 x1 x2 x3 w) : callE P i_line_trimFence #[.pointer x0, .pointer x1, .pointer x2, .pointer x3] R w :=
  callE_fin (c := g_line_trimFence.body) Tryz.func119 Tryz.call119 (by kernel_rfl) (by kernel_rfl) (by kernel_rfl) (by kernel_rfl) (by kernel_rfl) (g_line_trimFence.good R) (g_line_trimFence.eq R x0 x1 x2 x3 w) h
namespace g_newFence
noncomputable def body : Code := bodyOf Tryz.f67
def k4 (R : EP) (x0 : OA) (x4 : Nat) (x6 : Nat) (x7 : Nat) (x8 : Nat) (w : World) : Prop :=
 ∃ (v60 : BA), w.cell? ⟨x6, 0, none⟩ = some (.string v60) ∧
 ∃ (v61 : BA), w.cell? ⟨x7, 0, none⟩ = some (.string v61) ∧
 ∃ (v62 : Int), w.cell? ⟨x8, 0, none⟩ = some (.int .i64 v62) ∧
 box w #[.string v60, .string v61, .int .i64 v62, .slice none 0 0] ty_fenceBuilder fun b63 w64 =>
 callE P i_parseState_addBlock #[.pointer x0, .iface ty_P_fenceBuilder (.pointer (some ⟨b63, 0, none⟩))] (fun e w66 => e = .returned (.tuple #[]) ∧
 stV w66 ⟨x4, 0, none⟩ (.int .i64 0) fun w67 =>
 stV w67 ⟨x4, 1, none⟩ (.int .i64 0) fun w68 =>
 stV w68 ⟨x4, 2, none⟩ (.int .i64 0) fun w69 =>
 stV w69 ⟨x4, 3, none⟩ (.string (ByteArray.mk #[])) fun w70 =>
 stV w70 ⟨x4, 4, none⟩ (.int .u8 0) fun w71 =>
 ∃ (v72 : Int), w71.cell? ⟨x4, 0, none⟩ = some (.int .i64 v72) ∧
 ∃ (v73 : Int), w71.cell? ⟨x4, 1, none⟩ = some (.int .i64 v73) ∧
 ∃ (v74 : Int), w71.cell? ⟨x4, 2, none⟩ = some (.int .i64 v74) ∧
 ∃ (v75 : BA), w71.cell? ⟨x4, 3, none⟩ = some (.string v75) ∧
 ∃ (v76 : Int), w71.cell? ⟨x4, 4, none⟩ = some (.int .u8 v76) ∧
 R (.returned (.tuple #[.agg #[.int .i64 v72, .int .i64 v73, .int .i64 v74, .string v75, .int .u8 v76], .bool true])) w71) w64

def bl1 (R : EP) (Xa : OA → Nat → Nat → Nat → Nat → Value → WP) (x0 : OA) (x4 : Nat) (x6 : Nat) (x7 : Nat) (x8 : Nat) (x36 : Value) (w : World) : Prop :=
 (∃ w53, (Instr.next x36 true ty_).run P w = .ok (.tuple #[.bool false]) w53 ∧
 k4 R x0 x4 x6 x7 x8 w53) ∨
 (∃ (r54_0 : Int), ∃ (r54_1 : Int), ∃ w55, (Instr.next x36 true ty_).run P w = .ok (.tuple #[.bool true, .int .i64 r54_0, .int .i32 r54_1]) w55 ∧
 callE P i_isUnicodeSpace #[.int .i32 r54_1] (fun e w57 => ∃ (r56 : Bool), e = .returned (.bool r56) ∧
 br r56
 (br (r54_1 != 32)
 (nilP x0 fun a58 =>
 stV w57 ((a58.add 6).add 0) (.bool true) fun w59 =>
 k4 R x0 x4 x6 x7 x8 w59)
 (k4 R x0 x4 x6 x7 x8 w57))
 (Xa x0 x4 x6 x7 x8 x36 w57)) w55)
def l1 (R : EP) (x0 : OA) (x4 : Nat) (x6 : Nat) (x7 : Nat) (x8 : Nat) (x36 : Value) (w : World) : Prop :=
  ∀ X : OA → Nat → Nat → Nat → Nat → Value → WP, (∀ x0 x4 x6 x7 x8 x36 w, bl1 R X x0 x4 x6 x7 x8 x36 w → X x0 x4 x6 x7 x8 x36 w) → X x0 x4 x6 x7 x8 x36 w

noncomputable def al1 (R : EP) (Xa : OA → Nat → Nat → Nat → Nat → Value → WP) : AC :=
  (.leaf (sel [1, 1, 1, 1, 0, 1, 0, 1, 0, 1, 0, 0] body))
def k2 (R : EP) (x0 : OA) (x4 : Nat) (x6 : Nat) (x7 : Nat) (x8 : Nat) (w : World) : Prop :=
 ∃ (v48 : BA), w.cell? ⟨x7, 0, none⟩ = some (.string v48) ∧
 ∃ (r49 : Value), ∃ w50, (Instr.range ty_string (.string v48)).run P w = .ok r49 w50 ∧
 l1 R x0 x4 x6 x7 x8 r49 w50

def k3 (R : EP) (x0 : OA) (x4 : Nat) (x6 : Nat) (x7 : Nat) (x8 : Nat) (x31 : Bool) (w : World) : Prop :=
 br x31
 (nilP x0 fun a51 =>
 stV w ((a51.add 6).add 0) (.bool true) fun w52 =>
 k2 R x0 x4 x6 x7 x8 w52)
 (k2 R x0 x4 x6 x7 x8 w)

def k1 (R : EP) (x0 : OA) (x4 : Nat) (x6 : Nat) (x7 : Nat) (x8 : Nat) (x20 : Bool) (w : World) : Prop :=
 br x20
 (nilP x0 fun a42 =>
 stV w ((a42.add 6).add 0) (.bool true) fun w43 =>
 k2 R x0 x4 x6 x7 x8 w43)
 (∃ (v44 : BA), w.cell? ⟨x7, 0, none⟩ = some (.string v44) ∧
 br (!(v44.toList == (ByteArray.mk #[]).toList))
 (∃ (v45 : BA), w.cell? ⟨x7, 0, none⟩ = some (.string v45) ∧
 (true = true → 0 ≤ (0 : Int) ∧ 0 < (v45.size : Int)) ∧
 callE P i_isLetter #[.int .u8 (bt v45 0)] (fun e w47 => ∃ (r46 : Bool), e = .returned (.bool r46) ∧
 k3 R x0 x4 x6 x7 x8 (!r46) w47) w)
 (k3 R x0 x4 x6 x7 x8 false w))

end g_newFence
def g_newFence (R : EP) (x0 : OA) (x1_0 : Int) (x1_1 : Int) (x1_2 : Int) (x1_3 : BA) (x1_4 : Int) (w : World) : Prop :=
 box w #[.int .i64 x1_0, .int .i64 x1_1, .int .i64 x1_2, .string x1_3, .int .u8 x1_4] ty_line fun b1 w2 =>
 box w2 #[.int .i64 0, .int .i64 0, .int .i64 0, .string (ByteArray.mk #[]), .int .u8 0] ty_line fun b3 w4 =>
 box w4 #[.string (ByteArray.mk #[])] ty_string fun b5 w6 =>
 box w6 #[.string (ByteArray.mk #[])] ty_string fun b7 w8 =>
 box w8 #[.int .i64 0] ty_int fun b9 w10 =>
 ∃ (v11 : Int), w10.cell? ⟨b1, 0, none⟩ = some (.int .i64 v11) ∧
 ∃ (v12 : Int), w10.cell? ⟨b1, 1, none⟩ = some (.int .i64 v12) ∧
 ∃ (v13 : Int), w10.cell? ⟨b1, 2, none⟩ = some (.int .i64 v13) ∧
 ∃ (v14 : BA), w10.cell? ⟨b1, 3, none⟩ = some (.string v14) ∧
 ∃ (v15 : Int), w10.cell? ⟨b1, 4, none⟩ = some (.int .u8 v15) ∧
 box w10 #[.int .i64 0, .int .i64 0, .int .i64 0, .string (ByteArray.mk #[]), .int .u8 0] ty_line fun b16 w17 =>
 stV w17 ⟨b16, 0, none⟩ (.int .i64 v11) fun w18 =>
 stV w18 ⟨b16, 1, none⟩ (.int .i64 v12) fun w19 =>
 stV w19 ⟨b16, 2, none⟩ (.int .i64 v13) fun w20 =>
 stV w20 ⟨b16, 3, none⟩ (.string v14) fun w21 =>
 stV w21 ⟨b16, 4, none⟩ (.int .u8 v15) fun w22 =>
 callE P i_line_trimFence #[.pointer (some ⟨b16, 0, none⟩), .pointer (some ⟨b5, 0, none⟩), .pointer (some ⟨b7, 0, none⟩), .pointer (some ⟨b9, 0, none⟩)] (fun e w24 => ∃ (r23 : Bool), e = .returned (.bool r23) ∧
 br r23
 (∃ (v25 : BA), w24.cell? ⟨b5, 0, none⟩ = some (.string v25) ∧
 0 ≤ (0 : Int) ∧ 0 < (v25.size : Int) ∧
 br ((bt v25 0) == 126)
 (∃ (v26 : BA), w24.cell? ⟨b7, 0, none⟩ = some (.string v26) ∧
 g_newFence.k1 R x0 b3 b5 b7 b9 (!(v26.toList == (ByteArray.mk #[]).toList)) w24)
 (g_newFence.k1 R x0 b3 b5 b7 b9 false w24))
 (∃ (v27 : Int), w24.cell? ⟨b1, 0, none⟩ = some (.int .i64 v27) ∧
 ∃ (v28 : Int), w24.cell? ⟨b1, 1, none⟩ = some (.int .i64 v28) ∧
 ∃ (v29 : Int), w24.cell? ⟨b1, 2, none⟩ = some (.int .i64 v29) ∧
 ∃ (v30 : BA), w24.cell? ⟨b1, 3, none⟩ = some (.string v30) ∧
 ∃ (v31 : Int), w24.cell? ⟨b1, 4, none⟩ = some (.int .u8 v31) ∧
 stV w24 ⟨b3, 0, none⟩ (.int .i64 v27) fun w32 =>
 stV w32 ⟨b3, 1, none⟩ (.int .i64 v28) fun w33 =>
 stV w33 ⟨b3, 2, none⟩ (.int .i64 v29) fun w34 =>
 stV w34 ⟨b3, 3, none⟩ (.string v30) fun w35 =>
 stV w35 ⟨b3, 4, none⟩ (.int .u8 v31) fun w36 =>
 ∃ (v37 : Int), w36.cell? ⟨b3, 0, none⟩ = some (.int .i64 v37) ∧
 ∃ (v38 : Int), w36.cell? ⟨b3, 1, none⟩ = some (.int .i64 v38) ∧
 ∃ (v39 : Int), w36.cell? ⟨b3, 2, none⟩ = some (.int .i64 v39) ∧
 ∃ (v40 : BA), w36.cell? ⟨b3, 3, none⟩ = some (.string v40) ∧
 ∃ (v41 : Int), w36.cell? ⟨b3, 4, none⟩ = some (.int .u8 v41) ∧
 R (.returned (.tuple #[.agg #[.int .i64 v37, .int .i64 v38, .int .i64 v39, .string v40, .int .u8 v41], .bool false])) w36)) w22

noncomputable def g_newFence.ac (R : EP) : AC :=
  (.seq (.leaf (sel [0] g_newFence.body)) (.seq (.leaf (sel [1, 0] g_newFence.body)) (.seq (.leaf (sel [1, 1, 0] g_newFence.body)) (.seq (.leaf (sel [1, 1, 1, 0] g_newFence.body)) (.seq (.seq (.leaf (sel [1, 1, 1, 1, 0, 0] g_newFence.body)) (.cond 13 (.seq (.seq (.leaf (sel [1, 1, 1, 1, 0, 1, 0, 0, 0] g_newFence.body)) (.mark (leaf [(0, .s .ptr), (4, .s .loc), (6, .s .loc), (7, .s .loc), (8, .s .loc), (20, .s .bool)] (g_newFence.k1 R)) (.cond 20 (.leaf (sel [1, 1, 1, 1, 0, 1, 0, 0, 1, 0] g_newFence.body)) (.seq (.leaf (sel [1, 1, 1, 1, 0, 1, 0, 0, 1, 1, 0] g_newFence.body)) (.mark (leaf [(0, .s .ptr), (4, .s .loc), (6, .s .loc), (7, .s .loc), (8, .s .loc), (31, .s .bool)] (g_newFence.k3 R)) (.leaf (sel [1, 1, 1, 1, 0, 1, 0, 0, 1, 1, 1] g_newFence.body))))))) (.mark (leaf [(0, .s .ptr), (4, .s .loc), (6, .s .loc), (7, .s .loc), (8, .s .loc)] (g_newFence.k2 R)) (.seq (.seq (.leaf (sel [1, 1, 1, 1, 0, 1, 0, 1, 0, 0] g_newFence.body)) (.block 0 (.loop (leaf [(0, .s .ptr), (4, .s .loc), (6, .s .loc), (7, .s .loc), (8, .s .loc), (36, .s .any)] (g_newFence.l1 R)) (sel [1, 1, 1, 1, 0, 1, 0, 1, 0, 1, 0, 0] g_newFence.body)))) (.mark (leaf [(0, .s .ptr), (4, .s .loc), (6, .s .loc), (7, .s .loc), (8, .s .loc)] (g_newFence.k4 R)) (.leaf (sel [1, 1, 1, 1, 0, 1, 0, 1, 1] g_newFence.body)))))) (.leaf (sel [1, 1, 1, 1, 0, 1, 1] g_newFence.body)))) (.leaf (sel [1, 1, 1, 1, 1] g_newFence.body)))))))
theorem g_newFence.good (R : EP) : Good P 57 (g_newFence.ac R) (QF P [.cell 4 80, .tmp 5] R) :=
  ⟨trivial, ⟨trivial, ⟨trivial, ⟨trivial, ⟨⟨trivial, ⟨⟨⟨trivial, ⟨⟨trivial, ⟨trivial, ⟨trivial, cutE (by intro x0 x4 x6 x7 x8 x31 ρ w; kernel_rfl)⟩⟩⟩, cutE (by intro x0 x4 x6 x7 x8 x20 ρ w; kernel_rfl)⟩⟩, ⟨⟨⟨trivial, (loopG (g_newFence.al1 R) (g_newFence.bl1 R) (fun _ => by kernel_rfl) (fun Xa => trivial) (fun Xa => by intro x0 x4 x6 x7 x8 x36 ρ w; kernel_rfl) (fun X h _ _ _ _ _ _ _ g => g X h))⟩, ⟨trivial, cutE (by intro x0 x4 x6 x7 x8 ρ w; kernel_rfl)⟩⟩, cutE (by intro x0 x4 x6 x7 x8 ρ w; kernel_rfl)⟩⟩, trivial⟩⟩, trivial⟩⟩⟩⟩⟩
theorem g_newFence.eq (R : EP) (x0 : OA) (x1_0 : Int) (x1_1 : Int) (x1_2 : Int) (x1_3 : BA) (x1_4 : Int) (w : World) : g_newFence R x0 x1_0 x1_1 x1_2 x1_3 x1_4 w = vcA P 57 (g_newFence.ac R) (QF P [.cell 4 80, .tmp 5] R) (fr0 [.pointer x0, .agg #[.int .i64 x1_0, .int .i64 x1_1, .int .i64 x1_2, .string x1_3, .int .u8 x1_4]]) w := by kernel_rfl
theorem g_newFence.sound {R : EP} {x0 : OA} {x1_0 : Int} {x1_1 : Int} {x1_2 : Int} {x1_3 : ByteArray} {x1_4 : Int} {w : World} (h : g_newFence R x0 x1_0 x1_1 x1_2 x1_3 x1_4 w) : callE P i_newFence #[.pointer x0, .agg #[.int .i64 x1_0, .int .i64 x1_1, .int .i64 x1_2, .string x1_3, .int .u8 x1_4]] R w :=
  callE_fin (c := g_newFence.body) Tryz.func67 Tryz.call67 (by kernel_rfl) (by kernel_rfl) (by kernel_rfl) (by kernel_rfl) (by kernel_rfl) (g_newFence.good R) (g_newFence.eq R x0 x1_0 x1_1 x1_2 x1_3 x1_4 w) h
namespace g_newSetextHeading
noncomputable def body : Code := bodyOf Tryz.f63
def k1 (R : EP) (x0 : OA) (x3 : Nat) (x4 : Nat) (x6 : Nat) (x19 : Bool) (w : World) : Prop :=
 br x19
 (callE P i_parseState_closeBlock #[.pointer x0] (fun e w28 => ∃ (r27 : Value), e = .returned r27 ∧
 callE P i_parseState_last #[.pointer x0] (fun e w30 => ∃ (r29 : Value), e = .returned r29 ∧
 ∃ (r31_0 : OA), ∃ (r31_1 : Bool), ∃ w32, (Instr.typeAssert r29 ty_Block ty_P_Paragraph true).run P w30 = .ok (.tuple #[.pointer r31_0, .bool r31_1]) w32 ∧
 br (!r31_1)
 (∃ (v33 : Int), w32.cell? ⟨x3, 0, none⟩ = some (.int .i64 v33) ∧
 ∃ (v34 : Int), w32.cell? ⟨x3, 1, none⟩ = some (.int .i64 v34) ∧
 ∃ (v35 : Int), w32.cell? ⟨x3, 2, none⟩ = some (.int .i64 v35) ∧
 ∃ (v36 : BA), w32.cell? ⟨x3, 3, none⟩ = some (.string v36) ∧
 ∃ (v37 : Int), w32.cell? ⟨x3, 4, none⟩ = some (.int .u8 v37) ∧
 stV w32 ⟨x4, 0, none⟩ (.int .i64 v33) fun w38 =>
 stV w38 ⟨x4, 1, none⟩ (.int .i64 v34) fun w39 =>
 stV w39 ⟨x4, 2, none⟩ (.int .i64 v35) fun w40 =>
 stV w40 ⟨x4, 3, none⟩ (.string v36) fun w41 =>
 stV w41 ⟨x4, 4, none⟩ (.int .u8 v37) fun w42 =>
 ∃ (v43 : Int), w42.cell? ⟨x4, 0, none⟩ = some (.int .i64 v43) ∧
 ∃ (v44 : Int), w42.cell? ⟨x4, 1, none⟩ = some (.int .i64 v44) ∧
 ∃ (v45 : Int), w42.cell? ⟨x4, 2, none⟩ = some (.int .i64 v45) ∧
 ∃ (v46 : BA), w42.cell? ⟨x4, 3, none⟩ = some (.string v46) ∧
 ∃ (v47 : Int), w42.cell? ⟨x4, 4, none⟩ = some (.int .u8 v47) ∧
 R (.returned (.tuple #[.agg #[.int .i64 v43, .int .i64 v44, .int .i64 v45, .string v46, .int .u8 v47], .bool false])) w42)
 (callE P i_parseState_deleteLast #[.pointer x0] (fun e w49 => e = .returned (.tuple #[]) ∧
 tk w49 fun w50 =>
 nilP r31_0 fun a51 =>
 nilP x0 fun a52 =>
 nilP r31_0 fun a53 =>
 ∃ (v54 : Int), w50.cell? a51 = some (.int .i64 v54) ∧
 ∃ (v55 : Int), w50.cell? (a52.add 3) = some (.int .i64 v55) ∧
 ∃ (v56 : Int), w50.cell? ⟨x6, 0, none⟩ = some (.int .i64 v56) ∧
 ∃ (v57 : OA), w50.cell? (a53.add 2) = some (.pointer v57) ∧
 box w50 #[.int .i64 v54, .int .i64 v55, .int .i64 v56, .pointer v57, .string (ByteArray.mk #[])] ty_Heading fun b58 w59 =>
 callE P i_parseState_doneBlock #[.pointer x0, .iface ty_P_Heading (.pointer (some ⟨b58, 0, none⟩))] (fun e w61 => e = .returned (.tuple #[]) ∧
 stV w61 ⟨x4, 0, none⟩ (.int .i64 0) fun w62 =>
 stV w62 ⟨x4, 1, none⟩ (.int .i64 0) fun w63 =>
 stV w63 ⟨x4, 2, none⟩ (.int .i64 0) fun w64 =>
 stV w64 ⟨x4, 3, none⟩ (.string (ByteArray.mk #[])) fun w65 =>
 stV w65 ⟨x4, 4, none⟩ (.int .u8 0) fun w66 =>
 ∃ (v67 : Int), w66.cell? ⟨x4, 0, none⟩ = some (.int .i64 v67) ∧
 ∃ (v68 : Int), w66.cell? ⟨x4, 1, none⟩ = some (.int .i64 v68) ∧
 ∃ (v69 : Int), w66.cell? ⟨x4, 2, none⟩ = some (.int .i64 v69) ∧
 ∃ (v70 : BA), w66.cell? ⟨x4, 3, none⟩ = some (.string v70) ∧
 ∃ (v71 : Int), w66.cell? ⟨x4, 4, none⟩ = some (.int .u8 v71) ∧
 R (.returned (.tuple #[.agg #[.int .i64 v67, .int .i64 v68, .int .i64 v69, .string v70, .int .u8 v71], .bool true])) w66) w59) w32)) w28) w)
 (∃ (v72 : Int), w.cell? ⟨x3, 0, none⟩ = some (.int .i64 v72) ∧
 ∃ (v73 : Int), w.cell? ⟨x3, 1, none⟩ = some (.int .i64 v73) ∧
 ∃ (v74 : Int), w.cell? ⟨x3, 2, none⟩ = some (.int .i64 v74) ∧
 ∃ (v75 : BA), w.cell? ⟨x3, 3, none⟩ = some (.string v75) ∧
 ∃ (v76 : Int), w.cell? ⟨x3, 4, none⟩ = some (.int .u8 v76) ∧
 stV w ⟨x4, 0, none⟩ (.int .i64 v72) fun w77 =>
 stV w77 ⟨x4, 1, none⟩ (.int .i64 v73) fun w78 =>
 stV w78 ⟨x4, 2, none⟩ (.int .i64 v74) fun w79 =>
 stV w79 ⟨x4, 3, none⟩ (.string v75) fun w80 =>
 stV w80 ⟨x4, 4, none⟩ (.int .u8 v76) fun w81 =>
 ∃ (v82 : Int), w81.cell? ⟨x4, 0, none⟩ = some (.int .i64 v82) ∧
 ∃ (v83 : Int), w81.cell? ⟨x4, 1, none⟩ = some (.int .i64 v83) ∧
 ∃ (v84 : Int), w81.cell? ⟨x4, 2, none⟩ = some (.int .i64 v84) ∧
 ∃ (v85 : BA), w81.cell? ⟨x4, 3, none⟩ = some (.string v85) ∧
 ∃ (v86 : Int), w81.cell? ⟨x4, 4, none⟩ = some (.int .u8 v86) ∧
 R (.returned (.tuple #[.agg #[.int .i64 v82, .int .i64 v83, .int .i64 v84, .string v85, .int .u8 v86], .bool false])) w81)

end g_newSetextHeading
def g_newSetextHeading (R : EP) (x0 : OA) (x1_0 : Int) (x1_1 : Int) (x1_2 : Int) (x1_3 : BA) (x1_4 : Int) (w : World) : Prop :=
 box w #[.int .i64 x1_0, .int .i64 x1_1, .int .i64 x1_2, .string x1_3, .int .u8 x1_4] ty_line fun b1 w2 =>
 box w2 #[.int .i64 0, .int .i64 0, .int .i64 0, .string (ByteArray.mk #[]), .int .u8 0] ty_line fun b3 w4 =>
 box w4 #[.int .i64 0] ty_int fun b5 w6 =>
 ∃ (v7 : Int), w6.cell? ⟨b1, 0, none⟩ = some (.int .i64 v7) ∧
 ∃ (v8 : Int), w6.cell? ⟨b1, 1, none⟩ = some (.int .i64 v8) ∧
 ∃ (v9 : Int), w6.cell? ⟨b1, 2, none⟩ = some (.int .i64 v9) ∧
 ∃ (v10 : BA), w6.cell? ⟨b1, 3, none⟩ = some (.string v10) ∧
 ∃ (v11 : Int), w6.cell? ⟨b1, 4, none⟩ = some (.int .u8 v11) ∧
 box w6 #[.int .i64 0, .int .i64 0, .int .i64 0, .string (ByteArray.mk #[]), .int .u8 0] ty_line fun b12 w13 =>
 stV w13 ⟨b12, 0, none⟩ (.int .i64 v7) fun w14 =>
 stV w14 ⟨b12, 1, none⟩ (.int .i64 v8) fun w15 =>
 stV w15 ⟨b12, 2, none⟩ (.int .i64 v9) fun w16 =>
 stV w16 ⟨b12, 3, none⟩ (.string v10) fun w17 =>
 stV w17 ⟨b12, 4, none⟩ (.int .u8 v11) fun w18 =>
 callE P i_parseState_nextB #[.pointer x0] (fun e w20 => ∃ (r19 : Value), e = .returned r19 ∧
 callE P i_parseState_para #[.pointer x0] (fun e w22 => ∃ (r21 : OA), e = .returned (.pointer r21) ∧
 ∃ (r23 : Bool), ∃ w24, (do eqGuard .eql ty_blockBuilder (.tmp 12) (.tmp 15) r19 (.iface ty_P_paraBuilder (.pointer r21)); binOp .eql ty_blockBuilder r19 (.iface ty_P_paraBuilder (.pointer r21))).run P w22 = .ok (.bool r23) w24 ∧
 br r23
 (callE P i_line_trimSetext #[.pointer (some ⟨b12, 0, none⟩), .pointer (some ⟨b5, 0, none⟩)] (fun e w26 => ∃ (r25 : Bool), e = .returned (.bool r25) ∧
 g_newSetextHeading.k1 R x0 b1 b3 b5 r25 w26) w24)
 (g_newSetextHeading.k1 R x0 b1 b3 b5 false w24)) w20) w18

noncomputable def g_newSetextHeading.ac (R : EP) : AC :=
  (.seq (.leaf (sel [0] g_newSetextHeading.body)) (.seq (.leaf (sel [1, 0] g_newSetextHeading.body)) (.seq (.leaf (sel [1, 1, 0] g_newSetextHeading.body)) (.seq (.seq (.leaf (sel [1, 1, 1, 0, 0] g_newSetextHeading.body)) (.mark (leaf [(0, .s .ptr), (3, .s .loc), (4, .s .loc), (6, .s .loc), (19, .s .bool)] (g_newSetextHeading.k1 R)) (.cond 19 (.seq (.leaf (sel [1, 1, 1, 0, 1, 0, 0] g_newSetextHeading.body)) (.seq (.leaf (sel [1, 1, 1, 0, 1, 0, 1, 0] g_newSetextHeading.body)) (.seq (.leaf (sel [1, 1, 1, 0, 1, 0, 1, 1, 0] g_newSetextHeading.body)) (.seq (.leaf (sel [1, 1, 1, 0, 1, 0, 1, 1, 1, 0] g_newSetextHeading.body)) (.seq (.draw (.pure 0 (.pure 1 (.pure 2 (.pure 3 (.pure 4 (.pure 6 (.pure 7 (.pure 8 (.pure 12 (.pure 13 (.pure 14 (.load 5 (.load 9 (.pure 10 (.load 11 (.load 15 (.pure 16 (.one 17 (.pure 18 (.one 19 .done)))))))))))))))))))) (sel [1, 1, 1, 0, 1, 0, 1, 1, 1, 1, 0] g_newSetextHeading.body)) (.leaf (sel [1, 1, 1, 0, 1, 0, 1, 1, 1, 1, 1] g_newSetextHeading.body))))))) (.leaf (sel [1, 1, 1, 0, 1, 1] g_newSetextHeading.body))))) (.leaf (sel [1, 1, 1, 1] g_newSetextHeading.body))))))
theorem g_newSetextHeading.good (R : EP) : Good P 55 (g_newSetextHeading.ac R) (QF P [.cell 4 80, .tmp 5] R) :=
  ⟨trivial, ⟨trivial, ⟨trivial, ⟨⟨trivial, ⟨⟨⟨trivial, ⟨trivial, ⟨trivial, ⟨trivial, ⟨⟨by kernel_rfl, by kernel_rfl, fun _ _ _ h => h⟩, trivial⟩⟩⟩⟩⟩, trivial⟩, cutE (by intro x0 x3 x4 x6 x19 ρ w; kernel_rfl)⟩⟩, trivial⟩⟩⟩⟩
theorem g_newSetextHeading.eq (R : EP) (x0 : OA) (x1_0 : Int) (x1_1 : Int) (x1_2 : Int) (x1_3 : BA) (x1_4 : Int) (w : World) : g_newSetextHeading R x0 x1_0 x1_1 x1_2 x1_3 x1_4 w = vcA P 55 (g_newSetextHeading.ac R) (QF P [.cell 4 80, .tmp 5] R) (fr0 [.pointer x0, .agg #[.int .i64 x1_0, .int .i64 x1_1, .int .i64 x1_2, .string x1_3, .int .u8 x1_4]]) w := by kernel_rfl
theorem g_newSetextHeading.sound {R : EP} {x0 : OA} {x1_0 : Int} {x1_1 : Int} {x1_2 : Int} {x1_3 : ByteArray} {x1_4 : Int} {w : World} (h : g_newSetextHeading R x0 x1_0 x1_1 x1_2 x1_3 x1_4 w) : callE P i_newSetextHeading #[.pointer x0, .agg #[.int .i64 x1_0, .int .i64 x1_1, .int .i64 x1_2, .string x1_3, .int .u8 x1_4]] R w :=
  callE_fin (c := g_newSetextHeading.body) Tryz.func63 Tryz.call63 (by kernel_rfl) (by kernel_rfl) (by kernel_rfl) (by kernel_rfl) (by kernel_rfl) (g_newSetextHeading.good R) (g_newSetextHeading.eq R x0 x1_0 x1_1 x1_2 x1_3 x1_4 w) h
namespace g_newListItem
noncomputable def body : Code := bodyOf Tryz.f65
def k1 (R : EP) (x0 : OA) (x3 : Nat) (x4 : Nat) (x6 : OA) (x21 : Bool) (w : World) : Prop :=
 br x21
 (nilP x6 fun a13 =>
 ∃ (v14 : Value), w.cell? (a13.add 4) = some v14 ∧
 enterE P (do let d ← Deferred.ofValue v14 #[]; invoke d.target d.args) (fun e w16 => ∃ (r15_0 : Int), ∃ (r15_1 : Int), ∃ (r15_2 : Int), ∃ (r15_3 : BA), ∃ (r15_4 : Int), e = .returned (.agg #[.int .i64 r15_0, .int .i64 r15_1, .int .i64 r15_2, .string r15_3, .int .u8 r15_4]) ∧
 stV w16 ⟨x3, 0, none⟩ (.int .i64 r15_0) fun w17 =>
 stV w17 ⟨x3, 1, none⟩ (.int .i64 r15_1) fun w18 =>
 stV w18 ⟨x3, 2, none⟩ (.int .i64 r15_2) fun w19 =>
 stV w19 ⟨x3, 3, none⟩ (.string r15_3) fun w20 =>
 stV w20 ⟨x3, 4, none⟩ (.int .u8 r15_4) fun w21 =>
 nilP x6 fun a22 =>
 stV w21 ((a22.add 4).add 0) .nilFunc fun w23 =>
 ∃ (v24 : Int), w23.cell? ⟨x3, 0, none⟩ = some (.int .i64 v24) ∧
 ∃ (v25 : Int), w23.cell? ⟨x3, 1, none⟩ = some (.int .i64 v25) ∧
 ∃ (v26 : Int), w23.cell? ⟨x3, 2, none⟩ = some (.int .i64 v26) ∧
 ∃ (v27 : BA), w23.cell? ⟨x3, 3, none⟩ = some (.string v27) ∧
 ∃ (v28 : Int), w23.cell? ⟨x3, 4, none⟩ = some (.int .u8 v28) ∧
 stV w23 ⟨x4, 0, none⟩ (.int .i64 v24) fun w29 =>
 stV w29 ⟨x4, 1, none⟩ (.int .i64 v25) fun w30 =>
 stV w30 ⟨x4, 2, none⟩ (.int .i64 v26) fun w31 =>
 stV w31 ⟨x4, 3, none⟩ (.string v27) fun w32 =>
 stV w32 ⟨x4, 4, none⟩ (.int .u8 v28) fun w33 =>
 ∃ (v34 : Int), w33.cell? ⟨x4, 0, none⟩ = some (.int .i64 v34) ∧
 ∃ (v35 : Int), w33.cell? ⟨x4, 1, none⟩ = some (.int .i64 v35) ∧
 ∃ (v36 : Int), w33.cell? ⟨x4, 2, none⟩ = some (.int .i64 v36) ∧
 ∃ (v37 : BA), w33.cell? ⟨x4, 3, none⟩ = some (.string v37) ∧
 ∃ (v38 : Int), w33.cell? ⟨x4, 4, none⟩ = some (.int .u8 v38) ∧
 R (.returned (.tuple #[.agg #[.int .i64 v34, .int .i64 v35, .int .i64 v36, .string v37, .int .u8 v38], .bool true])) w33) w)
 (callE P i_parseState_startListItem #[.pointer x0, .pointer (some ⟨x3, 0, none⟩)] (fun e w40 => ∃ (r39 : Bool), e = .returned (.bool r39) ∧
 br r39
 (∃ (v41 : Int), w40.cell? ⟨x3, 0, none⟩ = some (.int .i64 v41) ∧
 ∃ (v42 : Int), w40.cell? ⟨x3, 1, none⟩ = some (.int .i64 v42) ∧
 ∃ (v43 : Int), w40.cell? ⟨x3, 2, none⟩ = some (.int .i64 v43) ∧
 ∃ (v44 : BA), w40.cell? ⟨x3, 3, none⟩ = some (.string v44) ∧
 ∃ (v45 : Int), w40.cell? ⟨x3, 4, none⟩ = some (.int .u8 v45) ∧
 stV w40 ⟨x4, 0, none⟩ (.int .i64 v41) fun w46 =>
 stV w46 ⟨x4, 1, none⟩ (.int .i64 v42) fun w47 =>
 stV w47 ⟨x4, 2, none⟩ (.int .i64 v43) fun w48 =>
 stV w48 ⟨x4, 3, none⟩ (.string v44) fun w49 =>
 stV w49 ⟨x4, 4, none⟩ (.int .u8 v45) fun w50 =>
 ∃ (v51 : Int), w50.cell? ⟨x4, 0, none⟩ = some (.int .i64 v51) ∧
 ∃ (v52 : Int), w50.cell? ⟨x4, 1, none⟩ = some (.int .i64 v52) ∧
 ∃ (v53 : Int), w50.cell? ⟨x4, 2, none⟩ = some (.int .i64 v53) ∧
 ∃ (v54 : BA), w50.cell? ⟨x4, 3, none⟩ = some (.string v54) ∧
 ∃ (v55 : Int), w50.cell? ⟨x4, 4, none⟩ = some (.int .u8 v55) ∧
 R (.returned (.tuple #[.agg #[.int .i64 v51, .int .i64 v52, .int .i64 v53, .string v54, .int .u8 v55], .bool true])) w50)
 (∃ (v56 : Int), w40.cell? ⟨x3, 0, none⟩ = some (.int .i64 v56) ∧
 ∃ (v57 : Int), w40.cell? ⟨x3, 1, none⟩ = some (.int .i64 v57) ∧
 ∃ (v58 : Int), w40.cell? ⟨x3, 2, none⟩ = some (.int .i64 v58) ∧
 ∃ (v59 : BA), w40.cell? ⟨x3, 3, none⟩ = some (.string v59) ∧
 ∃ (v60 : Int), w40.cell? ⟨x3, 4, none⟩ = some (.int .u8 v60) ∧
 stV w40 ⟨x4, 0, none⟩ (.int .i64 v56) fun w61 =>
 stV w61 ⟨x4, 1, none⟩ (.int .i64 v57) fun w62 =>
 stV w62 ⟨x4, 2, none⟩ (.int .i64 v58) fun w63 =>
 stV w63 ⟨x4, 3, none⟩ (.string v59) fun w64 =>
 stV w64 ⟨x4, 4, none⟩ (.int .u8 v60) fun w65 =>
 ∃ (v66 : Int), w65.cell? ⟨x4, 0, none⟩ = some (.int .i64 v66) ∧
 ∃ (v67 : Int), w65.cell? ⟨x4, 1, none⟩ = some (.int .i64 v67) ∧
 ∃ (v68 : Int), w65.cell? ⟨x4, 2, none⟩ = some (.int .i64 v68) ∧
 ∃ (v69 : BA), w65.cell? ⟨x4, 3, none⟩ = some (.string v69) ∧
 ∃ (v70 : Int), w65.cell? ⟨x4, 4, none⟩ = some (.int .u8 v70) ∧
 R (.returned (.tuple #[.agg #[.int .i64 v66, .int .i64 v67, .int .i64 v68, .string v69, .int .u8 v70], .bool false])) w65)) w)

end g_newListItem
def g_newListItem (R : EP) (x0 : OA) (x1_0 : Int) (x1_1 : Int) (x1_2 : Int) (x1_3 : BA) (x1_4 : Int) (w : World) : Prop :=
 box w #[.int .i64 x1_0, .int .i64 x1_1, .int .i64 x1_2, .string x1_3, .int .u8 x1_4] ty_line fun b1 w2 =>
 box w2 #[.int .i64 0, .int .i64 0, .int .i64 0, .string (ByteArray.mk #[]), .int .u8 0] ty_line fun b3 w4 =>
 callE P i_parseState_curB #[.pointer x0] (fun e w6 => ∃ (r5 : Value), e = .returned r5 ∧
 ∃ (r7_0 : OA), ∃ (r7_1 : Bool), ∃ w8, (Instr.typeAssert r5 ty_blockBuilder ty_P_listBuilder true).run P w6 = .ok (.tuple #[.pointer r7_0, .bool r7_1]) w8 ∧
 br r7_1
 (nilP r7_0 fun a9 =>
 ∃ (v10 : Value), w8.cell? (a9.add 4) = some v10 ∧
 ∃ (r11 : Bool), ∃ w12, (do eqGuard .neq ty_func_line (.tmp 19) (.const .nilFunc) v10 .nilFunc; binOp .neq ty_func_line v10 .nilFunc).run P w8 = .ok (.bool r11) w12 ∧
 g_newListItem.k1 R x0 b1 b3 r7_0 r11 w12)
 (g_newListItem.k1 R x0 b1 b3 r7_0 false w8)) w4

noncomputable def g_newListItem.ac (R : EP) : AC :=
  (.seq (.leaf (sel [0] g_newListItem.body)) (.seq (.seq (.leaf (sel [1, 0, 0] g_newListItem.body)) (.seq (.leaf (sel [1, 0, 1, 0] g_newListItem.body)) (.mark (leaf [(0, .s .ptr), (3, .s .loc), (4, .s .loc), (6, .s .ptr), (21, .s .bool)] (g_newListItem.k1 R)) (.leaf (sel [1, 0, 1, 1] g_newListItem.body))))) (.leaf (sel [1, 1] g_newListItem.body))))
theorem g_newListItem.good (R : EP) : Good P 35 (g_newListItem.ac R) (QF P [.cell 4 80, .tmp 5] R) :=
  ⟨trivial, ⟨⟨trivial, ⟨trivial, ⟨trivial, cutE (by intro x0 x3 x4 x6 x21 ρ w; kernel_rfl)⟩⟩⟩, trivial⟩⟩
theorem g_newListItem.eq (R : EP) (x0 : OA) (x1_0 : Int) (x1_1 : Int) (x1_2 : Int) (x1_3 : BA) (x1_4 : Int) (w : World) : g_newListItem R x0 x1_0 x1_1 x1_2 x1_3 x1_4 w = vcA P 35 (g_newListItem.ac R) (QF P [.cell 4 80, .tmp 5] R) (fr0 [.pointer x0, .agg #[.int .i64 x1_0, .int .i64 x1_1, .int .i64 x1_2, .string x1_3, .int .u8 x1_4]]) w := by kernel_rfl
theorem g_newListItem.sound {R : EP} {x0 : OA} {x1_0 : Int} {x1_1 : Int} {x1_2 : Int} {x1_3 : ByteArray} {x1_4 : Int} {w : World} (h : g_newListItem R x0 x1_0 x1_1 x1_2 x1_3 x1_4 w) : callE P i_newListItem #[.pointer x0, .agg #[.int .i64 x1_0, .int .i64 x1_1, .int .i64 x1_2, .string x1_3, .int .u8 x1_4]] R w :=
  callE_fin (c := g_newListItem.body) Tryz.func65 Tryz.call65 (by kernel_rfl) (by kernel_rfl) (by kernel_rfl) (by kernel_rfl) (by kernel_rfl) (g_newListItem.good R) (g_newListItem.eq R x0 x1_0 x1_1 x1_2 x1_3 x1_4 w) h
namespace g_parseState_curB
noncomputable def body : Code := bodyOf Tryz.f116
end g_parseState_curB
def g_parseState_curB (R : EP) (x0 : OA) (w : World) : Prop :=
 tk w fun w1 =>
 nilP x0 fun a2 =>
 nilP x0 fun a3 =>
 ∃ (v4 : Int), w1.cell? (a2.add 5) = some (.int .i64 v4) ∧
 ∃ (v5q : OA), ∃ (v5n : Nat), ∃ (v5c : Nat), w1.cell? (a3.add 4) = some (.slice v5q v5n v5c) ∧
 br (decide (v4 < (v5n : Int)))
 (tk w1 fun w6 =>
 nilP x0 fun a7 =>
 nilP x0 fun a8 =>
 ∃ (v9q : OA), ∃ (v9n : Nat), ∃ (v9c : Nat), w6.cell? (a7.add 4) = some (.slice v9q v9n v9c) ∧
 ∃ (v10 : Int), w6.cell? (a8.add 5) = some (.int .i64 v10) ∧
 0 ≤ v10 ∧ v10 < (v9n : Int) ∧
 nilP v9q fun a11 =>
 ∃ (v12 : Value), w6.cell? (a11.add (Int.toNat v10 * 4)) = some v12 ∧
 R (.returned v12) w6)
 (R (.returned .nilIface) w1)

noncomputable def g_parseState_curB.ac (R : EP) : AC :=
  (.seq (.leaf (sel [0] g_parseState_curB.body)) (.seq (.seq (.draw (.pure 0 (.pure 1 (.pure 2 (.pure 4 (.pure 5 (.pure 6 (.load 3 (.load 7 (.pure 8 (.pure 9 .done)))))))))) (sel [1, 0, 0] g_parseState_curB.body)) (.cond 12 (.seq (.draw (.pure 0 (.pure 1 (.pure 2 (.pure 4 (.pure 5 (.pure 6 (.load 3 (.load 7 (.pure 8 (.pure 9 (.load 10 (.pure 11 .done)))))))))))) (sel [1, 0, 1, 0, 0] g_parseState_curB.body)) (.leaf (sel [1, 0, 1, 0, 1] g_parseState_curB.body))) (.leaf (sel [1, 0, 1, 1] g_parseState_curB.body)))) (.leaf (sel [1, 1] g_parseState_curB.body))))
theorem g_parseState_curB.good (R : EP) : Good P 24 (g_parseState_curB.ac R) (QF P [.tmp 2] R) :=
  ⟨trivial, ⟨⟨⟨by kernel_rfl, by kernel_rfl, fun _ _ _ h => h⟩, ⟨⟨⟨by kernel_rfl, by kernel_rfl, fun _ _ _ h => h⟩, trivial⟩, trivial⟩⟩, trivial⟩⟩
theorem g_parseState_curB.eq (R : EP) (x0 : OA) (w : World) : g_parseState_curB R x0 w = vcA P 24 (g_parseState_curB.ac R) (QF P [.tmp 2] R) (fr0 [.pointer x0]) w := by kernel_rfl
theorem g_parseState_curB.sound {R : EP} {x0 : OA} {w : World} (h : g_parseState_curB R x0 w) : callE P i_parseState_curB #[.pointer x0] R w :=
  callE_fin (c := g_parseState_curB.body) Tryz.func116 Tryz.call116 (by kernel_rfl) (by kernel_rfl) (by kernel_rfl) (by kernel_rfl) (by kernel_rfl) (g_parseState_curB.good R) (g_parseState_curB.eq R x0 w) h
namespace g_parseState_nextB
noncomputable def body : Code := bodyOf Tryz.f111
end g_parseState_nextB
def g_parseState_nextB (R : EP) (x0 : OA) (w : World) : Prop :=
 tk w fun w1 =>
 nilP x0 fun a2 =>
 nilP x0 fun a3 =>
 ∃ (v4 : Int), w1.cell? (a2.add 5) = some (.int .i64 v4) ∧
 ∃ (v5q : OA), ∃ (v5n : Nat), ∃ (v5c : Nat), w1.cell? (a3.add 4) = some (.slice v5q v5n v5c) ∧
 br (decide ((IntKind.i64.wrap (v4 + 1)) < (v5n : Int)))
 (tk w1 fun w6 =>
 nilP x0 fun a7 =>
 nilP x0 fun a8 =>
 ∃ (v9q : OA), ∃ (v9n : Nat), ∃ (v9c : Nat), w6.cell? (a7.add 4) = some (.slice v9q v9n v9c) ∧
 ∃ (v10 : Int), w6.cell? (a8.add 5) = some (.int .i64 v10) ∧
 0 ≤ (IntKind.i64.wrap (v10 + 1)) ∧ (IntKind.i64.wrap (v10 + 1)) < (v9n : Int) ∧
 nilP v9q fun a11 =>
 ∃ (v12 : Value), w6.cell? (a11.add (Int.toNat (IntKind.i64.wrap (v10 + 1)) * 4)) = some v12 ∧
 R (.returned v12) w6)
 (R (.returned .nilIface) w1)

noncomputable def g_parseState_nextB.ac (R : EP) : AC :=
  (.seq (.leaf (sel [0] g_parseState_nextB.body)) (.seq (.seq (.draw (.pure 0 (.pure 1 (.pure 2 (.pure 5 (.pure 6 (.pure 7 (.load 3 (.pure 4 (.load 8 (.pure 9 (.pure 10 .done))))))))))) (sel [1, 0, 0] g_parseState_nextB.body)) (.cond 13 (.seq (.draw (.pure 0 (.pure 1 (.pure 2 (.pure 4 (.pure 5 (.pure 6 (.load 3 (.load 7 (.pure 8 (.pure 9 (.pure 10 (.load 11 (.pure 12 .done))))))))))))) (sel [1, 0, 1, 0, 0] g_parseState_nextB.body)) (.leaf (sel [1, 0, 1, 0, 1] g_parseState_nextB.body))) (.leaf (sel [1, 0, 1, 1] g_parseState_nextB.body)))) (.leaf (sel [1, 1] g_parseState_nextB.body))))
theorem g_parseState_nextB.good (R : EP) : Good P 26 (g_parseState_nextB.ac R) (QF P [.tmp 2] R) :=
  ⟨trivial, ⟨⟨⟨by kernel_rfl, by kernel_rfl, fun _ _ _ h => h⟩, ⟨⟨⟨by kernel_rfl, by kernel_rfl, fun _ _ _ h => h⟩, trivial⟩, trivial⟩⟩, trivial⟩⟩
theorem g_parseState_nextB.eq (R : EP) (x0 : OA) (w : World) : g_parseState_nextB R x0 w = vcA P 26 (g_parseState_nextB.ac R) (QF P [.tmp 2] R) (fr0 [.pointer x0]) w := by kernel_rfl
theorem g_parseState_nextB.sound {R : EP} {x0 : OA} {w : World} (h : g_parseState_nextB R x0 w) : callE P i_parseState_nextB #[.pointer x0] R w :=
  callE_fin (c := g_parseState_nextB.body) Tryz.func111 Tryz.call111 (by kernel_rfl) (by kernel_rfl) (by kernel_rfl) (by kernel_rfl) (by kernel_rfl) (g_parseState_nextB.good R) (g_parseState_nextB.eq R x0 w) h
namespace g_parseState_startListItem
noncomputable def body : Code := bodyOf Tryz.f117
def k5 (R : EP) (Xa : Nat → Nat → Int → Int → Int → Nat → Int → Int → WP) (x2 : Nat) (x5 : Nat) (x6 : Int) (x8 : Int) (x9 : Int) (x12 : Nat) (x13 : Int) (x14 : Int) (w : World) : Prop :=
 Xa x2 x5 x6 x8 x9 x12 (IntKind.i64.wrap (x13 + 1)) (IntKind.i64.wrap (x14 + 1)) w

def k9 (R : EP) (Xb : Nat → Nat → Int → Int → Int → WP) (x2 : Nat) (x5 : Nat) (x6 : Int) (x9 : Int) (x10 : Int) (x11 : Int) (w : World) : Prop :=
 ∃ (v63 : Int), w.cell? ⟨x5, 1, none⟩ = some (.int .i64 v63) ∧
 br (decide ((IntKind.i64.wrap (x10 - v63)) ≥ 9))
 (R (.returned (.bool false)) w)
 (Xb x2 x5 x6 (IntKind.i64.wrap ((IntKind.i64.wrap ((IntKind.i64.wrap (x9 * 10)) + (IntKind.i64.wrap x11))) - 48)) (IntKind.i64.wrap (x10 + 1)) w)

def k14 (R : EP) (x2 : Nat) (x5 : Nat) (x15 : Nat) (x18 : Nat) (w : World) : Prop :=
 ∃ (v111 : OA), w.cell? ⟨x15, 0, none⟩ = some (.pointer v111) ∧
 nilP v111 fun a112 =>
 stV w ((a112.add 4).add 0) (.func (.func i_parseState_startListItem_1) #[] #[.pointer (some ⟨x2, 0, none⟩), .pointer (some ⟨x18, 0, none⟩), .pointer (some ⟨x15, 0, none⟩), .pointer (some ⟨x5, 0, none⟩)]) fun w113 =>
 R (.returned (.bool true)) w113

def k13 (R : EP) (x2 : Nat) (x5 : Nat) (x6 : Int) (x15 : Nat) (w : World) : Prop :=
 tk w fun w90 =>
 ∃ (v91 : OA), w90.cell? ⟨x15, 0, none⟩ = some (.pointer v91) ∧
 (callE P i_line_isBlank #[.pointer (some ⟨x5, 0, none⟩)] (fun e w93 => ∃ (r92 : Bool), e = .returned (.bool r92) ∧
 SameC w90 w93 ⟨x15, 0, none⟩ 1 ∧
 (box w93 #[.pointer v91, .int .i64 x6, .bool (!r92)] ty_itemBuilder fun b94 w95 =>
 box w95 #[.pointer none] ty_P_itemBuilder fun b96 w97 =>
 SameC w95 w97 ⟨x15, 0, none⟩ 1 ∧
 stV w97 ⟨b96, 0, none⟩ (.pointer (some ⟨b94, 0, none⟩)) fun w98 =>
 k14 R x2 x5 x15 b96 w98) ∧
 (box w93 #[.pointer none] ty_P_itemBuilder fun b99 w100 =>
 SameC w93 w100 ⟨x15, 0, none⟩ 1 ∧
 box w100 #[.pointer v91, .int .i64 x6, .bool (!r92)] ty_itemBuilder fun b101 w102 =>
 stV w102 ⟨b99, 0, none⟩ (.pointer (some ⟨b101, 0, none⟩)) fun w103 =>
 k14 R x2 x5 x15 b99 w103)) w90) ∧
 (box w90 #[.pointer none] ty_P_itemBuilder fun b104 w105 =>
 SameC w90 w105 ⟨x15, 0, none⟩ 1 ∧
 callE P i_line_isBlank #[.pointer (some ⟨x5, 0, none⟩)] (fun e w107 => ∃ (r106 : Bool), e = .returned (.bool r106) ∧
 SameC w105 w107 ⟨x15, 0, none⟩ 1 ∧
 box w107 #[.pointer v91, .int .i64 x6, .bool (!r106)] ty_itemBuilder fun b108 w109 =>
 stV w109 ⟨b104, 0, none⟩ (.pointer (some ⟨b108, 0, none⟩)) fun w110 =>
 k14 R x2 x5 x15 b104 w110) w105)

def k12 (R : EP) (x2 : Nat) (x5 : Nat) (x6 : Int) (x8 : Int) (x9 : Int) (x15 : Nat) (x158 : Bool) (w : World) : Prop :=
 br x158
 (∃ (v80 : OA), w.cell? ⟨x2, 0, none⟩ = some (.pointer v80) ∧
 nilP v80 fun a81 =>
 stV w ((a81.add 6).add 0) (.bool true) fun w82 =>
 R (.returned (.bool false)) w82)
 (box w #[.int .i32 (IntKind.i32.wrap x8), .int .i64 x9, .bool false, .pointer none, .nilFunc] ty_listBuilder fun b83 w84 =>
 stV w84 ⟨x15, 0, none⟩ (.pointer (some ⟨b83, 0, none⟩)) fun w85 =>
 ∃ (v86 : OA), w85.cell? ⟨x2, 0, none⟩ = some (.pointer v86) ∧
 ∃ (v87 : OA), w85.cell? ⟨x15, 0, none⟩ = some (.pointer v87) ∧
 callE P i_parseState_addBlock #[.pointer v86, .iface ty_P_listBuilder (.pointer v87)] (fun e w89 => e = .returned (.tuple #[]) ∧
 k13 R x2 x5 x6 x15 w89) w85)

def k11 (R : EP) (x2 : Nat) (x5 : Nat) (x6 : Int) (x8 : Int) (x9 : Int) (x15 : Nat) (x136 : Bool) (w : World) : Prop :=
 br x136
 (∃ (v70 : OA), w.cell? ⟨x15, 0, none⟩ = some (.pointer v70) ∧
 ∃ (r71 : Bool), ∃ w72, (do eqGuard .eql ty_P_listBuilder (.tmp 137) (.const (.pointer none)) (.pointer v70) (.pointer none); binOp .eql ty_P_listBuilder (.pointer v70) (.pointer none)).run P w = .ok (.bool r71) w72 ∧
 br r71
 (∃ (v73 : OA), w72.cell? ⟨x2, 0, none⟩ = some (.pointer v73) ∧
 callE P i_parseState_para #[.pointer v73] (fun e w75 => ∃ (r74 : OA), e = .returned (.pointer r74) ∧
 ∃ (r76 : Bool), ∃ w77, (do eqGuard .neq ty_P_paraBuilder (.tmp 141) (.const (.pointer none)) (.pointer r74) (.pointer none); binOp .neq ty_P_paraBuilder (.pointer r74) (.pointer none)).run P w75 = .ok (.bool r76) w77 ∧
 br r76
 (callE P i_line_isBlank #[.pointer (some ⟨x5, 0, none⟩)] (fun e w79 => ∃ (r78 : Bool), e = .returned (.bool r78) ∧
 k12 R x2 x5 x6 x8 x9 x15 (r78 || (((x8 == 46) || (x8 == 41)) && (x9 != 1))) w79) w77)
 (k12 R x2 x5 x6 x8 x9 x15 false w77)) w72)
 (k12 R x2 x5 x6 x8 x9 x15 false w72))
 (k13 R x2 x5 x6 x15 w)

def k10 (R : EP) (x2 : Nat) (x5 : Nat) (x6 : Int) (x8 : Int) (x9 : Int) (x15 : Nat) (w : World) : Prop :=
 ∃ (v64 : OA), w.cell? ⟨x15, 0, none⟩ = some (.pointer v64) ∧
 ∃ (r65 : Bool), ∃ w66, (do eqGuard .eql ty_P_listBuilder (.tmp 126) (.const (.pointer none)) (.pointer v64) (.pointer none); binOp .eql ty_P_listBuilder (.pointer v64) (.pointer none)).run P w = .ok (.bool r65) w66 ∧
 br r65
 (k11 R x2 x5 x6 x8 x9 x15 true w66)
 (∃ (v67 : OA), w66.cell? ⟨x15, 0, none⟩ = some (.pointer v67) ∧
 nilP v67 fun a68 =>
 ∃ (v69 : Int), w66.cell? a68 = some (.int .i32 v69) ∧
 k11 R x2 x5 x6 x8 x9 x15 (v69 != (IntKind.i32.wrap x8)) w66)

def k8 (R : EP) (x2 : Nat) (x5 : Nat) (x6 : Int) (x8 : Int) (x9 : Int) (w : World) : Prop :=
 box w #[.pointer none] ty_P_listBuilder fun b55 w56 =>
 ∃ (v57 : OA), w56.cell? ⟨x2, 0, none⟩ = some (.pointer v57) ∧
 callE P i_parseState_nextB #[.pointer v57] (fun e w59 => ∃ (r58 : Value), e = .returned r58 ∧
 ∃ (r60_0 : OA), ∃ (r60_1 : Bool), ∃ w61, (Instr.typeAssert r58 ty_blockBuilder ty_P_listBuilder true).run P w59 = .ok (.tuple #[.pointer r60_0, .bool r60_1]) w61 ∧
 br r60_1
 (stV w61 ⟨b55, 0, none⟩ (.pointer r60_0) fun w62 =>
 k10 R x2 x5 x6 x8 x9 b55 w62)
 (k10 R x2 x5 x6 x8 x9 b55 w61)) w56

def k6 (R : EP) (x2 : Nat) (x5 : Nat) (x6 : Int) (x8 : Int) (x9 : Int) (x12 : Nat) (x13 : Int) (w : World) : Prop :=
 callE P i_line_trimSpace #[.pointer (some ⟨x12, 0, none⟩), .int .i64 1, .int .i64 1, .bool true] (fun e w42 => ∃ (r41 : Bool), e = .returned (.bool r41) ∧
 br (!r41)
 (∃ (v43 : Int), w42.cell? ⟨x12, 0, none⟩ = some (.int .i64 v43) ∧
 ∃ (v44 : Int), w42.cell? ⟨x12, 1, none⟩ = some (.int .i64 v44) ∧
 ∃ (v45 : Int), w42.cell? ⟨x12, 2, none⟩ = some (.int .i64 v45) ∧
 ∃ (v46 : BA), w42.cell? ⟨x12, 3, none⟩ = some (.string v46) ∧
 ∃ (v47 : Int), w42.cell? ⟨x12, 4, none⟩ = some (.int .u8 v47) ∧
 stV w42 ⟨x5, 0, none⟩ (.int .i64 v43) fun w48 =>
 stV w48 ⟨x5, 1, none⟩ (.int .i64 v44) fun w49 =>
 stV w49 ⟨x5, 2, none⟩ (.int .i64 v45) fun w50 =>
 stV w50 ⟨x5, 3, none⟩ (.string v46) fun w51 =>
 stV w51 ⟨x5, 4, none⟩ (.int .u8 v47) fun w52 =>
 k8 R x2 x5 (IntKind.i64.wrap (x6 + x13)) x8 x9 w52)
 (k8 R x2 x5 x6 x8 x9 w42)) w

def bl2 (R : EP) (Xa : Nat → Nat → Int → Int → Int → Nat → Int → Int → WP) (x2 : Nat) (x5 : Nat) (x6 : Int) (x8 : Int) (x9 : Int) (x12 : Nat) (x13 : Int) (x14 : Int) (w : World) : Prop :=
 br (decide (x14 < 3))
 (callE P i_line_trimSpace #[.pointer (some ⟨x12, 0, none⟩), .int .i64 1, .int .i64 1, .bool false] (fun e w38 => ∃ (r37 : Bool), e = .returned (.bool r37) ∧
 br r37
 (k5 R Xa x2 x5 x6 x8 x9 x12 x13 x14 w38)
 (k6 R x2 x5 x6 x8 x9 x12 x13 w38)) w)
 (k6 R x2 x5 x6 x8 x9 x12 x13 w)
def l2 (R : EP) (x2 : Nat) (x5 : Nat) (x6 : Int) (x8 : Int) (x9 : Int) (x12 : Nat) (x13 : Int) (x14 : Int) (w : World) : Prop :=
  ∀ X : Nat → Nat → Int → Int → Int → Nat → Int → Int → WP, (∀ x2 x5 x6 x8 x9 x12 x13 x14 w, bl2 R X x2 x5 x6 x8 x9 x12 x13 x14 w → X x2 x5 x6 x8 x9 x12 x13 x14 w) → X x2 x5 x6 x8 x9 x12 x13 x14 w

noncomputable def al2 (R : EP) (Xa : Nat → Nat → Int → Int → Int → Nat → Int → Int → WP) : AC :=
  (.seq (.leaf (sel [1, 0, 1, 1, 1, 1, 1, 1, 1, 1, 1, 1, 1, 0, 1, 0, 0, 0] body)) (.mark (leaf [(2, .s .loc), (5, .s .loc), (6, .s (.int .i64)), (8, .s (.int .u8)), (9, .s (.int .i64)), (12, .s .loc), (13, .s (.int .i64)), (14, .s (.int .i64))] (k5 R Xa)) (.leaf (sel [1, 0, 1, 1, 1, 1, 1, 1, 1, 1, 1, 1, 1, 0, 1, 0, 0, 1] body))))
def k3 (R : EP) (x2 : Nat) (x5 : Nat) (x6 : Int) (x8 : Int) (x9 : Int) (w : World) : Prop :=
 callE P i_line_trimSpace #[.pointer (some ⟨x5, 0, none⟩), .int .i64 1, .int .i64 1, .bool true] (fun e w23 => ∃ (r22 : Bool), e = .returned (.bool r22) ∧
 br (!r22)
 (R (.returned (.bool false)) w23)
 (∃ (v24 : Int), w23.cell? ⟨x5, 0, none⟩ = some (.int .i64 v24) ∧
 ∃ (v25 : Int), w23.cell? ⟨x5, 1, none⟩ = some (.int .i64 v25) ∧
 ∃ (v26 : Int), w23.cell? ⟨x5, 2, none⟩ = some (.int .i64 v26) ∧
 ∃ (v27 : BA), w23.cell? ⟨x5, 3, none⟩ = some (.string v27) ∧
 ∃ (v28 : Int), w23.cell? ⟨x5, 4, none⟩ = some (.int .u8 v28) ∧
 box w23 #[.int .i64 0, .int .i64 0, .int .i64 0, .string (ByteArray.mk #[]), .int .u8 0] ty_line fun b29 w30 =>
 stV w30 ⟨b29, 0, none⟩ (.int .i64 v24) fun w31 =>
 stV w31 ⟨b29, 1, none⟩ (.int .i64 v25) fun w32 =>
 stV w32 ⟨b29, 2, none⟩ (.int .i64 v26) fun w33 =>
 stV w33 ⟨b29, 3, none⟩ (.string v27) fun w34 =>
 stV w34 ⟨b29, 4, none⟩ (.int .u8 v28) fun w35 =>
 l2 R x2 x5 (IntKind.i64.wrap (x6 + 1)) x8 x9 b29 0 0 w35)) w

def k7 (R : EP) (Xb : Nat → Nat → Int → Int → Int → WP) (x2 : Nat) (x5 : Nat) (x6 : Int) (x9 : Int) (x10 : Int) (x11 : Int) (x69 : Bool) (w : World) : Prop :=
 br x69
 (∃ (v53 : Int), w.cell? ⟨x5, 1, none⟩ = some (.int .i64 v53) ∧
 stV w ⟨x5, 1, none⟩ (.int .i64 (IntKind.i64.wrap (x10 + 1))) fun w54 =>
 k3 R x2 x5 (IntKind.i64.wrap (x6 + (IntKind.i64.wrap ((IntKind.i64.wrap (x10 + 1)) - v53)))) x11 x9 w54)
 (br ((decide (x11 < 48)) || (decide (57 < x11)))
 (R (.returned (.bool false)) w)
 (k9 R Xb x2 x5 x6 x9 x10 x11 w))

def bl3 (R : EP) (Xb : Nat → Nat → Int → Int → Int → WP) (x2 : Nat) (x5 : Nat) (x6 : Int) (x9 : Int) (x10 : Int) (w : World) : Prop :=
 ∃ (v39 : BA), w.cell? ⟨x5, 3, none⟩ = some (.string v39) ∧
 br (decide (x10 ≥ (v39.size : Int)))
 (R (.returned (.bool false)) w)
 (∃ (v40 : BA), w.cell? ⟨x5, 3, none⟩ = some (.string v40) ∧
 0 ≤ x10 ∧ x10 < (v40.size : Int) ∧
 k7 R Xb x2 x5 x6 x9 x10 (bt v40 x10) (((bt v40 x10) == 46) || ((bt v40 x10) == 41)) w)
def l3 (R : EP) (x2 : Nat) (x5 : Nat) (x6 : Int) (x9 : Int) (x10 : Int) (w : World) : Prop :=
  ∀ X : Nat → Nat → Int → Int → Int → WP, (∀ x2 x5 x6 x9 x10 w, bl3 R X x2 x5 x6 x9 x10 w → X x2 x5 x6 x9 x10 w) → X x2 x5 x6 x9 x10 w

noncomputable def al3 (R : EP) (Xb : Nat → Nat → Int → Int → Int → WP) : AC :=
  (.seq (.block 4 (.seq (.leaf (sel [1, 0, 1, 1, 1, 1, 1, 1, 0, 1, 0, 1, 1, 1, 0, 1, 0, 0, 0, 0, 0] body)) (.seq (.leaf (sel [1, 0, 1, 1, 1, 1, 1, 1, 0, 1, 0, 1, 1, 1, 0, 1, 0, 0, 0, 0, 1, 0] body)) (.seq (.seq (.leaf (sel [1, 0, 1, 1, 1, 1, 1, 1, 0, 1, 0, 1, 1, 1, 0, 1, 0, 0, 0, 0, 1, 1, 0, 0] body)) (.mark (leaf [(2, .s .loc), (5, .s .loc), (6, .s (.int .i64)), (9, .s (.int .i64)), (10, .s (.int .i64)), (11, .s (.int .u8)), (69, .s .bool)] (k7 R Xb)) (.leaf (sel [1, 0, 1, 1, 1, 1, 1, 1, 0, 1, 0, 1, 1, 1, 0, 1, 0, 0, 0, 0, 1, 1, 0, 1] body)))) (.seq (.leaf (sel [1, 0, 1, 1, 1, 1, 1, 1, 0, 1, 0, 1, 1, 1, 0, 1, 0, 0, 0, 0, 1, 1, 1, 0] body)) (.mark (leaf [(2, .s .loc), (5, .s .loc), (6, .s (.int .i64)), (9, .s (.int .i64)), (10, .s (.int .i64)), (11, .s (.int .u8))] (k9 R Xb)) (.leaf (sel [1, 0, 1, 1, 1, 1, 1, 1, 0, 1, 0, 1, 1, 1, 0, 1, 0, 0, 0, 0, 1, 1, 1, 1] body)))))))) (.leaf (sel [1, 0, 1, 1, 1, 1, 1, 1, 0, 1, 0, 1, 1, 1, 0, 1, 0, 0, 1] body)))
def k4 (R : EP) (x2 : Nat) (x5 : Nat) (x6 : Int) (x9 : Int) (x40 : Bool) (w : World) : Prop :=
 br x40
 (∃ (v36 : Int), w.cell? ⟨x5, 1, none⟩ = some (.int .i64 v36) ∧
 l3 R x2 x5 x6 x9 v36 w)
 (R (.returned (.bool false)) w)

def k2 (R : EP) (x2 : Nat) (x5 : Nat) (x6 : Int) (x8 : Int) (x9 : Int) (x31 : Int) (x32 : Bool) (w : World) : Prop :=
 br x32
 (callE P i_line_trim #[.pointer (some ⟨x5, 0, none⟩), .int .u8 x8] (fun e w21 => ∃ (r20 : Bool), e = .returned (.bool r20) ∧
 k3 R x2 x5 (IntKind.i64.wrap (x6 + 1)) x8 x9 w21) w)
 (br (x31 == 48)
 (k4 R x2 x5 x6 x9 true w)
 (br (x31 == 49)
 (k4 R x2 x5 x6 x9 true w)
 (br (x31 == 50)
 (k4 R x2 x5 x6 x9 true w)
 (br (x31 == 51)
 (k4 R x2 x5 x6 x9 true w)
 (br (x31 == 52)
 (k4 R x2 x5 x6 x9 true w)
 (br (x31 == 53)
 (k4 R x2 x5 x6 x9 true w)
 (br (x31 == 54)
 (k4 R x2 x5 x6 x9 true w)
 (br (x31 == 55)
 (k4 R x2 x5 x6 x9 true w)
 (br (x31 == 56)
 (k4 R x2 x5 x6 x9 true w)
 (k4 R x2 x5 x6 x9 (x31 == 57) w))))))))))

def k1 (R : EP) (x2 : Nat) (x5 : Nat) (x6 : Int) (w : World) : Prop :=
 callE P i_line_peek #[.pointer (some ⟨x5, 0, none⟩)] (fun e w19 => ∃ (r18 : Int), e = .returned (.int .u8 r18) ∧
 br (r18 == 45)
 (k2 R x2 x5 x6 r18 0 r18 true w19)
 (br (r18 == 42)
 (k2 R x2 x5 x6 r18 0 r18 true w19)
 (k2 R x2 x5 x6 r18 0 r18 (r18 == 43) w19))) w

def bl1 (R : EP) (Xc : Nat → Nat → Int → Int → WP) (x2 : Nat) (x5 : Nat) (x6 : Int) (x7 : Int) (w : World) : Prop :=
 br (decide (x7 < 3))
 (callE P i_line_trimSpace #[.pointer (some ⟨x5, 0, none⟩), .int .i64 1, .int .i64 1, .bool false] (fun e w17 => ∃ (r16 : Bool), e = .returned (.bool r16) ∧
 br (!r16)
 (k1 R x2 x5 x6 w17)
 (Xc x2 x5 (IntKind.i64.wrap (x6 + 1)) (IntKind.i64.wrap (x7 + 1)) w17)) w)
 (k1 R x2 x5 x6 w)
def l1 (R : EP) (x2 : Nat) (x5 : Nat) (x6 : Int) (x7 : Int) (w : World) : Prop :=
  ∀ X : Nat → Nat → Int → Int → WP, (∀ x2 x5 x6 x7 w, bl1 R X x2 x5 x6 x7 w → X x2 x5 x6 x7 w) → X x2 x5 x6 x7 w

noncomputable def al1 (R : EP) (Xc : Nat → Nat → Int → Int → WP) : AC :=
  (.leaf (sel [1, 0, 1, 1, 0, 1, 0, 0] body))
end g_parseState_startListItem
def g_parseState_startListItem (R : EP) (x0 : OA) (x1 : OA) (w : World) : Prop :=
 box w #[.pointer x0] ty_P_parseState fun b1 w2 =>
 nilP x1 fun a3 =>
 ∃ (v4 : Int), w2.cell? (a3.add 0) = some (.int .i64 v4) ∧
 ∃ (v5 : Int), w2.cell? (a3.add 1) = some (.int .i64 v5) ∧
 ∃ (v6 : Int), w2.cell? (a3.add 2) = some (.int .i64 v6) ∧
 ∃ (v7 : BA), w2.cell? (a3.add 3) = some (.string v7) ∧
 ∃ (v8 : Int), w2.cell? (a3.add 4) = some (.int .u8 v8) ∧
 box w2 #[.int .i64 0, .int .i64 0, .int .i64 0, .string (ByteArray.mk #[]), .int .u8 0] ty_line fun b9 w10 =>
 stV w10 ⟨b9, 0, none⟩ (.int .i64 v4) fun w11 =>
 stV w11 ⟨b9, 1, none⟩ (.int .i64 v5) fun w12 =>
 stV w12 ⟨b9, 2, none⟩ (.int .i64 v6) fun w13 =>
 stV w13 ⟨b9, 3, none⟩ (.string v7) fun w14 =>
 stV w14 ⟨b9, 4, none⟩ (.int .u8 v8) fun w15 =>
 g_parseState_startListItem.l1 R b1 b9 0 0 w15

noncomputable def g_parseState_startListItem.ac (R : EP) : AC :=
  (.seq (.leaf (sel [0] g_parseState_startListItem.body)) (.scope (.seq (.leaf (sel [1, 0, 0] g_parseState_startListItem.body)) (.seq (.leaf (sel [1, 0, 1, 0] g_parseState_startListItem.body)) (.seq (.seq (.leaf (sel [1, 0, 1, 1, 0, 0] g_parseState_startListItem.body)) (.block 0 (.loop (leaf [(2, .s .loc), (5, .s .loc), (6, .s (.int .i64)), (7, .s (.int .i64))] (g_parseState_startListItem.l1 R)) (sel [1, 0, 1, 1, 0, 1, 0, 0] g_parseState_startListItem.body)))) (.mark (leaf [(2, .s .loc), (5, .s .loc), (6, .s (.int .i64))] (g_parseState_startListItem.k1 R)) (.seq (.leaf (sel [1, 0, 1, 1, 1, 0] g_parseState_startListItem.body)) (.seq (.leaf (sel [1, 0, 1, 1, 1, 1, 0] g_parseState_startListItem.body)) (.seq (.leaf (sel [1, 0, 1, 1, 1, 1, 1, 0] g_parseState_startListItem.body)) (.seq (.seq (.leaf (sel [1, 0, 1, 1, 1, 1, 1, 1, 0, 0] g_parseState_startListItem.body)) (.block 2 (.seq (.leaf (sel [1, 0, 1, 1, 1, 1, 1, 1, 0, 1, 0, 0] g_parseState_startListItem.body)) (.mark (leaf [(2, .s .loc), (5, .s .loc), (6, .s (.int .i64)), (8, .s (.int .u8)), (9, .s (.int .i64)), (31, .s (.int .u8)), (32, .s .bool)] (g_parseState_startListItem.k2 R)) (.cond 32 (.leaf (sel [1, 0, 1, 1, 1, 1, 1, 1, 0, 1, 0, 1, 0] g_parseState_startListItem.body)) (.seq (.leaf (sel [1, 0, 1, 1, 1, 1, 1, 1, 0, 1, 0, 1, 1, 0] g_parseState_startListItem.body)) (.mark (leaf [(2, .s .loc), (5, .s .loc), (6, .s (.int .i64)), (9, .s (.int .i64)), (40, .s .bool)] (g_parseState_startListItem.k4 R)) (.cond 40 (.seq (.leaf (sel [1, 0, 1, 1, 1, 1, 1, 1, 0, 1, 0, 1, 1, 1, 0, 0] g_parseState_startListItem.body)) (.block 3 (.loop (leaf [(2, .s .loc), (5, .s .loc), (6, .s (.int .i64)), (9, .s (.int .i64)), (10, .s (.int .i64))] (g_parseState_startListItem.l3 R)) (sel [1, 0, 1, 1, 1, 1, 1, 1, 0, 1, 0, 1, 1, 1, 0, 1, 0, 0] g_parseState_startListItem.body)))) (.leaf (sel [1, 0, 1, 1, 1, 1, 1, 1, 0, 1, 0, 1, 1, 1, 1] g_parseState_startListItem.body)))))))))) (.mark (leaf [(2, .s .loc), (5, .s .loc), (6, .s (.int .i64)), (8, .s (.int .u8)), (9, .s (.int .i64))] (g_parseState_startListItem.k3 R)) (.seq (.leaf (sel [1, 0, 1, 1, 1, 1, 1, 1, 1, 0] g_parseState_startListItem.body)) (.seq (.leaf (sel [1, 0, 1, 1, 1, 1, 1, 1, 1, 1, 0] g_parseState_startListItem.body)) (.seq (.leaf (sel [1, 0, 1, 1, 1, 1, 1, 1, 1, 1, 1, 0] g_parseState_startListItem.body)) (.seq (.leaf (sel [1, 0, 1, 1, 1, 1, 1, 1, 1, 1, 1, 1, 0] g_parseState_startListItem.body)) (.seq (.seq (.leaf (sel [1, 0, 1, 1, 1, 1, 1, 1, 1, 1, 1, 1, 1, 0, 0] g_parseState_startListItem.body)) (.block 5 (.loop (leaf [(2, .s .loc), (5, .s .loc), (6, .s (.int .i64)), (8, .s (.int .u8)), (9, .s (.int .i64)), (12, .s .loc), (13, .s (.int .i64)), (14, .s (.int .i64))] (g_parseState_startListItem.l2 R)) (sel [1, 0, 1, 1, 1, 1, 1, 1, 1, 1, 1, 1, 1, 0, 1, 0, 0] g_parseState_startListItem.body)))) (.mark (leaf [(2, .s .loc), (5, .s .loc), (6, .s (.int .i64)), (8, .s (.int .u8)), (9, .s (.int .i64)), (12, .s .loc), (13, .s (.int .i64))] (g_parseState_startListItem.k6 R)) (.seq (.leaf (sel [1, 0, 1, 1, 1, 1, 1, 1, 1, 1, 1, 1, 1, 1, 0] g_parseState_startListItem.body)) (.mark (leaf [(2, .s .loc), (5, .s .loc), (6, .s (.int .i64)), (8, .s (.int .u8)), (9, .s (.int .i64))] (g_parseState_startListItem.k8 R)) (.seq (.leaf (sel [1, 0, 1, 1, 1, 1, 1, 1, 1, 1, 1, 1, 1, 1, 1, 0] g_parseState_startListItem.body)) (.seq (.leaf (sel [1, 0, 1, 1, 1, 1, 1, 1, 1, 1, 1, 1, 1, 1, 1, 1, 0] g_parseState_startListItem.body)) (.mark (leaf [(2, .s .loc), (5, .s .loc), (6, .s (.int .i64)), (8, .s (.int .u8)), (9, .s (.int .i64)), (15, .s .loc)] (g_parseState_startListItem.k10 R)) (.seq (.seq (.leaf (sel [1, 0, 1, 1, 1, 1, 1, 1, 1, 1, 1, 1, 1, 1, 1, 1, 1, 0, 0] g_parseState_startListItem.body)) (.mark (leaf [(2, .s .loc), (5, .s .loc), (6, .s (.int .i64)), (8, .s (.int .u8)), (9, .s (.int .i64)), (15, .s .loc), (136, .s .bool)] (g_parseState_startListItem.k11 R)) (.cond 136 (.seq (.seq (.leaf (sel [1, 0, 1, 1, 1, 1, 1, 1, 1, 1, 1, 1, 1, 1, 1, 1, 1, 0, 1, 0, 0, 0] g_parseState_startListItem.body)) (.mark (leaf [(2, .s .loc), (5, .s .loc), (6, .s (.int .i64)), (8, .s (.int .u8)), (9, .s (.int .i64)), (15, .s .loc), (158, .s .bool)] (g_parseState_startListItem.k12 R)) (.leaf (sel [1, 0, 1, 1, 1, 1, 1, 1, 1, 1, 1, 1, 1, 1, 1, 1, 1, 0, 1, 0, 0, 1] g_parseState_startListItem.body)))) (.leaf (sel [1, 0, 1, 1, 1, 1, 1, 1, 1, 1, 1, 1, 1, 1, 1, 1, 1, 0, 1, 0, 1] g_parseState_startListItem.body))) (.leaf (sel [1, 0, 1, 1, 1, 1, 1, 1, 1, 1, 1, 1, 1, 1, 1, 1, 1, 0, 1, 1] g_parseState_startListItem.body))))) (.mark (leaf [(2, .s .loc), (5, .s .loc), (6, .s (.int .i64)), (15, .s .loc)] (g_parseState_startListItem.k13 R)) (.seq (.draw (.pure 1 (.load 0 (.two 2 (.pure 3 (.pure 4 (.two 5 (.one 6 (.one 7 .done)) 6 (.one 5 (.one 7 .done))))) 6 (.one 2 (.pure 3 (.pure 4 (.one 5 (.one 7 .done)))))))) (sel [1, 0, 1, 1, 1, 1, 1, 1, 1, 1, 1, 1, 1, 1, 1, 1, 1, 1, 0] g_parseState_startListItem.body)) (.mark (leaf [(2, .s .loc), (5, .s .loc), (15, .s .loc), (18, .s .loc)] (g_parseState_startListItem.k14 R)) (.leaf (sel [1, 0, 1, 1, 1, 1, 1, 1, 1, 1, 1, 1, 1, 1, 1, 1, 1, 1, 1] g_parseState_startListItem.body))))))))))))))))))))))))))))
theorem g_parseState_startListItem.good (R : EP) : Good P 181 (g_parseState_startListItem.ac R) (QF P [.tmp 4] R) :=
  ⟨trivial, ⟨trivial, ⟨trivial, ⟨⟨trivial, (loopG (g_parseState_startListItem.al1 R) (g_parseState_startListItem.bl1 R) (fun _ => by kernel_rfl) (fun Xc => trivial) (fun Xc => by intro x2 x5 x6 x7 ρ w; kernel_rfl) (fun X h _ _ _ _ _ g => g X h))⟩, ⟨⟨trivial, ⟨trivial, ⟨trivial, ⟨⟨trivial, ⟨trivial, ⟨⟨trivial, ⟨trivial, ⟨⟨⟨trivial, (loopG (g_parseState_startListItem.al3 R) (g_parseState_startListItem.bl3 R) (fun _ => by kernel_rfl) (fun Xb => ⟨⟨trivial, ⟨trivial, ⟨⟨trivial, ⟨trivial, cutE (by intro x2 x5 x6 x9 x10 x11 x69 ρ w; kernel_rfl)⟩⟩, ⟨trivial, ⟨trivial, cutE (by intro x2 x5 x6 x9 x10 x11 ρ w; kernel_rfl)⟩⟩⟩⟩⟩, trivial⟩) (fun Xb => by intro x2 x5 x6 x9 x10 ρ w; kernel_rfl) (fun X h _ _ _ _ _ _ g => g X h))⟩, trivial⟩, cutE (by intro x2 x5 x6 x9 x40 ρ w; kernel_rfl)⟩⟩⟩, cutE (by intro x2 x5 x6 x8 x9 x31 x32 ρ w; kernel_rfl)⟩⟩⟩, ⟨⟨trivial, ⟨trivial, ⟨trivial, ⟨trivial, ⟨⟨trivial, (loopG (g_parseState_startListItem.al2 R) (g_parseState_startListItem.bl2 R) (fun _ => by kernel_rfl) (fun Xa => ⟨trivial, ⟨trivial, cutE (by intro x2 x5 x6 x8 x9 x12 x13 x14 ρ w; kernel_rfl)⟩⟩) (fun Xa => by intro x2 x5 x6 x8 x9 x12 x13 x14 ρ w; kernel_rfl) (fun X h _ _ _ _ _ _ _ _ _ g => g X h))⟩, ⟨⟨trivial, ⟨⟨trivial, ⟨trivial, ⟨⟨⟨trivial, ⟨⟨⟨⟨trivial, ⟨trivial, cutE (by intro x2 x5 x6 x8 x9 x15 x158 ρ w; kernel_rfl)⟩⟩, trivial⟩, trivial⟩, cutE (by intro x2 x5 x6 x8 x9 x15 x136 ρ w; kernel_rfl)⟩⟩, ⟨⟨⟨by kernel_rfl, by kernel_rfl, fun _ _ _ h => h⟩, ⟨trivial, cutE (by intro x2 x5 x15 x18 ρ w; kernel_rfl)⟩⟩, cutE (by intro x2 x5 x6 x15 ρ w; kernel_rfl)⟩⟩, cutE (by intro x2 x5 x6 x8 x9 x15 ρ w; kernel_rfl)⟩⟩⟩, cutE (by intro x2 x5 x6 x8 x9 ρ w; kernel_rfl)⟩⟩, cutE (by intro x2 x5 x6 x8 x9 x12 x13 ρ w; kernel_rfl)⟩⟩⟩⟩⟩⟩, cutE (by intro x2 x5 x6 x8 x9 ρ w; kernel_rfl)⟩⟩⟩⟩⟩, cutE (by intro x2 x5 x6 ρ w; kernel_rfl)⟩⟩⟩⟩⟩
theorem g_parseState_startListItem.eq (R : EP) (x0 : OA) (x1 : OA) (w : World) : g_parseState_startListItem R x0 x1 w = vcA P 181 (g_parseState_startListItem.ac R) (QF P [.tmp 4] R) (fr0 [.pointer x0, .pointer x1]) w := by kernel_rfl
theorem g_parseState_startListItem.sound {R : EP} {x0 : OA} {x1 : OA} {w : World} (h : g_parseState_startListItem R x0 x1 w) : callE P i_parseState_startListItem #[.pointer x0, .pointer x1] R w :=
  callE_fin (c := g_parseState_startListItem.body) Tryz.func117 Tryz.call117 (by kernel_rfl) (by kernel_rfl) (by kernel_rfl) (by kernel_rfl) (by kernel_rfl) (g_parseState_startListItem.good R) (g_parseState_startListItem.eq R x0 x1 w) h
namespace g_parseState_para
noncomputable def body : Code := bodyOf Tryz.f69
end g_parseState_para
def g_parseState_para (R : EP) (x0 : OA) (w : World) : Prop :=
 tk w fun w1 =>
 nilP x0 fun a2 =>
 nilP x0 fun a3 =>
 ∃ (v4q : OA), ∃ (v4n : Nat), ∃ (v4c : Nat), w1.cell? (a2.add 4) = some (.slice v4q v4n v4c) ∧
 ∃ (v5q : OA), ∃ (v5n : Nat), ∃ (v5c : Nat), w1.cell? (a3.add 4) = some (.slice v5q v5n v5c) ∧
 0 ≤ (IntKind.i64.wrap ((v5n : Int) - 1)) ∧ (IntKind.i64.wrap ((v5n : Int) - 1)) < (v4n : Int) ∧
 nilP v4q fun a6 =>
 ∃ (v7 : Value), w1.cell? (a6.add (Int.toNat (IntKind.i64.wrap ((v5n : Int) - 1)) * 4)) = some v7 ∧
 ∃ (r8_0 : OA), ∃ (r8_1 : Bool), (∀ w, (Instr.typeAssert v7 ty_blockBuilder ty_P_paraBuilder true).run P w = .ok (.tuple #[.pointer r8_0, .bool r8_1]) w) ∧
 br r8_1
 (R (.returned (.pointer r8_0)) w1)
 (R (.returned (.pointer none)) w1)

noncomputable def g_parseState_para.ac (R : EP) : AC :=
  (.seq (.leaf (sel [0] g_parseState_para.body)) (.seq (.seq (.draw (.pure 0 (.pure 1 (.pure 2 (.pure 4 (.pure 5 (.pure 6 (.load 3 (.load 7 (.pure 8 (.pure 9 (.pure 10 (.pure 11 (.load 12 (.pure 13 (.pure 14 (.pure 15 (.pure 16 (.pure 17 (.pure 18 .done))))))))))))))))))) (sel [1, 0, 0] g_parseState_para.body)) (.leaf (sel [1, 0, 1] g_parseState_para.body))) (.leaf (sel [1, 1] g_parseState_para.body))))
theorem g_parseState_para.good (R : EP) : Good P 24 (g_parseState_para.ac R) (QF P [.tmp 2] R) :=
  ⟨trivial, ⟨⟨⟨by kernel_rfl, by kernel_rfl, fun _ _ _ h => h⟩, trivial⟩, trivial⟩⟩
theorem g_parseState_para.eq (R : EP) (x0 : OA) (w : World) : g_parseState_para R x0 w = vcA P 24 (g_parseState_para.ac R) (QF P [.tmp 2] R) (fr0 [.pointer x0]) w := by kernel_rfl
theorem g_parseState_para.sound {R : EP} {x0 : OA} {w : World} (h : g_parseState_para R x0 w) : callE P i_parseState_para #[.pointer x0] R w :=
  callE_fin (c := g_parseState_para.body) Tryz.func69 Tryz.call69 (by kernel_rfl) (by kernel_rfl) (by kernel_rfl) (by kernel_rfl) (by kernel_rfl) (g_parseState_para.good R) (g_parseState_para.eq R x0 w) h
namespace g_line_trimHeading
noncomputable def body : Code := bodyOf Tryz.f103
def k1 (R : EP) (x0 : OA) (x1 : OA) (x5 : Nat) (x6 : Int) (w : World) : Prop :=
 callE P i_line_trimSpace #[.pointer (some ⟨x5, 0, none⟩), .int .i64 1, .int .i64 1, .bool true] (fun e w21 => ∃ (r20 : Bool), e = .returned (.bool r20) ∧
 br (!r20)
 (R (.returned (.bool false)) w21)
 (nilP x1 fun a22 =>
 stV w21 (a22.add 0) (.int .i64 x6) fun w23 =>
 ∃ (v24 : Int), w23.cell? ⟨x5, 0, none⟩ = some (.int .i64 v24) ∧
 ∃ (v25 : Int), w23.cell? ⟨x5, 1, none⟩ = some (.int .i64 v25) ∧
 ∃ (v26 : Int), w23.cell? ⟨x5, 2, none⟩ = some (.int .i64 v26) ∧
 ∃ (v27 : BA), w23.cell? ⟨x5, 3, none⟩ = some (.string v27) ∧
 ∃ (v28 : Int), w23.cell? ⟨x5, 4, none⟩ = some (.int .u8 v28) ∧
 nilP x0 fun a29 =>
 stV w23 (a29.add 0) (.int .i64 v24) fun w30 =>
 stV w30 (a29.add 1) (.int .i64 v25) fun w31 =>
 stV w31 (a29.add 2) (.int .i64 v26) fun w32 =>
 stV w32 (a29.add 3) (.string v27) fun w33 =>
 stV w33 (a29.add 4) (.int .u8 v28) fun w34 =>
 R (.returned (.bool true)) w34)) w

def bl1 (R : EP) (Xa : OA → OA → Nat → Int → WP) (x0 : OA) (x1 : OA) (x5 : Nat) (x6 : Int) (w : World) : Prop :=
 br (decide (x6 < 6))
 (callE P i_line_trim #[.pointer (some ⟨x5, 0, none⟩), .int .u8 35] (fun e w19 => ∃ (r18 : Bool), e = .returned (.bool r18) ∧
 br r18
 (Xa x0 x1 x5 (IntKind.i64.wrap (x6 + 1)) w19)
 (k1 R x0 x1 x5 x6 w19)) w)
 (k1 R x0 x1 x5 x6 w)
def l1 (R : EP) (x0 : OA) (x1 : OA) (x5 : Nat) (x6 : Int) (w : World) : Prop :=
  ∀ X : OA → OA → Nat → Int → WP, (∀ x0 x1 x5 x6 w, bl1 R X x0 x1 x5 x6 w → X x0 x1 x5 x6 w) → X x0 x1 x5 x6 w

noncomputable def al1 (R : EP) (Xa : OA → OA → Nat → Int → WP) : AC :=
  (.leaf (sel [1, 1, 1, 1, 1, 0, 0, 0] body))
end g_line_trimHeading
def g_line_trimHeading (R : EP) (x0 : OA) (x1 : OA) (w : World) : Prop :=
 nilP x0 fun a1 =>
 ∃ (v2 : Int), w.cell? (a1.add 0) = some (.int .i64 v2) ∧
 ∃ (v3 : Int), w.cell? (a1.add 1) = some (.int .i64 v3) ∧
 ∃ (v4 : Int), w.cell? (a1.add 2) = some (.int .i64 v4) ∧
 ∃ (v5 : BA), w.cell? (a1.add 3) = some (.string v5) ∧
 ∃ (v6 : Int), w.cell? (a1.add 4) = some (.int .u8 v6) ∧
 box w #[.int .i64 0, .int .i64 0, .int .i64 0, .string (ByteArray.mk #[]), .int .u8 0] ty_line fun b7 w8 =>
 stV w8 ⟨b7, 0, none⟩ (.int .i64 v2) fun w9 =>
 stV w9 ⟨b7, 1, none⟩ (.int .i64 v3) fun w10 =>
 stV w10 ⟨b7, 2, none⟩ (.int .i64 v4) fun w11 =>
 stV w11 ⟨b7, 3, none⟩ (.string v5) fun w12 =>
 stV w12 ⟨b7, 4, none⟩ (.int .u8 v6) fun w13 =>
 callE P i_line_trimSpace #[.pointer (some ⟨b7, 0, none⟩), .int .i64 0, .int .i64 3, .bool false] (fun e w15 => ∃ (r14 : Bool), e = .returned (.bool r14) ∧
 callE P i_line_trim #[.pointer (some ⟨b7, 0, none⟩), .int .u8 35] (fun e w17 => ∃ (r16 : Bool), e = .returned (.bool r16) ∧
 br (!r16)
 (R (.returned (.bool false)) w17)
 (g_line_trimHeading.l1 R x0 x1 b7 1 w17)) w15) w13

noncomputable def g_line_trimHeading.ac (R : EP) : AC :=
  (.seq (.leaf (sel [0] g_line_trimHeading.body)) (.seq (.leaf (sel [1, 0] g_line_trimHeading.body)) (.seq (.leaf (sel [1, 1, 0] g_line_trimHeading.body)) (.seq (.leaf (sel [1, 1, 1, 0] g_line_trimHeading.body)) (.seq (.leaf (sel [1, 1, 1, 1, 0] g_line_trimHeading.body)) (.seq (.block 0 (.loop (leaf [(0, .s .ptr), (1, .s .ptr), (5, .s .loc), (6, .s (.int .i64))] (g_line_trimHeading.l1 R)) (sel [1, 1, 1, 1, 1, 0, 0, 0] g_line_trimHeading.body))) (.mark (leaf [(0, .s .ptr), (1, .s .ptr), (5, .s .loc), (6, .s (.int .i64))] (g_line_trimHeading.k1 R)) (.leaf (sel [1, 1, 1, 1, 1, 1] g_line_trimHeading.body)))))))))
theorem g_line_trimHeading.good (R : EP) : Good P 28 (g_line_trimHeading.ac R) (QF P [.tmp 4] R) :=
  ⟨trivial, ⟨trivial, ⟨trivial, ⟨trivial, ⟨trivial, ⟨(loopG (g_line_trimHeading.al1 R) (g_line_trimHeading.bl1 R) (fun _ => by kernel_rfl) (fun Xa => trivial) (fun Xa => by intro x0 x1 x5 x6 ρ w; kernel_rfl) (fun X h _ _ _ _ _ g => g X h)), ⟨trivial, cutE (by intro x0 x1 x5 x6 ρ w; kernel_rfl)⟩⟩⟩⟩⟩⟩⟩
theorem g_line_trimHeading.eq (R : EP) (x0 : OA) (x1 : OA) (w : World) : g_line_trimHeading R x0 x1 w = vcA P 28 (g_line_trimHeading.ac R) (QF P [.tmp 4] R) (fr0 [.pointer x0, .pointer x1]) w := by kernel_rfl
theorem g_line_trimHeading.sound {R : EP} {x0 : OA} {x1 : OA} {w : World} (h : g_line_trimHeading R x0 x1 w) : callE P i_line_trimHeading #[.pointer x0, .pointer x1] R w :=
  callE_fin (c := g_line_trimHeading.body) Tryz.func103 Tryz.call103 (by kernel_rfl) (by kernel_rfl) (by kernel_rfl) (by kernel_rfl) (by kernel_rfl) (g_line_trimHeading.good R) (g_line_trimHeading.eq R x0 x1 w) h
namespace g_newATXHeading
noncomputable def body : Code := bodyOf Tryz.f62
def k2 (R : EP) (x0 : OA) (x4 : Nat) (x7 : Nat) (x8 : BA) (x10 : BA) (w : World) : Prop :=
 tk w fun w57 =>
 nilP x0 fun a58 =>
 nilP x0 fun a59 =>
 ∃ (v60 : Int), w57.cell? (a58.add 3) = some (.int .i64 v60) ∧
 ∃ (v61 : Int), w57.cell? (a59.add 3) = some (.int .i64 v61) ∧
 box w57 #[.int .i64 0, .int .i64 0] ty_Position fun b62 w63 =>
 SameC w57 w63 (a59.add 3) 1 ∧
 SameC w57 w63 (a58.add 3) 1 ∧
 stV w63 ⟨b62, 0, none⟩ (.int .i64 v60) fun w64 =>
 stV w64 ⟨b62, 1, none⟩ (.int .i64 v61) fun w65 =>
 tk w65 fun w66 =>
 ∃ (v67 : Int), w66.cell? ⟨b62, 0, none⟩ = some (.int .i64 v67) ∧
 ∃ (v68 : Int), w66.cell? ⟨b62, 1, none⟩ = some (.int .i64 v68) ∧
 ∃ (v69 : Int), w66.cell? ⟨x7, 0, none⟩ = some (.int .i64 v69) ∧
 ∃ (v70 : Int), w66.cell? ⟨b62, 0, none⟩ = some (.int .i64 v70) ∧
 ∃ (v71 : Int), w66.cell? ⟨b62, 1, none⟩ = some (.int .i64 v71) ∧
 callE P i_parseState_newText #[.pointer x0, .agg #[.int .i64 v70, .int .i64 v71], .string x8] (fun e w73 => ∃ (r72 : OA), e = .returned (.pointer r72) ∧
 SameC w66 w73 ⟨x7, 0, none⟩ 1 ∧
 SameC w66 w73 ⟨b62, 0, none⟩ 2 ∧
 box w73 #[.int .i64 v67, .int .i64 v68, .int .i64 v69, .pointer r72, .string x10] ty_Heading fun b74 w75 =>
 callE P i_parseState_doneBlock #[.pointer x0, .iface ty_P_Heading (.pointer (some ⟨b74, 0, none⟩))] (fun e w77 => e = .returned (.tuple #[]) ∧
 stV w77 ⟨x4, 0, none⟩ (.int .i64 0) fun w78 =>
 stV w78 ⟨x4, 1, none⟩ (.int .i64 0) fun w79 =>
 stV w79 ⟨x4, 2, none⟩ (.int .i64 0) fun w80 =>
 stV w80 ⟨x4, 3, none⟩ (.string (ByteArray.mk #[])) fun w81 =>
 stV w81 ⟨x4, 4, none⟩ (.int .u8 0) fun w82 =>
 ∃ (v83 : Int), w82.cell? ⟨x4, 0, none⟩ = some (.int .i64 v83) ∧
 ∃ (v84 : Int), w82.cell? ⟨x4, 1, none⟩ = some (.int .i64 v84) ∧
 ∃ (v85 : Int), w82.cell? ⟨x4, 2, none⟩ = some (.int .i64 v85) ∧
 ∃ (v86 : BA), w82.cell? ⟨x4, 3, none⟩ = some (.string v86) ∧
 ∃ (v87 : Int), w82.cell? ⟨x4, 4, none⟩ = some (.int .u8 v87) ∧
 R (.returned (.tuple #[.agg #[.int .i64 v83, .int .i64 v84, .int .i64 v85, .string v86, .int .u8 v87], .bool true])) w82) w75) w66

def k3 (R : EP) (Xa : OA → Nat → Nat → BA → BA → Value → WP) (x0 : OA) (x4 : Nat) (x7 : Nat) (x8 : BA) (x10 : BA) (x44 : Value) (x55 : Bool) (w : World) : Prop :=
 br x55
 (nilP x0 fun a88 =>
 stV w ((a88.add 6).add 0) (.bool true) fun w89 =>
 Xa x0 x4 x7 x8 x10 x44 w89)
 (Xa x0 x4 x7 x8 x10 x44 w)

def bl1 (R : EP) (Xa : OA → Nat → Nat → BA → BA → Value → WP) (x0 : OA) (x4 : Nat) (x7 : Nat) (x8 : BA) (x10 : BA) (x44 : Value) (w : World) : Prop :=
 (∃ w52, (Instr.next x44 true ty_).run P w = .ok (.tuple #[.bool false]) w52 ∧
 k2 R x0 x4 x7 x8 x10 w52) ∨
 (∃ (r53_0 : Int), ∃ (r53_1 : Int), ∃ w54, (Instr.next x44 true ty_).run P w = .ok (.tuple #[.bool true, .int .i64 r53_0, .int .i32 r53_1]) w54 ∧
 br (decide (r53_1 ≥ 128))
 (k3 R Xa x0 x4 x7 x8 x10 x44 true w54)
 (callE P i_isLetterDigit #[.int .u8 (IntKind.u8.wrap r53_1)] (fun e w56 => ∃ (r55 : Bool), e = .returned (.bool r55) ∧
 k3 R Xa x0 x4 x7 x8 x10 x44 (!r55) w56) w54))
def l1 (R : EP) (x0 : OA) (x4 : Nat) (x7 : Nat) (x8 : BA) (x10 : BA) (x44 : Value) (w : World) : Prop :=
  ∀ X : OA → Nat → Nat → BA → BA → Value → WP, (∀ x0 x4 x7 x8 x10 x44 w, bl1 R X x0 x4 x7 x8 x10 x44 w → X x0 x4 x7 x8 x10 x44 w) → X x0 x4 x7 x8 x10 x44 w

noncomputable def al1 (R : EP) (Xa : OA → Nat → Nat → BA → BA → Value → WP) : AC :=
  (.seq (.leaf (sel [1, 1, 1, 0, 1, 0, 1, 1, 1, 1, 0, 1, 0, 1, 1, 0, 0, 0] body)) (.seq (.leaf (sel [1, 1, 1, 0, 1, 0, 1, 1, 1, 1, 0, 1, 0, 1, 1, 0, 0, 1, 0] body)) (.block 1 (.seq (.leaf (sel [1, 1, 1, 0, 1, 0, 1, 1, 1, 1, 0, 1, 0, 1, 1, 0, 0, 1, 1, 0, 0] body)) (.seq (.leaf (sel [1, 1, 1, 0, 1, 0, 1, 1, 1, 1, 0, 1, 0, 1, 1, 0, 0, 1, 1, 0, 1, 0] body)) (.mark (leaf [(0, .s .ptr), (4, .s .loc), (7, .s .loc), (8, .s .str), (10, .s .str), (44, .s .any), (55, .s .bool)] (k3 R Xa)) (.leaf (sel [1, 1, 1, 0, 1, 0, 1, 1, 1, 1, 0, 1, 0, 1, 1, 0, 0, 1, 1, 0, 1, 1] body))))))))
def k1 (R : EP) (x0 : OA) (x4 : Nat) (x7 : Nat) (x8 : BA) (w : World) : Prop :=
 nilP x0 fun a44 =>
 ∃ (v45 : OA), w.cell? a44 = some (.pointer v45) ∧
 nilP v45 fun a46 =>
 ∃ (v47 : Bool), w.cell? a46 = some (.bool v47) ∧
 br v47
 (callE P i_extractID #[.pointer x0, .string x8] (fun e w49 => ∃ (r48_0 : BA), ∃ (r48_1 : BA), e = .returned (.tuple #[.string r48_0, .string r48_1]) ∧
 ∃ (r50 : Value), ∃ w51, (Instr.range ty_string (.string r48_0)).run P w49 = .ok r50 w51 ∧
 l1 R x0 x4 x7 r48_1 r48_0 r50 w51) w)
 (k2 R x0 x4 x7 x8 (ByteArray.mk #[]) w)

end g_newATXHeading
def g_newATXHeading (R : EP) (x0 : OA) (x1_0 : Int) (x1_1 : Int) (x1_2 : Int) (x1_3 : BA) (x1_4 : Int) (w : World) : Prop :=
 box w #[.int .i64 x1_0, .int .i64 x1_1, .int .i64 x1_2, .string x1_3, .int .u8 x1_4] ty_line fun b1 w2 =>
 box w2 #[.int .i64 0, .int .i64 0, .int .i64 0, .string (ByteArray.mk #[]), .int .u8 0] ty_line fun b3 w4 =>
 ∃ (v5 : Int), w4.cell? ⟨b1, 0, none⟩ = some (.int .i64 v5) ∧
 ∃ (v6 : Int), w4.cell? ⟨b1, 1, none⟩ = some (.int .i64 v6) ∧
 ∃ (v7 : Int), w4.cell? ⟨b1, 2, none⟩ = some (.int .i64 v7) ∧
 ∃ (v8 : BA), w4.cell? ⟨b1, 3, none⟩ = some (.string v8) ∧
 ∃ (v9 : Int), w4.cell? ⟨b1, 4, none⟩ = some (.int .u8 v9) ∧
 box w4 #[.int .i64 0, .int .i64 0, .int .i64 0, .string (ByteArray.mk #[]), .int .u8 0] ty_line fun b10 w11 =>
 stV w11 ⟨b10, 0, none⟩ (.int .i64 v5) fun w12 =>
 stV w12 ⟨b10, 1, none⟩ (.int .i64 v6) fun w13 =>
 stV w13 ⟨b10, 2, none⟩ (.int .i64 v7) fun w14 =>
 stV w14 ⟨b10, 3, none⟩ (.string v8) fun w15 =>
 stV w15 ⟨b10, 4, none⟩ (.int .u8 v9) fun w16 =>
 box w16 #[.int .i64 0] ty_int fun b17 w18 =>
 callE P i_line_trimHeading #[.pointer (some ⟨b10, 0, none⟩), .pointer (some ⟨b17, 0, none⟩)] (fun e w20 => ∃ (r19 : Bool), e = .returned (.bool r19) ∧
 br r19
 (callE P i_line_string #[.pointer (some ⟨b10, 0, none⟩)] (fun e w22 => ∃ (r21 : BA), e = .returned (.string r21) ∧
 callE P i_trimRightSpaceTab #[.string r21] (fun e w24 => ∃ (r23 : BA), e = .returned (.string r23) ∧
 callE P i_zzTrimRight #[.string r23, .string (ByteArray.mk #[35])] (fun e w26 => ∃ (r25 : BA), e = .returned (.string r25) ∧
 callE P i_trimRightSpaceTab #[.string r25] (fun e w28 => ∃ (r27 : BA), e = .returned (.string r27) ∧
 br ((!(r25.toList == r27.toList)) || (r25.toList == (ByteArray.mk #[]).toList))
 (g_newATXHeading.k1 R x0 b3 b17 r25 w28)
 (g_newATXHeading.k1 R x0 b3 b17 r23 w28)) w26) w24) w22) w20)
 (∃ (v29 : Int), w20.cell? ⟨b1, 0, none⟩ = some (.int .i64 v29) ∧
 ∃ (v30 : Int), w20.cell? ⟨b1, 1, none⟩ = some (.int .i64 v30) ∧
 ∃ (v31 : Int), w20.cell? ⟨b1, 2, none⟩ = some (.int .i64 v31) ∧
 ∃ (v32 : BA), w20.cell? ⟨b1, 3, none⟩ = some (.string v32) ∧
 ∃ (v33 : Int), w20.cell? ⟨b1, 4, none⟩ = some (.int .u8 v33) ∧
 stV w20 ⟨b3, 0, none⟩ (.int .i64 v29) fun w34 =>
 stV w34 ⟨b3, 1, none⟩ (.int .i64 v30) fun w35 =>
 stV w35 ⟨b3, 2, none⟩ (.int .i64 v31) fun w36 =>
 stV w36 ⟨b3, 3, none⟩ (.string v32) fun w37 =>
 stV w37 ⟨b3, 4, none⟩ (.int .u8 v33) fun w38 =>
 ∃ (v39 : Int), w38.cell? ⟨b3, 0, none⟩ = some (.int .i64 v39) ∧
 ∃ (v40 : Int), w38.cell? ⟨b3, 1, none⟩ = some (.int .i64 v40) ∧
 ∃ (v41 : Int), w38.cell? ⟨b3, 2, none⟩ = some (.int .i64 v41) ∧
 ∃ (v42 : BA), w38.cell? ⟨b3, 3, none⟩ = some (.string v42) ∧
 ∃ (v43 : Int), w38.cell? ⟨b3, 4, none⟩ = some (.int .u8 v43) ∧
 R (.returned (.tuple #[.agg #[.int .i64 v39, .int .i64 v40, .int .i64 v41, .string v42, .int .u8 v43], .bool false])) w38)) w18

noncomputable def g_newATXHeading.ac (R : EP) : AC :=
  (.seq (.leaf (sel [0] g_newATXHeading.body)) (.seq (.leaf (sel [1, 0] g_newATXHeading.body)) (.seq (.leaf (sel [1, 1, 0] g_newATXHeading.body)) (.seq (.seq (.leaf (sel [1, 1, 1, 0, 0] g_newATXHeading.body)) (.cond 15 (.seq (.leaf (sel [1, 1, 1, 0, 1, 0, 0] g_newATXHeading.body)) (.seq (.leaf (sel [1, 1, 1, 0, 1, 0, 1, 0] g_newATXHeading.body)) (.seq (.leaf (sel [1, 1, 1, 0, 1, 0, 1, 1, 0] g_newATXHeading.body)) (.mark (leaf [(0, .s .ptr), (4, .s .loc), (7, .s .loc), (8, .s .str)] (g_newATXHeading.k1 R)) (.seq (.leaf (sel [1, 1, 1, 0, 1, 0, 1, 1, 1, 0] g_newATXHeading.body)) (.seq (.seq (.leaf (sel [1, 1, 1, 0, 1, 0, 1, 1, 1, 1, 0, 0] g_newATXHeading.body)) (.cond 36 (.seq (.leaf (sel [1, 1, 1, 0, 1, 0, 1, 1, 1, 1, 0, 1, 0, 0] g_newATXHeading.body)) (.seq (.leaf (sel [1, 1, 1, 0, 1, 0, 1, 1, 1, 1, 0, 1, 0, 1, 0] g_newATXHeading.body)) (.block 0 (.loop (leaf [(0, .s .ptr), (4, .s .loc), (7, .s .loc), (8, .s .str), (10, .s .str), (44, .s .any)] (g_newATXHeading.l1 R)) (sel [1, 1, 1, 0, 1, 0, 1, 1, 1, 1, 0, 1, 0, 1, 1, 0, 0] g_newATXHeading.body))))) (.leaf (sel [1, 1, 1, 0, 1, 0, 1, 1, 1, 1, 0, 1, 1] g_newATXHeading.body)))) (.mark (leaf [(0, .s .ptr), (4, .s .loc), (7, .s .loc), (8, .s .str), (10, .s .str)] (g_newATXHeading.k2 R)) (.seq (.draw (.pure 0 (.pure 1 (.pure 2 (.pure 4 (.pure 5 (.pure 6 (.load 3 (.load 7 (.pure 8 (.one 9 (.one 10 .done))))))))))) (sel [1, 1, 1, 0, 1, 0, 1, 1, 1, 1, 1, 0] g_newATXHeading.body)) (.seq (.draw (.pure 0 (.pure 3 (.pure 5 (.pure 7 (.load 1 (.load 2 (.load 4 (.one 6 (.pure 8 (.one 9 (.pure 10 (.one 11 .done)))))))))))) (sel [1, 1, 1, 0, 1, 0, 1, 1, 1, 1, 1, 1, 0] g_newATXHeading.body)) (.leaf (sel [1, 1, 1, 0, 1, 0, 1, 1, 1, 1, 1, 1, 1] g_newATXHeading.body))))))))))) (.leaf (sel [1, 1, 1, 0, 1, 1] g_newATXHeading.body)))) (.leaf (sel [1, 1, 1, 1] g_newATXHeading.body))))))
theorem g_newATXHeading.good (R : EP) : Good P 82 (g_newATXHeading.ac R) (QF P [.cell 4 80, .tmp 5] R) :=
  ⟨trivial, ⟨trivial, ⟨trivial, ⟨⟨trivial, ⟨⟨trivial, ⟨trivial, ⟨trivial, ⟨⟨trivial, ⟨⟨trivial, ⟨⟨trivial, ⟨trivial, (loopG (g_newATXHeading.al1 R) (g_newATXHeading.bl1 R) (fun _ => by kernel_rfl) (fun Xa => ⟨trivial, ⟨trivial, ⟨trivial, ⟨trivial, ⟨trivial, cutE (by intro x0 x4 x7 x8 x10 x44 x55 ρ w; kernel_rfl)⟩⟩⟩⟩⟩) (fun Xa => by intro x0 x4 x7 x8 x10 x44 ρ w; kernel_rfl) (fun X h _ _ _ _ _ _ _ g => g X h))⟩⟩, trivial⟩⟩, ⟨⟨⟨by kernel_rfl, by kernel_rfl, fun _ _ _ h => h⟩, ⟨⟨by kernel_rfl, by kernel_rfl, fun _ _ _ h => h⟩, trivial⟩⟩, cutE (by intro x0 x4 x7 x8 x10 ρ w; kernel_rfl)⟩⟩⟩, cutE (by intro x0 x4 x7 x8 ρ w; kernel_rfl)⟩⟩⟩⟩, trivial⟩⟩, trivial⟩⟩⟩⟩
theorem g_newATXHeading.eq (R : EP) (x0 : OA) (x1_0 : Int) (x1_1 : Int) (x1_2 : Int) (x1_3 : BA) (x1_4 : Int) (w : World) : g_newATXHeading R x0 x1_0 x1_1 x1_2 x1_3 x1_4 w = vcA P 82 (g_newATXHeading.ac R) (QF P [.cell 4 80, .tmp 5] R) (fr0 [.pointer x0, .agg #[.int .i64 x1_0, .int .i64 x1_1, .int .i64 x1_2, .string x1_3, .int .u8 x1_4]]) w := by kernel_rfl
theorem g_newATXHeading.sound {R : EP} {x0 : OA} {x1_0 : Int} {x1_1 : Int} {x1_2 : Int} {x1_3 : ByteArray} {x1_4 : Int} {w : World} (h : g_newATXHeading R x0 x1_0 x1_1 x1_2 x1_3 x1_4 w) : callE P i_newATXHeading #[.pointer x0, .agg #[.int .i64 x1_0, .int .i64 x1_1, .int .i64 x1_2, .string x1_3, .int .u8 x1_4]] R w :=
  callE_fin (c := g_newATXHeading.body) Tryz.func62 Tryz.call62 (by kernel_rfl) (by kernel_rfl) (by kernel_rfl) (by kernel_rfl) (by kernel_rfl) (g_newATXHeading.good R) (g_newATXHeading.eq R x0 x1_0 x1_1 x1_2 x1_3 x1_4 w) h
namespace g_newHR
noncomputable def body : Code := bodyOf Tryz.f64
end g_newHR
def g_newHR (R : EP) (x0 : OA) (x1_0 : Int) (x1_1 : Int) (x1_2 : Int) (x1_3 : BA) (x1_4 : Int) (w : World) : Prop :=
 box w #[.int .i64 x1_0, .int .i64 x1_1, .int .i64 x1_2, .string x1_3, .int .u8 x1_4] ty_line fun b1 w2 =>
 box w2 #[.int .i64 0, .int .i64 0, .int .i64 0, .string (ByteArray.mk #[]), .int .u8 0] ty_line fun b3 w4 =>
 ∃ (v5 : Int), w4.cell? ⟨b1, 0, none⟩ = some (.int .i64 v5) ∧
 ∃ (v6 : Int), w4.cell? ⟨b1, 1, none⟩ = some (.int .i64 v6) ∧
 ∃ (v7 : Int), w4.cell? ⟨b1, 2, none⟩ = some (.int .i64 v7) ∧
 ∃ (v8 : BA), w4.cell? ⟨b1, 3, none⟩ = some (.string v8) ∧
 ∃ (v9 : Int), w4.cell? ⟨b1, 4, none⟩ = some (.int .u8 v9) ∧
 callE P i_isHR #[.agg #[.int .i64 v5, .int .i64 v6, .int .i64 v7, .string v8, .int .u8 v9]] (fun e w11 => ∃ (r10 : Bool), e = .returned (.bool r10) ∧
 br r10
 (tk w11 fun w12 =>
 nilP x0 fun a13 =>
 nilP x0 fun a14 =>
 ∃ (v15 : Int), w12.cell? (a13.add 3) = some (.int .i64 v15) ∧
 ∃ (v16 : Int), w12.cell? (a14.add 3) = some (.int .i64 v16) ∧
 callE P i_line_string #[.pointer (some ⟨b1, 0, none⟩)] (fun e w18 => ∃ (r17 : BA), e = .returned (.string r17) ∧
 SameC w12 w18 (a14.add 3) 1 ∧
 SameC w12 w18 (a13.add 3) 1 ∧
 box w18 #[.int .i64 v15, .int .i64 v16, .string r17] ty_ThematicBreak fun b19 w20 =>
 callE P i_parseState_doneBlock #[.pointer x0, .iface ty_P_ThematicBreak (.pointer (some ⟨b19, 0, none⟩))] (fun e w22 => e = .returned (.tuple #[]) ∧
 stV w22 ⟨b3, 0, none⟩ (.int .i64 0) fun w23 =>
 stV w23 ⟨b3, 1, none⟩ (.int .i64 0) fun w24 =>
 stV w24 ⟨b3, 2, none⟩ (.int .i64 0) fun w25 =>
 stV w25 ⟨b3, 3, none⟩ (.string (ByteArray.mk #[])) fun w26 =>
 stV w26 ⟨b3, 4, none⟩ (.int .u8 0) fun w27 =>
 ∃ (v28 : Int), w27.cell? ⟨b3, 0, none⟩ = some (.int .i64 v28) ∧
 ∃ (v29 : Int), w27.cell? ⟨b3, 1, none⟩ = some (.int .i64 v29) ∧
 ∃ (v30 : Int), w27.cell? ⟨b3, 2, none⟩ = some (.int .i64 v30) ∧
 ∃ (v31 : BA), w27.cell? ⟨b3, 3, none⟩ = some (.string v31) ∧
 ∃ (v32 : Int), w27.cell? ⟨b3, 4, none⟩ = some (.int .u8 v32) ∧
 R (.returned (.tuple #[.agg #[.int .i64 v28, .int .i64 v29, .int .i64 v30, .string v31, .int .u8 v32], .bool true])) w27) w20) w12)
 (∃ (v33 : Int), w11.cell? ⟨b1, 0, none⟩ = some (.int .i64 v33) ∧
 ∃ (v34 : Int), w11.cell? ⟨b1, 1, none⟩ = some (.int .i64 v34) ∧
 ∃ (v35 : Int), w11.cell? ⟨b1, 2, none⟩ = some (.int .i64 v35) ∧
 ∃ (v36 : BA), w11.cell? ⟨b1, 3, none⟩ = some (.string v36) ∧
 ∃ (v37 : Int), w11.cell? ⟨b1, 4, none⟩ = some (.int .u8 v37) ∧
 stV w11 ⟨b3, 0, none⟩ (.int .i64 v33) fun w38 =>
 stV w38 ⟨b3, 1, none⟩ (.int .i64 v34) fun w39 =>
 stV w39 ⟨b3, 2, none⟩ (.int .i64 v35) fun w40 =>
 stV w40 ⟨b3, 3, none⟩ (.string v36) fun w41 =>
 stV w41 ⟨b3, 4, none⟩ (.int .u8 v37) fun w42 =>
 ∃ (v43 : Int), w42.cell? ⟨b3, 0, none⟩ = some (.int .i64 v43) ∧
 ∃ (v44 : Int), w42.cell? ⟨b3, 1, none⟩ = some (.int .i64 v44) ∧
 ∃ (v45 : Int), w42.cell? ⟨b3, 2, none⟩ = some (.int .i64 v45) ∧
 ∃ (v46 : BA), w42.cell? ⟨b3, 3, none⟩ = some (.string v46) ∧
 ∃ (v47 : Int), w42.cell? ⟨b3, 4, none⟩ = some (.int .u8 v47) ∧
 R (.returned (.tuple #[.agg #[.int .i64 v43, .int .i64 v44, .int .i64 v45, .string v46, .int .u8 v47], .bool false])) w42)) w4

noncomputable def g_newHR.ac (R : EP) : AC :=
  (.seq (.leaf (sel [0] g_newHR.body)) (.seq (.seq (.leaf (sel [1, 0, 0] g_newHR.body)) (.cond 7 (.seq (.draw (.pure 0 (.pure 1 (.pure 2 (.pure 3 (.pure 5 (.pure 6 (.pure 7 (.load 4 (.load 8 (.pure 9 (.one 10 (.pure 11 (.one 12 (.pure 13 (.one 14 .done))))))))))))))) (sel [1, 0, 1, 0, 0] g_newHR.body)) (.leaf (sel [1, 0, 1, 0, 1] g_newHR.body))) (.leaf (sel [1, 0, 1, 1] g_newHR.body)))) (.leaf (sel [1, 1] g_newHR.body))))
theorem g_newHR.good (R : EP) : Good P 25 (g_newHR.ac R) (QF P [.cell 4 80, .tmp 5] R) :=
  ⟨trivial, ⟨⟨trivial, ⟨⟨⟨by kernel_rfl, by kernel_rfl, fun _ _ _ h => h⟩, trivial⟩, trivial⟩⟩, trivial⟩⟩
theorem g_newHR.eq (R : EP) (x0 : OA) (x1_0 : Int) (x1_1 : Int) (x1_2 : Int) (x1_3 : BA) (x1_4 : Int) (w : World) : g_newHR R x0 x1_0 x1_1 x1_2 x1_3 x1_4 w = vcA P 25 (g_newHR.ac R) (QF P [.cell 4 80, .tmp 5] R) (fr0 [.pointer x0, .agg #[.int .i64 x1_0, .int .i64 x1_1, .int .i64 x1_2, .string x1_3, .int .u8 x1_4]]) w := by kernel_rfl
theorem g_newHR.sound {R : EP} {x0 : OA} {x1_0 : Int} {x1_1 : Int} {x1_2 : Int} {x1_3 : ByteArray} {x1_4 : Int} {w : World} (h : g_newHR R x0 x1_0 x1_1 x1_2 x1_3 x1_4 w) : callE P i_newHR #[.pointer x0, .agg #[.int .i64 x1_0, .int .i64 x1_1, .int .i64 x1_2, .string x1_3, .int .u8 x1_4]] R w :=
  callE_fin (c := g_newHR.body) Tryz.func64 Tryz.call64 (by kernel_rfl) (by kernel_rfl) (by kernel_rfl) (by kernel_rfl) (by kernel_rfl) (g_newHR.good R) (g_newHR.eq R x0 x1_0 x1_1 x1_2 x1_3 x1_4 w) h
namespace g_newQuote
noncomputable def body : Code := bodyOf Tryz.f61
end g_newQuote
def g_newQuote (R : EP) (x0 : OA) (x1_0 : Int) (x1_1 : Int) (x1_2 : Int) (x1_3 : BA) (x1_4 : Int) (w : World) : Prop :=
 box w #[.int .i64 x1_0, .int .i64 x1_1, .int .i64 x1_2, .string x1_3, .int .u8 x1_4] ty_line fun b1 w2 =>
 box w2 #[.int .i64 0, .int .i64 0, .int .i64 0, .string (ByteArray.mk #[]), .int .u8 0] ty_line fun b3 w4 =>
 ∃ (v5 : Int), w4.cell? ⟨b1, 0, none⟩ = some (.int .i64 v5) ∧
 ∃ (v6 : Int), w4.cell? ⟨b1, 1, none⟩ = some (.int .i64 v6) ∧
 ∃ (v7 : Int), w4.cell? ⟨b1, 2, none⟩ = some (.int .i64 v7) ∧
 ∃ (v8 : BA), w4.cell? ⟨b1, 3, none⟩ = some (.string v8) ∧
 ∃ (v9 : Int), w4.cell? ⟨b1, 4, none⟩ = some (.int .u8 v9) ∧
 callE P i_trimQuote #[.agg #[.int .i64 v5, .int .i64 v6, .int .i64 v7, .string v8, .int .u8 v9]] (fun e w11 => ∃ (r10_0_0 : Int), ∃ (r10_0_1 : Int), ∃ (r10_0_2 : Int), ∃ (r10_0_3 : BA), ∃ (r10_0_4 : Int), ∃ (r10_1 : Bool), e = .returned (.tuple #[.agg #[.int .i64 r10_0_0, .int .i64 r10_0_1, .int .i64 r10_0_2, .string r10_0_3, .int .u8 r10_0_4], .bool r10_1]) ∧
 box w11 #[.int .i64 0, .int .i64 0, .int .i64 0, .string (ByteArray.mk #[]), .int .u8 0] ty_line fun b12 w13 =>
 stV w13 ⟨b12, 0, none⟩ (.int .i64 r10_0_0) fun w14 =>
 stV w14 ⟨b12, 1, none⟩ (.int .i64 r10_0_1) fun w15 =>
 stV w15 ⟨b12, 2, none⟩ (.int .i64 r10_0_2) fun w16 =>
 stV w16 ⟨b12, 3, none⟩ (.string r10_0_3) fun w17 =>
 stV w17 ⟨b12, 4, none⟩ (.int .u8 r10_0_4) fun w18 =>
 br r10_1
 (box w18 #[] ty_quoteBuilder fun b19 w20 =>
 callE P i_parseState_addBlock #[.pointer x0, .iface ty_P_quoteBuilder (.pointer (some ⟨b19, 0, none⟩))] (fun e w22 => e = .returned (.tuple #[]) ∧
 ∃ (v23 : Int), w22.cell? ⟨b12, 0, none⟩ = some (.int .i64 v23) ∧
 ∃ (v24 : Int), w22.cell? ⟨b12, 1, none⟩ = some (.int .i64 v24) ∧
 ∃ (v25 : Int), w22.cell? ⟨b12, 2, none⟩ = some (.int .i64 v25) ∧
 ∃ (v26 : BA), w22.cell? ⟨b12, 3, none⟩ = some (.string v26) ∧
 ∃ (v27 : Int), w22.cell? ⟨b12, 4, none⟩ = some (.int .u8 v27) ∧
 stV w22 ⟨b3, 0, none⟩ (.int .i64 v23) fun w28 =>
 stV w28 ⟨b3, 1, none⟩ (.int .i64 v24) fun w29 =>
 stV w29 ⟨b3, 2, none⟩ (.int .i64 v25) fun w30 =>
 stV w30 ⟨b3, 3, none⟩ (.string v26) fun w31 =>
 stV w31 ⟨b3, 4, none⟩ (.int .u8 v27) fun w32 =>
 ∃ (v33 : Int), w32.cell? ⟨b3, 0, none⟩ = some (.int .i64 v33) ∧
 ∃ (v34 : Int), w32.cell? ⟨b3, 1, none⟩ = some (.int .i64 v34) ∧
 ∃ (v35 : Int), w32.cell? ⟨b3, 2, none⟩ = some (.int .i64 v35) ∧
 ∃ (v36 : BA), w32.cell? ⟨b3, 3, none⟩ = some (.string v36) ∧
 ∃ (v37 : Int), w32.cell? ⟨b3, 4, none⟩ = some (.int .u8 v37) ∧
 R (.returned (.tuple #[.agg #[.int .i64 v33, .int .i64 v34, .int .i64 v35, .string v36, .int .u8 v37], .bool true])) w32) w20)
 (∃ (v38 : Int), w18.cell? ⟨b1, 0, none⟩ = some (.int .i64 v38) ∧
 ∃ (v39 : Int), w18.cell? ⟨b1, 1, none⟩ = some (.int .i64 v39) ∧
 ∃ (v40 : Int), w18.cell? ⟨b1, 2, none⟩ = some (.int .i64 v40) ∧
 ∃ (v41 : BA), w18.cell? ⟨b1, 3, none⟩ = some (.string v41) ∧
 ∃ (v42 : Int), w18.cell? ⟨b1, 4, none⟩ = some (.int .u8 v42) ∧
 stV w18 ⟨b3, 0, none⟩ (.int .i64 v38) fun w43 =>
 stV w43 ⟨b3, 1, none⟩ (.int .i64 v39) fun w44 =>
 stV w44 ⟨b3, 2, none⟩ (.int .i64 v40) fun w45 =>
 stV w45 ⟨b3, 3, none⟩ (.string v41) fun w46 =>
 stV w46 ⟨b3, 4, none⟩ (.int .u8 v42) fun w47 =>
 ∃ (v48 : Int), w47.cell? ⟨b3, 0, none⟩ = some (.int .i64 v48) ∧
 ∃ (v49 : Int), w47.cell? ⟨b3, 1, none⟩ = some (.int .i64 v49) ∧
 ∃ (v50 : Int), w47.cell? ⟨b3, 2, none⟩ = some (.int .i64 v50) ∧
 ∃ (v51 : BA), w47.cell? ⟨b3, 3, none⟩ = some (.string v51) ∧
 ∃ (v52 : Int), w47.cell? ⟨b3, 4, none⟩ = some (.int .u8 v52) ∧
 R (.returned (.tuple #[.agg #[.int .i64 v48, .int .i64 v49, .int .i64 v50, .string v51, .int .u8 v52], .bool false])) w47)) w4

noncomputable def g_newQuote.ac (R : EP) : AC :=
  (.leaf (sel [] g_newQuote.body))
theorem g_newQuote.good (R : EP) : Good P 20 (g_newQuote.ac R) (QF P [.cell 4 80, .tmp 5] R) :=
  trivial
theorem g_newQuote.eq (R : EP) (x0 : OA) (x1_0 : Int) (x1_1 : Int) (x1_2 : Int) (x1_3 : BA) (x1_4 : Int) (w : World) : g_newQuote R x0 x1_0 x1_1 x1_2 x1_3 x1_4 w = vcA P 20 (g_newQuote.ac R) (QF P [.cell 4 80, .tmp 5] R) (fr0 [.pointer x0, .agg #[.int .i64 x1_0, .int .i64 x1_1, .int .i64 x1_2, .string x1_3, .int .u8 x1_4]]) w := by kernel_rfl
theorem g_newQuote.sound {R : EP} {x0 : OA} {x1_0 : Int} {x1_1 : Int} {x1_2 : Int} {x1_3 : ByteArray} {x1_4 : Int} {w : World} (h : g_newQuote R x0 x1_0 x1_1 x1_2 x1_3 x1_4 w) : callE P i_newQuote #[.pointer x0, .agg #[.int .i64 x1_0, .int .i64 x1_1, .int .i64 x1_2, .string x1_3, .int .u8 x1_4]] R w :=
  callE_fin (c := g_newQuote.body) Tryz.func61 Tryz.call61 (by kernel_rfl) (by kernel_rfl) (by kernel_rfl) (by kernel_rfl) (by kernel_rfl) (g_newQuote.good R) (g_newQuote.eq R x0 x1_0 x1_1 x1_2 x1_3 x1_4 w) h
namespace g_isHR
noncomputable def body : Code := bodyOf Tryz.f115
def bl1 (R : EP) (Xa : Nat → Int → Int → WP) (x3 : Nat) (x4 : Int) (x5 : Int) (w : World) : Prop :=
 callE P i_line_trim #[.pointer (some ⟨x3, 0, none⟩), .int .u8 x4] (fun e w20 => ∃ (r19 : Bool), e = .returned (.bool r19) ∧
 br (!r19)
 (br (decide (x5 ≥ 3))
 (callE P i_line_eof #[.pointer (some ⟨x3, 0, none⟩)] (fun e w22 => ∃ (r21 : Bool), e = .returned (.bool r21) ∧
 R (.returned (.bool r21)) w22) w20)
 (R (.returned (.bool false)) w20))
 (callE P i_line_skipSpace #[.pointer (some ⟨x3, 0, none⟩)] (fun e w24 => e = .returned (.tuple #[]) ∧
 Xa x3 x4 (IntKind.i64.wrap (x5 + 1)) w24) w20)) w
def l1 (R : EP) (x3 : Nat) (x4 : Int) (x5 : Int) (w : World) : Prop :=
  ∀ X : Nat → Int → Int → WP, (∀ x3 x4 x5 w, bl1 R X x3 x4 x5 w → X x3 x4 x5 w) → X x3 x4 x5 w

noncomputable def al1 (R : EP) (Xa : Nat → Int → Int → WP) : AC :=
  (.leaf (sel [1, 1, 1, 0, 1, 1, 0, 1, 0, 0, 1, 0, 0] body))
def k1 (R : EP) (x3 : Nat) (x4 : Int) (x10 : Bool) (w : World) : Prop :=
 br x10
 (l1 R x3 x4 0 w)
 (R (.returned (.bool false)) w)

end g_isHR
def g_isHR (R : EP) (x0_0 : Int) (x0_1 : Int) (x0_2 : Int) (x0_3 : BA) (x0_4 : Int) (w : World) : Prop :=
 box w #[.int .i64 x0_0, .int .i64 x0_1, .int .i64 x0_2, .string x0_3, .int .u8 x0_4] ty_line fun b1 w2 =>
 ∃ (v3 : Int), w2.cell? ⟨b1, 0, none⟩ = some (.int .i64 v3) ∧
 ∃ (v4 : Int), w2.cell? ⟨b1, 1, none⟩ = some (.int .i64 v4) ∧
 ∃ (v5 : Int), w2.cell? ⟨b1, 2, none⟩ = some (.int .i64 v5) ∧
 ∃ (v6 : BA), w2.cell? ⟨b1, 3, none⟩ = some (.string v6) ∧
 ∃ (v7 : Int), w2.cell? ⟨b1, 4, none⟩ = some (.int .u8 v7) ∧
 box w2 #[.int .i64 0, .int .i64 0, .int .i64 0, .string (ByteArray.mk #[]), .int .u8 0] ty_line fun b8 w9 =>
 stV w9 ⟨b8, 0, none⟩ (.int .i64 v3) fun w10 =>
 stV w10 ⟨b8, 1, none⟩ (.int .i64 v4) fun w11 =>
 stV w11 ⟨b8, 2, none⟩ (.int .i64 v5) fun w12 =>
 stV w12 ⟨b8, 3, none⟩ (.string v6) fun w13 =>
 stV w13 ⟨b8, 4, none⟩ (.int .u8 v7) fun w14 =>
 callE P i_line_trimSpace #[.pointer (some ⟨b8, 0, none⟩), .int .i64 0, .int .i64 3, .bool false] (fun e w16 => ∃ (r15 : Bool), e = .returned (.bool r15) ∧
 callE P i_line_peek #[.pointer (some ⟨b8, 0, none⟩)] (fun e w18 => ∃ (r17 : Int), e = .returned (.int .u8 r17) ∧
 br (r17 == 45)
 (g_isHR.k1 R b8 r17 true w18)
 (br (r17 == 95)
 (g_isHR.k1 R b8 r17 true w18)
 (g_isHR.k1 R b8 r17 (r17 == 42) w18))) w16) w14

noncomputable def g_isHR.ac (R : EP) : AC :=
  (.seq (.leaf (sel [0] g_isHR.body)) (.seq (.leaf (sel [1, 0] g_isHR.body)) (.seq (.leaf (sel [1, 1, 0] g_isHR.body)) (.seq (.seq (.leaf (sel [1, 1, 1, 0, 0] g_isHR.body)) (.seq (.leaf (sel [1, 1, 1, 0, 1, 0] g_isHR.body)) (.block 0 (.seq (.leaf (sel [1, 1, 1, 0, 1, 1, 0, 0] g_isHR.body)) (.mark (leaf [(3, .s .loc), (4, .s (.int .u8)), (10, .s .bool)] (g_isHR.k1 R)) (.cond 10 (.seq (.seq (.leaf (sel [1, 1, 1, 0, 1, 1, 0, 1, 0, 0, 0] g_isHR.body)) (.block 1 (.loop (leaf [(3, .s .loc), (4, .s (.int .u8)), (5, .s (.int .i64))] (g_isHR.l1 R)) (sel [1, 1, 1, 0, 1, 1, 0, 1, 0, 0, 1, 0, 0] g_isHR.body)))) (.leaf (sel [1, 1, 1, 0, 1, 1, 0, 1, 0, 1] g_isHR.body))) (.leaf (sel [1, 1, 1, 0, 1, 1, 0, 1, 1] g_isHR.body)))))))) (.leaf (sel [1, 1, 1, 1] g_isHR.body))))))
theorem g_isHR.good (R : EP) : Good P 23 (g_isHR.ac R) (QF P [.tmp 2] R) :=
  ⟨trivial, ⟨trivial, ⟨trivial, ⟨⟨trivial, ⟨trivial, ⟨trivial, ⟨⟨⟨⟨trivial, (loopG (g_isHR.al1 R) (g_isHR.bl1 R) (fun _ => by kernel_rfl) (fun Xa => trivial) (fun Xa => by intro x3 x4 x5 ρ w; kernel_rfl) (fun X h _ _ _ _ g => g X h))⟩, trivial⟩, trivial⟩, cutE (by intro x3 x4 x10 ρ w; kernel_rfl)⟩⟩⟩⟩, trivial⟩⟩⟩⟩
theorem g_isHR.eq (R : EP) (x0_0 : Int) (x0_1 : Int) (x0_2 : Int) (x0_3 : BA) (x0_4 : Int) (w : World) : g_isHR R x0_0 x0_1 x0_2 x0_3 x0_4 w = vcA P 23 (g_isHR.ac R) (QF P [.tmp 2] R) (fr0 [.agg #[.int .i64 x0_0, .int .i64 x0_1, .int .i64 x0_2, .string x0_3, .int .u8 x0_4]]) w := by kernel_rfl
theorem g_isHR.sound {R : EP} {x0_0 : Int} {x0_1 : Int} {x0_2 : Int} {x0_3 : ByteArray} {x0_4 : Int} {w : World} (h : g_isHR R x0_0 x0_1 x0_2 x0_3 x0_4 w) : callE P i_isHR #[.agg #[.int .i64 x0_0, .int .i64 x0_1, .int .i64 x0_2, .string x0_3, .int .u8 x0_4]] R w :=
  callE_fin (c := g_isHR.body) Tryz.func115 Tryz.call115 (by kernel_rfl) (by kernel_rfl) (by kernel_rfl) (by kernel_rfl) (by kernel_rfl) (g_isHR.good R) (g_isHR.eq R x0_0 x0_1 x0_2 x0_3 x0_4 w) h
namespace g_trimQuote
noncomputable def body : Code := bodyOf Tryz.f102
end g_trimQuote
def g_trimQuote (R : EP) (x0_0 : Int) (x0_1 : Int) (x0_2 : Int) (x0_3 : BA) (x0_4 : Int) (w : World) : Prop :=
 box w #[.int .i64 x0_0, .int .i64 x0_1, .int .i64 x0_2, .string x0_3, .int .u8 x0_4] ty_line fun b1 w2 =>
 box w2 #[.int .i64 0, .int .i64 0, .int .i64 0, .string (ByteArray.mk #[]), .int .u8 0] ty_line fun b3 w4 =>
 ∃ (v5 : Int), w4.cell? ⟨b1, 0, none⟩ = some (.int .i64 v5) ∧
 ∃ (v6 : Int), w4.cell? ⟨b1, 1, none⟩ = some (.int .i64 v6) ∧
 ∃ (v7 : Int), w4.cell? ⟨b1, 2, none⟩ = some (.int .i64 v7) ∧
 ∃ (v8 : BA), w4.cell? ⟨b1, 3, none⟩ = some (.string v8) ∧
 ∃ (v9 : Int), w4.cell? ⟨b1, 4, none⟩ = some (.int .u8 v9) ∧
 box w4 #[.int .i64 0, .int .i64 0, .int .i64 0, .string (ByteArray.mk #[]), .int .u8 0] ty_line fun b10 w11 =>
 stV w11 ⟨b10, 0, none⟩ (.int .i64 v5) fun w12 =>
 stV w12 ⟨b10, 1, none⟩ (.int .i64 v6) fun w13 =>
 stV w13 ⟨b10, 2, none⟩ (.int .i64 v7) fun w14 =>
 stV w14 ⟨b10, 3, none⟩ (.string v8) fun w15 =>
 stV w15 ⟨b10, 4, none⟩ (.int .u8 v9) fun w16 =>
 callE P i_line_trimSpace #[.pointer (some ⟨b10, 0, none⟩), .int .i64 0, .int .i64 3, .bool false] (fun e w18 => ∃ (r17 : Bool), e = .returned (.bool r17) ∧
 callE P i_line_trim #[.pointer (some ⟨b10, 0, none⟩), .int .u8 62] (fun e w20 => ∃ (r19 : Bool), e = .returned (.bool r19) ∧
 br (!r19)
 (∃ (v21 : Int), w20.cell? ⟨b1, 0, none⟩ = some (.int .i64 v21) ∧
 ∃ (v22 : Int), w20.cell? ⟨b1, 1, none⟩ = some (.int .i64 v22) ∧
 ∃ (v23 : Int), w20.cell? ⟨b1, 2, none⟩ = some (.int .i64 v23) ∧
 ∃ (v24 : BA), w20.cell? ⟨b1, 3, none⟩ = some (.string v24) ∧
 ∃ (v25 : Int), w20.cell? ⟨b1, 4, none⟩ = some (.int .u8 v25) ∧
 stV w20 ⟨b3, 0, none⟩ (.int .i64 v21) fun w26 =>
 stV w26 ⟨b3, 1, none⟩ (.int .i64 v22) fun w27 =>
 stV w27 ⟨b3, 2, none⟩ (.int .i64 v23) fun w28 =>
 stV w28 ⟨b3, 3, none⟩ (.string v24) fun w29 =>
 stV w29 ⟨b3, 4, none⟩ (.int .u8 v25) fun w30 =>
 ∃ (v31 : Int), w30.cell? ⟨b3, 0, none⟩ = some (.int .i64 v31) ∧
 ∃ (v32 : Int), w30.cell? ⟨b3, 1, none⟩ = some (.int .i64 v32) ∧
 ∃ (v33 : Int), w30.cell? ⟨b3, 2, none⟩ = some (.int .i64 v33) ∧
 ∃ (v34 : BA), w30.cell? ⟨b3, 3, none⟩ = some (.string v34) ∧
 ∃ (v35 : Int), w30.cell? ⟨b3, 4, none⟩ = some (.int .u8 v35) ∧
 R (.returned (.tuple #[.agg #[.int .i64 v31, .int .i64 v32, .int .i64 v33, .string v34, .int .u8 v35], .bool false])) w30)
 (callE P i_line_trimSpace #[.pointer (some ⟨b10, 0, none⟩), .int .i64 0, .int .i64 1, .bool true] (fun e w37 => ∃ (r36 : Bool), e = .returned (.bool r36) ∧
 ∃ (v38 : Int), w37.cell? ⟨b10, 0, none⟩ = some (.int .i64 v38) ∧
 ∃ (v39 : Int), w37.cell? ⟨b10, 1, none⟩ = some (.int .i64 v39) ∧
 ∃ (v40 : Int), w37.cell? ⟨b10, 2, none⟩ = some (.int .i64 v40) ∧
 ∃ (v41 : BA), w37.cell? ⟨b10, 3, none⟩ = some (.string v41) ∧
 ∃ (v42 : Int), w37.cell? ⟨b10, 4, none⟩ = some (.int .u8 v42) ∧
 stV w37 ⟨b3, 0, none⟩ (.int .i64 v38) fun w43 =>
 stV w43 ⟨b3, 1, none⟩ (.int .i64 v39) fun w44 =>
 stV w44 ⟨b3, 2, none⟩ (.int .i64 v40) fun w45 =>
 stV w45 ⟨b3, 3, none⟩ (.string v41) fun w46 =>
 stV w46 ⟨b3, 4, none⟩ (.int .u8 v42) fun w47 =>
 ∃ (v48 : Int), w47.cell? ⟨b3, 0, none⟩ = some (.int .i64 v48) ∧
 ∃ (v49 : Int), w47.cell? ⟨b3, 1, none⟩ = some (.int .i64 v49) ∧
 ∃ (v50 : Int), w47.cell? ⟨b3, 2, none⟩ = some (.int .i64 v50) ∧
 ∃ (v51 : BA), w47.cell? ⟨b3, 3, none⟩ = some (.string v51) ∧
 ∃ (v52 : Int), w47.cell? ⟨b3, 4, none⟩ = some (.int .u8 v52) ∧
 R (.returned (.tuple #[.agg #[.int .i64 v48, .int .i64 v49, .int .i64 v50, .string v51, .int .u8 v52], .bool true])) w47) w20)) w18) w16

noncomputable def g_trimQuote.ac (R : EP) : AC :=
  (.leaf (sel [] g_trimQuote.body))
theorem g_trimQuote.good (R : EP) : Good P 12 (g_trimQuote.ac R) (QF P [.cell 2 80, .tmp 3] R) :=
  trivial
theorem g_trimQuote.eq (R : EP) (x0_0 : Int) (x0_1 : Int) (x0_2 : Int) (x0_3 : BA) (x0_4 : Int) (w : World) : g_trimQuote R x0_0 x0_1 x0_2 x0_3 x0_4 w = vcA P 12 (g_trimQuote.ac R) (QF P [.cell 2 80, .tmp 3] R) (fr0 [.agg #[.int .i64 x0_0, .int .i64 x0_1, .int .i64 x0_2, .string x0_3, .int .u8 x0_4]]) w := by kernel_rfl
theorem g_trimQuote.sound {R : EP} {x0_0 : Int} {x0_1 : Int} {x0_2 : Int} {x0_3 : ByteArray} {x0_4 : Int} {w : World} (h : g_trimQuote R x0_0 x0_1 x0_2 x0_3 x0_4 w) : callE P i_trimQuote #[.agg #[.int .i64 x0_0, .int .i64 x0_1, .int .i64 x0_2, .string x0_3, .int .u8 x0_4]] R w :=
  callE_fin (c := g_trimQuote.body) Tryz.func102 Tryz.call102 (by kernel_rfl) (by kernel_rfl) (by kernel_rfl) (by kernel_rfl) (by kernel_rfl) (g_trimQuote.good R) (g_trimQuote.eq R x0_0 x0_1 x0_2 x0_3 x0_4 w) h
namespace g_parseState_addBlock
noncomputable def body : Code := bodyOf Tryz.f30
end g_parseState_addBlock
def g_parseState_addBlock (R : EP) (x0 : OA) (x1 : Value) (w : World) : Prop :=
 nilP x0 fun a1 =>
 ∃ (v2 : Int), w.cell? (a1.add 5) = some (.int .i64 v2) ∧
 callE P i_parseState_trimStack #[.pointer x0, .int .i64 (IntKind.i64.wrap (v2 + 1))] (fun e w4 => e = .returned (.tuple #[]) ∧
 nilP x0 fun a5 =>
 ∃ (v6q : OA), ∃ (v6n : Nat), ∃ (v6c : Nat), w4.cell? (a5.add 4) = some (.slice v6q v6n v6c) ∧
 ∃ (r7q : OA), ∃ (r7n : Nat), ∃ (r7c : Nat), ∃ w8, (Instr.buildSlice ty_S_openBlock 1 #[(0, .agg #[.nilIface, .slice none 0 0, .int .i64 0, .int .i64 0])]).run P w4 = .ok (.slice r7q r7n r7c) w8 ∧
 ∃ (r9q : OA), ∃ (r9n : Nat), ∃ (r9c : Nat), ∃ w10, (Builtin.append_ #[ty_S_openBlock, ty_S_openBlock] ty_S_openBlock #[.slice v6q v6n v6c, .slice r7q r7n r7c]).run P w8 = .ok (.slice r9q r9n r9c) w10 ∧
 nilP x0 fun a11 =>
 stV w10 ((a11.add 4).add 0) (.slice r9q r9n r9c) fun w12 =>
 tk w12 fun w13 =>
 nilP x0 fun a14 =>
 nilP x0 fun a15 =>
 ∃ (v16q : OA), ∃ (v16n : Nat), ∃ (v16c : Nat), w13.cell? (a14.add 4) = some (.slice v16q v16n v16c) ∧
 ∃ (v17q : OA), ∃ (v17n : Nat), ∃ (v17c : Nat), w13.cell? (a15.add 4) = some (.slice v17q v17n v17c) ∧
 0 ≤ (IntKind.i64.wrap ((v17n : Int) - 1)) ∧ (IntKind.i64.wrap ((v17n : Int) - 1)) < (v16n : Int) ∧
 nilP v16q fun a18 =>
 cellV x1 (
 stV w13 ((a18.add (Int.toNat (IntKind.i64.wrap ((v17n : Int) - 1)) * 4)).add 0) x1 fun w19 =>
 nilP x0 fun a20 =>
 ∃ (v21 : Int), w19.cell? (a20.add 3) = some (.int .i64 v21) ∧
 stV w19 (((a18.add (Int.toNat (IntKind.i64.wrap ((v17n : Int) - 1)) * 4)).add 2).add 0) (.int .i64 v21) fun w22 =>
 nilP x0 fun a23 =>
 ∃ (v24 : Int), w22.cell? (a23.add 3) = some (.int .i64 v24) ∧
 stV w22 ((((a18.add (Int.toNat (IntKind.i64.wrap ((v17n : Int) - 1)) * 4)).add 2).add 1).add 0) (.int .i64 v24) fun w25 =>
 R (.returned (.tuple #[])) w25)) w

noncomputable def g_parseState_addBlock.ac (R : EP) : AC :=
  (.seq (.leaf (sel [0] g_parseState_addBlock.body)) (.seq (.leaf (sel [1, 0] g_parseState_addBlock.body)) (.seq (.draw (.pure 0 (.pure 1 (.pure 2 (.pure 4 (.pure 5 (.pure 6 (.load 3 (.load 7 (.pure 8 (.pure 9 (.pure 10 (.pure 11 .done)))))))))))) (sel [1, 1, 0] g_parseState_addBlock.body)) (.leaf (sel [1, 1, 1] g_parseState_addBlock.body)))))
theorem g_parseState_addBlock.good (R : EP) : Good P 53 (g_parseState_addBlock.ac R) (QF P [] R) :=
  ⟨trivial, ⟨trivial, ⟨⟨by kernel_rfl, by kernel_rfl, fun _ _ _ h => h⟩, trivial⟩⟩⟩
theorem g_parseState_addBlock.eq (R : EP) (x0 : OA) (x1 : Value) (w : World) : g_parseState_addBlock R x0 x1 w = vcA P 53 (g_parseState_addBlock.ac R) (QF P [] R) (fr0 [.pointer x0, x1]) w := by kernel_rfl
theorem g_parseState_addBlock.sound {R : EP} {x0 : OA} {x1 : Value} {w : World} (h : g_parseState_addBlock R x0 x1 w) : callE P i_parseState_addBlock #[.pointer x0, x1] R w :=
  callE_fin (c := g_parseState_addBlock.body) Tryz.func30 Tryz.call30 (by kernel_rfl) (by kernel_rfl) (by kernel_rfl) (by kernel_rfl) (by kernel_rfl) (g_parseState_addBlock.good R) (g_parseState_addBlock.eq R x0 x1 w) h
namespace g_parseState_blocks
noncomputable def body : Code := bodyOf Tryz.f240
end g_parseState_blocks
def g_parseState_blocks (R : EP) (x0 : OA) (w : World) : Prop :=
 tk w fun w1 =>
 nilP x0 fun a2 =>
 nilP x0 fun a3 =>
 ∃ (v4q : OA), ∃ (v4n : Nat), ∃ (v4c : Nat), w1.cell? (a2.add 4) = some (.slice v4q v4n v4c) ∧
 ∃ (v5q : OA), ∃ (v5n : Nat), ∃ (v5c : Nat), w1.cell? (a3.add 4) = some (.slice v5q v5n v5c) ∧
 0 ≤ (IntKind.i64.wrap ((v5n : Int) - 1)) ∧ (IntKind.i64.wrap ((v5n : Int) - 1)) < (v4n : Int) ∧
 nilP v4q fun a6 =>
 ∃ (v7q : OA), ∃ (v7n : Nat), ∃ (v7c : Nat), w1.cell? ((a6.add (Int.toNat (IntKind.i64.wrap ((v5n : Int) - 1)) * 4)).add 1) = some (.slice v7q v7n v7c) ∧
 R (.returned (.slice v7q v7n v7c)) w1

noncomputable def g_parseState_blocks.ac (R : EP) : AC :=
  (.seq (.leaf (sel [0] g_parseState_blocks.body)) (.seq (.draw (.pure 0 (.pure 1 (.pure 2 (.pure 4 (.pure 5 (.pure 6 (.load 3 (.load 7 (.pure 8 (.pure 9 (.pure 10 (.pure 11 .done)))))))))))) (sel [1, 0] g_parseState_blocks.body)) (.leaf (sel [1, 1] g_parseState_blocks.body))))
theorem g_parseState_blocks.good (R : EP) : Good P 19 (g_parseState_blocks.ac R) (QF P [.tmp 2] R) :=
  ⟨trivial, ⟨⟨by kernel_rfl, by kernel_rfl, fun _ _ _ h => h⟩, trivial⟩⟩
theorem g_parseState_blocks.eq (R : EP) (x0 : OA) (w : World) : g_parseState_blocks R x0 w = vcA P 19 (g_parseState_blocks.ac R) (QF P [.tmp 2] R) (fr0 [.pointer x0]) w := by kernel_rfl
theorem g_parseState_blocks.sound {R : EP} {x0 : OA} {w : World} (h : g_parseState_blocks R x0 w) : callE P i_parseState_blocks #[.pointer x0] R w :=
  callE_fin (c := g_parseState_blocks.body) Tryz.func240 Tryz.call240 (by kernel_rfl) (by kernel_rfl) (by kernel_rfl) (by kernel_rfl) (by kernel_rfl) (g_parseState_blocks.good R) (g_parseState_blocks.eq R x0 w) h
end Go.Proofs.YtihmcipajjakgaaGreatDoor

set_option linter.unusedVariables false
namespace Go.Proofs.YtihmcipajjakgaaGreatDoor
open Go.IntWalk
variable {P : Program} {σ : Out} {w : World} {L L' : List Chunk} {R : Ending → World → Prop}

def Sl (sz : Nat) (e : TypeId) (q : Option Addr) (n c : Nat) (vs : List Value) (M : List Chunk) : Prop :=
  vs.length = n * sz ∧ n ≤ c ∧ ((q = none ∧ n = 0 ∧ c = 0 ∧ M = []) ∨ ∃ b sp, q = some ⟨b, 0, none⟩ ∧ M = [(b, cel (vs ++ sp) e)] ∧ (vs ++ sp).length = c * sz)
theorem Sl.nil (sz : Nat) (e : TypeId) : Sl sz e none 0 0 [] [] := ⟨by simp, Nat.le_refl _, .inl ⟨rfl, rfl, rfl, rfl⟩⟩

structure Row (P : Program) (t e : TypeId) (sz bytes : Nat) where
  i : TypeInfo
  z : Value
  ht : P.underlying t = some (.slice e)
  hi : P.info? e = some i
  hz : i.zero = some z
  hs : i.size = sz
  hb : i.bytes = bytes
  hc : z.cells.size = sz
  pos : 0 < sz

theorem setCells_sat {b : Nat} {cs : List Value} {e : TypeId} (h : Sat σ w ((b, cel cs e) :: L)) : ∀ (o : Nat) (vs : List Value), o + vs.length ≤ cs.length →
    Sat σ (w.setCells b o vs) ((b, cel (cs.take o ++ vs ++ cs.drop (o + vs.length)) e) :: L) := by
  intro o vs
  induction vs generalizing o w cs with
  | nil => intro _; simpa [World.setCells] using h
  | cons v vs ih =>
    intro hl
    simp only [List.length_cons] at hl
    have h1 := h.set (k := 0) (i := o) v rfl
    have h2 := ih (w := w.setCell ⟨b, o, none⟩ v) (cs := cs.set o v) h1 (o + 1) (by simp; omega)
    simp only [World.setCells]
    have e1 : (cs.set o v).take (o + 1) = cs.take o ++ [v] := by
      rw [List.take_set, List.take_succ_eq_append_getElem (by omega), List.set_append_right _ _ (by simp; omega)]
      simp
      rw [show o - min o cs.length = 0 by omega]
      rfl
    have e2 : (cs.set o v).drop (o + 1 + vs.length) = cs.drop (o + (vs.length + 1)) := by
      rw [List.drop_set_of_lt (by omega)]
      congr 1
      omega
    rw [e1, e2] at h2
    simpa using h2

theorem Addr.add_zero_lit (b j : Nat) : Addr.add ⟨b, 0, none⟩ j = ⟨b, j, none⟩ := by
  simp [Addr.add]
  omega
theorem firstCells_sl {sz : Nat} {e : TypeId} {q : Option Addr} {n c : Nat} {vs : List Value} {M : List Chunk} (hS : Sl sz e q n c vs M) (h : Sat σ w (M ++ L)) :
    (Builtin.firstCells sz n (.slice q n c)).run P w = .ok vs.toArray w := by
  obtain ⟨hl, hnc, h1 | ⟨b, sp, h1, h2, h3⟩⟩ := hS
  · obtain ⟨rfl, rfl, rfl, rfl⟩ := h1
    have : vs = [] := List.eq_nil_of_length_eq_zero (by simpa using hl)
    subst this
    exact run_firstCells_none w sz 0 0 0
  · subst h1; subst h2
    refine run_firstCells_some w sz n _ n c vs hl fun j u hu => ?_
    rw [show (Addr.add ⟨b, 0, none⟩ j) = ⟨b, j, none⟩ from Addr.add_zero_lit b j]
    refine h.ld (List.mem_cons_self ..) ?_
    rw [List.getElem?_append_left (List.getElem?_eq_some_iff.1 hu).1]
    exact hu

theorem Sat.app {t tx ty e : TypeId} {sz bytes : Nat} (r : Row P t e sz bytes) {q : Option Addr} {n c : Nat} {vs : List Value} {M : List Chunk} (hS : Sl sz e q n c vs M)
    (h : Sat σ w (M ++ L)) {x : Value} {m : Nat} {news : List Value} (hs : Src P sz tx x m news w) (hm : 0 < m ∨ q ≠ none) (hb : (n + m) * bytes ≤ 140737488355328) (hn : n + m < 4611686018427387904) :
    ∃ q' c' w' M', (Builtin.append_ #[t, tx] ty #[.slice q n c, x]).run P w = .ok (.slice q' (n + m) c') w' ∧ Sl sz e q' (n + m) c' (vs ++ news) M' ∧ Sat σ w' (M' ++ L) ∧ q' ≠ none ∧ c ≤ c' := by
  have hfc := firstCells_sl (P := P) hS h.drew
  obtain ⟨hl, hnc, hS⟩ := hS
  obtain ⟨i, z, ht, hi, hz, hsi, hby, hzc, hpos⟩ := r
  subst hsi
  have hnl := hs.newsLen
  by_cases hroom : n + m ≤ c
  · rcases hS with ⟨rfl, rfl, rfl, rfl⟩ | ⟨b, sp, rfl, rfl, h3⟩
    · exact absurd hm (by simp; omega)
    · simp only [List.length_append] at h3
      have hle : (n + m) * i.size ≤ c * i.size := Nat.mul_le_mul_right _ hroom
      rw [Nat.add_mul] at hle
      have hlen : n * i.size + news.length ≤ (vs ++ sp).length := by rw [List.length_append, hnl]; omega
      refine ⟨_, _, _, [(b, cel (vs ++ news ++ sp.drop news.length) e)], run_append_room_src w t tx ty e i ht hi b 0 n c x m news hs hroom ?_ ?_, ⟨?_, hroom, .inr ⟨b, sp.drop news.length, rfl, rfl, ?_⟩⟩, ?_, by simp, Nat.le_refl _⟩
      · intro j hj
        rw [Nat.zero_add, h.ld (List.mem_cons_self ..) (List.getElem?_eq_getElem (by omega))]
        rfl
      · exact fun j hj => h.not_frozen (List.mem_cons_self ..)
      · rw [List.length_append, hl, hnl, Nat.add_mul]
      · rw [List.length_append, List.length_append, List.length_drop, hl, hnl]; omega
      · have := setCells_sat h (n * i.size) news hlen
        rw [Nat.zero_add]
        have e1 : (vs ++ sp).take (n * i.size) = vs := by rw [← hl, List.take_left]
        have e2 : (vs ++ sp).drop (n * i.size + news.length) = sp.drop news.length := by rw [← hl, ← List.drop_drop, List.drop_left]
        rw [e1, e2] at this
        exact this
  · have hg : c < n + m := by omega
    have hfit := growslice_fits (need := n + m) (old := c) (bytes := i.bytes) hg (by rw [hby]; exact hb)
    have hcap := grownCap_ge w (n + m) c e
    have hd : Sat σ w.drew L := h.drew.right
    refine ⟨_, _, _, [(w.heap.size, cel (vs ++ news ++ (Builtin.zeroCells z.cells (grownCap w (n + m) c e - (n + m))).toList) e)], run_append_grow_src w t tx ty e i z ht hi hz q n c vs hfc x m news hs hg (by omega) hfit,
      ⟨?_, hcap, .inr ⟨_, _, rfl, rfl, ?_⟩⟩, ?_, by simp, by omega⟩
    · rw [List.length_append, hl, hnl, Nat.add_mul]
    · rw [List.length_append, List.length_append, hl, hnl, Array.length_toList, size_zeroCells, hzc, ← Nat.add_mul, ← Nat.add_mul]
      congr 1
      omega
    · have := hd.alc (vs ++ news ++ (Builtin.zeroCells z.cells (grownCap w (n + m) c e - (n + m))).toList) e
      have e3 : YtihmcipajjakgaaGreatDoor.alc w.drew (vs ++ news ++ (Builtin.zeroCells z.cells (grownCap w (n + m) c e - (n + m))).toList).toArray e
          = w.drew.alloc (.cells ((vs ++ news).toArray ++ Builtin.zeroCells z.cells (grownCap w (n + m) c e - (n + m))) e) := by
        rw [show (vs ++ news ++ (Builtin.zeroCells z.cells (grownCap w (n + m) c e - (n + m))).toList).toArray = (vs ++ news).toArray ++ Builtin.zeroCells z.cells (grownCap w (n + m) c e - (n + m)) from by
          apply Array.ext'; simp [List.append_assoc]]
        rfl
      rw [e3] at this
      exact this

theorem Sat.app1 {t ty e : TypeId} {sz bytes : Nat} (r : Row P t e sz bytes) {q : Option Addr} {n c : Nat} {vs : List Value} {M : List Chunk} (hS : Sl sz e q n c vs M)
    (h : Sat σ w (M ++ L)) {v : Value} (hv : v.cells.size = sz) (h1 : ∀ u ∈ v.cells.toList, u.oneCell' = true)
    (hfill : Instr.fill (fun i => some (i * sz, sz)) ((Array.range (1 * sz)).map (r.z.cells[· % r.z.cells.size]!)) [(0, v)] = some v.cells)
    (hb : (n + 1) * bytes ≤ 140737488355328) (hn : n + 1 < 4611686018427387904) (hsz : sz ≤ 100) {K : Option Addr → Nat → Nat → World → Prop}
    (hK : ∀ q' c' w' M', Sl sz e q' (n + 1) c' (vs ++ v.cells.toList) M' → Sat σ w' (M' ++ L) → K q' (n + 1) c' w') :
    ∃ rq rn rc w1, (Instr.buildSlice t 1 #[(0, v)]).run P w = .ok (.slice rq rn rc) w1 ∧
      ∃ q' n' c' w2, (Builtin.append_ #[t, t] ty #[.slice q n c, .slice rq rn rc]).run P w1 = .ok (.slice q' n' c') w2 ∧ K q' n' c' w2 := by
  have hrun := run_buildSlice (P := P) w t e 1 #[(0, v)] v.cells r.i r.z r.ht r.hi r.hz (by rw [r.hs]; omega) (by rw [r.hs]; have := r.pos; omega) (by rw [r.hs]; exact hfill)
  refine ⟨_, _, _, _, hrun, ?_⟩
  have ha := h.alc v.cells.toList e
  have e3 : YtihmcipajjakgaaGreatDoor.alc w v.cells.toList.toArray e = w.alloc (.cells v.cells e) := by rw [Array.toArray_toList]; rfl
  rw [e3] at ha
  generalize hw1 : w.alloc (.cells v.cells e) = w1 at ha ⊢
  generalize w.heap.size = nb at ha ⊢
  have hs : Src P sz t (.slice (some ⟨nb, 0, none⟩) 1 1) 1 v.cells.toList w1 := by
    refine Src.ofSlice w1 r.ht _ 1 1 _ (by simp [hv]) (fun j u hu => ?_) h1
    rw [show (Addr.add ⟨nb, 0, none⟩ j) = ⟨nb, j, none⟩ from Addr.add_zero_lit nb j]
    exact ha.ld (List.mem_cons_self ..) hu
  have ha2 : Sat σ w1 (M ++ ((nb, cel v.cells.toList e) :: L)) := ha.perm List.perm_middle.symm
  obtain ⟨q', c', w', M', hr, hS', h', _⟩ := Sat.app r (ty := ty) hS ha2 hs (.inl (by omega)) hb hn
  refine ⟨q', n + 1, c', w', hr, hK q' c' w' M' hS' ?_⟩
  exact h'.sub (List.Sublist.append_left (List.sublist_cons_self ..) _)
theorem Sat.app1S {t ty e : TypeId} {sz bytes : Nat} (r : Row P t e sz bytes) {q : Option Addr} {n c : Nat} {vs : List Value} {M : List Chunk} (hS : Sl sz e q n c vs M)
    (h : Sat σ w (M ++ L)) {v : Value} (hv : v.cells.size = sz) (h1 : ∀ u ∈ v.cells.toList, u.oneCell' = true)
    (hfill : Instr.fill (fun i => some (i * sz, sz)) ((Array.range (1 * sz)).map (r.z.cells[· % r.z.cells.size]!)) [(0, v)] = some v.cells)
    (hb : (n + 1) * bytes ≤ 140737488355328) (hn : n + 1 < 4611686018427387904) (hsz : sz ≤ 100) {K : Option Addr → Nat → Nat → World → Prop} {C : World → Prop} (hC : ∀ w1 X, Sat σ w1 (X :: (M ++ L)) → C w1)
    (hK : ∀ q' c' w' M', Sl sz e q' (n + 1) c' (vs ++ v.cells.toList) M' → Sat σ w' (M' ++ L) → K q' (n + 1) c' w') :
    ∃ rq rn rc w1, (Instr.buildSlice t 1 #[(0, v)]).run P w = .ok (.slice rq rn rc) w1 ∧ C w1 ∧
      ∃ q' n' c' w2, (Builtin.append_ #[t, t] ty #[.slice q n c, .slice rq rn rc]).run P w1 = .ok (.slice q' n' c') w2 ∧ K q' n' c' w2 := by
  have hrun := run_buildSlice (P := P) w t e 1 #[(0, v)] v.cells r.i r.z r.ht r.hi r.hz (by rw [r.hs]; omega) (by rw [r.hs]; have := r.pos; omega) (by rw [r.hs]; exact hfill)
  refine ⟨_, _, _, _, hrun, ?_⟩
  have ha := h.alc v.cells.toList e
  have e3 : YtihmcipajjakgaaGreatDoor.alc w v.cells.toList.toArray e = w.alloc (.cells v.cells e) := by rw [Array.toArray_toList]; rfl
  rw [e3] at ha
  generalize hw1 : w.alloc (.cells v.cells e) = w1 at ha ⊢
  generalize w.heap.size = nb at ha ⊢
  have hs : Src P sz t (.slice (some ⟨nb, 0, none⟩) 1 1) 1 v.cells.toList w1 := by
    refine Src.ofSlice w1 r.ht _ 1 1 _ (by simp [hv]) (fun j u hu => ?_) h1
    rw [show (Addr.add ⟨nb, 0, none⟩ j) = ⟨nb, j, none⟩ from Addr.add_zero_lit nb j]
    exact ha.ld (List.mem_cons_self ..) hu
  have ha2 : Sat σ w1 (M ++ ((nb, cel v.cells.toList e) :: L)) := ha.perm List.perm_middle.symm
  obtain ⟨q', c', w', M', hr, hS', h', _⟩ := Sat.app r (ty := ty) hS ha2 hs (.inl (by omega)) hb hn
  refine ⟨hC _ _ ha, q', n + 1, c', w', hr, hK q' c' w' M' hS' ?_⟩
  exact h'.sub (List.Sublist.append_left (List.sublist_cons_self ..) _)
end Go.Proofs.YtihmcipajjakgaaGreatDoor


set_option linter.unusedVariables false
set_option maxRecDepth 20000
namespace Go.Proofs.YtihmcipajjakgaaGreatDoor
open Go.Proofs
namespace g_line_skipSpace
noncomputable def body : Code := bodyOf Tryz.f160
def k1 (R : EP) (Xa : OA → WP) (x0 : OA) (w : World) : Prop :=
 nilP x0 fun a16 =>
 ∃ (v17 : Int), w.cell? (a16.add 1) = some (.int .i64 v17) ∧
 nilP x0 fun a18 =>
 stV w ((a18.add 1).add 0) (.int .i64 (IntKind.i64.wrap (v17 + 1))) fun w19 =>
 Xa x0 w19

def bl1 (R : EP) (Xa : OA → WP) (x0 : OA) (w : World) : Prop :=
 tk w fun w3 =>
 nilP x0 fun a4 =>
 nilP x0 fun a5 =>
 ∃ (v6 : Int), w3.cell? (a4.add 1) = some (.int .i64 v6) ∧
 ∃ (v7 : BA), w3.cell? (a5.add 3) = some (.string v7) ∧
 br (decide (v6 < (v7.size : Int)))
 (nilP x0 fun a8 =>
 nilP x0 fun a9 =>
 ∃ (v10 : BA), w3.cell? (a8.add 3) = some (.string v10) ∧
 ∃ (v11 : Int), w3.cell? (a9.add 1) = some (.int .i64 v11) ∧
 0 ≤ v11 ∧ v11 < (v10.size : Int) ∧
 br ((bt v10 v11) == 32)
 (k1 R Xa x0 w3)
 (nilP x0 fun a12 =>
 nilP x0 fun a13 =>
 ∃ (v14 : BA), w3.cell? (a12.add 3) = some (.string v14) ∧
 ∃ (v15 : Int), w3.cell? (a13.add 1) = some (.int .i64 v15) ∧
 0 ≤ v15 ∧ v15 < (v14.size : Int) ∧
 br ((bt v14 v15) == 9)
 (k1 R Xa x0 w3)
 (R (.returned (.tuple #[])) w3)))
 (R (.returned (.tuple #[])) w3)
def l1 (R : EP) (x0 : OA) (w : World) : Prop :=
  ∀ X : OA → WP, (∀ x0 w, bl1 R X x0 w → X x0 w) → X x0 w

noncomputable def al1 (R : EP) (Xa : OA → WP) : AC :=
  (.seq (.seq (.draw (.pure 0 (.pure 1 (.pure 2 (.pure 4 (.pure 5 (.pure 6 (.load 3 (.load 7 (.pure 8 (.pure 9 (.pure 10 (.pure 11 (.pure 12 (.pure 13 (.pure 15 (.pure 16 (.pure 17 (.load 14 (.load 18 (.pure 19 (.pure 20 (.pure 21 (.pure 22 (.pure 23 (.pure 24 (.pure 26 (.pure 27 (.pure 28 (.load 25 (.load 29 (.pure 30 (.pure 31 (.pure 32 (.pure 33 .done)))))))))))))))))))))))))))))))))) (sel [1, 0, 0, 0, 0] body)) (.leaf (sel [1, 0, 0, 0, 1] body))) (.mark (leaf [(0, .s .ptr)] (k1 R Xa)) (.leaf (sel [1, 0, 0, 1] body))))
end g_line_skipSpace
def g_line_skipSpace (R : EP) (x0 : OA) (w : World) : Prop :=
 nilP x0 fun a1 =>
 stV w (a1.add 0) (.int .i64 0) fun w2 =>
 g_line_skipSpace.l1 R x0 w2

noncomputable def g_line_skipSpace.ac (R : EP) : AC :=
  (.seq (.leaf (sel [0] g_line_skipSpace.body)) (.block 0 (.loop (leaf [(0, .s .ptr)] (g_line_skipSpace.l1 R)) (sel [1, 0, 0] g_line_skipSpace.body))))
theorem g_line_skipSpace.good (R : EP) : Good P 46 (g_line_skipSpace.ac R) (QF P [] R) :=
  ⟨trivial, (loopG (g_line_skipSpace.al1 R) (g_line_skipSpace.bl1 R) (fun _ => by kernel_rfl) (fun Xa => ⟨⟨⟨by kernel_rfl, by kernel_rfl, fun _ _ _ h => h⟩, trivial⟩, ⟨trivial, cutE (by intro x0 ρ w; kernel_rfl)⟩⟩) (fun Xa => by intro x0 ρ w; kernel_rfl) (fun X h _ _ g => g X h))⟩
theorem g_line_skipSpace.eq (R : EP) (x0 : OA) (w : World) : g_line_skipSpace R x0 w = vcA P 46 (g_line_skipSpace.ac R) (QF P [] R) (fr0 [.pointer x0]) w := by kernel_rfl
theorem g_line_skipSpace.sound {R : EP} {x0 : OA} {w : World} (h : g_line_skipSpace R x0 w) : callE P i_line_skipSpace #[.pointer x0] R w :=
  callE_fin (c := g_line_skipSpace.body) Tryz.func160 Tryz.call160 (by kernel_rfl) (by kernel_rfl) (by kernel_rfl) (by kernel_rfl) (by kernel_rfl) (g_line_skipSpace.good R) (g_line_skipSpace.eq R x0 w) h
namespace g_line_string
noncomputable def body : Code := bodyOf Tryz.f104
end g_line_string
def g_line_string (R : EP) (x0 : OA) (w : World) : Prop :=
 nilP x0 fun a1 =>
 ∃ (v2 : Int), w.cell? a1 = some (.int .i64 v2) ∧
 br (v2 == 0)
 (tk w fun w3 =>
 nilP x0 fun a4 =>
 nilP x0 fun a5 =>
 ∃ (v6 : BA), w3.cell? (a4.add 3) = some (.string v6) ∧
 ∃ (v7 : Int), w3.cell? (a5.add 1) = some (.int .i64 v7) ∧
 0 ≤ v7 ∧ v7 ≤ (v6.size : Int) ∧
 R (.returned (.string (v6.extract (Int.toNat v7) v6.size))) w3)
 (br (v2 == 1)
 (tk w fun w8 =>
 nilP x0 fun a9 =>
 nilP x0 fun a10 =>
 ∃ (v11 : BA), w8.cell? (a9.add 3) = some (.string v11) ∧
 ∃ (v12 : Int), w8.cell? (a10.add 1) = some (.int .i64 v12) ∧
 0 ≤ v12 ∧ v12 ≤ (v11.size : Int) ∧
 (((ByteArray.mk #[32]).size + (v11.extract (Int.toNat v12) v11.size).size : Nat) : Int) ≤ IntKind.i64.max ∧
 R (.returned (.string ((ByteArray.mk #[32]) ++ (v11.extract (Int.toNat v12) v11.size)))) w8)
 (br (v2 == 2)
 (tk w fun w13 =>
 nilP x0 fun a14 =>
 nilP x0 fun a15 =>
 ∃ (v16 : BA), w13.cell? (a14.add 3) = some (.string v16) ∧
 ∃ (v17 : Int), w13.cell? (a15.add 1) = some (.int .i64 v17) ∧
 0 ≤ v17 ∧ v17 ≤ (v16.size : Int) ∧
 (((ByteArray.mk #[32, 32]).size + (v16.extract (Int.toNat v17) v16.size).size : Nat) : Int) ≤ IntKind.i64.max ∧
 R (.returned (.string ((ByteArray.mk #[32, 32]) ++ (v16.extract (Int.toNat v17) v16.size)))) w13)
 (br (v2 == 3)
 (tk w fun w18 =>
 nilP x0 fun a19 =>
 nilP x0 fun a20 =>
 ∃ (v21 : BA), w18.cell? (a19.add 3) = some (.string v21) ∧
 ∃ (v22 : Int), w18.cell? (a20.add 1) = some (.int .i64 v22) ∧
 0 ≤ v22 ∧ v22 ≤ (v21.size : Int) ∧
 (((ByteArray.mk #[32, 32, 32]).size + (v21.extract (Int.toNat v22) v21.size).size : Nat) : Int) ≤ IntKind.i64.max ∧
 R (.returned (.string ((ByteArray.mk #[32, 32, 32]) ++ (v21.extract (Int.toNat v22) v21.size)))) w18)
 (False))))

noncomputable def g_line_string.ac (R : EP) : AC :=
  (.seq (.leaf (sel [0] g_line_string.body)) (.seq (.seq (.leaf (sel [1, 0, 0] g_line_string.body)) (.block 0 (.seq (.leaf (sel [1, 0, 1, 0, 0] g_line_string.body)) (.cond 7 (.seq (.draw (.pure 0 (.pure 1 (.pure 2 (.pure 4 (.pure 5 (.pure 6 (.load 3 (.load 7 (.pure 8 (.pure 9 .done)))))))))) (sel [1, 0, 1, 0, 1, 0, 0] g_line_string.body)) (.leaf (sel [1, 0, 1, 0, 1, 0, 1] g_line_string.body))) (.seq (.leaf (sel [1, 0, 1, 0, 1, 1, 0] g_line_string.body)) (.cond 18 (.seq (.draw (.pure 0 (.pure 1 (.pure 2 (.pure 4 (.pure 5 (.pure 6 (.load 3 (.load 7 (.pure 8 (.pure 9 (.pure 10 .done))))))))))) (sel [1, 0, 1, 0, 1, 1, 1, 0, 0] g_line_string.body)) (.leaf (sel [1, 0, 1, 0, 1, 1, 1, 0, 1] g_line_string.body))) (.seq (.leaf (sel [1, 0, 1, 0, 1, 1, 1, 1, 0] g_line_string.body)) (.cond 30 (.seq (.draw (.pure 0 (.pure 1 (.pure 2 (.pure 4 (.pure 5 (.pure 6 (.load 3 (.load 7 (.pure 8 (.pure 9 (.pure 10 .done))))))))))) (sel [1, 0, 1, 0, 1, 1, 1, 1, 1, 0, 0] g_line_string.body)) (.leaf (sel [1, 0, 1, 0, 1, 1, 1, 1, 1, 0, 1] g_line_string.body))) (.seq (.leaf (sel [1, 0, 1, 0, 1, 1, 1, 1, 1, 1, 0] g_line_string.body)) (.cond 42 (.seq (.draw (.pure 0 (.pure 1 (.pure 2 (.pure 4 (.pure 5 (.pure 6 (.load 3 (.load 7 (.pure 8 (.pure 9 (.pure 10 .done))))))))))) (sel [1, 0, 1, 0, 1, 1, 1, 1, 1, 1, 1, 0, 0] g_line_string.body)) (.leaf (sel [1, 0, 1, 0, 1, 1, 1, 1, 1, 1, 1, 0, 1] g_line_string.body))) (.leaf (sel [1, 0, 1, 0, 1, 1, 1, 1, 1, 1, 1, 1] g_line_string.body)))))))))))) (.leaf (sel [1, 1] g_line_string.body))))
theorem g_line_string.good (R : EP) : Good P 55 (g_line_string.ac R) (QF P [.tmp 2] R) :=
  ⟨trivial, ⟨⟨trivial, ⟨trivial, ⟨⟨⟨by kernel_rfl, by kernel_rfl, fun _ _ _ h => h⟩, trivial⟩, ⟨trivial, ⟨⟨⟨by kernel_rfl, by kernel_rfl, fun _ _ _ h => h⟩, trivial⟩, ⟨trivial, ⟨⟨⟨by kernel_rfl, by kernel_rfl, fun _ _ _ h => h⟩, trivial⟩, ⟨trivial, ⟨⟨⟨by kernel_rfl, by kernel_rfl, fun _ _ _ h => h⟩, trivial⟩, trivial⟩⟩⟩⟩⟩⟩⟩⟩⟩, trivial⟩⟩
theorem g_line_string.eq (R : EP) (x0 : OA) (w : World) : g_line_string R x0 w = vcA P 55 (g_line_string.ac R) (QF P [.tmp 2] R) (fr0 [.pointer x0]) w := by kernel_rfl
theorem g_line_string.sound {R : EP} {x0 : OA} {w : World} (h : g_line_string R x0 w) : callE P i_line_string #[.pointer x0] R w :=
  callE_fin (c := g_line_string.body) Tryz.func104 Tryz.call104 (by kernel_rfl) (by kernel_rfl) (by kernel_rfl) (by kernel_rfl) (by kernel_rfl) (g_line_string.good R) (g_line_string.eq R x0 w) h
namespace g_line_trim
noncomputable def body : Code := bodyOf Tryz.f157
def k1 (R : EP) (x0 : OA) (x41 : Bool) (w : World) : Prop :=
 br x41
 (nilP x0 fun a16 =>
 ∃ (v17 : Int), w.cell? (a16.add 1) = some (.int .i64 v17) ∧
 nilP x0 fun a18 =>
 stV w ((a18.add 1).add 0) (.int .i64 (IntKind.i64.wrap (v17 + 1))) fun w19 =>
 R (.returned (.bool true)) w19)
 (R (.returned (.bool false)) w)

end g_line_trim
def g_line_trim (R : EP) (x0 : OA) (x1 : Int) (w : World) : Prop :=
 nilP x0 fun a1 =>
 ∃ (v2 : Int), w.cell? a1 = some (.int .i64 v2) ∧
 br (decide (v2 > 0))
 (br (x1 == 32)
 (nilP x0 fun a3 =>
 ∃ (v4 : Int), w.cell? a3 = some (.int .i64 v4) ∧
 nilP x0 fun a5 =>
 stV w (a5.add 0) (.int .i64 (IntKind.i64.wrap (v4 - 1))) fun w6 =>
 R (.returned (.bool true)) w6)
 (R (.returned (.bool false)) w))
 (tk w fun w7 =>
 nilP x0 fun a8 =>
 nilP x0 fun a9 =>
 ∃ (v10 : Int), w7.cell? (a8.add 1) = some (.int .i64 v10) ∧
 ∃ (v11 : BA), w7.cell? (a9.add 3) = some (.string v11) ∧
 br (decide (v10 < (v11.size : Int)))
 (nilP x0 fun a12 =>
 nilP x0 fun a13 =>
 ∃ (v14 : BA), w7.cell? (a12.add 3) = some (.string v14) ∧
 ∃ (v15 : Int), w7.cell? (a13.add 1) = some (.int .i64 v15) ∧
 0 ≤ v15 ∧ v15 < (v14.size : Int) ∧
 g_line_trim.k1 R x0 ((bt v14 v15) == x1) w7)
 (g_line_trim.k1 R x0 false w7))

noncomputable def g_line_trim.ac (R : EP) : AC :=
  (.seq (.leaf (sel [0] g_line_trim.body)) (.seq (.leaf (sel [1, 0] g_line_trim.body)) (.seq (.seq (.draw (.pure 0 (.pure 1 (.pure 2 (.pure 4 (.pure 5 (.pure 6 (.load 3 (.load 7 (.pure 8 (.pure 9 (.pure 10 (.pure 11 (.pure 12 (.pure 13 (.pure 15 (.pure 16 (.pure 17 (.pure 20 (.load 14 (.load 18 (.pure 19 (.pure 21 (.pure 22 .done))))))))))))))))))))))) (sel [1, 1, 0, 0] g_line_trim.body)) (.mark (leaf [(0, .s .ptr), (41, .s .bool)] (g_line_trim.k1 R)) (.leaf (sel [1, 1, 0, 1] g_line_trim.body)))) (.leaf (sel [1, 1, 1] g_line_trim.body)))))
theorem g_line_trim.good (R : EP) : Good P 49 (g_line_trim.ac R) (QF P [.tmp 4] R) :=
  ⟨trivial, ⟨trivial, ⟨⟨⟨by kernel_rfl, by kernel_rfl, fun _ _ _ h => h⟩, ⟨trivial, cutE (by intro x0 x41 ρ w; kernel_rfl)⟩⟩, trivial⟩⟩⟩
theorem g_line_trim.eq (R : EP) (x0 : OA) (x1 : Int) (w : World) : g_line_trim R x0 x1 w = vcA P 49 (g_line_trim.ac R) (QF P [.tmp 4] R) (fr0 [.pointer x0, .int .u8 x1]) w := by kernel_rfl
theorem g_line_trim.sound {R : EP} {x0 : OA} {x1 : Int} {w : World} (h : g_line_trim R x0 x1 w) : callE P i_line_trim #[.pointer x0, .int .u8 x1] R w :=
  callE_fin (c := g_line_trim.body) Tryz.func157 Tryz.call157 (by kernel_rfl) (by kernel_rfl) (by kernel_rfl) (by kernel_rfl) (by kernel_rfl) (g_line_trim.good R) (g_line_trim.eq R x0 x1 w) h
namespace g_line_trimSpaceString
noncomputable def body : Code := bodyOf Tryz.f70
end g_line_trimSpaceString
def g_line_trimSpaceString (R : EP) (x0 : OA) (w : World) : Prop :=
 tk w fun w1 =>
 nilP x0 fun a2 =>
 nilP x0 fun a3 =>
 ∃ (v4 : BA), w1.cell? (a2.add 3) = some (.string v4) ∧
 ∃ (v5 : Int), w1.cell? (a3.add 1) = some (.int .i64 v5) ∧
 0 ≤ v5 ∧ v5 ≤ (v4.size : Int) ∧
 callE P i_trimLeftSpaceTab #[.string (v4.extract (Int.toNat v5) v4.size)] (fun e w7 => ∃ (r6 : BA), e = .returned (.string r6) ∧
 R (.returned (.string r6)) w7) w1

noncomputable def g_line_trimSpaceString.ac (R : EP) : AC :=
  (.seq (.leaf (sel [0] g_line_trimSpaceString.body)) (.seq (.draw (.pure 0 (.pure 1 (.pure 2 (.pure 4 (.pure 5 (.pure 6 (.load 3 (.load 7 (.pure 8 (.one 9 (.pure 10 .done))))))))))) (sel [1, 0] g_line_trimSpaceString.body)) (.leaf (sel [1, 1] g_line_trimSpaceString.body))))
theorem g_line_trimSpaceString.good (R : EP) : Good P 13 (g_line_trimSpaceString.ac R) (QF P [.tmp 2] R) :=
  ⟨trivial, ⟨⟨by kernel_rfl, by kernel_rfl, fun _ _ _ h => h⟩, trivial⟩⟩
theorem g_line_trimSpaceString.eq (R : EP) (x0 : OA) (w : World) : g_line_trimSpaceString R x0 w = vcA P 13 (g_line_trimSpaceString.ac R) (QF P [.tmp 2] R) (fr0 [.pointer x0]) w := by kernel_rfl
theorem g_line_trimSpaceString.sound {R : EP} {x0 : OA} {w : World} (h : g_line_trimSpaceString R x0 w) : callE P i_line_trimSpaceString #[.pointer x0] R w :=
  callE_fin (c := g_line_trimSpaceString.body) Tryz.func70 Tryz.call70 (by kernel_rfl) (by kernel_rfl) (by kernel_rfl) (by kernel_rfl) (by kernel_rfl) (g_line_trimSpaceString.good R) (g_line_trimSpaceString.eq R x0 w) h
namespace g_line_eof
noncomputable def body : Code := bodyOf Tryz.f161
end g_line_eof
def g_line_eof (R : EP) (x0 : OA) (w : World) : Prop :=
 tk w fun w1 =>
 nilP x0 fun a2 =>
 nilP x0 fun a3 =>
 ∃ (v4 : Int), w1.cell? (a2.add 1) = some (.int .i64 v4) ∧
 ∃ (v5 : BA), w1.cell? (a3.add 3) = some (.string v5) ∧
 R (.returned (.bool (decide (v4 ≥ (v5.size : Int))))) w1

noncomputable def g_line_eof.ac (R : EP) : AC :=
  (.seq (.leaf (sel [0] g_line_eof.body)) (.seq (.draw (.pure 0 (.pure 1 (.pure 2 (.pure 4 (.pure 5 (.pure 6 (.load 3 (.load 7 (.pure 8 (.pure 9 (.pure 10 .done))))))))))) (sel [1, 0] g_line_eof.body)) (.leaf (sel [1, 1] g_line_eof.body))))
theorem g_line_eof.good (R : EP) : Good P 13 (g_line_eof.ac R) (QF P [.tmp 2] R) :=
  ⟨trivial, ⟨⟨by kernel_rfl, by kernel_rfl, fun _ _ _ h => h⟩, trivial⟩⟩
theorem g_line_eof.eq (R : EP) (x0 : OA) (w : World) : g_line_eof R x0 w = vcA P 13 (g_line_eof.ac R) (QF P [.tmp 2] R) (fr0 [.pointer x0]) w := by kernel_rfl
theorem g_line_eof.sound {R : EP} {x0 : OA} {w : World} (h : g_line_eof R x0 w) : callE P i_line_eof #[.pointer x0] R w :=
  callE_fin (c := g_line_eof.body) Tryz.func161 Tryz.call161 (by kernel_rfl) (by kernel_rfl) (by kernel_rfl) (by kernel_rfl) (by kernel_rfl) (g_line_eof.good R) (g_line_eof.eq R x0 w) h
namespace g_line_isBlank
noncomputable def body : Code := bodyOf Tryz.f36
end g_line_isBlank
def g_line_isBlank (R : EP) (x0 : OA) (w : World) : Prop :=
 tk w fun w1 =>
 nilP x0 fun a2 =>
 nilP x0 fun a3 =>
 ∃ (v4 : BA), w1.cell? (a2.add 3) = some (.string v4) ∧
 ∃ (v5 : Int), w1.cell? (a3.add 1) = some (.int .i64 v5) ∧
 0 ≤ v5 ∧ v5 ≤ (v4.size : Int) ∧
 callE P i_trimLeftSpaceTab #[.string (v4.extract (Int.toNat v5) v4.size)] (fun e w7 => ∃ (r6 : BA), e = .returned (.string r6) ∧
 R (.returned (.bool (r6.toList == (ByteArray.mk #[]).toList))) w7) w1

noncomputable def g_line_isBlank.ac (R : EP) : AC :=
  (.seq (.leaf (sel [0] g_line_isBlank.body)) (.seq (.draw (.pure 0 (.pure 1 (.pure 2 (.pure 4 (.pure 5 (.pure 6 (.load 3 (.load 7 (.pure 8 (.one 9 (.pure 10 (.pure 11 .done)))))))))))) (sel [1, 0] g_line_isBlank.body)) (.leaf (sel [1, 1] g_line_isBlank.body))))
theorem g_line_isBlank.good (R : EP) : Good P 14 (g_line_isBlank.ac R) (QF P [.tmp 2] R) :=
  ⟨trivial, ⟨⟨by kernel_rfl, by kernel_rfl, fun _ _ _ h => h⟩, trivial⟩⟩
theorem g_line_isBlank.eq (R : EP) (x0 : OA) (w : World) : g_line_isBlank R x0 w = vcA P 14 (g_line_isBlank.ac R) (QF P [.tmp 2] R) (fr0 [.pointer x0]) w := by kernel_rfl
theorem g_line_isBlank.sound {R : EP} {x0 : OA} {w : World} (h : g_line_isBlank R x0 w) : callE P i_line_isBlank #[.pointer x0] R w :=
  callE_fin (c := g_line_isBlank.body) Tryz.func36 Tryz.call36 (by kernel_rfl) (by kernel_rfl) (by kernel_rfl) (by kernel_rfl) (by kernel_rfl) (g_line_isBlank.good R) (g_line_isBlank.eq R x0 w) h
namespace g_line_peek
noncomputable def body : Code := bodyOf Tryz.f159
end g_line_peek
def g_line_peek (R : EP) (x0 : OA) (w : World) : Prop :=
 nilP x0 fun a1 =>
 ∃ (v2 : Int), w.cell? a1 = some (.int .i64 v2) ∧
 br (decide (v2 > 0))
 (R (.returned (.int .u8 32)) w)
 (tk w fun w3 =>
 nilP x0 fun a4 =>
 nilP x0 fun a5 =>
 ∃ (v6 : Int), w3.cell? (a4.add 1) = some (.int .i64 v6) ∧
 ∃ (v7 : BA), w3.cell? (a5.add 3) = some (.string v7) ∧
 br (decide (v6 ≥ (v7.size : Int)))
 (R (.returned (.int .u8 0)) w3)
 (tk w3 fun w8 =>
 nilP x0 fun a9 =>
 nilP x0 fun a10 =>
 ∃ (v11 : BA), w8.cell? (a9.add 3) = some (.string v11) ∧
 ∃ (v12 : Int), w8.cell? (a10.add 1) = some (.int .i64 v12) ∧
 0 ≤ v12 ∧ v12 < (v11.size : Int) ∧
 R (.returned (.int .u8 (bt v11 v12))) w8))

noncomputable def g_line_peek.ac (R : EP) : AC :=
  (.seq (.leaf (sel [0] g_line_peek.body)) (.seq (.leaf (sel [1, 0] g_line_peek.body)) (.seq (.seq (.draw (.pure 0 (.pure 1 (.pure 2 (.pure 4 (.pure 5 (.pure 6 (.load 3 (.load 7 (.pure 8 (.pure 9 .done)))))))))) (sel [1, 1, 0, 0] g_line_peek.body)) (.leaf (sel [1, 1, 0, 1] g_line_peek.body))) (.seq (.draw (.pure 0 (.pure 1 (.pure 2 (.pure 4 (.pure 5 (.pure 6 (.load 3 (.load 7 (.pure 8 (.pure 9 .done)))))))))) (sel [1, 1, 1, 0] g_line_peek.body)) (.leaf (sel [1, 1, 1, 1] g_line_peek.body))))))
theorem g_line_peek.good (R : EP) : Good P 27 (g_line_peek.ac R) (QF P [.tmp 2] R) :=
  ⟨trivial, ⟨trivial, ⟨⟨⟨by kernel_rfl, by kernel_rfl, fun _ _ _ h => h⟩, trivial⟩, ⟨⟨by kernel_rfl, by kernel_rfl, fun _ _ _ h => h⟩, trivial⟩⟩⟩⟩
theorem g_line_peek.eq (R : EP) (x0 : OA) (w : World) : g_line_peek R x0 w = vcA P 27 (g_line_peek.ac R) (QF P [.tmp 2] R) (fr0 [.pointer x0]) w := by kernel_rfl
theorem g_line_peek.sound {R : EP} {x0 : OA} {w : World} (h : g_line_peek R x0 w) : callE P i_line_peek #[.pointer x0] R w :=
  callE_fin (c := g_line_peek.body) Tryz.func159 Tryz.call159 (by kernel_rfl) (by kernel_rfl) (by kernel_rfl) (by kernel_rfl) (by kernel_rfl) (g_line_peek.good R) (g_line_peek.eq R x0 w) h
namespace g_line_trimSpace
noncomputable def body : Code := bodyOf Tryz.f121
def k2 (R : EP) (x0 : OA) (x9 : Nat) (w : World) : Prop :=
 ∃ (v32 : Int), w.cell? ⟨x9, 0, none⟩ = some (.int .i64 v32) ∧
 ∃ (v33 : Int), w.cell? ⟨x9, 1, none⟩ = some (.int .i64 v33) ∧
 ∃ (v34 : Int), w.cell? ⟨x9, 2, none⟩ = some (.int .i64 v34) ∧
 ∃ (v35 : BA), w.cell? ⟨x9, 3, none⟩ = some (.string v35) ∧
 ∃ (v36 : Int), w.cell? ⟨x9, 4, none⟩ = some (.int .u8 v36) ∧
 nilP x0 fun a37 =>
 stV w (a37.add 0) (.int .i64 v32) fun w38 =>
 stV w38 (a37.add 1) (.int .i64 v33) fun w39 =>
 stV w39 (a37.add 2) (.int .i64 v34) fun w40 =>
 stV w40 (a37.add 3) (.string v35) fun w41 =>
 stV w41 (a37.add 4) (.int .u8 v36) fun w42 =>
 R (.returned (.bool true)) w42

def k3 (R : EP) (Xa : OA → Int → Int → Bool → Nat → Int → WP) (x0 : OA) (x1 : Int) (x9 : Nat) (x10 : Int) (w : World) : Prop :=
 br (decide (x10 ≥ x1))
 (k2 R x0 x9 w)
 (R (.returned (.bool false)) w)

def k1 (R : EP) (Xa : OA → Int → Int → Bool → Nat → Int → WP) (x0 : OA) (x1 : Int) (x2 : Int) (x3 : Bool) (x9 : Nat) (x10 : Int) (w : World) : Prop :=
 ∃ (v19 : Int), w.cell? ⟨x9, 1, none⟩ = some (.int .i64 v19) ∧
 ∃ (v20 : BA), w.cell? ⟨x9, 3, none⟩ = some (.string v20) ∧
 br (decide (v19 < (v20.size : Int)))
 (∃ (v21 : BA), w.cell? ⟨x9, 3, none⟩ = some (.string v21) ∧
 ∃ (v22 : Int), w.cell? ⟨x9, 1, none⟩ = some (.int .i64 v22) ∧
 0 ≤ v22 ∧ v22 < (v21.size : Int) ∧
 br ((bt v21 v22) == 9)
 (∃ (v23 : Int), w.cell? ⟨x9, 1, none⟩ = some (.int .i64 v23) ∧
 ∃ (v24 : Int), w.cell? ⟨x9, 2, none⟩ = some (.int .i64 v24) ∧
 stV w ⟨x9, 0, none⟩ (.int .i64 (IntKind.i64.wrap ((IntKind.i64.wrap (4 - (bitAnd .i64 (IntKind.i64.wrap (v23 - v24)) 3))) - 1))) fun w25 =>
 ∃ (v26 : Int), w25.cell? ⟨x9, 1, none⟩ = some (.int .i64 v26) ∧
 stV w25 ⟨x9, 1, none⟩ (.int .i64 (IntKind.i64.wrap (v26 + 1))) fun w27 =>
 ∃ (v28 : Int), w27.cell? ⟨x9, 1, none⟩ = some (.int .i64 v28) ∧
 stV w27 ⟨x9, 2, none⟩ (.int .i64 v28) fun w29 =>
 Xa x0 x1 x2 x3 x9 (IntKind.i64.wrap (x10 + 1)) w29)
 (br ((bt v21 v22) == 32)
 (∃ (v30 : Int), w.cell? ⟨x9, 1, none⟩ = some (.int .i64 v30) ∧
 stV w ⟨x9, 1, none⟩ (.int .i64 (IntKind.i64.wrap (v30 + 1))) fun w31 =>
 Xa x0 x1 x2 x3 x9 (IntKind.i64.wrap (x10 + 1)) w31)
 (k3 R Xa x0 x1 x9 x10 w)))
 (k3 R Xa x0 x1 x9 x10 w)

def bl1 (R : EP) (Xa : OA → Int → Int → Bool → Nat → Int → WP) (x0 : OA) (x1 : Int) (x2 : Int) (x3 : Bool) (x9 : Nat) (x10 : Int) (w : World) : Prop :=
 br (decide (x10 < x2))
 (∃ (v14 : Int), w.cell? ⟨x9, 0, none⟩ = some (.int .i64 v14) ∧
 br (decide (v14 > 0))
 (∃ (v15 : Int), w.cell? ⟨x9, 0, none⟩ = some (.int .i64 v15) ∧
 stV w ⟨x9, 0, none⟩ (.int .i64 (IntKind.i64.wrap (v15 - 1))) fun w16 =>
 Xa x0 x1 x2 x3 x9 (IntKind.i64.wrap (x10 + 1)) w16)
 (∃ (v17 : Int), w.cell? ⟨x9, 1, none⟩ = some (.int .i64 v17) ∧
 ∃ (v18 : BA), w.cell? ⟨x9, 3, none⟩ = some (.string v18) ∧
 br ((decide (v17 ≥ (v18.size : Int))) && x3)
 (Xa x0 x1 x2 x3 x9 (IntKind.i64.wrap (x10 + 1)) w)
 (k1 R Xa x0 x1 x2 x3 x9 x10 w)))
 (k2 R x0 x9 w)
def l1 (R : EP) (x0 : OA) (x1 : Int) (x2 : Int) (x3 : Bool) (x9 : Nat) (x10 : Int) (w : World) : Prop :=
  ∀ X : OA → Int → Int → Bool → Nat → Int → WP, (∀ x0 x1 x2 x3 x9 x10 w, bl1 R X x0 x1 x2 x3 x9 x10 w → X x0 x1 x2 x3 x9 x10 w) → X x0 x1 x2 x3 x9 x10 w

noncomputable def al1 (R : EP) (Xa : OA → Int → Int → Bool → Nat → Int → WP) : AC :=
  (.seq (.leaf (sel [1, 1, 0, 1, 0, 0, 0] body)) (.seq (.block 1 (.seq (.leaf (sel [1, 1, 0, 1, 0, 0, 1, 0, 0, 0] body)) (.seq (.leaf (sel [1, 1, 0, 1, 0, 0, 1, 0, 0, 1, 0] body)) (.mark (leaf [(0, .s .ptr), (1, .s (.int .i64)), (2, .s (.int .i64)), (3, .s .bool), (9, .s .loc), (10, .s (.int .i64))] (k1 R Xa)) (.seq (.leaf (sel [1, 1, 0, 1, 0, 0, 1, 0, 0, 1, 1, 0] body)) (.mark (leaf [(0, .s .ptr), (1, .s (.int .i64)), (9, .s .loc), (10, .s (.int .i64))] (k3 R Xa)) (.leaf (sel [1, 1, 0, 1, 0, 0, 1, 0, 0, 1, 1, 1] body)))))))) (.leaf (sel [1, 1, 0, 1, 0, 0, 1, 1] body))))
end g_line_trimSpace
def g_line_trimSpace (R : EP) (x0 : OA) (x1 : Int) (x2 : Int) (x3 : Bool) (w : World) : Prop :=
 nilP x0 fun a1 =>
 ∃ (v2 : Int), w.cell? (a1.add 0) = some (.int .i64 v2) ∧
 ∃ (v3 : Int), w.cell? (a1.add 1) = some (.int .i64 v3) ∧
 ∃ (v4 : Int), w.cell? (a1.add 2) = some (.int .i64 v4) ∧
 ∃ (v5 : BA), w.cell? (a1.add 3) = some (.string v5) ∧
 ∃ (v6 : Int), w.cell? (a1.add 4) = some (.int .u8 v6) ∧
 box w #[.int .i64 0, .int .i64 0, .int .i64 0, .string (ByteArray.mk #[]), .int .u8 0] ty_line fun b7 w8 =>
 stV w8 ⟨b7, 0, none⟩ (.int .i64 v2) fun w9 =>
 stV w9 ⟨b7, 1, none⟩ (.int .i64 v3) fun w10 =>
 stV w10 ⟨b7, 2, none⟩ (.int .i64 v4) fun w11 =>
 stV w11 ⟨b7, 3, none⟩ (.string v5) fun w12 =>
 stV w12 ⟨b7, 4, none⟩ (.int .u8 v6) fun w13 =>
 g_line_trimSpace.l1 R x0 x1 x2 x3 b7 0 w13

noncomputable def g_line_trimSpace.ac (R : EP) : AC :=
  (.seq (.leaf (sel [0] g_line_trimSpace.body)) (.seq (.leaf (sel [1, 0] g_line_trimSpace.body)) (.seq (.seq (.leaf (sel [1, 1, 0, 0] g_line_trimSpace.body)) (.block 0 (.loop (leaf [(0, .s .ptr), (1, .s (.int .i64)), (2, .s (.int .i64)), (3, .s .bool), (9, .s .loc), (10, .s (.int .i64))] (g_line_trimSpace.l1 R)) (sel [1, 1, 0, 1, 0, 0] g_line_trimSpace.body)))) (.mark (leaf [(0, .s .ptr), (9, .s .loc)] (g_line_trimSpace.k2 R)) (.leaf (sel [1, 1, 1] g_line_trimSpace.body))))))
theorem g_line_trimSpace.good (R : EP) : Good P 76 (g_line_trimSpace.ac R) (QF P [.tmp 8] R) :=
  ⟨trivial, ⟨trivial, ⟨⟨trivial, (loopG (g_line_trimSpace.al1 R) (g_line_trimSpace.bl1 R) (fun _ => by kernel_rfl) (fun Xa => ⟨trivial, ⟨⟨trivial, ⟨trivial, ⟨⟨trivial, ⟨trivial, cutE (by intro x0 x1 x9 x10 ρ w; kernel_rfl)⟩⟩, cutE (by intro x0 x1 x2 x3 x9 x10 ρ w; kernel_rfl)⟩⟩⟩, trivial⟩⟩) (fun Xa => by intro x0 x1 x2 x3 x9 x10 ρ w; kernel_rfl) (fun X h _ _ _ _ _ _ _ g => g X h))⟩, ⟨trivial, cutE (by intro x0 x9 ρ w; kernel_rfl)⟩⟩⟩⟩
theorem g_line_trimSpace.eq (R : EP) (x0 : OA) (x1 : Int) (x2 : Int) (x3 : Bool) (w : World) : g_line_trimSpace R x0 x1 x2 x3 w = vcA P 76 (g_line_trimSpace.ac R) (QF P [.tmp 8] R) (fr0 [.pointer x0, .int .i64 x1, .int .i64 x2, .bool x3]) w := by kernel_rfl
theorem g_line_trimSpace.sound {R : EP} {x0 : OA} {x1 : Int} {x2 : Int} {x3 : Bool} {w : World} (h : g_line_trimSpace R x0 x1 x2 x3 w) : callE P i_line_trimSpace #[.pointer x0, .int .i64 x1, .int .i64 x2, .bool x3] R w :=
  callE_fin (c := g_line_trimSpace.body) Tryz.func121 Tryz.call121 (by kernel_rfl) (by kernel_rfl) (by kernel_rfl) (by kernel_rfl) (by kernel_rfl) (g_line_trimSpace.good R) (g_line_trimSpace.eq R x0 x1 x2 x3 w) h
namespace g_trimLeftSpaceTab
noncomputable def body : Code := bodyOf Tryz.f60
def k1 (R : EP) (x0 : BA) (x3 : Int) (w : World) : Prop :=
 0 ≤ x3 ∧ x3 ≤ (x0.size : Int) ∧
 R (.returned (.string (x0.extract (Int.toNat x3) x0.size))) w

def bl1 (R : EP) (Xa : BA → Int → WP) (x0 : BA) (x3 : Int) (w : World) : Prop :=
 ((decide (x3 < (x0.size : Int))) = true → 0 ≤ x3 ∧ x3 < (x0.size : Int)) ∧
 (((decide (x3 < (x0.size : Int))) && (!((bt x0 x3) == 32))) = true → 0 ≤ x3 ∧ x3 < (x0.size : Int)) ∧
 br ((decide (x3 < (x0.size : Int))) && (((bt x0 x3) == 32) || ((bt x0 x3) == 9)))
 (Xa x0 (IntKind.i64.wrap (x3 + 1)) w)
 (k1 R x0 x3 w)
def l1 (R : EP) (x0 : BA) (x3 : Int) (w : World) : Prop :=
  ∀ X : BA → Int → WP, (∀ x0 x3 w, bl1 R X x0 x3 w → X x0 x3 w) → X x0 x3 w

noncomputable def al1 (R : EP) (Xa : BA → Int → WP) : AC :=
  (.leaf (sel [1, 1, 0, 0, 0] body))
end g_trimLeftSpaceTab
def g_trimLeftSpaceTab (R : EP) (x0 : BA) (w : World) : Prop :=
 g_trimLeftSpaceTab.l1 R x0 0 w

noncomputable def g_trimLeftSpaceTab.ac (R : EP) : AC :=
  (.seq (.leaf (sel [0] g_trimLeftSpaceTab.body)) (.seq (.leaf (sel [1, 0] g_trimLeftSpaceTab.body)) (.seq (.block 0 (.loop (leaf [(0, .s .str), (3, .s (.int .i64))] (g_trimLeftSpaceTab.l1 R)) (sel [1, 1, 0, 0, 0] g_trimLeftSpaceTab.body))) (.mark (leaf [(0, .s .str), (3, .s (.int .i64))] (g_trimLeftSpaceTab.k1 R)) (.leaf (sel [1, 1, 1] g_trimLeftSpaceTab.body))))))
theorem g_trimLeftSpaceTab.good (R : EP) : Good P 25 (g_trimLeftSpaceTab.ac R) (QF P [.tmp 2] R) :=
  ⟨trivial, ⟨trivial, ⟨(loopG (g_trimLeftSpaceTab.al1 R) (g_trimLeftSpaceTab.bl1 R) (fun _ => by kernel_rfl) (fun Xa => trivial) (fun Xa => by intro x0 x3 ρ w; kernel_rfl) (fun X h _ _ _ g => g X h)), ⟨trivial, cutE (by intro x0 x3 ρ w; kernel_rfl)⟩⟩⟩⟩
theorem g_trimLeftSpaceTab.eq (R : EP) (x0 : BA) (w : World) : g_trimLeftSpaceTab R x0 w = vcA P 25 (g_trimLeftSpaceTab.ac R) (QF P [.tmp 2] R) (fr0 [.string x0]) w := by kernel_rfl
theorem g_trimLeftSpaceTab.sound {R : EP} {x0 : ByteArray} {w : World} (h : g_trimLeftSpaceTab R x0 w) : callE P i_trimLeftSpaceTab #[.string x0] R w :=
  callE_fin (c := g_trimLeftSpaceTab.body) Tryz.func60 Tryz.call60 (by kernel_rfl) (by kernel_rfl) (by kernel_rfl) (by kernel_rfl) (by kernel_rfl) (g_trimLeftSpaceTab.good R) (g_trimLeftSpaceTab.eq R x0 w) h
namespace g_trimSpaceTab
noncomputable def body : Code := bodyOf Tryz.f40
def k2 (R : EP) (x0 : BA) (x4 : Int) (w : World) : Prop :=
 0 ≤ x4 ∧ x4 ≤ (x0.size : Int) ∧
 R (.returned (.string (x0.extract 0 (Int.toNat x4)))) w

def bl2 (R : EP) (Xa : BA → Int → WP) (x0 : BA) (x4 : Int) (w : World) : Prop :=
 ((decide (x4 > 0)) = true → 0 ≤ (IntKind.i64.wrap (x4 - 1)) ∧ (IntKind.i64.wrap (x4 - 1)) < (x0.size : Int)) ∧
 (((decide (x4 > 0)) && (!((bt x0 (IntKind.i64.wrap (x4 - 1))) == 32))) = true → 0 ≤ (IntKind.i64.wrap (x4 - 1)) ∧ (IntKind.i64.wrap (x4 - 1)) < (x0.size : Int)) ∧
 br ((decide (x4 > 0)) && (((bt x0 (IntKind.i64.wrap (x4 - 1))) == 32) || ((bt x0 (IntKind.i64.wrap (x4 - 1))) == 9)))
 (Xa x0 (IntKind.i64.wrap (x4 - 1)) w)
 (k2 R x0 x4 w)
def l2 (R : EP) (x0 : BA) (x4 : Int) (w : World) : Prop :=
  ∀ X : BA → Int → WP, (∀ x0 x4 w, bl2 R X x0 x4 w → X x0 x4 w) → X x0 x4 w

noncomputable def al2 (R : EP) (Xa : BA → Int → WP) : AC :=
  (.leaf (sel [1, 1, 1, 1, 1, 0, 0, 0] body))
def k1 (R : EP) (x0 : BA) (x3 : Int) (w : World) : Prop :=
 0 ≤ x3 ∧ x3 ≤ (x0.size : Int) ∧
 l2 R (x0.extract (Int.toNat x3) x0.size) ((x0.extract (Int.toNat x3) x0.size).size : Int) w

def bl1 (R : EP) (Xb : BA → Int → WP) (x0 : BA) (x3 : Int) (w : World) : Prop :=
 ((decide (x3 < (x0.size : Int))) = true → 0 ≤ x3 ∧ x3 < (x0.size : Int)) ∧
 (((decide (x3 < (x0.size : Int))) && (!((bt x0 x3) == 32))) = true → 0 ≤ x3 ∧ x3 < (x0.size : Int)) ∧
 br ((decide (x3 < (x0.size : Int))) && (((bt x0 x3) == 32) || ((bt x0 x3) == 9)))
 (Xb x0 (IntKind.i64.wrap (x3 + 1)) w)
 (k1 R x0 x3 w)
def l1 (R : EP) (x0 : BA) (x3 : Int) (w : World) : Prop :=
  ∀ X : BA → Int → WP, (∀ x0 x3 w, bl1 R X x0 x3 w → X x0 x3 w) → X x0 x3 w

noncomputable def al1 (R : EP) (Xb : BA → Int → WP) : AC :=
  (.leaf (sel [1, 1, 0, 0, 0] body))
end g_trimSpaceTab
def g_trimSpaceTab (R : EP) (x0 : BA) (w : World) : Prop :=
 g_trimSpaceTab.l1 R x0 0 w

noncomputable def g_trimSpaceTab.ac (R : EP) : AC :=
  (.seq (.leaf (sel [0] g_trimSpaceTab.body)) (.seq (.leaf (sel [1, 0] g_trimSpaceTab.body)) (.seq (.block 0 (.loop (leaf [(0, .s .str), (3, .s (.int .i64))] (g_trimSpaceTab.l1 R)) (sel [1, 1, 0, 0, 0] g_trimSpaceTab.body))) (.mark (leaf [(0, .s .str), (3, .s (.int .i64))] (g_trimSpaceTab.k1 R)) (.seq (.leaf (sel [1, 1, 1, 0] g_trimSpaceTab.body)) (.seq (.leaf (sel [1, 1, 1, 1, 0] g_trimSpaceTab.body)) (.seq (.block 2 (.loop (leaf [(0, .s .str), (4, .s (.int .i64))] (g_trimSpaceTab.l2 R)) (sel [1, 1, 1, 1, 1, 0, 0, 0] g_trimSpaceTab.body))) (.mark (leaf [(0, .s .str), (4, .s (.int .i64))] (g_trimSpaceTab.k2 R)) (.leaf (sel [1, 1, 1, 1, 1, 1] g_trimSpaceTab.body))))))))))
theorem g_trimSpaceTab.good (R : EP) : Good P 49 (g_trimSpaceTab.ac R) (QF P [.tmp 2] R) :=
  ⟨trivial, ⟨trivial, ⟨(loopG (g_trimSpaceTab.al1 R) (g_trimSpaceTab.bl1 R) (fun _ => by kernel_rfl) (fun Xb => trivial) (fun Xb => by intro x0 x3 ρ w; kernel_rfl) (fun X h _ _ _ g => g X h)), ⟨⟨trivial, ⟨trivial, ⟨(loopG (g_trimSpaceTab.al2 R) (g_trimSpaceTab.bl2 R) (fun _ => by kernel_rfl) (fun Xa => trivial) (fun Xa => by intro x0 x4 ρ w; kernel_rfl) (fun X h _ _ _ g => g X h)), ⟨trivial, cutE (by intro x0 x4 ρ w; kernel_rfl)⟩⟩⟩⟩, cutE (by intro x0 x3 ρ w; kernel_rfl)⟩⟩⟩⟩
theorem g_trimSpaceTab.eq (R : EP) (x0 : BA) (w : World) : g_trimSpaceTab R x0 w = vcA P 49 (g_trimSpaceTab.ac R) (QF P [.tmp 2] R) (fr0 [.string x0]) w := by kernel_rfl
theorem g_trimSpaceTab.sound {R : EP} {x0 : ByteArray} {w : World} (h : g_trimSpaceTab R x0 w) : callE P i_trimSpaceTab #[.string x0] R w :=
  callE_fin (c := g_trimSpaceTab.body) Tryz.func40 Tryz.call40 (by kernel_rfl) (by kernel_rfl) (by kernel_rfl) (by kernel_rfl) (by kernel_rfl) (g_trimSpaceTab.good R) (g_trimSpaceTab.eq R x0 w) h
end Go.Proofs.YtihmcipajjakgaaGreatDoor
