/- Part 2 of the proof of the law FnLazyAnywhere: for every input the law returns true, the inputs read as they did, and memory that was there is as it was; under the conditions of the given row alone. -/
import Derived.Test.YtgbgadkldalkbaaGreatDoorA1
set_option linter.all false
set_option linter.unusedVariables false
set_option maxRecDepth 20000
namespace Go.Proofs.YtgbgadkldalkbaaGreatDoor
open Go.Proofs
namespace g_parseState_inline
noncomputable def body : Code := bodyOf Tryz.f70
def k4 (R : EP) (Xa : OA → BA → OA → Nat → Nat → Int → Bool → Int → WP) (x0 : OA) (x1 : BA) (x5q : OA) (x5n x5c : Nat) (x6 : Int) (x7 : Bool) (x10 : Value) (x12 : Int) (w : World) : Prop :=
 nilP x0 fun a61 =>
 ∃ (v62q : OA), ∃ (v62n : Nat), ∃ (v62c : Nat), w.cell? (a61.add 9) = some (.slice v62q v62n v62c) ∧
 ∃ (r63q : OA), ∃ (r63n : Nat), ∃ (r63c : Nat), ∃ w64, (Instr.buildSlice ty_S_Inline 1 #[(0, x10)]).run P w = .ok (.slice r63q r63n r63c) w64 ∧
 ∃ (r65q : OA), ∃ (r65n : Nat), ∃ (r65c : Nat), ∃ w66, (Builtin.append_ #[ty_S_Inline, ty_S_Inline] ty_S_Inline #[.slice v62q v62n v62c, .slice r63q r63n r63c]).run P w64 = .ok (.slice r65q r65n r65c) w66 ∧
 nilP x0 fun a67 =>
 stV w66 ((a67.add 9).add 0) (.slice r65q r65n r65c) fun w68 =>
 callE P i_parseState_skip #[.pointer x0, .int .i64 x12] (fun e w70 => e = .returned (.tuple #[]) ∧
 Xa x0 x1 x5q x5n x5c x6 x7 x12 w70) w68

def k10 (R : EP) (Xa : OA → BA → OA → Nat → Nat → Int → Bool → Int → WP) (x0 : OA) (x1 : BA) (x5q : OA) (x5n x5c : Nat) (x6 : Int) (x7 : Bool) (x16 : Int) (x17 : OA) (x19 : Int) (w : World) : Prop :=
 nilP x0 fun a133 =>
 ∃ (v134q : OA), ∃ (v134n : Nat), ∃ (v134c : Nat), w.cell? (a133.add 9) = some (.slice v134q v134n v134c) ∧
 ∃ (r135q : OA), ∃ (r135n : Nat), ∃ (r135c : Nat), ∃ w136, (Instr.sliceAt ty_S_Inline (.slice v134q v134n v134c) none (some (.int .i64 (IntKind.i64.wrap (x16 + 1)))) none).run P w = .ok (.slice r135q r135n r135c) w136 ∧
 nilP x0 fun a137 =>
 stV w136 ((a137.add 9).add 0) (.slice r135q r135n r135c) fun w138 =>
 callE P i_parseState_skip #[.pointer x0, .int .i64 x19] (fun e w140 => e = .returned (.tuple #[]) ∧
 nilP x17 fun a141 =>
 ∃ (v142 : BA), w140.cell? a141 = some (.string v142) ∧
 0 ≤ (0 : Int) ∧ 0 < (v142.size : Int) ∧
 br ((bt v142 0) == 91)
 (nilP x17 fun a143 =>
 ∃ (v144 : Int), w140.cell? (a143.add 1) = some (.int .i64 v144) ∧
 Xa x0 x1 x5q x5n x5c v144 x7 x19 w140)
 (Xa x0 x1 x5q x5n x5c x6 x7 x19 w140)) w138

def k9 (R : EP) (Xa : OA → BA → OA → Nat → Nat → Int → Bool → Int → WP) (x0 : OA) (x1 : BA) (x5q : OA) (x5n x5c : Nat) (x6 : Int) (x7 : Bool) (x8 x16 : Int) (x17 x18 : OA) (x19 : Int) (w : World) : Prop :=
 callE P i_parseState_emit #[.pointer x0, .int .i64 x8] (fun e w114 => e = .returned (.tuple #[]) ∧
 nilP x0 fun a115 =>
 ∃ (v116q : OA), ∃ (v116n : Nat), ∃ (v116c : Nat), w114.cell? (a115.add 9) = some (.slice v116q v116n v116c) ∧
 ∃ (r117q : OA), ∃ (r117n : Nat), ∃ (r117c : Nat), ∃ w118, (Instr.sliceAt ty_S_Inline (.slice v116q v116n v116c) (some (.int .i64 (IntKind.i64.wrap (x16 + 1)))) none none).run P w114 = .ok (.slice r117q r117n r117c) w118 ∧
 callE P i_parseState_emph #[.pointer x0, .slice none 0 0, .slice r117q r117n r117c] (fun e w120 => ∃ (r119q : OA), ∃ (r119n : Nat), ∃ (r119c : Nat), e = .returned (.slice r119q r119n r119c) ∧
 nilP x18 fun a121 =>
 stV w120 (a121.add 0) (.slice r119q r119n r119c) fun w122 =>
 nilP x17 fun a123 =>
 ∃ (v124 : BA), w122.cell? a123 = some (.string v124) ∧
 0 ≤ (0 : Int) ∧ 0 < (v124.size : Int) ∧
 br ((bt v124 0) == 33)
 (nilP x0 fun a125 =>
 ∃ (v126q : OA), ∃ (v126n : Nat), ∃ (v126c : Nat), w122.cell? (a125.add 9) = some (.slice v126q v126n v126c) ∧
 0 ≤ x16 ∧ x16 < (v126n : Int) ∧
 nilP v126q fun a127 =>
 stV w122 ((a127.add (Int.toNat x16 * 1)).add 0) (.iface ty_P_Image (.pointer x18)) fun w128 =>
 k10 R Xa x0 x1 x5q x5n x5c x6 x7 x16 x17 x19 w128)
 (nilP x0 fun a129 =>
 ∃ (v130q : OA), ∃ (v130n : Nat), ∃ (v130c : Nat), w122.cell? (a129.add 9) = some (.slice v130q v130n v130c) ∧
 0 ≤ x16 ∧ x16 < (v130n : Int) ∧
 nilP v130q fun a131 =>
 stV w122 ((a131.add (Int.toNat x16 * 1)).add 0) (.iface ty_P_Link (.pointer x18)) fun w132 =>
 k10 R Xa x0 x1 x5q x5n x5c x6 x7 x16 x17 x19 w132)) w118) w

def k8 (R : EP) (Xa : OA → BA → OA → Nat → Nat → Int → Bool → Int → WP) (x0 : OA) (x1 : BA) (x5q : OA) (x5n x5c : Nat) (x6 : Int) (x7 : Bool) (x8 x16 : Int) (x17 : OA) (x199 : Bool) (w : World) : Prop :=
 br x199
 (callE P i_parseState_parseLinkClose #[.pointer x0, .string x1, .int .i64 x8, .pointer x17] (fun e w98 => ∃ (r97_0 : OA), ∃ (r97_1 : Int), ∃ (r97_2 : Bool), e = .returned (.tuple #[.pointer r97_0, .int .i64 r97_1, .bool r97_2]) ∧
 br r97_2
 (nilP x0 fun a99 =>
 ∃ (v100 : Bool), w98.cell? (a99.add 6) = some (.bool v100) ∧
 br v100
 (nilP x0 fun a101 =>
 stV w98 ((a101.add 6).add 0) (.bool true) fun w102 =>
 k9 R Xa x0 x1 x5q x5n x5c x6 x7 x8 x16 x17 r97_0 r97_1 w102)
 (nilP r97_0 fun a103 =>
 ∃ (v104 : Bool), w98.cell? (a103.add 4) = some (.bool v104) ∧
 br v104
 (nilP x0 fun a105 =>
 stV w98 ((a105.add 6).add 0) (.bool true) fun w106 =>
 k9 R Xa x0 x1 x5q x5n x5c x6 x7 x8 x16 x17 r97_0 r97_1 w106)
 (nilP r97_0 fun a107 =>
 ∃ (v108 : BA), w98.cell? (a107.add 1) = some (.string v108) ∧
 callE P i_linkCorner #[.string v108] (fun e w110 => ∃ (r109 : Bool), e = .returned (.bool r109) ∧
 nilP x0 fun a111 =>
 stV w110 ((a111.add 6).add 0) (.bool r109) fun w112 =>
 k9 R Xa x0 x1 x5q x5n x5c x6 x7 x8 x16 x17 r97_0 r97_1 w112) w98)))
 (Xa x0 x1 x5q x5n x5c x6 x7 (IntKind.i64.wrap (x8 + 1)) w98)) w)
 (Xa x0 x1 x5q x5n x5c x6 x7 (IntKind.i64.wrap (x8 + 1)) w)

def k7 (R : EP) (Xa : OA → BA → OA → Nat → Nat → Int → Bool → Int → WP) (x0 : OA) (x1 : BA) (x5q : OA) (x5n x5c : Nat) (x6 : Int) (x7 : Bool) (x8 : Int) (x165 : Bool) (w : World) : Prop :=
 br x165
 (0 ≤ (IntKind.i64.wrap ((x5n : Int) - 1)) ∧ (IntKind.i64.wrap ((x5n : Int) - 1)) < (x5n : Int) ∧
 nilP x5q fun a83 =>
 ∃ (v84 : Int), w.cell? (a83.add (Int.toNat (IntKind.i64.wrap ((x5n : Int) - 1)) * 1)) = some (.int .i64 v84) ∧
 nilP x0 fun a85 =>
 ∃ (v86q : OA), ∃ (v86n : Nat), ∃ (v86c : Nat), w.cell? (a85.add 9) = some (.slice v86q v86n v86c) ∧
 0 ≤ v84 ∧ v84 < (v86n : Int) ∧
 nilP v86q fun a87 =>
 ∃ (v88 : Value), w.cell? (a87.add (Int.toNat v84 * 1)) = some v88 ∧
 ∃ (r89 : OA), ∃ w90, (Instr.typeAssert v88 ty_Inline ty_P_openPlain false).run P w = .ok (.pointer r89) w90 ∧
 ∃ (r91q : OA), ∃ (r91n : Nat), ∃ (r91c : Nat), ∃ w92, (Instr.sliceAt ty_S_int (.slice x5q x5n x5c) none (some (.int .i64 (IntKind.i64.wrap ((x5n : Int) - 1)))) none).run P w90 = .ok (.slice r91q r91n r91c) w92 ∧
 nilP r89 fun a93 =>
 ∃ (v94 : BA), w92.cell? a93 = some (.string v94) ∧
 0 ≤ (0 : Int) ∧ 0 < (v94.size : Int) ∧
 br ((bt v94 0) == 33)
 (k8 R Xa x0 x1 r91q r91n r91c x6 x7 x8 v84 r89 true w92)
 (nilP r89 fun a95 =>
 ∃ (v96 : Int), w92.cell? (a95.add 1) = some (.int .i64 v96) ∧
 k8 R Xa x0 x1 r91q r91n r91c x6 x7 x8 v84 r89 (decide (x6 ≤ v96)) w92))
 (Xa x0 x1 x5q x5n x5c x6 x7 (IntKind.i64.wrap (x8 + 1)) w)

def k5 (R : EP) (Xa : OA → BA → OA → Nat → Nat → Int → Bool → Int → WP) (x0 : OA) (x1 : BA) (x5q : OA) (x5n x5c : Nat) (x6 : Int) (x7 : Bool) (x8 : Int) (w : World) : Prop :=
 0 ≤ x8 ∧ x8 < (x1.size : Int) ∧
 k7 R Xa x0 x1 x5q x5n x5c x6 x7 x8 (((bt x1 x8) == 93) && (decide ((x5n : Int) > 0))) w

def k1 (R : EP) (Xa : OA → BA → OA → Nat → Nat → Int → Bool → Int → WP) (x0 : OA) (x1 : BA) (x5q : OA) (x5n x5c : Nat) (x6 : Int) (x7 : Bool) (x8 : Int) (x9 : Value) (w : World) : Prop :=
 ∃ (r38 : Bool), ∃ w39, (do eqGuard .neq ty_func_P_parseState_string_int_I_18a27a (.tmp 113) (.const .nilFunc) x9 .nilFunc; binOp .neq ty_func_P_parseState_string_int_I_18a27a x9 .nilFunc).run P w = .ok (.bool r38) w39 ∧
 br r38
 (enterE P (do let d ← Deferred.ofValue x9 #[.pointer x0, .string x1, .int .i64 x8]; invoke d.target d.args) (fun e w41 => ∃ (r40_0 : Value), ∃ (r40_1 : Int), ∃ (r40_2 : Int), ∃ (r40_3 : Bool), e = .returned (.tuple #[r40_0, .int .i64 r40_1, .int .i64 r40_2, .bool r40_3]) ∧
 br r40_3
 (callE P i_parseState_emit #[.pointer x0, .int .i64 r40_1] (fun e w43 => e = .returned (.tuple #[]) ∧
 ∃ (r44_0 : OA), ∃ (r44_1 : Bool), ∃ w45, (Instr.typeAssert r40_0 ty_Inline ty_P_openPlain true).run P w43 = .ok (.tuple #[.pointer r44_0, .bool r44_1]) w45 ∧
 br r44_1
 (nilP x0 fun a46 =>
 ∃ (v47q : OA), ∃ (v47n : Nat), ∃ (v47c : Nat), w45.cell? (a46.add 9) = some (.slice v47q v47n v47c) ∧
 ∃ (r48q : OA), ∃ (r48n : Nat), ∃ (r48c : Nat), ∃ w49, (Instr.buildSlice ty_S_int 1 #[(0, .int .i64 (v47n : Int))]).run P w45 = .ok (.slice r48q r48n r48c) w49 ∧
 ∃ (r50q : OA), ∃ (r50n : Nat), ∃ (r50c : Nat), ∃ w51, (Builtin.append_ #[ty_S_int, ty_S_int] ty_S_int #[.slice x5q x5n x5c, .slice r48q r48n r48c]).run P w49 = .ok (.slice r50q r50n r50c) w51 ∧
 k4 R Xa x0 x1 r50q r50n r50c x6 x7 r40_0 r40_2 w51)
 (k4 R Xa x0 x1 x5q x5n x5c x6 x7 r40_0 r40_2 w45)) w41)
 (k5 R Xa x0 x1 x5q x5n x5c x6 x7 x8 w41)) w39)
 (k5 R Xa x0 x1 x5q x5n x5c x6 x7 x8 w39)

def k2 (R : EP) (Xa : OA → BA → OA → Nat → Nat → Int → Bool → Int → WP) (x0 : OA) (x1 : BA) (x5q : OA) (x5n x5c : Nat) (x6 : Int) (x7 : Bool) (x8 : Int) (w : World) : Prop :=
 nilP x0 fun a52 =>
 k1 R Xa x0 x1 x5q x5n x5c x6 x7 x8 (.func (.func i_backtickParser_parseCodeSpan) #[.pointer (some (a52.add 12))] #[]) w

def k6 (R : EP) (Xa : OA → BA → OA → Nat → Nat → Int → Bool → Int → WP) (x0 : OA) (x1 : BA) (x5q : OA) (x5n x5c : Nat) (x6 : Int) (x7 : Bool) (x8 : Int) (x9 : Value) (x39 : Int) (x81 : Bool) (w : World) : Prop :=
 br x81
 (nilP x0 fun a71 =>
 ∃ (v72 : OA), w.cell? a71 = some (.pointer v72) ∧
 nilP v72 fun a73 =>
 ∃ (v74 : Bool), w.cell? (a73.add 9) = some (.bool v74) ∧
 br v74
 (k1 R Xa x0 x1 x5q x5n x5c x6 x7 x8 (.func (.func i_parseEmph) #[] #[]) w)
 (k1 R Xa x0 x1 x5q x5n x5c x6 x7 x8 x9 w))
 (br (x39 == 126)
 (nilP x0 fun a75 =>
 ∃ (v76 : OA), w.cell? a75 = some (.pointer v76) ∧
 nilP v76 fun a77 =>
 ∃ (v78 : Bool), w.cell? (a77.add 1) = some (.bool v78) ∧
 br v78
 (k1 R Xa x0 x1 x5q x5n x5c x6 x7 x8 (.func (.func i_parseEmph) #[] #[]) w)
 (k1 R Xa x0 x1 x5q x5n x5c x6 x7 x8 x9 w))
 (br (x39 == 10)
 (k1 R Xa x0 x1 x5q x5n x5c x6 x7 x8 (.func (.func i_parseBreak) #[] #[]) w)
 (br (x39 == 38)
 (k1 R Xa x0 x1 x5q x5n x5c x6 x7 x8 (.func (.func i_parseHTMLEntity) #[] #[]) w)
 (br (x39 == 58)
 (nilP x0 fun a79 =>
 ∃ (v80 : OA), w.cell? a79 = some (.pointer v80) ∧
 nilP v80 fun a81 =>
 ∃ (v82 : Bool), w.cell? (a81.add 6) = some (.bool v82) ∧
 br v82
 (k1 R Xa x0 x1 x5q x5n x5c x6 x7 x8 (.func (.func i_parseEmoji) #[] #[]) w)
 (k1 R Xa x0 x1 x5q x5n x5c x6 x7 x8 x9 w))
 (k1 R Xa x0 x1 x5q x5n x5c x6 x7 x8 x9 w)))))

def k3 (R : EP) (Xa : OA → BA → OA → Nat → Nat → Int → Bool → Int → WP) (x0 : OA) (x1 : BA) (x5q : OA) (x5n x5c : Nat) (x6 : Int) (x7 : Bool) (x8 : Int) (x9 : Value) (x39 : Int) (x60 : Bool) (w : World) : Prop :=
 br x60
 (k1 R Xa x0 x1 x5q x5n x5c x6 x7 x8 (.func (.func i_parseEmph) #[] #[]) w)
 (br (x39 == 46)
 (nilP x0 fun a53 =>
 ∃ (v54 : OA), w.cell? a53 = some (.pointer v54) ∧
 nilP v54 fun a55 =>
 ∃ (v56 : Bool), w.cell? (a55.add 7) = some (.bool v56) ∧
 br v56
 (k1 R Xa x0 x1 x5q x5n x5c x6 x7 x8 (.func (.func i_parseDot) #[] #[]) w)
 (k1 R Xa x0 x1 x5q x5n x5c x6 x7 x8 x9 w))
 (br (x39 == 45)
 (nilP x0 fun a57 =>
 ∃ (v58 : OA), w.cell? a57 = some (.pointer v58) ∧
 nilP v58 fun a59 =>
 ∃ (v60 : Bool), w.cell? (a59.add 8) = some (.bool v60) ∧
 br v60
 (k1 R Xa x0 x1 x5q x5n x5c x6 x7 x8 (.func (.func i_parseDash) #[] #[]) w)
 (k1 R Xa x0 x1 x5q x5n x5c x6 x7 x8 x9 w))
 (br (x39 == 34)
 (k6 R Xa x0 x1 x5q x5n x5c x6 x7 x8 x9 x39 true w)
 (k6 R Xa x0 x1 x5q x5n x5c x6 x7 x8 x9 x39 (x39 == 39) w))))

def bl1 (R : EP) (Xa : OA → BA → OA → Nat → Nat → Int → Bool → Int → WP) (x0 : OA) (x1 : BA) (x5q : OA) (x5n x5c : Nat) (x6 : Int) (x7 : Bool) (x8 : Int) (w : World) : Prop :=
 br (decide (x8 < (x1.size : Int)))
 (0 ≤ x8 ∧ x8 < (x1.size : Int) ∧
 br ((bt x1 x8) == 92)
 (k1 R Xa x0 x1 x5q x5n x5c x6 x7 x8 (.func (.func i_parseEscape) #[] #[]) w)
 (br ((bt x1 x8) == 96)
 (br (!x7)
 (nilP x0 fun a9 =>
 callE P i_backtickParser_reset #[.pointer (some (a9.add 12))] (fun e w11 => e = .returned (.tuple #[]) ∧
 k2 R Xa x0 x1 x5q x5n x5c x6 true x8 w11) w)
 (k2 R Xa x0 x1 x5q x5n x5c x6 x7 x8 w))
 (br ((bt x1 x8) == 60)
 (k1 R Xa x0 x1 x5q x5n x5c x6 x7 x8 (.func (.func i_parseAutoLinkOrHTML) #[] #[]) w)
 (br ((bt x1 x8) == 91)
 (k1 R Xa x0 x1 x5q x5n x5c x6 x7 x8 (.func (.func i_parseLinkOpen) #[] #[]) w)
 (br ((bt x1 x8) == 33)
 (k1 R Xa x0 x1 x5q x5n x5c x6 x7 x8 (.func (.func i_parseImageOpen) #[] #[]) w)
 (br ((bt x1 x8) == 95)
 (k3 R Xa x0 x1 x5q x5n x5c x6 x7 x8 .nilFunc (bt x1 x8) true w)
 (k3 R Xa x0 x1 x5q x5n x5c x6 x7 x8 .nilFunc (bt x1 x8) ((bt x1 x8) == 42) w)))))))
 (callE P i_parseState_emit #[.pointer x0, .int .i64 (x1.size : Int)] (fun e w13 => e = .returned (.tuple #[]) ∧
 tk w13 fun w14 =>
 nilP x0 fun a15 =>
 nilP x0 fun a16 =>
 ∃ (v17q : OA), ∃ (v17n : Nat), ∃ (v17c : Nat), w14.cell? (a15.add 9) = some (.slice v17q v17n v17c) ∧
 ∃ (r18q : OA), ∃ (r18n : Nat), ∃ (r18c : Nat), (∀ w, (Instr.sliceAt ty_S_Inline (.slice v17q v17n v17c) none (some (.int .i64 0)) none).run P w = .ok (.slice r18q r18n r18c) w) ∧
 ∃ (v19q : OA), ∃ (v19n : Nat), ∃ (v19c : Nat), w14.cell? (a16.add 9) = some (.slice v19q v19n v19c) ∧
 callE P i_parseState_emph #[.pointer x0, .slice r18q r18n r18c, .slice v19q v19n v19c] (fun e w21 => ∃ (r20q : OA), ∃ (r20n : Nat), ∃ (r20c : Nat), e = .returned (.slice r20q r20n r20c) ∧
 nilP x0 fun a22 =>
 stV w21 ((a22.add 9).add 0) (.slice r20q r20n r20c) fun w23 =>
 nilP x0 fun a24 =>
 ∃ (v25q : OA), ∃ (v25n : Nat), ∃ (v25c : Nat), w23.cell? (a24.add 9) = some (.slice v25q v25n v25c) ∧
 callE P i_parseState_mergePlain #[.pointer x0, .slice v25q v25n v25c] (fun e w27 => ∃ (r26q : OA), ∃ (r26n : Nat), ∃ (r26c : Nat), e = .returned (.slice r26q r26n r26c) ∧
 nilP x0 fun a28 =>
 stV w27 ((a28.add 9).add 0) (.slice r26q r26n r26c) fun w29 =>
 nilP x0 fun a30 =>
 ∃ (v31q : OA), ∃ (v31n : Nat), ∃ (v31c : Nat), w29.cell? (a30.add 9) = some (.slice v31q v31n v31c) ∧
 callE P i_parseState_autoLinkText #[.pointer x0, .slice v31q v31n v31c] (fun e w33 => ∃ (r32q : OA), ∃ (r32n : Nat), ∃ (r32c : Nat), e = .returned (.slice r32q r32n r32c) ∧
 nilP x0 fun a34 =>
 stV w33 ((a34.add 9).add 0) (.slice r32q r32n r32c) fun w35 =>
 nilP x0 fun a36 =>
 ∃ (v37q : OA), ∃ (v37n : Nat), ∃ (v37c : Nat), w35.cell? (a36.add 9) = some (.slice v37q v37n v37c) ∧
 R (.returned (.slice v37q v37n v37c)) w35) w29) w23) w14) w)
def l1 (R : EP) (x0 : OA) (x1 : BA) (x5q : OA) (x5n x5c : Nat) (x6 : Int) (x7 : Bool) (x8 : Int) (w : World) : Prop :=
 ∀ X : OA → BA → OA → Nat → Nat → Int → Bool → Int → WP, (∀ x0 x1 x5q x5n x5c x6 x7 x8 w, bl1 R X x0 x1 x5q x5n x5c x6 x7 x8 w → X x0 x1 x5q x5n x5c x6 x7 x8 w) → X x0 x1 x5q x5n x5c x6 x7 x8 w

noncomputable def al1 (R : EP) (Xa : OA → BA → OA → Nat → Nat → Int → Bool → Int → WP) : AC :=
 (.seq (.leaf (sel [1,1,1,1,1,1,1,1,1,0,0,0,0] body)) (.block 1 (.seq (.leaf (sel [1,1,1,1,1,1,1,1,1,0,0,0,1,0,0] body)) (.seq (.seq (.leaf (sel [1,1,1,1,1,1,1,1,1,0,0,0,1,0,1,0,0] body)) (.block 2 (.seq (.leaf (sel [1,1,1,1,1,1,1,1,1,0,0,0,1,0,1,0,1,0,0] body)) (.cond 40 (.leaf (sel [1,1,1,1,1,1,1,1,1,0,0,0,1,0,1,0,1,0,1,0] body)) (.seq (.leaf (sel [1,1,1,1,1,1,1,1,1,0,0,0,1,0,1,0,1,0,1,1,0] body)) (.cond 42 (.seq (.leaf (sel [1,1,1,1,1,1,1,1,1,0,0,0,1,0,1,0,1,0,1,1,1,0,0] body)) (.mark (leaf [(0, .s .ptr), (1, .s .str), (5, .s .slice), (6, .s (.int .i64)), (7, .s .bool), (8, .s (.int .i64))] (k2 R Xa)) (.leaf (sel [1,1,1,1,1,1,1,1,1,0,0,0,1,0,1,0,1,0,1,1,1,0,1] body)))) (.seq (.leaf (sel [1,1,1,1,1,1,1,1,1,0,0,0,1,0,1,0,1,0,1,1,1,1,0] body)) (.cond 54 (.leaf (sel [1,1,1,1,1,1,1,1,1,0,0,0,1,0,1,0,1,0,1,1,1,1,1,0] body)) (.seq (.leaf (sel [1,1,1,1,1,1,1,1,1,0,0,0,1,0,1,0,1,0,1,1,1,1,1,1,0] body)) (.cond 56 (.leaf (sel [1,1,1,1,1,1,1,1,1,0,0,0,1,0,1,0,1,0,1,1,1,1,1,1,1,0] body)) (.seq (.leaf (sel [1,1,1,1,1,1,1,1,1,0,0,0,1,0,1,0,1,0,1,1,1,1,1,1,1,1,0] body)) (.cond 58 (.leaf (sel [1,1,1,1,1,1,1,1,1,0,0,0,1,0,1,0,1,0,1,1,1,1,1,1,1,1,1,0] body)) (.seq (.leaf (sel [1,1,1,1,1,1,1,1,1,0,0,0,1,0,1,0,1,0,1,1,1,1,1,1,1,1,1,1,0] body)) (.mark (leaf [(0, .s .ptr), (1, .s .str), (5, .s .slice), (6, .s (.int .i64)), (7, .s .bool), (8, .s (.int .i64)), (9, .s .any), (39, .s (.int .u8)), (60, .s .bool)] (k3 R Xa)) (.cond 60 (.leaf (sel [1,1,1,1,1,1,1,1,1,0,0,0,1,0,1,0,1,0,1,1,1,1,1,1,1,1,1,1,1,0] body)) (.seq (.leaf (sel [1,1,1,1,1,1,1,1,1,0,0,0,1,0,1,0,1,0,1,1,1,1,1,1,1,1,1,1,1,1,0] body)) (.cond 63 (.leaf (sel [1,1,1,1,1,1,1,1,1,0,0,0,1,0,1,0,1,0,1,1,1,1,1,1,1,1,1,1,1,1,1,0] body)) (.seq (.leaf (sel [1,1,1,1,1,1,1,1,1,0,0,0,1,0,1,0,1,0,1,1,1,1,1,1,1,1,1,1,1,1,1,1,0] body)) (.cond 72 (.leaf (sel [1,1,1,1,1,1,1,1,1,0,0,0,1,0,1,0,1,0,1,1,1,1,1,1,1,1,1,1,1,1,1,1,1,0] body)) (.seq (.leaf (sel [1,1,1,1,1,1,1,1,1,0,0,0,1,0,1,0,1,0,1,1,1,1,1,1,1,1,1,1,1,1,1,1,1,1,0] body)) (.mark (leaf [(0, .s .ptr), (1, .s .str), (5, .s .slice), (6, .s (.int .i64)), (7, .s .bool), (8, .s (.int .i64)), (9, .s .any), (39, .s (.int .u8)), (81, .s .bool)] (k6 R Xa)) (.leaf (sel [1,1,1,1,1,1,1,1,1,0,0,0,1,0,1,0,1,0,1,1,1,1,1,1,1,1,1,1,1,1,1,1,1,1,1] body))))))))))))))))))))))) (.mark (leaf [(0, .s .ptr), (1, .s .str), (5, .s .slice), (6, .s (.int .i64)), (7, .s .bool), (8, .s (.int .i64)), (9, .s .any)] (k1 R Xa)) (.seq (.seq (.leaf (sel [1,1,1,1,1,1,1,1,1,0,0,0,1,0,1,1,0,0] body)) (.cond 114 (.seq (.leaf (sel [1,1,1,1,1,1,1,1,1,0,0,0,1,0,1,1,0,1,0,0] body)) (.seq (.leaf (sel [1,1,1,1,1,1,1,1,1,0,0,0,1,0,1,1,0,1,0,1,0] body)) (.cond 125 (.seq (.leaf (sel [1,1,1,1,1,1,1,1,1,0,0,0,1,0,1,1,0,1,0,1,1,0,0] body)) (.seq (.leaf (sel [1,1,1,1,1,1,1,1,1,0,0,0,1,0,1,1,0,1,0,1,1,0,1,0] body)) (.mark (leaf [(0, .s .ptr), (1, .s .str), (5, .s .slice), (6, .s (.int .i64)), (7, .s .bool), (10, .s .any), (12, .s (.int .i64))] (k4 R Xa)) (.leaf (sel [1,1,1,1,1,1,1,1,1,0,0,0,1,0,1,1,0,1,0,1,1,0,1,1] body))))) (.leaf (sel [1,1,1,1,1,1,1,1,1,0,0,0,1,0,1,1,0,1,0,1,1,1] body))))) (.leaf (sel [1,1,1,1,1,1,1,1,1,0,0,0,1,0,1,1,0,1,1] body)))) (.mark (leaf [(0, .s .ptr), (1, .s .str), (5, .s .slice), (6, .s (.int .i64)), (7, .s .bool), (8, .s (.int .i64))] (k5 R Xa)) (.seq (.seq (.leaf (sel [1,1,1,1,1,1,1,1,1,0,0,0,1,0,1,1,1,0,0] body)) (.mark (leaf [(0, .s .ptr), (1, .s .str), (5, .s .slice), (6, .s (.int .i64)), (7, .s .bool), (8, .s (.int .i64)), (165, .s .bool)] (k7 R Xa)) (.cond 165 (.seq (.leaf (sel [1,1,1,1,1,1,1,1,1,0,0,0,1,0,1,1,1,0,1,0,0] body)) (.seq (.leaf (sel [1,1,1,1,1,1,1,1,1,0,0,0,1,0,1,1,1,0,1,0,1,0] body)) (.seq (.leaf (sel [1,1,1,1,1,1,1,1,1,0,0,0,1,0,1,1,1,0,1,0,1,1,0] body)) (.seq (.leaf (sel [1,1,1,1,1,1,1,1,1,0,0,0,1,0,1,1,1,0,1,0,1,1,1,0] body)) (.mark (leaf [(0, .s .ptr), (1, .s .str), (5, .s .slice), (6, .s (.int .i64)), (7, .s .bool), (8, .s (.int .i64)), (16, .s (.int .i64)), (17, .s .ptr), (199, .s .bool)] (k8 R Xa)) (.cond 199 (.seq (.leaf (sel [1,1,1,1,1,1,1,1,1,0,0,0,1,0,1,1,1,0,1,0,1,1,1,1,0,0] body)) (.seq (.leaf (sel [1,1,1,1,1,1,1,1,1,0,0,0,1,0,1,1,1,0,1,0,1,1,1,1,0,1,0] body)) (.cond 209 (.seq (.leaf (sel [1,1,1,1,1,1,1,1,1,0,0,0,1,0,1,1,1,0,1,0,1,1,1,1,0,1,1,0,0] body)) (.mark (leaf [(0, .s .ptr), (1, .s .str), (5, .s .slice), (6, .s (.int .i64)), (7, .s .bool), (8, .s (.int .i64)), (16, .s (.int .i64)), (17, .s .ptr), (18, .s .ptr), (19, .s (.int .i64))] (k9 R Xa)) (.seq (.leaf (sel [1,1,1,1,1,1,1,1,1,0,0,0,1,0,1,1,1,0,1,0,1,1,1,1,0,1,1,0,1,0] body)) (.seq (.leaf (sel [1,1,1,1,1,1,1,1,1,0,0,0,1,0,1,1,1,0,1,0,1,1,1,1,0,1,1,0,1,1,0] body)) (.seq (.leaf (sel [1,1,1,1,1,1,1,1,1,0,0,0,1,0,1,1,1,0,1,0,1,1,1,1,0,1,1,0,1,1,1,0] body)) (.mark (leaf [(0, .s .ptr), (1, .s .str), (5, .s .slice), (6, .s (.int .i64)), (7, .s .bool), (16, .s (.int .i64)), (17, .s .ptr), (19, .s (.int .i64))] (k10 R Xa)) (.leaf (sel [1,1,1,1,1,1,1,1,1,0,0,0,1,0,1,1,1,0,1,0,1,1,1,1,0,1,1,0,1,1,1,1] body)))))))) (.leaf (sel [1,1,1,1,1,1,1,1,1,0,0,0,1,0,1,1,1,0,1,0,1,1,1,1,0,1,1,1] body))))) (.leaf (sel [1,1,1,1,1,1,1,1,1,0,0,0,1,0,1,1,1,0,1,0,1,1,1,1,1] body)))))))) (.leaf (sel [1,1,1,1,1,1,1,1,1,0,0,0,1,0,1,1,1,0,1,1] body))))) (.leaf (sel [1,1,1,1,1,1,1,1,1,0,0,0,1,0,1,1,1,1] body))))))))))
end g_parseState_inline
def g_parseState_inline (R : EP) (x0 : OA) (x1 : BA) (w : World) : Prop :=
 callE P i_trimSpaceTab #[.string x1] (fun e w2 => ∃ (r1 : BA), e = .returned (.string r1) ∧
 nilP x0 fun a3 =>
 stV w2 ((a3.add 7).add 0) (.string r1) fun w4 =>
 nilP x0 fun a5 =>
 stV w4 ((a5.add 9).add 0) (.slice none 0 0) fun w6 =>
 nilP x0 fun a7 =>
 stV w6 ((a7.add 8).add 0) (.int .i64 0) fun w8 =>
 g_parseState_inline.l1 R x0 r1 none 0 0 0 false 0 w8) w

namespace g_parseState_inline
noncomputable def ac (R : EP) : AC :=
 (.seq (.leaf (sel [0] body)) (.seq (.leaf (sel [1,0] body)) (.seq (.leaf (sel [1,1,0] body)) (.seq (.leaf (sel [1,1,1,0] body)) (.seq (.leaf (sel [1,1,1,1,0] body)) (.seq (.leaf (sel [1,1,1,1,1,0] body)) (.seq (.leaf (sel [1,1,1,1,1,1,0] body)) (.seq (.leaf (sel [1,1,1,1,1,1,1,0] body)) (.seq (.leaf (sel [1,1,1,1,1,1,1,1,0] body)) (.seq (.block 0 (.loop (leaf [(0, .s .ptr), (1, .s .str), (5, .s .slice), (6, .s (.int .i64)), (7, .s .bool), (8, .s (.int .i64))] (l1 R)) (sel [1,1,1,1,1,1,1,1,1,0,0,0] body))) (.seq (.leaf (sel [1,1,1,1,1,1,1,1,1,1,0] body)) (.seq (.draw (.pure 0 (.pure 1 (.pure 2 (.pure 3 (.pure 4 (.pure 7 (.pure 8 (.pure 9 (.load 5 (.pure 6 (.load 10 (.one 11 (.pure 12 (.pure 13 (.one 14 .done))))))))))))))) (sel [1,1,1,1,1,1,1,1,1,1,1,0] body)) (.leaf (sel [1,1,1,1,1,1,1,1,1,1,1,1] body))))))))))))))
theorem good (R : EP) : Good P 335 (ac R) (QF P [.tmp 4] R) :=
 ⟨trivial, ⟨trivial, ⟨trivial, ⟨trivial, ⟨trivial, ⟨trivial, ⟨trivial, ⟨trivial, ⟨trivial, ⟨(loopG (al1 R) (bl1 R) (fun _ => by kernel_rfl) (fun Xa => ⟨trivial, ⟨trivial, ⟨⟨trivial, ⟨trivial, ⟨trivial, ⟨trivial, ⟨⟨trivial, ⟨trivial, cutZ⟩⟩, ⟨trivial, ⟨trivial, ⟨trivial, ⟨trivial, ⟨trivial, ⟨trivial, ⟨trivial, ⟨⟨trivial, ⟨trivial, ⟨trivial, ⟨trivial, ⟨trivial, ⟨trivial, ⟨trivial, cutZ⟩⟩⟩⟩⟩⟩⟩, cutZ⟩⟩⟩⟩⟩⟩⟩⟩⟩⟩⟩⟩⟩, ⟨⟨⟨trivial, ⟨⟨trivial, ⟨trivial, ⟨⟨trivial, ⟨trivial, ⟨trivial, cutZ⟩⟩⟩, trivial⟩⟩⟩, trivial⟩⟩, ⟨⟨⟨trivial, ⟨⟨⟨trivial, ⟨trivial, ⟨trivial, ⟨trivial, ⟨⟨⟨trivial, ⟨trivial, ⟨⟨trivial, ⟨⟨trivial, ⟨trivial, ⟨trivial, ⟨trivial, cutZ⟩⟩⟩⟩, cutZ⟩⟩, trivial⟩⟩⟩, trivial⟩, cutZ⟩⟩⟩⟩⟩, trivial⟩, cutZ⟩⟩, trivial⟩, cutZ⟩⟩, cutZ⟩⟩⟩⟩) (fun Xa => by intro x0 x1 x5q x5n x5c x6 x7 x8 ρ w; kernel_rfl) (fun X h _ _ _ _ _ _ _ _ _ g => g X h)), ⟨trivial, ⟨⟨by kernel_rfl, by kernel_rfl, fun _ _ _ h => h⟩, trivial⟩⟩⟩⟩⟩⟩⟩⟩⟩⟩⟩⟩
theorem eq (R : EP) (x0 : OA) (x1 : BA) (w : World) : g_parseState_inline R x0 x1 w = vcA P 335 (ac R) (QF P [.tmp 4] R) (fr0 [.pointer x0, .string x1]) w := by kernel_rfl
theorem sound {R : EP} {x0 : OA} {x1 : ByteArray} {w : World} (h : g_parseState_inline R x0 x1 w) : callE P i_parseState_inline #[.pointer x0, .string x1] R w :=
 callE_fz (c := body) Tryz.func70 Tryz.call70 (good R) (eq R x0 x1 w) h
end g_parseState_inline
namespace g_parseState_mergePlain
noncomputable def body : Code := bodyOf Tryz.f107
def k2 (R : EP) (Xa : OA → Nat → Nat → OA → Nat → Nat → Int → Int → WP) (x1q : OA) (x1n x1c : Nat) (x5q : OA) (x5n x5c : Nat) (x7 : Int) (w : World) : Prop :=
 br (decide (x7 ≥ (x1n : Int)))
 (R (.returned (.slice x5q x5n x5c)) w)
 (0 ≤ x7 ∧ x7 < (x1n : Int) ∧
 nilP x1q fun a17 =>
 ∃ (v18 : Value), w.cell? (a17.add (Int.toNat x7 * 1)) = some v18 ∧
 ∃ (r19q : OA), ∃ (r19n : Nat), ∃ (r19c : Nat), ∃ w20, (Instr.buildSlice ty_S_Inline 1 #[(0, v18)]).run P w = .ok (.slice r19q r19n r19c) w20 ∧
 ∃ (r21q : OA), ∃ (r21n : Nat), ∃ (r21c : Nat), ∃ w22, (Builtin.append_ #[ty_S_Inline, ty_S_Inline] ty_S_Inline #[.slice x5q x5n x5c, .slice r19q r19n r19c]).run P w20 = .ok (.slice r21q r21n r21c) w22 ∧
 Xa x1q x1n x1c r21q r21n r21c (IntKind.i64.wrap (x7 + 1)) (IntKind.i64.wrap (x7 + 1)) w22)

def k1 (R : EP) (Xa : OA → Nat → Nat → OA → Nat → Nat → Int → Int → WP) (x1q : OA) (x1n x1c : Nat) (x5q : OA) (x5n x5c : Nat) (x6 x7 : Int) (w : World) : Prop :=
 br (decide (x6 < x7))
 (∃ (r9q : OA), ∃ (r9n : Nat), ∃ (r9c : Nat), ∃ w10, (Instr.sliceAt ty_S_Inline (.slice x1q x1n x1c) (some (.int .i64 x6)) (some (.int .i64 x7)) none).run P w = .ok (.slice r9q r9n r9c) w10 ∧
 callE P i_mergePlain1 #[.slice r9q r9n r9c] (fun e w12 => ∃ (r11 : OA), e = .returned (.pointer r11) ∧
 ∃ (r13q : OA), ∃ (r13n : Nat), ∃ (r13c : Nat), ∃ w14, (Instr.buildSlice ty_S_Inline 1 #[(0, .iface ty_P_Plain (.pointer r11))]).run P w12 = .ok (.slice r13q r13n r13c) w14 ∧
 ∃ (r15q : OA), ∃ (r15n : Nat), ∃ (r15c : Nat), ∃ w16, (Builtin.append_ #[ty_S_Inline, ty_S_Inline] ty_S_Inline #[.slice x5q x5n x5c, .slice r13q r13n r13c]).run P w14 = .ok (.slice r15q r15n r15c) w16 ∧
 k2 R Xa x1q x1n x1c r15q r15n r15c x7 w16) w10)
 (k2 R Xa x1q x1n x1c x5q x5n x5c x7 w)

def bl1 (R : EP) (Xa : OA → Nat → Nat → OA → Nat → Nat → Int → Int → WP) (x1q : OA) (x1n x1c : Nat) (x5q : OA) (x5n x5c : Nat) (x6 x7 : Int) (w : World) : Prop :=
 br (decide (x7 < (x1n : Int)))
 (0 ≤ x7 ∧ x7 < (x1n : Int) ∧
 nilP x1q fun a3 =>
 ∃ (v4 : Value), w.cell? (a3.add (Int.toNat x7 * 1)) = some v4 ∧
 callE P i_toPlain #[v4] (fun e w6 => ∃ (r5 : OA), e = .returned (.pointer r5) ∧
 ∃ (r7 : Bool), ∃ w8, (do eqGuard .neq ty_P_Plain (.tmp 21) (.const (.pointer none)) (.pointer r5) (.pointer none); binOp .neq ty_P_Plain (.pointer r5) (.pointer none)).run P w6 = .ok (.bool r7) w8 ∧
 br r7
 (Xa x1q x1n x1c x5q x5n x5c x6 (IntKind.i64.wrap (x7 + 1)) w8)
 (k1 R Xa x1q x1n x1c x5q x5n x5c x6 x7 w8)) w)
 (k1 R Xa x1q x1n x1c x5q x5n x5c x6 x7 w)
def l1 (R : EP) (x1q : OA) (x1n x1c : Nat) (x5q : OA) (x5n x5c : Nat) (x6 x7 : Int) (w : World) : Prop :=
 ∀ X : OA → Nat → Nat → OA → Nat → Nat → Int → Int → WP, (∀ x1q x1n x1c x5q x5n x5c x6 x7 w, bl1 R X x1q x1n x1c x5q x5n x5c x6 x7 w → X x1q x1n x1c x5q x5n x5c x6 x7 w) → X x1q x1n x1c x5q x5n x5c x6 x7 w

noncomputable def al1 (R : EP) (Xa : OA → Nat → Nat → OA → Nat → Nat → Int → Int → WP) : AC :=
 (.seq (.block 1 (.seq (.leaf (sel [1,1,1,0,1,0,0,0,0,0] body)) (.mark (leaf [(1, .s .slice), (5, .s .slice), (6, .s (.int .i64)), (7, .s (.int .i64))] (k1 R Xa)) (.seq (.leaf (sel [1,1,1,0,1,0,0,0,0,1,0] body)) (.mark (leaf [(1, .s .slice), (5, .s .slice), (7, .s (.int .i64))] (k2 R Xa)) (.leaf (sel [1,1,1,0,1,0,0,0,0,1,1] body))))))) (.leaf (sel [1,1,1,0,1,0,0,1] body)))
end g_parseState_mergePlain
def g_parseState_mergePlain (R : EP) (x0 x1q : OA) (x1n x1c : Nat) (w : World) : Prop :=
 ∃ (r1q : OA), ∃ (r1n : Nat), ∃ (r1c : Nat), ∃ w2, (Instr.sliceAt ty_S_Inline (.slice x1q x1n x1c) none (some (.int .i64 0)) none).run P w = .ok (.slice r1q r1n r1c) w2 ∧
 g_parseState_mergePlain.l1 R x1q x1n x1c r1q r1n r1c 0 0 w2

namespace g_parseState_mergePlain
noncomputable def ac (R : EP) : AC :=
 (.seq (.leaf (sel [0] body)) (.seq (.leaf (sel [1,0] body)) (.seq (.leaf (sel [1,1,0] body)) (.seq (.seq (.leaf (sel [1,1,1,0,0] body)) (.block 0 (.loop (leaf [(1, .s .slice), (5, .s .slice), (6, .s (.int .i64)), (7, .s (.int .i64))] (l1 R)) (sel [1,1,1,0,1,0,0] body)))) (.leaf (sel [1,1,1,1] body))))))
theorem good (R : EP) : Good P 50 (ac R) (QF P [.tmp 4] R) :=
 ⟨trivial, ⟨trivial, ⟨trivial, ⟨⟨trivial, (loopG (al1 R) (bl1 R) (fun _ => by kernel_rfl) (fun Xa => ⟨⟨trivial, ⟨⟨trivial, ⟨trivial, cutZ⟩⟩, cutZ⟩⟩, trivial⟩) (fun Xa => by intro x1q x1n x1c x5q x5n x5c x6 x7 ρ w; kernel_rfl) (fun X h _ _ _ _ _ _ _ _ _ g => g X h))⟩, trivial⟩⟩⟩⟩
theorem eq (R : EP) (x0 x1q : OA) (x1n x1c : Nat) (w : World) : g_parseState_mergePlain R x0 x1q x1n x1c w = vcA P 50 (ac R) (QF P [.tmp 4] R) (fr0 [.pointer x0, .slice x1q x1n x1c]) w := by kernel_rfl
theorem sound {R : EP} {x0 x1q : OA} {x1n x1c : Nat} {w : World} (h : g_parseState_mergePlain R x0 x1q x1n x1c w) : callE P i_parseState_mergePlain #[.pointer x0, .slice x1q x1n x1c] R w :=
 callE_fz (c := body) Tryz.func107 Tryz.call107 (good R) (eq R x0 x1q x1n x1c w) h
end g_parseState_mergePlain
namespace g_mergePlain1
noncomputable def body : Code := bodyOf Tryz.f163
def bl1 (R : EP) (Xa : OA → Nat → Nat → OA → Nat → Nat → Int → Int → WP) (x3q : OA) (x3n x3c : Nat) (x13q : OA) (x13n x13c : Nat) (x14 x15 : Int) (w : World) : Prop :=
 br (decide (x15 < x14))
 (0 ≤ x15 ∧ x15 < (x13n : Int) ∧
 nilP x13q fun a5 =>
 ∃ (v6 : Value), w.cell? (a5.add (Int.toNat x15 * 1)) = some v6 ∧
 callE P i_toPlain #[v6] (fun e w8 => ∃ (r7 : OA), e = .returned (.pointer r7) ∧
 nilP r7 fun a9 =>
 ∃ (v10 : BA), w8.cell? a9 = some (.string v10) ∧
 ∃ (r11q : OA), ∃ (r11n : Nat), ∃ (r11c : Nat), ∃ w12, (Instr.buildSlice ty_S_string 1 #[(0, .string v10)]).run P w8 = .ok (.slice r11q r11n r11c) w12 ∧
 ∃ (r13q : OA), ∃ (r13n : Nat), ∃ (r13c : Nat), ∃ w14, (Builtin.append_ #[ty_S_string, ty_S_string] ty_S_string #[.slice x3q x3n x3c, .slice r11q r11n r11c]).run P w12 = .ok (.slice r13q r13n r13c) w14 ∧
 Xa r13q r13n r13c x13q x13n x13c x14 (IntKind.i64.wrap (x15 + 1)) w14) w)
 (callE P i_strings_Join #[.slice x3q x3n x3c, .string (ByteArray.mk #[])] (fun e w16 => ∃ (r15 : BA), e = .returned (.string r15) ∧
 box w16 #[.string r15] ty_Plain fun b17 w18 =>
 R (.returned (.pointer (some ⟨b17, 0, none⟩))) w18) w)
def l1 (R : EP) (x3q : OA) (x3n x3c : Nat) (x13q : OA) (x13n x13c : Nat) (x14 x15 : Int) (w : World) : Prop :=
 ∀ X : OA → Nat → Nat → OA → Nat → Nat → Int → Int → WP, (∀ x3q x3n x3c x13q x13n x13c x14 x15 w, bl1 R X x3q x3n x3c x13q x13n x13c x14 x15 w → X x3q x3n x3c x13q x13n x13c x14 x15 w) → X x3q x3n x3c x13q x13n x13c x14 x15 w

noncomputable def al1 (R : EP) (Xa : OA → Nat → Nat → OA → Nat → Nat → Int → Int → WP) : AC :=
 (.leaf (sel [1,1,1,0,1,0,0] body))
end g_mergePlain1
def g_mergePlain1 (R : EP) (x0q : OA) (x0n x0c : Nat) (w : World) : Prop :=
 br ((x0n : Int) == 1)
 (0 ≤ (0 : Int) ∧ 0 < (x0n : Int) ∧
 nilP x0q fun a1 =>
 ∃ (v2 : Value), w.cell? (a1.add (Int.toNat 0 * 1)) = some v2 ∧
 callE P i_toPlain #[v2] (fun e w4 => ∃ (r3 : OA), e = .returned (.pointer r3) ∧
 R (.returned (.pointer r3)) w4) w)
 (g_mergePlain1.l1 R none 0 0 x0q x0n x0c (x0n : Int) 0 w)

namespace g_mergePlain1
noncomputable def ac (R : EP) : AC :=
 (.seq (.leaf (sel [0] body)) (.seq (.leaf (sel [1,0] body)) (.seq (.leaf (sel [1,1,0] body)) (.seq (.seq (.leaf (sel [1,1,1,0,0] body)) (.block 0 (.loop (leaf [(3, .s .slice), (13, .s .slice), (14, .s (.int .i64)), (15, .s (.int .i64))] (l1 R)) (sel [1,1,1,0,1,0,0] body)))) (.leaf (sel [1,1,1,1] body))))))
theorem good (R : EP) : Good P 32 (ac R) (QF P [.tmp 2] R) :=
 ⟨trivial, ⟨trivial, ⟨trivial, ⟨⟨trivial, (loopG (al1 R) (bl1 R) (fun _ => by kernel_rfl) (fun Xa => trivial) (fun Xa => by intro x3q x3n x3c x13q x13n x13c x14 x15 ρ w; kernel_rfl) (fun X h _ _ _ _ _ _ _ _ _ g => g X h))⟩, trivial⟩⟩⟩⟩
theorem eq (R : EP) (x0q : OA) (x0n x0c : Nat) (w : World) : g_mergePlain1 R x0q x0n x0c w = vcA P 32 (ac R) (QF P [.tmp 2] R) (fr0 [.slice x0q x0n x0c]) w := by kernel_rfl
theorem sound {R : EP} {x0q : OA} {x0n x0c : Nat} {w : World} (h : g_mergePlain1 R x0q x0n x0c w) : callE P i_mergePlain1 #[.slice x0q x0n x0c] R w :=
 callE_fz (c := body) Tryz.func163 Tryz.call163 (good R) (eq R x0q x0n x0c w) h
end g_mergePlain1
namespace g_toPlain
noncomputable def body : Code := bodyOf Tryz.f162
end g_toPlain
def g_toPlain (R : EP) (x0 : Value) (w : World) : Prop :=
 ∃ (r1_0 : OA), ∃ (r1_1 : Bool), ∃ w2, (Instr.typeAssert x0 ty_Inline ty_P_Plain true).run P w = .ok (.tuple #[.pointer r1_0, .bool r1_1]) w2 ∧
 br r1_1
 (R (.returned (.pointer r1_0)) w2)
 (∃ (r3_0 : OA), ∃ (r3_1 : Bool), ∃ w4, (Instr.typeAssert x0 ty_Inline ty_P_emphPlain true).run P w2 = .ok (.tuple #[.pointer r3_0, .bool r3_1]) w4 ∧
 br r3_1
 (nilP r3_0 fun a5 =>
 R (.returned (.pointer (some a5))) w4)
 (∃ (r6_0 : OA), ∃ (r6_1 : Bool), ∃ w7, (Instr.typeAssert x0 ty_Inline ty_P_openPlain true).run P w4 = .ok (.tuple #[.pointer r6_0, .bool r6_1]) w7 ∧
 br r6_1
 (nilP r6_0 fun a8 =>
 R (.returned (.pointer (some a8))) w7)
 (R (.returned (.pointer none)) w7)))

namespace g_toPlain
noncomputable def ac (R : EP) : AC :=
 (.leaf (sel [] body))
theorem good (R : EP) : Good P 23 (ac R) (QF P [.tmp 2] R) :=
 trivial
theorem eq (R : EP) (x0 : Value) (w : World) : g_toPlain R x0 w = vcA P 23 (ac R) (QF P [.tmp 2] R) (fr0 [x0]) w := by kernel_rfl
theorem sound {R : EP} {x0 : Value} {w : World} (h : g_toPlain R x0 w) : callE P i_toPlain #[x0] R w :=
 callE_fz (c := body) Tryz.func162 Tryz.call162 (good R) (eq R x0 w) h
end g_toPlain
namespace g_parseState_emph
noncomputable def body : Code := bodyOf Tryz.f106
def k4 (R : EP) (Xa : OA → Nat → Nat → Nat → Nat → Value → Value → Int → WP) (x2q : OA) (x2n x2c : Nat) (x4 x7 : Nat) (x8 x9 : Value) (x10 : Int) (x13 x21 : OA) (w : World) : Prop :=
 nilP x13 fun a147 =>
 ∃ (v148 : Bool), w.cell? (a147.add 1) = some (.bool v148) ∧
 br v148
 (∃ (v149q : OA), ∃ (v149n : Nat), ∃ (v149c : Nat), w.cell? ⟨x4, 0, none⟩ = some (.slice v149q v149n v149c) ∧
 nilP x13 fun a150 =>
 stV w ((a150.add 3).add 0) (.int .i64 (v149n : Int)) fun w151 =>
 ∃ (v152q : OA), ∃ (v152n : Nat), ∃ (v152c : Nat), w151.cell? ⟨x4, 0, none⟩ = some (.slice v152q v152n v152c) ∧
 ∃ (r153q : OA), ∃ (r153n : Nat), ∃ (r153c : Nat), ∃ w154, (Instr.buildSlice ty_S_Inline 1 #[(0, .iface ty_P_emphPlain (.pointer x13))]).run P w151 = .ok (.slice r153q r153n r153c) w154 ∧
 ∃ (r155q : OA), ∃ (r155n : Nat), ∃ (r155c : Nat), ∃ w156, (Builtin.append_ #[ty_S_Inline, ty_S_Inline] ty_S_Inline #[.slice v152q v152n v152c, .slice r153q r153n r153c]).run P w154 = .ok (.slice r155q r155n r155c) w156 ∧
 stV w156 ⟨x4, 0, none⟩ (.slice r155q r155n r155c) fun w157 =>
 nilP x21 fun a158 =>
 ∃ (v159q : OA), ∃ (v159n : Nat), ∃ (v159c : Nat), w157.cell? a158 = some (.slice v159q v159n v159c) ∧
 ∃ (r160q : OA), ∃ (r160n : Nat), ∃ (r160c : Nat), ∃ w161, (Instr.buildSlice ty_S_P_emphPlain 1 #[(0, .pointer x13)]).run P w157 = .ok (.slice r160q r160n r160c) w161 ∧
 ∃ (r162q : OA), ∃ (r162n : Nat), ∃ (r162c : Nat), ∃ w163, (Builtin.append_ #[ty_S_P_emphPlain, ty_S_P_emphPlain] ty_S_P_emphPlain #[.slice v159q v159n v159c, .slice r160q r160n r160c]).run P w161 = .ok (.slice r162q r162n r162c) w163 ∧
 nilP x21 fun a164 =>
 stV w163 (a164.add 0) (.slice r162q r162n r162c) fun w165 =>
 Xa x2q x2n x2c x4 x7 x8 x9 (IntKind.i64.wrap (x10 + 1)) w165)
 (tk w fun w166 =>
 nilP x13 fun a167 =>
 ∃ (v168q : OA), ∃ (v168n : Nat), ∃ (v168c : Nat), w166.cell? ⟨x4, 0, none⟩ = some (.slice v168q v168n v168c) ∧
 ∃ (r169q : OA), ∃ (r169n : Nat), ∃ (r169c : Nat), ∃ w170, (Instr.buildSlice ty_S_Inline 1 #[(0, .iface ty_P_Plain (.pointer (some a167)))]).run P w166 = .ok (.slice r169q r169n r169c) w170 ∧
 SameC w166 w170 ⟨x4, 0, none⟩ 1 ∧
 ∃ (r171q : OA), ∃ (r171n : Nat), ∃ (r171c : Nat), ∃ w172, (Builtin.append_ #[ty_S_Inline, ty_S_Inline] ty_S_Inline #[.slice v168q v168n v168c, .slice r169q r169n r169c]).run P w170 = .ok (.slice r171q r171n r171c) w172 ∧
 stV w172 ⟨x4, 0, none⟩ (.slice r171q r171n r171c) fun w173 =>
 Xa x2q x2n x2c x4 x7 x8 x9 (IntKind.i64.wrap (x10 + 1)) w173)

def k7 (R : EP) (Xa : OA → Nat → Nat → Nat → Nat → Value → Value → Int → WP) (Xb : OA → Nat → Nat → Nat → Nat → Value → Value → Int → OA → OA → WP) (Xc : OA → Nat → Nat → Nat → Nat → Value → Value → Int → OA → OA → Int → WP) (x2q : OA) (x2n x2c : Nat) (x4 x7 : Nat) (x8 x9 : Value) (x10 : Int) (x13 x15 : OA) (x18 : Int) (x19 : Bool) (x20 : OA) (w : World) : Prop :=
 enterE P (do let d ← Deferred.ofValue x9 #[]; invoke d.target d.args) (fun e w267 => e = .returned (.tuple #[]) ∧
 br x19
 (∃ (v268q : OA), ∃ (v268n : Nat), ∃ (v268c : Nat), w267.cell? ⟨x4, 0, none⟩ = some (.slice v268q v268n v268c) ∧
 ∃ (r269q : OA), ∃ (r269n : Nat), ∃ (r269c : Nat), ∃ w270, (Instr.buildSlice ty_S_Inline 1 #[(0, .iface ty_P_Del (.pointer x20))]).run P w267 = .ok (.slice r269q r269n r269c) w270 ∧
 ∃ (r271q : OA), ∃ (r271n : Nat), ∃ (r271c : Nat), ∃ w272, (Builtin.append_ #[ty_S_Inline, ty_S_Inline] ty_S_Inline #[.slice v268q v268n v268c, .slice r269q r269n r269c]).run P w270 = .ok (.slice r271q r271n r271c) w272 ∧
 stV w272 ⟨x4, 0, none⟩ (.slice r271q r271n r271c) fun w273 =>
 Xb x2q x2n x2c x4 x7 x8 x9 x10 x13 x15 w273)
 (br (x18 == 2)
 (∃ (v274q : OA), ∃ (v274n : Nat), ∃ (v274c : Nat), w267.cell? ⟨x4, 0, none⟩ = some (.slice v274q v274n v274c) ∧
 ∃ (r275q : OA), ∃ (r275n : Nat), ∃ (r275c : Nat), ∃ w276, (Instr.buildSlice ty_S_Inline 1 #[(0, .iface ty_P_Strong (.pointer x20))]).run P w267 = .ok (.slice r275q r275n r275c) w276 ∧
 ∃ (r277q : OA), ∃ (r277n : Nat), ∃ (r277c : Nat), ∃ w278, (Builtin.append_ #[ty_S_Inline, ty_S_Inline] ty_S_Inline #[.slice v274q v274n v274c, .slice r275q r275n r275c]).run P w276 = .ok (.slice r277q r277n r277c) w278 ∧
 stV w278 ⟨x4, 0, none⟩ (.slice r277q r277n r277c) fun w279 =>
 Xb x2q x2n x2c x4 x7 x8 x9 x10 x13 x15 w279)
 (∃ (v280q : OA), ∃ (v280n : Nat), ∃ (v280c : Nat), w267.cell? ⟨x4, 0, none⟩ = some (.slice v280q v280n v280c) ∧
 ∃ (r281q : OA), ∃ (r281n : Nat), ∃ (r281c : Nat), ∃ w282, (Instr.buildSlice ty_S_Inline 1 #[(0, .iface ty_P_Emph (.pointer x20))]).run P w267 = .ok (.slice r281q r281n r281c) w282 ∧
 ∃ (r283q : OA), ∃ (r283n : Nat), ∃ (r283c : Nat), ∃ w284, (Builtin.append_ #[ty_S_Inline, ty_S_Inline] ty_S_Inline #[.slice v280q v280n v280c, .slice r281q r281n r281c]).run P w282 = .ok (.slice r283q r283n r283c) w284 ∧
 stV w284 ⟨x4, 0, none⟩ (.slice r283q r283n r283c) fun w285 =>
 Xb x2q x2n x2c x4 x7 x8 x9 x10 x13 x15 w285))) w

def k2 (R : EP) (Xa : OA → Nat → Nat → Nat → Nat → Value → Value → Int → WP) (x2q : OA) (x2n x2c : Nat) (x4 x7 : Nat) (x8 x9 : Value) (x10 : Int) (x13 x21 : OA) (w : World) : Prop :=
 nilP x13 fun a132 =>
 ∃ (v133 : BA), w.cell? a132 = some (.string v133) ∧
 br (v133.toList == (ByteArray.mk #[34]).toList)
 (nilP x13 fun a134 =>
 ∃ (v135 : Bool), w.cell? (a134.add 2) = some (.bool v135) ∧
 br v135
 (nilP x13 fun a136 =>
 stV w (a136.add 0) (.string (ByteArray.mk #[226, 128, 157])) fun w137 =>
 k4 R Xa x2q x2n x2c x4 x7 x8 x9 x10 x13 x21 w137)
 (nilP x13 fun a138 =>
 stV w (a138.add 0) (.string (ByteArray.mk #[226, 128, 156])) fun w139 =>
 k4 R Xa x2q x2n x2c x4 x7 x8 x9 x10 x13 x21 w139))
 (k4 R Xa x2q x2n x2c x4 x7 x8 x9 x10 x13 x21 w)

def k6 (R : EP) (Xa : OA → Nat → Nat → Nat → Nat → Value → Value → Int → WP) (Xb : OA → Nat → Nat → Nat → Nat → Value → Value → Int → OA → OA → WP) (Xc : OA → Nat → Nat → Nat → Nat → Value → Value → Int → OA → OA → Int → WP) (x2q : OA) (x2n x2c : Nat) (x4 x7 : Nat) (x8 x9 : Value) (x10 : Int) (x13 x15 x17 : OA) (x18 : Int) (w : World) : Prop :=
 nilP x13 fun a228 =>
 ∃ (v229 : BA), w.cell? a228 = some (.string v229) ∧
 0 ≤ (0 : Int) ∧ 0 < (v229.size : Int) ∧
 tk w fun w230 =>
 nilP x13 fun a231 =>
 nilP x17 fun a232 =>
 ∃ (v233 : BA), w230.cell? a231 = some (.string v233) ∧
 0 ≤ x18 ∧ x18 ≤ (v233.size : Int) ∧
 ∃ (v234q : OA), ∃ (v234n : Nat), ∃ (v234c : Nat), w230.cell? ⟨x4, 0, none⟩ = some (.slice v234q v234n v234c) ∧
 ∃ (v235 : Int), w230.cell? (a232.add 3) = some (.int .i64 v235) ∧
 ∃ (r236q : OA), ∃ (r236n : Nat), ∃ (r236c : Nat), (∀ w, (Instr.sliceAt ty_S_Inline (.slice v234q v234n v234c) (some (.int .i64 (IntKind.i64.wrap (v235 + 1)))) none none).run P w = .ok (.slice r236q r236n r236c) w) ∧
 ∃ (r237q : OA), ∃ (r237n : Nat), ∃ (r237c : Nat), ∃ w238, (Builtin.append_ #[ty_S_Inline, ty_S_Inline] ty_S_Inline #[.slice none 0 0, .slice r236q r236n r236c]).run P w230 = .ok (.slice r237q r237n r237c) w238 ∧
 SameC w230 w238 (a231) 1 ∧
 box w238 #[.string (v233.extract 0 (Int.toNat x18)), .slice r237q r237n r237c] ty_Emph fun b239 w240 =>
 tk w240 fun w241 =>
 nilP x17 fun a242 =>
 nilP x17 fun a243 =>
 ∃ (v244 : BA), w241.cell? a242 = some (.string v244) ∧
 ∃ (v245 : BA), w241.cell? a243 = some (.string v245) ∧
 0 ≤ (IntKind.i64.wrap ((v245.size : Int) - x18)) ∧ (IntKind.i64.wrap ((v245.size : Int) - x18)) ≤ (v244.size : Int) ∧
 nilP x17 fun a246 =>
 stV w241 (a246.add 0) (.string (v244.extract 0 (Int.toNat (IntKind.i64.wrap ((v245.size : Int) - x18))))) fun w247 =>
 nilP x13 fun a248 =>
 ∃ (v249 : BA), w247.cell? a248 = some (.string v249) ∧
 0 ≤ x18 ∧ x18 ≤ (v249.size : Int) ∧
 nilP x13 fun a250 =>
 stV w247 (a250.add 0) (.string (v249.extract (Int.toNat x18) v249.size)) fun w251 =>
 nilP x17 fun a252 =>
 ∃ (v253 : BA), w251.cell? a252 = some (.string v253) ∧
 br (v253.toList == (ByteArray.mk #[]).toList)
 (tk w251 fun w254 =>
 nilP x17 fun a255 =>
 ∃ (v256q : OA), ∃ (v256n : Nat), ∃ (v256c : Nat), w254.cell? ⟨x4, 0, none⟩ = some (.slice v256q v256n v256c) ∧
 ∃ (v257 : Int), w254.cell? (a255.add 3) = some (.int .i64 v257) ∧
 ∃ (r258q : OA), ∃ (r258n : Nat), ∃ (r258c : Nat), (∀ w, (Instr.sliceAt ty_S_Inline (.slice v256q v256n v256c) none (some (.int .i64 v257)) none).run P w = .ok (.slice r258q r258n r258c) w) ∧
 stV w254 ⟨x4, 0, none⟩ (.slice r258q r258n r258c) fun w259 =>
 k7 R Xa Xb Xc x2q x2n x2c x4 x7 x8 x9 x10 x13 x15 x18 ((bt v229 0) == 126) (some ⟨b239, 0, none⟩) w259)
 (tk w251 fun w260 =>
 nilP x17 fun a261 =>
 ∃ (v262q : OA), ∃ (v262n : Nat), ∃ (v262c : Nat), w260.cell? ⟨x4, 0, none⟩ = some (.slice v262q v262n v262c) ∧
 ∃ (v263 : Int), w260.cell? (a261.add 3) = some (.int .i64 v263) ∧
 ∃ (r264q : OA), ∃ (r264n : Nat), ∃ (r264c : Nat), (∀ w, (Instr.sliceAt ty_S_Inline (.slice v262q v262n v262c) none (some (.int .i64 (IntKind.i64.wrap (v263 + 1)))) none).run P w = .ok (.slice r264q r264n r264c) w) ∧
 stV w260 ⟨x4, 0, none⟩ (.slice r264q r264n r264c) fun w265 =>
 k7 R Xa Xb Xc x2q x2n x2c x4 x7 x8 x9 x10 x13 x15 x18 ((bt v229 0) == 126) (some ⟨b239, 0, none⟩) w265)

def k1 (R : EP) (Xa : OA → Nat → Nat → Nat → Nat → Value → Value → Int → WP) (x2q : OA) (x2n x2c : Nat) (x4 x7 : Nat) (x8 x9 : Value) (x10 : Int) (x13 : OA) (w : World) : Prop :=
 nilP x13 fun a41 =>
 ∃ (v42 : BA), w.cell? a41 = some (.string v42) ∧
 br (!(v42.toList == (ByteArray.mk #[]).toList))
 (nilP x13 fun a43 =>
 ∃ (v44 : BA), w.cell? a43 = some (.string v44) ∧
 0 ≤ (0 : Int) ∧ 0 < (v44.size : Int) ∧
 enterE P (do let d ← Deferred.ofValue x8 #[.int .u8 (bt v44 0)]; invoke d.target d.args) (fun e w46 => ∃ (r45 : Int), e = .returned (.int .i64 r45) ∧
 0 ≤ r45 ∧ r45 < (5 : Int) ∧
 nilP x13 fun a47 =>
 ∃ (v48 : BA), w46.cell? a47 = some (.string v48) ∧
 br (v48.toList == (ByteArray.mk #[39]).toList)
 (nilP x13 fun a49 =>
 stV w46 (a49.add 0) (.string (ByteArray.mk #[226, 128, 153])) fun w50 =>
 k2 R Xa x2q x2n x2c x4 x7 x8 x9 x10 x13 (some ((⟨x7, 0, none⟩ : Addr).add (Int.toNat r45 * 1))) w50)
 (k2 R Xa x2q x2n x2c x4 x7 x8 x9 x10 x13 (some ((⟨x7, 0, none⟩ : Addr).add (Int.toNat r45 * 1))) w46)) w)
 (Xa x2q x2n x2c x4 x7 x8 x9 (IntKind.i64.wrap (x10 + 1)) w)

def k5 (R : EP) (Xa : OA → Nat → Nat → Nat → Nat → Value → Value → Int → WP) (Xb : OA → Nat → Nat → Nat → Nat → Value → Value → Int → OA → OA → WP) (Xc : OA → Nat → Nat → Nat → Nat → Value → Value → Int → OA → OA → Int → WP) (x2q : OA) (x2n x2c : Nat) (x4 x7 : Nat) (x8 x9 : Value) (x10 : Int) (x13 x15 : OA) (x16 : Int) (x17 : OA) (w : World) : Prop :=
 nilP x13 fun a174 =>
 ∃ (v175 : BA), w.cell? a174 = some (.string v175) ∧
 0 ≤ (0 : Int) ∧ 0 < (v175.size : Int) ∧
 br ((bt v175 0) == 34)
 (tk w fun w176 =>
 nilP x17 fun a177 =>
 ∃ (v178q : OA), ∃ (v178n : Nat), ∃ (v178c : Nat), w176.cell? ⟨x4, 0, none⟩ = some (.slice v178q v178n v178c) ∧
 ∃ (v179 : Int), w176.cell? (a177.add 3) = some (.int .i64 v179) ∧
 0 ≤ v179 ∧ v179 < (v178n : Int) ∧
 nilP v178q fun a180 =>
 ∃ (v181 : Value), w176.cell? (a180.add (Int.toNat v179 * 1)) = some v181 ∧
 ∃ (r182 : OA), (∀ w, (Instr.typeAssert v181 ty_Inline ty_P_emphPlain false).run P w = .ok (.pointer r182) w) ∧
 nilP r182 fun a183 =>
 stV w176 (a183.add 0) (.string (ByteArray.mk #[226, 128, 156])) fun w184 =>
 nilP x13 fun a185 =>
 stV w184 (a185.add 0) (.string (ByteArray.mk #[226, 128, 157])) fun w186 =>
 ∃ (v187q : OA), ∃ (v187n : Nat), ∃ (v187c : Nat), w186.cell? ⟨x4, 0, none⟩ = some (.slice v187q v187n v187c) ∧
 ∃ (r188q : OA), ∃ (r188n : Nat), ∃ (r188c : Nat), ∃ w189, (Instr.buildSlice ty_S_Inline 1 #[(0, .iface ty_P_emphPlain (.pointer x13))]).run P w186 = .ok (.slice r188q r188n r188c) w189 ∧
 ∃ (r190q : OA), ∃ (r190n : Nat), ∃ (r190c : Nat), ∃ w191, (Builtin.append_ #[ty_S_Inline, ty_S_Inline] ty_S_Inline #[.slice v187q v187n v187c, .slice r188q r188n r188c]).run P w189 = .ok (.slice r190q r190n r190c) w191 ∧
 stV w191 ⟨x4, 0, none⟩ (.slice r190q r190n r190c) fun w192 =>
 nilP x15 fun a193 =>
 ∃ (v194q : OA), ∃ (v194n : Nat), ∃ (v194c : Nat), w192.cell? a193 = some (.slice v194q v194n v194c) ∧
 ∃ (r195q : OA), ∃ (r195n : Nat), ∃ (r195c : Nat), ∃ w196, (Instr.sliceAt ty_S_P_emphPlain (.slice v194q v194n v194c) none (some (.int .i64 x16)) none).run P w192 = .ok (.slice r195q r195n r195c) w196 ∧
 nilP x15 fun a197 =>
 stV w196 (a197.add 0) (.slice r195q r195n r195c) fun w198 =>
 Xa x2q x2n x2c x4 x7 x8 x9 (IntKind.i64.wrap (x10 + 1)) w198)
 (nilP x13 fun a199 =>
 ∃ (v200 : BA), w.cell? a199 = some (.string v200) ∧
 0 ≤ (0 : Int) ∧ 0 < (v200.size : Int) ∧
 br ((bt v200 0) == 39)
 (tk w fun w201 =>
 nilP x17 fun a202 =>
 ∃ (v203q : OA), ∃ (v203n : Nat), ∃ (v203c : Nat), w201.cell? ⟨x4, 0, none⟩ = some (.slice v203q v203n v203c) ∧
 ∃ (v204 : Int), w201.cell? (a202.add 3) = some (.int .i64 v204) ∧
 0 ≤ v204 ∧ v204 < (v203n : Int) ∧
 nilP v203q fun a205 =>
 ∃ (v206 : Value), w201.cell? (a205.add (Int.toNat v204 * 1)) = some v206 ∧
 ∃ (r207 : OA), (∀ w, (Instr.typeAssert v206 ty_Inline ty_P_emphPlain false).run P w = .ok (.pointer r207) w) ∧
 nilP r207 fun a208 =>
 stV w201 (a208.add 0) (.string (ByteArray.mk #[226, 128, 152])) fun w209 =>
 nilP x13 fun a210 =>
 stV w209 (a210.add 0) (.string (ByteArray.mk #[226, 128, 153])) fun w211 =>
 ∃ (v212q : OA), ∃ (v212n : Nat), ∃ (v212c : Nat), w211.cell? ⟨x4, 0, none⟩ = some (.slice v212q v212n v212c) ∧
 ∃ (r213q : OA), ∃ (r213n : Nat), ∃ (r213c : Nat), ∃ w214, (Instr.buildSlice ty_S_Inline 1 #[(0, .iface ty_P_emphPlain (.pointer x13))]).run P w211 = .ok (.slice r213q r213n r213c) w214 ∧
 ∃ (r215q : OA), ∃ (r215n : Nat), ∃ (r215c : Nat), ∃ w216, (Builtin.append_ #[ty_S_Inline, ty_S_Inline] ty_S_Inline #[.slice v212q v212n v212c, .slice r213q r213n r213c]).run P w214 = .ok (.slice r215q r215n r215c) w216 ∧
 stV w216 ⟨x4, 0, none⟩ (.slice r215q r215n r215c) fun w217 =>
 nilP x15 fun a218 =>
 ∃ (v219q : OA), ∃ (v219n : Nat), ∃ (v219c : Nat), w217.cell? a218 = some (.slice v219q v219n v219c) ∧
 ∃ (r220q : OA), ∃ (r220n : Nat), ∃ (r220c : Nat), ∃ w221, (Instr.sliceAt ty_S_P_emphPlain (.slice v219q v219n v219c) none (some (.int .i64 x16)) none).run P w217 = .ok (.slice r220q r220n r220c) w221 ∧
 nilP x15 fun a222 =>
 stV w221 (a222.add 0) (.slice r220q r220n r220c) fun w223 =>
 Xa x2q x2n x2c x4 x7 x8 x9 (IntKind.i64.wrap (x10 + 1)) w223)
 (nilP x13 fun a224 =>
 ∃ (v225 : BA), w.cell? a224 = some (.string v225) ∧
 br (decide ((v225.size : Int) ≥ 2))
 (nilP x17 fun a226 =>
 ∃ (v227 : BA), w.cell? a226 = some (.string v227) ∧
 br (decide ((v227.size : Int) ≥ 2))
 (k6 R Xa Xb Xc x2q x2n x2c x4 x7 x8 x9 x10 x13 x15 x17 2 w)
 (k6 R Xa Xb Xc x2q x2n x2c x4 x7 x8 x9 x10 x13 x15 x17 1 w))
 (k6 R Xa Xb Xc x2q x2n x2c x4 x7 x8 x9 x10 x13 x15 x17 1 w)))

def k3 (R : EP) (Xa : OA → Nat → Nat → Nat → Nat → Value → Value → Int → WP) (Xb : OA → Nat → Nat → Nat → Nat → Value → Value → Int → OA → OA → WP) (Xc : OA → Nat → Nat → Nat → Nat → Value → Value → Int → OA → OA → Int → WP) (x2q : OA) (x2n x2c : Nat) (x4 x7 : Nat) (x8 x9 : Value) (x10 : Int) (x13 x15 : OA) (x16 : Int) (x17 : OA) (w : World) : Prop :=
 tk w fun w140 =>
 nilP x13 fun a141 =>
 ∃ (v142 : BA), w140.cell? a141 = some (.string v142) ∧
 0 ≤ (0 : Int) ∧ 0 < (v142.size : Int) ∧
 br ((bt v142 0) == 126)
 (nilP x13 fun a143 =>
 nilP x17 fun a144 =>
 ∃ (v145 : BA), w140.cell? a143 = some (.string v145) ∧
 ∃ (v146 : BA), w140.cell? a144 = some (.string v146) ∧
 br ((v145.size : Int) != (v146.size : Int))
 (Xc x2q x2n x2c x4 x7 x8 x9 x10 x13 x15 (IntKind.i64.wrap (x16 - 1)) w140)
 (k5 R Xa Xb Xc x2q x2n x2c x4 x7 x8 x9 x10 x13 x15 x16 x17 w140))
 (k5 R Xa Xb Xc x2q x2n x2c x4 x7 x8 x9 x10 x13 x15 x16 x17 w140)

def bl3 (R : EP) (Xa : OA → Nat → Nat → Nat → Nat → Value → Value → Int → WP) (Xb : OA → Nat → Nat → Nat → Nat → Value → Value → Int → OA → OA → WP) (Xc : OA → Nat → Nat → Nat → Nat → Value → Value → Int → OA → OA → Int → WP) (x2q : OA) (x2n x2c : Nat) (x4 x7 : Nat) (x8 x9 : Value) (x10 : Int) (x13 x15 : OA) (x16 : Int) (w : World) : Prop :=
 br (decide (x16 ≥ 0))
 (nilP x15 fun a51 =>
 ∃ (v52q : OA), ∃ (v52n : Nat), ∃ (v52c : Nat), w.cell? a51 = some (.slice v52q v52n v52c) ∧
 0 ≤ x16 ∧ x16 < (v52n : Int) ∧
 nilP v52q fun a53 =>
 ∃ (v54 : OA), w.cell? (a53.add (Int.toNat x16 * 1)) = some (.pointer v54) ∧
 tk w fun w55 =>
 nilP x13 fun a56 =>
 ∃ (v57 : BA), w55.cell? a56 = some (.string v57) ∧
 0 ≤ (0 : Int) ∧ 0 < (v57.size : Int) ∧
 br ((bt v57 0) == 42)
 (nilP x13 fun a58 =>
 ∃ (v59 : Bool), w55.cell? (a58.add 1) = some (.bool v59) ∧
 br v59
 (nilP x13 fun a60 =>
 ∃ (v61 : Bool), w55.cell? (a60.add 2) = some (.bool v61) ∧
 br v61
 (nilP x13 fun a62 =>
 nilP v54 fun a63 =>
 ∃ (v64 : Int), w55.cell? (a62.add 4) = some (.int .i64 v64) ∧
 ∃ (v65 : Int), w55.cell? (a63.add 4) = some (.int .i64 v65) ∧
 (3 : Int) ≠ 0 ∧
 br ((Int.tmod (IntKind.i64.wrap (v64 + v65)) 3) == 0)
 (nilP x13 fun a66 =>
 ∃ (v67 : Int), w55.cell? (a66.add 4) = some (.int .i64 v67) ∧
 (3 : Int) ≠ 0 ∧
 br ((Int.tmod v67 3) != 0)
 (Xc x2q x2n x2c x4 x7 x8 x9 x10 x13 x15 (IntKind.i64.wrap (x16 - 1)) w55)
 (nilP v54 fun a68 =>
 ∃ (v69 : Int), w55.cell? (a68.add 4) = some (.int .i64 v69) ∧
 (3 : Int) ≠ 0 ∧
 br ((Int.tmod v69 3) != 0)
 (Xc x2q x2n x2c x4 x7 x8 x9 x10 x13 x15 (IntKind.i64.wrap (x16 - 1)) w55)
 (k3 R Xa Xb Xc x2q x2n x2c x4 x7 x8 x9 x10 x13 x15 x16 v54 w55)))
 (k3 R Xa Xb Xc x2q x2n x2c x4 x7 x8 x9 x10 x13 x15 x16 v54 w55))
 (nilP v54 fun a70 =>
 ∃ (v71 : Bool), w55.cell? (a70.add 1) = some (.bool v71) ∧
 br v71
 (nilP v54 fun a72 =>
 ∃ (v73 : Bool), w55.cell? (a72.add 2) = some (.bool v73) ∧
 br v73
 (nilP x13 fun a74 =>
 nilP v54 fun a75 =>
 ∃ (v76 : Int), w55.cell? (a74.add 4) = some (.int .i64 v76) ∧
 ∃ (v77 : Int), w55.cell? (a75.add 4) = some (.int .i64 v77) ∧
 (3 : Int) ≠ 0 ∧
 br ((Int.tmod (IntKind.i64.wrap (v76 + v77)) 3) == 0)
 (nilP x13 fun a78 =>
 ∃ (v79 : Int), w55.cell? (a78.add 4) = some (.int .i64 v79) ∧
 (3 : Int) ≠ 0 ∧
 br ((Int.tmod v79 3) != 0)
 (Xc x2q x2n x2c x4 x7 x8 x9 x10 x13 x15 (IntKind.i64.wrap (x16 - 1)) w55)
 (nilP v54 fun a80 =>
 ∃ (v81 : Int), w55.cell? (a80.add 4) = some (.int .i64 v81) ∧
 (3 : Int) ≠ 0 ∧
 br ((Int.tmod v81 3) != 0)
 (Xc x2q x2n x2c x4 x7 x8 x9 x10 x13 x15 (IntKind.i64.wrap (x16 - 1)) w55)
 (k3 R Xa Xb Xc x2q x2n x2c x4 x7 x8 x9 x10 x13 x15 x16 v54 w55)))
 (k3 R Xa Xb Xc x2q x2n x2c x4 x7 x8 x9 x10 x13 x15 x16 v54 w55))
 (k3 R Xa Xb Xc x2q x2n x2c x4 x7 x8 x9 x10 x13 x15 x16 v54 w55))
 (k3 R Xa Xb Xc x2q x2n x2c x4 x7 x8 x9 x10 x13 x15 x16 v54 w55)))
 (nilP v54 fun a82 =>
 ∃ (v83 : Bool), w55.cell? (a82.add 1) = some (.bool v83) ∧
 br v83
 (nilP v54 fun a84 =>
 ∃ (v85 : Bool), w55.cell? (a84.add 2) = some (.bool v85) ∧
 br v85
 (nilP x13 fun a86 =>
 nilP v54 fun a87 =>
 ∃ (v88 : Int), w55.cell? (a86.add 4) = some (.int .i64 v88) ∧
 ∃ (v89 : Int), w55.cell? (a87.add 4) = some (.int .i64 v89) ∧
 (3 : Int) ≠ 0 ∧
 br ((Int.tmod (IntKind.i64.wrap (v88 + v89)) 3) == 0)
 (nilP x13 fun a90 =>
 ∃ (v91 : Int), w55.cell? (a90.add 4) = some (.int .i64 v91) ∧
 (3 : Int) ≠ 0 ∧
 br ((Int.tmod v91 3) != 0)
 (Xc x2q x2n x2c x4 x7 x8 x9 x10 x13 x15 (IntKind.i64.wrap (x16 - 1)) w55)
 (nilP v54 fun a92 =>
 ∃ (v93 : Int), w55.cell? (a92.add 4) = some (.int .i64 v93) ∧
 (3 : Int) ≠ 0 ∧
 br ((Int.tmod v93 3) != 0)
 (Xc x2q x2n x2c x4 x7 x8 x9 x10 x13 x15 (IntKind.i64.wrap (x16 - 1)) w55)
 (k3 R Xa Xb Xc x2q x2n x2c x4 x7 x8 x9 x10 x13 x15 x16 v54 w55)))
 (k3 R Xa Xb Xc x2q x2n x2c x4 x7 x8 x9 x10 x13 x15 x16 v54 w55))
 (k3 R Xa Xb Xc x2q x2n x2c x4 x7 x8 x9 x10 x13 x15 x16 v54 w55))
 (k3 R Xa Xb Xc x2q x2n x2c x4 x7 x8 x9 x10 x13 x15 x16 v54 w55)))
 (nilP x13 fun a94 =>
 ∃ (v95 : BA), w55.cell? a94 = some (.string v95) ∧
 0 ≤ (0 : Int) ∧ 0 < (v95.size : Int) ∧
 br ((bt v95 0) == 95)
 (nilP x13 fun a96 =>
 ∃ (v97 : Bool), w55.cell? (a96.add 1) = some (.bool v97) ∧
 br v97
 (nilP x13 fun a98 =>
 ∃ (v99 : Bool), w55.cell? (a98.add 2) = some (.bool v99) ∧
 br v99
 (nilP x13 fun a100 =>
 nilP v54 fun a101 =>
 ∃ (v102 : Int), w55.cell? (a100.add 4) = some (.int .i64 v102) ∧
 ∃ (v103 : Int), w55.cell? (a101.add 4) = some (.int .i64 v103) ∧
 (3 : Int) ≠ 0 ∧
 br ((Int.tmod (IntKind.i64.wrap (v102 + v103)) 3) == 0)
 (nilP x13 fun a104 =>
 ∃ (v105 : Int), w55.cell? (a104.add 4) = some (.int .i64 v105) ∧
 (3 : Int) ≠ 0 ∧
 br ((Int.tmod v105 3) != 0)
 (Xc x2q x2n x2c x4 x7 x8 x9 x10 x13 x15 (IntKind.i64.wrap (x16 - 1)) w55)
 (nilP v54 fun a106 =>
 ∃ (v107 : Int), w55.cell? (a106.add 4) = some (.int .i64 v107) ∧
 (3 : Int) ≠ 0 ∧
 br ((Int.tmod v107 3) != 0)
 (Xc x2q x2n x2c x4 x7 x8 x9 x10 x13 x15 (IntKind.i64.wrap (x16 - 1)) w55)
 (k3 R Xa Xb Xc x2q x2n x2c x4 x7 x8 x9 x10 x13 x15 x16 v54 w55)))
 (k3 R Xa Xb Xc x2q x2n x2c x4 x7 x8 x9 x10 x13 x15 x16 v54 w55))
 (nilP v54 fun a108 =>
 ∃ (v109 : Bool), w55.cell? (a108.add 1) = some (.bool v109) ∧
 br v109
 (nilP v54 fun a110 =>
 ∃ (v111 : Bool), w55.cell? (a110.add 2) = some (.bool v111) ∧
 br v111
 (nilP x13 fun a112 =>
 nilP v54 fun a113 =>
 ∃ (v114 : Int), w55.cell? (a112.add 4) = some (.int .i64 v114) ∧
 ∃ (v115 : Int), w55.cell? (a113.add 4) = some (.int .i64 v115) ∧
 (3 : Int) ≠ 0 ∧
 br ((Int.tmod (IntKind.i64.wrap (v114 + v115)) 3) == 0)
 (nilP x13 fun a116 =>
 ∃ (v117 : Int), w55.cell? (a116.add 4) = some (.int .i64 v117) ∧
 (3 : Int) ≠ 0 ∧
 br ((Int.tmod v117 3) != 0)
 (Xc x2q x2n x2c x4 x7 x8 x9 x10 x13 x15 (IntKind.i64.wrap (x16 - 1)) w55)
 (nilP v54 fun a118 =>
 ∃ (v119 : Int), w55.cell? (a118.add 4) = some (.int .i64 v119) ∧
 (3 : Int) ≠ 0 ∧
 br ((Int.tmod v119 3) != 0)
 (Xc x2q x2n x2c x4 x7 x8 x9 x10 x13 x15 (IntKind.i64.wrap (x16 - 1)) w55)
 (k3 R Xa Xb Xc x2q x2n x2c x4 x7 x8 x9 x10 x13 x15 x16 v54 w55)))
 (k3 R Xa Xb Xc x2q x2n x2c x4 x7 x8 x9 x10 x13 x15 x16 v54 w55))
 (k3 R Xa Xb Xc x2q x2n x2c x4 x7 x8 x9 x10 x13 x15 x16 v54 w55))
 (k3 R Xa Xb Xc x2q x2n x2c x4 x7 x8 x9 x10 x13 x15 x16 v54 w55)))
 (nilP v54 fun a120 =>
 ∃ (v121 : Bool), w55.cell? (a120.add 1) = some (.bool v121) ∧
 br v121
 (nilP v54 fun a122 =>
 ∃ (v123 : Bool), w55.cell? (a122.add 2) = some (.bool v123) ∧
 br v123
 (nilP x13 fun a124 =>
 nilP v54 fun a125 =>
 ∃ (v126 : Int), w55.cell? (a124.add 4) = some (.int .i64 v126) ∧
 ∃ (v127 : Int), w55.cell? (a125.add 4) = some (.int .i64 v127) ∧
 (3 : Int) ≠ 0 ∧
 br ((Int.tmod (IntKind.i64.wrap (v126 + v127)) 3) == 0)
 (nilP x13 fun a128 =>
 ∃ (v129 : Int), w55.cell? (a128.add 4) = some (.int .i64 v129) ∧
 (3 : Int) ≠ 0 ∧
 br ((Int.tmod v129 3) != 0)
 (Xc x2q x2n x2c x4 x7 x8 x9 x10 x13 x15 (IntKind.i64.wrap (x16 - 1)) w55)
 (nilP v54 fun a130 =>
 ∃ (v131 : Int), w55.cell? (a130.add 4) = some (.int .i64 v131) ∧
 (3 : Int) ≠ 0 ∧
 br ((Int.tmod v131 3) != 0)
 (Xc x2q x2n x2c x4 x7 x8 x9 x10 x13 x15 (IntKind.i64.wrap (x16 - 1)) w55)
 (k3 R Xa Xb Xc x2q x2n x2c x4 x7 x8 x9 x10 x13 x15 x16 v54 w55)))
 (k3 R Xa Xb Xc x2q x2n x2c x4 x7 x8 x9 x10 x13 x15 x16 v54 w55))
 (k3 R Xa Xb Xc x2q x2n x2c x4 x7 x8 x9 x10 x13 x15 x16 v54 w55))
 (k3 R Xa Xb Xc x2q x2n x2c x4 x7 x8 x9 x10 x13 x15 x16 v54 w55)))
 (k3 R Xa Xb Xc x2q x2n x2c x4 x7 x8 x9 x10 x13 x15 x16 v54 w55)))
 (k1 R Xa x2q x2n x2c x4 x7 x8 x9 x10 x13 w)
def l3 (R : EP) (Xa : OA → Nat → Nat → Nat → Nat → Value → Value → Int → WP) (Xb : OA → Nat → Nat → Nat → Nat → Value → Value → Int → OA → OA → WP) (x2q : OA) (x2n x2c : Nat) (x4 x7 : Nat) (x8 x9 : Value) (x10 : Int) (x13 x15 : OA) (x16 : Int) (w : World) : Prop :=
 ∀ X : OA → Nat → Nat → Nat → Nat → Value → Value → Int → OA → OA → Int → WP, (∀ x2q x2n x2c x4 x7 x8 x9 x10 x13 x15 x16 w, bl3 R Xa Xb X x2q x2n x2c x4 x7 x8 x9 x10 x13 x15 x16 w → X x2q x2n x2c x4 x7 x8 x9 x10 x13 x15 x16 w) → X x2q x2n x2c x4 x7 x8 x9 x10 x13 x15 x16 w

noncomputable def al3 (R : EP) (Xa : OA → Nat → Nat → Nat → Nat → Value → Value → Int → WP) (Xb : OA → Nat → Nat → Nat → Nat → Value → Value → Int → OA → OA → WP) (Xc : OA → Nat → Nat → Nat → Nat → Value → Value → Int → OA → OA → Int → WP) : AC :=
 (.seq (.leaf (sel [1,0,1,1,1,1,0,1,0,0,1,0,0,1,1,1,0,1,0,0,1,1,0,0,1,0,0,1,0,0,0] body)) (.seq (.block 5 (.seq (.leaf (sel [1,0,1,1,1,1,0,1,0,0,1,0,0,1,1,1,0,1,0,0,1,1,0,0,1,0,0,1,0,0,1,0,0,0] body)) (.seq (.seq (.draw (.pure 0 (.pure 1 (.pure 2 (.pure 3 (.load 4 (.pure 5 (.pure 6 (.pure 7 (.pure 8 (.pure 9 (.pure 10 (.pure 11 (.load 12 (.pure 13 (.pure 14 (.pure 15 (.pure 16 (.pure 17 (.pure 18 (.pure 19 (.load 20 (.pure 21 (.pure 22 (.pure 23 (.pure 24 (.load 25 (.pure 26 (.pure 27 (.pure 28 (.pure 29 (.pure 30 (.load 31 (.pure 32 (.pure 33 (.pure 34 (.pure 35 (.load 36 (.pure 37 (.pure 38 (.pure 39 (.pure 40 (.pure 41 (.pure 42 (.pure 43 (.pure 45 (.pure 46 (.pure 47 (.load 44 (.load 48 (.pure 49 (.pure 50 (.pure 51 (.pure 52 (.pure 53 (.pure 54 (.pure 55 (.pure 56 (.load 57 (.pure 58 (.pure 59 (.pure 60 (.pure 61 (.pure 62 (.pure 63 (.load 64 (.pure 65 (.pure 66 (.pure 67 (.pure 68 .done))))))))))))))))))))))))))))))))))))))))))))))))))))))))))))))))))))) (sel [1,0,1,1,1,1,0,1,0,0,1,0,0,1,1,1,0,1,0,0,1,1,0,0,1,0,0,1,0,0,1,0,0,1,0,0] body)) (.leaf (sel [1,0,1,1,1,1,0,1,0,0,1,0,0,1,1,1,0,1,0,0,1,1,0,0,1,0,0,1,0,0,1,0,0,1,0,1] body))) (.mark (leaf [(2, .s .slice), (4, .s .loc), (7, .s .loc), (8, .s .any), (9, .s .any), (10, .s (.int .i64)), (13, .s .ptr), (15, .s .ptr), (16, .s (.int .i64)), (17, .s .ptr)] (k3 R Xa Xb Xc)) (.seq (.seq (.draw (.pure 0 (.pure 1 (.pure 2 (.pure 3 (.load 4 (.pure 5 (.pure 6 (.pure 7 (.pure 8 (.pure 9 (.pure 10 (.pure 11 (.pure 14 (.pure 15 (.pure 16 (.pure 17 (.load 12 (.pure 13 (.load 18 (.pure 19 (.pure 20 (.pure 21 .done)))))))))))))))))))))) (sel [1,0,1,1,1,1,0,1,0,0,1,0,0,1,1,1,0,1,0,0,1,1,0,0,1,0,0,1,0,0,1,0,0,1,1,0,0] body)) (.leaf (sel [1,0,1,1,1,1,0,1,0,0,1,0,0,1,1,1,0,1,0,0,1,1,0,0,1,0,0,1,0,0,1,0,0,1,1,0,1] body))) (.mark (leaf [(2, .s .slice), (4, .s .loc), (7, .s .loc), (8, .s .any), (9, .s .any), (10, .s (.int .i64)), (13, .s .ptr), (15, .s .ptr), (16, .s (.int .i64)), (17, .s .ptr)] (k5 R Xa Xb Xc)) (.seq (.seq (.leaf (sel [1,0,1,1,1,1,0,1,0,0,1,0,0,1,1,1,0,1,0,0,1,1,0,0,1,0,0,1,0,0,1,0,0,1,1,1,0,0] body)) (.cond 193 (.seq (.draw (.pure 1 (.pure 2 (.pure 3 (.load 0 (.load 4 (.pure 5 (.load 6 (.pure 7 (.pure 8 (.pure 9 (.pure 10 (.one 11 .done)))))))))))) (sel [1,0,1,1,1,1,0,1,0,0,1,0,0,1,1,1,0,1,0,0,1,1,0,0,1,0,0,1,0,0,1,0,0,1,1,1,0,1,0,0] body)) (.leaf (sel [1,0,1,1,1,1,0,1,0,0,1,0,0,1,1,1,0,1,0,0,1,1,0,0,1,0,0,1,0,0,1,0,0,1,1,1,0,1,0,1] body))) (.leaf (sel [1,0,1,1,1,1,0,1,0,0,1,0,0,1,1,1,0,1,0,0,1,1,0,0,1,0,0,1,0,0,1,0,0,1,1,1,0,1,1] body)))) (.seq (.seq (.leaf (sel [1,0,1,1,1,1,0,1,0,0,1,0,0,1,1,1,0,1,0,0,1,1,0,0,1,0,0,1,0,0,1,0,0,1,1,1,1,0,0] body)) (.cond 227 (.seq (.draw (.pure 1 (.pure 2 (.pure 3 (.load 0 (.load 4 (.pure 5 (.load 6 (.pure 7 (.pure 8 (.pure 9 (.pure 10 (.one 11 .done)))))))))))) (sel [1,0,1,1,1,1,0,1,0,0,1,0,0,1,1,1,0,1,0,0,1,1,0,0,1,0,0,1,0,0,1,0,0,1,1,1,1,0,1,0,0] body)) (.leaf (sel [1,0,1,1,1,1,0,1,0,0,1,0,0,1,1,1,0,1,0,0,1,1,0,0,1,0,0,1,0,0,1,0,0,1,1,1,1,0,1,0,1] body))) (.leaf (sel [1,0,1,1,1,1,0,1,0,0,1,0,0,1,1,1,0,1,0,0,1,1,0,0,1,0,0,1,0,0,1,0,0,1,1,1,1,0,1,1] body)))) (.seq (.leaf (sel [1,0,1,1,1,1,0,1,0,0,1,0,0,1,1,1,0,1,0,0,1,1,0,0,1,0,0,1,0,0,1,0,0,1,1,1,1,1,0] body)) (.seq (.leaf (sel [1,0,1,1,1,1,0,1,0,0,1,0,0,1,1,1,0,1,0,0,1,1,0,0,1,0,0,1,0,0,1,0,0,1,1,1,1,1,1,0] body)) (.mark (leaf [(2, .s .slice), (4, .s .loc), (7, .s .loc), (8, .s .any), (9, .s .any), (10, .s (.int .i64)), (13, .s .ptr), (15, .s .ptr), (17, .s .ptr), (18, .s (.int .i64))] (k6 R Xa Xb Xc)) (.seq (.leaf (sel [1,0,1,1,1,1,0,1,0,0,1,0,0,1,1,1,0,1,0,0,1,1,0,0,1,0,0,1,0,0,1,0,0,1,1,1,1,1,1,1,0] body)) (.seq (.draw (.pure 0 (.pure 1 (.pure 2 (.pure 3 (.pure 5 (.pure 8 (.pure 9 (.pure 10 (.load 4 (.pure 6 (.load 7 (.load 11 (.pure 12 (.pure 13 (.one 14 (.pure 15 (.one 16 (.pure 17 .done)))))))))))))))))) (sel [1,0,1,1,1,1,0,1,0,0,1,0,0,1,1,1,0,1,0,0,1,1,0,0,1,0,0,1,0,0,1,0,0,1,1,1,1,1,1,1,1,0] body)) (.seq (.draw (.pure 0 (.pure 1 (.pure 2 (.pure 3 (.pure 4 (.pure 6 (.pure 7 (.pure 8 (.pure 9 (.pure 12 (.load 5 (.load 10 (.pure 11 (.pure 13 (.pure 14 (.pure 15 (.pure 16 (.pure 17 (.one 18 .done))))))))))))))))))) (sel [1,0,1,1,1,1,0,1,0,0,1,0,0,1,1,1,0,1,0,0,1,1,0,0,1,0,0,1,0,0,1,0,0,1,1,1,1,1,1,1,1,1,0] body)) (.seq (.leaf (sel [1,0,1,1,1,1,0,1,0,0,1,0,0,1,1,1,0,1,0,0,1,1,0,0,1,0,0,1,0,0,1,0,0,1,1,1,1,1,1,1,1,1,1,0] body)) (.seq (.seq (.leaf (sel [1,0,1,1,1,1,0,1,0,0,1,0,0,1,1,1,0,1,0,0,1,1,0,0,1,0,0,1,0,0,1,0,0,1,1,1,1,1,1,1,1,1,1,1,0,0] body)) (.cond 329 (.draw (.pure 1 (.pure 2 (.pure 3 (.load 0 (.load 4 (.pure 5 (.one 6 .done))))))) (sel [1,0,1,1,1,1,0,1,0,0,1,0,0,1,1,1,0,1,0,0,1,1,0,0,1,0,0,1,0,0,1,0,0,1,1,1,1,1,1,1,1,1,1,1,0,1,0] body)) (.draw (.pure 1 (.pure 2 (.pure 3 (.load 0 (.load 4 (.pure 5 (.pure 6 (.one 7 .done)))))))) (sel [1,0,1,1,1,1,0,1,0,0,1,0,0,1,1,1,0,1,0,0,1,1,0,0,1,0,0,1,0,0,1,0,0,1,1,1,1,1,1,1,1,1,1,1,0,1,1] body)))) (.mark (leaf [(2, .s .slice), (4, .s .loc), (7, .s .loc), (8, .s .any), (9, .s .any), (10, .s (.int .i64)), (13, .s .ptr), (15, .s .ptr), (18, .s (.int .i64)), (19, .s .bool), (20, .s .ptr)] (k7 R Xa Xb Xc)) (.leaf (sel [1,0,1,1,1,1,0,1,0,0,1,0,0,1,1,1,0,1,0,0,1,1,0,0,1,0,0,1,0,0,1,0,0,1,1,1,1,1,1,1,1,1,1,1,1] body))))))))))))))))))) (.leaf (sel [1,0,1,1,1,1,0,1,0,0,1,0,0,1,1,1,0,1,0,0,1,1,0,0,1,0,0,1,0,0,1,1] body))))
def bl2 (R : EP) (Xa : OA → Nat → Nat → Nat → Nat → Value → Value → Int → WP) (Xb : OA → Nat → Nat → Nat → Nat → Value → Value → Int → OA → OA → WP) (x2q : OA) (x2n x2c : Nat) (x4 x7 : Nat) (x8 x9 : Value) (x10 : Int) (x13 x15 : OA) (w : World) : Prop :=
 nilP x13 fun a37 =>
 ∃ (v38 : BA), w.cell? a37 = some (.string v38) ∧
 br (!(v38.toList == (ByteArray.mk #[]).toList))
 (nilP x15 fun a39 =>
 ∃ (v40q : OA), ∃ (v40n : Nat), ∃ (v40c : Nat), w.cell? a39 = some (.slice v40q v40n v40c) ∧
 l3 R Xa Xb x2q x2n x2c x4 x7 x8 x9 x10 x13 x15 (IntKind.i64.wrap ((v40n : Int) - 1)) w)
 (k1 R Xa x2q x2n x2c x4 x7 x8 x9 x10 x13 w)
def l2 (R : EP) (Xa : OA → Nat → Nat → Nat → Nat → Value → Value → Int → WP) (x2q : OA) (x2n x2c : Nat) (x4 x7 : Nat) (x8 x9 : Value) (x10 : Int) (x13 x15 : OA) (w : World) : Prop :=
 ∀ X : OA → Nat → Nat → Nat → Nat → Value → Value → Int → OA → OA → WP, (∀ x2q x2n x2c x4 x7 x8 x9 x10 x13 x15 w, bl2 R Xa X x2q x2n x2c x4 x7 x8 x9 x10 x13 x15 w → X x2q x2n x2c x4 x7 x8 x9 x10 x13 x15 w) → X x2q x2n x2c x4 x7 x8 x9 x10 x13 x15 w

noncomputable def al2 (R : EP) (Xa : OA → Nat → Nat → Nat → Nat → Value → Value → Int → WP) (Xb : OA → Nat → Nat → Nat → Nat → Value → Value → Int → OA → OA → WP) : AC :=
 (.seq (.leaf (sel [1,0,1,1,1,1,0,1,0,0,1,0,0,1,1,1,0,1,0,0,1,1,0,0,0] body)) (.block 3 (.seq (.seq (.leaf (sel [1,0,1,1,1,1,0,1,0,0,1,0,0,1,1,1,0,1,0,0,1,1,0,0,1,0,0,0] body)) (.block 4 (.loop (leaf [(2, .s .slice), (4, .s .loc), (7, .s .loc), (8, .s .any), (9, .s .any), (10, .s (.int .i64)), (13, .s .ptr), (15, .s .ptr), (16, .s (.int .i64))] (l3 R Xa Xb)) (sel [1,0,1,1,1,1,0,1,0,0,1,0,0,1,1,1,0,1,0,0,1,1,0,0,1,0,0,1,0,0] body)))) (.leaf (sel [1,0,1,1,1,1,0,1,0,0,1,0,0,1,1,1,0,1,0,0,1,1,0,0,1,0,1] body)))))
def bl1 (R : EP) (Xa : OA → Nat → Nat → Nat → Nat → Value → Value → Int → WP) (x2q : OA) (x2n x2c : Nat) (x4 x7 : Nat) (x8 x9 : Value) (x10 : Int) (w : World) : Prop :=
 br (decide (x10 < (x2n : Int)))
 (0 ≤ x10 ∧ x10 < (x2n : Int) ∧
 nilP x2q fun a5 =>
 ∃ (v6 : Value), w.cell? (a5.add (Int.toNat x10 * 1)) = some v6 ∧
 ∃ (r7_0 : OA), ∃ (r7_1 : Bool), ∃ w8, (Instr.typeAssert v6 ty_Inline ty_P_openPlain true).run P w = .ok (.tuple #[.pointer r7_0, .bool r7_1]) w8 ∧
 br r7_1
 (tk w8 fun w9 =>
 nilP r7_0 fun a10 =>
 ∃ (v11q : OA), ∃ (v11n : Nat), ∃ (v11c : Nat), w9.cell? ⟨x4, 0, none⟩ = some (.slice v11q v11n v11c) ∧
 ∃ (r12q : OA), ∃ (r12n : Nat), ∃ (r12c : Nat), ∃ w13, (Instr.buildSlice ty_S_Inline 1 #[(0, .iface ty_P_Plain (.pointer (some a10)))]).run P w9 = .ok (.slice r12q r12n r12c) w13 ∧
 SameC w9 w13 ⟨x4, 0, none⟩ 1 ∧
 ∃ (r14q : OA), ∃ (r14n : Nat), ∃ (r14c : Nat), ∃ w15, (Builtin.append_ #[ty_S_Inline, ty_S_Inline] ty_S_Inline #[.slice v11q v11n v11c, .slice r12q r12n r12c]).run P w13 = .ok (.slice r14q r14n r14c) w15 ∧
 stV w15 ⟨x4, 0, none⟩ (.slice r14q r14n r14c) fun w16 =>
 Xa x2q x2n x2c x4 x7 x8 x9 (IntKind.i64.wrap (x10 + 1)) w16)
 (0 ≤ x10 ∧ x10 < (x2n : Int) ∧
 nilP x2q fun a17 =>
 ∃ (v18 : Value), w8.cell? (a17.add (Int.toNat x10 * 1)) = some v18 ∧
 ∃ (r19_0 : OA), ∃ (r19_1 : Bool), ∃ w20, (Instr.typeAssert v18 ty_Inline ty_P_emphPlain true).run P w8 = .ok (.tuple #[.pointer r19_0, .bool r19_1]) w20 ∧
 br (!r19_1)
 (tk w20 fun w21 =>
 0 ≤ x10 ∧ x10 < (x2n : Int) ∧
 nilP x2q fun a22 =>
 ∃ (v23q : OA), ∃ (v23n : Nat), ∃ (v23c : Nat), w21.cell? ⟨x4, 0, none⟩ = some (.slice v23q v23n v23c) ∧
 ∃ (v24 : Value), w21.cell? (a22.add (Int.toNat x10 * 1)) = some v24 ∧
 ∃ (r25q : OA), ∃ (r25n : Nat), ∃ (r25c : Nat), ∃ w26, (Instr.buildSlice ty_S_Inline 1 #[(0, v24)]).run P w21 = .ok (.slice r25q r25n r25c) w26 ∧
 SameC w21 w26 ⟨x4, 0, none⟩ 1 ∧
 ∃ (r27q : OA), ∃ (r27n : Nat), ∃ (r27c : Nat), ∃ w28, (Builtin.append_ #[ty_S_Inline, ty_S_Inline] ty_S_Inline #[.slice v23q v23n v23c, .slice r25q r25n r25c]).run P w26 = .ok (.slice r27q r27n r27c) w28 ∧
 stV w28 ⟨x4, 0, none⟩ (.slice r27q r27n r27c) fun w29 =>
 Xa x2q x2n x2c x4 x7 x8 x9 (IntKind.i64.wrap (x10 + 1)) w29)
 (nilP r19_0 fun a30 =>
 ∃ (v31 : Bool), w20.cell? (a30.add 2) = some (.bool v31) ∧
 br v31
 (nilP r19_0 fun a32 =>
 ∃ (v33 : BA), w20.cell? a32 = some (.string v33) ∧
 0 ≤ (0 : Int) ∧ 0 < (v33.size : Int) ∧
 enterE P (do let d ← Deferred.ofValue x8 #[.int .u8 (bt v33 0)]; invoke d.target d.args) (fun e w35 => ∃ (r34 : Int), e = .returned (.int .i64 r34) ∧
 0 ≤ r34 ∧ r34 < (5 : Int) ∧
 l2 R Xa x2q x2n x2c x4 x7 x8 x9 x10 r19_0 (some ((⟨x7, 0, none⟩ : Addr).add (Int.toNat r34 * 1))) w35) w20)
 (k1 R Xa x2q x2n x2c x4 x7 x8 x9 x10 r19_0 w20))))
 (∃ (v36q : OA), ∃ (v36n : Nat), ∃ (v36c : Nat), w.cell? ⟨x4, 0, none⟩ = some (.slice v36q v36n v36c) ∧
 R (.returned (.slice v36q v36n v36c)) w)
def l1 (R : EP) (x2q : OA) (x2n x2c : Nat) (x4 x7 : Nat) (x8 x9 : Value) (x10 : Int) (w : World) : Prop :=
 ∀ X : OA → Nat → Nat → Nat → Nat → Value → Value → Int → WP, (∀ x2q x2n x2c x4 x7 x8 x9 x10 w, bl1 R X x2q x2n x2c x4 x7 x8 x9 x10 w → X x2q x2n x2c x4 x7 x8 x9 x10 w) → X x2q x2n x2c x4 x7 x8 x9 x10 w

noncomputable def al1 (R : EP) (Xa : OA → Nat → Nat → Nat → Nat → Value → Value → Int → WP) : AC :=
 (.seq (.leaf (sel [1,0,1,1,1,1,0,1,0,0,0] body)) (.seq (.block 1 (.seq (.seq (.leaf (sel [1,0,1,1,1,1,0,1,0,0,1,0,0,0,0] body)) (.seq (.leaf (sel [1,0,1,1,1,1,0,1,0,0,1,0,0,0,1,0] body)) (.cond 37 (.seq (.draw (.pure 1 (.pure 2 (.pure 3 (.pure 4 (.load 0 (.one 5 (.one 6 (.one 7 .done)))))))) (sel [1,0,1,1,1,1,0,1,0,0,1,0,0,0,1,1,0,0] body)) (.leaf (sel [1,0,1,1,1,1,0,1,0,0,1,0,0,0,1,1,0,1] body))) (.leaf (sel [1,0,1,1,1,1,0,1,0,0,1,0,0,0,1,1,1] body))))) (.seq (.leaf (sel [1,0,1,1,1,1,0,1,0,0,1,0,0,1,0] body)) (.seq (.seq (.leaf (sel [1,0,1,1,1,1,0,1,0,0,1,0,0,1,1,0,0] body)) (.cond 54 (.seq (.draw (.pure 1 (.pure 2 (.pure 3 (.load 0 (.load 4 (.one 5 (.one 6 (.one 7 .done)))))))) (sel [1,0,1,1,1,1,0,1,0,0,1,0,0,1,1,0,1,0,0] body)) (.leaf (sel [1,0,1,1,1,1,0,1,0,0,1,0,0,1,1,0,1,0,1] body))) (.leaf (sel [1,0,1,1,1,1,0,1,0,0,1,0,0,1,1,0,1,1] body)))) (.seq (.seq (.leaf (sel [1,0,1,1,1,1,0,1,0,0,1,0,0,1,1,1,0,0] body)) (.cond 65 (.scope (.seq (.leaf (sel [1,0,1,1,1,1,0,1,0,0,1,0,0,1,1,1,0,1,0,0,0] body)) (.seq (.leaf (sel [1,0,1,1,1,1,0,1,0,0,1,0,0,1,1,1,0,1,0,0,1,0] body)) (.block 2 (.loop (leaf [(2, .s .slice), (4, .s .loc), (7, .s .loc), (8, .s .any), (9, .s .any), (10, .s (.int .i64)), (13, .s .ptr), (15, .s .ptr)] (l2 R Xa)) (sel [1,0,1,1,1,1,0,1,0,0,1,0,0,1,1,1,0,1,0,0,1,1,0,0] body)))))) (.leaf (sel [1,0,1,1,1,1,0,1,0,0,1,0,0,1,1,1,0,1,1] body)))) (.mark (leaf [(2, .s .slice), (4, .s .loc), (7, .s .loc), (8, .s .any), (9, .s .any), (10, .s (.int .i64)), (13, .s .ptr)] (k1 R Xa)) (.seq (.leaf (sel [1,0,1,1,1,1,0,1,0,0,1,0,0,1,1,1,1,0] body)) (.cond 368 (.seq (.leaf (sel [1,0,1,1,1,1,0,1,0,0,1,0,0,1,1,1,1,1,0,0] body)) (.seq (.leaf (sel [1,0,1,1,1,1,0,1,0,0,1,0,0,1,1,1,1,1,0,1,0] body)) (.mark (leaf [(2, .s .slice), (4, .s .loc), (7, .s .loc), (8, .s .any), (9, .s .any), (10, .s (.int .i64)), (13, .s .ptr), (21, .s .ptr)] (k2 R Xa)) (.seq (.leaf (sel [1,0,1,1,1,1,0,1,0,0,1,0,0,1,1,1,1,1,0,1,1,0] body)) (.mark (leaf [(2, .s .slice), (4, .s .loc), (7, .s .loc), (8, .s .any), (9, .s .any), (10, .s (.int .i64)), (13, .s .ptr), (21, .s .ptr)] (k4 R Xa)) (.seq (.leaf (sel [1,0,1,1,1,1,0,1,0,0,1,0,0,1,1,1,1,1,0,1,1,1,0] body)) (.cond 409 (.leaf (sel [1,0,1,1,1,1,0,1,0,0,1,0,0,1,1,1,1,1,0,1,1,1,1,0] body)) (.draw (.pure 1 (.pure 2 (.pure 3 (.pure 4 (.load 0 (.one 5 (.one 6 (.one 7 .done)))))))) (sel [1,0,1,1,1,1,0,1,0,0,1,0,0,1,1,1,1,1,0,1,1,1,1,1] body))))))))) (.leaf (sel [1,0,1,1,1,1,0,1,0,0,1,0,0,1,1,1,1,1,1] body)))))))))) (.leaf (sel [1,0,1,1,1,1,0,1,0,0,1,1] body))))
end g_parseState_emph
def g_parseState_emph (R : EP) (x0 x1q : OA) (x1n x1c : Nat) (x2q : OA) (x2n x2c : Nat) (w : World) : Prop :=
 box w #[.slice x1q x1n x1c] ty_S_Inline fun b1 w2 =>
 box w2 #[.slice none 0 0, .slice none 0 0, .slice none 0 0, .slice none 0 0, .slice none 0 0] ty_5_S_P_emphPlain fun b3 w4 =>
 g_parseState_emph.l1 R x2q x2n x2c b1 b3 (.func (.func i_parseState_emph_1) #[] #[]) (.func (.func i_parseState_emph_2) #[] #[.pointer (some ⟨b3, 0, none⟩), .pointer (some ⟨b1, 0, none⟩)]) 0 w4

namespace g_parseState_emph
noncomputable def ac (R : EP) : AC :=
 (.seq (.leaf (sel [0] body)) (.scope (.seq (.leaf (sel [1,0,0] body)) (.seq (.leaf (sel [1,0,1,0] body)) (.seq (.leaf (sel [1,0,1,1,0] body)) (.seq (.leaf (sel [1,0,1,1,1,0] body)) (.seq (.seq (.leaf (sel [1,0,1,1,1,1,0,0] body)) (.block 0 (.loop (leaf [(2, .s .slice), (4, .s .loc), (7, .s .loc), (8, .s .any), (9, .s .any), (10, .s (.int .i64))] (l1 R)) (sel [1,0,1,1,1,1,0,1,0,0] body)))) (.leaf (sel [1,0,1,1,1,1,1] body)))))))))
theorem good (R : EP) : Good P 436 (ac R) (QF P [.tmp 6] R) :=
 ⟨trivial, ⟨trivial, ⟨trivial, ⟨trivial, ⟨trivial, ⟨⟨trivial, (loopG (al1 R) (bl1 R) (fun _ => by kernel_rfl) (fun Xa => ⟨trivial, ⟨⟨⟨trivial, ⟨trivial, ⟨⟨⟨by kernel_rfl, by kernel_rfl, fun _ _ _ h => h⟩, trivial⟩, trivial⟩⟩⟩, ⟨trivial, ⟨⟨trivial, ⟨⟨⟨by kernel_rfl, by kernel_rfl, fun _ _ _ h => h⟩, trivial⟩, trivial⟩⟩, ⟨⟨trivial, ⟨⟨trivial, ⟨trivial, (loopG (al2 R Xa) (bl2 R Xa) (fun _ => by kernel_rfl) (fun Xb => ⟨trivial, ⟨⟨trivial, (loopG (al3 R Xa Xb) (bl3 R Xa Xb) (fun _ => by kernel_rfl) (fun Xc => ⟨trivial, ⟨⟨trivial, ⟨⟨⟨by kernel_rfl, by kernel_rfl, fun _ _ _ h => h⟩, trivial⟩, ⟨⟨⟨⟨by kernel_rfl, by kernel_rfl, fun _ _ _ h => h⟩, trivial⟩, ⟨⟨⟨trivial, ⟨⟨⟨by kernel_rfl, by kernel_rfl, fun _ _ _ h => h⟩, trivial⟩, trivial⟩⟩, ⟨⟨trivial, ⟨⟨⟨by kernel_rfl, by kernel_rfl, fun _ _ _ h => h⟩, trivial⟩, trivial⟩⟩, ⟨trivial, ⟨trivial, ⟨⟨trivial, ⟨⟨by kernel_rfl, by kernel_rfl, fun _ _ _ h => h⟩, ⟨⟨by kernel_rfl, by kernel_rfl, fun _ _ _ h => h⟩, ⟨trivial, ⟨⟨trivial, ⟨⟨by kernel_rfl, by kernel_rfl, fun _ _ _ h => h⟩, ⟨by kernel_rfl, by kernel_rfl, fun _ _ _ h => h⟩⟩⟩, ⟨trivial, cutZ⟩⟩⟩⟩⟩⟩, cutZ⟩⟩⟩⟩⟩, cutZ⟩⟩, cutZ⟩⟩⟩, trivial⟩⟩) (fun Xc => by intro x2q x2n x2c x4 x7 x8 x9 x10 x13 x15 x16 ρ w; kernel_rfl) (fun X h _ _ _ _ _ _ _ _ _ _ _ _ g => g X h))⟩, trivial⟩⟩) (fun Xb => by intro x2q x2n x2c x4 x7 x8 x9 x10 x13 x15 ρ w; kernel_rfl) (fun X h _ _ _ _ _ _ _ _ _ _ _ g => g X h))⟩⟩, trivial⟩⟩, ⟨⟨trivial, ⟨⟨trivial, ⟨trivial, ⟨⟨trivial, ⟨⟨trivial, ⟨trivial, ⟨by kernel_rfl, by kernel_rfl, fun _ _ _ h => h⟩⟩⟩, cutZ⟩⟩, cutZ⟩⟩⟩, trivial⟩⟩, cutZ⟩⟩⟩⟩⟩, trivial⟩⟩) (fun Xa => by intro x2q x2n x2c x4 x7 x8 x9 x10 ρ w; kernel_rfl) (fun X h _ _ _ _ _ _ _ _ _ g => g X h))⟩, trivial⟩⟩⟩⟩⟩⟩
theorem eq (R : EP) (x0 x1q : OA) (x1n x1c : Nat) (x2q : OA) (x2n x2c : Nat) (w : World) : g_parseState_emph R x0 x1q x1n x1c x2q x2n x2c w = vcA P 436 (ac R) (QF P [.tmp 6] R) (fr0 [.pointer x0, .slice x1q x1n x1c, .slice x2q x2n x2c]) w := by kernel_rfl
theorem sound {R : EP} {x0 x1q : OA} {x1n x1c : Nat} {x2q : OA} {x2n x2c : Nat} {w : World} (h : g_parseState_emph R x0 x1q x1n x1c x2q x2n x2c w) : callE P i_parseState_emph #[.pointer x0, .slice x1q x1n x1c, .slice x2q x2n x2c] R w :=
 callE_fz (c := body) Tryz.func106 Tryz.call106 (good R) (eq R x0 x1q x1n x1c x2q x2n x2c w) h
end g_parseState_emph
namespace g_parseState_emit
noncomputable def body : Code := bodyOf Tryz.f102
end g_parseState_emit
def g_parseState_emit (R : EP) (x0 : OA) (x1 : Int) (w : World) : Prop :=
 nilP x0 fun a1 =>
 ∃ (v2 : Int), w.cell? (a1.add 8) = some (.int .i64 v2) ∧
 br (decide (v2 < x1))
 (tk w fun w3 =>
 nilP x0 fun a4 =>
 nilP x0 fun a5 =>
 nilP x0 fun a6 =>
 ∃ (v7q : OA), ∃ (v7n : Nat), ∃ (v7c : Nat), w3.cell? (a4.add 9) = some (.slice v7q v7n v7c) ∧
 ∃ (v8 : BA), w3.cell? (a5.add 7) = some (.string v8) ∧
 ∃ (v9 : Int), w3.cell? (a6.add 8) = some (.int .i64 v9) ∧
 0 ≤ v9 ∧ v9 ≤ x1 ∧ x1 ≤ (v8.size : Int) ∧
 box w3 #[.string (v8.extract (Int.toNat v9) (Int.toNat x1))] ty_Plain fun b10 w11 =>
 SameC w3 w11 (a4.add 9) 1 ∧
 ∃ (r12q : OA), ∃ (r12n : Nat), ∃ (r12c : Nat), ∃ w13, (Instr.buildSlice ty_S_Inline 1 #[(0, .iface ty_P_Plain (.pointer (some ⟨b10, 0, none⟩)))]).run P w11 = .ok (.slice r12q r12n r12c) w13 ∧
 SameC w11 w13 (a4.add 9) 1 ∧
 ∃ (r14q : OA), ∃ (r14n : Nat), ∃ (r14c : Nat), ∃ w15, (Builtin.append_ #[ty_S_Inline, ty_S_Inline] ty_S_Inline #[.slice v7q v7n v7c, .slice r12q r12n r12c]).run P w13 = .ok (.slice r14q r14n r14c) w15 ∧
 nilP x0 fun a16 =>
 stV w15 ((a16.add 9).add 0) (.slice r14q r14n r14c) fun w17 =>
 nilP x0 fun a18 =>
 stV w17 ((a18.add 8).add 0) (.int .i64 x1) fun w19 =>
 R (.returned (.tuple #[])) w19)
 (R (.returned (.tuple #[])) w)

namespace g_parseState_emit
noncomputable def ac (R : EP) : AC :=
 (.seq (.leaf (sel [0] body)) (.cond 9 (.seq (.draw (.pure 0 (.pure 1 (.pure 2 (.pure 3 (.pure 5 (.pure 6 (.pure 7 (.pure 9 (.pure 10 (.pure 11 (.pure 13 (.load 4 (.load 8 (.load 12 (.pure 14 (.pure 15 (.one 16 (.pure 17 (.one 18 (.one 19 (.pure 20 (.pure 21 (.one 22 .done))))))))))))))))))))))) (sel [1,0,0] body)) (.leaf (sel [1,0,1] body))) (.leaf (sel [1,1] body))))
theorem good (R : EP) : Good P 36 (ac R) (QF P [] R) :=
 ⟨trivial, ⟨⟨⟨by kernel_rfl, by kernel_rfl, fun _ _ _ h => h⟩, trivial⟩, trivial⟩⟩
theorem eq (R : EP) (x0 : OA) (x1 : Int) (w : World) : g_parseState_emit R x0 x1 w = vcA P 36 (ac R) (QF P [] R) (fr0 [.pointer x0, .int .i64 x1]) w := by kernel_rfl
theorem sound {R : EP} {x0 : OA} {x1 : Int} {w : World} (h : g_parseState_emit R x0 x1 w) : callE P i_parseState_emit #[.pointer x0, .int .i64 x1] R w :=
 callE_fz (c := body) Tryz.func102 Tryz.call102 (good R) (eq R x0 x1 w) h
end g_parseState_emit
namespace g_parseState_skip
noncomputable def body : Code := bodyOf Tryz.f103
end g_parseState_skip
def g_parseState_skip (R : EP) (x0 : OA) (x1 : Int) (w : World) : Prop :=
 nilP x0 fun a1 =>
 stV w ((a1.add 8).add 0) (.int .i64 x1) fun w2 =>
 R (.returned (.tuple #[])) w2

namespace g_parseState_skip
noncomputable def ac (R : EP) : AC :=
 (.leaf (sel [] body))
theorem good (R : EP) : Good P 8 (ac R) (QF P [] R) :=
 trivial
theorem eq (R : EP) (x0 : OA) (x1 : Int) (w : World) : g_parseState_skip R x0 x1 w = vcA P 8 (ac R) (QF P [] R) (fr0 [.pointer x0, .int .i64 x1]) w := by kernel_rfl
theorem sound {R : EP} {x0 : OA} {x1 : Int} {w : World} (h : g_parseState_skip R x0 x1 w) : callE P i_parseState_skip #[.pointer x0, .int .i64 x1] R w :=
 callE_fz (c := body) Tryz.func103 Tryz.call103 (good R) (eq R x0 x1 w) h
end g_parseState_skip
namespace g_parseState_trimStack
noncomputable def body : Code := bodyOf Tryz.f69
def bl1 (R : EP) (Xa : OA → Int → WP) (x0 : OA) (x1 : Int) (w : World) : Prop :=
 nilP x0 fun a3 =>
 ∃ (v4q : OA), ∃ (v4n : Nat), ∃ (v4c : Nat), w.cell? (a3.add 4) = some (.slice v4q v4n v4c) ∧
 br (decide ((v4n : Int) > x1))
 (callE P i_parseState_closeBlock #[.pointer x0] (fun e w6 => ∃ (r5 : Value), e = .returned r5 ∧
 Xa x0 x1 w6) w)
 (R (.returned (.tuple #[])) w)
def l1 (R : EP) (x0 : OA) (x1 : Int) (w : World) : Prop :=
 ∀ X : OA → Int → WP, (∀ x0 x1 w, bl1 R X x0 x1 w → X x0 x1 w) → X x0 x1 w

noncomputable def al1 (R : EP) (Xa : OA → Int → WP) : AC :=
 (.leaf (sel [1,0,0] body))
def k1 (R : EP) (x0 : OA) (x1 : Int) (w : World) : Prop :=
 l1 R x0 x1 w

end g_parseState_trimStack
def g_parseState_trimStack (R : EP) (x0 : OA) (x1 : Int) (w : World) : Prop :=
 nilP x0 fun a1 =>
 ∃ (v2q : OA), ∃ (v2n : Nat), ∃ (v2c : Nat), w.cell? (a1.add 4) = some (.slice v2q v2n v2c) ∧
 br (decide ((v2n : Int) < x1))
 (False)
 (g_parseState_trimStack.k1 R x0 x1 w)

namespace g_parseState_trimStack
noncomputable def ac (R : EP) : AC :=
 (.seq (.leaf (sel [0] body)) (.mark (leaf [(0, .s .ptr), (1, .s (.int .i64))] (k1 R)) (.block 0 (.loop (leaf [(0, .s .ptr), (1, .s (.int .i64))] (l1 R)) (sel [1,0,0] body)))))
theorem good (R : EP) : Good P 21 (ac R) (QF P [] R) :=
 ⟨trivial, ⟨(loopG (al1 R) (bl1 R) (fun _ => by kernel_rfl) (fun Xa => trivial) (fun Xa => by intro x0 x1 ρ w; kernel_rfl) (fun X h _ _ _ g => g X h)), cutZ⟩⟩
theorem eq (R : EP) (x0 : OA) (x1 : Int) (w : World) : g_parseState_trimStack R x0 x1 w = vcA P 21 (ac R) (QF P [] R) (fr0 [.pointer x0, .int .i64 x1]) w := by kernel_rfl
theorem sound {R : EP} {x0 : OA} {x1 : Int} {w : World} (h : g_parseState_trimStack R x0 x1 w) : callE P i_parseState_trimStack #[.pointer x0, .int .i64 x1] R w :=
 callE_fz (c := body) Tryz.func69 Tryz.call69 (good R) (eq R x0 x1 w) h
end g_parseState_trimStack
namespace g_parseState_closeBlock
noncomputable def body : Code := bodyOf Tryz.f88
def k3 (R : EP) (x0 : OA) (x4 : Value) (w : World) : Prop :=
 tk w fun w38 =>
 nilP x0 fun a39 =>
 nilP x0 fun a40 =>
 ∃ (v41q : OA), ∃ (v41n : Nat), ∃ (v41c : Nat), w38.cell? (a39.add 4) = some (.slice v41q v41n v41c) ∧
 ∃ (v42q : OA), ∃ (v42n : Nat), ∃ (v42c : Nat), w38.cell? (a40.add 4) = some (.slice v42q v42n v42c) ∧
 ∃ (r43q : OA), ∃ (r43n : Nat), ∃ (r43c : Nat), (∀ w, (Instr.sliceAt ty_S_openBlock (.slice v41q v41n v41c) none (some (.int .i64 (IntKind.i64.wrap ((v42n : Int) - 1)))) none).run P w = .ok (.slice r43q r43n r43c) w) ∧
 nilP x0 fun a44 =>
 stV w38 ((a44.add 4).add 0) (.slice r43q r43n r43c) fun w45 =>
 nilP x0 fun a46 =>
 ∃ (v47q : OA), ∃ (v47n : Nat), ∃ (v47c : Nat), w45.cell? (a46.add 4) = some (.slice v47q v47n v47c) ∧
 br (decide ((v47n : Int) > 0))
 (tk w45 fun w48 =>
 nilP x0 fun a49 =>
 nilP x0 fun a50 =>
 ∃ (v51q : OA), ∃ (v51n : Nat), ∃ (v51c : Nat), w48.cell? (a49.add 4) = some (.slice v51q v51n v51c) ∧
 ∃ (v52q : OA), ∃ (v52n : Nat), ∃ (v52c : Nat), w48.cell? (a50.add 4) = some (.slice v52q v52n v52c) ∧
 0 ≤ (IntKind.i64.wrap ((v52n : Int) - 1)) ∧ (IntKind.i64.wrap ((v52n : Int) - 1)) < (v51n : Int) ∧
 nilP v51q fun a53 =>
 ∃ (v54q : OA), ∃ (v54n : Nat), ∃ (v54c : Nat), w48.cell? ((a53.add (Int.toNat (IntKind.i64.wrap ((v52n : Int) - 1)) * 4)).add 1) = some (.slice v54q v54n v54c) ∧
 ∃ (r55q : OA), ∃ (r55n : Nat), ∃ (r55c : Nat), ∃ w56, (Instr.buildSlice ty_S_Block 1 #[(0, x4)]).run P w48 = .ok (.slice r55q r55n r55c) w56 ∧
 ∃ (r57q : OA), ∃ (r57n : Nat), ∃ (r57c : Nat), ∃ w58, (Builtin.append_ #[ty_S_Block, ty_S_Block] ty_S_Block #[.slice v54q v54n v54c, .slice r55q r55n r55c]).run P w56 = .ok (.slice r57q r57n r57c) w58 ∧
 stV w58 (((a53.add (Int.toNat (IntKind.i64.wrap ((v52n : Int) - 1)) * 4)).add 1).add 0) (.slice r57q r57n r57c) fun w59 =>
 R (.returned x4) w59)
 (∃ (r60 : OA), ∃ w61, (Instr.typeAssert x4 ty_Block ty_P_Document false).run P w45 = .ok (.pointer r60) w61 ∧
 nilP x0 fun a62 =>
 stV w61 ((a62.add 1).add 0) (.pointer r60) fun w63 =>
 R (.returned x4) w63)

def k2 (R : EP) (x0 : OA) (x4 : Value) (x5 : OA) (w : World) : Prop :=
 nilP x0 fun a26 =>
 ∃ (v27 : OA), w.cell? a26 = some (.pointer v27) ∧
 nilP v27 fun a28 =>
 ∃ (v29 : Bool), w.cell? (a28.add 2) = some (.bool v29) ∧
 br v29
 (nilP x0 fun a30 =>
 ∃ (v31q : OA), ∃ (v31n : Nat), ∃ (v31c : Nat), w.cell? (a30.add 10) = some (.slice v31q v31n v31c) ∧
 ∃ (r32q : OA), ∃ (r32n : Nat), ∃ (r32c : Nat), ∃ w33, (Instr.buildSlice ty_S_P_List 1 #[(0, .pointer x5)]).run P w = .ok (.slice r32q r32n r32c) w33 ∧
 ∃ (r34q : OA), ∃ (r34n : Nat), ∃ (r34c : Nat), ∃ w35, (Builtin.append_ #[ty_S_P_List, ty_S_P_List] ty_S_P_List #[.slice v31q v31n v31c, .slice r32q r32n r32c]).run P w33 = .ok (.slice r34q r34n r34c) w35 ∧
 nilP x0 fun a36 =>
 stV w35 ((a36.add 10).add 0) (.slice r34q r34n r34c) fun w37 =>
 k3 R x0 x4 w37)
 (k3 R x0 x4 w)

def k1 (R : EP) (x0 x3 : OA) (w : World) : Prop :=
 nilP x3 fun a12 =>
 ∃ (v13 : Value), w.cell? a12 = some v13 ∧
 enterE P (callMethod v13 "pub-paratext/pub/rscmarkdown.build" #[.iface ty_P_parseState (.pointer x0)]) (fun e w15 => ∃ (r14 : Value), e = .returned r14 ∧
 ∃ (r16_0 : OA), ∃ (r16_1 : Bool), ∃ w17, (Instr.typeAssert r14 ty_Block ty_P_List true).run P w15 = .ok (.tuple #[.pointer r16_0, .bool r16_1]) w17 ∧
 br r16_1
 (nilP x0 fun a18 =>
 ∃ (v19 : Bool), w17.cell? (a18.add 6) = some (.bool v19) ∧
 br v19
 (nilP x0 fun a20 =>
 stV w17 ((a20.add 6).add 0) (.bool true) fun w21 =>
 k2 R x0 r14 r16_0 w21)
 (callE P i_listCorner #[.pointer r16_0] (fun e w23 => ∃ (r22 : Bool), e = .returned (.bool r22) ∧
 nilP x0 fun a24 =>
 stV w23 ((a24.add 6).add 0) (.bool r22) fun w25 =>
 k2 R x0 r14 r16_0 w25) w17))
 (k3 R x0 r14 w17)) w

end g_parseState_closeBlock
def g_parseState_closeBlock (R : EP) (x0 : OA) (w : World) : Prop :=
 tk w fun w1 =>
 nilP x0 fun a2 =>
 nilP x0 fun a3 =>
 ∃ (v4q : OA), ∃ (v4n : Nat), ∃ (v4c : Nat), w1.cell? (a2.add 4) = some (.slice v4q v4n v4c) ∧
 ∃ (v5q : OA), ∃ (v5n : Nat), ∃ (v5c : Nat), w1.cell? (a3.add 4) = some (.slice v5q v5n v5c) ∧
 0 ≤ (IntKind.i64.wrap ((v5n : Int) - 1)) ∧ (IntKind.i64.wrap ((v5n : Int) - 1)) < (v4n : Int) ∧
 nilP v4q fun a6 =>
 ∃ (v7 : Value), w1.cell? (a6.add (Int.toNat (IntKind.i64.wrap ((v5n : Int) - 1)) * 4)) = some v7 ∧
 ∃ (r8 : Bool), ∃ w9, (do eqGuard .eql ty_blockBuilder (.tmp 22) (.const .nilIface) v7 .nilIface; binOp .eql ty_blockBuilder v7 .nilIface).run P w1 = .ok (.bool r8) w9 ∧
 br r8
 (nilP x0 fun a10 =>
 ∃ (v11q : OA), ∃ (v11n : Nat), ∃ (v11c : Nat), w9.cell? (a10.add 4) = some (.slice v11q v11n v11c) ∧
 False)
 (g_parseState_closeBlock.k1 R x0 (some (a6.add (Int.toNat (IntKind.i64.wrap ((v5n : Int) - 1)) * 4))) w9)

namespace g_parseState_closeBlock
noncomputable def ac (R : EP) : AC :=
 (.seq (.leaf (sel [0] body)) (.seq (.draw (.pure 0 (.pure 1 (.pure 2 (.pure 4 (.pure 5 (.pure 6 (.load 3 (.load 7 (.pure 8 (.pure 9 (.pure 10 (.pure 11 .done)))))))))))) (sel [1,0] body)) (.seq (.leaf (sel [1,1,0] body)) (.mark (leaf [(0, .s .ptr), (3, .s .ptr)] (k1 R)) (.seq (.leaf (sel [1,1,1,0] body)) (.seq (.seq (.leaf (sel [1,1,1,1,0,0] body)) (.seq (.leaf (sel [1,1,1,1,0,1,0] body)) (.cond 42 (.seq (.leaf (sel [1,1,1,1,0,1,1,0,0] body)) (.mark (leaf [(0, .s .ptr), (4, .s .any), (5, .s .ptr)] (k2 R)) (.leaf (sel [1,1,1,1,0,1,1,0,1] body)))) (.leaf (sel [1,1,1,1,0,1,1,1] body))))) (.mark (leaf [(0, .s .ptr), (4, .s .any)] (k3 R)) (.seq (.draw (.pure 0 (.pure 1 (.pure 2 (.pure 3 (.pure 5 (.pure 6 (.pure 7 (.load 4 (.load 8 (.pure 9 (.pure 10 (.pure 11 (.pure 12 (.pure 13 (.one 14 .done))))))))))))))) (sel [1,1,1,1,1,0] body)) (.seq (.seq (.leaf (sel [1,1,1,1,1,1,0,0] body)) (.cond 90 (.seq (.draw (.pure 0 (.pure 1 (.pure 2 (.pure 4 (.pure 5 (.pure 6 (.load 3 (.load 7 (.pure 8 (.pure 9 (.pure 10 (.pure 11 .done)))))))))))) (sel [1,1,1,1,1,1,0,1,0,0] body)) (.leaf (sel [1,1,1,1,1,1,0,1,0,1] body))) (.leaf (sel [1,1,1,1,1,1,0,1,1] body)))) (.leaf (sel [1,1,1,1,1,1,1] body)))))))))))
theorem good (R : EP) : Good P 118 (ac R) (QF P [.tmp 2] R) :=
 ⟨trivial, ⟨⟨by kernel_rfl, by kernel_rfl, fun _ _ _ h => h⟩, ⟨trivial, ⟨⟨trivial, ⟨⟨trivial, ⟨trivial, ⟨⟨trivial, ⟨trivial, cutZ⟩⟩, trivial⟩⟩⟩, ⟨⟨⟨by kernel_rfl, by kernel_rfl, fun _ _ _ h => h⟩, ⟨⟨trivial, ⟨⟨⟨by kernel_rfl, by kernel_rfl, fun _ _ _ h => h⟩, trivial⟩, trivial⟩⟩, trivial⟩⟩, cutZ⟩⟩⟩, cutZ⟩⟩⟩⟩
theorem eq (R : EP) (x0 : OA) (w : World) : g_parseState_closeBlock R x0 w = vcA P 118 (ac R) (QF P [.tmp 2] R) (fr0 [.pointer x0]) w := by kernel_rfl
theorem sound {R : EP} {x0 : OA} {w : World} (h : g_parseState_closeBlock R x0 w) : callE P i_parseState_closeBlock #[.pointer x0] R w :=
 callE_fz (c := body) Tryz.func88 Tryz.call88 (good R) (eq R x0 w) h
end g_parseState_closeBlock
namespace g_rootBuilder_build
noncomputable def body : Code := bodyOf Tryz.f331
end g_rootBuilder_build
def g_rootBuilder_build (R : EP) (x0 : OA) (x1 : Value) (w : World) : Prop :=
 tk w fun w1 =>
 ∃ (r2 : OA), (∀ w, (Instr.typeAssert x1 ty_buildState ty_P_parseState false).run P w = .ok (.pointer r2) w) ∧
 nilP r2 fun a3 =>
 ∃ (v4 : Option Nat), w1.cell? (a3.add 2) = some (.map v4) ∧
 enterE P (callMethod x1 "pub-paratext/pub/rscmarkdown.pos" #[]) (fun e w6 => ∃ (r5_0 : Int), ∃ (r5_1 : Int), e = .returned (.agg #[.int .i64 r5_0, .int .i64 r5_1]) ∧
 SameC w1 w6 (a3.add 2) 1 ∧
 enterE P (callMethod x1 "pub-paratext/pub/rscmarkdown.blocks" #[]) (fun e w8 => ∃ (r7q : OA), ∃ (r7n : Nat), ∃ (r7c : Nat), e = .returned (.slice r7q r7n r7c) ∧
 SameC w6 w8 (a3.add 2) 1 ∧
 box w8 #[.int .i64 r5_0, .int .i64 r5_1, .slice r7q r7n r7c, .map v4] ty_Document fun b9 w10 =>
 R (.returned (.iface ty_P_Document (.pointer (some ⟨b9, 0, none⟩)))) w10) w6) w1

namespace g_rootBuilder_build
noncomputable def ac (R : EP) : AC :=
 (.seq (.leaf (sel [0] body)) (.seq (.draw (.pure 0 (.pure 2 (.pure 4 (.pure 5 (.pure 6 (.pure 7 (.load 8 (.one 1 (.one 3 (.pure 9 (.one 10 (.pure 11 (.pure 12 .done))))))))))))) (sel [1,0] body)) (.leaf (sel [1,1] body))))
theorem good (R : EP) : Good P 17 (ac R) (QF P [.tmp 4] R) :=
 ⟨trivial, ⟨⟨by kernel_rfl, by kernel_rfl, fun _ _ _ h => h⟩, trivial⟩⟩
theorem eq (R : EP) (x0 : OA) (x1 : Value) (w : World) : g_rootBuilder_build R x0 x1 w = vcA P 17 (ac R) (QF P [.tmp 4] R) (fr0 [.pointer x0, x1]) w := by kernel_rfl
theorem sound {R : EP} {x0 : OA} {x1 : Value} {w : World} (h : g_rootBuilder_build R x0 x1 w) : callE P i_rootBuilder_build #[.pointer x0, x1] R w :=
 callE_fz (c := body) Tryz.func331 Tryz.call331 (good R) (eq R x0 x1 w) h
end g_rootBuilder_build
namespace g_paraBuilder_build
noncomputable def body : Code := bodyOf Tryz.f385
def k1 (R : EP) (x0 : OA) (x1 : Value) (x5 : BA) (w : World) : Prop :=
 br (x5.toList == (ByteArray.mk #[]).toList)
 (enterE P (callMethod x1 "pub-paratext/pub/rscmarkdown.pos" #[]) (fun e w18 => ∃ (r17_0 : Int), ∃ (r17_1 : Int), e = .returned (.agg #[.int .i64 r17_0, .int .i64 r17_1]) ∧
 box w18 #[.int .i64 r17_0, .int .i64 r17_1] ty_Empty fun b19 w20 =>
 R (.returned (.iface ty_P_Empty (.pointer (some ⟨b19, 0, none⟩)))) w20) w)
 (enterE P (callMethod x1 "pub-paratext/pub/rscmarkdown.pos" #[]) (fun e w22 => ∃ (r21_0 : Int), ∃ (r21_1 : Int), e = .returned (.agg #[.int .i64 r21_0, .int .i64 r21_1]) ∧
 box w22 #[.int .i64 0, .int .i64 0] ty_Position fun b23 w24 =>
 stV w24 ⟨b23, 0, none⟩ (.int .i64 r21_0) fun w25 =>
 stV w25 ⟨b23, 1, none⟩ (.int .i64 r21_1) fun w26 =>
 tk w26 fun w27 =>
 nilP x0 fun a28 =>
 ∃ (v29 : Int), w27.cell? ⟨b23, 0, none⟩ = some (.int .i64 v29) ∧
 ∃ (v30q : OA), ∃ (v30n : Nat), ∃ (v30c : Nat), w27.cell? a28 = some (.slice v30q v30n v30c) ∧
 stV w27 ⟨b23, 1, none⟩ (.int .i64 (IntKind.i64.wrap ((IntKind.i64.wrap (v29 + (v30n : Int))) - 1))) fun w31 =>
 tk w31 fun w32 =>
 ∃ (v33 : Int), w32.cell? ⟨b23, 0, none⟩ = some (.int .i64 v33) ∧
 ∃ (v34 : Int), w32.cell? ⟨b23, 1, none⟩ = some (.int .i64 v34) ∧
 ∃ (v35 : Int), w32.cell? ⟨b23, 0, none⟩ = some (.int .i64 v35) ∧
 ∃ (v36 : Int), w32.cell? ⟨b23, 1, none⟩ = some (.int .i64 v36) ∧
 enterE P (callMethod x1 "pub-paratext/pub/rscmarkdown.newText" #[.agg #[.int .i64 v35, .int .i64 v36], .string x5]) (fun e w38 => ∃ (r37 : OA), e = .returned (.pointer r37) ∧
 SameC w32 w38 ⟨b23, 0, none⟩ 2 ∧
 box w38 #[.int .i64 v33, .int .i64 v34, .pointer r37] ty_Paragraph fun b39 w40 =>
 R (.returned (.iface ty_P_Paragraph (.pointer (some ⟨b39, 0, none⟩)))) w40) w32) w)

def bl1 (R : EP) (Xa : OA → Value → BA → WP) (x0 : OA) (x1 : Value) (x5 : BA) (w : World) : Prop :=
 br (!(x5.toList == (ByteArray.mk #[]).toList))
 (callE P i_parseLinkRefDef #[x1, .string x5] (fun e w14 => ∃ (r13_0 : Int), ∃ (r13_1 : Bool), e = .returned (.tuple #[.int .i64 r13_0, .bool r13_1]) ∧
 br (!r13_1)
 (k1 R x0 x1 x5 w14)
 (callE P i_skipSpace #[.string x5, .int .i64 r13_0] (fun e w16 => ∃ (r15 : Int), e = .returned (.int .i64 r15) ∧
 0 ≤ r15 ∧ r15 ≤ (x5.size : Int) ∧
 Xa x0 x1 (x5.extract (Int.toNat r15) x5.size) w16) w14)) w)
 (k1 R x0 x1 x5 w)
def l1 (R : EP) (x0 : OA) (x1 : Value) (x5 : BA) (w : World) : Prop :=
 ∀ X : OA → Value → BA → WP, (∀ x0 x1 x5 w, bl1 R X x0 x1 x5 w → X x0 x1 x5 w) → X x0 x1 x5 w

noncomputable def al1 (R : EP) (Xa : OA → Value → BA → WP) : AC :=
 (.leaf (sel [1,1,1,0,0,0] body))
end g_paraBuilder_build
def g_paraBuilder_build (R : EP) (x0 : OA) (x1 : Value) (w : World) : Prop :=
 nilP x0 fun a1 =>
 ∃ (v2 : OA), w.cell? (a1.add 1) = some (.pointer v2) ∧
 ∃ (r3 : Bool), ∃ w4, (do eqGuard .neq ty_P_tableBuilder (.tmp 12) (.const (.pointer none)) (.pointer v2) (.pointer none); binOp .neq ty_P_tableBuilder (.pointer v2) (.pointer none)).run P w = .ok (.bool r3) w4 ∧
 br r3
 (nilP x0 fun a5 =>
 ∃ (v6 : OA), w4.cell? (a5.add 1) = some (.pointer v6) ∧
 callE P i_tableBuilder_build #[.pointer v6, x1] (fun e w8 => ∃ (r7 : Value), e = .returned r7 ∧
 R (.returned r7) w8) w4)
 (nilP x0 fun a9 =>
 ∃ (v10q : OA), ∃ (v10n : Nat), ∃ (v10c : Nat), w4.cell? a9 = some (.slice v10q v10n v10c) ∧
 callE P i_strings_Join #[.slice v10q v10n v10c, .string (ByteArray.mk #[10])] (fun e w12 => ∃ (r11 : BA), e = .returned (.string r11) ∧
 g_paraBuilder_build.l1 R x0 x1 r11 w12) w4)

namespace g_paraBuilder_build
noncomputable def ac (R : EP) : AC :=
 (.seq (.leaf (sel [0] body)) (.seq (.leaf (sel [1,0] body)) (.seq (.leaf (sel [1,1,0] body)) (.seq (.block 0 (.loop (leaf [(0, .s .ptr), (1, .s .any), (5, .s .str)] (l1 R)) (sel [1,1,1,0,0,0] body))) (.mark (leaf [(0, .s .ptr), (1, .s .any), (5, .s .str)] (k1 R)) (.seq (.leaf (sel [1,1,1,1,0] body)) (.seq (.leaf (sel [1,1,1,1,1,0] body)) (.seq (.draw (.pure 0 (.pure 2 (.pure 3 (.pure 4 (.load 1 (.load 5 (.pure 6 (.pure 7 (.pure 8 (.pure 9 (.one 10 .done))))))))))) (sel [1,1,1,1,1,1,0] body)) (.seq (.draw (.pure 1 (.pure 3 (.load 0 (.load 2 (.one 4 (.pure 5 (.one 6 (.pure 7 (.pure 8 .done))))))))) (sel [1,1,1,1,1,1,1,0] body)) (.leaf (sel [1,1,1,1,1,1,1,1] body)))))))))))
theorem good (R : EP) : Good P 67 (ac R) (QF P [.tmp 4] R) :=
 ⟨trivial, ⟨trivial, ⟨trivial, ⟨(loopG (al1 R) (bl1 R) (fun _ => by kernel_rfl) (fun Xa => trivial) (fun Xa => by intro x0 x1 x5 ρ w; kernel_rfl) (fun X h _ _ _ _ g => g X h)), ⟨⟨trivial, ⟨trivial, ⟨⟨by kernel_rfl, by kernel_rfl, fun _ _ _ h => h⟩, ⟨⟨by kernel_rfl, by kernel_rfl, fun _ _ _ h => h⟩, trivial⟩⟩⟩⟩, cutZ⟩⟩⟩⟩⟩
theorem eq (R : EP) (x0 : OA) (x1 : Value) (w : World) : g_paraBuilder_build R x0 x1 w = vcA P 67 (ac R) (QF P [.tmp 4] R) (fr0 [.pointer x0, x1]) w := by kernel_rfl
theorem sound {R : EP} {x0 : OA} {x1 : Value} {w : World} (h : g_paraBuilder_build R x0 x1 w) : callE P i_paraBuilder_build #[.pointer x0, x1] R w :=
 callE_fz (c := body) Tryz.func385 Tryz.call385 (good R) (eq R x0 x1 w) h
end g_paraBuilder_build
namespace g_parseState_newText
noncomputable def body : Code := bodyOf Tryz.f181
end g_parseState_newText
def g_parseState_newText (R : EP) (x0 : OA) (x1_0 x1_1 : Int) (x2 : BA) (w : World) : Prop :=
 box w #[.int .i64 x1_0, .int .i64 x1_1] ty_Position fun b1 w2 =>
 ∃ (v3 : Int), w2.cell? ⟨b1, 0, none⟩ = some (.int .i64 v3) ∧
 ∃ (v4 : Int), w2.cell? ⟨b1, 1, none⟩ = some (.int .i64 v4) ∧
 box w2 #[.int .i64 v3, .int .i64 v4, .slice none 0 0, .string x2] ty_Text fun b5 w6 =>
 nilP x0 fun a7 =>
 ∃ (v8q : OA), ∃ (v8n : Nat), ∃ (v8c : Nat), w6.cell? (a7.add 11) = some (.slice v8q v8n v8c) ∧
 ∃ (r9q : OA), ∃ (r9n : Nat), ∃ (r9c : Nat), ∃ w10, (Instr.buildSlice ty_S_P_Text 1 #[(0, .pointer (some ⟨b5, 0, none⟩))]).run P w6 = .ok (.slice r9q r9n r9c) w10 ∧
 ∃ (r11q : OA), ∃ (r11n : Nat), ∃ (r11c : Nat), ∃ w12, (Builtin.append_ #[ty_S_P_Text, ty_S_P_Text] ty_S_P_Text #[.slice v8q v8n v8c, .slice r9q r9n r9c]).run P w10 = .ok (.slice r11q r11n r11c) w12 ∧
 nilP x0 fun a13 =>
 stV w12 ((a13.add 11).add 0) (.slice r11q r11n r11c) fun w14 =>
 R (.returned (.pointer (some ⟨b5, 0, none⟩))) w14

namespace g_parseState_newText
noncomputable def ac (R : EP) : AC :=
 (.leaf (sel [] body))
theorem good (R : EP) : Good P 23 (ac R) (QF P [.tmp 6] R) :=
 trivial
theorem eq (R : EP) (x0 : OA) (x1_0 x1_1 : Int) (x2 : BA) (w : World) : g_parseState_newText R x0 x1_0 x1_1 x2 w = vcA P 23 (ac R) (QF P [.tmp 6] R) (fr0 [.pointer x0, .agg #[.int .i64 x1_0, .int .i64 x1_1], .string x2]) w := by kernel_rfl
theorem sound {R : EP} {x0 : OA} {x1_0 x1_1 : Int} {x2 : ByteArray} {w : World} (h : g_parseState_newText R x0 x1_0 x1_1 x2 w) : callE P i_parseState_newText #[.pointer x0, .agg #[.int .i64 x1_0, .int .i64 x1_1], .string x2] R w :=
 callE_fz (c := body) Tryz.func181 Tryz.call181 (good R) (eq R x0 x1_0 x1_1 x2 w) h
end g_parseState_newText
namespace g_parseState_pos
noncomputable def body : Code := bodyOf Tryz.f335
end g_parseState_pos
def g_parseState_pos (R : EP) (x0 : OA) (w : World) : Prop :=
 box w #[.int .i64 0, .int .i64 0] ty_Position fun b1 w2 =>
 tk w2 fun w3 =>
 nilP x0 fun a4 =>
 nilP x0 fun a5 =>
 ∃ (v6q : OA), ∃ (v6n : Nat), ∃ (v6c : Nat), w3.cell? (a4.add 4) = some (.slice v6q v6n v6c) ∧
 ∃ (v7q : OA), ∃ (v7n : Nat), ∃ (v7c : Nat), w3.cell? (a5.add 4) = some (.slice v7q v7n v7c) ∧
 0 ≤ (IntKind.i64.wrap ((v7n : Int) - 1)) ∧ (IntKind.i64.wrap ((v7n : Int) - 1)) < (v6n : Int) ∧
 nilP v6q fun a8 =>
 ∃ (v9 : Int), w3.cell? (((a8.add (Int.toNat (IntKind.i64.wrap ((v7n : Int) - 1)) * 4)).add 2).add 0) = some (.int .i64 v9) ∧
 ∃ (v10 : Int), w3.cell? (((a8.add (Int.toNat (IntKind.i64.wrap ((v7n : Int) - 1)) * 4)).add 2).add 1) = some (.int .i64 v10) ∧
 stV w3 ⟨b1, 0, none⟩ (.int .i64 v9) fun w11 =>
 stV w11 ⟨b1, 1, none⟩ (.int .i64 v10) fun w12 =>
 ∃ (v13 : Int), w12.cell? ⟨b1, 0, none⟩ = some (.int .i64 v13) ∧
 ∃ (v14 : Int), w12.cell? ⟨b1, 1, none⟩ = some (.int .i64 v14) ∧
 R (.returned (.agg #[.int .i64 v13, .int .i64 v14])) w12

namespace g_parseState_pos
noncomputable def ac (R : EP) : AC :=
 (.seq (.leaf (sel [0] body)) (.seq (.draw (.pure 0 (.pure 1 (.pure 2 (.pure 4 (.pure 5 (.pure 6 (.load 3 (.load 7 (.pure 8 (.pure 9 (.pure 10 (.pure 11 .done)))))))))))) (sel [1,0] body)) (.leaf (sel [1,1] body))))
theorem good (R : EP) : Good P 19 (ac R) (QF P [.cell 2 90] R) :=
 ⟨trivial, ⟨⟨by kernel_rfl, by kernel_rfl, fun _ _ _ h => h⟩, trivial⟩⟩
theorem eq (R : EP) (x0 : OA) (w : World) : g_parseState_pos R x0 w = vcA P 19 (ac R) (QF P [.cell 2 90] R) (fr0 [.pointer x0]) w := by kernel_rfl
theorem sound {R : EP} {x0 : OA} {w : World} (h : g_parseState_pos R x0 w) : callE P i_parseState_pos #[.pointer x0] R w :=
 callE_fz (c := body) Tryz.func335 Tryz.call335 (good R) (eq R x0 w) h
end g_parseState_pos
namespace g_parseLinkLabel
noncomputable def body : Code := bodyOf Tryz.f157
def bl1 (R : EP) (Xa : OA → BA → Int → Int → WP) (x0 : OA) (x1 : BA) (x2 x9 : Int) (w : World) : Prop :=
 br (decide (x9 < (x1.size : Int)))
 (0 ≤ x9 ∧ x9 < (x1.size : Int) ∧
 br ((bt x1 x9) == 93)
 (br (decide ((IntKind.i64.wrap (x9 - (IntKind.i64.wrap (x2 + 1)))) > 999))
 (nilP x0 fun a1 =>
 stV w ((a1.add 6).add 0) (.bool true) fun w2 =>
 R (.returned (.tuple #[.string (ByteArray.mk #[]), .int .i64 0, .bool false])) w2)
 (0 ≤ (IntKind.i64.wrap (x2 + 1)) ∧ (IntKind.i64.wrap (x2 + 1)) ≤ x9 ∧ x9 ≤ (x1.size : Int) ∧
 callE P i_trimSpaceTabNewline #[.string (x1.extract (Int.toNat (IntKind.i64.wrap (x2 + 1))) (Int.toNat x9))] (fun e w4 => ∃ (r3 : BA), e = .returned (.string r3) ∧
 br (!(r3.toList == (ByteArray.mk #[]).toList))
 (R (.returned (.tuple #[.string r3, .int .i64 (IntKind.i64.wrap (x9 + 1)), .bool true])) w4)
 (R (.returned (.tuple #[.string (ByteArray.mk #[]), .int .i64 0, .bool false])) w4)) w))
 (0 ≤ x9 ∧ x9 < (x1.size : Int) ∧
 br ((bt x1 x9) == 91)
 (R (.returned (.tuple #[.string (ByteArray.mk #[]), .int .i64 0, .bool false])) w)
 (0 ≤ x9 ∧ x9 < (x1.size : Int) ∧
 br (((bt x1 x9) == 92) && (decide ((IntKind.i64.wrap (x9 + 1)) < (x1.size : Int))))
 (Xa x0 x1 x2 (IntKind.i64.wrap ((IntKind.i64.wrap (x9 + 1)) + 1)) w)
 (Xa x0 x1 x2 (IntKind.i64.wrap (x9 + 1)) w))))
 (R (.returned (.tuple #[.string (ByteArray.mk #[]), .int .i64 0, .bool false])) w)
def l1 (R : EP) (x0 : OA) (x1 : BA) (x2 x9 : Int) (w : World) : Prop :=
 ∀ X : OA → BA → Int → Int → WP, (∀ x0 x1 x2 x9 w, bl1 R X x0 x1 x2 x9 w → X x0 x1 x2 x9 w) → X x0 x1 x2 x9 w

noncomputable def al1 (R : EP) (Xa : OA → BA → Int → Int → WP) : AC :=
 (.leaf (sel [1,1,1,0,0,0] body))
def k1 (R : EP) (x0 : OA) (x1 : BA) (x2 : Int) (w : World) : Prop :=
 l1 R x0 x1 x2 (IntKind.i64.wrap (x2 + 1)) w

end g_parseLinkLabel
def g_parseLinkLabel (R : EP) (x0 : OA) (x1 : BA) (x2 : Int) (w : World) : Prop :=
 ((!(decide (x2 ≥ (x1.size : Int)))) = true → 0 ≤ x2 ∧ x2 < (x1.size : Int)) ∧
 br ((decide (x2 ≥ (x1.size : Int))) || ((bt x1 x2) != 91))
 (R (.returned (.tuple #[.string (ByteArray.mk #[]), .int .i64 0, .bool false])) w)
 (g_parseLinkLabel.k1 R x0 x1 x2 w)

namespace g_parseLinkLabel
noncomputable def ac (R : EP) : AC :=
 (.seq (.leaf (sel [0] body)) (.seq (.leaf (sel [1,0] body)) (.mark (leaf [(0, .s .ptr), (1, .s .str), (2, .s (.int .i64))] (k1 R)) (.seq (.leaf (sel [1,1,0] body)) (.seq (.block 0 (.loop (leaf [(0, .s .ptr), (1, .s .str), (2, .s (.int .i64)), (9, .s (.int .i64))] (l1 R)) (sel [1,1,1,0,0,0] body))) (.leaf (sel [1,1,1,1] body)))))))
theorem good (R : EP) : Good P 69 (ac R) (QF P [.tmp 6, .tmp 7, .tmp 8] R) :=
 ⟨trivial, ⟨trivial, ⟨⟨trivial, ⟨(loopG (al1 R) (bl1 R) (fun _ => by kernel_rfl) (fun Xa => trivial) (fun Xa => by intro x0 x1 x2 x9 ρ w; kernel_rfl) (fun X h _ _ _ _ _ g => g X h)), trivial⟩⟩, cutZ⟩⟩⟩
theorem eq (R : EP) (x0 : OA) (x1 : BA) (x2 : Int) (w : World) : g_parseLinkLabel R x0 x1 x2 w = vcA P 69 (ac R) (QF P [.tmp 6, .tmp 7, .tmp 8] R) (fr0 [.pointer x0, .string x1, .int .i64 x2]) w := by kernel_rfl
theorem sound {R : EP} {x0 : OA} {x1 : ByteArray} {x2 : Int} {w : World} (h : g_parseLinkLabel R x0 x1 x2 w) : callE P i_parseLinkLabel #[.pointer x0, .string x1, .int .i64 x2] R w :=
 callE_fz (c := body) Tryz.func157 Tryz.call157 (good R) (eq R x0 x1 x2 w) h
end g_parseLinkLabel
namespace g_parseLinkRefDef
noncomputable def body : Code := bodyOf Tryz.f388
def k2 (R : EP) (x0 : Value) (x67 : Bool) (w : World) : Prop :=
 br x67
 (∃ (r11 : OA), ∃ w12, (Instr.typeAssert x0 ty_buildState ty_P_parseState false).run P w = .ok (.pointer r11) w12 ∧
 nilP r11 fun a13 =>
 stV w12 ((a13.add 6).add 0) (.bool true) fun w14 =>
 R (.returned (.tuple #[.int .i64 0, .bool false])) w14)
 (R (.returned (.tuple #[.int .i64 0, .bool false])) w)

def k3 (R : EP) (Xa : Value → BA → Int → BA → BA → Bool → WP) (x0 : Value) (x1 : BA) (x6 : Int) (x7 x10 : BA) (w : World) : Prop :=
 Xa x0 x1 (IntKind.i64.wrap (x6 + 1)) x7 x10 true w

def k10 (R : EP) (x0 : Value) (x6 : Int) (x7 x10 x13 : BA) (x14 : Int) (x15 : Bool) (w : World) : Prop :=
 callE P i_normalizeLabel #[.string x7] (fun e w18 => ∃ (r17 : BA), e = .returned (.string r17) ∧
 enterE P (callMethod x0 "pub-paratext/pub/rscmarkdown.link" #[.string r17]) (fun e w20 => ∃ (r19 : OA), e = .returned (.pointer r19) ∧
 ∃ (r21 : Bool), ∃ w22, (do eqGuard .eql ty_P_Link (.tmp 188) (.const (.pointer none)) (.pointer r19) (.pointer none); binOp .eql ty_P_Link (.pointer r19) (.pointer none)).run P w20 = .ok (.bool r21) w22 ∧
 br r21
 (box w22 #[.slice none 0 0, .string x10, .string x13, .int .u8 x14, .bool x15] ty_Link fun b23 w24 =>
 enterE P (callMethod x0 "pub-paratext/pub/rscmarkdown.defineLink" #[.string r17, .pointer (some ⟨b23, 0, none⟩)]) (fun e w26 => e = .returned (.tuple #[]) ∧
 R (.returned (.tuple #[.int .i64 x6, .bool true])) w26) w24)
 (R (.returned (.tuple #[.int .i64 x6, .bool true])) w22)) w18) w

def k9 (R : EP) (x0 : Value) (x1 : BA) (x6 : Int) (x7 x10 x13 : BA) (x14 : Int) (x15 : Bool) (w : World) : Prop :=
 br (decide (x6 < (x1.size : Int)))
 (k10 R x0 (IntKind.i64.wrap (x6 + 1)) x7 x10 x13 x14 x15 w)
 (k10 R x0 x6 x7 x10 x13 x14 x15 w)

def k7 (R : EP) (x0 : Value) (x1 : BA) (x6 : Int) (x7 x10 x13 : BA) (x14 : Int) (x15 : Bool) (w : World) : Prop :=
 ((decide (x6 < (x1.size : Int))) = true → 0 ≤ x6 ∧ x6 < (x1.size : Int)) ∧
 br ((decide (x6 < (x1.size : Int))) && ((bt x1 x6) != 10))
 (R (.returned (.tuple #[.int .i64 0, .bool false])) w)
 (k9 R x0 x1 x6 x7 x10 x13 x14 x15 w)

def k13 (R : EP) (x0 : Value) (x1 : BA) (x6 : Int) (x7 x10 : BA) (x15 : Bool) (x16 : BA) (x17 : Int) (w : World) : Prop :=
 k7 R x0 x1 x6 x7 x10 x16 x17 x15 w

def k12 (R : EP) (x0 : Value) (x1 : BA) (x6 : Int) (x7 x10 x13 : BA) (x14 : Int) (x15 : Bool) (x16 : BA) (x17 x18 : Int) (x162 : Bool) (w : World) : Prop :=
 br x162
 (br (x16.toList == (ByteArray.mk #[]).toList)
 (k13 R x0 x1 x18 x7 x10 true x16 x17 w)
 (k13 R x0 x1 x18 x7 x10 x15 x16 x17 w))
 (k7 R x0 x1 x6 x7 x10 x13 x14 x15 w)

def k11 (R : EP) (x0 : Value) (x1 : BA) (x6 : Int) (x7 x10 x13 : BA) (x14 : Int) (x15 : Bool) (x16 : BA) (x17 x18 : Int) (w : World) : Prop :=
 ((!(decide (x18 ≥ (x1.size : Int)))) = true → 0 ≤ x18 ∧ x18 < (x1.size : Int)) ∧
 k12 R x0 x1 x6 x7 x10 x13 x14 x15 x16 x17 x18 ((decide (x18 ≥ (x1.size : Int))) || ((bt x1 x18) == 10)) w

def bl3 (R : EP) (Xb : Value → BA → Int → BA → BA → BA → Int → Bool → BA → Int → Int → WP) (x0 : Value) (x1 : BA) (x6 : Int) (x7 x10 x13 : BA) (x14 : Int) (x15 : Bool) (x16 : BA) (x17 x18 : Int) (w : World) : Prop :=
 ((decide (x18 < (x1.size : Int))) = true → 0 ≤ x18 ∧ x18 < (x1.size : Int)) ∧
 (((decide (x18 < (x1.size : Int))) && (!((bt x1 x18) == 32))) = true → 0 ≤ x18 ∧ x18 < (x1.size : Int)) ∧
 br ((decide (x18 < (x1.size : Int))) && (((bt x1 x18) == 32) || ((bt x1 x18) == 9)))
 (Xb x0 x1 x6 x7 x10 x13 x14 x15 x16 x17 (IntKind.i64.wrap (x18 + 1)) w)
 (k11 R x0 x1 x6 x7 x10 x13 x14 x15 x16 x17 x18 w)
def l3 (R : EP) (x0 : Value) (x1 : BA) (x6 : Int) (x7 x10 x13 : BA) (x14 : Int) (x15 : Bool) (x16 : BA) (x17 x18 : Int) (w : World) : Prop :=
 ∀ X : Value → BA → Int → BA → BA → BA → Int → Bool → BA → Int → Int → WP, (∀ x0 x1 x6 x7 x10 x13 x14 x15 x16 x17 x18 w, bl3 R X x0 x1 x6 x7 x10 x13 x14 x15 x16 x17 x18 w → X x0 x1 x6 x7 x10 x13 x14 x15 x16 x17 x18 w) → X x0 x1 x6 x7 x10 x13 x14 x15 x16 x17 x18 w

noncomputable def al3 (R : EP) (Xb : Value → BA → Int → BA → BA → BA → Int → Bool → BA → Int → Int → WP) : AC :=
 (.leaf (sel [1,1,1,1,1,1,1,1,1,1,1,1,1,1,1,0,1,0,1,1,1,0,0,0,0] body))
def k8 (R : EP) (x0 : Value) (x1 : BA) (x6 : Int) (x7 x10 : BA) (x12 : Int) (x13 : BA) (x14 : Int) (x15 : Bool) (w : World) : Prop :=
 callE P i_parseLinkTitle #[.string x1, .int .i64 x12] (fun e w16 => ∃ (r15_0 : BA), ∃ (r15_1 : Int), ∃ (r15_2 : Int), ∃ (r15_3 : Bool), e = .returned (.tuple #[.string r15_0, .int .u8 r15_1, .int .i64 r15_2, .bool r15_3]) ∧
 br r15_3
 (l3 R x0 x1 x6 x7 x10 x13 x14 x15 r15_0 r15_1 r15_2 w16)
 (k7 R x0 x1 x6 x7 x10 x13 x14 x15 w16)) w

def bl2 (R : EP) (Xc : Value → BA → Int → BA → BA → Int → BA → Int → Bool → WP) (x0 : Value) (x1 : BA) (x6 : Int) (x7 x10 : BA) (x12 : Int) (x13 : BA) (x14 : Int) (x15 : Bool) (w : World) : Prop :=
 ((decide (x12 < (x1.size : Int))) = true → 0 ≤ x12 ∧ x12 < (x1.size : Int)) ∧
 (((decide (x12 < (x1.size : Int))) && (!((bt x1 x12) == 32))) = true → 0 ≤ x12 ∧ x12 < (x1.size : Int)) ∧
 br ((decide (x12 < (x1.size : Int))) && (((bt x1 x12) == 32) || ((bt x1 x12) == 9)))
 (Xc x0 x1 x6 x7 x10 (IntKind.i64.wrap (x12 + 1)) x13 x14 x15 w)
 (k8 R x0 x1 x6 x7 x10 x12 x13 x14 x15 w)
def l2 (R : EP) (x0 : Value) (x1 : BA) (x6 : Int) (x7 x10 : BA) (x12 : Int) (x13 : BA) (x14 : Int) (x15 : Bool) (w : World) : Prop :=
 ∀ X : Value → BA → Int → BA → BA → Int → BA → Int → Bool → WP, (∀ x0 x1 x6 x7 x10 x12 x13 x14 x15 w, bl2 R X x0 x1 x6 x7 x10 x12 x13 x14 x15 w → X x0 x1 x6 x7 x10 x12 x13 x14 x15 w) → X x0 x1 x6 x7 x10 x12 x13 x14 x15 w

noncomputable def al2 (R : EP) (Xc : Value → BA → Int → BA → BA → Int → BA → Int → Bool → WP) : AC :=
 (.leaf (sel [1,1,1,1,1,1,1,1,1,1,1,1,1,1,1,0,1,0,0,0,0] body))
def k6 (R : EP) (x0 : Value) (x1 : BA) (x6 : Int) (x7 x10 : BA) (x11 : Bool) (x12 : Int) (w : World) : Prop :=
 br x11
 (l2 R x0 x1 x6 x7 x10 x12 (ByteArray.mk #[]) 0 false w)
 (k7 R x0 x1 x6 x7 x10 (ByteArray.mk #[]) 0 false w)

def k5 (R : EP) (x0 : Value) (x1 : BA) (x6 : Int) (x7 x10 : BA) (x11 : Bool) (x12 : Int) (x100 : Bool) (w : World) : Prop :=
 br x100
 (br (decide (x12 < (x1.size : Int)))
 (k6 R x0 x1 x6 x7 x10 true (IntKind.i64.wrap (x12 + 1)) w)
 (k6 R x0 x1 x6 x7 x10 true x12 w))
 (k6 R x0 x1 x6 x7 x10 x11 x12 w)

def k4 (R : EP) (x0 : Value) (x1 : BA) (x6 : Int) (x7 x10 : BA) (x11 : Bool) (w : World) : Prop :=
 ((!(decide (x6 ≥ (x1.size : Int)))) = true → 0 ≤ x6 ∧ x6 < (x1.size : Int)) ∧
 k5 R x0 x1 x6 x7 x10 x11 x6 ((decide (x6 ≥ (x1.size : Int))) || ((bt x1 x6) == 10)) w

def bl1 (R : EP) (Xa : Value → BA → Int → BA → BA → Bool → WP) (x0 : Value) (x1 : BA) (x6 : Int) (x7 x10 : BA) (x11 : Bool) (w : World) : Prop :=
 ((decide (x6 < (x1.size : Int))) = true → 0 ≤ x6 ∧ x6 < (x1.size : Int)) ∧
 (((decide (x6 < (x1.size : Int))) && (!((bt x1 x6) == 32))) = true → 0 ≤ x6 ∧ x6 < (x1.size : Int)) ∧
 br ((decide (x6 < (x1.size : Int))) && (((bt x1 x6) == 32) || ((bt x1 x6) == 9)))
 (k3 R Xa x0 x1 x6 x7 x10 w)
 (k4 R x0 x1 x6 x7 x10 x11 w)
def l1 (R : EP) (x0 : Value) (x1 : BA) (x6 : Int) (x7 x10 : BA) (x11 : Bool) (w : World) : Prop :=
 ∀ X : Value → BA → Int → BA → BA → Bool → WP, (∀ x0 x1 x6 x7 x10 x11 w, bl1 R X x0 x1 x6 x7 x10 x11 w → X x0 x1 x6 x7 x10 x11 w) → X x0 x1 x6 x7 x10 x11 w

noncomputable def al1 (R : EP) (Xa : Value → BA → Int → BA → BA → Bool → WP) : AC :=
 (.seq (.leaf (sel [1,1,1,1,1,1,1,1,1,0,0,0,0] body)) (.mark (leaf [(0, .s .any), (1, .s .str), (6, .s (.int .i64)), (7, .s .str), (10, .s .str)] (k3 R Xa)) (.leaf (sel [1,1,1,1,1,1,1,1,1,0,0,0,1] body))))
def k1 (R : EP) (x0 : Value) (x1 : BA) (x6 : Int) (x7 : BA) (w : World) : Prop :=
 callE P i_skipSpace #[.string x1, .int .i64 (IntKind.i64.wrap (x6 + 1))] (fun e w8 => ∃ (r7 : Int), e = .returned (.int .i64 r7) ∧
 0 ≤ r7 ∧ r7 ≤ (x1.size : Int) ∧
 callE P i_parseLinkDest #[.string x1, .int .i64 r7] (fun e w10 => ∃ (r9_0 : BA), ∃ (r9_1 : Int), ∃ (r9_2 : Bool), e = .returned (.tuple #[.string r9_0, .int .i64 r9_1, .bool r9_2]) ∧
 br (!r9_2)
 (((!((x1.extract (Int.toNat r7) x1.size).toList == (ByteArray.mk #[]).toList)) = true → 0 ≤ (0 : Int) ∧ 0 < ((x1.extract (Int.toNat r7) x1.size).size : Int)) ∧
 k2 R x0 ((!((x1.extract (Int.toNat r7) x1.size).toList == (ByteArray.mk #[]).toList)) && ((bt (x1.extract (Int.toNat r7) x1.size) 0) == 60)) w10)
 (l1 R x0 x1 r9_1 x7 r9_0 false w10)) w8) w

end g_parseLinkRefDef
def g_parseLinkRefDef (R : EP) (x0 : Value) (x1 : BA) (w : World) : Prop :=
 callE P i_skipSpace #[.string x1, .int .i64 0] (fun e w2 => ∃ (r1 : Int), e = .returned (.int .i64 r1) ∧
 ∃ (r3 : OA), ∃ w4, (Instr.typeAssert x0 ty_buildState ty_P_parseState false).run P w2 = .ok (.pointer r3) w4 ∧
 callE P i_parseLinkLabel #[.pointer r3, .string x1, .int .i64 r1] (fun e w6 => ∃ (r5_0 : BA), ∃ (r5_1 : Int), ∃ (r5_2 : Bool), e = .returned (.tuple #[.string r5_0, .int .i64 r5_1, .bool r5_2]) ∧
 ((!((!r5_2) || (decide (r5_1 ≥ (x1.size : Int))))) = true → 0 ≤ r5_1 ∧ r5_1 < (x1.size : Int)) ∧
 br (((!r5_2) || (decide (r5_1 ≥ (x1.size : Int)))) || ((bt x1 r5_1) != 58))
 (R (.returned (.tuple #[.int .i64 0, .bool false])) w6)
 (g_parseLinkRefDef.k1 R x0 x1 r5_1 r5_0 w6)) w4) w

namespace g_parseLinkRefDef
noncomputable def ac (R : EP) : AC :=
 (.seq (.leaf (sel [0] body)) (.seq (.leaf (sel [1,0] body)) (.seq (.leaf (sel [1,1,0] body)) (.seq (.leaf (sel [1,1,1,0] body)) (.mark (leaf [(0, .s .any), (1, .s .str), (6, .s (.int .i64)), (7, .s .str)] (k1 R)) (.seq (.leaf (sel [1,1,1,1,0] body)) (.seq (.leaf (sel [1,1,1,1,1,0] body)) (.seq (.leaf (sel [1,1,1,1,1,1,0] body)) (.seq (.seq (.leaf (sel [1,1,1,1,1,1,1,0,0] body)) (.cond 60 (.seq (.seq (.leaf (sel [1,1,1,1,1,1,1,0,1,0,0,0] body)) (.mark (leaf [(0, .s .any), (67, .s .bool)] (k2 R)) (.leaf (sel [1,1,1,1,1,1,1,0,1,0,0,1] body)))) (.leaf (sel [1,1,1,1,1,1,1,0,1,0,1] body))) (.leaf (sel [1,1,1,1,1,1,1,0,1,1] body)))) (.seq (.leaf (sel [1,1,1,1,1,1,1,1,0] body)) (.seq (.block 0 (.loop (leaf [(0, .s .any), (1, .s .str), (6, .s (.int .i64)), (7, .s .str), (10, .s .str), (11, .s .bool)] (l1 R)) (sel [1,1,1,1,1,1,1,1,1,0,0,0] body))) (.mark (leaf [(0, .s .any), (1, .s .str), (6, .s (.int .i64)), (7, .s .str), (10, .s .str), (11, .s .bool)] (k4 R)) (.seq (.leaf (sel [1,1,1,1,1,1,1,1,1,1,0] body)) (.seq (.seq (.leaf (sel [1,1,1,1,1,1,1,1,1,1,1,0,0] body)) (.mark (leaf [(0, .s .any), (1, .s .str), (6, .s (.int .i64)), (7, .s .str), (10, .s .str), (11, .s .bool), (12, .s (.int .i64)), (100, .s .bool)] (k5 R)) (.leaf (sel [1,1,1,1,1,1,1,1,1,1,1,0,1] body)))) (.mark (leaf [(0, .s .any), (1, .s .str), (6, .s (.int .i64)), (7, .s .str), (10, .s .str), (11, .s .bool), (12, .s (.int .i64))] (k6 R)) (.seq (.leaf (sel [1,1,1,1,1,1,1,1,1,1,1,1,0] body)) (.seq (.leaf (sel [1,1,1,1,1,1,1,1,1,1,1,1,1,0] body)) (.seq (.leaf (sel [1,1,1,1,1,1,1,1,1,1,1,1,1,1,0] body)) (.seq (.seq (.leaf (sel [1,1,1,1,1,1,1,1,1,1,1,1,1,1,1,0,0] body)) (.cond 107 (.seq (.block 2 (.loop (leaf [(0, .s .any), (1, .s .str), (6, .s (.int .i64)), (7, .s .str), (10, .s .str), (12, .s (.int .i64)), (13, .s .str), (14, .s (.int .u8)), (15, .s .bool)] (l2 R)) (sel [1,1,1,1,1,1,1,1,1,1,1,1,1,1,1,0,1,0,0,0,0] body))) (.mark (leaf [(0, .s .any), (1, .s .str), (6, .s (.int .i64)), (7, .s .str), (10, .s .str), (12, .s (.int .i64)), (13, .s .str), (14, .s (.int .u8)), (15, .s .bool)] (k8 R)) (.seq (.leaf (sel [1,1,1,1,1,1,1,1,1,1,1,1,1,1,1,0,1,0,1,0] body)) (.seq (.leaf (sel [1,1,1,1,1,1,1,1,1,1,1,1,1,1,1,0,1,0,1,1,0] body)) (.cond 134 (.seq (.block 4 (.loop (leaf [(0, .s .any), (1, .s .str), (6, .s (.int .i64)), (7, .s .str), (10, .s .str), (13, .s .str), (14, .s (.int .u8)), (15, .s .bool), (16, .s .str), (17, .s (.int .u8)), (18, .s (.int .i64))] (l3 R)) (sel [1,1,1,1,1,1,1,1,1,1,1,1,1,1,1,0,1,0,1,1,1,0,0,0,0] body))) (.mark (leaf [(0, .s .any), (1, .s .str), (6, .s (.int .i64)), (7, .s .str), (10, .s .str), (13, .s .str), (14, .s (.int .u8)), (15, .s .bool), (16, .s .str), (17, .s (.int .u8)), (18, .s (.int .i64))] (k11 R)) (.seq (.leaf (sel [1,1,1,1,1,1,1,1,1,1,1,1,1,1,1,0,1,0,1,1,1,0,1,0] body)) (.mark (leaf [(0, .s .any), (1, .s .str), (6, .s (.int .i64)), (7, .s .str), (10, .s .str), (13, .s .str), (14, .s (.int .u8)), (15, .s .bool), (16, .s .str), (17, .s (.int .u8)), (18, .s (.int .i64)), (162, .s .bool)] (k12 R)) (.cond 162 (.seq (.leaf (sel [1,1,1,1,1,1,1,1,1,1,1,1,1,1,1,0,1,0,1,1,1,0,1,1,0,0] body)) (.seq (.leaf (sel [1,1,1,1,1,1,1,1,1,1,1,1,1,1,1,0,1,0,1,1,1,0,1,1,0,1,0] body)) (.mark (leaf [(0, .s .any), (1, .s .str), (6, .s (.int .i64)), (7, .s .str), (10, .s .str), (15, .s .bool), (16, .s .str), (17, .s (.int .u8))] (k13 R)) (.leaf (sel [1,1,1,1,1,1,1,1,1,1,1,1,1,1,1,0,1,0,1,1,1,0,1,1,0,1,1] body))))) (.leaf (sel [1,1,1,1,1,1,1,1,1,1,1,1,1,1,1,0,1,0,1,1,1,0,1,1,1] body))))))) (.leaf (sel [1,1,1,1,1,1,1,1,1,1,1,1,1,1,1,0,1,0,1,1,1,1] body))))))) (.leaf (sel [1,1,1,1,1,1,1,1,1,1,1,1,1,1,1,0,1,1] body)))) (.mark (leaf [(0, .s .any), (1, .s .str), (6, .s (.int .i64)), (7, .s .str), (10, .s .str), (13, .s .str), (14, .s (.int .u8)), (15, .s .bool)] (k7 R)) (.seq (.leaf (sel [1,1,1,1,1,1,1,1,1,1,1,1,1,1,1,1,0] body)) (.mark (leaf [(0, .s .any), (1, .s .str), (6, .s (.int .i64)), (7, .s .str), (10, .s .str), (13, .s .str), (14, .s (.int .u8)), (15, .s .bool)] (k9 R)) (.seq (.leaf (sel [1,1,1,1,1,1,1,1,1,1,1,1,1,1,1,1,1,0] body)) (.mark (leaf [(0, .s .any), (6, .s (.int .i64)), (7, .s .str), (10, .s .str), (13, .s .str), (14, .s (.int .u8)), (15, .s .bool)] (k10 R)) (.leaf (sel [1,1,1,1,1,1,1,1,1,1,1,1,1,1,1,1,1,1] body))))))))))))))))))))))))))
theorem good (R : EP) : Good P 200 (ac R) (QF P [.tmp 4, .tmp 5] R) :=
 ⟨trivial, ⟨trivial, ⟨trivial, ⟨trivial, ⟨⟨trivial, ⟨trivial, ⟨trivial, ⟨⟨trivial, ⟨⟨⟨trivial, ⟨trivial, cutZ⟩⟩, trivial⟩, trivial⟩⟩, ⟨trivial, ⟨(loopG (al1 R) (bl1 R) (fun _ => by kernel_rfl) (fun Xa => ⟨trivial, ⟨trivial, cutZ⟩⟩) (fun Xa => by intro x0 x1 x6 x7 x10 x11 ρ w; kernel_rfl) (fun X h _ _ _ _ _ _ _ g => g X h)), ⟨⟨trivial, ⟨⟨trivial, ⟨trivial, cutZ⟩⟩, ⟨⟨trivial, ⟨trivial, ⟨trivial, ⟨⟨trivial, ⟨⟨(loopG (al2 R) (bl2 R) (fun _ => by kernel_rfl) (fun Xc => trivial) (fun Xc => by intro x0 x1 x6 x7 x10 x12 x13 x14 x15 ρ w; kernel_rfl) (fun X h _ _ _ _ _ _ _ _ _ _ g => g X h)), ⟨⟨trivial, ⟨trivial, ⟨⟨(loopG (al3 R) (bl3 R) (fun _ => by kernel_rfl) (fun Xb => trivial) (fun Xb => by intro x0 x1 x6 x7 x10 x13 x14 x15 x16 x17 x18 ρ w; kernel_rfl) (fun X h _ _ _ _ _ _ _ _ _ _ _ _ g => g X h)), ⟨⟨trivial, ⟨⟨⟨trivial, ⟨trivial, ⟨trivial, cutZ⟩⟩⟩, trivial⟩, cutZ⟩⟩, cutZ⟩⟩, trivial⟩⟩⟩, cutZ⟩⟩, trivial⟩⟩, ⟨⟨trivial, ⟨⟨trivial, ⟨trivial, cutZ⟩⟩, cutZ⟩⟩, cutZ⟩⟩⟩⟩⟩, cutZ⟩⟩⟩, cutZ⟩⟩⟩⟩⟩⟩⟩, cutZ⟩⟩⟩⟩⟩
theorem eq (R : EP) (x0 : Value) (x1 : BA) (w : World) : g_parseLinkRefDef R x0 x1 w = vcA P 200 (ac R) (QF P [.tmp 4, .tmp 5] R) (fr0 [x0, .string x1]) w := by kernel_rfl
theorem sound {R : EP} {x0 : Value} {x1 : ByteArray} {w : World} (h : g_parseLinkRefDef R x0 x1 w) : callE P i_parseLinkRefDef #[x0, .string x1] R w :=
 callE_fz (c := body) Tryz.func388 Tryz.call388 (good R) (eq R x0 x1 w) h
end g_parseLinkRefDef
namespace g_skipSpace
noncomputable def body : Code := bodyOf Tryz.f154
def bl1 (R : EP) (Xa : BA → Int → WP) (x0 : BA) (x1 : Int) (w : World) : Prop :=
 ((decide (x1 < (x0.size : Int))) = true → 0 ≤ x1 ∧ x1 < (x0.size : Int)) ∧
 (((decide (x1 < (x0.size : Int))) && (!((bt x0 x1) == 32))) = true → 0 ≤ x1 ∧ x1 < (x0.size : Int)) ∧
 (((decide (x1 < (x0.size : Int))) && (!(((bt x0 x1) == 32) || ((bt x0 x1) == 9)))) = true → 0 ≤ x1 ∧ x1 < (x0.size : Int)) ∧
 br ((decide (x1 < (x0.size : Int))) && ((((bt x0 x1) == 32) || ((bt x0 x1) == 9)) || ((bt x0 x1) == 10)))
 (Xa x0 (IntKind.i64.wrap (x1 + 1)) w)
 (R (.returned (.int .i64 x1)) w)
def l1 (R : EP) (x0 : BA) (x1 : Int) (w : World) : Prop :=
 ∀ X : BA → Int → WP, (∀ x0 x1 w, bl1 R X x0 x1 w → X x0 x1 w) → X x0 x1 w

noncomputable def al1 (R : EP) (Xa : BA → Int → WP) : AC :=
 (.leaf (sel [1,0,0,0] body))
end g_skipSpace
def g_skipSpace (R : EP) (x0 : BA) (x1 : Int) (w : World) : Prop :=
 g_skipSpace.l1 R x0 x1 w

namespace g_skipSpace
noncomputable def ac (R : EP) : AC :=
 (.seq (.leaf (sel [0] body)) (.seq (.block 0 (.loop (leaf [(0, .s .str), (1, .s (.int .i64))] (l1 R)) (sel [1,0,0,0] body))) (.leaf (sel [1,1] body))))
theorem good (R : EP) : Good P 30 (ac R) (QF P [.tmp 4] R) :=
 ⟨trivial, ⟨(loopG (al1 R) (bl1 R) (fun _ => by kernel_rfl) (fun Xa => trivial) (fun Xa => by intro x0 x1 ρ w; kernel_rfl) (fun X h _ _ _ g => g X h)), trivial⟩⟩
theorem eq (R : EP) (x0 : BA) (x1 : Int) (w : World) : g_skipSpace R x0 x1 w = vcA P 30 (ac R) (QF P [.tmp 4] R) (fr0 [.string x0, .int .i64 x1]) w := by kernel_rfl
theorem sound {R : EP} {x0 : ByteArray} {x1 : Int} {w : World} (h : g_skipSpace R x0 x1 w) : callE P i_skipSpace #[.string x0, .int .i64 x1] R w :=
 callE_fz (c := body) Tryz.func154 Tryz.call154 (good R) (eq R x0 x1 w) h
end g_skipSpace
namespace g_strings_Join
noncomputable def body : Code := bodyOf Tryz.f221
def k3 (R : EP) (Xa : OA → Nat → Nat → BA → Int → OA → Nat → Nat → Int → Int → WP) (x0q : OA) (x0n x0c : Nat) (x1 : BA) (x5 : Int) (x7 : BA) (x39q : OA) (x39n x39c : Nat) (x40 x41 : Int) (w : World) : Prop :=
 Xa x0q x0n x0c x1 (IntKind.i64.wrap (x5 + (x7.size : Int))) x39q x39n x39c x40 (IntKind.i64.wrap (x41 + 1)) w

def bl2 (R : EP) (Xb : BA → Nat → OA → Nat → Nat → Int → Int → WP) (x1 : BA) (x8 : Nat) (x63q : OA) (x63n x63c : Nat) (x64 x65 : Int) (w : World) : Prop :=
 br (decide (x65 < x64))
 (0 ≤ x65 ∧ x65 < (x63n : Int) ∧
 nilP x63q fun a15 =>
 ∃ (v16 : BA), w.cell? (a15.add (Int.toNat x65 * 1)) = some (.string v16) ∧
 callE P i_strings_Builder_WriteString #[.pointer (some ⟨x8, 0, none⟩), .string x1] (fun e w18 => ∃ (r17_0 : Int), ∃ (r17_1 : Value), e = .returned (.tuple #[.int .i64 r17_0, r17_1]) ∧
 callE P i_strings_Builder_WriteString #[.pointer (some ⟨x8, 0, none⟩), .string v16] (fun e w20 => ∃ (r19_0 : Int), ∃ (r19_1 : Value), e = .returned (.tuple #[.int .i64 r19_0, r19_1]) ∧
 Xb x1 x8 x63q x63n x63c x64 (IntKind.i64.wrap (x65 + 1)) w20) w18) w)
 (callE P i_strings_Builder_String #[.pointer (some ⟨x8, 0, none⟩)] (fun e w22 => ∃ (r21 : BA), e = .returned (.string r21) ∧
 R (.returned (.string r21)) w22) w)
def l2 (R : EP) (x1 : BA) (x8 : Nat) (x63q : OA) (x63n x63c : Nat) (x64 x65 : Int) (w : World) : Prop :=
 ∀ X : BA → Nat → OA → Nat → Nat → Int → Int → WP, (∀ x1 x8 x63q x63n x63c x64 x65 w, bl2 R X x1 x8 x63q x63n x63c x64 x65 w → X x1 x8 x63q x63n x63c x64 x65 w) → X x1 x8 x63q x63n x63c x64 x65 w

noncomputable def al2 (R : EP) (Xb : BA → Nat → OA → Nat → Nat → Int → Int → WP) : AC :=
 (.leaf (sel [1,1,1,1,1,1,1,1,0,1,0,0] body))
def bl1 (R : EP) (Xa : OA → Nat → Nat → BA → Int → OA → Nat → Nat → Int → Int → WP) (x0q : OA) (x0n x0c : Nat) (x1 : BA) (x5 : Int) (x39q : OA) (x39n x39c : Nat) (x40 x41 : Int) (w : World) : Prop :=
 br (decide (x41 < x40))
 (0 ≤ x41 ∧ x41 < (x39n : Int) ∧
 nilP x39q fun a3 =>
 ∃ (v4 : BA), w.cell? (a3.add (Int.toNat x41 * 1)) = some (.string v4) ∧
 br (decide ((v4.size : Int) > (IntKind.i64.wrap (9223372036854775807 - x5))))
 (False)
 (k3 R Xa x0q x0n x0c x1 x5 v4 x39q x39n x39c x40 x41 w))
 (box w #[.pointer none, .slice none 0 0] ty_strings_Builder fun b5 w6 =>
 callE P i_strings_Builder_Grow #[.pointer (some ⟨b5, 0, none⟩), .int .i64 x5] (fun e w8 => e = .returned (.tuple #[]) ∧
 0 ≤ (0 : Int) ∧ 0 < (x0n : Int) ∧
 nilP x0q fun a9 =>
 ∃ (v10 : BA), w8.cell? (a9.add (Int.toNat 0 * 1)) = some (.string v10) ∧
 callE P i_strings_Builder_WriteString #[.pointer (some ⟨b5, 0, none⟩), .string v10] (fun e w12 => ∃ (r11_0 : Int), ∃ (r11_1 : Value), e = .returned (.tuple #[.int .i64 r11_0, r11_1]) ∧
 ∃ (r13q : OA), ∃ (r13n : Nat), ∃ (r13c : Nat), ∃ w14, (Instr.sliceAt ty_S_string (.slice x0q x0n x0c) (some (.int .i64 1)) none none).run P w12 = .ok (.slice r13q r13n r13c) w14 ∧
 l2 R x1 b5 r13q r13n r13c (r13n : Int) 0 w14) w8) w6)
def l1 (R : EP) (x0q : OA) (x0n x0c : Nat) (x1 : BA) (x5 : Int) (x39q : OA) (x39n x39c : Nat) (x40 x41 : Int) (w : World) : Prop :=
 ∀ X : OA → Nat → Nat → BA → Int → OA → Nat → Nat → Int → Int → WP, (∀ x0q x0n x0c x1 x5 x39q x39n x39c x40 x41 w, bl1 R X x0q x0n x0c x1 x5 x39q x39n x39c x40 x41 w → X x0q x0n x0c x1 x5 x39q x39n x39c x40 x41 w) → X x0q x0n x0c x1 x5 x39q x39n x39c x40 x41 w

noncomputable def al1 (R : EP) (Xa : OA → Nat → Nat → BA → Int → OA → Nat → Nat → Int → Int → WP) : AC :=
 (.seq (.leaf (sel [1,1,1,1,0,1,0,0,0] body)) (.seq (.leaf (sel [1,1,1,1,0,1,0,0,1,0] body)) (.seq (.block 2 (.seq (.leaf (sel [1,1,1,1,0,1,0,0,1,1,0,0,0] body)) (.seq (.leaf (sel [1,1,1,1,0,1,0,0,1,1,0,0,1,0] body)) (.mark (leaf [(0, .s .slice), (1, .s .str), (5, .s (.int .i64)), (7, .s .str), (39, .s .slice), (40, .s (.int .i64)), (41, .s (.int .i64))] (k3 R Xa)) (.leaf (sel [1,1,1,1,0,1,0,0,1,1,0,0,1,1] body)))))) (.leaf (sel [1,1,1,1,0,1,0,0,1,1,1] body)))))
def k2 (R : EP) (x0q : OA) (x0n x0c : Nat) (x1 : BA) (x5 : Int) (w : World) : Prop :=
 l1 R x0q x0n x0c x1 x5 x0q x0n x0c (x0n : Int) 0 w

def k1 (R : EP) (x0q : OA) (x0n x0c : Nat) (x1 : BA) (x5 : Int) (w : World) : Prop :=
 k2 R x0q x0n x0c x1 (IntKind.i64.wrap (x5 + (IntKind.i64.wrap ((x1.size : Int) * (IntKind.i64.wrap ((x0n : Int) - 1)))))) w

end g_strings_Join
def g_strings_Join (R : EP) (x0q : OA) (x0n x0c : Nat) (x1 : BA) (w : World) : Prop :=
 br ((x0n : Int) == 0)
 (R (.returned (.string (ByteArray.mk #[]))) w)
 (br ((x0n : Int) == 1)
 (0 ≤ (0 : Int) ∧ 0 < (x0n : Int) ∧
 nilP x0q fun a1 =>
 ∃ (v2 : BA), w.cell? (a1.add (Int.toNat 0 * 1)) = some (.string v2) ∧
 R (.returned (.string v2)) w)
 (br (decide ((x1.size : Int) > 0))
 ((IntKind.i64.wrap ((x0n : Int) - 1)) ≠ 0 ∧
 br (decide ((x1.size : Int) ≥ (IntKind.i64.wrap (Int.tdiv 9223372036854775807 (IntKind.i64.wrap ((x0n : Int) - 1))))))
 (False)
 (g_strings_Join.k1 R x0q x0n x0c x1 0 w))
 (g_strings_Join.k2 R x0q x0n x0c x1 0 w)))

namespace g_strings_Join
noncomputable def ac (R : EP) : AC :=
 (.seq (.leaf (sel [0] body)) (.seq (.leaf (sel [1,0] body)) (.seq (.leaf (sel [1,1,0] body)) (.seq (.seq (.leaf (sel [1,1,1,0,0] body)) (.cond 22 (.seq (.leaf (sel [1,1,1,0,1,0,0] body)) (.mark (leaf [(0, .s .slice), (1, .s .str), (5, .s (.int .i64))] (k1 R)) (.leaf (sel [1,1,1,0,1,0,1] body)))) (.leaf (sel [1,1,1,0,1,1] body)))) (.mark (leaf [(0, .s .slice), (1, .s .str), (5, .s (.int .i64))] (k2 R)) (.seq (.seq (.leaf (sel [1,1,1,1,0,0] body)) (.block 1 (.loop (leaf [(0, .s .slice), (1, .s .str), (5, .s (.int .i64)), (39, .s .slice), (40, .s (.int .i64)), (41, .s (.int .i64))] (l1 R)) (sel [1,1,1,1,0,1,0,0] body)))) (.seq (.leaf (sel [1,1,1,1,1,0] body)) (.seq (.leaf (sel [1,1,1,1,1,1,0] body)) (.seq (.leaf (sel [1,1,1,1,1,1,1,0] body)) (.seq (.seq (.leaf (sel [1,1,1,1,1,1,1,1,0,0] body)) (.block 3 (.loop (leaf [(1, .s .str), (8, .s .loc), (63, .s .slice), (64, .s (.int .i64)), (65, .s (.int .i64))] (l2 R)) (sel [1,1,1,1,1,1,1,1,0,1,0,0] body)))) (.leaf (sel [1,1,1,1,1,1,1,1,1] body))))))))))))
theorem good (R : EP) : Good P 75 (ac R) (QF P [.tmp 4] R) :=
 ⟨trivial, ⟨trivial, ⟨trivial, ⟨⟨trivial, ⟨⟨trivial, ⟨trivial, cutZ⟩⟩, trivial⟩⟩, ⟨⟨⟨trivial, (loopG (al1 R) (bl1 R) (fun _ => by kernel_rfl) (fun Xa => ⟨trivial, ⟨trivial, ⟨⟨trivial, ⟨trivial, ⟨trivial, cutZ⟩⟩⟩, trivial⟩⟩⟩) (fun Xa => by intro x0q x0n x0c x1 x5 x39q x39n x39c x40 x41 ρ w; kernel_rfl) (fun X h _ _ _ _ _ _ _ _ _ _ _ g => g X h))⟩, ⟨trivial, ⟨trivial, ⟨trivial, ⟨⟨trivial, (loopG (al2 R) (bl2 R) (fun _ => by kernel_rfl) (fun Xb => trivial) (fun Xb => by intro x1 x8 x63q x63n x63c x64 x65 ρ w; kernel_rfl) (fun X h _ _ _ _ _ _ _ _ g => g X h))⟩, trivial⟩⟩⟩⟩⟩, cutZ⟩⟩⟩⟩⟩
theorem eq (R : EP) (x0q : OA) (x0n x0c : Nat) (x1 : BA) (w : World) : g_strings_Join R x0q x0n x0c x1 w = vcA P 75 (ac R) (QF P [.tmp 4] R) (fr0 [.slice x0q x0n x0c, .string x1]) w := by kernel_rfl
theorem sound {R : EP} {x0q : OA} {x0n x0c : Nat} {x1 : ByteArray} {w : World} (h : g_strings_Join R x0q x0n x0c x1 w) : callE P i_strings_Join #[.slice x0q x0n x0c, .string x1] R w :=
 callE_fz (c := body) Tryz.func221 Tryz.call221 (good R) (eq R x0q x0n x0c x1 w) h
end g_strings_Join
namespace g_parseState_addLine
noncomputable def body : Code := bodyOf Tryz.f68
def k3 (R : EP) (Xa : OA → Nat → WP) (x0 : OA) (x3 : Nat) (w : World) : Prop :=
 nilP x0 fun a70 =>
 ∃ (v71 : Int), w.cell? (a70.add 5) = some (.int .i64 v71) ∧
 nilP x0 fun a72 =>
 stV w ((a72.add 5).add 0) (.int .i64 (IntKind.i64.wrap (v71 + 1))) fun w73 =>
 Xa x0 x3 w73

def bl2 (R : EP) (Xb : OA → Nat → WP) (Xc : OA → Nat → OA → Nat → Nat → Int → Int → WP) (x0 : OA) (x3 : Nat) (x86q : OA) (x86n x86c : Nat) (x87 x88 : Int) (w : World) : Prop :=
 br (decide (x88 < x87))
 (0 ≤ x88 ∧ x88 < (x86n : Int) ∧
 nilP x86q fun a76 =>
 ∃ (v77 : Value), w.cell? (a76.add (Int.toNat x88 * 1)) = some v77 ∧
 ∃ (v78 : Int), w.cell? ⟨x3, 0, none⟩ = some (.int .i64 v78) ∧
 ∃ (v79 : Int), w.cell? ⟨x3, 1, none⟩ = some (.int .i64 v79) ∧
 ∃ (v80 : Int), w.cell? ⟨x3, 2, none⟩ = some (.int .i64 v80) ∧
 ∃ (v81 : BA), w.cell? ⟨x3, 3, none⟩ = some (.string v81) ∧
 ∃ (v82 : Int), w.cell? ⟨x3, 4, none⟩ = some (.int .u8 v82) ∧
 enterE P (do let d ← Deferred.ofValue v77 #[.pointer x0, .agg #[.int .i64 v78, .int .i64 v79, .int .i64 v80, .string v81, .int .u8 v82]]; invoke d.target d.args) (fun e w84 => ∃ (r83_0_0 : Int), ∃ (r83_0_1 : Int), ∃ (r83_0_2 : Int), ∃ (r83_0_3 : BA), ∃ (r83_0_4 : Int), ∃ (r83_1 : Bool), e = .returned (.tuple #[.agg #[.int .i64 r83_0_0, .int .i64 r83_0_1, .int .i64 r83_0_2, .string r83_0_3, .int .u8 r83_0_4], .bool r83_1]) ∧
 box w84 #[.int .i64 0, .int .i64 0, .int .i64 0, .string (ByteArray.mk #[]), .int .u8 0] ty_line fun b85 w86 =>
 stV w86 ⟨b85, 0, none⟩ (.int .i64 r83_0_0) fun w87 =>
 stV w87 ⟨b85, 1, none⟩ (.int .i64 r83_0_1) fun w88 =>
 stV w88 ⟨b85, 2, none⟩ (.int .i64 r83_0_2) fun w89 =>
 stV w89 ⟨b85, 3, none⟩ (.string r83_0_3) fun w90 =>
 stV w90 ⟨b85, 4, none⟩ (.int .u8 r83_0_4) fun w91 =>
 br r83_1
 (∃ (v92 : Int), w91.cell? ⟨b85, 0, none⟩ = some (.int .i64 v92) ∧
 ∃ (v93 : Int), w91.cell? ⟨b85, 1, none⟩ = some (.int .i64 v93) ∧
 ∃ (v94 : Int), w91.cell? ⟨b85, 2, none⟩ = some (.int .i64 v94) ∧
 ∃ (v95 : BA), w91.cell? ⟨b85, 3, none⟩ = some (.string v95) ∧
 ∃ (v96 : Int), w91.cell? ⟨b85, 4, none⟩ = some (.int .u8 v96) ∧
 stV w91 ⟨x3, 0, none⟩ (.int .i64 v92) fun w97 =>
 stV w97 ⟨x3, 1, none⟩ (.int .i64 v93) fun w98 =>
 stV w98 ⟨x3, 2, none⟩ (.int .i64 v94) fun w99 =>
 stV w99 ⟨x3, 3, none⟩ (.string v95) fun w100 =>
 stV w100 ⟨x3, 4, none⟩ (.int .u8 v96) fun w101 =>
 callE P i_line_isBlank #[.pointer (some ⟨x3, 0, none⟩)] (fun e w103 => ∃ (r102 : Bool), e = .returned (.bool r102) ∧
 br r102
 (R (.returned (.tuple #[])) w103)
 (nilP x0 fun a104 =>
 ∃ (v105 : Int), w103.cell? (a104.add 5) = some (.int .i64 v105) ∧
 nilP x0 fun a106 =>
 stV w103 ((a106.add 5).add 0) (.int .i64 (IntKind.i64.wrap (v105 + 1))) fun w107 =>
 Xb x0 x3 w107)) w101)
 (Xc x0 x3 x86q x86n x86c x87 (IntKind.i64.wrap (x88 + 1)) w91)) w)
 (∃ (v108 : Int), w.cell? ⟨x3, 0, none⟩ = some (.int .i64 v108) ∧
 ∃ (v109 : Int), w.cell? ⟨x3, 1, none⟩ = some (.int .i64 v109) ∧
 ∃ (v110 : Int), w.cell? ⟨x3, 2, none⟩ = some (.int .i64 v110) ∧
 ∃ (v111 : BA), w.cell? ⟨x3, 3, none⟩ = some (.string v111) ∧
 ∃ (v112 : Int), w.cell? ⟨x3, 4, none⟩ = some (.int .u8 v112) ∧
 callE P i_newPara #[.pointer x0, .agg #[.int .i64 v108, .int .i64 v109, .int .i64 v110, .string v111, .int .u8 v112]] (fun e w114 => ∃ (r113_0_0 : Int), ∃ (r113_0_1 : Int), ∃ (r113_0_2 : Int), ∃ (r113_0_3 : BA), ∃ (r113_0_4 : Int), ∃ (r113_1 : Bool), e = .returned (.tuple #[.agg #[.int .i64 r113_0_0, .int .i64 r113_0_1, .int .i64 r113_0_2, .string r113_0_3, .int .u8 r113_0_4], .bool r113_1]) ∧
 R (.returned (.tuple #[])) w114) w)
def l2 (R : EP) (Xb : OA → Nat → WP) (x0 : OA) (x3 : Nat) (x86q : OA) (x86n x86c : Nat) (x87 x88 : Int) (w : World) : Prop :=
 ∀ X : OA → Nat → OA → Nat → Nat → Int → Int → WP, (∀ x0 x3 x86q x86n x86c x87 x88 w, bl2 R Xb X x0 x3 x86q x86n x86c x87 x88 w → X x0 x3 x86q x86n x86c x87 x88 w) → X x0 x3 x86q x86n x86c x87 x88 w

noncomputable def al2 (R : EP) (Xb : OA → Nat → WP) (Xc : OA → Nat → OA → Nat → Nat → Int → Int → WP) : AC :=
 (.leaf (sel [1,0,1,1,1,1,0,1,0,0] body))
def bl102 (R : EP) (Xb : OA → Nat → WP) (x0 : OA) (x3 : Nat) (w : World) : Prop :=
 callE P i_news #[] (fun e w75 => ∃ (r74q : OA), ∃ (r74n : Nat), ∃ (r74c : Nat), e = .returned (.slice r74q r74n r74c) ∧
 l2 R Xb x0 x3 r74q r74n r74c (r74n : Int) 0 w75) w
def l102 (R : EP) (x0 : OA) (x3 : Nat) (w : World) : Prop :=
 ∀ X : OA → Nat → WP, (∀ x0 x3 w, bl102 R X x0 x3 w → X x0 x3 w) → X x0 x3 w

noncomputable def al102 (R : EP) (Xb : OA → Nat → WP) : AC :=
 (.seq (.seq (.leaf (sel [1,0,1,1,1,1,0,0] body)) (.block 2 (.loop (leaf [(0, .s .ptr), (3, .s .loc), (86, .s .slice), (87, .s (.int .i64)), (88, .s (.int .i64))] (l2 R Xb)) (sel [1,0,1,1,1,1,0,1,0,0] body)))) (.leaf (sel [1,0,1,1,1,1,1] body)))
def k2 (R : EP) (x0 : OA) (x3 : Nat) (w : World) : Prop :=
 callE P i_line_isBlank #[.pointer (some ⟨x3, 0, none⟩)] (fun e w65 => ∃ (r64 : Bool), e = .returned (.bool r64) ∧
 br r64
 (nilP x0 fun a66 =>
 ∃ (v67 : Int), w65.cell? (a66.add 5) = some (.int .i64 v67) ∧
 callE P i_parseState_trimStack #[.pointer x0, .int .i64 (IntKind.i64.wrap (v67 + 1))] (fun e w69 => e = .returned (.tuple #[]) ∧
 R (.returned (.tuple #[])) w69) w65)
 (bl102 R (l102 R) x0 x3 w65)) w

def k1 (R : EP) (Xa : OA → Nat → WP) (x0 : OA) (x3 : Nat) (x5 x59 : Bool) (w : World) : Prop :=
 br x59
 (tk w fun w55 =>
 nilP x0 fun a56 =>
 nilP x0 fun a57 =>
 nilP x0 fun a58 =>
 ∃ (v59q : OA), ∃ (v59n : Nat), ∃ (v59c : Nat), w55.cell? (a56.add 4) = some (.slice v59q v59n v59c) ∧
 ∃ (v60 : Int), w55.cell? (a57.add 5) = some (.int .i64 v60) ∧
 ∃ (v61 : Int), w55.cell? (a58.add 3) = some (.int .i64 v61) ∧
 0 ≤ (IntKind.i64.wrap (v60 + 1)) ∧ (IntKind.i64.wrap (v60 + 1)) < (v59n : Int) ∧
 nilP v59q fun a62 =>
 stV w55 ((((a62.add (Int.toNat (IntKind.i64.wrap (v60 + 1)) * 4)).add 2).add 1).add 0) (.int .i64 v61) fun w63 =>
 br (!x5)
 (k2 R x0 x3 w63)
 (k3 R Xa x0 x3 w63))
 (br (!x5)
 (k2 R x0 x3 w)
 (k3 R Xa x0 x3 w))

def bl1 (R : EP) (Xa : OA → Nat → WP) (x0 : OA) (x3 : Nat) (w : World) : Prop :=
 tk w fun w5 =>
 nilP x0 fun a6 =>
 nilP x0 fun a7 =>
 ∃ (v8 : Int), w5.cell? (a6.add 5) = some (.int .i64 v8) ∧
 ∃ (v9q : OA), ∃ (v9n : Nat), ∃ (v9c : Nat), w5.cell? (a7.add 4) = some (.slice v9q v9n v9c) ∧
 br (decide ((IntKind.i64.wrap (v8 + 1)) < (v9n : Int)))
 (∃ (v10 : Int), w5.cell? ⟨x3, 0, none⟩ = some (.int .i64 v10) ∧
 ∃ (v11 : Int), w5.cell? ⟨x3, 1, none⟩ = some (.int .i64 v11) ∧
 ∃ (v12 : Int), w5.cell? ⟨x3, 2, none⟩ = some (.int .i64 v12) ∧
 ∃ (v13 : BA), w5.cell? ⟨x3, 3, none⟩ = some (.string v13) ∧
 ∃ (v14 : Int), w5.cell? ⟨x3, 4, none⟩ = some (.int .u8 v14) ∧
 box w5 #[.int .i64 0, .int .i64 0, .int .i64 0, .string (ByteArray.mk #[]), .int .u8 0] ty_line fun b15 w16 =>
 stV w16 ⟨b15, 0, none⟩ (.int .i64 v10) fun w17 =>
 stV w17 ⟨b15, 1, none⟩ (.int .i64 v11) fun w18 =>
 stV w18 ⟨b15, 2, none⟩ (.int .i64 v12) fun w19 =>
 stV w19 ⟨b15, 3, none⟩ (.string v13) fun w20 =>
 stV w20 ⟨b15, 4, none⟩ (.int .u8 v14) fun w21 =>
 tk w21 fun w22 =>
 nilP x0 fun a23 =>
 nilP x0 fun a24 =>
 ∃ (v25q : OA), ∃ (v25n : Nat), ∃ (v25c : Nat), w22.cell? (a23.add 4) = some (.slice v25q v25n v25c) ∧
 ∃ (v26 : Int), w22.cell? (a24.add 5) = some (.int .i64 v26) ∧
 0 ≤ (IntKind.i64.wrap (v26 + 1)) ∧ (IntKind.i64.wrap (v26 + 1)) < (v25n : Int) ∧
 nilP v25q fun a27 =>
 ∃ (v28 : Value), w22.cell? (a27.add (Int.toNat (IntKind.i64.wrap (v26 + 1)) * 4)) = some v28 ∧
 ∃ (v29 : Int), w22.cell? ⟨x3, 0, none⟩ = some (.int .i64 v29) ∧
 ∃ (v30 : Int), w22.cell? ⟨x3, 1, none⟩ = some (.int .i64 v30) ∧
 ∃ (v31 : Int), w22.cell? ⟨x3, 2, none⟩ = some (.int .i64 v31) ∧
 ∃ (v32 : BA), w22.cell? ⟨x3, 3, none⟩ = some (.string v32) ∧
 ∃ (v33 : Int), w22.cell? ⟨x3, 4, none⟩ = some (.int .u8 v33) ∧
 enterE P (callMethod v28 "pub-paratext/pub/rscmarkdown.extend" #[.pointer x0, .agg #[.int .i64 v29, .int .i64 v30, .int .i64 v31, .string v32, .int .u8 v33]]) (fun e w35 => ∃ (r34_0_0 : Int), ∃ (r34_0_1 : Int), ∃ (r34_0_2 : Int), ∃ (r34_0_3 : BA), ∃ (r34_0_4 : Int), ∃ (r34_1 : Bool), e = .returned (.tuple #[.agg #[.int .i64 r34_0_0, .int .i64 r34_0_1, .int .i64 r34_0_2, .string r34_0_3, .int .u8 r34_0_4], .bool r34_1]) ∧
 stV w35 ⟨x3, 0, none⟩ (.int .i64 r34_0_0) fun w36 =>
 stV w36 ⟨x3, 1, none⟩ (.int .i64 r34_0_1) fun w37 =>
 stV w37 ⟨x3, 2, none⟩ (.int .i64 r34_0_2) fun w38 =>
 stV w38 ⟨x3, 3, none⟩ (.string r34_0_3) fun w39 =>
 stV w39 ⟨x3, 4, none⟩ (.int .u8 r34_0_4) fun w40 =>
 callE P i_line_isBlank #[.pointer (some ⟨b15, 0, none⟩)] (fun e w42 => ∃ (r41 : Bool), e = .returned (.bool r41) ∧
 br (!r41)
 (br r34_1
 (k1 R Xa x0 x3 r34_1 true w42)
 (∃ (v43 : Int), w42.cell? ⟨x3, 0, none⟩ = some (.int .i64 v43) ∧
 ∃ (v44 : Int), w42.cell? ⟨x3, 1, none⟩ = some (.int .i64 v44) ∧
 ∃ (v45 : Int), w42.cell? ⟨x3, 2, none⟩ = some (.int .i64 v45) ∧
 ∃ (v46 : BA), w42.cell? ⟨x3, 3, none⟩ = some (.string v46) ∧
 ∃ (v47 : Int), w42.cell? ⟨x3, 4, none⟩ = some (.int .u8 v47) ∧
 ∃ (v48 : Int), w42.cell? ⟨b15, 0, none⟩ = some (.int .i64 v48) ∧
 ∃ (v49 : Int), w42.cell? ⟨b15, 1, none⟩ = some (.int .i64 v49) ∧
 ∃ (v50 : Int), w42.cell? ⟨b15, 2, none⟩ = some (.int .i64 v50) ∧
 ∃ (v51 : BA), w42.cell? ⟨b15, 3, none⟩ = some (.string v51) ∧
 ∃ (v52 : Int), w42.cell? ⟨b15, 4, none⟩ = some (.int .u8 v52) ∧
 ∃ (r53 : Bool), ∃ w54, (do eqGuard .neq ty_line (.tmp 55) (.tmp 56) (.agg #[.int .i64 v43, .int .i64 v44, .int .i64 v45, .string v46, .int .u8 v47]) (.agg #[.int .i64 v48, .int .i64 v49, .int .i64 v50, .string v51, .int .u8 v52]); binOp .neq ty_line (.agg #[.int .i64 v43, .int .i64 v44, .int .i64 v45, .string v46, .int .u8 v47]) (.agg #[.int .i64 v48, .int .i64 v49, .int .i64 v50, .string v51, .int .u8 v52])).run P w42 = .ok (.bool r53) w54 ∧
 k1 R Xa x0 x3 r34_1 r53 w54))
 (k1 R Xa x0 x3 r34_1 false w42)) w40) w22)
 (k2 R x0 x3 w5)
def l1 (R : EP) (x0 : OA) (x3 : Nat) (w : World) : Prop :=
 ∀ X : OA → Nat → WP, (∀ x0 x3 w, bl1 R X x0 x3 w → X x0 x3 w) → X x0 x3 w

noncomputable def al1 (R : EP) (Xa : OA → Nat → WP) : AC :=
 (.seq (.seq (.draw (.pure 0 (.pure 1 (.pure 2 (.pure 5 (.pure 6 (.pure 7 (.load 3 (.pure 4 (.load 8 (.pure 9 (.pure 10 .done))))))))))) (sel [1,0,1,0,0,0,0,0] body)) (.leaf (sel [1,0,1,0,0,0,0,1] body))) (.seq (.block 1 (.seq (.leaf (sel [1,0,1,0,0,0,1,0,0,0] body)) (.seq (.leaf (sel [1,0,1,0,0,0,1,0,0,1,0] body)) (.seq (.draw (.pure 0 (.pure 1 (.pure 2 (.pure 4 (.pure 5 (.pure 6 (.pure 12 (.load 3 (.load 7 (.pure 8 (.pure 9 (.pure 10 (.load 11 (.load 13 (.one 14 (.pure 15 (.pure 16 (.pure 17 (.one 18 (.pure 19 .done)))))))))))))))))))) (sel [1,0,1,0,0,0,1,0,0,1,1,0] body)) (.seq (.seq (.leaf (sel [1,0,1,0,0,0,1,0,0,1,1,1,0,0] body)) (.mark (leaf [(0, .s .ptr), (3, .s .loc), (5, .s .bool), (59, .s .bool)] (k1 R Xa)) (.cond 59 (.draw (.pure 0 (.pure 1 (.pure 2 (.pure 4 (.pure 5 (.pure 6 (.pure 9 (.pure 10 (.pure 11 (.load 3 (.load 7 (.pure 8 (.load 12 (.pure 13 (.pure 14 (.pure 15 (.one 16 .done))))))))))))))))) (sel [1,0,1,0,0,0,1,0,0,1,1,1,0,1,0] body)) (.leaf (sel [1,0,1,0,0,0,1,0,0,1,1,1,0,1,1] body))))) (.leaf (sel [1,0,1,0,0,0,1,0,0,1,1,1,1] body))))))) (.mark (leaf [(0, .s .ptr), (3, .s .loc)] (k3 R Xa)) (.leaf (sel [1,0,1,0,0,0,1,1] body)))))
end g_parseState_addLine
def g_parseState_addLine (R : EP) (x0 : OA) (x1_0 x1_1 x1_2 : Int) (x1_3 : BA) (x1_4 : Int) (w : World) : Prop :=
 box w #[.int .i64 x1_0, .int .i64 x1_1, .int .i64 x1_2, .string x1_3, .int .u8 x1_4] ty_line fun b1 w2 =>
 nilP x0 fun a3 =>
 stV w2 ((a3.add 5).add 0) (.int .i64 0) fun w4 =>
 g_parseState_addLine.l1 R x0 b1 w4

namespace g_parseState_addLine
noncomputable def ac (R : EP) : AC :=
 (.seq (.leaf (sel [0] body)) (.jump 0 (leaf [(0, .s .ptr), (3, .s .loc)] (l102 R)) (.seq (.leaf (sel [1,0,0] body)) (.seq (.block 0 (.loop (leaf [(0, .s .ptr), (3, .s .loc)] (l1 R)) (sel [1,0,1,0,0,0] body))) (.mark (leaf [(0, .s .ptr), (3, .s .loc)] (k2 R)) (.seq (.leaf (sel [1,0,1,1,0] body)) (.seq (.leaf (sel [1,0,1,1,1,0] body)) (.mark (leaf [(0, .s .ptr), (3, .s .loc)] (bl102 R (l102 R))) (al102 R (l102 R))))))))))
theorem good (R : EP) : Good P 113 (ac R) (QF P [] R) :=
 ⟨trivial, ⟨⟨trivial, ⟨(loopG (al1 R) (bl1 R) (fun _ => by kernel_rfl) (fun Xa => ⟨⟨⟨by kernel_rfl, by kernel_rfl, fun _ _ _ h => h⟩, trivial⟩, ⟨⟨trivial, ⟨trivial, ⟨⟨by kernel_rfl, by kernel_rfl, fun _ _ _ h => h⟩, ⟨⟨trivial, ⟨⟨⟨by kernel_rfl, by kernel_rfl, fun _ _ _ h => h⟩, trivial⟩, cutZ⟩⟩, trivial⟩⟩⟩⟩, ⟨trivial, cutZ⟩⟩⟩) (fun Xa => by intro x0 x3 ρ w; kernel_rfl) (fun X h _ _ _ g => g X h)), ⟨⟨trivial, ⟨trivial, ⟨⟨trivial, (loopG (al2 R (l102 R)) (bl2 R (l102 R)) (fun _ => by kernel_rfl) (fun Xc => trivial) (fun Xc => by intro x0 x3 x86q x86n x86c x87 x88 ρ w; kernel_rfl) (fun X h _ _ _ _ _ _ _ _ g => g X h))⟩, trivial⟩, cutZ⟩⟩, cutZ⟩⟩⟩, .seq .skip (sel [1,0,1,1,1,1] body), by kernel_rfl, jumpG (l := 0) (fun X => .seq (.leaf .skip) (al102 R X)) (bl102 R) (by kernel_rfl) (fun _ => by kernel_rfl) (fun Xb => ⟨trivial, ⟨⟨trivial, (loopG (al2 R Xb) (bl2 R Xb) (fun _ => by kernel_rfl) (fun Xc => trivial) (fun Xc => by intro x0 x3 x86q x86n x86c x87 x88 ρ w; kernel_rfl) (fun X h _ _ _ _ _ _ _ _ g => g X h))⟩, trivial⟩⟩) (fun Xb => by intro x0 x3 ρ w; kernel_rfl) (fun X h _ _ _ g => g X h)⟩⟩
theorem eq (R : EP) (x0 : OA) (x1_0 x1_1 x1_2 : Int) (x1_3 : BA) (x1_4 : Int) (w : World) : g_parseState_addLine R x0 x1_0 x1_1 x1_2 x1_3 x1_4 w = vcA P 113 (ac R) (QF P [] R) (fr0 [.pointer x0, .agg #[.int .i64 x1_0, .int .i64 x1_1, .int .i64 x1_2, .string x1_3, .int .u8 x1_4]]) w := by kernel_rfl
theorem sound {R : EP} {x0 : OA} {x1_0 x1_1 x1_2 : Int} {x1_3 : ByteArray} {x1_4 : Int} {w : World} (h : g_parseState_addLine R x0 x1_0 x1_1 x1_2 x1_3 x1_4 w) : callE P i_parseState_addLine #[.pointer x0, .agg #[.int .i64 x1_0, .int .i64 x1_1, .int .i64 x1_2, .string x1_3, .int .u8 x1_4]] R w :=
 callE_fz (c := body) Tryz.func68 Tryz.call68 (good R) (eq R x0 x1_0 x1_1 x1_2 x1_3 x1_4 w) h
end g_parseState_addLine
namespace g_news
noncomputable def body : Code := bodyOf Tryz.f86
end g_news
def g_news (R : EP) (w : World) : Prop :=
 ∃ (r1q : OA), ∃ (r1n : Nat), ∃ (r1c : Nat), ∃ w2, (Instr.buildSlice ty_S_func_P_parseState_line_line_bool 8 #[(0, .func (.func i_newQuote) #[] #[]), (1, .func (.func i_newATXHeading) #[] #[]), (2, .func (.func i_newSetextHeading) #[] #[]), (3, .func (.func i_newHR) #[] #[]), (4, .func (.func i_newListItem) #[] #[]), (5, .func (.func i_newHTML) #[] #[]), (6, .func (.func i_newFence) #[] #[]), (7, .func (.func i_newPre) #[] #[])]).run P w = .ok (.slice r1q r1n r1c) w2 ∧
 R (.returned (.slice r1q r1n r1c)) w2

namespace g_news
noncomputable def ac (R : EP) : AC :=
 (.leaf (sel [] body))
theorem good (R : EP) : Good P 2 (ac R) (QF P [.tmp 0] R) :=
 trivial
theorem eq (R : EP) (w : World) : g_news R w = vcA P 2 (ac R) (QF P [.tmp 0] R) (fr0 []) w := by kernel_rfl
theorem sound {R : EP} {w : World} (h : g_news R w) : callE P i_news #[] R w :=
 callE_fz (c := body) Tryz.func86 Tryz.call86 (good R) (eq R w) h
end g_news
namespace g_newPara
noncomputable def body : Code := bodyOf Tryz.f87
def k5 (R : EP) (x4 : Nat) (x6 : OA) (x8 : BA) (w : World) : Prop :=
 nilP x6 fun a102 =>
 ∃ (v103q : OA), ∃ (v103n : Nat), ∃ (v103c : Nat), w.cell? a102 = some (.slice v103q v103n v103c) ∧
 ∃ (r104q : OA), ∃ (r104n : Nat), ∃ (r104c : Nat), ∃ w105, (Instr.buildSlice ty_S_string 1 #[(0, .string x8)]).run P w = .ok (.slice r104q r104n r104c) w105 ∧
 ∃ (r106q : OA), ∃ (r106n : Nat), ∃ (r106c : Nat), ∃ w107, (Builtin.append_ #[ty_S_string, ty_S_string] ty_S_string #[.slice v103q v103n v103c, .slice r104q r104n r104c]).run P w105 = .ok (.slice r106q r106n r106c) w107 ∧
 nilP x6 fun a108 =>
 stV w107 (a108.add 0) (.slice r106q r106n r106c) fun w109 =>
 stV w109 ⟨x4, 0, none⟩ (.int .i64 0) fun w110 =>
 stV w110 ⟨x4, 1, none⟩ (.int .i64 0) fun w111 =>
 stV w111 ⟨x4, 2, none⟩ (.int .i64 0) fun w112 =>
 stV w112 ⟨x4, 3, none⟩ (.string (ByteArray.mk #[])) fun w113 =>
 stV w113 ⟨x4, 4, none⟩ (.int .u8 0) fun w114 =>
 ∃ (v115 : Int), w114.cell? ⟨x4, 0, none⟩ = some (.int .i64 v115) ∧
 ∃ (v116 : Int), w114.cell? ⟨x4, 1, none⟩ = some (.int .i64 v116) ∧
 ∃ (v117 : Int), w114.cell? ⟨x4, 2, none⟩ = some (.int .i64 v117) ∧
 ∃ (v118 : BA), w114.cell? ⟨x4, 3, none⟩ = some (.string v118) ∧
 ∃ (v119 : Int), w114.cell? ⟨x4, 4, none⟩ = some (.int .u8 v119) ∧
 R (.returned (.tuple #[.agg #[.int .i64 v115, .int .i64 v116, .int .i64 v117, .string v118, .int .u8 v119], .bool true])) w114

def bl1 (R : EP) (Xa : OA → Nat → OA → BA → Int → WP) (x0 : OA) (x4 : Nat) (x6 : OA) (x8 : BA) (x11 : Int) (w : World) : Prop :=
 nilP x0 fun a93 =>
 ∃ (v94q : OA), ∃ (v94n : Nat), ∃ (v94c : Nat), w.cell? (a93.add 4) = some (.slice v94q v94n v94c) ∧
 br (decide (x11 < (v94n : Int)))
 (tk w fun w95 =>
 nilP x0 fun a96 =>
 nilP x0 fun a97 =>
 ∃ (v98q : OA), ∃ (v98n : Nat), ∃ (v98c : Nat), w95.cell? (a96.add 4) = some (.slice v98q v98n v98c) ∧
 ∃ (v99 : Int), w95.cell? (a97.add 3) = some (.int .i64 v99) ∧
 0 ≤ x11 ∧ x11 < (v98n : Int) ∧
 nilP v98q fun a100 =>
 stV w95 ((((a100.add (Int.toNat x11 * 4)).add 2).add 1).add 0) (.int .i64 v99) fun w101 =>
 Xa x0 x4 x6 x8 (IntKind.i64.wrap (x11 + 1)) w101)
 (k5 R x4 x6 x8 w)
def l1 (R : EP) (x0 : OA) (x4 : Nat) (x6 : OA) (x8 : BA) (x11 : Int) (w : World) : Prop :=
 ∀ X : OA → Nat → OA → BA → Int → WP, (∀ x0 x4 x6 x8 x11 w, bl1 R X x0 x4 x6 x8 x11 w → X x0 x4 x6 x8 x11 w) → X x0 x4 x6 x8 x11 w

noncomputable def al1 (R : EP) (Xa : OA → Nat → OA → BA → Int → WP) : AC :=
 (.seq (.leaf (sel [1,1,1,1,1,1,0,1,0,1,0,0,0] body)) (.seq (.block 1 (.draw (.pure 0 (.pure 1 (.pure 2 (.pure 4 (.pure 5 (.pure 6 (.pure 7 (.load 3 (.load 8 (.pure 9 (.pure 10 (.pure 11 (.one 12 .done))))))))))))) (sel [1,1,1,1,1,1,0,1,0,1,0,0,1,0,0] body))) (.leaf (sel [1,1,1,1,1,1,0,1,0,1,0,0,1,1] body))))
def k4 (R : EP) (x0 : OA) (x4 : Nat) (x6 : OA) (x8 : BA) (x88 : Bool) (w : World) : Prop :=
 br x88
 (tk w fun w50 =>
 nilP x6 fun a51 =>
 nilP x6 fun a52 =>
 ∃ (v53q : OA), ∃ (v53n : Nat), ∃ (v53c : Nat), w50.cell? a51 = some (.slice v53q v53n v53c) ∧
 ∃ (v54q : OA), ∃ (v54n : Nat), ∃ (v54c : Nat), w50.cell? a52 = some (.slice v54q v54n v54c) ∧
 0 ≤ (IntKind.i64.wrap ((v54n : Int) - 1)) ∧ (IntKind.i64.wrap ((v54n : Int) - 1)) < (v53n : Int) ∧
 nilP v53q fun a55 =>
 ∃ (v56 : BA), w50.cell? (a55.add (Int.toNat (IntKind.i64.wrap ((v54n : Int) - 1)) * 1)) = some (.string v56) ∧
 tk w50 fun w57 =>
 nilP x6 fun a58 =>
 nilP x6 fun a59 =>
 ∃ (v60q : OA), ∃ (v60n : Nat), ∃ (v60c : Nat), w57.cell? a58 = some (.slice v60q v60n v60c) ∧
 ∃ (v61q : OA), ∃ (v61n : Nat), ∃ (v61c : Nat), w57.cell? a59 = some (.slice v61q v61n v61c) ∧
 ∃ (r62q : OA), ∃ (r62n : Nat), ∃ (r62c : Nat), (∀ w, (Instr.sliceAt ty_S_string (.slice v60q v60n v60c) none (some (.int .i64 (IntKind.i64.wrap ((v61n : Int) - 1)))) none).run P w = .ok (.slice r62q r62n r62c) w) ∧
 nilP x6 fun a63 =>
 stV w57 (a63.add 0) (.slice r62q r62n r62c) fun w64 =>
 box w64 #[.slice none 0 0, .pointer none] ty_paraBuilder fun b65 w66 =>
 callE P i_parseState_addBlock #[.pointer x0, .iface ty_P_paraBuilder (.pointer (some ⟨b65, 0, none⟩))] (fun e w68 => e = .returned (.tuple #[]) ∧
 box w68 #[.string (ByteArray.mk #[]), .string (ByteArray.mk #[]), .slice none 0 0] ty_tableBuilder fun b69 w70 =>
 stV w70 ⟨b65, 1, none⟩ (.pointer (some ⟨b69, 0, none⟩)) fun w71 =>
 ∃ (v72 : OA), w71.cell? ⟨b65, 1, none⟩ = some (.pointer v72) ∧
 callE P i_tableBuilder_start #[.pointer v72, .string v56, .string x8] (fun e w74 => e = .returned (.tuple #[]) ∧
 stV w74 ⟨x4, 0, none⟩ (.int .i64 0) fun w75 =>
 stV w75 ⟨x4, 1, none⟩ (.int .i64 0) fun w76 =>
 stV w76 ⟨x4, 2, none⟩ (.int .i64 0) fun w77 =>
 stV w77 ⟨x4, 3, none⟩ (.string (ByteArray.mk #[])) fun w78 =>
 stV w78 ⟨x4, 4, none⟩ (.int .u8 0) fun w79 =>
 ∃ (v80 : Int), w79.cell? ⟨x4, 0, none⟩ = some (.int .i64 v80) ∧
 ∃ (v81 : Int), w79.cell? ⟨x4, 1, none⟩ = some (.int .i64 v81) ∧
 ∃ (v82 : Int), w79.cell? ⟨x4, 2, none⟩ = some (.int .i64 v82) ∧
 ∃ (v83 : BA), w79.cell? ⟨x4, 3, none⟩ = some (.string v83) ∧
 ∃ (v84 : Int), w79.cell? ⟨x4, 4, none⟩ = some (.int .u8 v84) ∧
 R (.returned (.tuple #[.agg #[.int .i64 v80, .int .i64 v81, .int .i64 v82, .string v83, .int .u8 v84], .bool true])) w79) w71) w66)
 (∃ (r85 : Bool), ∃ w86, (do eqGuard .neq ty_P_paraBuilder (.tmp 132) (.const (.pointer none)) (.pointer x6) (.pointer none); binOp .neq ty_P_paraBuilder (.pointer x6) (.pointer none)).run P w = .ok (.bool r85) w86 ∧
 br r85
 (nilP x0 fun a87 =>
 ∃ (v88 : Int), w86.cell? (a87.add 5) = some (.int .i64 v88) ∧
 l1 R x0 x4 x6 x8 v88 w86)
 (box w86 #[.slice none 0 0, .pointer none] ty_paraBuilder fun b89 w90 =>
 callE P i_parseState_addBlock #[.pointer x0, .iface ty_P_paraBuilder (.pointer (some ⟨b89, 0, none⟩))] (fun e w92 => e = .returned (.tuple #[]) ∧
 k5 R x4 (some ⟨b89, 0, none⟩) x8 w92) w90))

def k3 (R : EP) (x0 : OA) (x4 : Nat) (x6 : OA) (x7 : Bool) (x8 : BA) (w : World) : Prop :=
 tk w fun w34 =>
 nilP x0 fun a35 =>
 ∃ (v36 : OA), w34.cell? a35 = some (.pointer v36) ∧
 nilP v36 fun a37 =>
 ∃ (v38 : Bool), w34.cell? (a37.add 5) = some (.bool v38) ∧
 br v38
 (∃ (r39 : Bool), (∀ w, (do eqGuard .neq ty_P_paraBuilder (.tmp 59) (.const (.pointer none)) (.pointer x6) (.pointer none); binOp .neq ty_P_paraBuilder (.pointer x6) (.pointer none)).run P w = .ok (.bool r39) w) ∧
 br r39
 (br x7
 (nilP x6 fun a40 =>
 ∃ (v41q : OA), ∃ (v41n : Nat), ∃ (v41c : Nat), w34.cell? a40 = some (.slice v41q v41n v41c) ∧
 br (decide ((v41n : Int) > 0))
 (nilP x6 fun a42 =>
 nilP x6 fun a43 =>
 ∃ (v44q : OA), ∃ (v44n : Nat), ∃ (v44c : Nat), w34.cell? a42 = some (.slice v44q v44n v44c) ∧
 ∃ (v45q : OA), ∃ (v45n : Nat), ∃ (v45c : Nat), w34.cell? a43 = some (.slice v45q v45n v45c) ∧
 0 ≤ (IntKind.i64.wrap ((v45n : Int) - 1)) ∧ (IntKind.i64.wrap ((v45n : Int) - 1)) < (v44n : Int) ∧
 nilP v44q fun a46 =>
 ∃ (v47 : BA), w34.cell? (a46.add (Int.toNat (IntKind.i64.wrap ((v45n : Int) - 1)) * 1)) = some (.string v47) ∧
 callE P i_isTableStart #[.string v47, .string x8] (fun e w49 => ∃ (r48 : Bool), e = .returned (.bool r48) ∧
 k4 R x0 x4 x6 x8 r48 w49) w34)
 (k4 R x0 x4 x6 x8 false w34))
 (k4 R x0 x4 x6 x8 false w34))
 (k4 R x0 x4 x6 x8 false w34))
 (k4 R x0 x4 x6 x8 false w34)

def k2 (R : EP) (x0 : OA) (x4 : Nat) (x6 : OA) (x7 : Bool) (x8 : BA) (x43 : Bool) (w : World) : Prop :=
 br x43
 (nilP x6 fun a20 =>
 ∃ (v21 : OA), w.cell? (a20.add 1) = some (.pointer v21) ∧
 callE P i_tableBuilder_addRow #[.pointer v21, .string x8] (fun e w23 => e = .returned (.tuple #[]) ∧
 stV w23 ⟨x4, 0, none⟩ (.int .i64 0) fun w24 =>
 stV w24 ⟨x4, 1, none⟩ (.int .i64 0) fun w25 =>
 stV w25 ⟨x4, 2, none⟩ (.int .i64 0) fun w26 =>
 stV w26 ⟨x4, 3, none⟩ (.string (ByteArray.mk #[])) fun w27 =>
 stV w27 ⟨x4, 4, none⟩ (.int .u8 0) fun w28 =>
 ∃ (v29 : Int), w28.cell? ⟨x4, 0, none⟩ = some (.int .i64 v29) ∧
 ∃ (v30 : Int), w28.cell? ⟨x4, 1, none⟩ = some (.int .i64 v30) ∧
 ∃ (v31 : Int), w28.cell? ⟨x4, 2, none⟩ = some (.int .i64 v31) ∧
 ∃ (v32 : BA), w28.cell? ⟨x4, 3, none⟩ = some (.string v32) ∧
 ∃ (v33 : Int), w28.cell? ⟨x4, 4, none⟩ = some (.int .u8 v33) ∧
 R (.returned (.tuple #[.agg #[.int .i64 v29, .int .i64 v30, .int .i64 v31, .string v32, .int .u8 v33], .bool true])) w28) w)
 (k3 R x0 x4 none x7 x8 w)

def k1 (R : EP) (x0 : OA) (x4 : Nat) (x6 : OA) (x7 : Bool) (x8 : BA) (x34 : Bool) (w : World) : Prop :=
 br x34
 (k2 R x0 x4 x6 x7 x8 ((x7 && (!(x8.toList == (ByteArray.mk #[]).toList))) && (!(x8.toList == (ByteArray.mk #[124]).toList))) w)
 (k3 R x0 x4 x6 x7 x8 w)

end g_newPara
def g_newPara (R : EP) (x0 : OA) (x1_0 x1_1 x1_2 : Int) (x1_3 : BA) (x1_4 : Int) (w : World) : Prop :=
 box w #[.int .i64 x1_0, .int .i64 x1_1, .int .i64 x1_2, .string x1_3, .int .u8 x1_4] ty_line fun b1 w2 =>
 box w2 #[.int .i64 0, .int .i64 0, .int .i64 0, .string (ByteArray.mk #[]), .int .u8 0] ty_line fun b3 w4 =>
 callE P i_parseState_para #[.pointer x0] (fun e w6 => ∃ (r5 : OA), e = .returned (.pointer r5) ∧
 tk w6 fun w7 =>
 nilP x0 fun a8 =>
 nilP x0 fun a9 =>
 ∃ (v10 : Int), w7.cell? (a8.add 5) = some (.int .i64 v10) ∧
 ∃ (v11q : OA), ∃ (v11n : Nat), ∃ (v11c : Nat), w7.cell? (a9.add 4) = some (.slice v11q v11n v11c) ∧
 callE P i_line_trimSpaceString #[.pointer (some ⟨b1, 0, none⟩)] (fun e w13 => ∃ (r12 : BA), e = .returned (.string r12) ∧
 ∃ (r14 : Bool), ∃ w15, (do eqGuard .neq ty_P_paraBuilder (.tmp 26) (.const (.pointer none)) (.pointer r5) (.pointer none); binOp .neq ty_P_paraBuilder (.pointer r5) (.pointer none)).run P w13 = .ok (.bool r14) w15 ∧
 br r14
 (nilP r5 fun a16 =>
 ∃ (v17 : OA), w15.cell? (a16.add 1) = some (.pointer v17) ∧
 ∃ (r18 : Bool), ∃ w19, (do eqGuard .neq ty_P_tableBuilder (.tmp 32) (.const (.pointer none)) (.pointer v17) (.pointer none); binOp .neq ty_P_tableBuilder (.pointer v17) (.pointer none)).run P w15 = .ok (.bool r18) w19 ∧
 g_newPara.k1 R x0 b3 r5 (v10 == (IntKind.i64.wrap ((v11n : Int) - 2))) r12 r18 w19)
 (g_newPara.k1 R x0 b3 r5 (v10 == (IntKind.i64.wrap ((v11n : Int) - 2))) r12 false w15)) w7) w4

namespace g_newPara
noncomputable def ac (R : EP) : AC :=
 (.seq (.leaf (sel [0] body)) (.seq (.leaf (sel [1,0] body)) (.seq (.draw (.pure 0 (.pure 1 (.pure 2 (.pure 4 (.pure 5 (.pure 6 (.load 3 (.load 7 (.pure 8 (.pure 9 (.pure 10 (.pure 11 .done)))))))))))) (sel [1,1,0] body)) (.seq (.leaf (sel [1,1,1,0] body)) (.seq (.seq (.leaf (sel [1,1,1,1,0,0] body)) (.mark (leaf [(0, .s .ptr), (4, .s .loc), (6, .s .ptr), (7, .s .bool), (8, .s .str), (34, .s .bool)] (k1 R)) (.cond 34 (.seq (.seq (.leaf (sel [1,1,1,1,0,1,0,0,0] body)) (.mark (leaf [(0, .s .ptr), (4, .s .loc), (6, .s .ptr), (7, .s .bool), (8, .s .str), (43, .s .bool)] (k2 R)) (.leaf (sel [1,1,1,1,0,1,0,0,1] body)))) (.leaf (sel [1,1,1,1,0,1,0,1] body))) (.leaf (sel [1,1,1,1,0,1,1] body))))) (.mark (leaf [(0, .s .ptr), (4, .s .loc), (6, .s .ptr), (7, .s .bool), (8, .s .str)] (k3 R)) (.seq (.seq (.draw (.pure 0 (.pure 1 (.pure 2 (.load 3 (.pure 4 (.pure 5 (.load 6 (.pure 7 (.pure 8 (.pure 9 (.pure 10 (.pure 11 (.pure 12 (.pure 13 (.pure 14 (.pure 15 (.pure 16 (.pure 17 (.load 18 (.pure 19 (.pure 20 (.pure 21 (.pure 22 (.pure 23 (.pure 24 (.pure 25 (.pure 27 (.pure 28 (.pure 29 (.pure 35 (.load 26 (.load 30 (.pure 31 (.pure 32 (.pure 33 (.load 34 (.one 36 (.pure 37 .done)))))))))))))))))))))))))))))))))))))) (sel [1,1,1,1,1,0,0] body)) (.mark (leaf [(0, .s .ptr), (4, .s .loc), (6, .s .ptr), (8, .s .str), (88, .s .bool)] (k4 R)) (.cond 88 (.seq (.draw (.pure 0 (.pure 1 (.pure 2 (.pure 4 (.pure 5 (.pure 6 (.load 3 (.load 7 (.pure 8 (.pure 9 (.pure 10 (.load 11 (.pure 12 .done))))))))))))) (sel [1,1,1,1,1,0,1,0,0] body)) (.seq (.draw (.pure 0 (.pure 1 (.pure 2 (.pure 3 (.pure 5 (.pure 6 (.pure 7 (.load 4 (.load 8 (.pure 9 (.pure 10 (.pure 11 (.pure 12 (.pure 13 (.one 14 .done))))))))))))))) (sel [1,1,1,1,1,0,1,0,1,0] body)) (.leaf (sel [1,1,1,1,1,0,1,0,1,1] body)))) (.leaf (sel [1,1,1,1,1,0,1,1] body))))) (.seq (.seq (.leaf (sel [1,1,1,1,1,1,0,0] body)) (.cond 133 (.seq (.leaf (sel [1,1,1,1,1,1,0,1,0,0] body)) (.block 0 (.loop (leaf [(0, .s .ptr), (4, .s .loc), (6, .s .ptr), (8, .s .str), (11, .s (.int .i64))] (l1 R)) (sel [1,1,1,1,1,1,0,1,0,1,0,0] body)))) (.leaf (sel [1,1,1,1,1,1,0,1,1] body)))) (.mark (leaf [(4, .s .loc), (6, .s .ptr), (8, .s .str)] (k5 R)) (.leaf (sel [1,1,1,1,1,1,1] body)))))))))))
theorem good (R : EP) : Good P 175 (ac R) (QF P [.cell 4 159, .tmp 5] R) :=
 ⟨trivial, ⟨trivial, ⟨⟨by kernel_rfl, by kernel_rfl, fun _ _ _ h => h⟩, ⟨trivial, ⟨⟨trivial, ⟨⟨⟨⟨trivial, ⟨trivial, cutZ⟩⟩, trivial⟩, trivial⟩, cutZ⟩⟩, ⟨⟨⟨⟨by kernel_rfl, by kernel_rfl, fun _ _ _ h => h⟩, ⟨⟨⟨⟨by kernel_rfl, by kernel_rfl, fun _ _ _ h => h⟩, ⟨⟨by kernel_rfl, by kernel_rfl, fun _ _ _ h => h⟩, trivial⟩⟩, trivial⟩, cutZ⟩⟩, ⟨⟨trivial, ⟨⟨trivial, (loopG (al1 R) (bl1 R) (fun _ => by kernel_rfl) (fun Xa => ⟨trivial, ⟨⟨by kernel_rfl, by kernel_rfl, fun _ _ _ h => h⟩, trivial⟩⟩) (fun Xa => by intro x0 x4 x6 x8 x11 ρ w; kernel_rfl) (fun X h _ _ _ _ _ _ g => g X h))⟩, trivial⟩⟩, ⟨trivial, cutZ⟩⟩⟩, cutZ⟩⟩⟩⟩⟩⟩
theorem eq (R : EP) (x0 : OA) (x1_0 x1_1 x1_2 : Int) (x1_3 : BA) (x1_4 : Int) (w : World) : g_newPara R x0 x1_0 x1_1 x1_2 x1_3 x1_4 w = vcA P 175 (ac R) (QF P [.cell 4 159, .tmp 5] R) (fr0 [.pointer x0, .agg #[.int .i64 x1_0, .int .i64 x1_1, .int .i64 x1_2, .string x1_3, .int .u8 x1_4]]) w := by kernel_rfl
theorem sound {R : EP} {x0 : OA} {x1_0 x1_1 x1_2 : Int} {x1_3 : ByteArray} {x1_4 : Int} {w : World} (h : g_newPara R x0 x1_0 x1_1 x1_2 x1_3 x1_4 w) : callE P i_newPara #[.pointer x0, .agg #[.int .i64 x1_0, .int .i64 x1_1, .int .i64 x1_2, .string x1_3, .int .u8 x1_4]] R w :=
 callE_fz (c := body) Tryz.func87 Tryz.call87 (good R) (eq R x0 x1_0 x1_1 x1_2 x1_3 x1_4 w) h
end g_newPara
namespace g_newPre
noncomputable def body : Code := bodyOf Tryz.f131
def k2 (R : EP) (x4 x6 : Nat) (x7 : OA) (w : World) : Prop :=
 tk w fun w51 =>
 nilP x7 fun a52 =>
 ∃ (v53q : OA), ∃ (v53n : Nat), ∃ (v53c : Nat), w51.cell? (a52.add 1) = some (.slice v53q v53n v53c) ∧
 callE P i_line_string #[.pointer (some ⟨x6, 0, none⟩)] (fun e w55 => ∃ (r54 : BA), e = .returned (.string r54) ∧
 SameC w51 w55 (a52.add 1) 1 ∧
 ∃ (r56q : OA), ∃ (r56n : Nat), ∃ (r56c : Nat), ∃ w57, (Instr.buildSlice ty_S_string 1 #[(0, .string r54)]).run P w55 = .ok (.slice r56q r56n r56c) w57 ∧
 SameC w55 w57 (a52.add 1) 1 ∧
 ∃ (r58q : OA), ∃ (r58n : Nat), ∃ (r58c : Nat), ∃ w59, (Builtin.append_ #[ty_S_string, ty_S_string] ty_S_string #[.slice v53q v53n v53c, .slice r56q r56n r56c]).run P w57 = .ok (.slice r58q r58n r58c) w59 ∧
 nilP x7 fun a60 =>
 stV w59 ((a60.add 1).add 0) (.slice r58q r58n r58c) fun w61 =>
 stV w61 ⟨x4, 0, none⟩ (.int .i64 0) fun w62 =>
 stV w62 ⟨x4, 1, none⟩ (.int .i64 0) fun w63 =>
 stV w63 ⟨x4, 2, none⟩ (.int .i64 0) fun w64 =>
 stV w64 ⟨x4, 3, none⟩ (.string (ByteArray.mk #[])) fun w65 =>
 stV w65 ⟨x4, 4, none⟩ (.int .u8 0) fun w66 =>
 ∃ (v67 : Int), w66.cell? ⟨x4, 0, none⟩ = some (.int .i64 v67) ∧
 ∃ (v68 : Int), w66.cell? ⟨x4, 1, none⟩ = some (.int .i64 v68) ∧
 ∃ (v69 : Int), w66.cell? ⟨x4, 2, none⟩ = some (.int .i64 v69) ∧
 ∃ (v70 : BA), w66.cell? ⟨x4, 3, none⟩ = some (.string v70) ∧
 ∃ (v71 : Int), w66.cell? ⟨x4, 4, none⟩ = some (.int .u8 v71) ∧
 R (.returned (.tuple #[.agg #[.int .i64 v67, .int .i64 v68, .int .i64 v69, .string v70, .int .u8 v71], .bool true])) w66) w51

def k1 (R : EP) (x0 : OA) (x3 x4 x6 : Nat) (x18 : Bool) (w : World) : Prop :=
 br x18
 (box w #[.string (ByteArray.mk #[]), .slice none 0 0] ty_preBuilder fun b25 w26 =>
 callE P i_parseState_addBlock #[.pointer x0, .iface ty_P_preBuilder (.pointer (some ⟨b25, 0, none⟩))] (fun e w28 => e = .returned (.tuple #[]) ∧
 nilP x0 fun a29 =>
 ∃ (v30 : Bool), w28.cell? (a29.add 6) = some (.bool v30) ∧
 br v30
 (nilP x0 fun a31 =>
 stV w28 ((a31.add 6).add 0) (.bool true) fun w32 =>
 k2 R x4 x6 (some ⟨b25, 0, none⟩) w32)
 (∃ (v33 : Int), w28.cell? ⟨x6, 4, none⟩ = some (.int .u8 v33) ∧
 nilP x0 fun a34 =>
 stV w28 ((a34.add 6).add 0) (.bool (v33 != 10)) fun w35 =>
 k2 R x4 x6 (some ⟨b25, 0, none⟩) w35)) w26)
 (∃ (v36 : Int), w.cell? ⟨x3, 0, none⟩ = some (.int .i64 v36) ∧
 ∃ (v37 : Int), w.cell? ⟨x3, 1, none⟩ = some (.int .i64 v37) ∧
 ∃ (v38 : Int), w.cell? ⟨x3, 2, none⟩ = some (.int .i64 v38) ∧
 ∃ (v39 : BA), w.cell? ⟨x3, 3, none⟩ = some (.string v39) ∧
 ∃ (v40 : Int), w.cell? ⟨x3, 4, none⟩ = some (.int .u8 v40) ∧
 stV w ⟨x4, 0, none⟩ (.int .i64 v36) fun w41 =>
 stV w41 ⟨x4, 1, none⟩ (.int .i64 v37) fun w42 =>
 stV w42 ⟨x4, 2, none⟩ (.int .i64 v38) fun w43 =>
 stV w43 ⟨x4, 3, none⟩ (.string v39) fun w44 =>
 stV w44 ⟨x4, 4, none⟩ (.int .u8 v40) fun w45 =>
 ∃ (v46 : Int), w45.cell? ⟨x4, 0, none⟩ = some (.int .i64 v46) ∧
 ∃ (v47 : Int), w45.cell? ⟨x4, 1, none⟩ = some (.int .i64 v47) ∧
 ∃ (v48 : Int), w45.cell? ⟨x4, 2, none⟩ = some (.int .i64 v48) ∧
 ∃ (v49 : BA), w45.cell? ⟨x4, 3, none⟩ = some (.string v49) ∧
 ∃ (v50 : Int), w45.cell? ⟨x4, 4, none⟩ = some (.int .u8 v50) ∧
 R (.returned (.tuple #[.agg #[.int .i64 v46, .int .i64 v47, .int .i64 v48, .string v49, .int .u8 v50], .bool false])) w45)

end g_newPre
def g_newPre (R : EP) (x0 : OA) (x1_0 x1_1 x1_2 : Int) (x1_3 : BA) (x1_4 : Int) (w : World) : Prop :=
 box w #[.int .i64 x1_0, .int .i64 x1_1, .int .i64 x1_2, .string x1_3, .int .u8 x1_4] ty_line fun b1 w2 =>
 box w2 #[.int .i64 0, .int .i64 0, .int .i64 0, .string (ByteArray.mk #[]), .int .u8 0] ty_line fun b3 w4 =>
 ∃ (v5 : Int), w4.cell? ⟨b1, 0, none⟩ = some (.int .i64 v5) ∧
 ∃ (v6 : Int), w4.cell? ⟨b1, 1, none⟩ = some (.int .i64 v6) ∧
 ∃ (v7 : Int), w4.cell? ⟨b1, 2, none⟩ = some (.int .i64 v7) ∧
 ∃ (v8 : BA), w4.cell? ⟨b1, 3, none⟩ = some (.string v8) ∧
 ∃ (v9 : Int), w4.cell? ⟨b1, 4, none⟩ = some (.int .u8 v9) ∧
 box w4 #[.int .i64 0, .int .i64 0, .int .i64 0, .string (ByteArray.mk #[]), .int .u8 0] ty_line fun b10 w11 =>
 stV w11 ⟨b10, 0, none⟩ (.int .i64 v5) fun w12 =>
 stV w12 ⟨b10, 1, none⟩ (.int .i64 v6) fun w13 =>
 stV w13 ⟨b10, 2, none⟩ (.int .i64 v7) fun w14 =>
 stV w14 ⟨b10, 3, none⟩ (.string v8) fun w15 =>
 stV w15 ⟨b10, 4, none⟩ (.int .u8 v9) fun w16 =>
 callE P i_parseState_para #[.pointer x0] (fun e w18 => ∃ (r17 : OA), e = .returned (.pointer r17) ∧
 ∃ (r19 : Bool), ∃ w20, (do eqGuard .eql ty_P_paraBuilder (.tmp 10) (.const (.pointer none)) (.pointer r17) (.pointer none); binOp .eql ty_P_paraBuilder (.pointer r17) (.pointer none)).run P w18 = .ok (.bool r19) w20 ∧
 br r19
 (callE P i_line_trimSpace #[.pointer (some ⟨b10, 0, none⟩), .int .i64 4, .int .i64 4, .bool false] (fun e w22 => ∃ (r21 : Bool), e = .returned (.bool r21) ∧
 br r21
 (callE P i_line_isBlank #[.pointer (some ⟨b10, 0, none⟩)] (fun e w24 => ∃ (r23 : Bool), e = .returned (.bool r23) ∧
 g_newPre.k1 R x0 b1 b3 b10 (!r23) w24) w22)
 (g_newPre.k1 R x0 b1 b3 b10 false w22)) w20)
 (g_newPre.k1 R x0 b1 b3 b10 false w20)) w16

namespace g_newPre
noncomputable def ac (R : EP) : AC :=
 (.seq (.leaf (sel [0] body)) (.seq (.leaf (sel [1,0] body)) (.seq (.seq (.leaf (sel [1,1,0,0] body)) (.mark (leaf [(0, .s .ptr), (3, .s .loc), (4, .s .loc), (6, .s .loc), (18, .s .bool)] (k1 R)) (.cond 18 (.seq (.leaf (sel [1,1,0,1,0,0] body)) (.seq (.leaf (sel [1,1,0,1,0,1,0] body)) (.seq (.leaf (sel [1,1,0,1,0,1,1,0] body)) (.mark (leaf [(4, .s .loc), (6, .s .loc), (7, .s .ptr)] (k2 R)) (.seq (.draw (.pure 0 (.pure 1 (.pure 2 (.pure 3 (.load 4 (.one 5 (.one 6 (.one 7 (.pure 8 (.pure 9 (.one 10 .done))))))))))) (sel [1,1,0,1,0,1,1,1,0] body)) (.leaf (sel [1,1,0,1,0,1,1,1,1] body))))))) (.leaf (sel [1,1,0,1,1] body))))) (.leaf (sel [1,1,1] body)))))
theorem good (R : EP) : Good P 49 (ac R) (QF P [.cell 4 159, .tmp 5] R) :=
 ⟨trivial, ⟨trivial, ⟨⟨trivial, ⟨⟨⟨trivial, ⟨trivial, ⟨trivial, ⟨⟨⟨by kernel_rfl, by kernel_rfl, fun _ _ _ h => h⟩, trivial⟩, cutZ⟩⟩⟩⟩, trivial⟩, cutZ⟩⟩, trivial⟩⟩⟩
theorem eq (R : EP) (x0 : OA) (x1_0 x1_1 x1_2 : Int) (x1_3 : BA) (x1_4 : Int) (w : World) : g_newPre R x0 x1_0 x1_1 x1_2 x1_3 x1_4 w = vcA P 49 (ac R) (QF P [.cell 4 159, .tmp 5] R) (fr0 [.pointer x0, .agg #[.int .i64 x1_0, .int .i64 x1_1, .int .i64 x1_2, .string x1_3, .int .u8 x1_4]]) w := by kernel_rfl
theorem sound {R : EP} {x0 : OA} {x1_0 x1_1 x1_2 : Int} {x1_3 : ByteArray} {x1_4 : Int} {w : World} (h : g_newPre R x0 x1_0 x1_1 x1_2 x1_3 x1_4 w) : callE P i_newPre #[.pointer x0, .agg #[.int .i64 x1_0, .int .i64 x1_1, .int .i64 x1_2, .string x1_3, .int .u8 x1_4]] R w :=
 callE_fz (c := body) Tryz.func131 Tryz.call131 (good R) (eq R x0 x1_0 x1_1 x1_2 x1_3 x1_4 w) h
end g_newPre
namespace g_line_trimFence
noncomputable def body : Code := bodyOf Tryz.f190
def k1 (R : EP) (Xa : OA → OA → OA → OA → Nat → WP) (x0 x1 : OA) (x2 x3 : OA) (x9 : Nat) (w : World) : Prop :=
 nilP x3 fun a20 =>
 ∃ (v21 : Int), w.cell? a20 = some (.int .i64 v21) ∧
 nilP x3 fun a22 =>
 stV w (a22.add 0) (.int .i64 (IntKind.i64.wrap (v21 + 1))) fun w23 =>
 Xa x0 x1 x2 x3 x9 w23

def k4 (R : EP) (x0 x1 x2 : OA) (x11 : BA) (x12 : Int) (x14 : BA) (w : World) : Prop :=
 callE P i_trimSpaceTab #[.string x14] (fun e w37 => ∃ (r36 : BA), e = .returned (.string r36) ∧
 nilP x2 fun a38 =>
 stV w37 (a38.add 0) (.string r36) fun w39 =>
 0 ≤ x12 ∧ x12 ≤ (x11.size : Int) ∧
 nilP x1 fun a40 =>
 stV w39 (a40.add 0) (.string (x11.extract 0 (Int.toNat x12))) fun w41 =>
 nilP x0 fun a42 =>
 stV w41 (a42.add 0) (.int .i64 0) fun w43 =>
 stV w43 (a42.add 1) (.int .i64 0) fun w44 =>
 stV w44 (a42.add 2) (.int .i64 0) fun w45 =>
 stV w45 (a42.add 3) (.string (ByteArray.mk #[])) fun w46 =>
 stV w46 (a42.add 4) (.int .u8 0) fun w47 =>
 R (.returned (.bool true)) w47) w

def bl2 (R : EP) (Xb : OA → OA → OA → Nat → Int → BA → Int → Int → WP) (x0 x1 x2 : OA) (x9 : Nat) (x10 : Int) (x11 : BA) (x12 x13 : Int) (w : World) : Prop :=
 callE P i_line_trim #[.pointer (some ⟨x9, 0, none⟩), .int .u8 x10] (fun e w29 => ∃ (r28 : Bool), e = .returned (.bool r28) ∧
 br (!r28)
 (br (decide (x13 ≥ 3))
 (callE P i_line_trimString #[.pointer (some ⟨x9, 0, none⟩)] (fun e w31 => ∃ (r30 : BA), e = .returned (.string r30) ∧
 callE P i_mdUnescaper_Replace #[.agg #[], .string r30] (fun e w33 => ∃ (r32 : BA), e = .returned (.string r32) ∧
 br (x10 == 96)
 (callE P i_zzContains #[.string r32, .string (ByteArray.mk #[96])] (fun e w35 => ∃ (r34 : Bool), e = .returned (.bool r34) ∧
 br r34
 (R (.returned (.bool false)) w35)
 (k4 R x0 x1 x2 x11 x12 r32 w35)) w33)
 (k4 R x0 x1 x2 x11 x12 r32 w33)) w31) w29)
 (R (.returned (.bool false)) w29))
 (Xb x0 x1 x2 x9 x10 x11 (IntKind.i64.wrap (x12 + 1)) (IntKind.i64.wrap (x13 + 1)) w29)) w
def l2 (R : EP) (x0 x1 x2 : OA) (x9 : Nat) (x10 : Int) (x11 : BA) (x12 x13 : Int) (w : World) : Prop :=
 ∀ X : OA → OA → OA → Nat → Int → BA → Int → Int → WP, (∀ x0 x1 x2 x9 x10 x11 x12 x13 w, bl2 R X x0 x1 x2 x9 x10 x11 x12 x13 w → X x0 x1 x2 x9 x10 x11 x12 x13 w) → X x0 x1 x2 x9 x10 x11 x12 x13 w

noncomputable def al2 (R : EP) (Xb : OA → OA → OA → Nat → Int → BA → Int → Int → WP) : AC :=
 (.leaf (sel [1,1,1,1,0,1,1,0,1,0,1,1,0,1,0,0] body))
def k3 (R : EP) (x0 x1 x2 : OA) (x9 : Nat) (x10 : Int) (x34 : Bool) (w : World) : Prop :=
 br x34
 (callE P i_line_string #[.pointer (some ⟨x9, 0, none⟩)] (fun e w27 => ∃ (r26 : BA), e = .returned (.string r26) ∧
 l2 R x0 x1 x2 x9 x10 r26 0 0 w27) w)
 (R (.returned (.bool false)) w)

def k2 (R : EP) (x0 x1 x2 : OA) (x9 : Nat) (w : World) : Prop :=
 callE P i_line_peek #[.pointer (some ⟨x9, 0, none⟩)] (fun e w25 => ∃ (r24 : Int), e = .returned (.int .u8 r24) ∧
 br (r24 == 96)
 (k3 R x0 x1 x2 x9 r24 true w25)
 (k3 R x0 x1 x2 x9 r24 (r24 == 126) w25)) w

def bl1 (R : EP) (Xa : OA → OA → OA → OA → Nat → WP) (x0 x1 : OA) (x2 x3 : OA) (x9 : Nat) (w : World) : Prop :=
 nilP x3 fun a16 =>
 ∃ (v17 : Int), w.cell? a16 = some (.int .i64 v17) ∧
 br (decide (v17 < 3))
 (callE P i_line_trimSpace #[.pointer (some ⟨x9, 0, none⟩), .int .i64 1, .int .i64 1, .bool false] (fun e w19 => ∃ (r18 : Bool), e = .returned (.bool r18) ∧
 br r18
 (k1 R Xa x0 x1 x2 x3 x9 w19)
 (k2 R x0 x1 x2 x9 w19)) w)
 (k2 R x0 x1 x2 x9 w)
def l1 (R : EP) (x0 x1 : OA) (x2 x3 : OA) (x9 : Nat) (w : World) : Prop :=
 ∀ X : OA → OA → OA → OA → Nat → WP, (∀ x0 x1 x2 x3 x9 w, bl1 R X x0 x1 x2 x3 x9 w → X x0 x1 x2 x3 x9 w) → X x0 x1 x2 x3 x9 w

noncomputable def al1 (R : EP) (Xa : OA → OA → OA → OA → Nat → WP) : AC :=
 (.seq (.leaf (sel [1,1,1,0,0,0,0] body)) (.mark (leaf [(0, .s .ptr), (1, .s .ptr), (2, .s .ptr), (3, .s .ptr), (9, .s .loc)] (k1 R Xa)) (.leaf (sel [1,1,1,0,0,0,1] body))))
end g_line_trimFence
def g_line_trimFence (R : EP) (x0 x1 : OA) (x2 x3 : OA) (w : World) : Prop :=
 nilP x0 fun a1 =>
 ∃ (v2 : Int), w.cell? (a1.add 0) = some (.int .i64 v2) ∧
 ∃ (v3 : Int), w.cell? (a1.add 1) = some (.int .i64 v3) ∧
 ∃ (v4 : Int), w.cell? (a1.add 2) = some (.int .i64 v4) ∧
 ∃ (v5 : BA), w.cell? (a1.add 3) = some (.string v5) ∧
 ∃ (v6 : Int), w.cell? (a1.add 4) = some (.int .u8 v6) ∧
 box w #[.int .i64 0, .int .i64 0, .int .i64 0, .string (ByteArray.mk #[]), .int .u8 0] ty_line fun b7 w8 =>
 stV w8 ⟨b7, 0, none⟩ (.int .i64 v2) fun w9 =>
 stV w9 ⟨b7, 1, none⟩ (.int .i64 v3) fun w10 =>
 stV w10 ⟨b7, 2, none⟩ (.int .i64 v4) fun w11 =>
 stV w11 ⟨b7, 3, none⟩ (.string v5) fun w12 =>
 stV w12 ⟨b7, 4, none⟩ (.int .u8 v6) fun w13 =>
 nilP x3 fun a14 =>
 stV w13 (a14.add 0) (.int .i64 0) fun w15 =>
 g_line_trimFence.l1 R x0 x1 x2 x3 b7 w15

namespace g_line_trimFence
noncomputable def ac (R : EP) : AC :=
 (.seq (.leaf (sel [0] body)) (.seq (.leaf (sel [1,0] body)) (.seq (.leaf (sel [1,1,0] body)) (.seq (.block 0 (.loop (leaf [(0, .s .ptr), (1, .s .ptr), (2, .s .ptr), (3, .s .ptr), (9, .s .loc)] (l1 R)) (sel [1,1,1,0,0,0] body))) (.mark (leaf [(0, .s .ptr), (1, .s .ptr), (2, .s .ptr), (9, .s .loc)] (k2 R)) (.seq (.seq (.leaf (sel [1,1,1,1,0,0] body)) (.seq (.leaf (sel [1,1,1,1,0,1,0] body)) (.block 2 (.seq (.leaf (sel [1,1,1,1,0,1,1,0,0] body)) (.mark (leaf [(0, .s .ptr), (1, .s .ptr), (2, .s .ptr), (9, .s .loc), (10, .s (.int .u8)), (34, .s .bool)] (k3 R)) (.cond 34 (.seq (.leaf (sel [1,1,1,1,0,1,1,0,1,0,0] body)) (.seq (.leaf (sel [1,1,1,1,0,1,1,0,1,0,1,0] body)) (.seq (.seq (.leaf (sel [1,1,1,1,0,1,1,0,1,0,1,1,0,0] body)) (.block 3 (.loop (leaf [(0, .s .ptr), (1, .s .ptr), (2, .s .ptr), (9, .s .loc), (10, .s (.int .u8)), (11, .s .str), (12, .s (.int .i64)), (13, .s (.int .i64))] (l2 R)) (sel [1,1,1,1,0,1,1,0,1,0,1,1,0,1,0,0] body)))) (.seq (.leaf (sel [1,1,1,1,0,1,1,0,1,0,1,1,1,0] body)) (.seq (.leaf (sel [1,1,1,1,0,1,1,0,1,0,1,1,1,1,0] body)) (.mark (leaf [(0, .s .ptr), (1, .s .ptr), (2, .s .ptr), (11, .s .str), (12, .s (.int .i64)), (14, .s .str)] (k4 R)) (.leaf (sel [1,1,1,1,0,1,1,0,1,0,1,1,1,1,1] body)))))))) (.leaf (sel [1,1,1,1,0,1,1,0,1,1] body)))))))) (.leaf (sel [1,1,1,1,1] body))))))))
theorem good (R : EP) : Good P 69 (ac R) (QF P [.tmp 8] R) :=
 ⟨trivial, ⟨trivial, ⟨trivial, ⟨(loopG (al1 R) (bl1 R) (fun _ => by kernel_rfl) (fun Xa => ⟨trivial, ⟨trivial, cutZ⟩⟩) (fun Xa => by intro x0 x1 x2 x3 x9 ρ w; kernel_rfl) (fun X h _ _ _ _ _ _ g => g X h)), ⟨⟨⟨trivial, ⟨trivial, ⟨trivial, ⟨⟨⟨trivial, ⟨trivial, ⟨⟨trivial, (loopG (al2 R) (bl2 R) (fun _ => by kernel_rfl) (fun Xb => trivial) (fun Xb => by intro x0 x1 x2 x9 x10 x11 x12 x13 ρ w; kernel_rfl) (fun X h _ _ _ _ _ _ _ _ _ g => g X h))⟩, ⟨trivial, ⟨trivial, ⟨trivial, cutZ⟩⟩⟩⟩⟩⟩, trivial⟩, cutZ⟩⟩⟩⟩, trivial⟩, cutZ⟩⟩⟩⟩⟩
theorem eq (R : EP) (x0 x1 : OA) (x2 x3 : OA) (w : World) : g_line_trimFence R x0 x1 x2 x3 w = vcA P 69 (ac R) (QF P [.tmp 8] R) (fr0 [.pointer x0, .pointer x1, .pointer x2, .pointer x3]) w := by kernel_rfl
theorem sound {R : EP} {x0 x1 : OA} {x2 x3 : OA} {w : World} (h : g_line_trimFence R x0 x1 x2 x3 w) : callE P i_line_trimFence #[.pointer x0, .pointer x1, .pointer x2, .pointer x3] R w :=
 callE_fz (c := body) Tryz.func190 Tryz.call190 (good R) (eq R x0 x1 x2 x3 w) h
end g_line_trimFence
namespace g_newFence
noncomputable def body : Code := bodyOf Tryz.f130
def k4 (R : EP) (x0 : OA) (x4 x6 : Nat) (x7 x8 : Nat) (w : World) : Prop :=
 ∃ (v60 : BA), w.cell? ⟨x6, 0, none⟩ = some (.string v60) ∧
 ∃ (v61 : BA), w.cell? ⟨x7, 0, none⟩ = some (.string v61) ∧
 ∃ (v62 : Int), w.cell? ⟨x8, 0, none⟩ = some (.int .i64 v62) ∧
 box w #[.string v60, .string v61, .int .i64 v62, .slice none 0 0] ty_fenceBuilder fun b63 w64 =>
 callE P i_parseState_addBlock #[.pointer x0, .iface ty_P_fenceBuilder (.pointer (some ⟨b63, 0, none⟩))] (fun e w66 => e = .returned (.tuple #[]) ∧
 stV w66 ⟨x4, 0, none⟩ (.int .i64 0) fun w67 =>
 stV w67 ⟨x4, 1, none⟩ (.int .i64 0) fun w68 =>
 stV w68 ⟨x4, 2, none⟩ (.int .i64 0) fun w69 =>
 stV w69 ⟨x4, 3, none⟩ (.string (ByteArray.mk #[])) fun w70 =>
 stV w70 ⟨x4, 4, none⟩ (.int .u8 0) fun w71 =>
 ∃ (v72 : Int), w71.cell? ⟨x4, 0, none⟩ = some (.int .i64 v72) ∧
 ∃ (v73 : Int), w71.cell? ⟨x4, 1, none⟩ = some (.int .i64 v73) ∧
 ∃ (v74 : Int), w71.cell? ⟨x4, 2, none⟩ = some (.int .i64 v74) ∧
 ∃ (v75 : BA), w71.cell? ⟨x4, 3, none⟩ = some (.string v75) ∧
 ∃ (v76 : Int), w71.cell? ⟨x4, 4, none⟩ = some (.int .u8 v76) ∧
 R (.returned (.tuple #[.agg #[.int .i64 v72, .int .i64 v73, .int .i64 v74, .string v75, .int .u8 v76], .bool true])) w71) w64

def bl1 (R : EP) (Xa : OA → Nat → Nat → Nat → Nat → Value → WP) (x0 : OA) (x4 x6 : Nat) (x7 x8 : Nat) (x36 : Value) (w : World) : Prop :=
 (∃ w53, (Instr.next x36 true ty_).run P w = .ok (.tuple #[.bool false]) w53 ∧
 k4 R x0 x4 x6 x7 x8 w53) ∨
 (∃ (r54_0 : Int), ∃ (r54_1 : Int), ∃ w55, (Instr.next x36 true ty_).run P w = .ok (.tuple #[.bool true, .int .i64 r54_0, .int .i32 r54_1]) w55 ∧
 callE P i_isUnicodeSpace #[.int .i32 r54_1] (fun e w57 => ∃ (r56 : Bool), e = .returned (.bool r56) ∧
 br r56
 (br (r54_1 != 32)
 (nilP x0 fun a58 =>
 stV w57 ((a58.add 6).add 0) (.bool true) fun w59 =>
 k4 R x0 x4 x6 x7 x8 w59)
 (k4 R x0 x4 x6 x7 x8 w57))
 (Xa x0 x4 x6 x7 x8 x36 w57)) w55)
def l1 (R : EP) (x0 : OA) (x4 x6 : Nat) (x7 x8 : Nat) (x36 : Value) (w : World) : Prop :=
 ∀ X : OA → Nat → Nat → Nat → Nat → Value → WP, (∀ x0 x4 x6 x7 x8 x36 w, bl1 R X x0 x4 x6 x7 x8 x36 w → X x0 x4 x6 x7 x8 x36 w) → X x0 x4 x6 x7 x8 x36 w

noncomputable def al1 (R : EP) (Xa : OA → Nat → Nat → Nat → Nat → Value → WP) : AC :=
 (.leaf (sel [1,1,1,1,0,1,0,1,0,1,0,0] body))
def k2 (R : EP) (x0 : OA) (x4 x6 : Nat) (x7 x8 : Nat) (w : World) : Prop :=
 ∃ (v48 : BA), w.cell? ⟨x7, 0, none⟩ = some (.string v48) ∧
 ∃ (r49 : Value), ∃ w50, (Instr.range ty_string (.string v48)).run P w = .ok r49 w50 ∧
 l1 R x0 x4 x6 x7 x8 r49 w50

def k3 (R : EP) (x0 : OA) (x4 x6 : Nat) (x7 x8 : Nat) (x31 : Bool) (w : World) : Prop :=
 br x31
 (nilP x0 fun a51 =>
 stV w ((a51.add 6).add 0) (.bool true) fun w52 =>
 k2 R x0 x4 x6 x7 x8 w52)
 (k2 R x0 x4 x6 x7 x8 w)

def k1 (R : EP) (x0 : OA) (x4 x6 : Nat) (x7 x8 : Nat) (x20 : Bool) (w : World) : Prop :=
 br x20
 (nilP x0 fun a42 =>
 stV w ((a42.add 6).add 0) (.bool true) fun w43 =>
 k2 R x0 x4 x6 x7 x8 w43)
 (∃ (v44 : BA), w.cell? ⟨x7, 0, none⟩ = some (.string v44) ∧
 br (!(v44.toList == (ByteArray.mk #[]).toList))
 (∃ (v45 : BA), w.cell? ⟨x7, 0, none⟩ = some (.string v45) ∧
 (true = true → 0 ≤ (0 : Int) ∧ 0 < (v45.size : Int)) ∧
 callE P i_isLetter #[.int .u8 (bt v45 0)] (fun e w47 => ∃ (r46 : Bool), e = .returned (.bool r46) ∧
 k3 R x0 x4 x6 x7 x8 (!r46) w47) w)
 (k3 R x0 x4 x6 x7 x8 false w))

end g_newFence
def g_newFence (R : EP) (x0 : OA) (x1_0 x1_1 x1_2 : Int) (x1_3 : BA) (x1_4 : Int) (w : World) : Prop :=
 box w #[.int .i64 x1_0, .int .i64 x1_1, .int .i64 x1_2, .string x1_3, .int .u8 x1_4] ty_line fun b1 w2 =>
 box w2 #[.int .i64 0, .int .i64 0, .int .i64 0, .string (ByteArray.mk #[]), .int .u8 0] ty_line fun b3 w4 =>
 box w4 #[.string (ByteArray.mk #[])] ty_string fun b5 w6 =>
 box w6 #[.string (ByteArray.mk #[])] ty_string fun b7 w8 =>
 box w8 #[.int .i64 0] ty_int fun b9 w10 =>
 ∃ (v11 : Int), w10.cell? ⟨b1, 0, none⟩ = some (.int .i64 v11) ∧
 ∃ (v12 : Int), w10.cell? ⟨b1, 1, none⟩ = some (.int .i64 v12) ∧
 ∃ (v13 : Int), w10.cell? ⟨b1, 2, none⟩ = some (.int .i64 v13) ∧
 ∃ (v14 : BA), w10.cell? ⟨b1, 3, none⟩ = some (.string v14) ∧
 ∃ (v15 : Int), w10.cell? ⟨b1, 4, none⟩ = some (.int .u8 v15) ∧
 box w10 #[.int .i64 0, .int .i64 0, .int .i64 0, .string (ByteArray.mk #[]), .int .u8 0] ty_line fun b16 w17 =>
 stV w17 ⟨b16, 0, none⟩ (.int .i64 v11) fun w18 =>
 stV w18 ⟨b16, 1, none⟩ (.int .i64 v12) fun w19 =>
 stV w19 ⟨b16, 2, none⟩ (.int .i64 v13) fun w20 =>
 stV w20 ⟨b16, 3, none⟩ (.string v14) fun w21 =>
 stV w21 ⟨b16, 4, none⟩ (.int .u8 v15) fun w22 =>
 callE P i_line_trimFence #[.pointer (some ⟨b16, 0, none⟩), .pointer (some ⟨b5, 0, none⟩), .pointer (some ⟨b7, 0, none⟩), .pointer (some ⟨b9, 0, none⟩)] (fun e w24 => ∃ (r23 : Bool), e = .returned (.bool r23) ∧
 br r23
 (∃ (v25 : BA), w24.cell? ⟨b5, 0, none⟩ = some (.string v25) ∧
 0 ≤ (0 : Int) ∧ 0 < (v25.size : Int) ∧
 br ((bt v25 0) == 126)
 (∃ (v26 : BA), w24.cell? ⟨b7, 0, none⟩ = some (.string v26) ∧
 g_newFence.k1 R x0 b3 b5 b7 b9 (!(v26.toList == (ByteArray.mk #[]).toList)) w24)
 (g_newFence.k1 R x0 b3 b5 b7 b9 false w24))
 (∃ (v27 : Int), w24.cell? ⟨b1, 0, none⟩ = some (.int .i64 v27) ∧
 ∃ (v28 : Int), w24.cell? ⟨b1, 1, none⟩ = some (.int .i64 v28) ∧
 ∃ (v29 : Int), w24.cell? ⟨b1, 2, none⟩ = some (.int .i64 v29) ∧
 ∃ (v30 : BA), w24.cell? ⟨b1, 3, none⟩ = some (.string v30) ∧
 ∃ (v31 : Int), w24.cell? ⟨b1, 4, none⟩ = some (.int .u8 v31) ∧
 stV w24 ⟨b3, 0, none⟩ (.int .i64 v27) fun w32 =>
 stV w32 ⟨b3, 1, none⟩ (.int .i64 v28) fun w33 =>
 stV w33 ⟨b3, 2, none⟩ (.int .i64 v29) fun w34 =>
 stV w34 ⟨b3, 3, none⟩ (.string v30) fun w35 =>
 stV w35 ⟨b3, 4, none⟩ (.int .u8 v31) fun w36 =>
 ∃ (v37 : Int), w36.cell? ⟨b3, 0, none⟩ = some (.int .i64 v37) ∧
 ∃ (v38 : Int), w36.cell? ⟨b3, 1, none⟩ = some (.int .i64 v38) ∧
 ∃ (v39 : Int), w36.cell? ⟨b3, 2, none⟩ = some (.int .i64 v39) ∧
 ∃ (v40 : BA), w36.cell? ⟨b3, 3, none⟩ = some (.string v40) ∧
 ∃ (v41 : Int), w36.cell? ⟨b3, 4, none⟩ = some (.int .u8 v41) ∧
 R (.returned (.tuple #[.agg #[.int .i64 v37, .int .i64 v38, .int .i64 v39, .string v40, .int .u8 v41], .bool false])) w36)) w22

namespace g_newFence
noncomputable def ac (R : EP) : AC :=
 (.seq (.leaf (sel [0] body)) (.seq (.leaf (sel [1,0] body)) (.seq (.leaf (sel [1,1,0] body)) (.seq (.leaf (sel [1,1,1,0] body)) (.seq (.seq (.leaf (sel [1,1,1,1,0,0] body)) (.cond 13 (.seq (.seq (.leaf (sel [1,1,1,1,0,1,0,0,0] body)) (.mark (leaf [(0, .s .ptr), (4, .s .loc), (6, .s .loc), (7, .s .loc), (8, .s .loc), (20, .s .bool)] (k1 R)) (.cond 20 (.leaf (sel [1,1,1,1,0,1,0,0,1,0] body)) (.seq (.leaf (sel [1,1,1,1,0,1,0,0,1,1,0] body)) (.mark (leaf [(0, .s .ptr), (4, .s .loc), (6, .s .loc), (7, .s .loc), (8, .s .loc), (31, .s .bool)] (k3 R)) (.leaf (sel [1,1,1,1,0,1,0,0,1,1,1] body))))))) (.mark (leaf [(0, .s .ptr), (4, .s .loc), (6, .s .loc), (7, .s .loc), (8, .s .loc)] (k2 R)) (.seq (.seq (.leaf (sel [1,1,1,1,0,1,0,1,0,0] body)) (.block 0 (.loop (leaf [(0, .s .ptr), (4, .s .loc), (6, .s .loc), (7, .s .loc), (8, .s .loc), (36, .s .any)] (l1 R)) (sel [1,1,1,1,0,1,0,1,0,1,0,0] body)))) (.mark (leaf [(0, .s .ptr), (4, .s .loc), (6, .s .loc), (7, .s .loc), (8, .s .loc)] (k4 R)) (.leaf (sel [1,1,1,1,0,1,0,1,1] body)))))) (.leaf (sel [1,1,1,1,0,1,1] body)))) (.leaf (sel [1,1,1,1,1] body)))))))
theorem good (R : EP) : Good P 57 (ac R) (QF P [.cell 4 159, .tmp 5] R) :=
 ⟨trivial, ⟨trivial, ⟨trivial, ⟨trivial, ⟨⟨trivial, ⟨⟨⟨trivial, ⟨⟨trivial, ⟨trivial, ⟨trivial, cutZ⟩⟩⟩, cutZ⟩⟩, ⟨⟨⟨trivial, (loopG (al1 R) (bl1 R) (fun _ => by kernel_rfl) (fun Xa => trivial) (fun Xa => by intro x0 x4 x6 x7 x8 x36 ρ w; kernel_rfl) (fun X h _ _ _ _ _ _ _ g => g X h))⟩, ⟨trivial, cutZ⟩⟩, cutZ⟩⟩, trivial⟩⟩, trivial⟩⟩⟩⟩⟩
theorem eq (R : EP) (x0 : OA) (x1_0 x1_1 x1_2 : Int) (x1_3 : BA) (x1_4 : Int) (w : World) : g_newFence R x0 x1_0 x1_1 x1_2 x1_3 x1_4 w = vcA P 57 (ac R) (QF P [.cell 4 159, .tmp 5] R) (fr0 [.pointer x0, .agg #[.int .i64 x1_0, .int .i64 x1_1, .int .i64 x1_2, .string x1_3, .int .u8 x1_4]]) w := by kernel_rfl
theorem sound {R : EP} {x0 : OA} {x1_0 x1_1 x1_2 : Int} {x1_3 : ByteArray} {x1_4 : Int} {w : World} (h : g_newFence R x0 x1_0 x1_1 x1_2 x1_3 x1_4 w) : callE P i_newFence #[.pointer x0, .agg #[.int .i64 x1_0, .int .i64 x1_1, .int .i64 x1_2, .string x1_3, .int .u8 x1_4]] R w :=
 callE_fz (c := body) Tryz.func130 Tryz.call130 (good R) (eq R x0 x1_0 x1_1 x1_2 x1_3 x1_4 w) h
end g_newFence
namespace g_newSetextHeading
noncomputable def body : Code := bodyOf Tryz.f126
def k1 (R : EP) (x0 : OA) (x3 x4 x6 : Nat) (x19 : Bool) (w : World) : Prop :=
 br x19
 (callE P i_parseState_closeBlock #[.pointer x0] (fun e w28 => ∃ (r27 : Value), e = .returned r27 ∧
 callE P i_parseState_last #[.pointer x0] (fun e w30 => ∃ (r29 : Value), e = .returned r29 ∧
 ∃ (r31_0 : OA), ∃ (r31_1 : Bool), ∃ w32, (Instr.typeAssert r29 ty_Block ty_P_Paragraph true).run P w30 = .ok (.tuple #[.pointer r31_0, .bool r31_1]) w32 ∧
 br (!r31_1)
 (∃ (v33 : Int), w32.cell? ⟨x3, 0, none⟩ = some (.int .i64 v33) ∧
 ∃ (v34 : Int), w32.cell? ⟨x3, 1, none⟩ = some (.int .i64 v34) ∧
 ∃ (v35 : Int), w32.cell? ⟨x3, 2, none⟩ = some (.int .i64 v35) ∧
 ∃ (v36 : BA), w32.cell? ⟨x3, 3, none⟩ = some (.string v36) ∧
 ∃ (v37 : Int), w32.cell? ⟨x3, 4, none⟩ = some (.int .u8 v37) ∧
 stV w32 ⟨x4, 0, none⟩ (.int .i64 v33) fun w38 =>
 stV w38 ⟨x4, 1, none⟩ (.int .i64 v34) fun w39 =>
 stV w39 ⟨x4, 2, none⟩ (.int .i64 v35) fun w40 =>
 stV w40 ⟨x4, 3, none⟩ (.string v36) fun w41 =>
 stV w41 ⟨x4, 4, none⟩ (.int .u8 v37) fun w42 =>
 ∃ (v43 : Int), w42.cell? ⟨x4, 0, none⟩ = some (.int .i64 v43) ∧
 ∃ (v44 : Int), w42.cell? ⟨x4, 1, none⟩ = some (.int .i64 v44) ∧
 ∃ (v45 : Int), w42.cell? ⟨x4, 2, none⟩ = some (.int .i64 v45) ∧
 ∃ (v46 : BA), w42.cell? ⟨x4, 3, none⟩ = some (.string v46) ∧
 ∃ (v47 : Int), w42.cell? ⟨x4, 4, none⟩ = some (.int .u8 v47) ∧
 R (.returned (.tuple #[.agg #[.int .i64 v43, .int .i64 v44, .int .i64 v45, .string v46, .int .u8 v47], .bool false])) w42)
 (callE P i_parseState_deleteLast #[.pointer x0] (fun e w49 => e = .returned (.tuple #[]) ∧
 tk w49 fun w50 =>
 nilP r31_0 fun a51 =>
 nilP x0 fun a52 =>
 nilP r31_0 fun a53 =>
 ∃ (v54 : Int), w50.cell? a51 = some (.int .i64 v54) ∧
 ∃ (v55 : Int), w50.cell? (a52.add 3) = some (.int .i64 v55) ∧
 ∃ (v56 : Int), w50.cell? ⟨x6, 0, none⟩ = some (.int .i64 v56) ∧
 ∃ (v57 : OA), w50.cell? (a53.add 2) = some (.pointer v57) ∧
 box w50 #[.int .i64 v54, .int .i64 v55, .int .i64 v56, .pointer v57, .string (ByteArray.mk #[])] ty_Heading fun b58 w59 =>
 callE P i_parseState_doneBlock #[.pointer x0, .iface ty_P_Heading (.pointer (some ⟨b58, 0, none⟩))] (fun e w61 => e = .returned (.tuple #[]) ∧
 stV w61 ⟨x4, 0, none⟩ (.int .i64 0) fun w62 =>
 stV w62 ⟨x4, 1, none⟩ (.int .i64 0) fun w63 =>
 stV w63 ⟨x4, 2, none⟩ (.int .i64 0) fun w64 =>
 stV w64 ⟨x4, 3, none⟩ (.string (ByteArray.mk #[])) fun w65 =>
 stV w65 ⟨x4, 4, none⟩ (.int .u8 0) fun w66 =>
 ∃ (v67 : Int), w66.cell? ⟨x4, 0, none⟩ = some (.int .i64 v67) ∧
 ∃ (v68 : Int), w66.cell? ⟨x4, 1, none⟩ = some (.int .i64 v68) ∧
 ∃ (v69 : Int), w66.cell? ⟨x4, 2, none⟩ = some (.int .i64 v69) ∧
 ∃ (v70 : BA), w66.cell? ⟨x4, 3, none⟩ = some (.string v70) ∧
 ∃ (v71 : Int), w66.cell? ⟨x4, 4, none⟩ = some (.int .u8 v71) ∧
 R (.returned (.tuple #[.agg #[.int .i64 v67, .int .i64 v68, .int .i64 v69, .string v70, .int .u8 v71], .bool true])) w66) w59) w32)) w28) w)
 (∃ (v72 : Int), w.cell? ⟨x3, 0, none⟩ = some (.int .i64 v72) ∧
 ∃ (v73 : Int), w.cell? ⟨x3, 1, none⟩ = some (.int .i64 v73) ∧
 ∃ (v74 : Int), w.cell? ⟨x3, 2, none⟩ = some (.int .i64 v74) ∧
 ∃ (v75 : BA), w.cell? ⟨x3, 3, none⟩ = some (.string v75) ∧
 ∃ (v76 : Int), w.cell? ⟨x3, 4, none⟩ = some (.int .u8 v76) ∧
 stV w ⟨x4, 0, none⟩ (.int .i64 v72) fun w77 =>
 stV w77 ⟨x4, 1, none⟩ (.int .i64 v73) fun w78 =>
 stV w78 ⟨x4, 2, none⟩ (.int .i64 v74) fun w79 =>
 stV w79 ⟨x4, 3, none⟩ (.string v75) fun w80 =>
 stV w80 ⟨x4, 4, none⟩ (.int .u8 v76) fun w81 =>
 ∃ (v82 : Int), w81.cell? ⟨x4, 0, none⟩ = some (.int .i64 v82) ∧
 ∃ (v83 : Int), w81.cell? ⟨x4, 1, none⟩ = some (.int .i64 v83) ∧
 ∃ (v84 : Int), w81.cell? ⟨x4, 2, none⟩ = some (.int .i64 v84) ∧
 ∃ (v85 : BA), w81.cell? ⟨x4, 3, none⟩ = some (.string v85) ∧
 ∃ (v86 : Int), w81.cell? ⟨x4, 4, none⟩ = some (.int .u8 v86) ∧
 R (.returned (.tuple #[.agg #[.int .i64 v82, .int .i64 v83, .int .i64 v84, .string v85, .int .u8 v86], .bool false])) w81)

end g_newSetextHeading
def g_newSetextHeading (R : EP) (x0 : OA) (x1_0 x1_1 x1_2 : Int) (x1_3 : BA) (x1_4 : Int) (w : World) : Prop :=
 box w #[.int .i64 x1_0, .int .i64 x1_1, .int .i64 x1_2, .string x1_3, .int .u8 x1_4] ty_line fun b1 w2 =>
 box w2 #[.int .i64 0, .int .i64 0, .int .i64 0, .string (ByteArray.mk #[]), .int .u8 0] ty_line fun b3 w4 =>
 box w4 #[.int .i64 0] ty_int fun b5 w6 =>
 ∃ (v7 : Int), w6.cell? ⟨b1, 0, none⟩ = some (.int .i64 v7) ∧
 ∃ (v8 : Int), w6.cell? ⟨b1, 1, none⟩ = some (.int .i64 v8) ∧
 ∃ (v9 : Int), w6.cell? ⟨b1, 2, none⟩ = some (.int .i64 v9) ∧
 ∃ (v10 : BA), w6.cell? ⟨b1, 3, none⟩ = some (.string v10) ∧
 ∃ (v11 : Int), w6.cell? ⟨b1, 4, none⟩ = some (.int .u8 v11) ∧
 box w6 #[.int .i64 0, .int .i64 0, .int .i64 0, .string (ByteArray.mk #[]), .int .u8 0] ty_line fun b12 w13 =>
 stV w13 ⟨b12, 0, none⟩ (.int .i64 v7) fun w14 =>
 stV w14 ⟨b12, 1, none⟩ (.int .i64 v8) fun w15 =>
 stV w15 ⟨b12, 2, none⟩ (.int .i64 v9) fun w16 =>
 stV w16 ⟨b12, 3, none⟩ (.string v10) fun w17 =>
 stV w17 ⟨b12, 4, none⟩ (.int .u8 v11) fun w18 =>
 callE P i_parseState_nextB #[.pointer x0] (fun e w20 => ∃ (r19 : Value), e = .returned r19 ∧
 callE P i_parseState_para #[.pointer x0] (fun e w22 => ∃ (r21 : OA), e = .returned (.pointer r21) ∧
 ∃ (r23 : Bool), ∃ w24, (do eqGuard .eql ty_blockBuilder (.tmp 12) (.tmp 15) r19 (.iface ty_P_paraBuilder (.pointer r21)); binOp .eql ty_blockBuilder r19 (.iface ty_P_paraBuilder (.pointer r21))).run P w22 = .ok (.bool r23) w24 ∧
 br r23
 (callE P i_line_trimSetext #[.pointer (some ⟨b12, 0, none⟩), .pointer (some ⟨b5, 0, none⟩)] (fun e w26 => ∃ (r25 : Bool), e = .returned (.bool r25) ∧
 g_newSetextHeading.k1 R x0 b1 b3 b5 r25 w26) w24)
 (g_newSetextHeading.k1 R x0 b1 b3 b5 false w24)) w20) w18

namespace g_newSetextHeading
noncomputable def ac (R : EP) : AC :=
 (.seq (.leaf (sel [0] body)) (.seq (.leaf (sel [1,0] body)) (.seq (.leaf (sel [1,1,0] body)) (.seq (.seq (.leaf (sel [1,1,1,0,0] body)) (.mark (leaf [(0, .s .ptr), (3, .s .loc), (4, .s .loc), (6, .s .loc), (19, .s .bool)] (k1 R)) (.cond 19 (.seq (.leaf (sel [1,1,1,0,1,0,0] body)) (.seq (.leaf (sel [1,1,1,0,1,0,1,0] body)) (.seq (.leaf (sel [1,1,1,0,1,0,1,1,0] body)) (.seq (.leaf (sel [1,1,1,0,1,0,1,1,1,0] body)) (.seq (.draw (.pure 0 (.pure 1 (.pure 2 (.pure 3 (.pure 4 (.pure 6 (.pure 7 (.pure 8 (.pure 12 (.pure 13 (.pure 14 (.load 5 (.load 9 (.pure 10 (.load 11 (.load 15 (.pure 16 (.one 17 (.pure 18 (.one 19 .done)))))))))))))))))))) (sel [1,1,1,0,1,0,1,1,1,1,0] body)) (.leaf (sel [1,1,1,0,1,0,1,1,1,1,1] body))))))) (.leaf (sel [1,1,1,0,1,1] body))))) (.leaf (sel [1,1,1,1] body))))))
theorem good (R : EP) : Good P 55 (ac R) (QF P [.cell 4 159, .tmp 5] R) :=
 ⟨trivial, ⟨trivial, ⟨trivial, ⟨⟨trivial, ⟨⟨⟨trivial, ⟨trivial, ⟨trivial, ⟨trivial, ⟨⟨by kernel_rfl, by kernel_rfl, fun _ _ _ h => h⟩, trivial⟩⟩⟩⟩⟩, trivial⟩, cutZ⟩⟩, trivial⟩⟩⟩⟩
theorem eq (R : EP) (x0 : OA) (x1_0 x1_1 x1_2 : Int) (x1_3 : BA) (x1_4 : Int) (w : World) : g_newSetextHeading R x0 x1_0 x1_1 x1_2 x1_3 x1_4 w = vcA P 55 (ac R) (QF P [.cell 4 159, .tmp 5] R) (fr0 [.pointer x0, .agg #[.int .i64 x1_0, .int .i64 x1_1, .int .i64 x1_2, .string x1_3, .int .u8 x1_4]]) w := by kernel_rfl
theorem sound {R : EP} {x0 : OA} {x1_0 x1_1 x1_2 : Int} {x1_3 : ByteArray} {x1_4 : Int} {w : World} (h : g_newSetextHeading R x0 x1_0 x1_1 x1_2 x1_3 x1_4 w) : callE P i_newSetextHeading #[.pointer x0, .agg #[.int .i64 x1_0, .int .i64 x1_1, .int .i64 x1_2, .string x1_3, .int .u8 x1_4]] R w :=
 callE_fz (c := body) Tryz.func126 Tryz.call126 (good R) (eq R x0 x1_0 x1_1 x1_2 x1_3 x1_4 w) h
end g_newSetextHeading
namespace g_newListItem
noncomputable def body : Code := bodyOf Tryz.f128
def k1 (R : EP) (x0 : OA) (x3 x4 : Nat) (x6 : OA) (x21 : Bool) (w : World) : Prop :=
 br x21
 (nilP x6 fun a13 =>
 ∃ (v14 : Value), w.cell? (a13.add 4) = some v14 ∧
 enterE P (do let d ← Deferred.ofValue v14 #[]; invoke d.target d.args) (fun e w16 => ∃ (r15_0 : Int), ∃ (r15_1 : Int), ∃ (r15_2 : Int), ∃ (r15_3 : BA), ∃ (r15_4 : Int), e = .returned (.agg #[.int .i64 r15_0, .int .i64 r15_1, .int .i64 r15_2, .string r15_3, .int .u8 r15_4]) ∧
 stV w16 ⟨x3, 0, none⟩ (.int .i64 r15_0) fun w17 =>
 stV w17 ⟨x3, 1, none⟩ (.int .i64 r15_1) fun w18 =>
 stV w18 ⟨x3, 2, none⟩ (.int .i64 r15_2) fun w19 =>
 stV w19 ⟨x3, 3, none⟩ (.string r15_3) fun w20 =>
 stV w20 ⟨x3, 4, none⟩ (.int .u8 r15_4) fun w21 =>
 nilP x6 fun a22 =>
 stV w21 ((a22.add 4).add 0) .nilFunc fun w23 =>
 ∃ (v24 : Int), w23.cell? ⟨x3, 0, none⟩ = some (.int .i64 v24) ∧
 ∃ (v25 : Int), w23.cell? ⟨x3, 1, none⟩ = some (.int .i64 v25) ∧
 ∃ (v26 : Int), w23.cell? ⟨x3, 2, none⟩ = some (.int .i64 v26) ∧
 ∃ (v27 : BA), w23.cell? ⟨x3, 3, none⟩ = some (.string v27) ∧
 ∃ (v28 : Int), w23.cell? ⟨x3, 4, none⟩ = some (.int .u8 v28) ∧
 stV w23 ⟨x4, 0, none⟩ (.int .i64 v24) fun w29 =>
 stV w29 ⟨x4, 1, none⟩ (.int .i64 v25) fun w30 =>
 stV w30 ⟨x4, 2, none⟩ (.int .i64 v26) fun w31 =>
 stV w31 ⟨x4, 3, none⟩ (.string v27) fun w32 =>
 stV w32 ⟨x4, 4, none⟩ (.int .u8 v28) fun w33 =>
 ∃ (v34 : Int), w33.cell? ⟨x4, 0, none⟩ = some (.int .i64 v34) ∧
 ∃ (v35 : Int), w33.cell? ⟨x4, 1, none⟩ = some (.int .i64 v35) ∧
 ∃ (v36 : Int), w33.cell? ⟨x4, 2, none⟩ = some (.int .i64 v36) ∧
 ∃ (v37 : BA), w33.cell? ⟨x4, 3, none⟩ = some (.string v37) ∧
 ∃ (v38 : Int), w33.cell? ⟨x4, 4, none⟩ = some (.int .u8 v38) ∧
 R (.returned (.tuple #[.agg #[.int .i64 v34, .int .i64 v35, .int .i64 v36, .string v37, .int .u8 v38], .bool true])) w33) w)
 (callE P i_parseState_startListItem #[.pointer x0, .pointer (some ⟨x3, 0, none⟩)] (fun e w40 => ∃ (r39 : Bool), e = .returned (.bool r39) ∧
 br r39
 (∃ (v41 : Int), w40.cell? ⟨x3, 0, none⟩ = some (.int .i64 v41) ∧
 ∃ (v42 : Int), w40.cell? ⟨x3, 1, none⟩ = some (.int .i64 v42) ∧
 ∃ (v43 : Int), w40.cell? ⟨x3, 2, none⟩ = some (.int .i64 v43) ∧
 ∃ (v44 : BA), w40.cell? ⟨x3, 3, none⟩ = some (.string v44) ∧
 ∃ (v45 : Int), w40.cell? ⟨x3, 4, none⟩ = some (.int .u8 v45) ∧
 stV w40 ⟨x4, 0, none⟩ (.int .i64 v41) fun w46 =>
 stV w46 ⟨x4, 1, none⟩ (.int .i64 v42) fun w47 =>
 stV w47 ⟨x4, 2, none⟩ (.int .i64 v43) fun w48 =>
 stV w48 ⟨x4, 3, none⟩ (.string v44) fun w49 =>
 stV w49 ⟨x4, 4, none⟩ (.int .u8 v45) fun w50 =>
 ∃ (v51 : Int), w50.cell? ⟨x4, 0, none⟩ = some (.int .i64 v51) ∧
 ∃ (v52 : Int), w50.cell? ⟨x4, 1, none⟩ = some (.int .i64 v52) ∧
 ∃ (v53 : Int), w50.cell? ⟨x4, 2, none⟩ = some (.int .i64 v53) ∧
 ∃ (v54 : BA), w50.cell? ⟨x4, 3, none⟩ = some (.string v54) ∧
 ∃ (v55 : Int), w50.cell? ⟨x4, 4, none⟩ = some (.int .u8 v55) ∧
 R (.returned (.tuple #[.agg #[.int .i64 v51, .int .i64 v52, .int .i64 v53, .string v54, .int .u8 v55], .bool true])) w50)
 (∃ (v56 : Int), w40.cell? ⟨x3, 0, none⟩ = some (.int .i64 v56) ∧
 ∃ (v57 : Int), w40.cell? ⟨x3, 1, none⟩ = some (.int .i64 v57) ∧
 ∃ (v58 : Int), w40.cell? ⟨x3, 2, none⟩ = some (.int .i64 v58) ∧
 ∃ (v59 : BA), w40.cell? ⟨x3, 3, none⟩ = some (.string v59) ∧
 ∃ (v60 : Int), w40.cell? ⟨x3, 4, none⟩ = some (.int .u8 v60) ∧
 stV w40 ⟨x4, 0, none⟩ (.int .i64 v56) fun w61 =>
 stV w61 ⟨x4, 1, none⟩ (.int .i64 v57) fun w62 =>
 stV w62 ⟨x4, 2, none⟩ (.int .i64 v58) fun w63 =>
 stV w63 ⟨x4, 3, none⟩ (.string v59) fun w64 =>
 stV w64 ⟨x4, 4, none⟩ (.int .u8 v60) fun w65 =>
 ∃ (v66 : Int), w65.cell? ⟨x4, 0, none⟩ = some (.int .i64 v66) ∧
 ∃ (v67 : Int), w65.cell? ⟨x4, 1, none⟩ = some (.int .i64 v67) ∧
 ∃ (v68 : Int), w65.cell? ⟨x4, 2, none⟩ = some (.int .i64 v68) ∧
 ∃ (v69 : BA), w65.cell? ⟨x4, 3, none⟩ = some (.string v69) ∧
 ∃ (v70 : Int), w65.cell? ⟨x4, 4, none⟩ = some (.int .u8 v70) ∧
 R (.returned (.tuple #[.agg #[.int .i64 v66, .int .i64 v67, .int .i64 v68, .string v69, .int .u8 v70], .bool false])) w65)) w)

end g_newListItem
def g_newListItem (R : EP) (x0 : OA) (x1_0 x1_1 x1_2 : Int) (x1_3 : BA) (x1_4 : Int) (w : World) : Prop :=
 box w #[.int .i64 x1_0, .int .i64 x1_1, .int .i64 x1_2, .string x1_3, .int .u8 x1_4] ty_line fun b1 w2 =>
 box w2 #[.int .i64 0, .int .i64 0, .int .i64 0, .string (ByteArray.mk #[]), .int .u8 0] ty_line fun b3 w4 =>
 callE P i_parseState_curB #[.pointer x0] (fun e w6 => ∃ (r5 : Value), e = .returned r5 ∧
 ∃ (r7_0 : OA), ∃ (r7_1 : Bool), ∃ w8, (Instr.typeAssert r5 ty_blockBuilder ty_P_listBuilder true).run P w6 = .ok (.tuple #[.pointer r7_0, .bool r7_1]) w8 ∧
 br r7_1
 (nilP r7_0 fun a9 =>
 ∃ (v10 : Value), w8.cell? (a9.add 4) = some v10 ∧
 ∃ (r11 : Bool), ∃ w12, (do eqGuard .neq ty_func_line (.tmp 19) (.const .nilFunc) v10 .nilFunc; binOp .neq ty_func_line v10 .nilFunc).run P w8 = .ok (.bool r11) w12 ∧
 g_newListItem.k1 R x0 b1 b3 r7_0 r11 w12)
 (g_newListItem.k1 R x0 b1 b3 r7_0 false w8)) w4

namespace g_newListItem
noncomputable def ac (R : EP) : AC :=
 (.seq (.leaf (sel [0] body)) (.seq (.seq (.leaf (sel [1,0,0] body)) (.seq (.leaf (sel [1,0,1,0] body)) (.mark (leaf [(0, .s .ptr), (3, .s .loc), (4, .s .loc), (6, .s .ptr), (21, .s .bool)] (k1 R)) (.leaf (sel [1,0,1,1] body))))) (.leaf (sel [1,1] body))))
theorem good (R : EP) : Good P 35 (ac R) (QF P [.cell 4 159, .tmp 5] R) :=
 ⟨trivial, ⟨⟨trivial, ⟨trivial, ⟨trivial, cutZ⟩⟩⟩, trivial⟩⟩
theorem eq (R : EP) (x0 : OA) (x1_0 x1_1 x1_2 : Int) (x1_3 : BA) (x1_4 : Int) (w : World) : g_newListItem R x0 x1_0 x1_1 x1_2 x1_3 x1_4 w = vcA P 35 (ac R) (QF P [.cell 4 159, .tmp 5] R) (fr0 [.pointer x0, .agg #[.int .i64 x1_0, .int .i64 x1_1, .int .i64 x1_2, .string x1_3, .int .u8 x1_4]]) w := by kernel_rfl
theorem sound {R : EP} {x0 : OA} {x1_0 x1_1 x1_2 : Int} {x1_3 : ByteArray} {x1_4 : Int} {w : World} (h : g_newListItem R x0 x1_0 x1_1 x1_2 x1_3 x1_4 w) : callE P i_newListItem #[.pointer x0, .agg #[.int .i64 x1_0, .int .i64 x1_1, .int .i64 x1_2, .string x1_3, .int .u8 x1_4]] R w :=
 callE_fz (c := body) Tryz.func128 Tryz.call128 (good R) (eq R x0 x1_0 x1_1 x1_2 x1_3 x1_4 w) h
end g_newListItem
namespace g_parseState_curB
noncomputable def body : Code := bodyOf Tryz.f187
end g_parseState_curB
def g_parseState_curB (R : EP) (x0 : OA) (w : World) : Prop :=
 tk w fun w1 =>
 nilP x0 fun a2 =>
 nilP x0 fun a3 =>
 ∃ (v4 : Int), w1.cell? (a2.add 5) = some (.int .i64 v4) ∧
 ∃ (v5q : OA), ∃ (v5n : Nat), ∃ (v5c : Nat), w1.cell? (a3.add 4) = some (.slice v5q v5n v5c) ∧
 br (decide (v4 < (v5n : Int)))
 (tk w1 fun w6 =>
 nilP x0 fun a7 =>
 nilP x0 fun a8 =>
 ∃ (v9q : OA), ∃ (v9n : Nat), ∃ (v9c : Nat), w6.cell? (a7.add 4) = some (.slice v9q v9n v9c) ∧
 ∃ (v10 : Int), w6.cell? (a8.add 5) = some (.int .i64 v10) ∧
 0 ≤ v10 ∧ v10 < (v9n : Int) ∧
 nilP v9q fun a11 =>
 ∃ (v12 : Value), w6.cell? (a11.add (Int.toNat v10 * 4)) = some v12 ∧
 R (.returned v12) w6)
 (R (.returned .nilIface) w1)

namespace g_parseState_curB
noncomputable def ac (R : EP) : AC :=
 (.seq (.leaf (sel [0] body)) (.seq (.seq (.draw (.pure 0 (.pure 1 (.pure 2 (.pure 4 (.pure 5 (.pure 6 (.load 3 (.load 7 (.pure 8 (.pure 9 .done)))))))))) (sel [1,0,0] body)) (.cond 12 (.seq (.draw (.pure 0 (.pure 1 (.pure 2 (.pure 4 (.pure 5 (.pure 6 (.load 3 (.load 7 (.pure 8 (.pure 9 (.load 10 (.pure 11 .done)))))))))))) (sel [1,0,1,0,0] body)) (.leaf (sel [1,0,1,0,1] body))) (.leaf (sel [1,0,1,1] body)))) (.leaf (sel [1,1] body))))
theorem good (R : EP) : Good P 24 (ac R) (QF P [.tmp 2] R) :=
 ⟨trivial, ⟨⟨⟨by kernel_rfl, by kernel_rfl, fun _ _ _ h => h⟩, ⟨⟨⟨by kernel_rfl, by kernel_rfl, fun _ _ _ h => h⟩, trivial⟩, trivial⟩⟩, trivial⟩⟩
theorem eq (R : EP) (x0 : OA) (w : World) : g_parseState_curB R x0 w = vcA P 24 (ac R) (QF P [.tmp 2] R) (fr0 [.pointer x0]) w := by kernel_rfl
theorem sound {R : EP} {x0 : OA} {w : World} (h : g_parseState_curB R x0 w) : callE P i_parseState_curB #[.pointer x0] R w :=
 callE_fz (c := body) Tryz.func187 Tryz.call187 (good R) (eq R x0 w) h
end g_parseState_curB
namespace g_parseState_nextB
noncomputable def body : Code := bodyOf Tryz.f182
end g_parseState_nextB
def g_parseState_nextB (R : EP) (x0 : OA) (w : World) : Prop :=
 tk w fun w1 =>
 nilP x0 fun a2 =>
 nilP x0 fun a3 =>
 ∃ (v4 : Int), w1.cell? (a2.add 5) = some (.int .i64 v4) ∧
 ∃ (v5q : OA), ∃ (v5n : Nat), ∃ (v5c : Nat), w1.cell? (a3.add 4) = some (.slice v5q v5n v5c) ∧
 br (decide ((IntKind.i64.wrap (v4 + 1)) < (v5n : Int)))
 (tk w1 fun w6 =>
 nilP x0 fun a7 =>
 nilP x0 fun a8 =>
 ∃ (v9q : OA), ∃ (v9n : Nat), ∃ (v9c : Nat), w6.cell? (a7.add 4) = some (.slice v9q v9n v9c) ∧
 ∃ (v10 : Int), w6.cell? (a8.add 5) = some (.int .i64 v10) ∧
 0 ≤ (IntKind.i64.wrap (v10 + 1)) ∧ (IntKind.i64.wrap (v10 + 1)) < (v9n : Int) ∧
 nilP v9q fun a11 =>
 ∃ (v12 : Value), w6.cell? (a11.add (Int.toNat (IntKind.i64.wrap (v10 + 1)) * 4)) = some v12 ∧
 R (.returned v12) w6)
 (R (.returned .nilIface) w1)

namespace g_parseState_nextB
noncomputable def ac (R : EP) : AC :=
 (.seq (.leaf (sel [0] body)) (.seq (.seq (.draw (.pure 0 (.pure 1 (.pure 2 (.pure 5 (.pure 6 (.pure 7 (.load 3 (.pure 4 (.load 8 (.pure 9 (.pure 10 .done))))))))))) (sel [1,0,0] body)) (.cond 13 (.seq (.draw (.pure 0 (.pure 1 (.pure 2 (.pure 4 (.pure 5 (.pure 6 (.load 3 (.load 7 (.pure 8 (.pure 9 (.pure 10 (.load 11 (.pure 12 .done))))))))))))) (sel [1,0,1,0,0] body)) (.leaf (sel [1,0,1,0,1] body))) (.leaf (sel [1,0,1,1] body)))) (.leaf (sel [1,1] body))))
theorem good (R : EP) : Good P 26 (ac R) (QF P [.tmp 2] R) :=
 ⟨trivial, ⟨⟨⟨by kernel_rfl, by kernel_rfl, fun _ _ _ h => h⟩, ⟨⟨⟨by kernel_rfl, by kernel_rfl, fun _ _ _ h => h⟩, trivial⟩, trivial⟩⟩, trivial⟩⟩
theorem eq (R : EP) (x0 : OA) (w : World) : g_parseState_nextB R x0 w = vcA P 26 (ac R) (QF P [.tmp 2] R) (fr0 [.pointer x0]) w := by kernel_rfl
theorem sound {R : EP} {x0 : OA} {w : World} (h : g_parseState_nextB R x0 w) : callE P i_parseState_nextB #[.pointer x0] R w :=
 callE_fz (c := body) Tryz.func182 Tryz.call182 (good R) (eq R x0 w) h
end g_parseState_nextB
namespace g_parseState_startListItem
noncomputable def body : Code := bodyOf Tryz.f188
def k5 (R : EP) (Xa : Nat → Nat → Int → Int → Int → Nat → Int → Int → WP) (x2 x5 : Nat) (x6 x8 x9 : Int) (x12 : Nat) (x13 x14 : Int) (w : World) : Prop :=
 Xa x2 x5 x6 x8 x9 x12 (IntKind.i64.wrap (x13 + 1)) (IntKind.i64.wrap (x14 + 1)) w

def k9 (R : EP) (Xb : Nat → Nat → Int → Int → Int → WP) (x2 x5 : Nat) (x6 x9 : Int) (x10 x11 : Int) (w : World) : Prop :=
 ∃ (v63 : Int), w.cell? ⟨x5, 1, none⟩ = some (.int .i64 v63) ∧
 br (decide ((IntKind.i64.wrap (x10 - v63)) ≥ 9))
 (R (.returned (.bool false)) w)
 (Xb x2 x5 x6 (IntKind.i64.wrap ((IntKind.i64.wrap ((IntKind.i64.wrap (x9 * 10)) + (IntKind.i64.wrap x11))) - 48)) (IntKind.i64.wrap (x10 + 1)) w)

def k14 (R : EP) (x2 x5 : Nat) (x15 x18 : Nat) (w : World) : Prop :=
 ∃ (v111 : OA), w.cell? ⟨x15, 0, none⟩ = some (.pointer v111) ∧
 nilP v111 fun a112 =>
 stV w ((a112.add 4).add 0) (.func (.func i_parseState_startListItem_1) #[] #[.pointer (some ⟨x2, 0, none⟩), .pointer (some ⟨x18, 0, none⟩), .pointer (some ⟨x15, 0, none⟩), .pointer (some ⟨x5, 0, none⟩)]) fun w113 =>
 R (.returned (.bool true)) w113

def k13 (R : EP) (x2 x5 : Nat) (x6 : Int) (x15 : Nat) (w : World) : Prop :=
 tk w fun w90 =>
 ∃ (v91 : OA), w90.cell? ⟨x15, 0, none⟩ = some (.pointer v91) ∧
 (callE P i_line_isBlank #[.pointer (some ⟨x5, 0, none⟩)] (fun e w93 => ∃ (r92 : Bool), e = .returned (.bool r92) ∧
 SameC w90 w93 ⟨x15, 0, none⟩ 1 ∧
 (box w93 #[.pointer v91, .int .i64 x6, .bool (!r92)] ty_itemBuilder fun b94 w95 =>
 box w95 #[.pointer none] ty_P_itemBuilder fun b96 w97 =>
 SameC w95 w97 ⟨x15, 0, none⟩ 1 ∧
 stV w97 ⟨b96, 0, none⟩ (.pointer (some ⟨b94, 0, none⟩)) fun w98 =>
 k14 R x2 x5 x15 b96 w98) ∧
 (box w93 #[.pointer none] ty_P_itemBuilder fun b99 w100 =>
 SameC w93 w100 ⟨x15, 0, none⟩ 1 ∧
 box w100 #[.pointer v91, .int .i64 x6, .bool (!r92)] ty_itemBuilder fun b101 w102 =>
 stV w102 ⟨b99, 0, none⟩ (.pointer (some ⟨b101, 0, none⟩)) fun w103 =>
 k14 R x2 x5 x15 b99 w103)) w90) ∧
 (box w90 #[.pointer none] ty_P_itemBuilder fun b104 w105 =>
 SameC w90 w105 ⟨x15, 0, none⟩ 1 ∧
 callE P i_line_isBlank #[.pointer (some ⟨x5, 0, none⟩)] (fun e w107 => ∃ (r106 : Bool), e = .returned (.bool r106) ∧
 SameC w105 w107 ⟨x15, 0, none⟩ 1 ∧
 box w107 #[.pointer v91, .int .i64 x6, .bool (!r106)] ty_itemBuilder fun b108 w109 =>
 stV w109 ⟨b104, 0, none⟩ (.pointer (some ⟨b108, 0, none⟩)) fun w110 =>
 k14 R x2 x5 x15 b104 w110) w105)

def k12 (R : EP) (x2 x5 : Nat) (x6 x8 x9 : Int) (x15 : Nat) (x158 : Bool) (w : World) : Prop :=
 br x158
 (∃ (v80 : OA), w.cell? ⟨x2, 0, none⟩ = some (.pointer v80) ∧
 nilP v80 fun a81 =>
 stV w ((a81.add 6).add 0) (.bool true) fun w82 =>
 R (.returned (.bool false)) w82)
 (box w #[.int .i32 (IntKind.i32.wrap x8), .int .i64 x9, .bool false, .pointer none, .nilFunc] ty_listBuilder fun b83 w84 =>
 stV w84 ⟨x15, 0, none⟩ (.pointer (some ⟨b83, 0, none⟩)) fun w85 =>
 ∃ (v86 : OA), w85.cell? ⟨x2, 0, none⟩ = some (.pointer v86) ∧
 ∃ (v87 : OA), w85.cell? ⟨x15, 0, none⟩ = some (.pointer v87) ∧
 callE P i_parseState_addBlock #[.pointer v86, .iface ty_P_listBuilder (.pointer v87)] (fun e w89 => e = .returned (.tuple #[]) ∧
 k13 R x2 x5 x6 x15 w89) w85)

def k11 (R : EP) (x2 x5 : Nat) (x6 x8 x9 : Int) (x15 : Nat) (x136 : Bool) (w : World) : Prop :=
 br x136
 (∃ (v70 : OA), w.cell? ⟨x15, 0, none⟩ = some (.pointer v70) ∧
 ∃ (r71 : Bool), ∃ w72, (do eqGuard .eql ty_P_listBuilder (.tmp 137) (.const (.pointer none)) (.pointer v70) (.pointer none); binOp .eql ty_P_listBuilder (.pointer v70) (.pointer none)).run P w = .ok (.bool r71) w72 ∧
 br r71
 (∃ (v73 : OA), w72.cell? ⟨x2, 0, none⟩ = some (.pointer v73) ∧
 callE P i_parseState_para #[.pointer v73] (fun e w75 => ∃ (r74 : OA), e = .returned (.pointer r74) ∧
 ∃ (r76 : Bool), ∃ w77, (do eqGuard .neq ty_P_paraBuilder (.tmp 141) (.const (.pointer none)) (.pointer r74) (.pointer none); binOp .neq ty_P_paraBuilder (.pointer r74) (.pointer none)).run P w75 = .ok (.bool r76) w77 ∧
 br r76
 (callE P i_line_isBlank #[.pointer (some ⟨x5, 0, none⟩)] (fun e w79 => ∃ (r78 : Bool), e = .returned (.bool r78) ∧
 k12 R x2 x5 x6 x8 x9 x15 (r78 || (((x8 == 46) || (x8 == 41)) && (x9 != 1))) w79) w77)
 (k12 R x2 x5 x6 x8 x9 x15 false w77)) w72)
 (k12 R x2 x5 x6 x8 x9 x15 false w72))
 (k13 R x2 x5 x6 x15 w)

def k10 (R : EP) (x2 x5 : Nat) (x6 x8 x9 : Int) (x15 : Nat) (w : World) : Prop :=
 ∃ (v64 : OA), w.cell? ⟨x15, 0, none⟩ = some (.pointer v64) ∧
 ∃ (r65 : Bool), ∃ w66, (do eqGuard .eql ty_P_listBuilder (.tmp 126) (.const (.pointer none)) (.pointer v64) (.pointer none); binOp .eql ty_P_listBuilder (.pointer v64) (.pointer none)).run P w = .ok (.bool r65) w66 ∧
 br r65
 (k11 R x2 x5 x6 x8 x9 x15 true w66)
 (∃ (v67 : OA), w66.cell? ⟨x15, 0, none⟩ = some (.pointer v67) ∧
 nilP v67 fun a68 =>
 ∃ (v69 : Int), w66.cell? a68 = some (.int .i32 v69) ∧
 k11 R x2 x5 x6 x8 x9 x15 (v69 != (IntKind.i32.wrap x8)) w66)

def k8 (R : EP) (x2 x5 : Nat) (x6 x8 x9 : Int) (w : World) : Prop :=
 box w #[.pointer none] ty_P_listBuilder fun b55 w56 =>
 ∃ (v57 : OA), w56.cell? ⟨x2, 0, none⟩ = some (.pointer v57) ∧
 callE P i_parseState_nextB #[.pointer v57] (fun e w59 => ∃ (r58 : Value), e = .returned r58 ∧
 ∃ (r60_0 : OA), ∃ (r60_1 : Bool), ∃ w61, (Instr.typeAssert r58 ty_blockBuilder ty_P_listBuilder true).run P w59 = .ok (.tuple #[.pointer r60_0, .bool r60_1]) w61 ∧
 br r60_1
 (stV w61 ⟨b55, 0, none⟩ (.pointer r60_0) fun w62 =>
 k10 R x2 x5 x6 x8 x9 b55 w62)
 (k10 R x2 x5 x6 x8 x9 b55 w61)) w56

def k6 (R : EP) (x2 x5 : Nat) (x6 x8 x9 : Int) (x12 : Nat) (x13 : Int) (w : World) : Prop :=
 callE P i_line_trimSpace #[.pointer (some ⟨x12, 0, none⟩), .int .i64 1, .int .i64 1, .bool true] (fun e w42 => ∃ (r41 : Bool), e = .returned (.bool r41) ∧
 br (!r41)
 (∃ (v43 : Int), w42.cell? ⟨x12, 0, none⟩ = some (.int .i64 v43) ∧
 ∃ (v44 : Int), w42.cell? ⟨x12, 1, none⟩ = some (.int .i64 v44) ∧
 ∃ (v45 : Int), w42.cell? ⟨x12, 2, none⟩ = some (.int .i64 v45) ∧
 ∃ (v46 : BA), w42.cell? ⟨x12, 3, none⟩ = some (.string v46) ∧
 ∃ (v47 : Int), w42.cell? ⟨x12, 4, none⟩ = some (.int .u8 v47) ∧
 stV w42 ⟨x5, 0, none⟩ (.int .i64 v43) fun w48 =>
 stV w48 ⟨x5, 1, none⟩ (.int .i64 v44) fun w49 =>
 stV w49 ⟨x5, 2, none⟩ (.int .i64 v45) fun w50 =>
 stV w50 ⟨x5, 3, none⟩ (.string v46) fun w51 =>
 stV w51 ⟨x5, 4, none⟩ (.int .u8 v47) fun w52 =>
 k8 R x2 x5 (IntKind.i64.wrap (x6 + x13)) x8 x9 w52)
 (k8 R x2 x5 x6 x8 x9 w42)) w

def bl2 (R : EP) (Xa : Nat → Nat → Int → Int → Int → Nat → Int → Int → WP) (x2 x5 : Nat) (x6 x8 x9 : Int) (x12 : Nat) (x13 x14 : Int) (w : World) : Prop :=
 br (decide (x14 < 3))
 (callE P i_line_trimSpace #[.pointer (some ⟨x12, 0, none⟩), .int .i64 1, .int .i64 1, .bool false] (fun e w38 => ∃ (r37 : Bool), e = .returned (.bool r37) ∧
 br r37
 (k5 R Xa x2 x5 x6 x8 x9 x12 x13 x14 w38)
 (k6 R x2 x5 x6 x8 x9 x12 x13 w38)) w)
 (k6 R x2 x5 x6 x8 x9 x12 x13 w)
def l2 (R : EP) (x2 x5 : Nat) (x6 x8 x9 : Int) (x12 : Nat) (x13 x14 : Int) (w : World) : Prop :=
 ∀ X : Nat → Nat → Int → Int → Int → Nat → Int → Int → WP, (∀ x2 x5 x6 x8 x9 x12 x13 x14 w, bl2 R X x2 x5 x6 x8 x9 x12 x13 x14 w → X x2 x5 x6 x8 x9 x12 x13 x14 w) → X x2 x5 x6 x8 x9 x12 x13 x14 w

noncomputable def al2 (R : EP) (Xa : Nat → Nat → Int → Int → Int → Nat → Int → Int → WP) : AC :=
 (.seq (.leaf (sel [1,0,1,1,1,1,1,1,1,1,1,1,1,0,1,0,0,0] body)) (.mark (leaf [(2, .s .loc), (5, .s .loc), (6, .s (.int .i64)), (8, .s (.int .u8)), (9, .s (.int .i64)), (12, .s .loc), (13, .s (.int .i64)), (14, .s (.int .i64))] (k5 R Xa)) (.leaf (sel [1,0,1,1,1,1,1,1,1,1,1,1,1,0,1,0,0,1] body))))
def k3 (R : EP) (x2 x5 : Nat) (x6 x8 x9 : Int) (w : World) : Prop :=
 callE P i_line_trimSpace #[.pointer (some ⟨x5, 0, none⟩), .int .i64 1, .int .i64 1, .bool true] (fun e w23 => ∃ (r22 : Bool), e = .returned (.bool r22) ∧
 br (!r22)
 (R (.returned (.bool false)) w23)
 (∃ (v24 : Int), w23.cell? ⟨x5, 0, none⟩ = some (.int .i64 v24) ∧
 ∃ (v25 : Int), w23.cell? ⟨x5, 1, none⟩ = some (.int .i64 v25) ∧
 ∃ (v26 : Int), w23.cell? ⟨x5, 2, none⟩ = some (.int .i64 v26) ∧
 ∃ (v27 : BA), w23.cell? ⟨x5, 3, none⟩ = some (.string v27) ∧
 ∃ (v28 : Int), w23.cell? ⟨x5, 4, none⟩ = some (.int .u8 v28) ∧
 box w23 #[.int .i64 0, .int .i64 0, .int .i64 0, .string (ByteArray.mk #[]), .int .u8 0] ty_line fun b29 w30 =>
 stV w30 ⟨b29, 0, none⟩ (.int .i64 v24) fun w31 =>
 stV w31 ⟨b29, 1, none⟩ (.int .i64 v25) fun w32 =>
 stV w32 ⟨b29, 2, none⟩ (.int .i64 v26) fun w33 =>
 stV w33 ⟨b29, 3, none⟩ (.string v27) fun w34 =>
 stV w34 ⟨b29, 4, none⟩ (.int .u8 v28) fun w35 =>
 l2 R x2 x5 (IntKind.i64.wrap (x6 + 1)) x8 x9 b29 0 0 w35)) w

def k7 (R : EP) (Xb : Nat → Nat → Int → Int → Int → WP) (x2 x5 : Nat) (x6 x9 : Int) (x10 x11 : Int) (x69 : Bool) (w : World) : Prop :=
 br x69
 (∃ (v53 : Int), w.cell? ⟨x5, 1, none⟩ = some (.int .i64 v53) ∧
 stV w ⟨x5, 1, none⟩ (.int .i64 (IntKind.i64.wrap (x10 + 1))) fun w54 =>
 k3 R x2 x5 (IntKind.i64.wrap (x6 + (IntKind.i64.wrap ((IntKind.i64.wrap (x10 + 1)) - v53)))) x11 x9 w54)
 (br ((decide (x11 < 48)) || (decide (57 < x11)))
 (R (.returned (.bool false)) w)
 (k9 R Xb x2 x5 x6 x9 x10 x11 w))

def bl3 (R : EP) (Xb : Nat → Nat → Int → Int → Int → WP) (x2 x5 : Nat) (x6 x9 x10 : Int) (w : World) : Prop :=
 ∃ (v39 : BA), w.cell? ⟨x5, 3, none⟩ = some (.string v39) ∧
 br (decide (x10 ≥ (v39.size : Int)))
 (R (.returned (.bool false)) w)
 (∃ (v40 : BA), w.cell? ⟨x5, 3, none⟩ = some (.string v40) ∧
 0 ≤ x10 ∧ x10 < (v40.size : Int) ∧
 k7 R Xb x2 x5 x6 x9 x10 (bt v40 x10) (((bt v40 x10) == 46) || ((bt v40 x10) == 41)) w)
def l3 (R : EP) (x2 x5 : Nat) (x6 x9 x10 : Int) (w : World) : Prop :=
 ∀ X : Nat → Nat → Int → Int → Int → WP, (∀ x2 x5 x6 x9 x10 w, bl3 R X x2 x5 x6 x9 x10 w → X x2 x5 x6 x9 x10 w) → X x2 x5 x6 x9 x10 w

noncomputable def al3 (R : EP) (Xb : Nat → Nat → Int → Int → Int → WP) : AC :=
 (.seq (.block 4 (.seq (.leaf (sel [1,0,1,1,1,1,1,1,0,1,0,1,1,1,0,1,0,0,0,0,0] body)) (.seq (.leaf (sel [1,0,1,1,1,1,1,1,0,1,0,1,1,1,0,1,0,0,0,0,1,0] body)) (.seq (.seq (.leaf (sel [1,0,1,1,1,1,1,1,0,1,0,1,1,1,0,1,0,0,0,0,1,1,0,0] body)) (.mark (leaf [(2, .s .loc), (5, .s .loc), (6, .s (.int .i64)), (9, .s (.int .i64)), (10, .s (.int .i64)), (11, .s (.int .u8)), (69, .s .bool)] (k7 R Xb)) (.leaf (sel [1,0,1,1,1,1,1,1,0,1,0,1,1,1,0,1,0,0,0,0,1,1,0,1] body)))) (.seq (.leaf (sel [1,0,1,1,1,1,1,1,0,1,0,1,1,1,0,1,0,0,0,0,1,1,1,0] body)) (.mark (leaf [(2, .s .loc), (5, .s .loc), (6, .s (.int .i64)), (9, .s (.int .i64)), (10, .s (.int .i64)), (11, .s (.int .u8))] (k9 R Xb)) (.leaf (sel [1,0,1,1,1,1,1,1,0,1,0,1,1,1,0,1,0,0,0,0,1,1,1,1] body)))))))) (.leaf (sel [1,0,1,1,1,1,1,1,0,1,0,1,1,1,0,1,0,0,1] body)))
def k4 (R : EP) (x2 x5 : Nat) (x6 x9 : Int) (x40 : Bool) (w : World) : Prop :=
 br x40
 (∃ (v36 : Int), w.cell? ⟨x5, 1, none⟩ = some (.int .i64 v36) ∧
 l3 R x2 x5 x6 x9 v36 w)
 (R (.returned (.bool false)) w)

def k2 (R : EP) (x2 x5 : Nat) (x6 x8 : Int) (x9 x31 : Int) (x32 : Bool) (w : World) : Prop :=
 br x32
 (callE P i_line_trim #[.pointer (some ⟨x5, 0, none⟩), .int .u8 x8] (fun e w21 => ∃ (r20 : Bool), e = .returned (.bool r20) ∧
 k3 R x2 x5 (IntKind.i64.wrap (x6 + 1)) x8 x9 w21) w)
 (br (x31 == 48)
 (k4 R x2 x5 x6 x9 true w)
 (br (x31 == 49)
 (k4 R x2 x5 x6 x9 true w)
 (br (x31 == 50)
 (k4 R x2 x5 x6 x9 true w)
 (br (x31 == 51)
 (k4 R x2 x5 x6 x9 true w)
 (br (x31 == 52)
 (k4 R x2 x5 x6 x9 true w)
 (br (x31 == 53)
 (k4 R x2 x5 x6 x9 true w)
 (br (x31 == 54)
 (k4 R x2 x5 x6 x9 true w)
 (br (x31 == 55)
 (k4 R x2 x5 x6 x9 true w)
 (br (x31 == 56)
 (k4 R x2 x5 x6 x9 true w)
 (k4 R x2 x5 x6 x9 (x31 == 57) w))))))))))

def k1 (R : EP) (x2 x5 : Nat) (x6 : Int) (w : World) : Prop :=
 callE P i_line_peek #[.pointer (some ⟨x5, 0, none⟩)] (fun e w19 => ∃ (r18 : Int), e = .returned (.int .u8 r18) ∧
 br (r18 == 45)
 (k2 R x2 x5 x6 r18 0 r18 true w19)
 (br (r18 == 42)
 (k2 R x2 x5 x6 r18 0 r18 true w19)
 (k2 R x2 x5 x6 r18 0 r18 (r18 == 43) w19))) w

def bl1 (R : EP) (Xc : Nat → Nat → Int → Int → WP) (x2 x5 : Nat) (x6 x7 : Int) (w : World) : Prop :=
 br (decide (x7 < 3))
 (callE P i_line_trimSpace #[.pointer (some ⟨x5, 0, none⟩), .int .i64 1, .int .i64 1, .bool false] (fun e w17 => ∃ (r16 : Bool), e = .returned (.bool r16) ∧
 br (!r16)
 (k1 R x2 x5 x6 w17)
 (Xc x2 x5 (IntKind.i64.wrap (x6 + 1)) (IntKind.i64.wrap (x7 + 1)) w17)) w)
 (k1 R x2 x5 x6 w)
def l1 (R : EP) (x2 x5 : Nat) (x6 x7 : Int) (w : World) : Prop :=
 ∀ X : Nat → Nat → Int → Int → WP, (∀ x2 x5 x6 x7 w, bl1 R X x2 x5 x6 x7 w → X x2 x5 x6 x7 w) → X x2 x5 x6 x7 w

noncomputable def al1 (R : EP) (Xc : Nat → Nat → Int → Int → WP) : AC :=
 (.leaf (sel [1,0,1,1,0,1,0,0] body))
end g_parseState_startListItem
def g_parseState_startListItem (R : EP) (x0 x1 : OA) (w : World) : Prop :=
 box w #[.pointer x0] ty_P_parseState fun b1 w2 =>
 nilP x1 fun a3 =>
 ∃ (v4 : Int), w2.cell? (a3.add 0) = some (.int .i64 v4) ∧
 ∃ (v5 : Int), w2.cell? (a3.add 1) = some (.int .i64 v5) ∧
 ∃ (v6 : Int), w2.cell? (a3.add 2) = some (.int .i64 v6) ∧
 ∃ (v7 : BA), w2.cell? (a3.add 3) = some (.string v7) ∧
 ∃ (v8 : Int), w2.cell? (a3.add 4) = some (.int .u8 v8) ∧
 box w2 #[.int .i64 0, .int .i64 0, .int .i64 0, .string (ByteArray.mk #[]), .int .u8 0] ty_line fun b9 w10 =>
 stV w10 ⟨b9, 0, none⟩ (.int .i64 v4) fun w11 =>
 stV w11 ⟨b9, 1, none⟩ (.int .i64 v5) fun w12 =>
 stV w12 ⟨b9, 2, none⟩ (.int .i64 v6) fun w13 =>
 stV w13 ⟨b9, 3, none⟩ (.string v7) fun w14 =>
 stV w14 ⟨b9, 4, none⟩ (.int .u8 v8) fun w15 =>
 g_parseState_startListItem.l1 R b1 b9 0 0 w15

namespace g_parseState_startListItem
noncomputable def ac (R : EP) : AC :=
 (.seq (.leaf (sel [0] body)) (.scope (.seq (.leaf (sel [1,0,0] body)) (.seq (.leaf (sel [1,0,1,0] body)) (.seq (.seq (.leaf (sel [1,0,1,1,0,0] body)) (.block 0 (.loop (leaf [(2, .s .loc), (5, .s .loc), (6, .s (.int .i64)), (7, .s (.int .i64))] (l1 R)) (sel [1,0,1,1,0,1,0,0] body)))) (.mark (leaf [(2, .s .loc), (5, .s .loc), (6, .s (.int .i64))] (k1 R)) (.seq (.leaf (sel [1,0,1,1,1,0] body)) (.seq (.leaf (sel [1,0,1,1,1,1,0] body)) (.seq (.leaf (sel [1,0,1,1,1,1,1,0] body)) (.seq (.seq (.leaf (sel [1,0,1,1,1,1,1,1,0,0] body)) (.block 2 (.seq (.leaf (sel [1,0,1,1,1,1,1,1,0,1,0,0] body)) (.mark (leaf [(2, .s .loc), (5, .s .loc), (6, .s (.int .i64)), (8, .s (.int .u8)), (9, .s (.int .i64)), (31, .s (.int .u8)), (32, .s .bool)] (k2 R)) (.cond 32 (.leaf (sel [1,0,1,1,1,1,1,1,0,1,0,1,0] body)) (.seq (.leaf (sel [1,0,1,1,1,1,1,1,0,1,0,1,1,0] body)) (.mark (leaf [(2, .s .loc), (5, .s .loc), (6, .s (.int .i64)), (9, .s (.int .i64)), (40, .s .bool)] (k4 R)) (.cond 40 (.seq (.leaf (sel [1,0,1,1,1,1,1,1,0,1,0,1,1,1,0,0] body)) (.block 3 (.loop (leaf [(2, .s .loc), (5, .s .loc), (6, .s (.int .i64)), (9, .s (.int .i64)), (10, .s (.int .i64))] (l3 R)) (sel [1,0,1,1,1,1,1,1,0,1,0,1,1,1,0,1,0,0] body)))) (.leaf (sel [1,0,1,1,1,1,1,1,0,1,0,1,1,1,1] body)))))))))) (.mark (leaf [(2, .s .loc), (5, .s .loc), (6, .s (.int .i64)), (8, .s (.int .u8)), (9, .s (.int .i64))] (k3 R)) (.seq (.leaf (sel [1,0,1,1,1,1,1,1,1,0] body)) (.seq (.leaf (sel [1,0,1,1,1,1,1,1,1,1,0] body)) (.seq (.leaf (sel [1,0,1,1,1,1,1,1,1,1,1,0] body)) (.seq (.leaf (sel [1,0,1,1,1,1,1,1,1,1,1,1,0] body)) (.seq (.seq (.leaf (sel [1,0,1,1,1,1,1,1,1,1,1,1,1,0,0] body)) (.block 5 (.loop (leaf [(2, .s .loc), (5, .s .loc), (6, .s (.int .i64)), (8, .s (.int .u8)), (9, .s (.int .i64)), (12, .s .loc), (13, .s (.int .i64)), (14, .s (.int .i64))] (l2 R)) (sel [1,0,1,1,1,1,1,1,1,1,1,1,1,0,1,0,0] body)))) (.mark (leaf [(2, .s .loc), (5, .s .loc), (6, .s (.int .i64)), (8, .s (.int .u8)), (9, .s (.int .i64)), (12, .s .loc), (13, .s (.int .i64))] (k6 R)) (.seq (.leaf (sel [1,0,1,1,1,1,1,1,1,1,1,1,1,1,0] body)) (.mark (leaf [(2, .s .loc), (5, .s .loc), (6, .s (.int .i64)), (8, .s (.int .u8)), (9, .s (.int .i64))] (k8 R)) (.seq (.leaf (sel [1,0,1,1,1,1,1,1,1,1,1,1,1,1,1,0] body)) (.seq (.leaf (sel [1,0,1,1,1,1,1,1,1,1,1,1,1,1,1,1,0] body)) (.mark (leaf [(2, .s .loc), (5, .s .loc), (6, .s (.int .i64)), (8, .s (.int .u8)), (9, .s (.int .i64)), (15, .s .loc)] (k10 R)) (.seq (.seq (.leaf (sel [1,0,1,1,1,1,1,1,1,1,1,1,1,1,1,1,1,0,0] body)) (.mark (leaf [(2, .s .loc), (5, .s .loc), (6, .s (.int .i64)), (8, .s (.int .u8)), (9, .s (.int .i64)), (15, .s .loc), (136, .s .bool)] (k11 R)) (.cond 136 (.seq (.seq (.leaf (sel [1,0,1,1,1,1,1,1,1,1,1,1,1,1,1,1,1,0,1,0,0,0] body)) (.mark (leaf [(2, .s .loc), (5, .s .loc), (6, .s (.int .i64)), (8, .s (.int .u8)), (9, .s (.int .i64)), (15, .s .loc), (158, .s .bool)] (k12 R)) (.leaf (sel [1,0,1,1,1,1,1,1,1,1,1,1,1,1,1,1,1,0,1,0,0,1] body)))) (.leaf (sel [1,0,1,1,1,1,1,1,1,1,1,1,1,1,1,1,1,0,1,0,1] body))) (.leaf (sel [1,0,1,1,1,1,1,1,1,1,1,1,1,1,1,1,1,0,1,1] body))))) (.mark (leaf [(2, .s .loc), (5, .s .loc), (6, .s (.int .i64)), (15, .s .loc)] (k13 R)) (.seq (.draw (.pure 1 (.load 0 (.two 2 (.pure 3 (.pure 4 (.two 5 (.one 6 (.one 7 .done)) 6 (.one 5 (.one 7 .done))))) 6 (.one 2 (.pure 3 (.pure 4 (.one 5 (.one 7 .done)))))))) (sel [1,0,1,1,1,1,1,1,1,1,1,1,1,1,1,1,1,1,0] body)) (.mark (leaf [(2, .s .loc), (5, .s .loc), (15, .s .loc), (18, .s .loc)] (k14 R)) (.leaf (sel [1,0,1,1,1,1,1,1,1,1,1,1,1,1,1,1,1,1,1] body))))))))))))))))))))))))))))
theorem good (R : EP) : Good P 181 (ac R) (QF P [.tmp 4] R) :=
 ⟨trivial, ⟨trivial, ⟨trivial, ⟨⟨trivial, (loopG (al1 R) (bl1 R) (fun _ => by kernel_rfl) (fun Xc => trivial) (fun Xc => by intro x2 x5 x6 x7 ρ w; kernel_rfl) (fun X h _ _ _ _ _ g => g X h))⟩, ⟨⟨trivial, ⟨trivial, ⟨trivial, ⟨⟨trivial, ⟨trivial, ⟨⟨trivial, ⟨trivial, ⟨⟨⟨trivial, (loopG (al3 R) (bl3 R) (fun _ => by kernel_rfl) (fun Xb => ⟨⟨trivial, ⟨trivial, ⟨⟨trivial, ⟨trivial, cutZ⟩⟩, ⟨trivial, ⟨trivial, cutZ⟩⟩⟩⟩⟩, trivial⟩) (fun Xb => by intro x2 x5 x6 x9 x10 ρ w; kernel_rfl) (fun X h _ _ _ _ _ _ g => g X h))⟩, trivial⟩, cutZ⟩⟩⟩, cutZ⟩⟩⟩, ⟨⟨trivial, ⟨trivial, ⟨trivial, ⟨trivial, ⟨⟨trivial, (loopG (al2 R) (bl2 R) (fun _ => by kernel_rfl) (fun Xa => ⟨trivial, ⟨trivial, cutZ⟩⟩) (fun Xa => by intro x2 x5 x6 x8 x9 x12 x13 x14 ρ w; kernel_rfl) (fun X h _ _ _ _ _ _ _ _ _ g => g X h))⟩, ⟨⟨trivial, ⟨⟨trivial, ⟨trivial, ⟨⟨⟨trivial, ⟨⟨⟨⟨trivial, ⟨trivial, cutZ⟩⟩, trivial⟩, trivial⟩, cutZ⟩⟩, ⟨⟨⟨by kernel_rfl, by kernel_rfl, fun _ _ _ h => h⟩, ⟨trivial, cutZ⟩⟩, cutZ⟩⟩, cutZ⟩⟩⟩, cutZ⟩⟩, cutZ⟩⟩⟩⟩⟩⟩, cutZ⟩⟩⟩⟩⟩, cutZ⟩⟩⟩⟩⟩
theorem eq (R : EP) (x0 x1 : OA) (w : World) : g_parseState_startListItem R x0 x1 w = vcA P 181 (ac R) (QF P [.tmp 4] R) (fr0 [.pointer x0, .pointer x1]) w := by kernel_rfl
theorem sound {R : EP} {x0 x1 : OA} {w : World} (h : g_parseState_startListItem R x0 x1 w) : callE P i_parseState_startListItem #[.pointer x0, .pointer x1] R w :=
 callE_fz (c := body) Tryz.func188 Tryz.call188 (good R) (eq R x0 x1 w) h
end g_parseState_startListItem
namespace g_newHTML
noncomputable def body : Code := bodyOf Tryz.f129
end g_newHTML
def g_newHTML (R : EP) (x0 : OA) (x1_0 x1_1 x1_2 : Int) (x1_3 : BA) (x1_4 : Int) (w : World) : Prop :=
 box w #[.int .i64 x1_0, .int .i64 x1_1, .int .i64 x1_2, .string x1_3, .int .u8 x1_4] ty_line fun b1 w2 =>
 box w2 #[.int .i64 0, .int .i64 0, .int .i64 0, .string (ByteArray.mk #[]), .int .u8 0] ty_line fun b3 w4 =>
 ∃ (v5 : Int), w4.cell? ⟨b1, 0, none⟩ = some (.int .i64 v5) ∧
 ∃ (v6 : Int), w4.cell? ⟨b1, 1, none⟩ = some (.int .i64 v6) ∧
 ∃ (v7 : Int), w4.cell? ⟨b1, 2, none⟩ = some (.int .i64 v7) ∧
 ∃ (v8 : BA), w4.cell? ⟨b1, 3, none⟩ = some (.string v8) ∧
 ∃ (v9 : Int), w4.cell? ⟨b1, 4, none⟩ = some (.int .u8 v9) ∧
 box w4 #[.int .i64 0, .int .i64 0, .int .i64 0, .string (ByteArray.mk #[]), .int .u8 0] ty_line fun b10 w11 =>
 stV w11 ⟨b10, 0, none⟩ (.int .i64 v5) fun w12 =>
 stV w12 ⟨b10, 1, none⟩ (.int .i64 v6) fun w13 =>
 stV w13 ⟨b10, 2, none⟩ (.int .i64 v7) fun w14 =>
 stV w14 ⟨b10, 3, none⟩ (.string v8) fun w15 =>
 stV w15 ⟨b10, 4, none⟩ (.int .u8 v9) fun w16 =>
 callE P i_parseState_startHTML #[.pointer x0, .pointer (some ⟨b10, 0, none⟩)] (fun e w18 => ∃ (r17 : Bool), e = .returned (.bool r17) ∧
 br r17
 (stV w18 ⟨b3, 0, none⟩ (.int .i64 0) fun w19 =>
 stV w19 ⟨b3, 1, none⟩ (.int .i64 0) fun w20 =>
 stV w20 ⟨b3, 2, none⟩ (.int .i64 0) fun w21 =>
 stV w21 ⟨b3, 3, none⟩ (.string (ByteArray.mk #[])) fun w22 =>
 stV w22 ⟨b3, 4, none⟩ (.int .u8 0) fun w23 =>
 ∃ (v24 : Int), w23.cell? ⟨b3, 0, none⟩ = some (.int .i64 v24) ∧
 ∃ (v25 : Int), w23.cell? ⟨b3, 1, none⟩ = some (.int .i64 v25) ∧
 ∃ (v26 : Int), w23.cell? ⟨b3, 2, none⟩ = some (.int .i64 v26) ∧
 ∃ (v27 : BA), w23.cell? ⟨b3, 3, none⟩ = some (.string v27) ∧
 ∃ (v28 : Int), w23.cell? ⟨b3, 4, none⟩ = some (.int .u8 v28) ∧
 R (.returned (.tuple #[.agg #[.int .i64 v24, .int .i64 v25, .int .i64 v26, .string v27, .int .u8 v28], .bool true])) w23)
 (∃ (v29 : Int), w18.cell? ⟨b1, 0, none⟩ = some (.int .i64 v29) ∧
 ∃ (v30 : Int), w18.cell? ⟨b1, 1, none⟩ = some (.int .i64 v30) ∧
 ∃ (v31 : Int), w18.cell? ⟨b1, 2, none⟩ = some (.int .i64 v31) ∧
 ∃ (v32 : BA), w18.cell? ⟨b1, 3, none⟩ = some (.string v32) ∧
 ∃ (v33 : Int), w18.cell? ⟨b1, 4, none⟩ = some (.int .u8 v33) ∧
 stV w18 ⟨b3, 0, none⟩ (.int .i64 v29) fun w34 =>
 stV w34 ⟨b3, 1, none⟩ (.int .i64 v30) fun w35 =>
 stV w35 ⟨b3, 2, none⟩ (.int .i64 v31) fun w36 =>
 stV w36 ⟨b3, 3, none⟩ (.string v32) fun w37 =>
 stV w37 ⟨b3, 4, none⟩ (.int .u8 v33) fun w38 =>
 ∃ (v39 : Int), w38.cell? ⟨b3, 0, none⟩ = some (.int .i64 v39) ∧
 ∃ (v40 : Int), w38.cell? ⟨b3, 1, none⟩ = some (.int .i64 v40) ∧
 ∃ (v41 : Int), w38.cell? ⟨b3, 2, none⟩ = some (.int .i64 v41) ∧
 ∃ (v42 : BA), w38.cell? ⟨b3, 3, none⟩ = some (.string v42) ∧
 ∃ (v43 : Int), w38.cell? ⟨b3, 4, none⟩ = some (.int .u8 v43) ∧
 R (.returned (.tuple #[.agg #[.int .i64 v39, .int .i64 v40, .int .i64 v41, .string v42, .int .u8 v43], .bool false])) w38)) w16

namespace g_newHTML
noncomputable def ac (R : EP) : AC :=
 (.leaf (sel [] body))
theorem good (R : EP) : Good P 12 (ac R) (QF P [.cell 4 159, .tmp 5] R) :=
 trivial
theorem eq (R : EP) (x0 : OA) (x1_0 x1_1 x1_2 : Int) (x1_3 : BA) (x1_4 : Int) (w : World) : g_newHTML R x0 x1_0 x1_1 x1_2 x1_3 x1_4 w = vcA P 12 (ac R) (QF P [.cell 4 159, .tmp 5] R) (fr0 [.pointer x0, .agg #[.int .i64 x1_0, .int .i64 x1_1, .int .i64 x1_2, .string x1_3, .int .u8 x1_4]]) w := by kernel_rfl
theorem sound {R : EP} {x0 : OA} {x1_0 x1_1 x1_2 : Int} {x1_3 : ByteArray} {x1_4 : Int} {w : World} (h : g_newHTML R x0 x1_0 x1_1 x1_2 x1_3 x1_4 w) : callE P i_newHTML #[.pointer x0, .agg #[.int .i64 x1_0, .int .i64 x1_1, .int .i64 x1_2, .string x1_3, .int .u8 x1_4]] R w :=
 callE_fz (c := body) Tryz.func129 Tryz.call129 (good R) (eq R x0 x1_0 x1_1 x1_2 x1_3 x1_4 w) h
end g_newHTML
namespace g_parseState_para
noncomputable def body : Code := bodyOf Tryz.f132
end g_parseState_para
def g_parseState_para (R : EP) (x0 : OA) (w : World) : Prop :=
 tk w fun w1 =>
 nilP x0 fun a2 =>
 nilP x0 fun a3 =>
 ∃ (v4q : OA), ∃ (v4n : Nat), ∃ (v4c : Nat), w1.cell? (a2.add 4) = some (.slice v4q v4n v4c) ∧
 ∃ (v5q : OA), ∃ (v5n : Nat), ∃ (v5c : Nat), w1.cell? (a3.add 4) = some (.slice v5q v5n v5c) ∧
 0 ≤ (IntKind.i64.wrap ((v5n : Int) - 1)) ∧ (IntKind.i64.wrap ((v5n : Int) - 1)) < (v4n : Int) ∧
 nilP v4q fun a6 =>
 ∃ (v7 : Value), w1.cell? (a6.add (Int.toNat (IntKind.i64.wrap ((v5n : Int) - 1)) * 4)) = some v7 ∧
 ∃ (r8_0 : OA), ∃ (r8_1 : Bool), (∀ w, (Instr.typeAssert v7 ty_blockBuilder ty_P_paraBuilder true).run P w = .ok (.tuple #[.pointer r8_0, .bool r8_1]) w) ∧
 br r8_1
 (R (.returned (.pointer r8_0)) w1)
 (R (.returned (.pointer none)) w1)

namespace g_parseState_para
noncomputable def ac (R : EP) : AC :=
 (.seq (.leaf (sel [0] body)) (.seq (.seq (.draw (.pure 0 (.pure 1 (.pure 2 (.pure 4 (.pure 5 (.pure 6 (.load 3 (.load 7 (.pure 8 (.pure 9 (.pure 10 (.pure 11 (.load 12 (.pure 13 (.pure 14 (.pure 15 (.pure 16 (.pure 17 (.pure 18 .done))))))))))))))))))) (sel [1,0,0] body)) (.leaf (sel [1,0,1] body))) (.leaf (sel [1,1] body))))
theorem good (R : EP) : Good P 24 (ac R) (QF P [.tmp 2] R) :=
 ⟨trivial, ⟨⟨⟨by kernel_rfl, by kernel_rfl, fun _ _ _ h => h⟩, trivial⟩, trivial⟩⟩
theorem eq (R : EP) (x0 : OA) (w : World) : g_parseState_para R x0 w = vcA P 24 (ac R) (QF P [.tmp 2] R) (fr0 [.pointer x0]) w := by kernel_rfl
theorem sound {R : EP} {x0 : OA} {w : World} (h : g_parseState_para R x0 w) : callE P i_parseState_para #[.pointer x0] R w :=
 callE_fz (c := body) Tryz.func132 Tryz.call132 (good R) (eq R x0 w) h
end g_parseState_para
end Go.Proofs.YtgbgadkldalkbaaGreatDoor
