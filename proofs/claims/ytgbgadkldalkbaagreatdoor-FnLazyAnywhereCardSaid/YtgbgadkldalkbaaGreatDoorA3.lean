/- Part 3 of the proof of the law FnLazyAnywhere: for every input the law returns true, the inputs read as they did, and memory that was there is as it was; under the conditions of the given row alone. -/
import Derived.Deep.AppendSrc
import Derived.Great.BuildSlice
import Derived.Laws.Slices
import Derived.Test.YtgbgadkldalkbaaGreatDoorA2
set_option linter.all false
set_option linter.unusedVariables false
set_option maxRecDepth 20000
namespace Go.Proofs.YtgbgadkldalkbaaGreatDoor
open Go.Proofs
namespace g_parseState_startHTML
noncomputable def body : Code := bodyOf Tryz.f189
def k10 (R : EP) (Xa : OA → OA → BA → Int → OA → Nat → Nat → WP) (x0 x1 : OA) (x6 : BA) (x9 : Int) (x10q : OA) (x10n x10c : Nat) (x11 : Int) (w : World) : Prop :=
 ∃ (r64q : OA), ∃ (r64n : Nat), ∃ (r64c : Nat), ∃ w65, (Instr.buildSlice ty_S_uint8 1 #[(0, .int .u8 x11)]).run P w = .ok (.slice r64q r64n r64c) w65 ∧
 ∃ (r66q : OA), ∃ (r66n : Nat), ∃ (r66c : Nat), ∃ w67, (Builtin.append_ #[ty_S_uint8, ty_S_uint8] ty_S_uint8 #[.slice x10q x10n x10c, .slice r64q r64n r64c]).run P w65 = .ok (.slice r66q r66n r66c) w67 ∧
 Xa x0 x1 x6 (IntKind.i64.wrap (x9 + 1)) r66q r66n r66c w67

def k14 (R : EP) (x0 x1 : OA) (w : World) : Prop :=
 box w #[.bool true, .slice none 0 0, .nilFunc] ty_htmlBuilder fun b76 w77 =>
 callE P i_parseState_addBlock #[.pointer x0, .iface ty_P_htmlBuilder (.pointer (some ⟨b76, 0, none⟩))] (fun e w79 => e = .returned (.tuple #[]) ∧
 tk w79 fun w80 =>
 ∃ (v81q : OA), ∃ (v81n : Nat), ∃ (v81c : Nat), w80.cell? ⟨b76, 1, none⟩ = some (.slice v81q v81n v81c) ∧
 callE P i_line_string #[.pointer x1] (fun e w83 => ∃ (r82 : BA), e = .returned (.string r82) ∧
 SameC w80 w83 ⟨b76, 1, none⟩ 1 ∧
 ∃ (r84q : OA), ∃ (r84n : Nat), ∃ (r84c : Nat), ∃ w85, (Instr.buildSlice ty_S_string 1 #[(0, .string r82)]).run P w83 = .ok (.slice r84q r84n r84c) w85 ∧
 SameC w83 w85 ⟨b76, 1, none⟩ 1 ∧
 ∃ (r86q : OA), ∃ (r86n : Nat), ∃ (r86c : Nat), ∃ w87, (Builtin.append_ #[ty_S_string, ty_S_string] ty_S_string #[.slice v81q v81n v81c, .slice r84q r84n r84c]).run P w85 = .ok (.slice r86q r86n r86c) w87 ∧
 stV w87 ⟨b76, 1, none⟩ (.slice r86q r86n r86c) fun w88 =>
 R (.returned (.bool true)) w88) w80) w77

def k18 (R : EP) (x0 x1 : OA) (w : World) : Prop :=
 box w #[.bool true, .slice none 0 0, .nilFunc] ty_htmlBuilder fun b120 w121 =>
 callE P i_parseState_addBlock #[.pointer x0, .iface ty_P_htmlBuilder (.pointer (some ⟨b120, 0, none⟩))] (fun e w123 => e = .returned (.tuple #[]) ∧
 tk w123 fun w124 =>
 ∃ (v125q : OA), ∃ (v125n : Nat), ∃ (v125c : Nat), w124.cell? ⟨b120, 1, none⟩ = some (.slice v125q v125n v125c) ∧
 callE P i_line_string #[.pointer x1] (fun e w127 => ∃ (r126 : BA), e = .returned (.string r126) ∧
 SameC w124 w127 ⟨b120, 1, none⟩ 1 ∧
 ∃ (r128q : OA), ∃ (r128n : Nat), ∃ (r128c : Nat), ∃ w129, (Instr.buildSlice ty_S_string 1 #[(0, .string r126)]).run P w127 = .ok (.slice r128q r128n r128c) w129 ∧
 SameC w127 w129 ⟨b120, 1, none⟩ 1 ∧
 ∃ (r130q : OA), ∃ (r130n : Nat), ∃ (r130c : Nat), ∃ w131, (Builtin.append_ #[ty_S_string, ty_S_string] ty_S_string #[.slice v125q v125n v125c, .slice r128q r128n r128c]).run P w129 = .ok (.slice r130q r130n r130c) w131 ∧
 stV w131 ⟨b120, 1, none⟩ (.slice r130q r130n r130c) fun w132 =>
 R (.returned (.bool true)) w132) w124) w121

def k19 (R : EP) (x0 x1 : OA) (x350 : Bool) (w : World) : Prop :=
 br x350
 (box w #[.bool true, .slice none 0 0, .nilFunc] ty_htmlBuilder fun b133 w134 =>
 callE P i_parseState_addBlock #[.pointer x0, .iface ty_P_htmlBuilder (.pointer (some ⟨b133, 0, none⟩))] (fun e w136 => e = .returned (.tuple #[]) ∧
 tk w136 fun w137 =>
 ∃ (v138q : OA), ∃ (v138n : Nat), ∃ (v138c : Nat), w137.cell? ⟨b133, 1, none⟩ = some (.slice v138q v138n v138c) ∧
 callE P i_line_string #[.pointer x1] (fun e w140 => ∃ (r139 : BA), e = .returned (.string r139) ∧
 SameC w137 w140 ⟨b133, 1, none⟩ 1 ∧
 ∃ (r141q : OA), ∃ (r141n : Nat), ∃ (r141c : Nat), ∃ w142, (Instr.buildSlice ty_S_string 1 #[(0, .string r139)]).run P w140 = .ok (.slice r141q r141n r141c) w142 ∧
 SameC w140 w142 ⟨b133, 1, none⟩ 1 ∧
 ∃ (r143q : OA), ∃ (r143n : Nat), ∃ (r143c : Nat), ∃ w144, (Builtin.append_ #[ty_S_string, ty_S_string] ty_S_string #[.slice v138q v138n v138c, .slice r141q r141n r141c]).run P w142 = .ok (.slice r143q r143n r143c) w144 ∧
 stV w144 ⟨b133, 1, none⟩ (.slice r143q r143n r143c) fun w145 =>
 R (.returned (.bool true)) w145) w137) w134)
 (R (.returned (.bool false)) w)

def k13 (R : EP) (Xb : OA → OA → BA → Int → OA → Nat → Nat → Int → Int → Bool → OA → Nat → Nat → Int → Int → WP) (x0 x1 : OA) (x6 : BA) (x9 : Int) (x10q : OA) (x10n x10c : Nat) (x12 x13 : Int) (x14 : Bool) (x184q : OA) (x184n x184c : Nat) (x185 x186 : Int) (x206 : Bool) (w : World) : Prop :=
 br x206
 (br (x12 == 9)
 (nilP x0 fun a74 =>
 stV w ((a74.add 6).add 0) (.bool true) fun w75 =>
 k14 R x0 x1 w75)
 (k14 R x0 x1 w))
 (Xb x0 x1 x6 x9 x10q x10n x10c x12 x13 x14 x184q x184n x184c x185 (IntKind.i64.wrap (x186 + 1)) w)

def k17 (R : EP) (x0 x1 : OA) (x6 : BA) (x20 : Int) (x310 : Bool) (w : World) : Prop :=
 br x310
 (br (x20 != (x6.size : Int))
 (nilP x0 fun a114 =>
 stV w ((a114.add 6).add 0) (.bool true) fun w115 =>
 k18 R x0 x1 w115)
 (k18 R x0 x1 w))
 (callE P i_parseHTMLClosingTag #[.pointer x0, .string x6, .int .i64 0] (fun e w117 => ∃ (r116_0 : Value), ∃ (r116_1 : Int), ∃ (r116_2 : Bool), e = .returned (.tuple #[r116_0, .int .i64 r116_1, .bool r116_2]) ∧
 br r116_2
 (callE P i_skipSpace #[.string x6, .int .i64 r116_1] (fun e w119 => ∃ (r118 : Int), e = .returned (.int .i64 r118) ∧
 k19 R x0 x1 (r118 == (x6.size : Int)) w119) w117)
 (k19 R x0 x1 false w117)) w)

def k16 (R : EP) (x0 x1 : OA) (x6 : BA) (w : World) : Prop :=
 callE P i_parseState_para #[.pointer x0] (fun e w107 => ∃ (r106 : OA), e = .returned (.pointer r106) ∧
 ∃ (r108 : Bool), ∃ w109, (do eqGuard .eql ty_P_paraBuilder (.tmp 293) (.const (.pointer none)) (.pointer r106) (.pointer none); binOp .eql ty_P_paraBuilder (.pointer r106) (.pointer none)).run P w107 = .ok (.bool r108) w109 ∧
 br r108
 (callE P i_parseHTMLOpenTag #[.pointer x0, .string x6, .int .i64 0] (fun e w111 => ∃ (r110_0 : Value), ∃ (r110_1 : Int), ∃ (r110_2 : Bool), e = .returned (.tuple #[r110_0, .int .i64 r110_1, .bool r110_2]) ∧
 br r110_2
 (callE P i_skipSpace #[.string x6, .int .i64 r110_1] (fun e w113 => ∃ (r112 : Int), e = .returned (.int .i64 r112) ∧
 k17 R x0 x1 x6 r110_1 (r112 == (x6.size : Int)) w113) w111)
 (k17 R x0 x1 x6 r110_1 false w111)) w109)
 (R (.returned (.bool false)) w109)) w

def k15 (R : EP) (x0 x1 : OA) (x6 : BA) (x266 : Bool) (w : World) : Prop :=
 br x266
 (box w #[.bool false, .slice none 0 0, .func (.func i_hasEndPre) #[] #[]] ty_htmlBuilder fun b89 w90 =>
 callE P i_parseState_addBlock #[.pointer x0, .iface ty_P_htmlBuilder (.pointer (some ⟨b89, 0, none⟩))] (fun e w92 => e = .returned (.tuple #[]) ∧
 tk w92 fun w93 =>
 ∃ (v94q : OA), ∃ (v94n : Nat), ∃ (v94c : Nat), w93.cell? ⟨b89, 1, none⟩ = some (.slice v94q v94n v94c) ∧
 callE P i_line_string #[.pointer x1] (fun e w96 => ∃ (r95 : BA), e = .returned (.string r95) ∧
 SameC w93 w96 ⟨b89, 1, none⟩ 1 ∧
 ∃ (r97q : OA), ∃ (r97n : Nat), ∃ (r97c : Nat), ∃ w98, (Instr.buildSlice ty_S_string 1 #[(0, .string r95)]).run P w96 = .ok (.slice r97q r97n r97c) w98 ∧
 SameC w96 w98 ⟨b89, 1, none⟩ 1 ∧
 ∃ (r99q : OA), ∃ (r99n : Nat), ∃ (r99c : Nat), ∃ w100, (Builtin.append_ #[ty_S_string, ty_S_string] ty_S_string #[.slice v94q v94n v94c, .slice r97q r97n r97c]).run P w98 = .ok (.slice r99q r99n r99c) w100 ∧
 stV w100 ⟨b89, 1, none⟩ (.slice r99q r99n r99c) fun w101 =>
 callE P i_hasEndPre #[.string x6] (fun e w103 => ∃ (r102 : Bool), e = .returned (.bool r102) ∧
 br r102
 (callE P i_parseState_closeBlock #[.pointer x0] (fun e w105 => ∃ (r104 : Value), e = .returned r104 ∧
 R (.returned (.bool true)) w105) w103)
 (R (.returned (.bool true)) w103)) w101) w93) w90)
 (k16 R x0 x1 x6 w)

def k12 (R : EP) (x0 x1 : OA) (x6 : BA) (x10q : OA) (x10n x10c : Nat) (x263 : Bool) (w : World) : Prop :=
 br x263
 (∃ (r72 : BA), ∃ w73, (convert ty_S_uint8 ty_string (.slice x10q x10n x10c)).run P w = .ok (.string r72) w73 ∧
 br (r72.toList == (ByteArray.mk #[112, 114, 101]).toList)
 (k15 R x0 x1 x6 true w73)
 (br (r72.toList == (ByteArray.mk #[115, 99, 114, 105, 112, 116]).toList)
 (k15 R x0 x1 x6 true w73)
 (br (r72.toList == (ByteArray.mk #[115, 116, 121, 108, 101]).toList)
 (k15 R x0 x1 x6 true w73)
 (k15 R x0 x1 x6 (r72.toList == (ByteArray.mk #[116, 101, 120, 116, 97, 114, 101, 97]).toList) w73))))
 (k16 R x0 x1 x6 w)

def k11 (R : EP) (x0 x1 : OA) (x6 : BA) (x9 : Int) (x10q : OA) (x10n x10c : Nat) (w : World) : Prop :=
 ((decide ((x6.size : Int) > 1)) = true → 0 ≤ (1 : Int) ∧ 1 < (x6.size : Int)) ∧
 ((((decide ((x6.size : Int) > 1)) && ((bt x6 1) != 47)) && (!(decide (x9 ≥ (x6.size : Int))))) = true → 0 ≤ x9 ∧ x9 < (x6.size : Int)) ∧
 ((((decide ((x6.size : Int) > 1)) && ((bt x6 1) != 47)) && (!((decide (x9 ≥ (x6.size : Int))) || ((bt x6 x9) == 32)))) = true → 0 ≤ x9 ∧ x9 < (x6.size : Int)) ∧
 ((((decide ((x6.size : Int) > 1)) && ((bt x6 1) != 47)) && (!(((decide (x9 ≥ (x6.size : Int))) || ((bt x6 x9) == 32)) || ((bt x6 x9) == 9)))) = true → 0 ≤ x9 ∧ x9 < (x6.size : Int)) ∧
 k12 R x0 x1 x6 x10q x10n x10c (((decide ((x6.size : Int) > 1)) && ((bt x6 1) != 47)) && ((((decide (x9 ≥ (x6.size : Int))) || ((bt x6 x9) == 32)) || ((bt x6 x9) == 9)) || ((bt x6 x9) == 62))) w

def bl2 (R : EP) (Xb : OA → OA → BA → Int → OA → Nat → Nat → Int → Int → Bool → OA → Nat → Nat → Int → Int → WP) (x0 x1 : OA) (x6 : BA) (x9 : Int) (x10q : OA) (x10n x10c : Nat) (x12 x13 : Int) (x14 : Bool) (x184q : OA) (x184n x184c : Nat) (x185 x186 : Int) (w : World) : Prop :=
 br (decide (x186 < x185))
 (0 ≤ x186 ∧ x186 < (x184n : Int) ∧
 nilP x184q fun a68 =>
 ∃ (v69 : BA), w.cell? (a68.add (Int.toNat x186 * 1)) = some (.string v69) ∧
 0 ≤ (0 : Int) ∧ 0 < (v69.size : Int) ∧
 br (((bt v69 0) == x13) && ((v69.size : Int) == (x10n : Int)))
 (∃ (r70 : BA), ∃ w71, (convert ty_S_uint8 ty_string (.slice x10q x10n x10c)).run P w = .ok (.string r70) w71 ∧
 k13 R Xb x0 x1 x6 x9 x10q x10n x10c x12 x13 x14 x184q x184n x184c x185 x186 (v69.toList == r70.toList) w71)
 (k13 R Xb x0 x1 x6 x9 x10q x10n x10c x12 x13 x14 x184q x184n x184c x185 x186 false w))
 (br (!x14)
 (k11 R x0 x1 x6 x9 x10q x10n x10c w)
 (k14 R x0 x1 w))
def l2 (R : EP) (x0 x1 : OA) (x6 : BA) (x9 : Int) (x10q : OA) (x10n x10c : Nat) (x12 x13 : Int) (x14 : Bool) (x184q : OA) (x184n x184c : Nat) (x185 x186 : Int) (w : World) : Prop :=
 ∀ X : OA → OA → BA → Int → OA → Nat → Nat → Int → Int → Bool → OA → Nat → Nat → Int → Int → WP, (∀ x0 x1 x6 x9 x10q x10n x10c x12 x13 x14 x184q x184n x184c x185 x186 w, bl2 R X x0 x1 x6 x9 x10q x10n x10c x12 x13 x14 x184q x184n x184c x185 x186 w → X x0 x1 x6 x9 x10q x10n x10c x12 x13 x14 x184q x184n x184c x185 x186 w) → X x0 x1 x6 x9 x10q x10n x10c x12 x13 x14 x184q x184n x184c x185 x186 w

noncomputable def al2 (R : EP) (Xb : OA → OA → BA → Int → OA → Nat → Nat → Int → Int → Bool → OA → Nat → Nat → Int → Int → WP) : AC :=
 (.seq (.leaf (sel [1,0,1,1,1,1,1,1,1,1,1,1,1,1,1,1,0,1,1,0,1,0,0,0] body)) (.seq (.leaf (sel [1,0,1,1,1,1,1,1,1,1,1,1,1,1,1,1,0,1,1,0,1,0,0,1,0] body)) (.seq (.block 5 (.seq (.leaf (sel [1,0,1,1,1,1,1,1,1,1,1,1,1,1,1,1,0,1,1,0,1,0,0,1,1,0,0,0] body)) (.seq (.leaf (sel [1,0,1,1,1,1,1,1,1,1,1,1,1,1,1,1,0,1,1,0,1,0,0,1,1,0,0,1,0] body)) (.mark (leaf [(0, .s .ptr), (1, .s .ptr), (6, .s .str), (9, .s (.int .i64)), (10, .s .slice), (12, .s (.int .u8)), (13, .s (.int .u8)), (14, .s .bool), (184, .s .slice), (185, .s (.int .i64)), (186, .s (.int .i64)), (206, .s .bool)] (k13 R Xb)) (.leaf (sel [1,0,1,1,1,1,1,1,1,1,1,1,1,1,1,1,0,1,1,0,1,0,0,1,1,0,0,1,1] body)))))) (.leaf (sel [1,0,1,1,1,1,1,1,1,1,1,1,1,1,1,1,0,1,1,0,1,0,0,1,1,1] body)))))
def k9 (R : EP) (x0 x1 : OA) (x6 : BA) (x9 : Int) (x10q : OA) (x10n x10c : Nat) (x12 : Int) (w : World) : Prop :=
 br ((x10n : Int) == 0)
 (k11 R x0 x1 x6 x9 x10q x10n x10c w)
 (0 ≤ (0 : Int) ∧ 0 < (x10n : Int) ∧
 nilP x10q fun a60 =>
 ∃ (v61 : Int), w.cell? (a60.add (Int.toNat 0 * 1)) = some (.int .u8 v61) ∧
 callE P i_htmlTags #[] (fun e w63 => ∃ (r62q : OA), ∃ (r62n : Nat), ∃ (r62c : Nat), e = .returned (.slice r62q r62n r62c) ∧
 l2 R x0 x1 x6 x9 x10q x10n x10c x12 v61 false r62q r62n r62c (r62n : Int) 0 w63) w)

def k8 (R : EP) (x0 x1 : OA) (x6 : BA) (x9 : Int) (x10q : OA) (x10n x10c : Nat) (x12 x156 : Int) (x157 : Bool) (w : World) : Prop :=
 br x157
 (0 ≤ x9 ∧ x9 < (x6.size : Int) ∧
 k9 R x0 x1 x6 x9 x10q x10n x10c (bt x6 x9) w)
 (br (x156 == 47)
 (((!(decide ((IntKind.i64.wrap (x9 + 1)) ≥ (x6.size : Int)))) = true → 0 ≤ (IntKind.i64.wrap (x9 + 1)) ∧ (IntKind.i64.wrap (x9 + 1)) < (x6.size : Int)) ∧
 br ((decide ((IntKind.i64.wrap (x9 + 1)) ≥ (x6.size : Int))) || ((bt x6 (IntKind.i64.wrap (x9 + 1))) != 62))
 (k11 R x0 x1 x6 x9 x10q x10n x10c w)
 (k9 R x0 x1 x6 x9 x10q x10n x10c x12 w))
 (k11 R x0 x1 x6 x9 x10q x10n x10c w))

def k6 (R : EP) (x0 x1 : OA) (x6 : BA) (x9 : Int) (x10q : OA) (x10n x10c : Nat) (w : World) : Prop :=
 br (decide (x9 < (x6.size : Int)))
 (0 ≤ x9 ∧ x9 < (x6.size : Int) ∧
 br ((bt x6 x9) == 32)
 (k8 R x0 x1 x6 x9 x10q x10n x10c 0 (bt x6 x9) true w)
 (br ((bt x6 x9) == 9)
 (k8 R x0 x1 x6 x9 x10q x10n x10c 0 (bt x6 x9) true w)
 (k8 R x0 x1 x6 x9 x10q x10n x10c 0 (bt x6 x9) ((bt x6 x9) == 62) w)))
 (k9 R x0 x1 x6 x9 x10q x10n x10c 0 w)

def k7 (R : EP) (Xa : OA → OA → BA → Int → OA → Nat → Nat → WP) (x0 x1 : OA) (x6 : BA) (x9 : Int) (x10q : OA) (x10n x10c : Nat) (x11 : Int) (w : World) : Prop :=
 br ((!((decide (97 ≤ x11)) && (decide (x11 ≤ 122)))) && (!((decide (48 ≤ x11)) && (decide (x11 ≤ 57)))))
 (k6 R x0 x1 x6 x9 x10q x10n x10c w)
 (k10 R Xa x0 x1 x6 x9 x10q x10n x10c x11 w)

def k5 (R : EP) (Xa : OA → OA → BA → Int → OA → Nat → Nat → WP) (x0 x1 : OA) (x6 : BA) (x9 : Int) (x10q : OA) (x10n x10c : Nat) (w : World) : Prop :=
 0 ≤ x9 ∧ x9 < (x6.size : Int) ∧
 br ((decide (65 ≤ (bt x6 x9))) && (decide ((bt x6 x9) ≤ 90)))
 (k7 R Xa x0 x1 x6 x9 x10q x10n x10c (IntKind.u8.wrap ((bt x6 x9) + 32)) w)
 (k7 R Xa x0 x1 x6 x9 x10q x10n x10c (bt x6 x9) w)

def bl1 (R : EP) (Xa : OA → OA → BA → Int → OA → Nat → Nat → WP) (x0 x1 : OA) (x6 : BA) (x9 : Int) (x10q : OA) (x10n x10c : Nat) (w : World) : Prop :=
 br ((decide (x9 < (x6.size : Int))) && (decide ((x10n : Int) < 16)))
 (k5 R Xa x0 x1 x6 x9 x10q x10n x10c w)
 (k6 R x0 x1 x6 x9 x10q x10n x10c w)
def l1 (R : EP) (x0 x1 : OA) (x6 : BA) (x9 : Int) (x10q : OA) (x10n x10c : Nat) (w : World) : Prop :=
 ∀ X : OA → OA → BA → Int → OA → Nat → Nat → WP, (∀ x0 x1 x6 x9 x10q x10n x10c w, bl1 R X x0 x1 x6 x9 x10q x10n x10c w → X x0 x1 x6 x9 x10q x10n x10c w) → X x0 x1 x6 x9 x10q x10n x10c w

noncomputable def al1 (R : EP) (Xa : OA → OA → BA → Int → OA → Nat → Nat → WP) : AC :=
 (.seq (.leaf (sel [1,0,1,1,1,1,1,1,1,1,1,1,0,0,0,0] body)) (.mark (leaf [(0, .s .ptr), (1, .s .ptr), (6, .s .str), (9, .s (.int .i64)), (10, .s .slice)] (k5 R Xa)) (.seq (.block 2 (.seq (.leaf (sel [1,0,1,1,1,1,1,1,1,1,1,1,0,0,0,1,0,0,0] body)) (.seq (.leaf (sel [1,0,1,1,1,1,1,1,1,1,1,1,0,0,0,1,0,0,1,0] body)) (.mark (leaf [(0, .s .ptr), (1, .s .ptr), (6, .s .str), (9, .s (.int .i64)), (10, .s .slice), (11, .s (.int .u8))] (k7 R Xa)) (.seq (.leaf (sel [1,0,1,1,1,1,1,1,1,1,1,1,0,0,0,1,0,0,1,1,0] body)) (.mark (leaf [(0, .s .ptr), (1, .s .ptr), (6, .s .str), (9, .s (.int .i64)), (10, .s .slice), (11, .s (.int .u8))] (k10 R Xa)) (.leaf (sel [1,0,1,1,1,1,1,1,1,1,1,1,0,0,0,1,0,0,1,1,1] body)))))))) (.leaf (sel [1,0,1,1,1,1,1,1,1,1,1,1,0,0,0,1,1] body)))))
def k3 (R : EP) (x0 x1 : OA) (x6 : BA) (x9 : Int) (w : World) : Prop :=
 ∃ (r54q : OA), ∃ (r54n : Nat), ∃ (r54c : Nat), ∃ w55, (Instr.makeSlice ty_S_uint8 (.int .i64 0) (.int .i64 16)).run P w = .ok (.slice r54q r54n r54c) w55 ∧
 l1 R x0 x1 x6 x9 r54q r54n r54c w55

def k1 (R : EP) (x0 x1 : OA) (x6 : BA) (x7 : Nat) (w : World) : Prop :=
 ∃ (v35 : BA), w.cell? ⟨x7, 0, none⟩ = some (.string v35) ∧
 br (!(v35.toList == (ByteArray.mk #[]).toList))
 (box w #[.bool false, .slice none 0 0, .func (.func i_parseState_startHTML_1) #[] #[.pointer (some ⟨x7, 0, none⟩)]] ty_htmlBuilder fun b36 w37 =>
 callE P i_parseState_addBlock #[.pointer x0, .iface ty_P_htmlBuilder (.pointer (some ⟨b36, 0, none⟩))] (fun e w39 => e = .returned (.tuple #[]) ∧
 tk w39 fun w40 =>
 ∃ (v41q : OA), ∃ (v41n : Nat), ∃ (v41c : Nat), w40.cell? ⟨b36, 1, none⟩ = some (.slice v41q v41n v41c) ∧
 callE P i_line_string #[.pointer x1] (fun e w43 => ∃ (r42 : BA), e = .returned (.string r42) ∧
 SameC w40 w43 ⟨b36, 1, none⟩ 1 ∧
 ∃ (r44q : OA), ∃ (r44n : Nat), ∃ (r44c : Nat), ∃ w45, (Instr.buildSlice ty_S_string 1 #[(0, .string r42)]).run P w43 = .ok (.slice r44q r44n r44c) w45 ∧
 SameC w43 w45 ⟨b36, 1, none⟩ 1 ∧
 ∃ (r46q : OA), ∃ (r46n : Nat), ∃ (r46c : Nat), ∃ w47, (Builtin.append_ #[ty_S_string, ty_S_string] ty_S_string #[.slice v41q v41n v41c, .slice r44q r44n r44c]).run P w45 = .ok (.slice r46q r46n r46c) w47 ∧
 stV w47 ⟨b36, 1, none⟩ (.slice r46q r46n r46c) fun w48 =>
 ∃ (v49 : Value), w48.cell? ⟨b36, 2, none⟩ = some v49 ∧
 enterE P (do let d ← Deferred.ofValue v49 #[.string x6]; invoke d.target d.args) (fun e w51 => ∃ (r50 : Bool), e = .returned (.bool r50) ∧
 br r50
 (callE P i_parseState_closeBlock #[.pointer x0] (fun e w53 => ∃ (r52 : Value), e = .returned r52 ∧
 R (.returned (.bool true)) w53) w51)
 (R (.returned (.bool true)) w51)) w48) w40) w37)
 (((decide (1 < (x6.size : Int))) = true → 0 ≤ (1 : Int) ∧ 1 < (x6.size : Int)) ∧
 br ((decide (1 < (x6.size : Int))) && ((bt x6 1) == 47))
 (k3 R x0 x1 x6 (IntKind.i64.wrap (1 + 1)) w)
 (k3 R x0 x1 x6 1 w))

def k4 (R : EP) (x0 x1 : OA) (x6 : BA) (x7 : Nat) (x63 : Bool) (w : World) : Prop :=
 br x63
 (nilP x0 fun a56 =>
 stV w ((a56.add 6).add 0) (.bool true) fun w57 =>
 stV w57 ⟨x7, 0, none⟩ (.string (ByteArray.mk #[62])) fun w58 =>
 k1 R x0 x1 x6 x7 w58)
 (stV w ⟨x7, 0, none⟩ (.string (ByteArray.mk #[62])) fun w59 =>
 k1 R x0 x1 x6 x7 w59)

def k2 (R : EP) (x0 x1 : OA) (x6 : BA) (x7 : Nat) (x43 : Bool) (w : World) : Prop :=
 br x43
 (0 ≤ (2 : Int) ∧ 2 < (x6.size : Int) ∧
 ((decide (97 ≤ (bt x6 2))) = true → 0 ≤ (2 : Int) ∧ 2 < (x6.size : Int)) ∧
 k4 R x0 x1 x6 x7 ((decide (97 ≤ (bt x6 2))) && (decide ((bt x6 2) ≤ 122))) w)
 (k1 R x0 x1 x6 x7 w)

end g_parseState_startHTML
def g_parseState_startHTML (R : EP) (x0 x1 : OA) (w : World) : Prop :=
 nilP x1 fun a1 =>
 ∃ (v2 : Int), w.cell? (a1.add 0) = some (.int .i64 v2) ∧
 ∃ (v3 : Int), w.cell? (a1.add 1) = some (.int .i64 v3) ∧
 ∃ (v4 : Int), w.cell? (a1.add 2) = some (.int .i64 v4) ∧
 ∃ (v5 : BA), w.cell? (a1.add 3) = some (.string v5) ∧
 ∃ (v6 : Int), w.cell? (a1.add 4) = some (.int .u8 v6) ∧
 box w #[.int .i64 0, .int .i64 0, .int .i64 0, .string (ByteArray.mk #[]), .int .u8 0] ty_line fun b7 w8 =>
 stV w8 ⟨b7, 0, none⟩ (.int .i64 v2) fun w9 =>
 stV w9 ⟨b7, 1, none⟩ (.int .i64 v3) fun w10 =>
 stV w10 ⟨b7, 2, none⟩ (.int .i64 v4) fun w11 =>
 stV w11 ⟨b7, 3, none⟩ (.string v5) fun w12 =>
 stV w12 ⟨b7, 4, none⟩ (.int .u8 v6) fun w13 =>
 callE P i_line_trimSpace #[.pointer (some ⟨b7, 0, none⟩), .int .i64 0, .int .i64 3, .bool false] (fun e w15 => ∃ (r14 : Bool), e = .returned (.bool r14) ∧
 callE P i_line_peek #[.pointer (some ⟨b7, 0, none⟩)] (fun e w17 => ∃ (r16 : Int), e = .returned (.int .u8 r16) ∧
 br (r16 != 60)
 (R (.returned (.bool false)) w17)
 (callE P i_line_string #[.pointer (some ⟨b7, 0, none⟩)] (fun e w19 => ∃ (r18 : BA), e = .returned (.string r18) ∧
 box w19 #[.string (ByteArray.mk #[])] ty_string fun b20 w21 =>
 callE P i_strings_HasPrefix #[.string r18, .string (ByteArray.mk #[60, 33, 45, 45])] (fun e w23 => ∃ (r22 : Bool), e = .returned (.bool r22) ∧
 br r22
 (stV w23 ⟨b20, 0, none⟩ (.string (ByteArray.mk #[45, 45, 62])) fun w24 =>
 g_parseState_startHTML.k1 R x0 x1 r18 b20 w24)
 (callE P i_strings_HasPrefix #[.string r18, .string (ByteArray.mk #[60, 63])] (fun e w26 => ∃ (r25 : Bool), e = .returned (.bool r25) ∧
 br r25
 (stV w26 ⟨b20, 0, none⟩ (.string (ByteArray.mk #[63, 62])) fun w27 =>
 g_parseState_startHTML.k1 R x0 x1 r18 b20 w27)
 (callE P i_strings_HasPrefix #[.string r18, .string (ByteArray.mk #[60, 33, 91, 67, 68, 65, 84, 65, 91])] (fun e w29 => ∃ (r28 : Bool), e = .returned (.bool r28) ∧
 br r28
 (stV w29 ⟨b20, 0, none⟩ (.string (ByteArray.mk #[93, 93, 62])) fun w30 =>
 g_parseState_startHTML.k1 R x0 x1 r18 b20 w30)
 (callE P i_strings_HasPrefix #[.string r18, .string (ByteArray.mk #[60, 33])] (fun e w32 => ∃ (r31 : Bool), e = .returned (.bool r31) ∧
 ((r31 && (decide ((r18.size : Int) ≥ 3))) = true → 0 ≤ (2 : Int) ∧ 2 < (r18.size : Int)) ∧
 br (r31 && (decide ((r18.size : Int) ≥ 3)))
 (callE P i_isLetter #[.int .u8 (bt r18 2)] (fun e w34 => ∃ (r33 : Bool), e = .returned (.bool r33) ∧
 g_parseState_startHTML.k2 R x0 x1 r18 b20 r33 w34) w32)
 (g_parseState_startHTML.k2 R x0 x1 r18 b20 false w32)) w29)) w26)) w23)) w21) w17)) w15) w13

namespace g_parseState_startHTML
noncomputable def ac (R : EP) : AC :=
 (.seq (.leaf (sel [0] body)) (.jump 0 (leaf [(0, .s .ptr), (1, .s .ptr), (6, .s .str), (9, .s (.int .i64)), (10, .s .slice)] (k11 R)) (.seq (.leaf (sel [1,0,0] body)) (.seq (.leaf (sel [1,0,1,0] body)) (.seq (.leaf (sel [1,0,1,1,0] body)) (.seq (.leaf (sel [1,0,1,1,1,0] body)) (.seq (.leaf (sel [1,0,1,1,1,1,0] body)) (.seq (.block 0 (.seq (.leaf (sel [1,0,1,1,1,1,1,0,0,0] body)) (.cond 34 (.leaf (sel [1,0,1,1,1,1,1,0,0,1,0] body)) (.seq (.leaf (sel [1,0,1,1,1,1,1,0,0,1,1,0] body)) (.cond 37 (.leaf (sel [1,0,1,1,1,1,1,0,0,1,1,1,0] body)) (.seq (.leaf (sel [1,0,1,1,1,1,1,0,0,1,1,1,1,0] body)) (.cond 40 (.leaf (sel [1,0,1,1,1,1,1,0,0,1,1,1,1,1,0] body)) (.seq (.leaf (sel [1,0,1,1,1,1,1,0,0,1,1,1,1,1,1,0] body)) (.mark (leaf [(0, .s .ptr), (1, .s .ptr), (6, .s .str), (7, .s .loc), (43, .s .bool)] (k2 R)) (.cond 43 (.seq (.seq (.leaf (sel [1,0,1,1,1,1,1,0,0,1,1,1,1,1,1,1,0,0,0] body)) (.mark (leaf [(0, .s .ptr), (1, .s .ptr), (6, .s .str), (7, .s .loc), (63, .s .bool)] (k4 R)) (.leaf (sel [1,0,1,1,1,1,1,0,0,1,1,1,1,1,1,1,0,0,1] body)))) (.leaf (sel [1,0,1,1,1,1,1,0,0,1,1,1,1,1,1,1,0,1] body))) (.leaf (sel [1,0,1,1,1,1,1,0,0,1,1,1,1,1,1,1,1] body)))))))))))) (.mark (leaf [(0, .s .ptr), (1, .s .ptr), (6, .s .str), (7, .s .loc)] (k1 R)) (.seq (.seq (.leaf (sel [1,0,1,1,1,1,1,1,0,0] body)) (.cond 68 (.seq (.leaf (sel [1,0,1,1,1,1,1,1,0,1,0,0] body)) (.seq (.leaf (sel [1,0,1,1,1,1,1,1,0,1,0,1,0] body)) (.seq (.draw (.pure 0 (.pure 1 (.pure 2 (.pure 3 (.pure 5 (.load 4 (.one 6 (.one 7 (.one 8 (.pure 9 (.pure 10 (.one 11 .done)))))))))))) (sel [1,0,1,1,1,1,1,1,0,1,0,1,1,0] body)) (.leaf (sel [1,0,1,1,1,1,1,1,0,1,0,1,1,1] body))))) (.leaf (sel [1,0,1,1,1,1,1,1,0,1,1] body)))) (.seq (.leaf (sel [1,0,1,1,1,1,1,1,1,0] body)) (.seq (.leaf (sel [1,0,1,1,1,1,1,1,1,1,0] body)) (.mark (leaf [(0, .s .ptr), (1, .s .ptr), (6, .s .str), (9, .s (.int .i64))] (k3 R)) (.seq (.leaf (sel [1,0,1,1,1,1,1,1,1,1,1,0] body)) (.seq (.block 1 (.loop (leaf [(0, .s .ptr), (1, .s .ptr), (6, .s .str), (9, .s (.int .i64)), (10, .s .slice)] (l1 R)) (sel [1,0,1,1,1,1,1,1,1,1,1,1,0,0,0] body))) (.mark (leaf [(0, .s .ptr), (1, .s .ptr), (6, .s .str), (9, .s (.int .i64)), (10, .s .slice)] (k6 R)) (.seq (.leaf (sel [1,0,1,1,1,1,1,1,1,1,1,1,1,0] body)) (.seq (.seq (.leaf (sel [1,0,1,1,1,1,1,1,1,1,1,1,1,1,0,0] body)) (.cond 153 (.seq (.leaf (sel [1,0,1,1,1,1,1,1,1,1,1,1,1,1,0,1,0,0] body)) (.block 3 (.seq (.leaf (sel [1,0,1,1,1,1,1,1,1,1,1,1,1,1,0,1,0,1,0,0] body)) (.mark (leaf [(0, .s .ptr), (1, .s .ptr), (6, .s .str), (9, .s (.int .i64)), (10, .s .slice), (12, .s (.int .u8)), (156, .s (.int .u8)), (157, .s .bool)] (k8 R)) (.leaf (sel [1,0,1,1,1,1,1,1,1,1,1,1,1,1,0,1,0,1,0,1] body)))))) (.leaf (sel [1,0,1,1,1,1,1,1,1,1,1,1,1,1,0,1,1] body)))) (.mark (leaf [(0, .s .ptr), (1, .s .ptr), (6, .s .str), (9, .s (.int .i64)), (10, .s .slice), (12, .s (.int .u8))] (k9 R)) (.seq (.leaf (sel [1,0,1,1,1,1,1,1,1,1,1,1,1,1,1,0] body)) (.seq (.seq (.leaf (sel [1,0,1,1,1,1,1,1,1,1,1,1,1,1,1,1,0,0] body)) (.seq (.leaf (sel [1,0,1,1,1,1,1,1,1,1,1,1,1,1,1,1,0,1,0] body)) (.seq (.seq (.leaf (sel [1,0,1,1,1,1,1,1,1,1,1,1,1,1,1,1,0,1,1,0,0] body)) (.block 4 (.loop (leaf [(0, .s .ptr), (1, .s .ptr), (6, .s .str), (9, .s (.int .i64)), (10, .s .slice), (12, .s (.int .u8)), (13, .s (.int .u8)), (14, .s .bool), (184, .s .slice), (185, .s (.int .i64)), (186, .s (.int .i64))] (l2 R)) (sel [1,0,1,1,1,1,1,1,1,1,1,1,1,1,1,1,0,1,1,0,1,0,0] body)))) (.leaf (sel [1,0,1,1,1,1,1,1,1,1,1,1,1,1,1,1,0,1,1,1] body))))) (.mark (leaf [(0, .s .ptr), (1, .s .ptr)] (k14 R)) (.seq (.seq (.leaf (sel [1,0,1,1,1,1,1,1,1,1,1,1,1,1,1,1,1,0,0] body)) (.seq (.leaf (sel [1,0,1,1,1,1,1,1,1,1,1,1,1,1,1,1,1,0,1,0] body)) (.seq (.draw (.pure 0 (.pure 1 (.pure 2 (.pure 3 (.pure 5 (.load 4 (.one 6 (.one 7 (.one 8 (.pure 9 (.pure 10 (.one 11 .done)))))))))))) (sel [1,0,1,1,1,1,1,1,1,1,1,1,1,1,1,1,1,0,1,1,0] body)) (.leaf (sel [1,0,1,1,1,1,1,1,1,1,1,1,1,1,1,1,1,0,1,1,1] body))))) (.seq (.leaf (sel [1,0,1,1,1,1,1,1,1,1,1,1,1,1,1,1,1,1,0] body)) (.mark (leaf [(0, .s .ptr), (1, .s .ptr), (6, .s .str), (9, .s (.int .i64)), (10, .s .slice)] (k11 R)) (.seq (.seq (.leaf (sel [1,0,1,1,1,1,1,1,1,1,1,1,1,1,1,1,1,1,1,0,0] body)) (.mark (leaf [(0, .s .ptr), (1, .s .ptr), (6, .s .str), (10, .s .slice), (263, .s .bool)] (k12 R)) (.cond 263 (.seq (.leaf (sel [1,0,1,1,1,1,1,1,1,1,1,1,1,1,1,1,1,1,1,0,1,0,0] body)) (.block 6 (.seq (.leaf (sel [1,0,1,1,1,1,1,1,1,1,1,1,1,1,1,1,1,1,1,0,1,0,1,0,0] body)) (.mark (leaf [(0, .s .ptr), (1, .s .ptr), (6, .s .str), (266, .s .bool)] (k15 R)) (.cond 266 (.seq (.leaf (sel [1,0,1,1,1,1,1,1,1,1,1,1,1,1,1,1,1,1,1,0,1,0,1,0,1,0,0] body)) (.seq (.leaf (sel [1,0,1,1,1,1,1,1,1,1,1,1,1,1,1,1,1,1,1,0,1,0,1,0,1,0,1,0] body)) (.seq (.draw (.pure 0 (.pure 1 (.pure 2 (.pure 3 (.pure 5 (.load 4 (.one 6 (.one 7 (.one 8 (.pure 9 (.pure 10 (.one 11 .done)))))))))))) (sel [1,0,1,1,1,1,1,1,1,1,1,1,1,1,1,1,1,1,1,0,1,0,1,0,1,0,1,1,0] body)) (.leaf (sel [1,0,1,1,1,1,1,1,1,1,1,1,1,1,1,1,1,1,1,0,1,0,1,0,1,0,1,1,1] body))))) (.leaf (sel [1,0,1,1,1,1,1,1,1,1,1,1,1,1,1,1,1,1,1,0,1,0,1,0,1,1] body))))))) (.leaf (sel [1,0,1,1,1,1,1,1,1,1,1,1,1,1,1,1,1,1,1,0,1,1] body))))) (.mark (leaf [(0, .s .ptr), (1, .s .ptr), (6, .s .str)] (k16 R)) (.seq (.seq (.leaf (sel [1,0,1,1,1,1,1,1,1,1,1,1,1,1,1,1,1,1,1,1,0,0] body)) (.cond 294 (.seq (.seq (.leaf (sel [1,0,1,1,1,1,1,1,1,1,1,1,1,1,1,1,1,1,1,1,0,1,0,0,0] body)) (.seq (.leaf (sel [1,0,1,1,1,1,1,1,1,1,1,1,1,1,1,1,1,1,1,1,0,1,0,0,1,0] body)) (.mark (leaf [(0, .s .ptr), (1, .s .ptr), (6, .s .str), (20, .s (.int .i64)), (310, .s .bool)] (k17 R)) (.cond 310 (.seq (.leaf (sel [1,0,1,1,1,1,1,1,1,1,1,1,1,1,1,1,1,1,1,1,0,1,0,0,1,1,0,0] body)) (.mark (leaf [(0, .s .ptr), (1, .s .ptr)] (k18 R)) (.seq (.leaf (sel [1,0,1,1,1,1,1,1,1,1,1,1,1,1,1,1,1,1,1,1,0,1,0,0,1,1,0,1,0] body)) (.seq (.leaf (sel [1,0,1,1,1,1,1,1,1,1,1,1,1,1,1,1,1,1,1,1,0,1,0,0,1,1,0,1,1,0] body)) (.seq (.draw (.pure 0 (.pure 1 (.pure 2 (.pure 3 (.pure 5 (.load 4 (.one 6 (.one 7 (.one 8 (.pure 9 (.pure 10 (.one 11 .done)))))))))))) (sel [1,0,1,1,1,1,1,1,1,1,1,1,1,1,1,1,1,1,1,1,0,1,0,0,1,1,0,1,1,1,0] body)) (.leaf (sel [1,0,1,1,1,1,1,1,1,1,1,1,1,1,1,1,1,1,1,1,0,1,0,0,1,1,0,1,1,1,1] body))))))) (.leaf (sel [1,0,1,1,1,1,1,1,1,1,1,1,1,1,1,1,1,1,1,1,0,1,0,0,1,1,1] body)))))) (.seq (.leaf (sel [1,0,1,1,1,1,1,1,1,1,1,1,1,1,1,1,1,1,1,1,0,1,0,1,0] body)) (.seq (.leaf (sel [1,0,1,1,1,1,1,1,1,1,1,1,1,1,1,1,1,1,1,1,0,1,0,1,1,0] body)) (.mark (leaf [(0, .s .ptr), (1, .s .ptr), (350, .s .bool)] (k19 R)) (.cond 350 (.seq (.leaf (sel [1,0,1,1,1,1,1,1,1,1,1,1,1,1,1,1,1,1,1,1,0,1,0,1,1,1,0,0] body)) (.seq (.leaf (sel [1,0,1,1,1,1,1,1,1,1,1,1,1,1,1,1,1,1,1,1,0,1,0,1,1,1,0,1,0] body)) (.seq (.draw (.pure 0 (.pure 1 (.pure 2 (.pure 3 (.pure 5 (.load 4 (.one 6 (.one 7 (.one 8 (.pure 9 (.pure 10 (.one 11 .done)))))))))))) (sel [1,0,1,1,1,1,1,1,1,1,1,1,1,1,1,1,1,1,1,1,0,1,0,1,1,1,0,1,1,0] body)) (.leaf (sel [1,0,1,1,1,1,1,1,1,1,1,1,1,1,1,1,1,1,1,1,0,1,0,1,1,1,0,1,1,1] body))))) (.leaf (sel [1,0,1,1,1,1,1,1,1,1,1,1,1,1,1,1,1,1,1,1,0,1,0,1,1,1,1] body))))))) (.leaf (sel [1,0,1,1,1,1,1,1,1,1,1,1,1,1,1,1,1,1,1,1,0,1,1] body)))) (.leaf (sel [1,0,1,1,1,1,1,1,1,1,1,1,1,1,1,1,1,1,1,1,1] body))))))))))))))))))))))))))))))
theorem good (R : EP) : Good P 368 (ac R) (QF P [.tmp 4] R) :=
 ⟨trivial, ⟨⟨trivial, ⟨trivial, ⟨trivial, ⟨trivial, ⟨trivial, ⟨⟨trivial, ⟨trivial, ⟨trivial, ⟨trivial, ⟨trivial, ⟨trivial, ⟨trivial, ⟨⟨⟨⟨trivial, ⟨trivial, cutZ⟩⟩, trivial⟩, trivial⟩, cutZ⟩⟩⟩⟩⟩⟩⟩⟩, ⟨⟨⟨trivial, ⟨⟨trivial, ⟨trivial, ⟨⟨by kernel_rfl, by kernel_rfl, fun _ _ _ h => h⟩, trivial⟩⟩⟩, trivial⟩⟩, ⟨trivial, ⟨trivial, ⟨⟨trivial, ⟨(loopG (al1 R) (bl1 R) (fun _ => by kernel_rfl) (fun Xa => ⟨trivial, ⟨⟨⟨trivial, ⟨trivial, ⟨⟨trivial, ⟨trivial, cutZ⟩⟩, cutZ⟩⟩⟩, trivial⟩, cutZ⟩⟩) (fun Xa => by intro x0 x1 x6 x9 x10q x10n x10c ρ w; kernel_rfl) (fun X h _ _ _ _ _ _ _ _ g => g X h)), ⟨⟨trivial, ⟨⟨trivial, ⟨⟨trivial, ⟨trivial, ⟨trivial, cutZ⟩⟩⟩, trivial⟩⟩, ⟨⟨trivial, ⟨⟨trivial, ⟨trivial, ⟨⟨trivial, (loopG (al2 R) (bl2 R) (fun _ => by kernel_rfl) (fun Xb => ⟨trivial, ⟨trivial, ⟨⟨trivial, ⟨trivial, ⟨trivial, cutZ⟩⟩⟩, trivial⟩⟩⟩) (fun Xb => by intro x0 x1 x6 x9 x10q x10n x10c x12 x13 x14 x184q x184n x184c x185 x186 ρ w; kernel_rfl) (fun X h _ _ _ _ _ _ _ _ _ _ _ _ _ _ _ _ g => g X h))⟩, trivial⟩⟩⟩, ⟨⟨⟨trivial, ⟨trivial, ⟨⟨by kernel_rfl, by kernel_rfl, fun _ _ _ h => h⟩, trivial⟩⟩⟩, ⟨trivial, ⟨⟨⟨trivial, ⟨⟨⟨trivial, ⟨trivial, ⟨⟨⟨trivial, ⟨trivial, ⟨⟨by kernel_rfl, by kernel_rfl, fun _ _ _ h => h⟩, trivial⟩⟩⟩, trivial⟩, cutZ⟩⟩⟩, trivial⟩, cutZ⟩⟩, ⟨⟨⟨trivial, ⟨⟨⟨trivial, ⟨trivial, ⟨⟨⟨trivial, ⟨⟨trivial, ⟨trivial, ⟨⟨by kernel_rfl, by kernel_rfl, fun _ _ _ h => h⟩, trivial⟩⟩⟩, cutZ⟩⟩, trivial⟩, cutZ⟩⟩⟩, ⟨trivial, ⟨trivial, ⟨⟨⟨trivial, ⟨trivial, ⟨⟨by kernel_rfl, by kernel_rfl, fun _ _ _ h => h⟩, trivial⟩⟩⟩, trivial⟩, cutZ⟩⟩⟩⟩, trivial⟩⟩, trivial⟩, cutZ⟩⟩, cutZ⟩⟩⟩, cutZ⟩⟩⟩, cutZ⟩⟩⟩, cutZ⟩⟩⟩, cutZ⟩⟩⟩⟩, cutZ⟩⟩⟩⟩⟩⟩⟩, .seq .skip (sel [1,0,1,1,1,1,1,1,1,1,1,1,1,1,1,1,1,1,1] body), by kernel_rfl, jumpK (l := 0) (.seq (.leaf .skip) (.seq (.seq (.leaf (sel [1,0,1,1,1,1,1,1,1,1,1,1,1,1,1,1,1,1,1,0,0] body)) (.mark (leaf [(0, .s .ptr), (1, .s .ptr), (6, .s .str), (10, .s .slice), (263, .s .bool)] (k12 R)) (.cond 263 (.seq (.leaf (sel [1,0,1,1,1,1,1,1,1,1,1,1,1,1,1,1,1,1,1,0,1,0,0] body)) (.block 6 (.seq (.leaf (sel [1,0,1,1,1,1,1,1,1,1,1,1,1,1,1,1,1,1,1,0,1,0,1,0,0] body)) (.mark (leaf [(0, .s .ptr), (1, .s .ptr), (6, .s .str), (266, .s .bool)] (k15 R)) (.cond 266 (.seq (.leaf (sel [1,0,1,1,1,1,1,1,1,1,1,1,1,1,1,1,1,1,1,0,1,0,1,0,1,0,0] body)) (.seq (.leaf (sel [1,0,1,1,1,1,1,1,1,1,1,1,1,1,1,1,1,1,1,0,1,0,1,0,1,0,1,0] body)) (.seq (.draw (.pure 0 (.pure 1 (.pure 2 (.pure 3 (.pure 5 (.load 4 (.one 6 (.one 7 (.one 8 (.pure 9 (.pure 10 (.one 11 .done)))))))))))) (sel [1,0,1,1,1,1,1,1,1,1,1,1,1,1,1,1,1,1,1,0,1,0,1,0,1,0,1,1,0] body)) (.leaf (sel [1,0,1,1,1,1,1,1,1,1,1,1,1,1,1,1,1,1,1,0,1,0,1,0,1,0,1,1,1] body))))) (.leaf (sel [1,0,1,1,1,1,1,1,1,1,1,1,1,1,1,1,1,1,1,0,1,0,1,0,1,1] body))))))) (.leaf (sel [1,0,1,1,1,1,1,1,1,1,1,1,1,1,1,1,1,1,1,0,1,1] body))))) (.mark (leaf [(0, .s .ptr), (1, .s .ptr), (6, .s .str)] (k16 R)) (.seq (.seq (.leaf (sel [1,0,1,1,1,1,1,1,1,1,1,1,1,1,1,1,1,1,1,1,0,0] body)) (.cond 294 (.seq (.seq (.leaf (sel [1,0,1,1,1,1,1,1,1,1,1,1,1,1,1,1,1,1,1,1,0,1,0,0,0] body)) (.seq (.leaf (sel [1,0,1,1,1,1,1,1,1,1,1,1,1,1,1,1,1,1,1,1,0,1,0,0,1,0] body)) (.mark (leaf [(0, .s .ptr), (1, .s .ptr), (6, .s .str), (20, .s (.int .i64)), (310, .s .bool)] (k17 R)) (.cond 310 (.seq (.leaf (sel [1,0,1,1,1,1,1,1,1,1,1,1,1,1,1,1,1,1,1,1,0,1,0,0,1,1,0,0] body)) (.mark (leaf [(0, .s .ptr), (1, .s .ptr)] (k18 R)) (.seq (.leaf (sel [1,0,1,1,1,1,1,1,1,1,1,1,1,1,1,1,1,1,1,1,0,1,0,0,1,1,0,1,0] body)) (.seq (.leaf (sel [1,0,1,1,1,1,1,1,1,1,1,1,1,1,1,1,1,1,1,1,0,1,0,0,1,1,0,1,1,0] body)) (.seq (.draw (.pure 0 (.pure 1 (.pure 2 (.pure 3 (.pure 5 (.load 4 (.one 6 (.one 7 (.one 8 (.pure 9 (.pure 10 (.one 11 .done)))))))))))) (sel [1,0,1,1,1,1,1,1,1,1,1,1,1,1,1,1,1,1,1,1,0,1,0,0,1,1,0,1,1,1,0] body)) (.leaf (sel [1,0,1,1,1,1,1,1,1,1,1,1,1,1,1,1,1,1,1,1,0,1,0,0,1,1,0,1,1,1,1] body))))))) (.leaf (sel [1,0,1,1,1,1,1,1,1,1,1,1,1,1,1,1,1,1,1,1,0,1,0,0,1,1,1] body)))))) (.seq (.leaf (sel [1,0,1,1,1,1,1,1,1,1,1,1,1,1,1,1,1,1,1,1,0,1,0,1,0] body)) (.seq (.leaf (sel [1,0,1,1,1,1,1,1,1,1,1,1,1,1,1,1,1,1,1,1,0,1,0,1,1,0] body)) (.mark (leaf [(0, .s .ptr), (1, .s .ptr), (350, .s .bool)] (k19 R)) (.cond 350 (.seq (.leaf (sel [1,0,1,1,1,1,1,1,1,1,1,1,1,1,1,1,1,1,1,1,0,1,0,1,1,1,0,0] body)) (.seq (.leaf (sel [1,0,1,1,1,1,1,1,1,1,1,1,1,1,1,1,1,1,1,1,0,1,0,1,1,1,0,1,0] body)) (.seq (.draw (.pure 0 (.pure 1 (.pure 2 (.pure 3 (.pure 5 (.load 4 (.one 6 (.one 7 (.one 8 (.pure 9 (.pure 10 (.one 11 .done)))))))))))) (sel [1,0,1,1,1,1,1,1,1,1,1,1,1,1,1,1,1,1,1,1,0,1,0,1,1,1,0,1,1,0] body)) (.leaf (sel [1,0,1,1,1,1,1,1,1,1,1,1,1,1,1,1,1,1,1,1,0,1,0,1,1,1,0,1,1,1] body))))) (.leaf (sel [1,0,1,1,1,1,1,1,1,1,1,1,1,1,1,1,1,1,1,1,0,1,0,1,1,1,1] body))))))) (.leaf (sel [1,0,1,1,1,1,1,1,1,1,1,1,1,1,1,1,1,1,1,1,0,1,1] body)))) (.leaf (sel [1,0,1,1,1,1,1,1,1,1,1,1,1,1,1,1,1,1,1,1,1] body)))))) (by kernel_rfl) (by kernel_rfl) ⟨trivial, ⟨⟨trivial, ⟨⟨⟨trivial, ⟨trivial, ⟨⟨⟨trivial, ⟨trivial, ⟨⟨by kernel_rfl, by kernel_rfl, fun _ _ _ h => h⟩, trivial⟩⟩⟩, trivial⟩, cutZ⟩⟩⟩, trivial⟩, cutZ⟩⟩, ⟨⟨⟨trivial, ⟨⟨⟨trivial, ⟨trivial, ⟨⟨⟨trivial, ⟨⟨trivial, ⟨trivial, ⟨⟨by kernel_rfl, by kernel_rfl, fun _ _ _ h => h⟩, trivial⟩⟩⟩, cutZ⟩⟩, trivial⟩, cutZ⟩⟩⟩, ⟨trivial, ⟨trivial, ⟨⟨⟨trivial, ⟨trivial, ⟨⟨by kernel_rfl, by kernel_rfl, fun _ _ _ h => h⟩, trivial⟩⟩⟩, trivial⟩, cutZ⟩⟩⟩⟩, trivial⟩⟩, trivial⟩, cutZ⟩⟩⟩ (cutZ)⟩⟩
theorem eq (R : EP) (x0 x1 : OA) (w : World) : g_parseState_startHTML R x0 x1 w = vcA P 368 (ac R) (QF P [.tmp 4] R) (fr0 [.pointer x0, .pointer x1]) w := by kernel_rfl
theorem sound {R : EP} {x0 x1 : OA} {w : World} (h : g_parseState_startHTML R x0 x1 w) : callE P i_parseState_startHTML #[.pointer x0, .pointer x1] R w :=
 callE_fz (c := body) Tryz.func189 Tryz.call189 (good R) (eq R x0 x1 w) h
end g_parseState_startHTML
namespace g_line_trimHeading
noncomputable def body : Code := bodyOf Tryz.f174
def k1 (R : EP) (x0 x1 : OA) (x5 : Nat) (x6 : Int) (w : World) : Prop :=
 callE P i_line_trimSpace #[.pointer (some ⟨x5, 0, none⟩), .int .i64 1, .int .i64 1, .bool true] (fun e w21 => ∃ (r20 : Bool), e = .returned (.bool r20) ∧
 br (!r20)
 (R (.returned (.bool false)) w21)
 (nilP x1 fun a22 =>
 stV w21 (a22.add 0) (.int .i64 x6) fun w23 =>
 ∃ (v24 : Int), w23.cell? ⟨x5, 0, none⟩ = some (.int .i64 v24) ∧
 ∃ (v25 : Int), w23.cell? ⟨x5, 1, none⟩ = some (.int .i64 v25) ∧
 ∃ (v26 : Int), w23.cell? ⟨x5, 2, none⟩ = some (.int .i64 v26) ∧
 ∃ (v27 : BA), w23.cell? ⟨x5, 3, none⟩ = some (.string v27) ∧
 ∃ (v28 : Int), w23.cell? ⟨x5, 4, none⟩ = some (.int .u8 v28) ∧
 nilP x0 fun a29 =>
 stV w23 (a29.add 0) (.int .i64 v24) fun w30 =>
 stV w30 (a29.add 1) (.int .i64 v25) fun w31 =>
 stV w31 (a29.add 2) (.int .i64 v26) fun w32 =>
 stV w32 (a29.add 3) (.string v27) fun w33 =>
 stV w33 (a29.add 4) (.int .u8 v28) fun w34 =>
 R (.returned (.bool true)) w34)) w

def bl1 (R : EP) (Xa : OA → OA → Nat → Int → WP) (x0 x1 : OA) (x5 : Nat) (x6 : Int) (w : World) : Prop :=
 br (decide (x6 < 6))
 (callE P i_line_trim #[.pointer (some ⟨x5, 0, none⟩), .int .u8 35] (fun e w19 => ∃ (r18 : Bool), e = .returned (.bool r18) ∧
 br r18
 (Xa x0 x1 x5 (IntKind.i64.wrap (x6 + 1)) w19)
 (k1 R x0 x1 x5 x6 w19)) w)
 (k1 R x0 x1 x5 x6 w)
def l1 (R : EP) (x0 x1 : OA) (x5 : Nat) (x6 : Int) (w : World) : Prop :=
 ∀ X : OA → OA → Nat → Int → WP, (∀ x0 x1 x5 x6 w, bl1 R X x0 x1 x5 x6 w → X x0 x1 x5 x6 w) → X x0 x1 x5 x6 w

noncomputable def al1 (R : EP) (Xa : OA → OA → Nat → Int → WP) : AC :=
 (.leaf (sel [1,1,1,1,1,0,0,0] body))
end g_line_trimHeading
def g_line_trimHeading (R : EP) (x0 x1 : OA) (w : World) : Prop :=
 nilP x0 fun a1 =>
 ∃ (v2 : Int), w.cell? (a1.add 0) = some (.int .i64 v2) ∧
 ∃ (v3 : Int), w.cell? (a1.add 1) = some (.int .i64 v3) ∧
 ∃ (v4 : Int), w.cell? (a1.add 2) = some (.int .i64 v4) ∧
 ∃ (v5 : BA), w.cell? (a1.add 3) = some (.string v5) ∧
 ∃ (v6 : Int), w.cell? (a1.add 4) = some (.int .u8 v6) ∧
 box w #[.int .i64 0, .int .i64 0, .int .i64 0, .string (ByteArray.mk #[]), .int .u8 0] ty_line fun b7 w8 =>
 stV w8 ⟨b7, 0, none⟩ (.int .i64 v2) fun w9 =>
 stV w9 ⟨b7, 1, none⟩ (.int .i64 v3) fun w10 =>
 stV w10 ⟨b7, 2, none⟩ (.int .i64 v4) fun w11 =>
 stV w11 ⟨b7, 3, none⟩ (.string v5) fun w12 =>
 stV w12 ⟨b7, 4, none⟩ (.int .u8 v6) fun w13 =>
 callE P i_line_trimSpace #[.pointer (some ⟨b7, 0, none⟩), .int .i64 0, .int .i64 3, .bool false] (fun e w15 => ∃ (r14 : Bool), e = .returned (.bool r14) ∧
 callE P i_line_trim #[.pointer (some ⟨b7, 0, none⟩), .int .u8 35] (fun e w17 => ∃ (r16 : Bool), e = .returned (.bool r16) ∧
 br (!r16)
 (R (.returned (.bool false)) w17)
 (g_line_trimHeading.l1 R x0 x1 b7 1 w17)) w15) w13

namespace g_line_trimHeading
noncomputable def ac (R : EP) : AC :=
 (.seq (.leaf (sel [0] body)) (.seq (.leaf (sel [1,0] body)) (.seq (.leaf (sel [1,1,0] body)) (.seq (.leaf (sel [1,1,1,0] body)) (.seq (.leaf (sel [1,1,1,1,0] body)) (.seq (.block 0 (.loop (leaf [(0, .s .ptr), (1, .s .ptr), (5, .s .loc), (6, .s (.int .i64))] (l1 R)) (sel [1,1,1,1,1,0,0,0] body))) (.mark (leaf [(0, .s .ptr), (1, .s .ptr), (5, .s .loc), (6, .s (.int .i64))] (k1 R)) (.leaf (sel [1,1,1,1,1,1] body)))))))))
theorem good (R : EP) : Good P 28 (ac R) (QF P [.tmp 4] R) :=
 ⟨trivial, ⟨trivial, ⟨trivial, ⟨trivial, ⟨trivial, ⟨(loopG (al1 R) (bl1 R) (fun _ => by kernel_rfl) (fun Xa => trivial) (fun Xa => by intro x0 x1 x5 x6 ρ w; kernel_rfl) (fun X h _ _ _ _ _ g => g X h)), ⟨trivial, cutZ⟩⟩⟩⟩⟩⟩⟩
theorem eq (R : EP) (x0 x1 : OA) (w : World) : g_line_trimHeading R x0 x1 w = vcA P 28 (ac R) (QF P [.tmp 4] R) (fr0 [.pointer x0, .pointer x1]) w := by kernel_rfl
theorem sound {R : EP} {x0 x1 : OA} {w : World} (h : g_line_trimHeading R x0 x1 w) : callE P i_line_trimHeading #[.pointer x0, .pointer x1] R w :=
 callE_fz (c := body) Tryz.func174 Tryz.call174 (good R) (eq R x0 x1 w) h
end g_line_trimHeading
namespace g_newATXHeading
noncomputable def body : Code := bodyOf Tryz.f125
def k2 (R : EP) (x0 : OA) (x4 x7 : Nat) (x8 x10 : BA) (w : World) : Prop :=
 tk w fun w57 =>
 nilP x0 fun a58 =>
 nilP x0 fun a59 =>
 ∃ (v60 : Int), w57.cell? (a58.add 3) = some (.int .i64 v60) ∧
 ∃ (v61 : Int), w57.cell? (a59.add 3) = some (.int .i64 v61) ∧
 box w57 #[.int .i64 0, .int .i64 0] ty_Position fun b62 w63 =>
 SameC w57 w63 (a59.add 3) 1 ∧
 SameC w57 w63 (a58.add 3) 1 ∧
 stV w63 ⟨b62, 0, none⟩ (.int .i64 v60) fun w64 =>
 stV w64 ⟨b62, 1, none⟩ (.int .i64 v61) fun w65 =>
 tk w65 fun w66 =>
 ∃ (v67 : Int), w66.cell? ⟨b62, 0, none⟩ = some (.int .i64 v67) ∧
 ∃ (v68 : Int), w66.cell? ⟨b62, 1, none⟩ = some (.int .i64 v68) ∧
 ∃ (v69 : Int), w66.cell? ⟨x7, 0, none⟩ = some (.int .i64 v69) ∧
 ∃ (v70 : Int), w66.cell? ⟨b62, 0, none⟩ = some (.int .i64 v70) ∧
 ∃ (v71 : Int), w66.cell? ⟨b62, 1, none⟩ = some (.int .i64 v71) ∧
 callE P i_parseState_newText #[.pointer x0, .agg #[.int .i64 v70, .int .i64 v71], .string x8] (fun e w73 => ∃ (r72 : OA), e = .returned (.pointer r72) ∧
 SameC w66 w73 ⟨x7, 0, none⟩ 1 ∧
 SameC w66 w73 ⟨b62, 0, none⟩ 2 ∧
 box w73 #[.int .i64 v67, .int .i64 v68, .int .i64 v69, .pointer r72, .string x10] ty_Heading fun b74 w75 =>
 callE P i_parseState_doneBlock #[.pointer x0, .iface ty_P_Heading (.pointer (some ⟨b74, 0, none⟩))] (fun e w77 => e = .returned (.tuple #[]) ∧
 stV w77 ⟨x4, 0, none⟩ (.int .i64 0) fun w78 =>
 stV w78 ⟨x4, 1, none⟩ (.int .i64 0) fun w79 =>
 stV w79 ⟨x4, 2, none⟩ (.int .i64 0) fun w80 =>
 stV w80 ⟨x4, 3, none⟩ (.string (ByteArray.mk #[])) fun w81 =>
 stV w81 ⟨x4, 4, none⟩ (.int .u8 0) fun w82 =>
 ∃ (v83 : Int), w82.cell? ⟨x4, 0, none⟩ = some (.int .i64 v83) ∧
 ∃ (v84 : Int), w82.cell? ⟨x4, 1, none⟩ = some (.int .i64 v84) ∧
 ∃ (v85 : Int), w82.cell? ⟨x4, 2, none⟩ = some (.int .i64 v85) ∧
 ∃ (v86 : BA), w82.cell? ⟨x4, 3, none⟩ = some (.string v86) ∧
 ∃ (v87 : Int), w82.cell? ⟨x4, 4, none⟩ = some (.int .u8 v87) ∧
 R (.returned (.tuple #[.agg #[.int .i64 v83, .int .i64 v84, .int .i64 v85, .string v86, .int .u8 v87], .bool true])) w82) w75) w66

def k3 (R : EP) (Xa : OA → Nat → Nat → BA → BA → Value → WP) (x0 : OA) (x4 x7 : Nat) (x8 x10 : BA) (x44 : Value) (x55 : Bool) (w : World) : Prop :=
 br x55
 (nilP x0 fun a88 =>
 stV w ((a88.add 6).add 0) (.bool true) fun w89 =>
 Xa x0 x4 x7 x8 x10 x44 w89)
 (Xa x0 x4 x7 x8 x10 x44 w)

def bl1 (R : EP) (Xa : OA → Nat → Nat → BA → BA → Value → WP) (x0 : OA) (x4 x7 : Nat) (x8 x10 : BA) (x44 : Value) (w : World) : Prop :=
 (∃ w52, (Instr.next x44 true ty_).run P w = .ok (.tuple #[.bool false]) w52 ∧
 k2 R x0 x4 x7 x8 x10 w52) ∨
 (∃ (r53_0 : Int), ∃ (r53_1 : Int), ∃ w54, (Instr.next x44 true ty_).run P w = .ok (.tuple #[.bool true, .int .i64 r53_0, .int .i32 r53_1]) w54 ∧
 br (decide (r53_1 ≥ 128))
 (k3 R Xa x0 x4 x7 x8 x10 x44 true w54)
 (callE P i_isLetterDigit #[.int .u8 (IntKind.u8.wrap r53_1)] (fun e w56 => ∃ (r55 : Bool), e = .returned (.bool r55) ∧
 k3 R Xa x0 x4 x7 x8 x10 x44 (!r55) w56) w54))
def l1 (R : EP) (x0 : OA) (x4 x7 : Nat) (x8 x10 : BA) (x44 : Value) (w : World) : Prop :=
 ∀ X : OA → Nat → Nat → BA → BA → Value → WP, (∀ x0 x4 x7 x8 x10 x44 w, bl1 R X x0 x4 x7 x8 x10 x44 w → X x0 x4 x7 x8 x10 x44 w) → X x0 x4 x7 x8 x10 x44 w

noncomputable def al1 (R : EP) (Xa : OA → Nat → Nat → BA → BA → Value → WP) : AC :=
 (.seq (.leaf (sel [1,1,1,0,1,0,1,1,1,1,0,1,0,1,1,0,0,0] body)) (.seq (.leaf (sel [1,1,1,0,1,0,1,1,1,1,0,1,0,1,1,0,0,1,0] body)) (.block 1 (.seq (.leaf (sel [1,1,1,0,1,0,1,1,1,1,0,1,0,1,1,0,0,1,1,0,0] body)) (.seq (.leaf (sel [1,1,1,0,1,0,1,1,1,1,0,1,0,1,1,0,0,1,1,0,1,0] body)) (.mark (leaf [(0, .s .ptr), (4, .s .loc), (7, .s .loc), (8, .s .str), (10, .s .str), (44, .s .any), (55, .s .bool)] (k3 R Xa)) (.leaf (sel [1,1,1,0,1,0,1,1,1,1,0,1,0,1,1,0,0,1,1,0,1,1] body))))))))
def k1 (R : EP) (x0 : OA) (x4 x7 : Nat) (x8 : BA) (w : World) : Prop :=
 nilP x0 fun a44 =>
 ∃ (v45 : OA), w.cell? a44 = some (.pointer v45) ∧
 nilP v45 fun a46 =>
 ∃ (v47 : Bool), w.cell? a46 = some (.bool v47) ∧
 br v47
 (callE P i_extractID #[.pointer x0, .string x8] (fun e w49 => ∃ (r48_0 : BA), ∃ (r48_1 : BA), e = .returned (.tuple #[.string r48_0, .string r48_1]) ∧
 ∃ (r50 : Value), ∃ w51, (Instr.range ty_string (.string r48_0)).run P w49 = .ok r50 w51 ∧
 l1 R x0 x4 x7 r48_1 r48_0 r50 w51) w)
 (k2 R x0 x4 x7 x8 (ByteArray.mk #[]) w)

end g_newATXHeading
def g_newATXHeading (R : EP) (x0 : OA) (x1_0 x1_1 x1_2 : Int) (x1_3 : BA) (x1_4 : Int) (w : World) : Prop :=
 box w #[.int .i64 x1_0, .int .i64 x1_1, .int .i64 x1_2, .string x1_3, .int .u8 x1_4] ty_line fun b1 w2 =>
 box w2 #[.int .i64 0, .int .i64 0, .int .i64 0, .string (ByteArray.mk #[]), .int .u8 0] ty_line fun b3 w4 =>
 ∃ (v5 : Int), w4.cell? ⟨b1, 0, none⟩ = some (.int .i64 v5) ∧
 ∃ (v6 : Int), w4.cell? ⟨b1, 1, none⟩ = some (.int .i64 v6) ∧
 ∃ (v7 : Int), w4.cell? ⟨b1, 2, none⟩ = some (.int .i64 v7) ∧
 ∃ (v8 : BA), w4.cell? ⟨b1, 3, none⟩ = some (.string v8) ∧
 ∃ (v9 : Int), w4.cell? ⟨b1, 4, none⟩ = some (.int .u8 v9) ∧
 box w4 #[.int .i64 0, .int .i64 0, .int .i64 0, .string (ByteArray.mk #[]), .int .u8 0] ty_line fun b10 w11 =>
 stV w11 ⟨b10, 0, none⟩ (.int .i64 v5) fun w12 =>
 stV w12 ⟨b10, 1, none⟩ (.int .i64 v6) fun w13 =>
 stV w13 ⟨b10, 2, none⟩ (.int .i64 v7) fun w14 =>
 stV w14 ⟨b10, 3, none⟩ (.string v8) fun w15 =>
 stV w15 ⟨b10, 4, none⟩ (.int .u8 v9) fun w16 =>
 box w16 #[.int .i64 0] ty_int fun b17 w18 =>
 callE P i_line_trimHeading #[.pointer (some ⟨b10, 0, none⟩), .pointer (some ⟨b17, 0, none⟩)] (fun e w20 => ∃ (r19 : Bool), e = .returned (.bool r19) ∧
 br r19
 (callE P i_line_string #[.pointer (some ⟨b10, 0, none⟩)] (fun e w22 => ∃ (r21 : BA), e = .returned (.string r21) ∧
 callE P i_trimRightSpaceTab #[.string r21] (fun e w24 => ∃ (r23 : BA), e = .returned (.string r23) ∧
 callE P i_zzTrimRight #[.string r23, .string (ByteArray.mk #[35])] (fun e w26 => ∃ (r25 : BA), e = .returned (.string r25) ∧
 callE P i_trimRightSpaceTab #[.string r25] (fun e w28 => ∃ (r27 : BA), e = .returned (.string r27) ∧
 br ((!(r25.toList == r27.toList)) || (r25.toList == (ByteArray.mk #[]).toList))
 (g_newATXHeading.k1 R x0 b3 b17 r25 w28)
 (g_newATXHeading.k1 R x0 b3 b17 r23 w28)) w26) w24) w22) w20)
 (∃ (v29 : Int), w20.cell? ⟨b1, 0, none⟩ = some (.int .i64 v29) ∧
 ∃ (v30 : Int), w20.cell? ⟨b1, 1, none⟩ = some (.int .i64 v30) ∧
 ∃ (v31 : Int), w20.cell? ⟨b1, 2, none⟩ = some (.int .i64 v31) ∧
 ∃ (v32 : BA), w20.cell? ⟨b1, 3, none⟩ = some (.string v32) ∧
 ∃ (v33 : Int), w20.cell? ⟨b1, 4, none⟩ = some (.int .u8 v33) ∧
 stV w20 ⟨b3, 0, none⟩ (.int .i64 v29) fun w34 =>
 stV w34 ⟨b3, 1, none⟩ (.int .i64 v30) fun w35 =>
 stV w35 ⟨b3, 2, none⟩ (.int .i64 v31) fun w36 =>
 stV w36 ⟨b3, 3, none⟩ (.string v32) fun w37 =>
 stV w37 ⟨b3, 4, none⟩ (.int .u8 v33) fun w38 =>
 ∃ (v39 : Int), w38.cell? ⟨b3, 0, none⟩ = some (.int .i64 v39) ∧
 ∃ (v40 : Int), w38.cell? ⟨b3, 1, none⟩ = some (.int .i64 v40) ∧
 ∃ (v41 : Int), w38.cell? ⟨b3, 2, none⟩ = some (.int .i64 v41) ∧
 ∃ (v42 : BA), w38.cell? ⟨b3, 3, none⟩ = some (.string v42) ∧
 ∃ (v43 : Int), w38.cell? ⟨b3, 4, none⟩ = some (.int .u8 v43) ∧
 R (.returned (.tuple #[.agg #[.int .i64 v39, .int .i64 v40, .int .i64 v41, .string v42, .int .u8 v43], .bool false])) w38)) w18

namespace g_newATXHeading
noncomputable def ac (R : EP) : AC :=
 (.seq (.leaf (sel [0] body)) (.seq (.leaf (sel [1,0] body)) (.seq (.leaf (sel [1,1,0] body)) (.seq (.seq (.leaf (sel [1,1,1,0,0] body)) (.cond 15 (.seq (.leaf (sel [1,1,1,0,1,0,0] body)) (.seq (.leaf (sel [1,1,1,0,1,0,1,0] body)) (.seq (.leaf (sel [1,1,1,0,1,0,1,1,0] body)) (.mark (leaf [(0, .s .ptr), (4, .s .loc), (7, .s .loc), (8, .s .str)] (k1 R)) (.seq (.leaf (sel [1,1,1,0,1,0,1,1,1,0] body)) (.seq (.seq (.leaf (sel [1,1,1,0,1,0,1,1,1,1,0,0] body)) (.cond 36 (.seq (.leaf (sel [1,1,1,0,1,0,1,1,1,1,0,1,0,0] body)) (.seq (.leaf (sel [1,1,1,0,1,0,1,1,1,1,0,1,0,1,0] body)) (.block 0 (.loop (leaf [(0, .s .ptr), (4, .s .loc), (7, .s .loc), (8, .s .str), (10, .s .str), (44, .s .any)] (l1 R)) (sel [1,1,1,0,1,0,1,1,1,1,0,1,0,1,1,0,0] body))))) (.leaf (sel [1,1,1,0,1,0,1,1,1,1,0,1,1] body)))) (.mark (leaf [(0, .s .ptr), (4, .s .loc), (7, .s .loc), (8, .s .str), (10, .s .str)] (k2 R)) (.seq (.draw (.pure 0 (.pure 1 (.pure 2 (.pure 4 (.pure 5 (.pure 6 (.load 3 (.load 7 (.pure 8 (.one 9 (.one 10 .done))))))))))) (sel [1,1,1,0,1,0,1,1,1,1,1,0] body)) (.seq (.draw (.pure 0 (.pure 3 (.pure 5 (.pure 7 (.load 1 (.load 2 (.load 4 (.one 6 (.pure 8 (.one 9 (.pure 10 (.one 11 .done)))))))))))) (sel [1,1,1,0,1,0,1,1,1,1,1,1,0] body)) (.leaf (sel [1,1,1,0,1,0,1,1,1,1,1,1,1] body))))))))))) (.leaf (sel [1,1,1,0,1,1] body)))) (.leaf (sel [1,1,1,1] body))))))
theorem good (R : EP) : Good P 82 (ac R) (QF P [.cell 4 159, .tmp 5] R) :=
 ⟨trivial, ⟨trivial, ⟨trivial, ⟨⟨trivial, ⟨⟨trivial, ⟨trivial, ⟨trivial, ⟨⟨trivial, ⟨⟨trivial, ⟨⟨trivial, ⟨trivial, (loopG (al1 R) (bl1 R) (fun _ => by kernel_rfl) (fun Xa => ⟨trivial, ⟨trivial, ⟨trivial, ⟨trivial, ⟨trivial, cutZ⟩⟩⟩⟩⟩) (fun Xa => by intro x0 x4 x7 x8 x10 x44 ρ w; kernel_rfl) (fun X h _ _ _ _ _ _ _ g => g X h))⟩⟩, trivial⟩⟩, ⟨⟨⟨by kernel_rfl, by kernel_rfl, fun _ _ _ h => h⟩, ⟨⟨by kernel_rfl, by kernel_rfl, fun _ _ _ h => h⟩, trivial⟩⟩, cutZ⟩⟩⟩, cutZ⟩⟩⟩⟩, trivial⟩⟩, trivial⟩⟩⟩⟩
theorem eq (R : EP) (x0 : OA) (x1_0 x1_1 x1_2 : Int) (x1_3 : BA) (x1_4 : Int) (w : World) : g_newATXHeading R x0 x1_0 x1_1 x1_2 x1_3 x1_4 w = vcA P 82 (ac R) (QF P [.cell 4 159, .tmp 5] R) (fr0 [.pointer x0, .agg #[.int .i64 x1_0, .int .i64 x1_1, .int .i64 x1_2, .string x1_3, .int .u8 x1_4]]) w := by kernel_rfl
theorem sound {R : EP} {x0 : OA} {x1_0 x1_1 x1_2 : Int} {x1_3 : ByteArray} {x1_4 : Int} {w : World} (h : g_newATXHeading R x0 x1_0 x1_1 x1_2 x1_3 x1_4 w) : callE P i_newATXHeading #[.pointer x0, .agg #[.int .i64 x1_0, .int .i64 x1_1, .int .i64 x1_2, .string x1_3, .int .u8 x1_4]] R w :=
 callE_fz (c := body) Tryz.func125 Tryz.call125 (good R) (eq R x0 x1_0 x1_1 x1_2 x1_3 x1_4 w) h
end g_newATXHeading
namespace g_newHR
noncomputable def body : Code := bodyOf Tryz.f127
end g_newHR
def g_newHR (R : EP) (x0 : OA) (x1_0 x1_1 x1_2 : Int) (x1_3 : BA) (x1_4 : Int) (w : World) : Prop :=
 box w #[.int .i64 x1_0, .int .i64 x1_1, .int .i64 x1_2, .string x1_3, .int .u8 x1_4] ty_line fun b1 w2 =>
 box w2 #[.int .i64 0, .int .i64 0, .int .i64 0, .string (ByteArray.mk #[]), .int .u8 0] ty_line fun b3 w4 =>
 ∃ (v5 : Int), w4.cell? ⟨b1, 0, none⟩ = some (.int .i64 v5) ∧
 ∃ (v6 : Int), w4.cell? ⟨b1, 1, none⟩ = some (.int .i64 v6) ∧
 ∃ (v7 : Int), w4.cell? ⟨b1, 2, none⟩ = some (.int .i64 v7) ∧
 ∃ (v8 : BA), w4.cell? ⟨b1, 3, none⟩ = some (.string v8) ∧
 ∃ (v9 : Int), w4.cell? ⟨b1, 4, none⟩ = some (.int .u8 v9) ∧
 callE P i_isHR #[.agg #[.int .i64 v5, .int .i64 v6, .int .i64 v7, .string v8, .int .u8 v9]] (fun e w11 => ∃ (r10 : Bool), e = .returned (.bool r10) ∧
 br r10
 (tk w11 fun w12 =>
 nilP x0 fun a13 =>
 nilP x0 fun a14 =>
 ∃ (v15 : Int), w12.cell? (a13.add 3) = some (.int .i64 v15) ∧
 ∃ (v16 : Int), w12.cell? (a14.add 3) = some (.int .i64 v16) ∧
 callE P i_line_string #[.pointer (some ⟨b1, 0, none⟩)] (fun e w18 => ∃ (r17 : BA), e = .returned (.string r17) ∧
 SameC w12 w18 (a14.add 3) 1 ∧
 SameC w12 w18 (a13.add 3) 1 ∧
 box w18 #[.int .i64 v15, .int .i64 v16, .string r17] ty_ThematicBreak fun b19 w20 =>
 callE P i_parseState_doneBlock #[.pointer x0, .iface ty_P_ThematicBreak (.pointer (some ⟨b19, 0, none⟩))] (fun e w22 => e = .returned (.tuple #[]) ∧
 stV w22 ⟨b3, 0, none⟩ (.int .i64 0) fun w23 =>
 stV w23 ⟨b3, 1, none⟩ (.int .i64 0) fun w24 =>
 stV w24 ⟨b3, 2, none⟩ (.int .i64 0) fun w25 =>
 stV w25 ⟨b3, 3, none⟩ (.string (ByteArray.mk #[])) fun w26 =>
 stV w26 ⟨b3, 4, none⟩ (.int .u8 0) fun w27 =>
 ∃ (v28 : Int), w27.cell? ⟨b3, 0, none⟩ = some (.int .i64 v28) ∧
 ∃ (v29 : Int), w27.cell? ⟨b3, 1, none⟩ = some (.int .i64 v29) ∧
 ∃ (v30 : Int), w27.cell? ⟨b3, 2, none⟩ = some (.int .i64 v30) ∧
 ∃ (v31 : BA), w27.cell? ⟨b3, 3, none⟩ = some (.string v31) ∧
 ∃ (v32 : Int), w27.cell? ⟨b3, 4, none⟩ = some (.int .u8 v32) ∧
 R (.returned (.tuple #[.agg #[.int .i64 v28, .int .i64 v29, .int .i64 v30, .string v31, .int .u8 v32], .bool true])) w27) w20) w12)
 (∃ (v33 : Int), w11.cell? ⟨b1, 0, none⟩ = some (.int .i64 v33) ∧
 ∃ (v34 : Int), w11.cell? ⟨b1, 1, none⟩ = some (.int .i64 v34) ∧
 ∃ (v35 : Int), w11.cell? ⟨b1, 2, none⟩ = some (.int .i64 v35) ∧
 ∃ (v36 : BA), w11.cell? ⟨b1, 3, none⟩ = some (.string v36) ∧
 ∃ (v37 : Int), w11.cell? ⟨b1, 4, none⟩ = some (.int .u8 v37) ∧
 stV w11 ⟨b3, 0, none⟩ (.int .i64 v33) fun w38 =>
 stV w38 ⟨b3, 1, none⟩ (.int .i64 v34) fun w39 =>
 stV w39 ⟨b3, 2, none⟩ (.int .i64 v35) fun w40 =>
 stV w40 ⟨b3, 3, none⟩ (.string v36) fun w41 =>
 stV w41 ⟨b3, 4, none⟩ (.int .u8 v37) fun w42 =>
 ∃ (v43 : Int), w42.cell? ⟨b3, 0, none⟩ = some (.int .i64 v43) ∧
 ∃ (v44 : Int), w42.cell? ⟨b3, 1, none⟩ = some (.int .i64 v44) ∧
 ∃ (v45 : Int), w42.cell? ⟨b3, 2, none⟩ = some (.int .i64 v45) ∧
 ∃ (v46 : BA), w42.cell? ⟨b3, 3, none⟩ = some (.string v46) ∧
 ∃ (v47 : Int), w42.cell? ⟨b3, 4, none⟩ = some (.int .u8 v47) ∧
 R (.returned (.tuple #[.agg #[.int .i64 v43, .int .i64 v44, .int .i64 v45, .string v46, .int .u8 v47], .bool false])) w42)) w4

namespace g_newHR
noncomputable def ac (R : EP) : AC :=
 (.seq (.leaf (sel [0] body)) (.seq (.seq (.leaf (sel [1,0,0] body)) (.cond 7 (.seq (.draw (.pure 0 (.pure 1 (.pure 2 (.pure 3 (.pure 5 (.pure 6 (.pure 7 (.load 4 (.load 8 (.pure 9 (.one 10 (.pure 11 (.one 12 (.pure 13 (.one 14 .done))))))))))))))) (sel [1,0,1,0,0] body)) (.leaf (sel [1,0,1,0,1] body))) (.leaf (sel [1,0,1,1] body)))) (.leaf (sel [1,1] body))))
theorem good (R : EP) : Good P 25 (ac R) (QF P [.cell 4 159, .tmp 5] R) :=
 ⟨trivial, ⟨⟨trivial, ⟨⟨⟨by kernel_rfl, by kernel_rfl, fun _ _ _ h => h⟩, trivial⟩, trivial⟩⟩, trivial⟩⟩
theorem eq (R : EP) (x0 : OA) (x1_0 x1_1 x1_2 : Int) (x1_3 : BA) (x1_4 : Int) (w : World) : g_newHR R x0 x1_0 x1_1 x1_2 x1_3 x1_4 w = vcA P 25 (ac R) (QF P [.cell 4 159, .tmp 5] R) (fr0 [.pointer x0, .agg #[.int .i64 x1_0, .int .i64 x1_1, .int .i64 x1_2, .string x1_3, .int .u8 x1_4]]) w := by kernel_rfl
theorem sound {R : EP} {x0 : OA} {x1_0 x1_1 x1_2 : Int} {x1_3 : ByteArray} {x1_4 : Int} {w : World} (h : g_newHR R x0 x1_0 x1_1 x1_2 x1_3 x1_4 w) : callE P i_newHR #[.pointer x0, .agg #[.int .i64 x1_0, .int .i64 x1_1, .int .i64 x1_2, .string x1_3, .int .u8 x1_4]] R w :=
 callE_fz (c := body) Tryz.func127 Tryz.call127 (good R) (eq R x0 x1_0 x1_1 x1_2 x1_3 x1_4 w) h
end g_newHR
namespace g_newQuote
noncomputable def body : Code := bodyOf Tryz.f124
end g_newQuote
def g_newQuote (R : EP) (x0 : OA) (x1_0 x1_1 x1_2 : Int) (x1_3 : BA) (x1_4 : Int) (w : World) : Prop :=
 box w #[.int .i64 x1_0, .int .i64 x1_1, .int .i64 x1_2, .string x1_3, .int .u8 x1_4] ty_line fun b1 w2 =>
 box w2 #[.int .i64 0, .int .i64 0, .int .i64 0, .string (ByteArray.mk #[]), .int .u8 0] ty_line fun b3 w4 =>
 ∃ (v5 : Int), w4.cell? ⟨b1, 0, none⟩ = some (.int .i64 v5) ∧
 ∃ (v6 : Int), w4.cell? ⟨b1, 1, none⟩ = some (.int .i64 v6) ∧
 ∃ (v7 : Int), w4.cell? ⟨b1, 2, none⟩ = some (.int .i64 v7) ∧
 ∃ (v8 : BA), w4.cell? ⟨b1, 3, none⟩ = some (.string v8) ∧
 ∃ (v9 : Int), w4.cell? ⟨b1, 4, none⟩ = some (.int .u8 v9) ∧
 callE P i_trimQuote #[.agg #[.int .i64 v5, .int .i64 v6, .int .i64 v7, .string v8, .int .u8 v9]] (fun e w11 => ∃ (r10_0_0 : Int), ∃ (r10_0_1 : Int), ∃ (r10_0_2 : Int), ∃ (r10_0_3 : BA), ∃ (r10_0_4 : Int), ∃ (r10_1 : Bool), e = .returned (.tuple #[.agg #[.int .i64 r10_0_0, .int .i64 r10_0_1, .int .i64 r10_0_2, .string r10_0_3, .int .u8 r10_0_4], .bool r10_1]) ∧
 box w11 #[.int .i64 0, .int .i64 0, .int .i64 0, .string (ByteArray.mk #[]), .int .u8 0] ty_line fun b12 w13 =>
 stV w13 ⟨b12, 0, none⟩ (.int .i64 r10_0_0) fun w14 =>
 stV w14 ⟨b12, 1, none⟩ (.int .i64 r10_0_1) fun w15 =>
 stV w15 ⟨b12, 2, none⟩ (.int .i64 r10_0_2) fun w16 =>
 stV w16 ⟨b12, 3, none⟩ (.string r10_0_3) fun w17 =>
 stV w17 ⟨b12, 4, none⟩ (.int .u8 r10_0_4) fun w18 =>
 br r10_1
 (box w18 #[] ty_quoteBuilder fun b19 w20 =>
 callE P i_parseState_addBlock #[.pointer x0, .iface ty_P_quoteBuilder (.pointer (some ⟨b19, 0, none⟩))] (fun e w22 => e = .returned (.tuple #[]) ∧
 ∃ (v23 : Int), w22.cell? ⟨b12, 0, none⟩ = some (.int .i64 v23) ∧
 ∃ (v24 : Int), w22.cell? ⟨b12, 1, none⟩ = some (.int .i64 v24) ∧
 ∃ (v25 : Int), w22.cell? ⟨b12, 2, none⟩ = some (.int .i64 v25) ∧
 ∃ (v26 : BA), w22.cell? ⟨b12, 3, none⟩ = some (.string v26) ∧
 ∃ (v27 : Int), w22.cell? ⟨b12, 4, none⟩ = some (.int .u8 v27) ∧
 stV w22 ⟨b3, 0, none⟩ (.int .i64 v23) fun w28 =>
 stV w28 ⟨b3, 1, none⟩ (.int .i64 v24) fun w29 =>
 stV w29 ⟨b3, 2, none⟩ (.int .i64 v25) fun w30 =>
 stV w30 ⟨b3, 3, none⟩ (.string v26) fun w31 =>
 stV w31 ⟨b3, 4, none⟩ (.int .u8 v27) fun w32 =>
 ∃ (v33 : Int), w32.cell? ⟨b3, 0, none⟩ = some (.int .i64 v33) ∧
 ∃ (v34 : Int), w32.cell? ⟨b3, 1, none⟩ = some (.int .i64 v34) ∧
 ∃ (v35 : Int), w32.cell? ⟨b3, 2, none⟩ = some (.int .i64 v35) ∧
 ∃ (v36 : BA), w32.cell? ⟨b3, 3, none⟩ = some (.string v36) ∧
 ∃ (v37 : Int), w32.cell? ⟨b3, 4, none⟩ = some (.int .u8 v37) ∧
 R (.returned (.tuple #[.agg #[.int .i64 v33, .int .i64 v34, .int .i64 v35, .string v36, .int .u8 v37], .bool true])) w32) w20)
 (∃ (v38 : Int), w18.cell? ⟨b1, 0, none⟩ = some (.int .i64 v38) ∧
 ∃ (v39 : Int), w18.cell? ⟨b1, 1, none⟩ = some (.int .i64 v39) ∧
 ∃ (v40 : Int), w18.cell? ⟨b1, 2, none⟩ = some (.int .i64 v40) ∧
 ∃ (v41 : BA), w18.cell? ⟨b1, 3, none⟩ = some (.string v41) ∧
 ∃ (v42 : Int), w18.cell? ⟨b1, 4, none⟩ = some (.int .u8 v42) ∧
 stV w18 ⟨b3, 0, none⟩ (.int .i64 v38) fun w43 =>
 stV w43 ⟨b3, 1, none⟩ (.int .i64 v39) fun w44 =>
 stV w44 ⟨b3, 2, none⟩ (.int .i64 v40) fun w45 =>
 stV w45 ⟨b3, 3, none⟩ (.string v41) fun w46 =>
 stV w46 ⟨b3, 4, none⟩ (.int .u8 v42) fun w47 =>
 ∃ (v48 : Int), w47.cell? ⟨b3, 0, none⟩ = some (.int .i64 v48) ∧
 ∃ (v49 : Int), w47.cell? ⟨b3, 1, none⟩ = some (.int .i64 v49) ∧
 ∃ (v50 : Int), w47.cell? ⟨b3, 2, none⟩ = some (.int .i64 v50) ∧
 ∃ (v51 : BA), w47.cell? ⟨b3, 3, none⟩ = some (.string v51) ∧
 ∃ (v52 : Int), w47.cell? ⟨b3, 4, none⟩ = some (.int .u8 v52) ∧
 R (.returned (.tuple #[.agg #[.int .i64 v48, .int .i64 v49, .int .i64 v50, .string v51, .int .u8 v52], .bool false])) w47)) w4

namespace g_newQuote
noncomputable def ac (R : EP) : AC :=
 (.leaf (sel [] body))
theorem good (R : EP) : Good P 20 (ac R) (QF P [.cell 4 159, .tmp 5] R) :=
 trivial
theorem eq (R : EP) (x0 : OA) (x1_0 x1_1 x1_2 : Int) (x1_3 : BA) (x1_4 : Int) (w : World) : g_newQuote R x0 x1_0 x1_1 x1_2 x1_3 x1_4 w = vcA P 20 (ac R) (QF P [.cell 4 159, .tmp 5] R) (fr0 [.pointer x0, .agg #[.int .i64 x1_0, .int .i64 x1_1, .int .i64 x1_2, .string x1_3, .int .u8 x1_4]]) w := by kernel_rfl
theorem sound {R : EP} {x0 : OA} {x1_0 x1_1 x1_2 : Int} {x1_3 : ByteArray} {x1_4 : Int} {w : World} (h : g_newQuote R x0 x1_0 x1_1 x1_2 x1_3 x1_4 w) : callE P i_newQuote #[.pointer x0, .agg #[.int .i64 x1_0, .int .i64 x1_1, .int .i64 x1_2, .string x1_3, .int .u8 x1_4]] R w :=
 callE_fz (c := body) Tryz.func124 Tryz.call124 (good R) (eq R x0 x1_0 x1_1 x1_2 x1_3 x1_4 w) h
end g_newQuote
namespace g_isHR
noncomputable def body : Code := bodyOf Tryz.f186
def bl1 (R : EP) (Xa : Nat → Int → Int → WP) (x3 : Nat) (x4 x5 : Int) (w : World) : Prop :=
 callE P i_line_trim #[.pointer (some ⟨x3, 0, none⟩), .int .u8 x4] (fun e w20 => ∃ (r19 : Bool), e = .returned (.bool r19) ∧
 br (!r19)
 (br (decide (x5 ≥ 3))
 (callE P i_line_eof #[.pointer (some ⟨x3, 0, none⟩)] (fun e w22 => ∃ (r21 : Bool), e = .returned (.bool r21) ∧
 R (.returned (.bool r21)) w22) w20)
 (R (.returned (.bool false)) w20))
 (callE P i_line_skipSpace #[.pointer (some ⟨x3, 0, none⟩)] (fun e w24 => e = .returned (.tuple #[]) ∧
 Xa x3 x4 (IntKind.i64.wrap (x5 + 1)) w24) w20)) w
def l1 (R : EP) (x3 : Nat) (x4 x5 : Int) (w : World) : Prop :=
 ∀ X : Nat → Int → Int → WP, (∀ x3 x4 x5 w, bl1 R X x3 x4 x5 w → X x3 x4 x5 w) → X x3 x4 x5 w

noncomputable def al1 (R : EP) (Xa : Nat → Int → Int → WP) : AC :=
 (.leaf (sel [1,1,1,0,1,1,0,1,0,0,1,0,0] body))
def k1 (R : EP) (x3 : Nat) (x4 : Int) (x10 : Bool) (w : World) : Prop :=
 br x10
 (l1 R x3 x4 0 w)
 (R (.returned (.bool false)) w)

end g_isHR
def g_isHR (R : EP) (x0_0 x0_1 x0_2 : Int) (x0_3 : BA) (x0_4 : Int) (w : World) : Prop :=
 box w #[.int .i64 x0_0, .int .i64 x0_1, .int .i64 x0_2, .string x0_3, .int .u8 x0_4] ty_line fun b1 w2 =>
 ∃ (v3 : Int), w2.cell? ⟨b1, 0, none⟩ = some (.int .i64 v3) ∧
 ∃ (v4 : Int), w2.cell? ⟨b1, 1, none⟩ = some (.int .i64 v4) ∧
 ∃ (v5 : Int), w2.cell? ⟨b1, 2, none⟩ = some (.int .i64 v5) ∧
 ∃ (v6 : BA), w2.cell? ⟨b1, 3, none⟩ = some (.string v6) ∧
 ∃ (v7 : Int), w2.cell? ⟨b1, 4, none⟩ = some (.int .u8 v7) ∧
 box w2 #[.int .i64 0, .int .i64 0, .int .i64 0, .string (ByteArray.mk #[]), .int .u8 0] ty_line fun b8 w9 =>
 stV w9 ⟨b8, 0, none⟩ (.int .i64 v3) fun w10 =>
 stV w10 ⟨b8, 1, none⟩ (.int .i64 v4) fun w11 =>
 stV w11 ⟨b8, 2, none⟩ (.int .i64 v5) fun w12 =>
 stV w12 ⟨b8, 3, none⟩ (.string v6) fun w13 =>
 stV w13 ⟨b8, 4, none⟩ (.int .u8 v7) fun w14 =>
 callE P i_line_trimSpace #[.pointer (some ⟨b8, 0, none⟩), .int .i64 0, .int .i64 3, .bool false] (fun e w16 => ∃ (r15 : Bool), e = .returned (.bool r15) ∧
 callE P i_line_peek #[.pointer (some ⟨b8, 0, none⟩)] (fun e w18 => ∃ (r17 : Int), e = .returned (.int .u8 r17) ∧
 br (r17 == 45)
 (g_isHR.k1 R b8 r17 true w18)
 (br (r17 == 95)
 (g_isHR.k1 R b8 r17 true w18)
 (g_isHR.k1 R b8 r17 (r17 == 42) w18))) w16) w14

namespace g_isHR
noncomputable def ac (R : EP) : AC :=
 (.seq (.leaf (sel [0] body)) (.seq (.leaf (sel [1,0] body)) (.seq (.leaf (sel [1,1,0] body)) (.seq (.seq (.leaf (sel [1,1,1,0,0] body)) (.seq (.leaf (sel [1,1,1,0,1,0] body)) (.block 0 (.seq (.leaf (sel [1,1,1,0,1,1,0,0] body)) (.mark (leaf [(3, .s .loc), (4, .s (.int .u8)), (10, .s .bool)] (k1 R)) (.cond 10 (.seq (.seq (.leaf (sel [1,1,1,0,1,1,0,1,0,0,0] body)) (.block 1 (.loop (leaf [(3, .s .loc), (4, .s (.int .u8)), (5, .s (.int .i64))] (l1 R)) (sel [1,1,1,0,1,1,0,1,0,0,1,0,0] body)))) (.leaf (sel [1,1,1,0,1,1,0,1,0,1] body))) (.leaf (sel [1,1,1,0,1,1,0,1,1] body)))))))) (.leaf (sel [1,1,1,1] body))))))
theorem good (R : EP) : Good P 23 (ac R) (QF P [.tmp 2] R) :=
 ⟨trivial, ⟨trivial, ⟨trivial, ⟨⟨trivial, ⟨trivial, ⟨trivial, ⟨⟨⟨⟨trivial, (loopG (al1 R) (bl1 R) (fun _ => by kernel_rfl) (fun Xa => trivial) (fun Xa => by intro x3 x4 x5 ρ w; kernel_rfl) (fun X h _ _ _ _ g => g X h))⟩, trivial⟩, trivial⟩, cutZ⟩⟩⟩⟩, trivial⟩⟩⟩⟩
theorem eq (R : EP) (x0_0 x0_1 x0_2 : Int) (x0_3 : BA) (x0_4 : Int) (w : World) : g_isHR R x0_0 x0_1 x0_2 x0_3 x0_4 w = vcA P 23 (ac R) (QF P [.tmp 2] R) (fr0 [.agg #[.int .i64 x0_0, .int .i64 x0_1, .int .i64 x0_2, .string x0_3, .int .u8 x0_4]]) w := by kernel_rfl
theorem sound {R : EP} {x0_0 x0_1 x0_2 : Int} {x0_3 : ByteArray} {x0_4 : Int} {w : World} (h : g_isHR R x0_0 x0_1 x0_2 x0_3 x0_4 w) : callE P i_isHR #[.agg #[.int .i64 x0_0, .int .i64 x0_1, .int .i64 x0_2, .string x0_3, .int .u8 x0_4]] R w :=
 callE_fz (c := body) Tryz.func186 Tryz.call186 (good R) (eq R x0_0 x0_1 x0_2 x0_3 x0_4 w) h
end g_isHR
namespace g_trimQuote
noncomputable def body : Code := bodyOf Tryz.f173
end g_trimQuote
def g_trimQuote (R : EP) (x0_0 x0_1 x0_2 : Int) (x0_3 : BA) (x0_4 : Int) (w : World) : Prop :=
 box w #[.int .i64 x0_0, .int .i64 x0_1, .int .i64 x0_2, .string x0_3, .int .u8 x0_4] ty_line fun b1 w2 =>
 box w2 #[.int .i64 0, .int .i64 0, .int .i64 0, .string (ByteArray.mk #[]), .int .u8 0] ty_line fun b3 w4 =>
 ∃ (v5 : Int), w4.cell? ⟨b1, 0, none⟩ = some (.int .i64 v5) ∧
 ∃ (v6 : Int), w4.cell? ⟨b1, 1, none⟩ = some (.int .i64 v6) ∧
 ∃ (v7 : Int), w4.cell? ⟨b1, 2, none⟩ = some (.int .i64 v7) ∧
 ∃ (v8 : BA), w4.cell? ⟨b1, 3, none⟩ = some (.string v8) ∧
 ∃ (v9 : Int), w4.cell? ⟨b1, 4, none⟩ = some (.int .u8 v9) ∧
 box w4 #[.int .i64 0, .int .i64 0, .int .i64 0, .string (ByteArray.mk #[]), .int .u8 0] ty_line fun b10 w11 =>
 stV w11 ⟨b10, 0, none⟩ (.int .i64 v5) fun w12 =>
 stV w12 ⟨b10, 1, none⟩ (.int .i64 v6) fun w13 =>
 stV w13 ⟨b10, 2, none⟩ (.int .i64 v7) fun w14 =>
 stV w14 ⟨b10, 3, none⟩ (.string v8) fun w15 =>
 stV w15 ⟨b10, 4, none⟩ (.int .u8 v9) fun w16 =>
 callE P i_line_trimSpace #[.pointer (some ⟨b10, 0, none⟩), .int .i64 0, .int .i64 3, .bool false] (fun e w18 => ∃ (r17 : Bool), e = .returned (.bool r17) ∧
 callE P i_line_trim #[.pointer (some ⟨b10, 0, none⟩), .int .u8 62] (fun e w20 => ∃ (r19 : Bool), e = .returned (.bool r19) ∧
 br (!r19)
 (∃ (v21 : Int), w20.cell? ⟨b1, 0, none⟩ = some (.int .i64 v21) ∧
 ∃ (v22 : Int), w20.cell? ⟨b1, 1, none⟩ = some (.int .i64 v22) ∧
 ∃ (v23 : Int), w20.cell? ⟨b1, 2, none⟩ = some (.int .i64 v23) ∧
 ∃ (v24 : BA), w20.cell? ⟨b1, 3, none⟩ = some (.string v24) ∧
 ∃ (v25 : Int), w20.cell? ⟨b1, 4, none⟩ = some (.int .u8 v25) ∧
 stV w20 ⟨b3, 0, none⟩ (.int .i64 v21) fun w26 =>
 stV w26 ⟨b3, 1, none⟩ (.int .i64 v22) fun w27 =>
 stV w27 ⟨b3, 2, none⟩ (.int .i64 v23) fun w28 =>
 stV w28 ⟨b3, 3, none⟩ (.string v24) fun w29 =>
 stV w29 ⟨b3, 4, none⟩ (.int .u8 v25) fun w30 =>
 ∃ (v31 : Int), w30.cell? ⟨b3, 0, none⟩ = some (.int .i64 v31) ∧
 ∃ (v32 : Int), w30.cell? ⟨b3, 1, none⟩ = some (.int .i64 v32) ∧
 ∃ (v33 : Int), w30.cell? ⟨b3, 2, none⟩ = some (.int .i64 v33) ∧
 ∃ (v34 : BA), w30.cell? ⟨b3, 3, none⟩ = some (.string v34) ∧
 ∃ (v35 : Int), w30.cell? ⟨b3, 4, none⟩ = some (.int .u8 v35) ∧
 R (.returned (.tuple #[.agg #[.int .i64 v31, .int .i64 v32, .int .i64 v33, .string v34, .int .u8 v35], .bool false])) w30)
 (callE P i_line_trimSpace #[.pointer (some ⟨b10, 0, none⟩), .int .i64 0, .int .i64 1, .bool true] (fun e w37 => ∃ (r36 : Bool), e = .returned (.bool r36) ∧
 ∃ (v38 : Int), w37.cell? ⟨b10, 0, none⟩ = some (.int .i64 v38) ∧
 ∃ (v39 : Int), w37.cell? ⟨b10, 1, none⟩ = some (.int .i64 v39) ∧
 ∃ (v40 : Int), w37.cell? ⟨b10, 2, none⟩ = some (.int .i64 v40) ∧
 ∃ (v41 : BA), w37.cell? ⟨b10, 3, none⟩ = some (.string v41) ∧
 ∃ (v42 : Int), w37.cell? ⟨b10, 4, none⟩ = some (.int .u8 v42) ∧
 stV w37 ⟨b3, 0, none⟩ (.int .i64 v38) fun w43 =>
 stV w43 ⟨b3, 1, none⟩ (.int .i64 v39) fun w44 =>
 stV w44 ⟨b3, 2, none⟩ (.int .i64 v40) fun w45 =>
 stV w45 ⟨b3, 3, none⟩ (.string v41) fun w46 =>
 stV w46 ⟨b3, 4, none⟩ (.int .u8 v42) fun w47 =>
 ∃ (v48 : Int), w47.cell? ⟨b3, 0, none⟩ = some (.int .i64 v48) ∧
 ∃ (v49 : Int), w47.cell? ⟨b3, 1, none⟩ = some (.int .i64 v49) ∧
 ∃ (v50 : Int), w47.cell? ⟨b3, 2, none⟩ = some (.int .i64 v50) ∧
 ∃ (v51 : BA), w47.cell? ⟨b3, 3, none⟩ = some (.string v51) ∧
 ∃ (v52 : Int), w47.cell? ⟨b3, 4, none⟩ = some (.int .u8 v52) ∧
 R (.returned (.tuple #[.agg #[.int .i64 v48, .int .i64 v49, .int .i64 v50, .string v51, .int .u8 v52], .bool true])) w47) w20)) w18) w16

namespace g_trimQuote
noncomputable def ac (R : EP) : AC :=
 (.leaf (sel [] body))
theorem good (R : EP) : Good P 12 (ac R) (QF P [.cell 2 159, .tmp 3] R) :=
 trivial
theorem eq (R : EP) (x0_0 x0_1 x0_2 : Int) (x0_3 : BA) (x0_4 : Int) (w : World) : g_trimQuote R x0_0 x0_1 x0_2 x0_3 x0_4 w = vcA P 12 (ac R) (QF P [.cell 2 159, .tmp 3] R) (fr0 [.agg #[.int .i64 x0_0, .int .i64 x0_1, .int .i64 x0_2, .string x0_3, .int .u8 x0_4]]) w := by kernel_rfl
theorem sound {R : EP} {x0_0 x0_1 x0_2 : Int} {x0_3 : ByteArray} {x0_4 : Int} {w : World} (h : g_trimQuote R x0_0 x0_1 x0_2 x0_3 x0_4 w) : callE P i_trimQuote #[.agg #[.int .i64 x0_0, .int .i64 x0_1, .int .i64 x0_2, .string x0_3, .int .u8 x0_4]] R w :=
 callE_fz (c := body) Tryz.func173 Tryz.call173 (good R) (eq R x0_0 x0_1 x0_2 x0_3 x0_4 w) h
end g_trimQuote
namespace g_parseState_addBlock
noncomputable def body : Code := bodyOf Tryz.f66
end g_parseState_addBlock
def g_parseState_addBlock (R : EP) (x0 : OA) (x1 : Value) (w : World) : Prop :=
 nilP x0 fun a1 =>
 ∃ (v2 : Int), w.cell? (a1.add 5) = some (.int .i64 v2) ∧
 callE P i_parseState_trimStack #[.pointer x0, .int .i64 (IntKind.i64.wrap (v2 + 1))] (fun e w4 => e = .returned (.tuple #[]) ∧
 nilP x0 fun a5 =>
 ∃ (v6q : OA), ∃ (v6n : Nat), ∃ (v6c : Nat), w4.cell? (a5.add 4) = some (.slice v6q v6n v6c) ∧
 ∃ (r7q : OA), ∃ (r7n : Nat), ∃ (r7c : Nat), ∃ w8, (Instr.buildSlice ty_S_openBlock 1 #[(0, .agg #[.nilIface, .slice none 0 0, .int .i64 0, .int .i64 0])]).run P w4 = .ok (.slice r7q r7n r7c) w8 ∧
 ∃ (r9q : OA), ∃ (r9n : Nat), ∃ (r9c : Nat), ∃ w10, (Builtin.append_ #[ty_S_openBlock, ty_S_openBlock] ty_S_openBlock #[.slice v6q v6n v6c, .slice r7q r7n r7c]).run P w8 = .ok (.slice r9q r9n r9c) w10 ∧
 nilP x0 fun a11 =>
 stV w10 ((a11.add 4).add 0) (.slice r9q r9n r9c) fun w12 =>
 tk w12 fun w13 =>
 nilP x0 fun a14 =>
 nilP x0 fun a15 =>
 ∃ (v16q : OA), ∃ (v16n : Nat), ∃ (v16c : Nat), w13.cell? (a14.add 4) = some (.slice v16q v16n v16c) ∧
 ∃ (v17q : OA), ∃ (v17n : Nat), ∃ (v17c : Nat), w13.cell? (a15.add 4) = some (.slice v17q v17n v17c) ∧
 0 ≤ (IntKind.i64.wrap ((v17n : Int) - 1)) ∧ (IntKind.i64.wrap ((v17n : Int) - 1)) < (v16n : Int) ∧
 nilP v16q fun a18 =>
 cellV x1 (
 stV w13 ((a18.add (Int.toNat (IntKind.i64.wrap ((v17n : Int) - 1)) * 4)).add 0) x1 fun w19 =>
 nilP x0 fun a20 =>
 ∃ (v21 : Int), w19.cell? (a20.add 3) = some (.int .i64 v21) ∧
 stV w19 (((a18.add (Int.toNat (IntKind.i64.wrap ((v17n : Int) - 1)) * 4)).add 2).add 0) (.int .i64 v21) fun w22 =>
 nilP x0 fun a23 =>
 ∃ (v24 : Int), w22.cell? (a23.add 3) = some (.int .i64 v24) ∧
 stV w22 ((((a18.add (Int.toNat (IntKind.i64.wrap ((v17n : Int) - 1)) * 4)).add 2).add 1).add 0) (.int .i64 v24) fun w25 =>
 R (.returned (.tuple #[])) w25)) w

namespace g_parseState_addBlock
noncomputable def ac (R : EP) : AC :=
 (.seq (.leaf (sel [0] body)) (.seq (.leaf (sel [1,0] body)) (.seq (.draw (.pure 0 (.pure 1 (.pure 2 (.pure 4 (.pure 5 (.pure 6 (.load 3 (.load 7 (.pure 8 (.pure 9 (.pure 10 (.pure 11 .done)))))))))))) (sel [1,1,0] body)) (.leaf (sel [1,1,1] body)))))
theorem good (R : EP) : Good P 53 (ac R) (QF P [] R) :=
 ⟨trivial, ⟨trivial, ⟨⟨by kernel_rfl, by kernel_rfl, fun _ _ _ h => h⟩, trivial⟩⟩⟩
theorem eq (R : EP) (x0 : OA) (x1 : Value) (w : World) : g_parseState_addBlock R x0 x1 w = vcA P 53 (ac R) (QF P [] R) (fr0 [.pointer x0, x1]) w := by kernel_rfl
theorem sound {R : EP} {x0 : OA} {x1 : Value} {w : World} (h : g_parseState_addBlock R x0 x1 w) : callE P i_parseState_addBlock #[.pointer x0, x1] R w :=
 callE_fz (c := body) Tryz.func66 Tryz.call66 (good R) (eq R x0 x1 w) h
end g_parseState_addBlock
namespace g_parseState_blocks
noncomputable def body : Code := bodyOf Tryz.f334
end g_parseState_blocks
def g_parseState_blocks (R : EP) (x0 : OA) (w : World) : Prop :=
 tk w fun w1 =>
 nilP x0 fun a2 =>
 nilP x0 fun a3 =>
 ∃ (v4q : OA), ∃ (v4n : Nat), ∃ (v4c : Nat), w1.cell? (a2.add 4) = some (.slice v4q v4n v4c) ∧
 ∃ (v5q : OA), ∃ (v5n : Nat), ∃ (v5c : Nat), w1.cell? (a3.add 4) = some (.slice v5q v5n v5c) ∧
 0 ≤ (IntKind.i64.wrap ((v5n : Int) - 1)) ∧ (IntKind.i64.wrap ((v5n : Int) - 1)) < (v4n : Int) ∧
 nilP v4q fun a6 =>
 ∃ (v7q : OA), ∃ (v7n : Nat), ∃ (v7c : Nat), w1.cell? ((a6.add (Int.toNat (IntKind.i64.wrap ((v5n : Int) - 1)) * 4)).add 1) = some (.slice v7q v7n v7c) ∧
 R (.returned (.slice v7q v7n v7c)) w1

namespace g_parseState_blocks
noncomputable def ac (R : EP) : AC :=
 (.seq (.leaf (sel [0] body)) (.seq (.draw (.pure 0 (.pure 1 (.pure 2 (.pure 4 (.pure 5 (.pure 6 (.load 3 (.load 7 (.pure 8 (.pure 9 (.pure 10 (.pure 11 .done)))))))))))) (sel [1,0] body)) (.leaf (sel [1,1] body))))
theorem good (R : EP) : Good P 19 (ac R) (QF P [.tmp 2] R) :=
 ⟨trivial, ⟨⟨by kernel_rfl, by kernel_rfl, fun _ _ _ h => h⟩, trivial⟩⟩
theorem eq (R : EP) (x0 : OA) (w : World) : g_parseState_blocks R x0 w = vcA P 19 (ac R) (QF P [.tmp 2] R) (fr0 [.pointer x0]) w := by kernel_rfl
theorem sound {R : EP} {x0 : OA} {w : World} (h : g_parseState_blocks R x0 w) : callE P i_parseState_blocks #[.pointer x0] R w :=
 callE_fz (c := body) Tryz.func334 Tryz.call334 (good R) (eq R x0 w) h
end g_parseState_blocks
end Go.Proofs.YtgbgadkldalkbaaGreatDoor

set_option linter.unusedVariables false
namespace Go.Proofs.YtgbgadkldalkbaaGreatDoor
open Go.IntWalk
variable {P : Program} {σ : Out} {w : World} {L L' : List Chunk} {R : Ending → World → Prop}

def Sl (sz : Nat) (e : TypeId) (q : Option Addr) (n c : Nat) (vs : List Value) (M : List Chunk) : Prop :=
 vs.length = n * sz ∧ n ≤ c ∧ ((q = none ∧ n = 0 ∧ c = 0 ∧ M = []) ∨ ∃ b sp, q = some ⟨b, 0, none⟩ ∧ M = [(b, cel (vs ++ sp) e)] ∧ (vs ++ sp).length = c * sz)
theorem Sl.nil (sz : Nat) (e : TypeId) : Sl sz e none 0 0 [] [] := ⟨by simp, Nat.le_refl _, .inl ⟨rfl, rfl, rfl, rfl⟩⟩

structure Row (P : Program) (t e : TypeId) (sz bytes : Nat) where
 i : TypeInfo
 z : Value
 ht : P.underlying t = some (.slice e)
 hi : P.info? e = some i
 hz : i.zero = some z
 hs : i.size = sz
 hb : i.bytes = bytes
 hc : z.cells.size = sz
 pos : 0 < sz

theorem setCells_sat {b : Nat} {cs : List Value} {e : TypeId} (h : Sat σ w ((b, cel cs e) :: L)) : ∀ (o : Nat) (vs : List Value), o + vs.length ≤ cs.length →
 Sat σ (w.setCells b o vs) ((b, cel (cs.take o ++ vs ++ cs.drop (o + vs.length)) e) :: L) := by
 intro o vs
 induction vs generalizing o w cs with
 | nil => intro _; simpa [World.setCells] using h
 | cons v vs ih =>
  intro hl
  simp only [List.length_cons] at hl
  have h1 := h.set (k := 0) (i := o) v rfl
  have h2 := ih (w := w.setCell ⟨b, o, none⟩ v) (cs := cs.set o v) h1 (o + 1) (by simp; omega)
  simp only [World.setCells]
  have e1 : (cs.set o v).take (o + 1) = cs.take o ++ [v] := by
   rw [List.take_set, List.take_succ_eq_append_getElem (by omega), List.set_append_right _ _ (by simp; omega)]
   simp
   rw [show o - min o cs.length = 0 by omega]
   rfl
  have e2 : (cs.set o v).drop (o + 1 + vs.length) = cs.drop (o + (vs.length + 1)) := by
   rw [List.drop_set_of_lt (by omega)]
   congr 1
   omega
  rw [e1, e2] at h2
  simpa using h2

theorem Addr.add_zero_lit (b j : Nat) : Addr.add ⟨b, 0, none⟩ j = ⟨b, j, none⟩ := by
 simp [Addr.add]
 omega
theorem firstCells_sl {sz : Nat} {e : TypeId} {q : Option Addr} {n c : Nat} {vs : List Value} {M : List Chunk} (hS : Sl sz e q n c vs M) (h : Sat σ w (M ++ L)) :
 (Builtin.firstCells sz n (.slice q n c)).run P w = .ok vs.toArray w := by
 obtain ⟨hl, hnc, h1 | ⟨b, sp, h1, h2, h3⟩⟩ := hS
 ·obtain ⟨rfl, rfl, rfl, rfl⟩ := h1
  have : vs = [] := List.eq_nil_of_length_eq_zero (by simpa using hl)
  subst this
  exact run_firstCells_none w sz 0 0 0
 ·subst h1; subst h2
  refine run_firstCells_some w sz n _ n c vs hl fun j u hu => ?_
  rw [show (Addr.add ⟨b, 0, none⟩ j) = ⟨b, j, none⟩ from Addr.add_zero_lit b j]
  refine h.ld (List.mem_cons_self ..) ?_
  rw [List.getElem?_append_left (List.getElem?_eq_some_iff.1 hu).1]
  exact hu

theorem Sat.app {t tx ty e : TypeId} {sz bytes : Nat} (r : Row P t e sz bytes) {q : Option Addr} {n c : Nat} {vs : List Value} {M : List Chunk} (hS : Sl sz e q n c vs M)
 (h : Sat σ w (M ++ L)) {x : Value} {m : Nat} {news : List Value} (hs : Src P sz tx x m news w) (hm : 0 < m ∨ q ≠ none) (hb : (n + m) * bytes ≤ 140737488355328) (hn : n + m < 4611686018427387904) :
 ∃ q' c' w' M', (Builtin.append_ #[t, tx] ty #[.slice q n c, x]).run P w = .ok (.slice q' (n + m) c') w' ∧ Sl sz e q' (n + m) c' (vs ++ news) M' ∧ Sat σ w' (M' ++ L) ∧ q' ≠ none ∧ c ≤ c' := by
 have hfc := firstCells_sl (P := P) hS h.drew
 obtain ⟨hl, hnc, hS⟩ := hS
 obtain ⟨i, z, ht, hi, hz, hsi, hby, hzc, hpos⟩ := r
 subst hsi
 have hnl := hs.newsLen
 by_cases hroom : n + m ≤ c
 ·rcases hS with ⟨rfl, rfl, rfl, rfl⟩ | ⟨b, sp, rfl, rfl, h3⟩
  ·exact absurd hm (by simp; omega)
  ·simp only [List.length_append] at h3
   have hle : (n + m) * i.size ≤ c * i.size := Nat.mul_le_mul_right _ hroom
   rw [Nat.add_mul] at hle
   have hlen : n * i.size + news.length ≤ (vs ++ sp).length := by rw [List.length_append, hnl]; omega
   refine ⟨_, _, _, [(b, cel (vs ++ news ++ sp.drop news.length) e)], run_append_room_src w t tx ty e i ht hi b 0 n c x m news hs hroom ?_ ?_, ⟨?_, hroom, .inr ⟨b, sp.drop news.length, rfl, rfl, ?_⟩⟩, ?_, by simp, Nat.le_refl _⟩
   ·intro j hj
    rw [Nat.zero_add, h.ld (List.mem_cons_self ..) (List.getElem?_eq_getElem (by omega))]
    rfl
   ·exact fun j hj => h.not_frozen (List.mem_cons_self ..)
   ·rw [List.length_append, hl, hnl, Nat.add_mul]
   ·rw [List.length_append, List.length_append, List.length_drop, hl, hnl]; omega
   ·have := setCells_sat h (n * i.size) news hlen
    rw [Nat.zero_add]
    have e1 : (vs ++ sp).take (n * i.size) = vs := by rw [← hl, List.take_left]
    have e2 : (vs ++ sp).drop (n * i.size + news.length) = sp.drop news.length := by rw [← hl, ← List.drop_drop, List.drop_left]
    rw [e1, e2] at this
    exact this
 ·have hg : c < n + m := by omega
  have hfit := growslice_fits (need := n + m) (old := c) (bytes := i.bytes) hg (by rw [hby]; exact hb)
  have hcap := grownCap_ge w (n + m) c e
  have hd : Sat σ w.drew L := h.drew.right
  refine ⟨_, _, _, [(w.heap.size, cel (vs ++ news ++ (Builtin.zeroCells z.cells (grownCap w (n + m) c e - (n + m))).toList) e)], run_append_grow_src w t tx ty e i z ht hi hz q n c vs hfc x m news hs hg (by omega) hfit,
   ⟨?_, hcap, .inr ⟨_, _, rfl, rfl, ?_⟩⟩, ?_, by simp, by omega⟩
  ·rw [List.length_append, hl, hnl, Nat.add_mul]
  ·rw [List.length_append, List.length_append, hl, hnl, Array.length_toList, size_zeroCells, hzc, ← Nat.add_mul, ← Nat.add_mul]
   congr 1
   omega
  ·have := hd.alc (vs ++ news ++ (Builtin.zeroCells z.cells (grownCap w (n + m) c e - (n + m))).toList) e
   have e3 : YtgbgadkldalkbaaGreatDoor.alc w.drew (vs ++ news ++ (Builtin.zeroCells z.cells (grownCap w (n + m) c e - (n + m))).toList).toArray e
    = w.drew.alloc (.cells ((vs ++ news).toArray ++ Builtin.zeroCells z.cells (grownCap w (n + m) c e - (n + m))) e) := by
    rw [show (vs ++ news ++ (Builtin.zeroCells z.cells (grownCap w (n + m) c e - (n + m))).toList).toArray = (vs ++ news).toArray ++ Builtin.zeroCells z.cells (grownCap w (n + m) c e - (n + m)) from by
     apply Array.ext'; simp [List.append_assoc]]
    rfl
   rw [e3] at this
   exact this

theorem Sat.app1 {t ty e : TypeId} {sz bytes : Nat} (r : Row P t e sz bytes) {q : Option Addr} {n c : Nat} {vs : List Value} {M : List Chunk} (hS : Sl sz e q n c vs M)
 (h : Sat σ w (M ++ L)) {v : Value} (hv : v.cells.size = sz) (h1 : ∀ u ∈ v.cells.toList, u.oneCell' = true)
 (hfill : Instr.fill (fun i => some (i * sz, sz)) ((Array.range (1 * sz)).map (r.z.cells[· % r.z.cells.size]!)) [(0, v)] = some v.cells)
 (hb : (n + 1) * bytes ≤ 140737488355328) (hn : n + 1 < 4611686018427387904) (hsz : sz ≤ 100) {K : Option Addr → Nat → Nat → World → Prop}
 (hK : ∀ q' c' w' M', Sl sz e q' (n + 1) c' (vs ++ v.cells.toList) M' → Sat σ w' (M' ++ L) → K q' (n + 1) c' w') :
 ∃ rq rn rc w1, (Instr.buildSlice t 1 #[(0, v)]).run P w = .ok (.slice rq rn rc) w1 ∧
  ∃ q' n' c' w2, (Builtin.append_ #[t, t] ty #[.slice q n c, .slice rq rn rc]).run P w1 = .ok (.slice q' n' c') w2 ∧ K q' n' c' w2 := by
 have hrun := run_buildSlice (P := P) w t e 1 #[(0, v)] v.cells r.i r.z r.ht r.hi r.hz (by rw [r.hs]; omega) (by rw [r.hs]; have := r.pos; omega) (by rw [r.hs]; exact hfill)
 refine ⟨_, _, _, _, hrun, ?_⟩
 have ha := h.alc v.cells.toList e
 have e3 : YtgbgadkldalkbaaGreatDoor.alc w v.cells.toList.toArray e = w.alloc (.cells v.cells e) := by rw [Array.toArray_toList]; rfl
 rw [e3] at ha
 generalize hw1 : w.alloc (.cells v.cells e) = w1 at ha ⊢
 generalize w.heap.size = nb at ha ⊢
 have hs : Src P sz t (.slice (some ⟨nb, 0, none⟩) 1 1) 1 v.cells.toList w1 := by
  refine Src.ofSlice w1 r.ht _ 1 1 _ (by simp [hv]) (fun j u hu => ?_) h1
  rw [show (Addr.add ⟨nb, 0, none⟩ j) = ⟨nb, j, none⟩ from Addr.add_zero_lit nb j]
  exact ha.ld (List.mem_cons_self ..) hu
 have ha2 : Sat σ w1 (M ++ ((nb, cel v.cells.toList e) :: L)) := ha.perm List.perm_middle.symm
 obtain ⟨q', c', w', M', hr, hS', h', _⟩ := Sat.app r (ty := ty) hS ha2 hs (.inl (by omega)) hb hn
 refine ⟨q', n + 1, c', w', hr, hK q' c' w' M' hS' ?_⟩
 exact h'.sub (List.Sublist.append_left (List.sublist_cons_self ..) _)
theorem Sat.app1S {t ty e : TypeId} {sz bytes : Nat} (r : Row P t e sz bytes) {q : Option Addr} {n c : Nat} {vs : List Value} {M : List Chunk} (hS : Sl sz e q n c vs M)
 (h : Sat σ w (M ++ L)) {v : Value} (hv : v.cells.size = sz) (h1 : ∀ u ∈ v.cells.toList, u.oneCell' = true)
 (hfill : Instr.fill (fun i => some (i * sz, sz)) ((Array.range (1 * sz)).map (r.z.cells[· % r.z.cells.size]!)) [(0, v)] = some v.cells)
 (hb : (n + 1) * bytes ≤ 140737488355328) (hn : n + 1 < 4611686018427387904) (hsz : sz ≤ 100) {K : Option Addr → Nat → Nat → World → Prop} {C : World → Prop} (hC : ∀ w1 X, Sat σ w1 (X :: (M ++ L)) → C w1)
 (hK : ∀ q' c' w' M', Sl sz e q' (n + 1) c' (vs ++ v.cells.toList) M' → Sat σ w' (M' ++ L) → K q' (n + 1) c' w') :
 ∃ rq rn rc w1, (Instr.buildSlice t 1 #[(0, v)]).run P w = .ok (.slice rq rn rc) w1 ∧ C w1 ∧
  ∃ q' n' c' w2, (Builtin.append_ #[t, t] ty #[.slice q n c, .slice rq rn rc]).run P w1 = .ok (.slice q' n' c') w2 ∧ K q' n' c' w2 := by
 have hrun := run_buildSlice (P := P) w t e 1 #[(0, v)] v.cells r.i r.z r.ht r.hi r.hz (by rw [r.hs]; omega) (by rw [r.hs]; have := r.pos; omega) (by rw [r.hs]; exact hfill)
 refine ⟨_, _, _, _, hrun, ?_⟩
 have ha := h.alc v.cells.toList e
 have e3 : YtgbgadkldalkbaaGreatDoor.alc w v.cells.toList.toArray e = w.alloc (.cells v.cells e) := by rw [Array.toArray_toList]; rfl
 rw [e3] at ha
 generalize hw1 : w.alloc (.cells v.cells e) = w1 at ha ⊢
 generalize w.heap.size = nb at ha ⊢
 have hs : Src P sz t (.slice (some ⟨nb, 0, none⟩) 1 1) 1 v.cells.toList w1 := by
  refine Src.ofSlice w1 r.ht _ 1 1 _ (by simp [hv]) (fun j u hu => ?_) h1
  rw [show (Addr.add ⟨nb, 0, none⟩ j) = ⟨nb, j, none⟩ from Addr.add_zero_lit nb j]
  exact ha.ld (List.mem_cons_self ..) hu
 have ha2 : Sat σ w1 (M ++ ((nb, cel v.cells.toList e) :: L)) := ha.perm List.perm_middle.symm
 obtain ⟨q', c', w', M', hr, hS', h', _⟩ := Sat.app r (ty := ty) hS ha2 hs (.inl (by omega)) hb hn
 refine ⟨hC _ _ ha, q', n + 1, c', w', hr, hK q' c' w' M' hS' ?_⟩
 exact h'.sub (List.Sublist.append_left (List.sublist_cons_self ..) _)
end Go.Proofs.YtgbgadkldalkbaaGreatDoor


set_option linter.unusedVariables false
set_option maxRecDepth 20000
namespace Go.Proofs.YtgbgadkldalkbaaGreatDoor
open Go.Proofs
namespace g_line_skipSpace
noncomputable def body : Code := bodyOf Tryz.f229
def k1 (R : EP) (Xa : OA → WP) (x0 : OA) (w : World) : Prop :=
 nilP x0 fun a16 =>
 ∃ (v17 : Int), w.cell? (a16.add 1) = some (.int .i64 v17) ∧
 nilP x0 fun a18 =>
 stV w ((a18.add 1).add 0) (.int .i64 (IntKind.i64.wrap (v17 + 1))) fun w19 =>
 Xa x0 w19

def bl1 (R : EP) (Xa : OA → WP) (x0 : OA) (w : World) : Prop :=
 tk w fun w3 =>
 nilP x0 fun a4 =>
 nilP x0 fun a5 =>
 ∃ (v6 : Int), w3.cell? (a4.add 1) = some (.int .i64 v6) ∧
 ∃ (v7 : BA), w3.cell? (a5.add 3) = some (.string v7) ∧
 br (decide (v6 < (v7.size : Int)))
 (nilP x0 fun a8 =>
 nilP x0 fun a9 =>
 ∃ (v10 : BA), w3.cell? (a8.add 3) = some (.string v10) ∧
 ∃ (v11 : Int), w3.cell? (a9.add 1) = some (.int .i64 v11) ∧
 0 ≤ v11 ∧ v11 < (v10.size : Int) ∧
 br ((bt v10 v11) == 32)
 (k1 R Xa x0 w3)
 (nilP x0 fun a12 =>
 nilP x0 fun a13 =>
 ∃ (v14 : BA), w3.cell? (a12.add 3) = some (.string v14) ∧
 ∃ (v15 : Int), w3.cell? (a13.add 1) = some (.int .i64 v15) ∧
 0 ≤ v15 ∧ v15 < (v14.size : Int) ∧
 br ((bt v14 v15) == 9)
 (k1 R Xa x0 w3)
 (R (.returned (.tuple #[])) w3)))
 (R (.returned (.tuple #[])) w3)
def l1 (R : EP) (x0 : OA) (w : World) : Prop :=
 ∀ X : OA → WP, (∀ x0 w, bl1 R X x0 w → X x0 w) → X x0 w

noncomputable def al1 (R : EP) (Xa : OA → WP) : AC :=
 (.seq (.seq (.draw (.pure 0 (.pure 1 (.pure 2 (.pure 4 (.pure 5 (.pure 6 (.load 3 (.load 7 (.pure 8 (.pure 9 (.pure 10 (.pure 11 (.pure 12 (.pure 13 (.pure 15 (.pure 16 (.pure 17 (.load 14 (.load 18 (.pure 19 (.pure 20 (.pure 21 (.pure 22 (.pure 23 (.pure 24 (.pure 26 (.pure 27 (.pure 28 (.load 25 (.load 29 (.pure 30 (.pure 31 (.pure 32 (.pure 33 .done)))))))))))))))))))))))))))))))))) (sel [1,0,0,0,0] body)) (.leaf (sel [1,0,0,0,1] body))) (.mark (leaf [(0, .s .ptr)] (k1 R Xa)) (.leaf (sel [1,0,0,1] body))))
end g_line_skipSpace
def g_line_skipSpace (R : EP) (x0 : OA) (w : World) : Prop :=
 nilP x0 fun a1 =>
 stV w (a1.add 0) (.int .i64 0) fun w2 =>
 g_line_skipSpace.l1 R x0 w2

namespace g_line_skipSpace
noncomputable def ac (R : EP) : AC :=
 (.seq (.leaf (sel [0] body)) (.block 0 (.loop (leaf [(0, .s .ptr)] (l1 R)) (sel [1,0,0] body))))
theorem good (R : EP) : Good P 46 (ac R) (QF P [] R) :=
 ⟨trivial, (loopG (al1 R) (bl1 R) (fun _ => by kernel_rfl) (fun Xa => ⟨⟨⟨by kernel_rfl, by kernel_rfl, fun _ _ _ h => h⟩, trivial⟩, ⟨trivial, cutZ⟩⟩) (fun Xa => by intro x0 ρ w; kernel_rfl) (fun X h _ _ g => g X h))⟩
theorem eq (R : EP) (x0 : OA) (w : World) : g_line_skipSpace R x0 w = vcA P 46 (ac R) (QF P [] R) (fr0 [.pointer x0]) w := by kernel_rfl
theorem sound {R : EP} {x0 : OA} {w : World} (h : g_line_skipSpace R x0 w) : callE P i_line_skipSpace #[.pointer x0] R w :=
 callE_fz (c := body) Tryz.func229 Tryz.call229 (good R) (eq R x0 w) h
end g_line_skipSpace
namespace g_line_trim
noncomputable def body : Code := bodyOf Tryz.f226
def k1 (R : EP) (x0 : OA) (x41 : Bool) (w : World) : Prop :=
 br x41
 (nilP x0 fun a16 =>
 ∃ (v17 : Int), w.cell? (a16.add 1) = some (.int .i64 v17) ∧
 nilP x0 fun a18 =>
 stV w ((a18.add 1).add 0) (.int .i64 (IntKind.i64.wrap (v17 + 1))) fun w19 =>
 R (.returned (.bool true)) w19)
 (R (.returned (.bool false)) w)

end g_line_trim
def g_line_trim (R : EP) (x0 : OA) (x1 : Int) (w : World) : Prop :=
 nilP x0 fun a1 =>
 ∃ (v2 : Int), w.cell? a1 = some (.int .i64 v2) ∧
 br (decide (v2 > 0))
 (br (x1 == 32)
 (nilP x0 fun a3 =>
 ∃ (v4 : Int), w.cell? a3 = some (.int .i64 v4) ∧
 nilP x0 fun a5 =>
 stV w (a5.add 0) (.int .i64 (IntKind.i64.wrap (v4 - 1))) fun w6 =>
 R (.returned (.bool true)) w6)
 (R (.returned (.bool false)) w))
 (tk w fun w7 =>
 nilP x0 fun a8 =>
 nilP x0 fun a9 =>
 ∃ (v10 : Int), w7.cell? (a8.add 1) = some (.int .i64 v10) ∧
 ∃ (v11 : BA), w7.cell? (a9.add 3) = some (.string v11) ∧
 br (decide (v10 < (v11.size : Int)))
 (nilP x0 fun a12 =>
 nilP x0 fun a13 =>
 ∃ (v14 : BA), w7.cell? (a12.add 3) = some (.string v14) ∧
 ∃ (v15 : Int), w7.cell? (a13.add 1) = some (.int .i64 v15) ∧
 0 ≤ v15 ∧ v15 < (v14.size : Int) ∧
 g_line_trim.k1 R x0 ((bt v14 v15) == x1) w7)
 (g_line_trim.k1 R x0 false w7))

namespace g_line_trim
noncomputable def ac (R : EP) : AC :=
 (.seq (.leaf (sel [0] body)) (.seq (.leaf (sel [1,0] body)) (.seq (.seq (.draw (.pure 0 (.pure 1 (.pure 2 (.pure 4 (.pure 5 (.pure 6 (.load 3 (.load 7 (.pure 8 (.pure 9 (.pure 10 (.pure 11 (.pure 12 (.pure 13 (.pure 15 (.pure 16 (.pure 17 (.pure 20 (.load 14 (.load 18 (.pure 19 (.pure 21 (.pure 22 .done))))))))))))))))))))))) (sel [1,1,0,0] body)) (.mark (leaf [(0, .s .ptr), (41, .s .bool)] (k1 R)) (.leaf (sel [1,1,0,1] body)))) (.leaf (sel [1,1,1] body)))))
theorem good (R : EP) : Good P 49 (ac R) (QF P [.tmp 4] R) :=
 ⟨trivial, ⟨trivial, ⟨⟨⟨by kernel_rfl, by kernel_rfl, fun _ _ _ h => h⟩, ⟨trivial, cutZ⟩⟩, trivial⟩⟩⟩
theorem eq (R : EP) (x0 : OA) (x1 : Int) (w : World) : g_line_trim R x0 x1 w = vcA P 49 (ac R) (QF P [.tmp 4] R) (fr0 [.pointer x0, .int .u8 x1]) w := by kernel_rfl
theorem sound {R : EP} {x0 : OA} {x1 : Int} {w : World} (h : g_line_trim R x0 x1 w) : callE P i_line_trim #[.pointer x0, .int .u8 x1] R w :=
 callE_fz (c := body) Tryz.func226 Tryz.call226 (good R) (eq R x0 x1 w) h
end g_line_trim
namespace g_line_trimSpaceString
noncomputable def body : Code := bodyOf Tryz.f133
end g_line_trimSpaceString
def g_line_trimSpaceString (R : EP) (x0 : OA) (w : World) : Prop :=
 tk w fun w1 =>
 nilP x0 fun a2 =>
 nilP x0 fun a3 =>
 ∃ (v4 : BA), w1.cell? (a2.add 3) = some (.string v4) ∧
 ∃ (v5 : Int), w1.cell? (a3.add 1) = some (.int .i64 v5) ∧
 0 ≤ v5 ∧ v5 ≤ (v4.size : Int) ∧
 callE P i_trimLeftSpaceTab #[.string (v4.extract (Int.toNat v5) v4.size)] (fun e w7 => ∃ (r6 : BA), e = .returned (.string r6) ∧
 R (.returned (.string r6)) w7) w1

namespace g_line_trimSpaceString
noncomputable def ac (R : EP) : AC :=
 (.seq (.leaf (sel [0] body)) (.seq (.draw (.pure 0 (.pure 1 (.pure 2 (.pure 4 (.pure 5 (.pure 6 (.load 3 (.load 7 (.pure 8 (.one 9 (.pure 10 .done))))))))))) (sel [1,0] body)) (.leaf (sel [1,1] body))))
theorem good (R : EP) : Good P 13 (ac R) (QF P [.tmp 2] R) :=
 ⟨trivial, ⟨⟨by kernel_rfl, by kernel_rfl, fun _ _ _ h => h⟩, trivial⟩⟩
theorem eq (R : EP) (x0 : OA) (w : World) : g_line_trimSpaceString R x0 w = vcA P 13 (ac R) (QF P [.tmp 2] R) (fr0 [.pointer x0]) w := by kernel_rfl
theorem sound {R : EP} {x0 : OA} {w : World} (h : g_line_trimSpaceString R x0 w) : callE P i_line_trimSpaceString #[.pointer x0] R w :=
 callE_fz (c := body) Tryz.func133 Tryz.call133 (good R) (eq R x0 w) h
end g_line_trimSpaceString
namespace g_line_eof
noncomputable def body : Code := bodyOf Tryz.f230
end g_line_eof
def g_line_eof (R : EP) (x0 : OA) (w : World) : Prop :=
 tk w fun w1 =>
 nilP x0 fun a2 =>
 nilP x0 fun a3 =>
 ∃ (v4 : Int), w1.cell? (a2.add 1) = some (.int .i64 v4) ∧
 ∃ (v5 : BA), w1.cell? (a3.add 3) = some (.string v5) ∧
 R (.returned (.bool (decide (v4 ≥ (v5.size : Int))))) w1

namespace g_line_eof
noncomputable def ac (R : EP) : AC :=
 (.seq (.leaf (sel [0] body)) (.seq (.draw (.pure 0 (.pure 1 (.pure 2 (.pure 4 (.pure 5 (.pure 6 (.load 3 (.load 7 (.pure 8 (.pure 9 (.pure 10 .done))))))))))) (sel [1,0] body)) (.leaf (sel [1,1] body))))
theorem good (R : EP) : Good P 13 (ac R) (QF P [.tmp 2] R) :=
 ⟨trivial, ⟨⟨by kernel_rfl, by kernel_rfl, fun _ _ _ h => h⟩, trivial⟩⟩
theorem eq (R : EP) (x0 : OA) (w : World) : g_line_eof R x0 w = vcA P 13 (ac R) (QF P [.tmp 2] R) (fr0 [.pointer x0]) w := by kernel_rfl
theorem sound {R : EP} {x0 : OA} {w : World} (h : g_line_eof R x0 w) : callE P i_line_eof #[.pointer x0] R w :=
 callE_fz (c := body) Tryz.func230 Tryz.call230 (good R) (eq R x0 w) h
end g_line_eof
namespace g_line_isBlank
noncomputable def body : Code := bodyOf Tryz.f85
end g_line_isBlank
def g_line_isBlank (R : EP) (x0 : OA) (w : World) : Prop :=
 tk w fun w1 =>
 nilP x0 fun a2 =>
 nilP x0 fun a3 =>
 ∃ (v4 : BA), w1.cell? (a2.add 3) = some (.string v4) ∧
 ∃ (v5 : Int), w1.cell? (a3.add 1) = some (.int .i64 v5) ∧
 0 ≤ v5 ∧ v5 ≤ (v4.size : Int) ∧
 callE P i_trimLeftSpaceTab #[.string (v4.extract (Int.toNat v5) v4.size)] (fun e w7 => ∃ (r6 : BA), e = .returned (.string r6) ∧
 R (.returned (.bool (r6.toList == (ByteArray.mk #[]).toList))) w7) w1

namespace g_line_isBlank
noncomputable def ac (R : EP) : AC :=
 (.seq (.leaf (sel [0] body)) (.seq (.draw (.pure 0 (.pure 1 (.pure 2 (.pure 4 (.pure 5 (.pure 6 (.load 3 (.load 7 (.pure 8 (.one 9 (.pure 10 (.pure 11 .done)))))))))))) (sel [1,0] body)) (.leaf (sel [1,1] body))))
theorem good (R : EP) : Good P 14 (ac R) (QF P [.tmp 2] R) :=
 ⟨trivial, ⟨⟨by kernel_rfl, by kernel_rfl, fun _ _ _ h => h⟩, trivial⟩⟩
theorem eq (R : EP) (x0 : OA) (w : World) : g_line_isBlank R x0 w = vcA P 14 (ac R) (QF P [.tmp 2] R) (fr0 [.pointer x0]) w := by kernel_rfl
theorem sound {R : EP} {x0 : OA} {w : World} (h : g_line_isBlank R x0 w) : callE P i_line_isBlank #[.pointer x0] R w :=
 callE_fz (c := body) Tryz.func85 Tryz.call85 (good R) (eq R x0 w) h
end g_line_isBlank
namespace g_line_peek
noncomputable def body : Code := bodyOf Tryz.f228
end g_line_peek
def g_line_peek (R : EP) (x0 : OA) (w : World) : Prop :=
 nilP x0 fun a1 =>
 ∃ (v2 : Int), w.cell? a1 = some (.int .i64 v2) ∧
 br (decide (v2 > 0))
 (R (.returned (.int .u8 32)) w)
 (tk w fun w3 =>
 nilP x0 fun a4 =>
 nilP x0 fun a5 =>
 ∃ (v6 : Int), w3.cell? (a4.add 1) = some (.int .i64 v6) ∧
 ∃ (v7 : BA), w3.cell? (a5.add 3) = some (.string v7) ∧
 br (decide (v6 ≥ (v7.size : Int)))
 (R (.returned (.int .u8 0)) w3)
 (tk w3 fun w8 =>
 nilP x0 fun a9 =>
 nilP x0 fun a10 =>
 ∃ (v11 : BA), w8.cell? (a9.add 3) = some (.string v11) ∧
 ∃ (v12 : Int), w8.cell? (a10.add 1) = some (.int .i64 v12) ∧
 0 ≤ v12 ∧ v12 < (v11.size : Int) ∧
 R (.returned (.int .u8 (bt v11 v12))) w8))

namespace g_line_peek
noncomputable def ac (R : EP) : AC :=
 (.seq (.leaf (sel [0] body)) (.seq (.leaf (sel [1,0] body)) (.seq (.seq (.draw (.pure 0 (.pure 1 (.pure 2 (.pure 4 (.pure 5 (.pure 6 (.load 3 (.load 7 (.pure 8 (.pure 9 .done)))))))))) (sel [1,1,0,0] body)) (.leaf (sel [1,1,0,1] body))) (.seq (.draw (.pure 0 (.pure 1 (.pure 2 (.pure 4 (.pure 5 (.pure 6 (.load 3 (.load 7 (.pure 8 (.pure 9 .done)))))))))) (sel [1,1,1,0] body)) (.leaf (sel [1,1,1,1] body))))))
theorem good (R : EP) : Good P 27 (ac R) (QF P [.tmp 2] R) :=
 ⟨trivial, ⟨trivial, ⟨⟨⟨by kernel_rfl, by kernel_rfl, fun _ _ _ h => h⟩, trivial⟩, ⟨⟨by kernel_rfl, by kernel_rfl, fun _ _ _ h => h⟩, trivial⟩⟩⟩⟩
theorem eq (R : EP) (x0 : OA) (w : World) : g_line_peek R x0 w = vcA P 27 (ac R) (QF P [.tmp 2] R) (fr0 [.pointer x0]) w := by kernel_rfl
theorem sound {R : EP} {x0 : OA} {w : World} (h : g_line_peek R x0 w) : callE P i_line_peek #[.pointer x0] R w :=
 callE_fz (c := body) Tryz.func228 Tryz.call228 (good R) (eq R x0 w) h
end g_line_peek
namespace g_line_trimSpace
noncomputable def body : Code := bodyOf Tryz.f192
def k2 (R : EP) (x0 : OA) (x9 : Nat) (w : World) : Prop :=
 ∃ (v32 : Int), w.cell? ⟨x9, 0, none⟩ = some (.int .i64 v32) ∧
 ∃ (v33 : Int), w.cell? ⟨x9, 1, none⟩ = some (.int .i64 v33) ∧
 ∃ (v34 : Int), w.cell? ⟨x9, 2, none⟩ = some (.int .i64 v34) ∧
 ∃ (v35 : BA), w.cell? ⟨x9, 3, none⟩ = some (.string v35) ∧
 ∃ (v36 : Int), w.cell? ⟨x9, 4, none⟩ = some (.int .u8 v36) ∧
 nilP x0 fun a37 =>
 stV w (a37.add 0) (.int .i64 v32) fun w38 =>
 stV w38 (a37.add 1) (.int .i64 v33) fun w39 =>
 stV w39 (a37.add 2) (.int .i64 v34) fun w40 =>
 stV w40 (a37.add 3) (.string v35) fun w41 =>
 stV w41 (a37.add 4) (.int .u8 v36) fun w42 =>
 R (.returned (.bool true)) w42

def k3 (R : EP) (Xa : OA → Int → Int → Bool → Nat → Int → WP) (x0 : OA) (x1 : Int) (x9 : Nat) (x10 : Int) (w : World) : Prop :=
 br (decide (x10 ≥ x1))
 (k2 R x0 x9 w)
 (R (.returned (.bool false)) w)

def k1 (R : EP) (Xa : OA → Int → Int → Bool → Nat → Int → WP) (x0 : OA) (x1 x2 : Int) (x3 : Bool) (x9 : Nat) (x10 : Int) (w : World) : Prop :=
 ∃ (v19 : Int), w.cell? ⟨x9, 1, none⟩ = some (.int .i64 v19) ∧
 ∃ (v20 : BA), w.cell? ⟨x9, 3, none⟩ = some (.string v20) ∧
 br (decide (v19 < (v20.size : Int)))
 (∃ (v21 : BA), w.cell? ⟨x9, 3, none⟩ = some (.string v21) ∧
 ∃ (v22 : Int), w.cell? ⟨x9, 1, none⟩ = some (.int .i64 v22) ∧
 0 ≤ v22 ∧ v22 < (v21.size : Int) ∧
 br ((bt v21 v22) == 9)
 (∃ (v23 : Int), w.cell? ⟨x9, 1, none⟩ = some (.int .i64 v23) ∧
 ∃ (v24 : Int), w.cell? ⟨x9, 2, none⟩ = some (.int .i64 v24) ∧
 stV w ⟨x9, 0, none⟩ (.int .i64 (IntKind.i64.wrap ((IntKind.i64.wrap (4 - (bitAnd .i64 (IntKind.i64.wrap (v23 - v24)) 3))) - 1))) fun w25 =>
 ∃ (v26 : Int), w25.cell? ⟨x9, 1, none⟩ = some (.int .i64 v26) ∧
 stV w25 ⟨x9, 1, none⟩ (.int .i64 (IntKind.i64.wrap (v26 + 1))) fun w27 =>
 ∃ (v28 : Int), w27.cell? ⟨x9, 1, none⟩ = some (.int .i64 v28) ∧
 stV w27 ⟨x9, 2, none⟩ (.int .i64 v28) fun w29 =>
 Xa x0 x1 x2 x3 x9 (IntKind.i64.wrap (x10 + 1)) w29)
 (br ((bt v21 v22) == 32)
 (∃ (v30 : Int), w.cell? ⟨x9, 1, none⟩ = some (.int .i64 v30) ∧
 stV w ⟨x9, 1, none⟩ (.int .i64 (IntKind.i64.wrap (v30 + 1))) fun w31 =>
 Xa x0 x1 x2 x3 x9 (IntKind.i64.wrap (x10 + 1)) w31)
 (k3 R Xa x0 x1 x9 x10 w)))
 (k3 R Xa x0 x1 x9 x10 w)

def bl1 (R : EP) (Xa : OA → Int → Int → Bool → Nat → Int → WP) (x0 : OA) (x1 x2 : Int) (x3 : Bool) (x9 : Nat) (x10 : Int) (w : World) : Prop :=
 br (decide (x10 < x2))
 (∃ (v14 : Int), w.cell? ⟨x9, 0, none⟩ = some (.int .i64 v14) ∧
 br (decide (v14 > 0))
 (∃ (v15 : Int), w.cell? ⟨x9, 0, none⟩ = some (.int .i64 v15) ∧
 stV w ⟨x9, 0, none⟩ (.int .i64 (IntKind.i64.wrap (v15 - 1))) fun w16 =>
 Xa x0 x1 x2 x3 x9 (IntKind.i64.wrap (x10 + 1)) w16)
 (∃ (v17 : Int), w.cell? ⟨x9, 1, none⟩ = some (.int .i64 v17) ∧
 ∃ (v18 : BA), w.cell? ⟨x9, 3, none⟩ = some (.string v18) ∧
 br ((decide (v17 ≥ (v18.size : Int))) && x3)
 (Xa x0 x1 x2 x3 x9 (IntKind.i64.wrap (x10 + 1)) w)
 (k1 R Xa x0 x1 x2 x3 x9 x10 w)))
 (k2 R x0 x9 w)
def l1 (R : EP) (x0 : OA) (x1 x2 : Int) (x3 : Bool) (x9 : Nat) (x10 : Int) (w : World) : Prop :=
 ∀ X : OA → Int → Int → Bool → Nat → Int → WP, (∀ x0 x1 x2 x3 x9 x10 w, bl1 R X x0 x1 x2 x3 x9 x10 w → X x0 x1 x2 x3 x9 x10 w) → X x0 x1 x2 x3 x9 x10 w

noncomputable def al1 (R : EP) (Xa : OA → Int → Int → Bool → Nat → Int → WP) : AC :=
 (.seq (.leaf (sel [1,1,0,1,0,0,0] body)) (.seq (.block 1 (.seq (.leaf (sel [1,1,0,1,0,0,1,0,0,0] body)) (.seq (.leaf (sel [1,1,0,1,0,0,1,0,0,1,0] body)) (.mark (leaf [(0, .s .ptr), (1, .s (.int .i64)), (2, .s (.int .i64)), (3, .s .bool), (9, .s .loc), (10, .s (.int .i64))] (k1 R Xa)) (.seq (.leaf (sel [1,1,0,1,0,0,1,0,0,1,1,0] body)) (.mark (leaf [(0, .s .ptr), (1, .s (.int .i64)), (9, .s .loc), (10, .s (.int .i64))] (k3 R Xa)) (.leaf (sel [1,1,0,1,0,0,1,0,0,1,1,1] body)))))))) (.leaf (sel [1,1,0,1,0,0,1,1] body))))
end g_line_trimSpace
def g_line_trimSpace (R : EP) (x0 : OA) (x1 x2 : Int) (x3 : Bool) (w : World) : Prop :=
 nilP x0 fun a1 =>
 ∃ (v2 : Int), w.cell? (a1.add 0) = some (.int .i64 v2) ∧
 ∃ (v3 : Int), w.cell? (a1.add 1) = some (.int .i64 v3) ∧
 ∃ (v4 : Int), w.cell? (a1.add 2) = some (.int .i64 v4) ∧
 ∃ (v5 : BA), w.cell? (a1.add 3) = some (.string v5) ∧
 ∃ (v6 : Int), w.cell? (a1.add 4) = some (.int .u8 v6) ∧
 box w #[.int .i64 0, .int .i64 0, .int .i64 0, .string (ByteArray.mk #[]), .int .u8 0] ty_line fun b7 w8 =>
 stV w8 ⟨b7, 0, none⟩ (.int .i64 v2) fun w9 =>
 stV w9 ⟨b7, 1, none⟩ (.int .i64 v3) fun w10 =>
 stV w10 ⟨b7, 2, none⟩ (.int .i64 v4) fun w11 =>
 stV w11 ⟨b7, 3, none⟩ (.string v5) fun w12 =>
 stV w12 ⟨b7, 4, none⟩ (.int .u8 v6) fun w13 =>
 g_line_trimSpace.l1 R x0 x1 x2 x3 b7 0 w13

namespace g_line_trimSpace
noncomputable def ac (R : EP) : AC :=
 (.seq (.leaf (sel [0] body)) (.seq (.leaf (sel [1,0] body)) (.seq (.seq (.leaf (sel [1,1,0,0] body)) (.block 0 (.loop (leaf [(0, .s .ptr), (1, .s (.int .i64)), (2, .s (.int .i64)), (3, .s .bool), (9, .s .loc), (10, .s (.int .i64))] (l1 R)) (sel [1,1,0,1,0,0] body)))) (.mark (leaf [(0, .s .ptr), (9, .s .loc)] (k2 R)) (.leaf (sel [1,1,1] body))))))
theorem good (R : EP) : Good P 76 (ac R) (QF P [.tmp 8] R) :=
 ⟨trivial, ⟨trivial, ⟨⟨trivial, (loopG (al1 R) (bl1 R) (fun _ => by kernel_rfl) (fun Xa => ⟨trivial, ⟨⟨trivial, ⟨trivial, ⟨⟨trivial, ⟨trivial, cutZ⟩⟩, cutZ⟩⟩⟩, trivial⟩⟩) (fun Xa => by intro x0 x1 x2 x3 x9 x10 ρ w; kernel_rfl) (fun X h _ _ _ _ _ _ _ g => g X h))⟩, ⟨trivial, cutZ⟩⟩⟩⟩
theorem eq (R : EP) (x0 : OA) (x1 x2 : Int) (x3 : Bool) (w : World) : g_line_trimSpace R x0 x1 x2 x3 w = vcA P 76 (ac R) (QF P [.tmp 8] R) (fr0 [.pointer x0, .int .i64 x1, .int .i64 x2, .bool x3]) w := by kernel_rfl
theorem sound {R : EP} {x0 : OA} {x1 x2 : Int} {x3 : Bool} {w : World} (h : g_line_trimSpace R x0 x1 x2 x3 w) : callE P i_line_trimSpace #[.pointer x0, .int .i64 x1, .int .i64 x2, .bool x3] R w :=
 callE_fz (c := body) Tryz.func192 Tryz.call192 (good R) (eq R x0 x1 x2 x3 w) h
end g_line_trimSpace
namespace g_trimLeftSpaceTab
noncomputable def body : Code := bodyOf Tryz.f123
def k1 (R : EP) (x0 : BA) (x3 : Int) (w : World) : Prop :=
 0 ≤ x3 ∧ x3 ≤ (x0.size : Int) ∧
 R (.returned (.string (x0.extract (Int.toNat x3) x0.size))) w

def bl1 (R : EP) (Xa : BA → Int → WP) (x0 : BA) (x3 : Int) (w : World) : Prop :=
 ((decide (x3 < (x0.size : Int))) = true → 0 ≤ x3 ∧ x3 < (x0.size : Int)) ∧
 (((decide (x3 < (x0.size : Int))) && (!((bt x0 x3) == 32))) = true → 0 ≤ x3 ∧ x3 < (x0.size : Int)) ∧
 br ((decide (x3 < (x0.size : Int))) && (((bt x0 x3) == 32) || ((bt x0 x3) == 9)))
 (Xa x0 (IntKind.i64.wrap (x3 + 1)) w)
 (k1 R x0 x3 w)
def l1 (R : EP) (x0 : BA) (x3 : Int) (w : World) : Prop :=
 ∀ X : BA → Int → WP, (∀ x0 x3 w, bl1 R X x0 x3 w → X x0 x3 w) → X x0 x3 w

noncomputable def al1 (R : EP) (Xa : BA → Int → WP) : AC :=
 (.leaf (sel [1,1,0,0,0] body))
end g_trimLeftSpaceTab
def g_trimLeftSpaceTab (R : EP) (x0 : BA) (w : World) : Prop :=
 g_trimLeftSpaceTab.l1 R x0 0 w

namespace g_trimLeftSpaceTab
noncomputable def ac (R : EP) : AC :=
 (.seq (.leaf (sel [0] body)) (.seq (.leaf (sel [1,0] body)) (.seq (.block 0 (.loop (leaf [(0, .s .str), (3, .s (.int .i64))] (l1 R)) (sel [1,1,0,0,0] body))) (.mark (leaf [(0, .s .str), (3, .s (.int .i64))] (k1 R)) (.leaf (sel [1,1,1] body))))))
theorem good (R : EP) : Good P 25 (ac R) (QF P [.tmp 2] R) :=
 ⟨trivial, ⟨trivial, ⟨(loopG (al1 R) (bl1 R) (fun _ => by kernel_rfl) (fun Xa => trivial) (fun Xa => by intro x0 x3 ρ w; kernel_rfl) (fun X h _ _ _ g => g X h)), ⟨trivial, cutZ⟩⟩⟩⟩
theorem eq (R : EP) (x0 : BA) (w : World) : g_trimLeftSpaceTab R x0 w = vcA P 25 (ac R) (QF P [.tmp 2] R) (fr0 [.string x0]) w := by kernel_rfl
theorem sound {R : EP} {x0 : ByteArray} {w : World} (h : g_trimLeftSpaceTab R x0 w) : callE P i_trimLeftSpaceTab #[.string x0] R w :=
 callE_fz (c := body) Tryz.func123 Tryz.call123 (good R) (eq R x0 w) h
end g_trimLeftSpaceTab
namespace g_trimSpaceTab
noncomputable def body : Code := bodyOf Tryz.f89
def k2 (R : EP) (x0 : BA) (x4 : Int) (w : World) : Prop :=
 0 ≤ x4 ∧ x4 ≤ (x0.size : Int) ∧
 R (.returned (.string (x0.extract 0 (Int.toNat x4)))) w

def bl2 (R : EP) (Xa : BA → Int → WP) (x0 : BA) (x4 : Int) (w : World) : Prop :=
 ((decide (x4 > 0)) = true → 0 ≤ (IntKind.i64.wrap (x4 - 1)) ∧ (IntKind.i64.wrap (x4 - 1)) < (x0.size : Int)) ∧
 (((decide (x4 > 0)) && (!((bt x0 (IntKind.i64.wrap (x4 - 1))) == 32))) = true → 0 ≤ (IntKind.i64.wrap (x4 - 1)) ∧ (IntKind.i64.wrap (x4 - 1)) < (x0.size : Int)) ∧
 br ((decide (x4 > 0)) && (((bt x0 (IntKind.i64.wrap (x4 - 1))) == 32) || ((bt x0 (IntKind.i64.wrap (x4 - 1))) == 9)))
 (Xa x0 (IntKind.i64.wrap (x4 - 1)) w)
 (k2 R x0 x4 w)
def l2 (R : EP) (x0 : BA) (x4 : Int) (w : World) : Prop :=
 ∀ X : BA → Int → WP, (∀ x0 x4 w, bl2 R X x0 x4 w → X x0 x4 w) → X x0 x4 w

noncomputable def al2 (R : EP) (Xa : BA → Int → WP) : AC :=
 (.leaf (sel [1,1,1,1,1,0,0,0] body))
def k1 (R : EP) (x0 : BA) (x3 : Int) (w : World) : Prop :=
 0 ≤ x3 ∧ x3 ≤ (x0.size : Int) ∧
 l2 R (x0.extract (Int.toNat x3) x0.size) ((x0.extract (Int.toNat x3) x0.size).size : Int) w

def bl1 (R : EP) (Xb : BA → Int → WP) (x0 : BA) (x3 : Int) (w : World) : Prop :=
 ((decide (x3 < (x0.size : Int))) = true → 0 ≤ x3 ∧ x3 < (x0.size : Int)) ∧
 (((decide (x3 < (x0.size : Int))) && (!((bt x0 x3) == 32))) = true → 0 ≤ x3 ∧ x3 < (x0.size : Int)) ∧
 br ((decide (x3 < (x0.size : Int))) && (((bt x0 x3) == 32) || ((bt x0 x3) == 9)))
 (Xb x0 (IntKind.i64.wrap (x3 + 1)) w)
 (k1 R x0 x3 w)
def l1 (R : EP) (x0 : BA) (x3 : Int) (w : World) : Prop :=
 ∀ X : BA → Int → WP, (∀ x0 x3 w, bl1 R X x0 x3 w → X x0 x3 w) → X x0 x3 w

noncomputable def al1 (R : EP) (Xb : BA → Int → WP) : AC :=
 (.leaf (sel [1,1,0,0,0] body))
end g_trimSpaceTab
def g_trimSpaceTab (R : EP) (x0 : BA) (w : World) : Prop :=
 g_trimSpaceTab.l1 R x0 0 w

namespace g_trimSpaceTab
noncomputable def ac (R : EP) : AC :=
 (.seq (.leaf (sel [0] body)) (.seq (.leaf (sel [1,0] body)) (.seq (.block 0 (.loop (leaf [(0, .s .str), (3, .s (.int .i64))] (l1 R)) (sel [1,1,0,0,0] body))) (.mark (leaf [(0, .s .str), (3, .s (.int .i64))] (k1 R)) (.seq (.leaf (sel [1,1,1,0] body)) (.seq (.leaf (sel [1,1,1,1,0] body)) (.seq (.block 2 (.loop (leaf [(0, .s .str), (4, .s (.int .i64))] (l2 R)) (sel [1,1,1,1,1,0,0,0] body))) (.mark (leaf [(0, .s .str), (4, .s (.int .i64))] (k2 R)) (.leaf (sel [1,1,1,1,1,1] body))))))))))
theorem good (R : EP) : Good P 49 (ac R) (QF P [.tmp 2] R) :=
 ⟨trivial, ⟨trivial, ⟨(loopG (al1 R) (bl1 R) (fun _ => by kernel_rfl) (fun Xb => trivial) (fun Xb => by intro x0 x3 ρ w; kernel_rfl) (fun X h _ _ _ g => g X h)), ⟨⟨trivial, ⟨trivial, ⟨(loopG (al2 R) (bl2 R) (fun _ => by kernel_rfl) (fun Xa => trivial) (fun Xa => by intro x0 x4 ρ w; kernel_rfl) (fun X h _ _ _ g => g X h)), ⟨trivial, cutZ⟩⟩⟩⟩, cutZ⟩⟩⟩⟩
theorem eq (R : EP) (x0 : BA) (w : World) : g_trimSpaceTab R x0 w = vcA P 49 (ac R) (QF P [.tmp 2] R) (fr0 [.string x0]) w := by kernel_rfl
theorem sound {R : EP} {x0 : ByteArray} {w : World} (h : g_trimSpaceTab R x0 w) : callE P i_trimSpaceTab #[.string x0] R w :=
 callE_fz (c := body) Tryz.func89 Tryz.call89 (good R) (eq R x0 w) h
end g_trimSpaceTab
end Go.Proofs.YtgbgadkldalkbaaGreatDoor

set_option linter.unusedVariables false
namespace Go.Proofs.YtgbgadkldalkbaaGreatDoor
open Go.Proofs Go.IntWalk
variable {σ : Out} {w : World} {L L' : List Chunk} {R : Ending → World → Prop}

theorem trimSpaceTab_g {l : List UInt8} (hl : l.length < 4611686018427387904) (h : R (.returned (.string (bs (trimLR isST l)))) w) : g_trimSpaceTab R (bs l) w := by
 intro X hX
 refine scanF (l := l) (X := fun i => X (bs l) (i : Int) w) (p := isST) (fun i hi hp hx => hX _ _ _ ?_) 0 (Nat.zero_le _) (fun i hi hf he => hX _ _ _ ?_)
 ·refine ⟨fun _ => ⟨by omega, by simp; omega⟩, fun _ => ⟨by omega, by simp; omega⟩, br_true ?_ ?_⟩
  ·rw [bt_beq hi 32 32 rfl, bt_beq hi 9 9 rfl]
   simpa [hi, isST] using hp
  ·rw [i64_inc (by omega)]; exact hx
 ·refine ⟨fun h => ⟨by omega, by simpa using h⟩, fun h => ⟨by omega, ?_⟩, br_false ?_ ?_⟩
  ·simp only [Bool.and_eq_true, decide_eq_true_eq] at h; exact h.1
  ·by_cases hi' : i < l.length
   ·rw [bt_beq hi' 32 32 rfl, bt_beq hi' 9 9 rfl]
    simpa [hi', isST] using hf hi'
   ·simp [hi']
  ·refine ⟨by omega, by simp; omega, ?_⟩
   rw [bs_extract]
   simp only [Int.toNat_natCast, bs_size, List.take_length, he]
   simp only [List.drop_zero]
   generalize hm : l.dropWhile isST = m
   have hml : m.length < 4611686018427387904 := by
    have := List.dropWhile_sublist isST (l := l) |>.length_le
    rw [hm] at this
    omega
   intro Y hY
   refine scanB (l := m) (X := fun j => Y (bs m) (j : Int) w) (p := isST) (fun i hi hp hx => hY _ _ _ ?_) m.length (Nat.le_refl _) (fun j hj hf he => hY _ _ _ ?_)
   ·have hd := i64_dec (n := i + 1) (by omega) (by omega)
    rw [Nat.add_sub_cancel] at hd
    refine ⟨fun _ => ?_, fun _ => ?_, br_true ?_ ?_⟩
    ·rw [hd]; exact ⟨by omega, by simp; omega⟩
    ·rw [hd]; exact ⟨by omega, by simp; omega⟩
    ·rw [hd, bt_beq hi 32 32 rfl, bt_beq hi 9 9 rfl]
     simp only [isST] at hp
     rw [hp]
     simp
    ·rw [hd]; exact hx
   ·have hfin : g_trimSpaceTab.k2 R (bs m) (j : Int) w := by
     refine ⟨by omega, by simp; omega, ?_⟩
     rw [bs_extract]
     simp only [Int.toNat_natCast, List.drop_zero, he, List.take_length]
     have : trimLR isST l = (m.reverse.dropWhile isST).reverse := by rw [trimLR, trimR, hm]
     rw [← this]; exact h
    rcases Nat.eq_zero_or_pos j with hj0 | hj0
    ·subst hj0
     exact ⟨fun h => by simp at h, fun h => by simp at h, br_false (by simp) hfin⟩
    ·obtain ⟨i, rfl⟩ : ∃ i, j = i + 1 := ⟨j - 1, by omega⟩
     have hd := i64_dec (n := i + 1) (by omega) (by omega)
     rw [Nat.add_sub_cancel] at hd
     refine ⟨fun _ => ?_, fun _ => ?_, br_false ?_ hfin⟩
     ·rw [hd]; exact ⟨by omega, by simp; omega⟩
     ·rw [hd]; exact ⟨by omega, by simp; omega⟩
     ·have := hf i (by omega) rfl
      rw [hd, bt_beq (by omega) 32 32 rfl, bt_beq (by omega) 9 9 rfl]
      simp only [isST] at this
      rw [this]; simp

theorem trimSpaceTab_ok {l : List UInt8} (hl : l.length < 4611686018427387904) (h : R (.returned (.string (bs (trimLR isST l)))) w) : callE P i_trimSpaceTab #[.string (bs l)] R w :=
 g_trimSpaceTab.sound (trimSpaceTab_g hl h)
theorem trimLeftSpaceTab_ok {l : List UInt8} (hl : l.length < 4611686018427387904) (h : R (.returned (.string (bs (l.dropWhile isST)))) w) : callE P i_trimLeftSpaceTab #[.string (bs l)] R w := by
 refine g_trimLeftSpaceTab.sound ?_
 intro X hX
 refine scanF (l := l) (X := fun i => X (bs l) (i : Int) w) (p := isST) (fun i hi hp hx => hX _ _ _ ?_) 0 (Nat.zero_le _) (fun i hi hf he => hX _ _ _ ?_)
 ·refine ⟨fun _ => ⟨by omega, by simp; omega⟩, fun _ => ⟨by omega, by simp; omega⟩, br_true ?_ ?_⟩
  ·rw [bt_beq hi 32 32 rfl, bt_beq hi 9 9 rfl]
   simpa [hi, isST] using hp
  ·rw [i64_inc (by omega)]; exact hx
 ·refine ⟨fun h => ⟨by omega, by simpa using h⟩, fun h => ⟨by omega, ?_⟩, br_false ?_ ?_⟩
  ·simp only [Bool.and_eq_true, decide_eq_true_eq] at h; exact h.1
  ·by_cases hi' : i < l.length
   ·rw [bt_beq hi' 32 32 rfl, bt_beq hi' 9 9 rfl]
    simpa [hi', isST] using hf hi'
   ·simp [hi']
  ·refine ⟨by omega, by simp; omega, ?_⟩
   rw [bs_size, bs_extract]
   simp only [Int.toNat_natCast, List.take_length, he, List.drop_zero]
   exact h
end Go.Proofs.YtgbgadkldalkbaaGreatDoor


set_option linter.unusedVariables false
namespace Go.Proofs.YtgbgadkldalkbaaGreatDoor
open Go.Proofs Go.IntWalk
variable {σ : Out} {w : World} {L L' : List Chunk} {R : Ending → World → Prop}

structure Ln where
 sp : Nat
 i : Nat
 tab : Nat
 text : List UInt8
 nl : UInt8
def Ln.cells (l : Ln) : List Value := [.int .i64 l.sp, .int .i64 l.i, .int .i64 l.tab, .string (bs l.text), .int .u8 l.nl.toNat]
abbrev Ln.at (b : Nat) (l : Ln) : Chunk := (b, cel l.cells ty_line)
structure Ln.ok (l : Ln) : Prop where
 i : l.i ≤ l.text.length
 tab : l.tab ≤ l.i
 len : l.text.length < 4611686018427387904
 sp : l.sp ≤ 3
def Ln.blank (l : Ln) : Bool := (l.text.drop l.i).all isST
def Ln.peek (l : Ln) : UInt8 := if 0 < l.sp then 32 else l.text.getD l.i 0

theorem dropWhile_nil_iff {p : UInt8 → Bool} : ∀ {l : List UInt8}, ((l.dropWhile p) == []) = l.all p
 | [] => rfl
 | a :: l => by
  cases hp : p a with
  | true => rw [List.dropWhile_cons_of_pos hp, dropWhile_nil_iff, List.all_cons, hp, Bool.true_and]
  | false => rw [List.dropWhile_cons_of_neg (by simp [hp]), List.all_cons, hp]; rfl

theorem isBlank_ok {b : Nat} {l : Ln} (h : Sat σ w L) (hm : l.at b ∈ L) (hl : l.ok) (hR : ∀ w, Sat σ w L → R (.returned (.bool l.blank)) w) :
 callE P i_line_isBlank #[.pointer (some ⟨b, 0, none⟩)] R w := by
 refine g_line_isBlank.sound ?_
 repeat (first | refine nilP_some ?_ | refine h.tk fun w h => ?_ | refine ⟨_, h.ldA, ?_⟩ | refine ⟨_, _, _, h.ldA, ?_⟩)
 have := hl.i
 refine ⟨by omega, by simp; omega, ?_⟩
 rw [bs_size, Int.toNat_natCast, bs_ext]
 refine trimLeftSpaceTab_ok (by simp; have := hl.len; omega) ⟨_, rfl, ?_⟩
 rw [bs_toList, mk_toList, dropWhile_nil_iff]
 exact hR _ h

theorem eof_ok {b : Nat} {l : Ln} (h : Sat σ w L) (hm : l.at b ∈ L) (hR : ∀ w, Sat σ w L → R (.returned (.bool (decide (l.text.length ≤ l.i)))) w) :
 callE P i_line_eof #[.pointer (some ⟨b, 0, none⟩)] R w := by
 refine g_line_eof.sound ?_
 repeat (first | refine nilP_some ?_ | refine h.tk fun w h => ?_ | refine ⟨_, h.ldA, ?_⟩ | refine ⟨_, _, _, h.ldA, ?_⟩)
 have : (decide ((l.i : Int) ≥ ((bs l.text).size : Int))) = decide (l.text.length ≤ l.i) := by simp
 rw [this]
 exact hR _ h

theorem peek_ok {b : Nat} {l : Ln} (h : Sat σ w L) (hm : l.at b ∈ L) (hl : l.ok) (hR : ∀ w, Sat σ w L → R (.returned (.int .u8 l.peek.toNat)) w) :
 callE P i_line_peek #[.pointer (some ⟨b, 0, none⟩)] R w := by
 refine g_line_peek.sound ?_
 repeat (first | refine nilP_some ?_ | refine h.tk fun w h => ?_ | refine ⟨_, h.ldA, ?_⟩ | refine ⟨_, _, _, h.ldA, ?_⟩)
 refine br_split (fun hs => ?_) (fun hs => ?_)
 ·have hp : l.peek = 32 := by simp only [Ln.peek]; rw [if_pos (by simpa using hs)]
  have := hR _ h
  rw [hp] at this
  exact this
 ·have hs : l.sp = 0 := by simpa using hs
  repeat (first | refine nilP_some ?_ | refine h.tk fun w h => ?_ | refine ⟨_, h.ldA, ?_⟩ | refine ⟨_, _, _, h.ldA, ?_⟩)
  refine br_split (fun hi => ?_) (fun hi => ?_)
  ·have hp : l.peek = 0 := by
    simp at hi
    simp [Ln.peek, hs, hi]
   have := hR _ h
   rw [hp] at this
   exact this
  ·repeat (first | refine nilP_some ?_ | refine h.tk fun w h => ?_ | refine ⟨_, h.ldA, ?_⟩ | refine ⟨_, _, _, h.ldA, ?_⟩)
   simp at hi
   refine ⟨by omega, by simp; omega, ?_⟩
   have hp : (l.peek.toNat : Int) = bt (bs l.text) l.i := by rw [bt_at hi]; simp [Ln.peek, hs, hi]
   rw [← hp]
   exact hR _ h

theorem bitAnd3 (n : Nat) (hn : n < 4611686018427387904) : bitAnd .i64 (n : Int) 3 = ((n % 4 : Nat) : Int) := by
 have h1 : (BitVec.ofInt 64 (n : Int) &&& BitVec.ofInt 64 3).toNat = n % 4 := by
  rw [BitVec.toNat_and]
  have h2 : (BitVec.ofInt 64 (n : Int)).toNat = n := by
   simp
   omega
  rw [h2, show (BitVec.ofInt 64 3).toNat = 2 ^ 2 - 1 from rfl, Nat.and_two_pow_sub_one_eq_mod]
 show IntKind.i64.wrap (((BitVec.ofInt 64 (n : Int) &&& BitVec.ofInt 64 3).toNat : Nat) : Int) = _
 rw [h1, i64_in _ (by omega)]

def Ln.tsGo (min : Nat) (eol : Bool) : Nat → Nat → Ln → Option Ln
 | 0, _, t => some t
 | k + 1, n, t =>
  if 0 < t.sp then tsGo min eol k (n + 1) { t with sp := t.sp - 1 }
  else if t.text.length ≤ t.i ∧ eol = true then tsGo min eol k (n + 1) t
  else if t.text[t.i]? = some 9 then tsGo min eol k (n + 1) { t with sp := 3 - (t.i - t.tab) % 4, i := t.i + 1, tab := t.i + 1 }
  else if t.text[t.i]? = some 32 then tsGo min eol k (n + 1) { t with i := t.i + 1 }
  else if min ≤ n then some t else none
def Ln.trimSp (min max : Nat) (eol : Bool) (t : Ln) : Option Ln := t.tsGo min eol max 0

theorem trimSp_ok {b : Nat} {l : Ln} {min max : Nat} {eol : Bool} (h : Sat σ w (l.at b :: L)) (hl : l.ok) (h1 : min < 4611686018427387904) (h2 : max < 4611686018427387904)
 (hR : match l.trimSp min max eol with
  | some l' => ∀ w, Sat σ w (l'.at b :: L) → R (.returned (.bool true)) w
  | none => ∀ w, Sat σ w (l.at b :: L) → R (.returned (.bool false)) w) :
 callE P i_line_trimSpace #[.pointer (some ⟨b, 0, none⟩), .int .i64 min, .int .i64 max, .bool eol] R w := by
 refine g_line_trimSpace.sound ?_
 repeat (first | refine nilP_some ?_ | refine h.tk fun w h => ?_ | refine ⟨_, h.ldA, ?_⟩ | refine ⟨_, _, _, h.ldA, ?_⟩ | refine h.stA 0 fun w h => ?_ | refine h.stA 1 fun w h => ?_ | refine h.stA 2 fun w h => ?_ | refine h.stA 3 fun w h => ?_ | refine h.stA 4 fun w h => ?_ | refine h.stA 5 fun w h => ?_ | refine h.stA 6 fun w h => ?_ | refine h.bx fun b0 w h => ?_)
 have h : Sat σ _ (l.at b0 :: l.at b :: L) := h
 intro X hX
 have key : ∀ k n (t : Ln) w, n + k = max → t.ok → Sat σ w (t.at b0 :: l.at b :: L) →
  (match t.tsGo min eol k n with
  | some l' => ∀ w, Sat σ w (l'.at b :: L) → R (.returned (.bool true)) w
  | none => ∀ w, Sat σ w (l.at b :: L) → R (.returned (.bool false)) w) → X (some ⟨b, 0, none⟩) min max eol b0 n w := by
  intro k
  induction k with
  | zero =>
   intro n t w hn ht h hR
   refine hX _ _ _ _ _ _ _ (br_false (by simp; omega) ?_)
   repeat (first | refine nilP_some ?_ | refine h.tk fun w h => ?_ | refine ⟨_, h.ldA, ?_⟩ | refine ⟨_, _, _, h.ldA, ?_⟩ | refine h.stA 0 fun w h => ?_ | refine h.stA 1 fun w h => ?_ | refine h.stA 2 fun w h => ?_ | refine h.stA 3 fun w h => ?_ | refine h.stA 4 fun w h => ?_ | refine h.stA 5 fun w h => ?_ | refine h.stA 6 fun w h => ?_ | refine h.bx fun b0 w h => ?_)
   have h : Sat σ _ (t.at b0 :: t.at b :: L) := h
   exact hR _ h.tail
  | succ k ih =>
   intro n t w hn ht h hR
   simp only [Ln.tsGo] at hR
   refine hX _ _ _ _ _ _ _ (br_true (by simp; omega) ?_)
   have hni : IntKind.i64.wrap ((n : Int) + 1) = ((n + 1 : Nat) : Int) := i64_inc (by omega)
   repeat (first | refine nilP_some ?_ | refine h.tk fun w h => ?_ | refine ⟨_, h.ldA, ?_⟩ | refine ⟨_, _, _, h.ldA, ?_⟩)
   by_cases hs : 0 < t.sp
   ·rw [if_pos hs] at hR
    refine br_true (by simpa using hs) ?_
    have hd := i64_dec (n := t.sp) (by have := ht.sp; omega) hs
    repeat (first | refine nilP_some ?_ | refine h.tk fun w h => ?_ | refine ⟨_, h.ldA, ?_⟩ | refine ⟨_, _, _, h.ldA, ?_⟩ | refine h.stA 0 fun w h => ?_ | refine h.stA 1 fun w h => ?_ | refine h.stA 2 fun w h => ?_ | refine h.stA 3 fun w h => ?_ | refine h.stA 4 fun w h => ?_ | refine h.stA 5 fun w h => ?_ | refine h.stA 6 fun w h => ?_ | refine h.bx fun b0 w h => ?_)
    rw [hd] at h
    rw [hni]
    exact ih _ { t with sp := t.sp - 1 } _ (by omega) ⟨ht.i, ht.tab, ht.len, by have := ht.sp; simp; omega⟩ h hR
   ·rw [if_neg hs] at hR
    refine br_false (by simpa using hs) ?_
    repeat (first | refine nilP_some ?_ | refine h.tk fun w h => ?_ | refine ⟨_, h.ldA, ?_⟩ | refine ⟨_, _, _, h.ldA, ?_⟩)
    by_cases he : t.text.length ≤ t.i ∧ eol = true
    ·rw [if_pos he] at hR
     refine br_true (by simpa using he) ?_
     rw [hni]
     exact ih _ t _ (by omega) ht h hR
    ·rw [if_neg he] at hR
     refine br_false (by rw [Bool.and_eq_false_iff]; by_cases h : eol = true <;> simp_all) ?_
     repeat (first | refine nilP_some ?_ | refine h.tk fun w h => ?_ | refine ⟨_, h.ldA, ?_⟩ | refine ⟨_, _, _, h.ldA, ?_⟩)
     by_cases hi : t.i < t.text.length
     ·refine br_true (by simpa using hi) ?_
      repeat (first | refine nilP_some ?_ | refine h.tk fun w h => ?_ | refine ⟨_, h.ldA, ?_⟩ | refine ⟨_, _, _, h.ldA, ?_⟩)
      refine ⟨by omega, by simpa using hi, ?_⟩
      rw [List.getElem?_eq_getElem hi] at hR
      have hlen := ht.len
      have htab := ht.tab
      have hii : IntKind.i64.wrap ((t.i : Int) + 1) = ((t.i + 1 : Nat) : Int) := i64_inc (by omega)
      by_cases h9 : t.text[t.i] = 9
      ·rw [if_pos (by rw [h9])] at hR
       refine br_true (by rw [bt_beq hi 9 9 rfl, h9]; rfl) ?_
       repeat (first | refine nilP_some ?_ | refine h.tk fun w h => ?_ | refine ⟨_, h.ldA, ?_⟩ | refine ⟨_, _, _, h.ldA, ?_⟩)
       have e1 : IntKind.i64.wrap ((t.i : Int) - (t.tab : Int)) = ((t.i - t.tab : Nat) : Int) := by rw [i64_in _ (by omega)]; omega
       rw [e1, bitAnd3 _ (by omega), i64_in (4 - _) (by omega), i64_in _ (by omega)]
       have e2 : (4 - (((t.i - t.tab) % 4 : Nat) : Int) - 1) = ((3 - (t.i - t.tab) % 4 : Nat) : Int) := by omega
       rw [e2]
       repeat (first | refine nilP_some ?_ | refine h.tk fun w h => ?_ | refine ⟨_, h.ldA, ?_⟩ | refine ⟨_, _, _, h.ldA, ?_⟩ | refine h.stA 0 fun w h => ?_ | refine h.stA 1 fun w h => ?_ | refine h.stA 2 fun w h => ?_ | refine h.stA 3 fun w h => ?_ | refine h.stA 4 fun w h => ?_ | refine h.stA 5 fun w h => ?_ | refine h.stA 6 fun w h => ?_ | refine h.bx fun b0 w h => ?_)
       rw [hii] at h
       rw [hni]
       exact ih _ { t with sp := 3 - (t.i - t.tab) % 4, i := t.i + 1, tab := t.i + 1 } _ (by omega) ⟨by simp; omega, by simp, ht.len, by simp⟩ h hR
      ·rw [if_neg (by simpa using h9)] at hR
       refine br_false (by rw [bt_beq hi 9 9 rfl]; simpa using h9) ?_
       by_cases h32 : t.text[t.i] = 32
       ·rw [if_pos (by rw [h32])] at hR
        refine br_true (by rw [bt_beq hi 32 32 rfl, h32]; rfl) ?_
        repeat (first | refine nilP_some ?_ | refine h.tk fun w h => ?_ | refine ⟨_, h.ldA, ?_⟩ | refine ⟨_, _, _, h.ldA, ?_⟩ | refine h.stA 0 fun w h => ?_ | refine h.stA 1 fun w h => ?_ | refine h.stA 2 fun w h => ?_ | refine h.stA 3 fun w h => ?_ | refine h.stA 4 fun w h => ?_ | refine h.stA 5 fun w h => ?_ | refine h.stA 6 fun w h => ?_ | refine h.bx fun b0 w h => ?_)
        rw [hii] at h
        rw [hni]
        exact ih _ { t with i := t.i + 1 } _ (by omega) ⟨by simp; omega, by simp; omega, ht.len, ht.sp⟩ h hR
       ·rw [if_neg (by simpa using h32)] at hR
        refine br_false (by rw [bt_beq hi 32 32 rfl]; simpa using h32) ?_
        by_cases hm : min ≤ n
        ·rw [if_pos hm] at hR
         refine br_true (by simpa using hm) ?_
         repeat (first | refine nilP_some ?_ | refine h.tk fun w h => ?_ | refine ⟨_, h.ldA, ?_⟩ | refine ⟨_, _, _, h.ldA, ?_⟩ | refine h.stA 0 fun w h => ?_ | refine h.stA 1 fun w h => ?_ | refine h.stA 2 fun w h => ?_ | refine h.stA 3 fun w h => ?_ | refine h.stA 4 fun w h => ?_ | refine h.stA 5 fun w h => ?_ | refine h.stA 6 fun w h => ?_ | refine h.bx fun b0 w h => ?_)
         have h : Sat σ _ (t.at b0 :: t.at b :: L) := h
         exact hR _ h.tail
        ·rw [if_neg hm] at hR
         refine br_false (by simpa using hm) ?_
         exact hR _ h.tail
     ·refine br_false (by simpa using hi) ?_
      rw [List.getElem?_eq_none (by omega), if_neg (by simp), if_neg (by simp)] at hR
      by_cases hm : min ≤ n
      ·rw [if_pos hm] at hR
       refine br_true (by simpa using hm) ?_
       repeat (first | refine nilP_some ?_ | refine h.tk fun w h => ?_ | refine ⟨_, h.ldA, ?_⟩ | refine ⟨_, _, _, h.ldA, ?_⟩ | refine h.stA 0 fun w h => ?_ | refine h.stA 1 fun w h => ?_ | refine h.stA 2 fun w h => ?_ | refine h.stA 3 fun w h => ?_ | refine h.stA 4 fun w h => ?_ | refine h.stA 5 fun w h => ?_ | refine h.stA 6 fun w h => ?_ | refine h.bx fun b0 w h => ?_)
       have h : Sat σ _ (t.at b0 :: t.at b :: L) := h
       exact hR _ h.tail
      ·rw [if_neg hm] at hR
       refine br_false (by simpa using hm) ?_
       exact hR _ h.tail
 exact key max 0 l _ (by omega) hl h hR

end Go.Proofs.YtgbgadkldalkbaaGreatDoor


set_option linter.unusedVariables false
namespace Go.Proofs.YtgbgadkldalkbaaGreatDoor
open Go.Proofs Go.IntWalk
variable {σ : Out} {w : World} {L L' : List Chunk} {R : Ending → World → Prop}

def Ln.trimC (c : UInt8) (l : Ln) : Option Ln :=
 if 0 < l.sp then (if c = 32 then some { l with sp := l.sp - 1 } else none)
 else if l.text[l.i]? = some c then some { l with i := l.i + 1 } else none
theorem Ln.trimC_ok {c : UInt8} {l l' : Ln} (hl : l.ok) (h : l.trimC c = some l') : l'.ok := by
 simp only [Ln.trimC] at h
 have h1 := hl.i; have h2 := hl.tab; have h3 := hl.sp
 split at h
 ·split at h
  ·cases h; exact ⟨h1, h2, hl.len, by simp; omega⟩
  ·cases h
 ·split at h
  ·rename_i hg
   have := (List.getElem?_eq_some_iff.1 hg).1
   cases h; exact ⟨by simp; omega, by simp; omega, hl.len, hl.sp⟩
  ·cases h
theorem trimC_ok {b : Nat} {l : Ln} {c : UInt8} {n : Int} (hc : (c.toNat : Int) = n) (h : Sat σ w (l.at b :: L)) (hl : l.ok)
 (hR : match l.trimC c with
  | some l' => ∀ w, Sat σ w (l'.at b :: L) → R (.returned (.bool true)) w
  | none => ∀ w, Sat σ w (l.at b :: L) → R (.returned (.bool false)) w) :
 callE P i_line_trim #[.pointer (some ⟨b, 0, none⟩), .int .u8 n] R w := by
 subst hc
 refine g_line_trim.sound ?_
 simp only [Ln.trimC] at hR
 have h1 := hl.i; have h2 := hl.tab; have h3 := hl.sp; have h4 := hl.len
 repeat (first | refine nilP_some ?_ | refine h.tk fun w h => ?_ | refine ⟨_, h.ldA, ?_⟩ | refine ⟨_, _, _, h.ldA, ?_⟩)
 by_cases hs : 0 < l.sp
 ·rw [if_pos hs] at hR
  refine br_true (by simpa using hs) ?_
  by_cases hc : c = 32
  ·rw [if_pos hc] at hR
   refine br_true (by rw [hc]; rfl) ?_
   have hd := i64_dec (n := l.sp) (by omega) hs
   repeat (first | refine nilP_some ?_ | refine h.tk fun w h => ?_ | refine ⟨_, h.ldA, ?_⟩ | refine ⟨_, _, _, h.ldA, ?_⟩ | refine h.stA 0 fun w h => ?_ | refine h.stA 1 fun w h => ?_ | refine h.stA 2 fun w h => ?_ | refine h.stA 3 fun w h => ?_ | refine h.stA 4 fun w h => ?_ | refine h.stA 5 fun w h => ?_ | refine h.stA 6 fun w h => ?_ | refine h.bx fun b0 w h => ?_)
   rw [hd] at h
   exact hR _ h
  ·rw [if_neg hc] at hR
   refine br_false ?_ (hR _ h)
   have := u8_beq c 32
   rw [show ((32 : UInt8).toNat : Int) = 32 from rfl] at this
   rw [this]
   simpa using hc
 ·rw [if_neg hs] at hR
  refine br_false (by simpa using hs) ?_
  repeat (first | refine nilP_some ?_ | refine h.tk fun w h => ?_ | refine ⟨_, h.ldA, ?_⟩ | refine ⟨_, _, _, h.ldA, ?_⟩)
  have hii : IntKind.i64.wrap ((l.i : Int) + 1) = ((l.i + 1 : Nat) : Int) := i64_inc (by omega)
  by_cases hi : l.i < l.text.length
  ·rw [List.getElem?_eq_getElem hi] at hR
   refine br_true (by simpa using hi) ?_
   repeat (first | refine nilP_some ?_ | refine h.tk fun w h => ?_ | refine ⟨_, h.ldA, ?_⟩ | refine ⟨_, _, _, h.ldA, ?_⟩)
   refine ⟨by omega, by simpa using hi, ?_⟩
   rw [bt_beq hi c _ rfl]
   by_cases hc : l.text[l.i] = c
   ·rw [if_pos (by rw [hc])] at hR
    refine br_true (by simpa using hc) ?_
    repeat (first | refine nilP_some ?_ | refine h.tk fun w h => ?_ | refine ⟨_, h.ldA, ?_⟩ | refine ⟨_, _, _, h.ldA, ?_⟩ | refine h.stA 0 fun w h => ?_ | refine h.stA 1 fun w h => ?_ | refine h.stA 2 fun w h => ?_ | refine h.stA 3 fun w h => ?_ | refine h.stA 4 fun w h => ?_ | refine h.stA 5 fun w h => ?_ | refine h.stA 6 fun w h => ?_ | refine h.bx fun b0 w h => ?_)
    rw [hii] at h
    exact hR _ h
   ·rw [if_neg (by simpa using hc)] at hR
    exact br_false (by simpa using hc) (hR _ h)
  ·rw [List.getElem?_eq_none (by omega), if_neg (by simp)] at hR
   exact br_false (by simpa using hi) (br_false rfl (hR _ h))

def Ln.skip (l : Ln) : Ln := { l with sp := 0, i := l.text.length - ((l.text.drop l.i).dropWhile isST).length }
theorem Ln.skip_ok {l : Ln} (hl : l.ok) : l.skip.ok := by
 have h1 := hl.i; have h2 := hl.tab
 have h3 := (List.dropWhile_sublist isST (l := l.text.drop l.i)).length_le
 rw [List.length_drop] at h3
 exact ⟨by simp only [Ln.skip]; omega, by simp only [Ln.skip]; omega, hl.len, by simp [Ln.skip]⟩
theorem skipSpace_ok {b : Nat} {l : Ln} (h : Sat σ w (l.at b :: L)) (hl : l.ok) (hR : ∀ w, Sat σ w (l.skip.at b :: L) → R (.returned (.tuple #[])) w) :
 callE P i_line_skipSpace #[.pointer (some ⟨b, 0, none⟩)] R w := by
 refine g_line_skipSpace.sound ?_
 repeat (first | refine nilP_some ?_ | refine h.tk fun w h => ?_ | refine ⟨_, h.ldA, ?_⟩ | refine ⟨_, _, _, h.ldA, ?_⟩ | refine h.stA 0 fun w h => ?_ | refine h.stA 1 fun w h => ?_ | refine h.stA 2 fun w h => ?_ | refine h.stA 3 fun w h => ?_ | refine h.stA 4 fun w h => ?_ | refine h.stA 5 fun w h => ?_ | refine h.stA 6 fun w h => ?_ | refine h.bx fun b0 w h => ?_)
 intro X hX
 have h1 := hl.i; have h4 := hl.len
 refine scanF (l := l.text) (p := isST) (X := fun i => ∀ w, Sat σ w (Ln.at b { l with sp := 0, i := i } :: L) → X (some ⟨b, 0, none⟩) w) (fun i hi hp hx w h => hX _ _ ?_) l.i h1 (fun i hi hf he w h => hX _ _ ?_) _ h
 ·repeat (first | refine nilP_some ?_ | refine h.tk fun w h => ?_ | refine ⟨_, h.ldA, ?_⟩ | refine ⟨_, _, _, h.ldA, ?_⟩)
  refine br_true (by simpa using hi) ?_
  repeat (first | refine nilP_some ?_ | refine h.tk fun w h => ?_ | refine ⟨_, h.ldA, ?_⟩ | refine ⟨_, _, _, h.ldA, ?_⟩)
  refine ⟨by omega, by simpa using hi, ?_⟩
  have hii : IntKind.i64.wrap ((i : Int) + 1) = ((i + 1 : Nat) : Int) := i64_inc (by omega)
  rw [bt_beq hi 32 32 rfl]
  by_cases hc : l.text[i] = 32
  ·refine br_true (by simpa using hc) ?_
   repeat (first | refine nilP_some ?_ | refine h.tk fun w h => ?_ | refine ⟨_, h.ldA, ?_⟩ | refine ⟨_, _, _, h.ldA, ?_⟩ | refine h.stA 0 fun w h => ?_ | refine h.stA 1 fun w h => ?_ | refine h.stA 2 fun w h => ?_ | refine h.stA 3 fun w h => ?_ | refine h.stA 4 fun w h => ?_ | refine h.stA 5 fun w h => ?_ | refine h.stA 6 fun w h => ?_ | refine h.bx fun b0 w h => ?_)
   rw [hii] at h
   exact hx _ h
  ·refine br_false (by simpa using hc) ?_
   repeat (first | refine nilP_some ?_ | refine h.tk fun w h => ?_ | refine ⟨_, h.ldA, ?_⟩ | refine ⟨_, _, _, h.ldA, ?_⟩)
   refine ⟨by omega, by simpa using hi, ?_⟩
   rw [bt_beq hi 9 9 rfl]
   refine br_true (by simpa [isST, hc] using hp) ?_
   repeat (first | refine nilP_some ?_ | refine h.tk fun w h => ?_ | refine ⟨_, h.ldA, ?_⟩ | refine ⟨_, _, _, h.ldA, ?_⟩ | refine h.stA 0 fun w h => ?_ | refine h.stA 1 fun w h => ?_ | refine h.stA 2 fun w h => ?_ | refine h.stA 3 fun w h => ?_ | refine h.stA 4 fun w h => ?_ | refine h.stA 5 fun w h => ?_ | refine h.stA 6 fun w h => ?_ | refine h.bx fun b0 w h => ?_)
   rw [hii] at h
   exact hx _ h
 ·have hfin : l.skip = { l with sp := 0, i := i } := by
   simp only [Ln.skip, ← he, List.length_drop]
   congr 1
   omega
  rw [← hfin] at h
  have hsk : l.skip.i = i := by rw [hfin]
  have hst : l.skip.text = l.text := rfl
  repeat (first | refine nilP_some ?_ | refine h.tk fun w h => ?_ | refine ⟨_, h.ldA, ?_⟩ | refine ⟨_, _, _, h.ldA, ?_⟩)
  rw [hsk, hst]
  by_cases hi' : i < l.text.length
  ·have hp := hf hi'
   simp only [isST, Bool.or_eq_false_iff, beq_eq_false_iff_ne] at hp
   refine br_true (by simpa using hi') ?_
   repeat (first | refine nilP_some ?_ | refine h.tk fun w h => ?_ | refine ⟨_, h.ldA, ?_⟩ | refine ⟨_, _, _, h.ldA, ?_⟩)
   rw [hsk, hst]
   refine ⟨by omega, by simpa using hi', ?_⟩
   rw [bt_beq hi' 32 32 rfl]
   refine br_false (by simpa using hp.1) ?_
   repeat (first | refine nilP_some ?_ | refine h.tk fun w h => ?_ | refine ⟨_, h.ldA, ?_⟩ | refine ⟨_, _, _, h.ldA, ?_⟩)
   rw [hsk, hst]
   refine ⟨by omega, by simpa using hi', ?_⟩
   rw [bt_beq hi' 9 9 rfl]
   exact br_false (by simpa using hp.2) (hR _ h)
  ·exact br_false (by simpa using hi') (hR _ h)

theorem trimSpaceString_ok {b : Nat} {l : Ln} (h : Sat σ w L) (hm : l.at b ∈ L) (hl : l.ok) (hR : ∀ w, Sat σ w L → R (.returned (.string (bs ((l.text.drop l.i).dropWhile isST)))) w) :
 callE P i_line_trimSpaceString #[.pointer (some ⟨b, 0, none⟩)] R w := by
 refine g_line_trimSpaceString.sound ?_
 repeat (first | refine nilP_some ?_ | refine h.tk fun w h => ?_ | refine ⟨_, h.ldA, ?_⟩ | refine ⟨_, _, _, h.ldA, ?_⟩)
 have := hl.i
 refine ⟨by omega, by simp; omega, ?_⟩
 rw [bs_size, Int.toNat_natCast, bs_ext]
 exact trimLeftSpaceTab_ok (by simp; have := hl.len; omega) ⟨_, rfl, hR _ h⟩
end Go.Proofs.YtgbgadkldalkbaaGreatDoor


set_option linter.unusedVariables false
namespace Go.Proofs.YtgbgadkldalkbaaGreatDoor
open Go.Proofs Go.IntWalk
variable {σ : Out} {w : World} {L L' : List Chunk} {R : Ending → World → Prop}

structure PS where
 pz : Option Addr
 root : Option Addr
 links : Option Nat
 lineno : Nat
 stq : Option Addr
 stn : Nat
 stc : Nat
 depth : Int
 corner : Bool
 s : List UInt8
 em : Int
 lq : Option Addr
 ln : Nat
 lc : Nat
 Lq : Option Addr
 Ln : Nat
 Lc : Nat
 tq : Option Addr
 tn : Nat
 tc : Nat
 bt : List Value
def PS.cells (p : PS) : List Value :=
 .pointer p.pz :: .pointer p.root :: .map p.links :: .int .i64 p.lineno :: .slice p.stq p.stn p.stc :: .int .i64 p.depth :: .bool p.corner :: .string (bs p.s) :: .int .i64 p.em ::
  .slice p.lq p.ln p.lc :: .slice p.Lq p.Ln p.Lc :: .slice p.tq p.tn p.tc :: p.bt
abbrev PS.at (b : Nat) (p : PS) : Chunk := (b, cel p.cells ty_parseState)
structure OB where
 bd : Value
 q : Option Addr
 n : Nat
 c : Nat
 s : Nat
 e : Nat
def OB.cells (o : OB) : List Value := [o.bd, .slice o.q o.n o.c, .int .i64 o.s, .int .i64 o.e]
def obCells (l : List OB) : List Value := l.flatMap OB.cells
theorem obCells_length : ∀ l : List OB, (obCells l).length = l.length * 4
 | [] => rfl
 | o :: l => by simp only [obCells, List.flatMap_cons, List.length_append, List.length_cons] at *; rw [show (List.flatMap OB.cells l).length = l.length * 4 from obCells_length l]; simp [OB.cells]; omega
theorem obCells_get {f : Nat} (hf : f < 4) : ∀ (l : List OB) (j : Nat) (o : OB), l[j]? = some o → (obCells l)[j * 4 + f]? = o.cells[f]?
 | [], j, o, h => by simp at h
 | o' :: l, 0, o, h => by
  simp only [List.getElem?_cons_zero, Option.some.injEq] at h
  subst h
  simp only [obCells, List.flatMap_cons, Nat.zero_mul, Nat.zero_add]
  rw [List.getElem?_append_left (by simp [OB.cells]; omega)]
 | o' :: l, j + 1, o, h => by
  simp only [List.getElem?_cons_succ] at h
  simp only [obCells, List.flatMap_cons]
  rw [List.getElem?_append_right (by simp [OB.cells]; omega)]
  have := obCells_get hf l j o h
  rw [← this]
  congr 1
  simp [OB.cells]
  omega
def Stk (p : PS) (l : List OB) (M : List Chunk) : Prop := Sl 4 ty_openBlock p.stq p.stn p.stc (obCells l) M ∧ p.stn = l.length ∧ l.length < 1048576
theorem Stk.split {p : PS} {l : List OB} {M : List Chunk} (h : Stk p l M) (hl : l ≠ []) : ∃ b sp, p.stq = some ⟨b, 0, none⟩ ∧ M = [(b, cel (obCells l ++ sp) ty_openBlock)] ∧ (obCells l ++ sp).length = p.stc * 4 := by
 obtain ⟨⟨_, _, h | ⟨b, sp, h1, h2, h3⟩⟩, hn, _⟩ := h
 ·obtain ⟨_, h, _⟩ := h
  rw [h] at hn
  exact absurd (List.eq_nil_of_length_eq_zero hn.symm) hl
 ·exact ⟨b, sp, h1, h2, h3⟩
theorem Stk.mk' {p : PS} {l : List OB} {b : Nat} {sp : List Value} (h1 : p.stq = some ⟨b, 0, none⟩) (h2 : (obCells l ++ sp).length = p.stc * 4) (h3 : p.stn = l.length) (h4 : l.length < 1048576) :
 Stk p l [(b, cel (obCells l ++ sp) ty_openBlock)] := by
 refine ⟨⟨by rw [obCells_length, h3], ?_, .inr ⟨b, sp, h1, rfl, h2⟩⟩, h3, h4⟩
 rw [List.length_append, obCells_length] at h2
 omega
theorem stk_get {l : List OB} {sp : List Value} {j f : Nat} {o : OB} (hf : f < 4) (ho : l[j]? = some o) : (obCells l ++ sp)[j * 4 + f]? = o.cells[f]? := by
 have hj := (List.getElem?_eq_some_iff.1 ho).1
 rw [List.getElem?_append_left (by rw [obCells_length]; omega), obCells_get hf l j o ho]
theorem last_get {l : List OB} (o : OB) : (l ++ [o])[l.length]? = some o := by simp
theorem len_dec {n : Nat} (h : n < 1048576) : IntKind.i64.wrap (((n + 1 : Nat) : Int) - 1) = (n : Int) := by
 rw [i64_in _ (by omega)]; omega

theorem blocks_ok {b : Nat} {p : PS} {l : List OB} {o : OB} {M : List Chunk} (h : Sat σ w (p.at b :: M ++ L)) (hs : Stk p (l ++ [o]) M)
 (hR : ∀ w, Sat σ w (p.at b :: M ++ L) → R (.returned (.slice o.q o.n o.c)) w) : callE P i_parseState_blocks #[.pointer (some ⟨b, 0, none⟩)] R w := by
 obtain ⟨sb, sp, hq, rfl, hsp⟩ := hs.split (by simp)
 have hn := hs.2.1
 have hlt := hs.2.2
 rw [List.length_append, List.length_singleton] at hn hlt
 refine g_parseState_blocks.sound ?_
 repeat (first | refine nilP_some ?_ | refine h.tk fun w h => ?_ | refine ⟨_, h.ldA, ?_⟩ | refine ⟨_, _, _, h.ldA, ?_⟩)
 rw [hn, len_dec (by omega)]
 refine ⟨by omega, by omega, ?_⟩
 rw [hq]
 refine nilP_some ?_
 simp only [Addr.add_lit, Nat.zero_add, Int.toNat_natCast]
 exact ⟨_, _, _, Sat.ld h (by first | assumption | (repeat (first | exact .head _ | apply List.Mem.tail))) (stk_get (f := 1) (by decide) (last_get o)), hR _ h⟩

theorem trimStack_noop {b : Nat} {p : PS} {d : Int} (h : Sat σ w (p.at b :: L)) (hd : (p.stn : Int) = d) (hR : ∀ w, Sat σ w (p.at b :: L) → R (.returned (.tuple #[])) w) :
 callE P i_parseState_trimStack #[.pointer (some ⟨b, 0, none⟩), .int .i64 d] R w := by
 refine g_parseState_trimStack.sound ?_
 repeat (first | refine nilP_some ?_ | refine h.tk fun w h => ?_ | refine ⟨_, h.ldA, ?_⟩ | refine ⟨_, _, _, h.ldA, ?_⟩)
 refine br_false (by simp; omega) ?_
 intro X hX
 refine hX _ _ _ ?_
 repeat (first | refine nilP_some ?_ | refine h.tk fun w h => ?_ | refine ⟨_, h.ldA, ?_⟩ | refine ⟨_, _, _, h.ldA, ?_⟩)
 exact br_false (by simp; omega) (hR _ h)

noncomputable def rowOB : Row P ty_S_openBlock ty_openBlock 4 56 :=
 ⟨(P.info? ty_openBlock).getD default, ((P.info? ty_openBlock).bind (·.zero)).getD default, by kernel_rfl, by kernel_rfl, by kernel_rfl, by kernel_rfl, by kernel_rfl, by kernel_rfl, by decide⟩

theorem obCells_snoc (l : List OB) (o : OB) : obCells (l ++ [o]) = obCells l ++ o.cells := by simp [obCells]
theorem stk_set {l : List OB} {sp : List Value} {o o' : OB} {f : Nat} {v : Value} (hf : f < 4) (ho : o.cells.set f v = o'.cells) :
 (obCells (l ++ [o]) ++ sp).set (l.length * 4 + f) v = obCells (l ++ [o']) ++ sp := by
 rw [obCells_snoc, obCells_snoc, List.append_assoc, List.append_assoc, List.set_append_right _ _ (by rw [obCells_length]; omega), obCells_length,
  show l.length * 4 + f - l.length * 4 = f by omega, List.set_append_left _ _ (by simp [OB.cells]; omega), ho]

theorem ta_yes {t xt : TypeId} {v : Value} (hu : ∀ ms, P.underlying t ≠ some (.interface ms)) {d : TypeDesc} (hd : P.underlying t = some d) (w : World) :
 (Instr.typeAssert (.iface t v) xt t true).run P w = .ok (.tuple #[v, .bool true]) w := by
 cases d <;> first | (exact absurd hd (hu _)) | simp [Instr.typeAssert, run_underlying hd]
theorem ta_no {t a xt : TypeId} {v : Value} (hu : ∀ ms, P.underlying a ≠ some (.interface ms)) {d : TypeDesc} (hd : P.underlying a = some d) (hne : t ≠ a) {i : TypeInfo} {z : Value}
 (hi : P.info? a = some i) (hz : i.zero = some z) (w : World) :
 (Instr.typeAssert (.iface t v) xt a true).run P w = .ok (.tuple #[z, .bool false]) w := by
 cases d <;> first | (exact absurd hd (hu _)) | simp [Instr.typeAssert, run_underlying hd, hne, zeroValue, typeInfo, hi, hz]
end Go.Proofs.YtgbgadkldalkbaaGreatDoor


set_option linter.unusedVariables false
namespace Go.Proofs.YtgbgadkldalkbaaGreatDoor
open Go.Proofs Go.IntWalk
variable {σ : Out} {w : World} {L L' : List Chunk} {R : Ending → World → Prop}

theorem addBlock_ok {b : Nat} {p : PS} {l : List OB} {M : List Chunk} {t : TypeId} {v : Value} (h : Sat σ w (p.at b :: M ++ L)) (hs : Stk p l M) (hd : p.depth + 1 = l.length)
 (hl : l.length < 1048575)
 (hR : ∀ w p' M', p' = { p with stq := p'.stq, stn := l.length + 1, stc := p'.stc } → Stk p' (l ++ [⟨.iface t v, none, 0, 0, p.lineno, p.lineno⟩]) M' → Sat σ w (p'.at b :: M' ++ L) → R (.returned (.tuple #[])) w) :
 callE P i_parseState_addBlock #[.pointer (some ⟨b, 0, none⟩), .iface t v] R w := by
 have hn := hs.2.1
 refine g_parseState_addBlock.sound ?_
 repeat (first | refine nilP_some ?_ | refine h.tk fun w h => ?_ | refine ⟨_, h.ldA, ?_⟩ | refine ⟨_, _, _, h.ldA, ?_⟩)
 rw [show IntKind.i64.wrap (p.depth + 1) = p.depth + 1 by rw [hd]; exact i64_in _ (by omega)]
 refine trimStack_noop h (by rw [hd, hn]) fun w h => ⟨rfl, ?_⟩
 repeat (first | refine nilP_some ?_ | refine h.tk fun w h => ?_ | refine ⟨_, h.ldA, ?_⟩ | refine ⟨_, _, _, h.ldA, ?_⟩)
 have h : Sat σ w (M ++ (p.at b :: L)) := h.re
 refine Sat.app1 rowOB hs.1 h (v := .agg #[.nilIface, .slice none 0 0, .int .i64 0, .int .i64 0]) rfl (by decide) (by kernel_rfl) (by omega) (by omega) (by decide) fun q' c' w M' hs' h => ?_
 have h : Sat σ w (p.at b :: M' ++ L) := h.re
 let p' : PS := { p with stq := q', stn := l.length + 1, stc := c' }
 rw [hn] at hs' ⊢
 (first | refine nilP_some ?_ | refine h.tk fun w h => ?_ | refine ⟨_, h.ldA, ?_⟩ | refine ⟨_, _, _, h.ldA, ?_⟩ | refine h.stA 0 fun w h => ?_ | refine h.stA 1 fun w h => ?_ | refine h.stA 2 fun w h => ?_ | refine h.stA 3 fun w h => ?_ | refine h.stA 4 fun w h => ?_ | refine h.stA 5 fun w h => ?_ | refine h.stA 6 fun w h => ?_ | refine h.bx fun b0 w h => ?_)
 (first | refine nilP_some ?_ | refine h.tk fun w h => ?_ | refine ⟨_, h.ldA, ?_⟩ | refine ⟨_, _, _, h.ldA, ?_⟩ | refine h.stA 0 fun w h => ?_ | refine h.stA 1 fun w h => ?_ | refine h.stA 2 fun w h => ?_ | refine h.stA 3 fun w h => ?_ | refine h.stA 4 fun w h => ?_ | refine h.stA 5 fun w h => ?_ | refine h.stA 6 fun w h => ?_ | refine h.bx fun b0 w h => ?_)
 have h : Sat σ w (p'.at b :: M' ++ L) := h
 have hs2 : Stk p' (l ++ [⟨.nilIface, none, 0, 0, 0, 0⟩]) M' := by
  refine ⟨?_, by simp [p'], by simp; omega⟩
  rw [obCells_snoc]
  exact hs'
 obtain ⟨sb, sp, hq, rfl, hsp⟩ := hs2.split (by simp)
 repeat (first | refine nilP_some ?_ | refine h.tk fun w h => ?_ | refine ⟨_, h.ldA, ?_⟩ | refine ⟨_, _, _, h.ldA, ?_⟩)
 rw [show p'.stn = l.length + 1 from rfl, len_dec (by omega)]
 refine ⟨by omega, by omega, ?_⟩
 rw [hq]
 refine nilP_some ?_
 dsimp only [cellV]
 simp only [Addr.add_lit, Nat.zero_add, Int.toNat_natCast, Nat.add_zero]
 have hlen : ∀ (o : OB) (sp : List Value) f, f < 4 → l.length * 4 + f < (obCells (l ++ [o]) ++ sp).length := by
  intro o sp f hf
  rw [List.length_append, obCells_length, List.length_append, List.length_singleton]; omega
 refine Sat.st h (k := 1) rfl (by have := hlen ⟨.nilIface, none, 0, 0, 0, 0⟩ sp 0 (by decide); simpa using this) trivial rfl fun w h => ?_
 have h : Sat σ w (p'.at b :: [(sb, cel (obCells (l ++ [⟨.iface t v, none, 0, 0, 0, 0⟩]) ++ sp) ty_openBlock)] ++ L) := by
  have e := stk_set (l := l) (sp := sp) (o := ⟨.nilIface, none, 0, 0, 0, 0⟩) (o' := ⟨.iface t v, none, 0, 0, 0, 0⟩) (f := 0) (v := .iface t v) (by decide) rfl
  rw [Nat.add_zero] at e
  rw [e] at h
  exact h
 repeat (first | refine nilP_some ?_ | refine h.tk fun w h => ?_ | refine ⟨_, h.ldA, ?_⟩ | refine ⟨_, _, _, h.ldA, ?_⟩)
 refine Sat.st h (k := 1) rfl (hlen _ sp 2 (by decide)) trivial rfl fun w h => ?_
 have h : Sat σ w (p'.at b :: [(sb, cel (obCells (l ++ [⟨.iface t v, none, 0, 0, p.lineno, 0⟩]) ++ sp) ty_openBlock)] ++ L) := by
  have e := stk_set (l := l) (sp := sp) (o := ⟨.iface t v, none, 0, 0, 0, 0⟩) (o' := ⟨.iface t v, none, 0, 0, p.lineno, 0⟩) (f := 2) (v := .int .i64 p.lineno) (by decide) rfl
  have h := h
  rw [e] at h
  exact h
 repeat (first | refine nilP_some ?_ | refine h.tk fun w h => ?_ | refine ⟨_, h.ldA, ?_⟩ | refine ⟨_, _, _, h.ldA, ?_⟩)
 refine Sat.st h (k := 1) rfl (hlen _ sp 3 (by decide)) trivial rfl fun w h => ?_
 have h : Sat σ w (p'.at b :: [(sb, cel (obCells (l ++ [⟨.iface t v, none, 0, 0, p.lineno, p.lineno⟩]) ++ sp) ty_openBlock)] ++ L) := by
  have e := stk_set (l := l) (sp := sp) (o := ⟨.iface t v, none, 0, 0, p.lineno, 0⟩) (o' := ⟨.iface t v, none, 0, 0, p.lineno, p.lineno⟩) (f := 3) (v := .int .i64 p.lineno) (by decide) rfl
  have h := h
  rw [e] at h
  exact h
 refine hR _ p' _ rfl ?_ h
 refine Stk.mk' hq ?_ (by simp [p']) (by simp; omega)
 rw [← hsp, List.length_append, List.length_append, obCells_length, obCells_length, List.length_append, List.length_append]
 rfl
end Go.Proofs.YtgbgadkldalkbaaGreatDoor


set_option linter.unusedVariables false
namespace Go.Proofs.YtgbgadkldalkbaaGreatDoor
open Go.Proofs Go.IntWalk
variable {σ : Out} {w : World} {L L' : List Chunk} {R : Ending → World → Prop}

theorem Ln.tsGo_ok {min : Nat} {eol : Bool} : ∀ (k n : Nat) {l l' : Ln}, l.ok → l.tsGo min eol k n = some l' → l'.ok ∧ l'.text = l.text ∧ l'.nl = l.nl
 | 0, n, l, l', hl, h => by simp only [Ln.tsGo, Option.some.injEq] at h; subst h; exact ⟨hl, rfl, rfl⟩
 | k + 1, n, l, l', hl, h => by
  have h1 := hl.i; have h2 := hl.tab; have h3 := hl.sp
  simp only [Ln.tsGo] at h
  split at h
  ·exact tsGo_ok k _ (l := { l with sp := l.sp - 1 }) ⟨h1, h2, hl.len, by simp; omega⟩ h
  ·split at h
   ·exact tsGo_ok k _ hl h
   ·split at h
    ·rename_i hg
     have := (List.getElem?_eq_some_iff.1 hg).1
     exact tsGo_ok k _ (l := { l with sp := 3 - (l.i - l.tab) % 4, i := l.i + 1, tab := l.i + 1 }) ⟨by simp; omega, by simp, hl.len, by simp⟩ h
    ·split at h
     ·rename_i hg
      have := (List.getElem?_eq_some_iff.1 hg).1
      exact tsGo_ok k _ (l := { l with i := l.i + 1 }) ⟨by simp; omega, by simp; omega, hl.len, h3⟩ h
     ·split at h
      ·cases h; exact ⟨hl, rfl, rfl⟩
      ·cases h
theorem Ln.tsGo_some {eol : Bool} : ∀ (k n : Nat) (l : Ln), ∃ l', l.tsGo 0 eol k n = some l'
 | 0, n, l => ⟨l, rfl⟩
 | k + 1, n, l => by
  simp only [Ln.tsGo]
  split
  ·exact tsGo_some k _ _
  ·split
   ·exact tsGo_some k _ _
   ·split
    ·exact tsGo_some k _ _
    ·split
     ·exact tsGo_some k _ _
     ·exact ⟨l, by simp⟩
theorem Ln.trimSp_ok {min max : Nat} {eol : Bool} {l l' : Ln} (hl : l.ok) (h : l.trimSp min max eol = some l') : l'.ok := (Ln.tsGo_ok max 0 hl h).1
def Ln.lead (m : Nat) (eol : Bool) (l : Ln) : Ln := (l.trimSp 0 m eol).getD l
theorem Ln.lead_eq (m : Nat) (eol : Bool) (l : Ln) : l.trimSp 0 m eol = some (l.lead m eol) := by
 obtain ⟨l', h⟩ := Ln.tsGo_some (eol := eol) m 0 l
 rw [Ln.lead, Ln.trimSp, h]; rfl
theorem Ln.lead_ok {m : Nat} {eol : Bool} {l : Ln} (hl : l.ok) : (l.lead m eol).ok := Ln.trimSp_ok hl (l.lead_eq m eol)
theorem lead_ok {b : Nat} {l : Ln} {max : Nat} {eol : Bool} (h : Sat σ w (l.at b :: L)) (hl : l.ok) (h2 : max < 4611686018427387904)
 (hR : ∀ w, Sat σ w ((l.lead max eol).at b :: L) → R (.returned (.bool true)) w) :
 callE P i_line_trimSpace #[.pointer (some ⟨b, 0, none⟩), .int .i64 0, .int .i64 max, .bool eol] R w := by
 refine YtgbgadkldalkbaaGreatDoor.trimSp_ok (min := 0) h hl (by omega) h2 ?_
 rw [Ln.lead_eq]
 exact hR

abbrev Ln.val (l : Ln) : Value := .agg #[.int .i64 l.sp, .int .i64 l.i, .int .i64 l.tab, .string (bs l.text), .int .u8 l.nl.toNat]

def Ln.quote (l : Ln) : Option Ln := ((l.lead 3 false).trimC 62).map fun t => t.lead 1 true
theorem trimQuote_ok {l : Ln} (h : Sat σ w L) (hl : l.ok)
 (hR : match l.quote with
  | some l' => ∀ w, Sat σ w L → R (.returned (.tuple #[l'.val, .bool true])) w
  | none => ∀ w, Sat σ w L → R (.returned (.tuple #[l.val, .bool false])) w) : callE P i_trimQuote #[l.val] R w := by
 refine g_trimQuote.sound ?_
 refine Sat.bx h fun b1 w h => ?_
 refine Sat.bx h fun b3 w h => ?_
 repeat (first | refine nilP_some ?_ | refine h.tk fun w h => ?_ | refine ⟨_, h.ldA, ?_⟩ | refine ⟨_, _, _, h.ldA, ?_⟩ | refine h.stA 0 fun w h => ?_ | refine h.stA 1 fun w h => ?_ | refine h.stA 2 fun w h => ?_ | refine h.stA 3 fun w h => ?_ | refine h.stA 4 fun w h => ?_ | refine h.stA 5 fun w h => ?_ | refine h.stA 6 fun w h => ?_ | refine h.bx fun b0 w h => ?_)
 have h : Sat σ _ (l.at b0 :: (b3, cel [.int .i64 0, .int .i64 0, .int .i64 0, .string (bs []), .int .u8 0] ty_line) :: l.at b1 :: L) := h
 refine lead_ok (max := 3) h hl (by decide) fun w h => ⟨_, rfl, ?_⟩
 refine trimC_ok (c := 62) rfl h (Ln.lead_ok hl) ?_
 simp only [Ln.quote] at hR
 cases hq : (l.lead 3 false).trimC 62 with
 | none =>
  rw [hq] at hR
  intro w h
  refine ⟨_, rfl, br_true rfl ?_⟩
  repeat (first | refine nilP_some ?_ | refine h.tk fun w h => ?_ | refine ⟨_, h.ldA, ?_⟩ | refine ⟨_, _, _, h.ldA, ?_⟩ | refine h.stA 0 fun w h => ?_ | refine h.stA 1 fun w h => ?_ | refine h.stA 2 fun w h => ?_ | refine h.stA 3 fun w h => ?_ | refine h.stA 4 fun w h => ?_ | refine h.stA 5 fun w h => ?_ | refine h.stA 6 fun w h => ?_ | refine h.bx fun b0 w h => ?_)
  exact hR _ h.tail.tail.tail
 | some t =>
  rw [hq] at hR
  intro w h
  refine ⟨_, rfl, br_false rfl ?_⟩
  refine lead_ok (max := 1) h (Ln.trimC_ok (Ln.lead_ok hl) hq) (by decide) fun w h => ⟨_, rfl, ?_⟩
  repeat (first | refine nilP_some ?_ | refine h.tk fun w h => ?_ | refine ⟨_, h.ldA, ?_⟩ | refine ⟨_, _, _, h.ldA, ?_⟩ | refine h.stA 0 fun w h => ?_ | refine h.stA 1 fun w h => ?_ | refine h.stA 2 fun w h => ?_ | refine h.stA 3 fun w h => ?_ | refine h.stA 4 fun w h => ?_ | refine h.stA 5 fun w h => ?_ | refine h.stA 6 fun w h => ?_ | refine h.bx fun b0 w h => ?_)
  exact hR _ h.tail.tail.tail
end Go.Proofs.YtgbgadkldalkbaaGreatDoor


set_option linter.unusedVariables false
namespace Go.Proofs.YtgbgadkldalkbaaGreatDoor
open Go.Proofs Go.IntWalk
variable {σ : Out} {w : World} {L L' : List Chunk} {R : Ending → World → Prop}

theorem u8b (c d : UInt8) (n : Int) (hd : (d.toNat : Int) = n) : (((c.toNat : Nat) : Int) == n) = (c == d) := by subst hd; exact u8_beq c d

def Ln.hrGo (c : UInt8) : Nat → Nat → Ln → Bool
 | 0, _, _ => false
 | f + 1, n, l => match l.trimC c with
  | none => decide (3 ≤ n) && decide (l.text.length ≤ l.i)
  | some l' => l'.skip.hrGo c f (n + 1)
def Ln.isHR (l : Ln) : Bool :=
 let t := l.lead 3 false
 if t.peek = 45 ∨ t.peek = 95 ∨ t.peek = 42 then t.hrGo t.peek (t.text.length + 1) 0 else false
theorem Ln.skip_ge {l : Ln} (hl : l.ok) : l.i ≤ l.skip.i := by
 have h1 := hl.i
 have h3 := (List.dropWhile_sublist isST (l := l.text.drop l.i)).length_le
 rw [List.length_drop] at h3
 simp only [Ln.skip]; omega
theorem isHR_ok {l : Ln} (h : Sat σ w L) (hl : l.ok) (hR : ∀ w, Sat σ w L → R (.returned (.bool l.isHR)) w) : callE P i_isHR #[l.val] R w := by
 refine g_isHR.sound ?_
 refine Sat.bx h fun b1 w h => ?_
 repeat (first | refine nilP_some ?_ | refine h.tk fun w h => ?_ | refine ⟨_, h.ldA, ?_⟩ | refine ⟨_, _, _, h.ldA, ?_⟩ | refine h.stA 0 fun w h => ?_ | refine h.stA 1 fun w h => ?_ | refine h.stA 2 fun w h => ?_ | refine h.stA 3 fun w h => ?_ | refine h.stA 4 fun w h => ?_ | refine h.stA 5 fun w h => ?_ | refine h.stA 6 fun w h => ?_ | refine h.bx fun b0 w h => ?_)
 have h : Sat σ _ (l.at b0 :: l.at b1 :: L) := h
 refine lead_ok (max := 3) h hl (by decide) fun w h => ⟨_, rfl, ?_⟩
 have ht := Ln.lead_ok (m := 3) (eol := false) hl
 refine peek_ok h (by first | assumption | (repeat (first | exact .head _ | apply List.Mem.tail))) ht fun w h => ⟨_, rfl, ?_⟩
 generalize hg : l.lead 3 false = t at *
 have hi : l.isHR = if t.peek = 45 ∨ t.peek = 95 ∨ t.peek = 42 then t.hrGo t.peek (t.text.length + 1) 0 else false := by simp only [Ln.isHR, hg]
 have loop : ∀ (c : UInt8), c ≠ 32 → ∀ f n (t : Ln) w, t.ok → t.text.length - t.i < f → n ≤ t.i → Sat σ w (t.at b0 :: l.at b1 :: L) → (∀ w, Sat σ w L → R (.returned (.bool (t.hrGo c f n))) w) →
  g_isHR.l1 R b0 c.toNat n w := by
  intro c hc f n t w ht hf hn h hR X hX
  induction f generalizing n t w with
  | zero => omega
  | succ f ih =>
   refine hX _ _ _ _ ?_
   refine trimC_ok (c := c) rfl h ht ?_
   simp only [Ln.hrGo] at hR
   have h1 := ht.i; have h4 := ht.len
   cases hq : t.trimC c with
   | none =>
    rw [hq] at hR
    intro w h
    refine ⟨_, rfl, br_true rfl ?_⟩
    refine br_split (fun h3 => ?_) (fun h3 => ?_)
    ·refine eof_ok h (by first | assumption | (repeat (first | exact .head _ | apply List.Mem.tail))) fun w h => ⟨_, rfl, ?_⟩
     have := hR _ h.tail.tail
     rw [show decide (3 ≤ n) = true by simp at h3 ⊢; omega, Bool.true_and] at this
     exact this
    ·have := hR _ h.tail.tail
     rw [show decide (3 ≤ n) = false by simp at h3 ⊢; omega, Bool.false_and] at this
     exact this
   | some t' =>
    rw [hq] at hR
    intro w h
    refine ⟨_, rfl, br_false rfl ?_⟩
    have ht' := Ln.trimC_ok ht hq
    refine skipSpace_ok h ht' fun w h => ⟨rfl, ?_⟩
    have hd : t'.i = t.i + 1 ∧ t'.text = t.text := by
     simp only [Ln.trimC, hc, if_false] at hq
     split at hq
     ·cases hq
     ·split at hq
      ·cases hq; exact ⟨rfl, rfl⟩
      ·cases hq
    have hge := Ln.skip_ge ht'
    have htl : t'.skip.text = t.text := hd.2
    rw [i64_inc (by omega)]
    have hge2 := ht'.i
    rw [hd.2] at hge2
    exact ih (n + 1) t'.skip _ (Ln.skip_ok ht') (by rw [htl]; omega) (by omega) h hR
 have fin : (t.peek = 45 ∨ t.peek = 95 ∨ t.peek = 42) → Sat σ w (t.at b0 :: l.at b1 :: L) → g_isHR.k1 R b0 t.peek.toNat true w := by
  intro hp h
  rw [if_pos hp] at hi
  refine br_true rfl ?_
  refine loop t.peek (by rcases hp with hp | hp | hp <;> rw [hp] <;> decide) (t.text.length + 1) 0 t w ht (by omega) (by omega) h (by rw [← hi]; exact hR)
 rw [u8b _ 45 45 rfl, u8b _ 95 95 rfl, u8b _ 42 42 rfl]
 refine br_split (fun hp => fin (.inl (by simpa using hp)) h) (fun h45 => br_split (fun hp => fin (.inr (.inl (by simpa using hp))) h) (fun h95 => ?_))
 by_cases hp : t.peek = 42
 ·rw [show (t.peek == 42) = true by simpa using hp]
  exact fin (.inr (.inr hp)) h
 ·rw [show (t.peek == 42) = false by simpa using hp]
  have := hR _ h.tail.tail
  rw [hi, if_neg (by simp at h45 h95; simp [h45, h95, hp])] at this
  exact br_false rfl this
end Go.Proofs.YtgbgadkldalkbaaGreatDoor


set_option linter.unusedVariables false
namespace Go.Proofs.YtgbgadkldalkbaaGreatDoor
open Go.Proofs Go.IntWalk
variable {σ : Out} {w : World} {L L' : List Chunk} {R : Ending → World → Prop}

theorem newQuote_no {x : Value} {q : Option Addr} {l : Ln} (h : Sat σ w L) (hl : l.ok) (hq : l.quote = none)
 (hR : ∀ w, Sat σ w L → R (.returned (.tuple #[l.val, .bool false])) w) : callE P i_newQuote #[.pointer q, l.val] R w := by
 refine g_newQuote.sound ?_
 refine Sat.bx h fun b1 w h => ?_
 refine Sat.bx h fun b3 w h => ?_
 repeat (first | refine nilP_some ?_ | refine h.tk fun w h => ?_ | refine ⟨_, h.ldA, ?_⟩ | refine ⟨_, _, _, h.ldA, ?_⟩)
 refine trimQuote_ok (l := l) h hl ?_
 rw [hq]
 intro w h
 refine ⟨_, _, _, _, _, _, rfl, ?_⟩
 refine Sat.bx h fun b4 w h => ?_
 repeat (first | refine nilP_some ?_ | refine h.tk fun w h => ?_ | refine ⟨_, h.ldA, ?_⟩ | refine ⟨_, _, _, h.ldA, ?_⟩ | refine h.stA 0 fun w h => ?_ | refine h.stA 1 fun w h => ?_ | refine h.stA 2 fun w h => ?_ | refine h.stA 3 fun w h => ?_ | refine h.stA 4 fun w h => ?_ | refine h.stA 5 fun w h => ?_ | refine h.stA 6 fun w h => ?_ | refine h.bx fun b0 w h => ?_)
 exact hR _ h.tail.tail.tail
theorem newHR_no {q : Option Addr} {l : Ln} (h : Sat σ w L) (hl : l.ok) (hq : l.isHR = false)
 (hR : ∀ w, Sat σ w L → R (.returned (.tuple #[l.val, .bool false])) w) : callE P i_newHR #[.pointer q, l.val] R w := by
 refine g_newHR.sound ?_
 refine Sat.bx h fun b1 w h => ?_
 refine Sat.bx h fun b3 w h => ?_
 repeat (first | refine nilP_some ?_ | refine h.tk fun w h => ?_ | refine ⟨_, h.ldA, ?_⟩ | refine ⟨_, _, _, h.ldA, ?_⟩)
 refine isHR_ok (l := l) h hl fun w h => ⟨_, rfl, ?_⟩
 rw [hq]
 repeat (first | refine nilP_some ?_ | refine h.tk fun w h => ?_ | refine ⟨_, h.ldA, ?_⟩ | refine ⟨_, _, _, h.ldA, ?_⟩ | refine h.stA 0 fun w h => ?_ | refine h.stA 1 fun w h => ?_ | refine h.stA 2 fun w h => ?_ | refine h.stA 3 fun w h => ?_ | refine h.stA 4 fun w h => ?_ | refine h.stA 5 fun w h => ?_ | refine h.stA 6 fun w h => ?_ | refine h.bx fun b0 w h => ?_)
 exact hR _ h.tail.tail

def Ln.hashes : Nat → Nat → Ln → Nat × Ln
 | 0, n, l => (n, l)
 | k + 1, n, l => match l.trimC 35 with
  | none => (n, l)
  | some l' => l'.hashes k (n + 1)
def Ln.heading (l : Ln) : Option (Nat × Ln) :=
 match (l.lead 3 false).trimC 35 with
 | none => none
 | some t => ((t.hashes 5 1).2.trimSp 1 1 true).map fun t' => ((t.hashes 5 1).1, t')
theorem trimHeading_ok {b nb : Nat} {l : Ln} {v : Int} {e : TypeId} (h : Sat σ w (l.at b :: (nb, cel [.int .i64 v] e) :: L)) (hl : l.ok)
 (hR : match l.heading with
  | some (n, l') => ∀ w, Sat σ w (l'.at b :: (nb, cel [.int .i64 n] e) :: L) → R (.returned (.bool true)) w
  | none => ∀ w, Sat σ w (l.at b :: (nb, cel [.int .i64 v] e) :: L) → R (.returned (.bool false)) w) :
 callE P i_line_trimHeading #[.pointer (some ⟨b, 0, none⟩), .pointer (some ⟨nb, 0, none⟩)] R w := by
 refine g_line_trimHeading.sound ?_
 repeat (first | refine nilP_some ?_ | refine h.tk fun w h => ?_ | refine ⟨_, h.ldA, ?_⟩ | refine ⟨_, _, _, h.ldA, ?_⟩ | refine h.stA 0 fun w h => ?_ | refine h.stA 1 fun w h => ?_ | refine h.stA 2 fun w h => ?_ | refine h.stA 3 fun w h => ?_ | refine h.stA 4 fun w h => ?_ | refine h.stA 5 fun w h => ?_ | refine h.stA 6 fun w h => ?_ | refine h.bx fun b0 w h => ?_)
 have h : Sat σ _ (l.at b0 :: l.at b :: (nb, cel [.int .i64 v] e) :: L) := h
 refine lead_ok (max := 3) h hl (by decide) fun w h => ⟨_, rfl, ?_⟩
 have ht := Ln.lead_ok (m := 3) (eol := false) hl
 refine trimC_ok (c := 35) rfl h ht ?_
 simp only [Ln.heading] at hR
 cases hq : (l.lead 3 false).trimC 35 with
 | none =>
  rw [hq] at hR
  exact fun w h => ⟨_, rfl, br_true rfl (hR _ h.tail)⟩
 | some t =>
  rw [hq] at hR
  intro w h
  refine ⟨_, rfl, br_false rfl ?_⟩
  have ht := Ln.trimC_ok ht hq
  have fin : ∀ (n : Nat) (t' : Ln) w, t'.ok → Sat σ w (t'.at b0 :: l.at b :: (nb, cel [.int .i64 v] e) :: L) →
   (match (t'.trimSp 1 1 true).map fun t' => (n, t') with
   | some (n, l') => ∀ w, Sat σ w (l'.at b :: (nb, cel [.int .i64 n] e) :: L) → R (.returned (.bool true)) w
   | none => ∀ w, Sat σ w (l.at b :: (nb, cel [.int .i64 v] e) :: L) → R (.returned (.bool false)) w) →
   g_line_trimHeading.k1 R (some ⟨b, 0, none⟩) (some ⟨nb, 0, none⟩) b0 n w := by
   intro n t' w ht' h hR
   refine YtgbgadkldalkbaaGreatDoor.trimSp_ok (min := 1) (max := 1) h ht' (by decide) (by decide) ?_
   cases hs : t'.trimSp 1 1 true with
   | none =>
    rw [hs] at hR
    exact fun w h => ⟨_, rfl, br_true rfl (hR _ h.tail)⟩
   | some t2 =>
    rw [hs] at hR
    intro w h
    refine ⟨_, rfl, br_false rfl ?_⟩
    repeat (first | refine nilP_some ?_ | refine h.tk fun w h => ?_ | refine ⟨_, h.ldA, ?_⟩ | refine ⟨_, _, _, h.ldA, ?_⟩ | refine h.stA 0 fun w h => ?_ | refine h.stA 1 fun w h => ?_ | refine h.stA 2 fun w h => ?_ | refine h.stA 3 fun w h => ?_ | refine h.stA 4 fun w h => ?_ | refine h.stA 5 fun w h => ?_ | refine h.stA 6 fun w h => ?_ | refine h.bx fun b0 w h => ?_)
    have h : Sat σ _ (t2.at b0 :: t2.at b :: (nb, cel [.int .i64 n] e) :: L) := h
    exact hR _ h.tail
  have loop : ∀ k n (t : Ln) w, t.ok → k + n = 6 → Sat σ w (t.at b0 :: l.at b :: (nb, cel [.int .i64 v] e) :: L) →
   (match ((t.hashes k n).2.trimSp 1 1 true).map fun t' => ((t.hashes k n).1, t') with
   | some (n, l') => ∀ w, Sat σ w (l'.at b :: (nb, cel [.int .i64 n] e) :: L) → R (.returned (.bool true)) w
   | none => ∀ w, Sat σ w (l.at b :: (nb, cel [.int .i64 v] e) :: L) → R (.returned (.bool false)) w) →
   g_line_trimHeading.l1 R (some ⟨b, 0, none⟩) (some ⟨nb, 0, none⟩) b0 n w := by
   intro k n t w ht hk h hR X hX
   induction k generalizing n t w with
   | zero => exact hX _ _ _ _ _ (br_false (by simp; omega) (fin n t w ht h hR))
   | succ k ih =>
    refine hX _ _ _ _ _ (br_true (by simp; omega) ?_)
    refine trimC_ok (c := 35) rfl h ht ?_
    simp only [Ln.hashes] at hR
    cases hq : t.trimC 35 with
    | none =>
     rw [hq] at hR
     exact fun w h => ⟨_, rfl, br_false rfl (fin n t w ht h hR)⟩
    | some t' =>
     rw [hq] at hR
     intro w h
     refine ⟨_, rfl, br_true rfl ?_⟩
     rw [i64_inc (by omega)]
     exact ih (n + 1) t' w (Ln.trimC_ok ht hq) (by omega) h hR
  exact loop 5 1 t w ht rfl h hR
theorem newATX_no {q : Option Addr} {l : Ln} (h : Sat σ w L) (hl : l.ok) (hq : l.heading = none)
 (hR : ∀ w, Sat σ w L → R (.returned (.tuple #[l.val, .bool false])) w) : callE P i_newATXHeading #[.pointer q, l.val] R w := by
 refine g_newATXHeading.sound ?_
 refine Sat.bx h fun b1 w h => ?_
 refine Sat.bx h fun b3 w h => ?_
 repeat (first | refine nilP_some ?_ | refine h.tk fun w h => ?_ | refine ⟨_, h.ldA, ?_⟩ | refine ⟨_, _, _, h.ldA, ?_⟩)
 refine Sat.bx h fun b4 w h => ?_
 repeat (first | refine nilP_some ?_ | refine h.tk fun w h => ?_ | refine ⟨_, h.ldA, ?_⟩ | refine ⟨_, _, _, h.ldA, ?_⟩ | refine h.stA 0 fun w h => ?_ | refine h.stA 1 fun w h => ?_ | refine h.stA 2 fun w h => ?_ | refine h.stA 3 fun w h => ?_ | refine h.stA 4 fun w h => ?_ | refine h.stA 5 fun w h => ?_ | refine h.stA 6 fun w h => ?_ | refine h.bx fun b0 w h => ?_)
 have h : Sat σ _ ((b0, cel [.int .i64 0] ty_int) :: l.at b4 :: (b3, cel [.int .i64 0, .int .i64 0, .int .i64 0, .string (bs []), .int .u8 0] ty_line) :: l.at b1 :: L) := h
 refine trimHeading_ok h.up1 hl ?_
 rw [hq]
 intro w h
 refine ⟨_, rfl, br_false rfl ?_⟩
 repeat (first | refine nilP_some ?_ | refine h.tk fun w h => ?_ | refine ⟨_, h.ldA, ?_⟩ | refine ⟨_, _, _, h.ldA, ?_⟩ | refine h.stA 0 fun w h => ?_ | refine h.stA 1 fun w h => ?_ | refine h.stA 2 fun w h => ?_ | refine h.stA 3 fun w h => ?_ | refine h.stA 4 fun w h => ?_ | refine h.stA 5 fun w h => ?_ | refine h.stA 6 fun w h => ?_ | refine h.bx fun b0 w h => ?_)
 exact hR _ h.tail.tail.tail.tail
end Go.Proofs.YtgbgadkldalkbaaGreatDoor


set_option linter.unusedVariables false
namespace Go.Proofs.YtgbgadkldalkbaaGreatDoor
open Go.Proofs Go.IntWalk
variable {σ : Out} {w : World} {L L' : List Chunk} {R : Ending → World → Prop}

theorem startHTML_no {b : Nat} {q : Option Addr} {l : Ln} (h : Sat σ w (l.at b :: L)) (hl : l.ok) (hp : (l.lead 3 false).peek ≠ 60)
 (hR : ∀ w, Sat σ w (l.at b :: L) → R (.returned (.bool false)) w) : callE P i_parseState_startHTML #[.pointer q, .pointer (some ⟨b, 0, none⟩)] R w := by
 refine g_parseState_startHTML.sound ?_
 repeat (first | refine nilP_some ?_ | refine h.tk fun w h => ?_ | refine ⟨_, h.ldA, ?_⟩ | refine ⟨_, _, _, h.ldA, ?_⟩ | refine h.stA 0 fun w h => ?_ | refine h.stA 1 fun w h => ?_ | refine h.stA 2 fun w h => ?_ | refine h.stA 3 fun w h => ?_ | refine h.stA 4 fun w h => ?_ | refine h.stA 5 fun w h => ?_ | refine h.stA 6 fun w h => ?_ | refine h.bx fun b0 w h => ?_)
 have h : Sat σ _ (l.at b0 :: l.at b :: L) := h
 refine lead_ok (max := 3) h hl (by decide) fun w h => ⟨_, rfl, ?_⟩
 refine peek_ok h (by first | assumption | (repeat (first | exact .head _ | apply List.Mem.tail))) (Ln.lead_ok hl) fun w h => ⟨_, rfl, ?_⟩
 refine br_true ?_ (hR _ h.tail)
 rw [bne, u8b _ 60 60 rfl]
 simpa using hp
theorem newHTML_no {q : Option Addr} {l : Ln} (h : Sat σ w L) (hl : l.ok) (hp : (l.lead 3 false).peek ≠ 60)
 (hR : ∀ w, Sat σ w L → R (.returned (.tuple #[l.val, .bool false])) w) : callE P i_newHTML #[.pointer q, l.val] R w := by
 refine g_newHTML.sound ?_
 refine Sat.bx h fun b1 w h => ?_
 refine Sat.bx h fun b3 w h => ?_
 repeat (first | refine nilP_some ?_ | refine h.tk fun w h => ?_ | refine ⟨_, h.ldA, ?_⟩ | refine ⟨_, _, _, h.ldA, ?_⟩ | refine h.stA 0 fun w h => ?_ | refine h.stA 1 fun w h => ?_ | refine h.stA 2 fun w h => ?_ | refine h.stA 3 fun w h => ?_ | refine h.stA 4 fun w h => ?_ | refine h.stA 5 fun w h => ?_ | refine h.stA 6 fun w h => ?_ | refine h.bx fun b0 w h => ?_)
 have h : Sat σ _ (l.at b0 :: (b3, cel [.int .i64 0, .int .i64 0, .int .i64 0, .string (bs []), .int .u8 0] ty_line) :: l.at b1 :: L) := h
 refine startHTML_no h hl hp fun w h => ⟨_, rfl, br_false rfl ?_⟩
 repeat (first | refine nilP_some ?_ | refine h.tk fun w h => ?_ | refine ⟨_, h.ldA, ?_⟩ | refine ⟨_, _, _, h.ldA, ?_⟩ | refine h.stA 0 fun w h => ?_ | refine h.stA 1 fun w h => ?_ | refine h.stA 2 fun w h => ?_ | refine h.stA 3 fun w h => ?_ | refine h.stA 4 fun w h => ?_ | refine h.stA 5 fun w h => ?_ | refine h.stA 6 fun w h => ?_ | refine h.bx fun b0 w h => ?_)
 exact hR _ h.tail.tail.tail

theorem top_ok {b : Nat} {p : PS} {l : List OB} {o : OB} {M : List Chunk} (h : Sat σ w (p.at b :: M ++ L)) (hs : Stk p (l ++ [o]) M) {t : TypeId} {v : Value} (ho : o.bd = .iface t v)
 (hR : ∀ w, Sat σ w (p.at b :: M ++ L) → R (.returned (if t = ty_P_paraBuilder then v else .pointer none)) w) (hv : t = ty_P_paraBuilder → ∃ q, v = .pointer q) :
 callE P i_parseState_para #[.pointer (some ⟨b, 0, none⟩)] R w := by
 obtain ⟨sb, sp, hq, rfl, hsp⟩ := hs.split (by simp)
 have hn := hs.2.1
 have hlt := hs.2.2
 rw [List.length_append, List.length_singleton] at hn hlt
 refine g_parseState_para.sound ?_
 repeat (first | refine nilP_some ?_ | refine h.tk fun w h => ?_ | refine ⟨_, h.ldA, ?_⟩ | refine ⟨_, _, _, h.ldA, ?_⟩)
 rw [hn, len_dec (by omega)]
 refine ⟨by omega, by omega, ?_⟩
 rw [hq]
 refine nilP_some ?_
 simp only [Addr.add_lit, Nat.zero_add, Int.toNat_natCast]
 refine ⟨o.bd, Sat.ld h (by first | assumption | (repeat (first | exact .head _ | apply List.Mem.tail))) (stk_get (f := 0) (by decide) (last_get o)), ?_⟩
 rw [ho]
 have hund : P.underlying ty_P_paraBuilder = some (.pointer ty_paraBuilder) := by kernel_rfl
 by_cases ht : t = ty_P_paraBuilder
 ·obtain ⟨q, rfl⟩ := hv ht
  subst ht
  have := hR _ h
  rw [if_pos rfl] at this
  exact ⟨q, true, fun w => ta_yes (by rw [hund]; intro ms h; cases h) hund w, br_true rfl this⟩
 ·have := hR _ h
  rw [if_neg ht] at this
  refine ⟨none, false, fun w => ?_, br_false rfl this⟩
  exact ta_no (by rw [hund]; intro ms h; cases h) hund ht (i := (P.info? ty_P_paraBuilder).getD default) (by kernel_rfl) (by kernel_rfl) w
end Go.Proofs.YtgbgadkldalkbaaGreatDoor


set_option linter.unusedVariables false
namespace Go.Proofs.YtgbgadkldalkbaaGreatDoor
open Go.Proofs Go.IntWalk
variable {σ : Out} {w : World} {L L' : List Chunk} {R : Ending → World → Prop}

def Ln.strip : Nat → Nat → Ln → Nat × Ln
 | 0, n, l => (n, l)
 | k + 1, n, l => match l.trimSp 1 1 false with
  | none => (n, l)
  | some l' => l'.strip k (n + 1)
theorem Ln.strip_ok : ∀ (k n : Nat) {l : Ln}, l.ok → (l.strip k n).2.ok ∧ (l.strip k n).1 ≤ n + k
 | 0, n, l, h => ⟨h, Nat.le_refl _⟩
 | k + 1, n, l, h => by
  simp only [Ln.strip]
  split
  ·exact ⟨h, by simp⟩
  ·rename_i l' hq
   have := strip_ok k (n + 1) (Ln.trimSp_ok h hq)
   exact ⟨this.1, by have := this.2; omega⟩
def isBullet (c : UInt8) : Bool := c == 45 || c == 42 || c == 43 || (48 ≤ c && c ≤ 57)
theorem beqf {c d : UInt8} {n : Int} (hd : (d.toNat : Int) = n) (h : c ≠ d) : (((c.toNat : Nat) : Int) == n) = false := by
 rw [u8b _ d n hd]; simpa using h
theorem startListItem_no {b : Nat} {q : Option Addr} {l : Ln} (h : Sat σ w (l.at b :: L)) (hl : l.ok) (hp : isBullet (l.strip 3 0).2.peek = false)
 (hR : ∀ w, Sat σ w (l.at b :: L) → R (.returned (.bool false)) w) : callE P i_parseState_startListItem #[.pointer q, .pointer (some ⟨b, 0, none⟩)] R w := by
 refine g_parseState_startListItem.sound ?_
 refine Sat.bx h fun b1 w h => ?_
 repeat (first | refine nilP_some ?_ | refine h.tk fun w h => ?_ | refine ⟨_, h.ldA, ?_⟩ | refine ⟨_, _, _, h.ldA, ?_⟩ | refine h.stA 0 fun w h => ?_ | refine h.stA 1 fun w h => ?_ | refine h.stA 2 fun w h => ?_ | refine h.stA 3 fun w h => ?_ | refine h.stA 4 fun w h => ?_ | refine h.stA 5 fun w h => ?_ | refine h.stA 6 fun w h => ?_ | refine h.bx fun b0 w h => ?_)
 have h : Sat σ _ (l.at b0 :: (b1, cel [.pointer q] ty_P_parseState) :: l.at b :: L) := h
 have fin : ∀ (n : Nat) (t : Ln) w, t.ok → isBullet t.peek = false → Sat σ w (t.at b0 :: (b1, cel [.pointer q] ty_P_parseState) :: l.at b :: L) → g_parseState_startListItem.k1 R b1 b0 n w := by
  intro n t w ht hp h
  refine peek_ok h (by first | assumption | (repeat (first | exact .head _ | apply List.Mem.tail))) ht fun w h => ⟨_, rfl, ?_⟩
  generalize t.peek = c at *
  simp only [isBullet, Bool.or_eq_false_iff, beq_eq_false_iff_ne, Bool.and_eq_false_iff, decide_eq_false_iff_not] at hp
  obtain ⟨⟨⟨h1, h2⟩, h3⟩, h4⟩ := hp
  have hd : ∀ d : UInt8, 48 ≤ d → d ≤ 57 → c ≠ d := by
   intro d hd1 hd2 hc
   subst hc
   rcases h4 with h4 | h4
   ·exact h4 hd1
   ·exact h4 hd2
  have h43 := beqf (n := 43) rfl h3
  have h57 := beqf (n := 57) rfl (hd 57 (by decide) (by decide))
  refine br_false (beqf (d := 45) rfl h1) (br_false (beqf (d := 42) rfl h2) ?_)
  rw [h43]
  refine br_false rfl ?_
  refine br_false (beqf (d := 48) rfl (hd _ (by decide) (by decide))) ?_
  refine br_false (beqf (d := 49) rfl (hd _ (by decide) (by decide))) ?_
  refine br_false (beqf (d := 50) rfl (hd _ (by decide) (by decide))) ?_
  refine br_false (beqf (d := 51) rfl (hd _ (by decide) (by decide))) ?_
  refine br_false (beqf (d := 52) rfl (hd _ (by decide) (by decide))) ?_
  refine br_false (beqf (d := 53) rfl (hd _ (by decide) (by decide))) ?_
  refine br_false (beqf (d := 54) rfl (hd _ (by decide) (by decide))) ?_
  refine br_false (beqf (d := 55) rfl (hd _ (by decide) (by decide))) ?_
  refine br_false (beqf (d := 56) rfl (hd _ (by decide) (by decide))) ?_
  rw [h57]
  exact br_false rfl (hR _ h.tail.tail)
 intro X hX
 have loop : ∀ k n (t : Ln) w, t.ok → k + n = 3 → isBullet (t.strip k n).2.peek = false → Sat σ w (t.at b0 :: (b1, cel [.pointer q] ty_P_parseState) :: l.at b :: L) → X b1 b0 n n w := by
  intro k n t w ht hk hp h
  induction k generalizing n t w with
  | zero => exact hX _ _ _ _ _ (br_false (by simp; omega) (fin n t w ht hp h))
  | succ k ih =>
   refine hX _ _ _ _ _ (br_true (by simp; omega) ?_)
   refine YtgbgadkldalkbaaGreatDoor.trimSp_ok (min := 1) (max := 1) h ht (by decide) (by decide) ?_
   simp only [Ln.strip] at hp
   cases hs : t.trimSp 1 1 false with
   | none =>
    rw [hs] at hp
    exact fun w h => ⟨_, rfl, br_true rfl (fin n t w ht hp h)⟩
   | some t' =>
    rw [hs] at hp
    intro w h
    refine ⟨_, rfl, br_false rfl ?_⟩
    rw [i64_inc (by omega)]
    exact ih (n + 1) t' w (Ln.trimSp_ok ht hs) (by omega) hp h
 exact loop 3 0 l _ hl rfl hp h
end Go.Proofs.YtgbgadkldalkbaaGreatDoor


set_option linter.unusedVariables false
namespace Go.Proofs.YtgbgadkldalkbaaGreatDoor
open Go.Proofs Go.IntWalk
variable {σ : Out} {w : World} {L L' : List Chunk} {R : Ending → World → Prop}

abbrev zLn (b : Nat) : Chunk := (b, cel [.int .i64 0, .int .i64 0, .int .i64 0, .string (bs []), .int .u8 0] ty_line)
theorem curB_ok {b d : Nat} {p : PS} {l : List OB} {M : List Chunk} (h : Sat σ w (p.at b :: M ++ L)) (hs : Stk p l M) (hd : p.depth = d)
 (hR : ∀ w, Sat σ w (p.at b :: M ++ L) → R (.returned (match l[d]? with | some o => o.bd | none => .nilIface)) w) :
 callE P i_parseState_curB #[.pointer (some ⟨b, 0, none⟩)] R w := by
 have hn := hs.2.1
 have hlt := hs.2.2
 refine g_parseState_curB.sound ?_
 repeat (first | refine nilP_some ?_ | refine h.tk fun w h => ?_ | refine ⟨_, h.ldA, ?_⟩ | refine ⟨_, _, _, h.ldA, ?_⟩)
 rw [hn, hd]
 by_cases hdl : d < l.length
 ·obtain ⟨sb, sp, hq, rfl, hsp⟩ := hs.split (by intro h; subst h; simp at hdl)
  refine br_true (by simpa using hdl) ?_
  repeat (first | refine nilP_some ?_ | refine h.tk fun w h => ?_ | refine ⟨_, h.ldA, ?_⟩ | refine ⟨_, _, _, h.ldA, ?_⟩)
  rw [hn, hd]
  refine ⟨by omega, by omega, ?_⟩
  rw [hq]
  refine nilP_some ?_
  simp only [Addr.add_lit, Nat.zero_add, Int.toNat_natCast]
  refine ⟨l[d].bd, Sat.ld h (by first | assumption | (repeat (first | exact .head _ | apply List.Mem.tail))) (stk_get (f := 0) (by decide) (List.getElem?_eq_getElem hdl)), ?_⟩
  have := hR _ h
  rw [List.getElem?_eq_getElem hdl] at this
  exact this
 ·have := hR _ h
  rw [List.getElem?_eq_none (by omega)] at this
  exact br_false (by simpa using hdl) this
theorem nextB_ok {b d : Nat} {p : PS} {l : List OB} {M : List Chunk} (h : Sat σ w (p.at b :: M ++ L)) (hs : Stk p l M) (hd : p.depth = d) (hdb : d < 1048577)
 (hR : ∀ w, Sat σ w (p.at b :: M ++ L) → R (.returned (match l[d + 1]? with | some o => o.bd | none => .nilIface)) w) :
 callE P i_parseState_nextB #[.pointer (some ⟨b, 0, none⟩)] R w := by
 have hn := hs.2.1
 have hlt := hs.2.2
 refine g_parseState_nextB.sound ?_
 repeat (first | refine nilP_some ?_ | refine h.tk fun w h => ?_ | refine ⟨_, h.ldA, ?_⟩ | refine ⟨_, _, _, h.ldA, ?_⟩)
 rw [hn, hd, i64_inc (by omega)]
 by_cases hdl : d + 1 < l.length
 ·obtain ⟨sb, sp, hq, rfl, hsp⟩ := hs.split (by intro h; subst h; simp at hdl)
  refine br_true (by simp; omega) ?_
  repeat (first | refine nilP_some ?_ | refine h.tk fun w h => ?_ | refine ⟨_, h.ldA, ?_⟩ | refine ⟨_, _, _, h.ldA, ?_⟩)
  rw [hn, hd, i64_inc (by omega)]
  refine ⟨by omega, by omega, ?_⟩
  rw [hq]
  refine nilP_some ?_
  simp only [Addr.add_lit, Nat.zero_add, Int.toNat_natCast]
  refine ⟨l[d + 1].bd, Sat.ld h (by first | assumption | (repeat (first | exact .head _ | apply List.Mem.tail))) (stk_get (f := 0) (by decide) (List.getElem?_eq_getElem hdl)), ?_⟩
  have := hR _ h
  rw [List.getElem?_eq_getElem hdl] at this
  exact this
 ·have := hR _ h
  rw [List.getElem?_eq_none (by omega)] at this
  exact br_false (by simp; omega) this

theorem ta_listBuilder_no {v : Value} {t : TypeId} (ht : t ≠ ty_P_listBuilder) (w : World) :
 (Instr.typeAssert (.iface t v) ty_blockBuilder ty_P_listBuilder true).run P w = .ok (.tuple #[.pointer none, .bool false]) w := by
 have hund : P.underlying ty_P_listBuilder = some (.pointer ty_listBuilder) := by kernel_rfl
 exact ta_no (by rw [hund]; intro ms h; cases h) hund ht (i := (P.info? ty_P_listBuilder).getD default) (by kernel_rfl) (by kernel_rfl) w
theorem newListItem_no {b d : Nat} {p : PS} {ob : List OB} {o : OB} {M : List Chunk} {t : TypeId} {v : Value} {l : Ln} (h : Sat σ w (p.at b :: M ++ L)) (hs : Stk p ob M) (hd : p.depth = d)
 (ho : ob[d]? = some o) (hb : o.bd = .iface t v) (ht : t ≠ ty_P_listBuilder) (hl : l.ok) (hp : isBullet (l.strip 3 0).2.peek = false)
 (hR : ∀ w, Sat σ w (p.at b :: M ++ L) → R (.returned (.tuple #[l.val, .bool false])) w) : callE P i_newListItem #[.pointer (some ⟨b, 0, none⟩), l.val] R w := by
 refine g_newListItem.sound ?_
 refine Sat.bx h fun b1 w h => ?_
 refine Sat.bx h fun b3 w h => ?_
 have h : Sat σ w (zLn b3 :: l.at b1 :: (p.at b :: M ++ L)) := h
 have h : Sat σ w (p.at b :: M ++ (zLn b3 :: l.at b1 :: L)) := h.re
 refine curB_ok h hs hd fun w h => ?_
 rw [ho]
 dsimp only
 refine ⟨_, rfl, none, false, w, by rw [hb]; exact ta_listBuilder_no ht w, br_false rfl (br_false rfl ?_)⟩
 have h : Sat σ w (l.at b1 :: zLn b3 :: p.at b :: M ++ L) := h.re
 refine startListItem_no h hl hp fun w h => ⟨_, rfl, br_false rfl ?_⟩
 repeat (first | refine nilP_some ?_ | refine h.tk fun w h => ?_ | refine ⟨_, h.ldA, ?_⟩ | refine ⟨_, _, _, h.ldA, ?_⟩ | refine h.stA 0 fun w h => ?_ | refine h.stA 1 fun w h => ?_ | refine h.stA 2 fun w h => ?_ | refine h.stA 3 fun w h => ?_ | refine h.stA 4 fun w h => ?_ | refine h.stA 5 fun w h => ?_ | refine h.stA 6 fun w h => ?_ | refine h.bx fun b0 w h => ?_)
 exact hR _ h.tail.tail
end Go.Proofs.YtgbgadkldalkbaaGreatDoor


set_option linter.unusedVariables false
namespace Go.Proofs.YtgbgadkldalkbaaGreatDoor
open Go.Proofs Go.IntWalk
variable {σ : Out} {w : World} {L L' : List Chunk} {R : Ending → World → Prop}

theorem equalIn_nil_iface {t u : TypeId} {v : Value} {ms : Array (String × TypeId)} (hu : P.underlying t = some (.interface ms)) (d : Nat) (w : World) :
 (Op.equalIn (d + 1) t .nilIface (.iface u v)).run P w = .ok false w := by
 simp [Op.equalIn, run_underlying hu]
theorem equalIn_iface_ne {t u u' : TypeId} {v v' : Value} {ms : Array (String × TypeId)} (hu : P.underlying t = some (.interface ms)) (hne : u ≠ u') (d : Nat) (w : World) :
 (Op.equalIn (d + 1) t (.iface u v) (.iface u' v')).run P w = .ok false w := by
 simp [Op.equalIn, run_underlying hu, hne]
theorem equalIn_ptr_nil {t e : TypeId} (hu : P.underlying t = some (.pointer e)) (q : Option Addr) (d : Nat) (w : World) :
 (Op.equalIn (d + 1) t (.pointer q) (.pointer none)).run P w = .ok q.isNone w := by
 cases q <;> simp [Op.equalIn, run_underlying hu]
theorem bin_eq {t : TypeId} {a b : Value} {r : Bool} {w : World} {x y : Operand} (h1 : (eqGuard .eql t x y a b).run P w = .ok () w) (h2 : binOp .eql t a b = (do pure (.bool (← Op.equal t a b))))
 (h : (Op.equal t a b).run P w = .ok r w) : (do eqGuard .eql t x y a b; binOp .eql t a b).run P w = .ok (.bool r) w := by
 rw [h2]
 simp only [Sem.run_bind, h1, h, Result.andThen_ok]
 rfl
theorem eq_nil_iface {t u : TypeId} {v : Value} {ms : Array (String × TypeId)} (hu : P.underlying t = some (.interface ms)) (x y : Operand) (w : World) :
 (do eqGuard .eql t x y .nilIface (.iface u v); binOp .eql t .nilIface (.iface u v)).run P w = .ok (.bool false) w :=
 bin_eq rfl rfl (equalIn_nil_iface hu 9999 w)
theorem eq_iface_ne {t u u' : TypeId} {v v' : Value} {ms : Array (String × TypeId)} (hu : P.underlying t = some (.interface ms)) (hne : u ≠ u') (x y : Operand) (w : World) :
 (do eqGuard .eql t x y (.iface u v) (.iface u' v'); binOp .eql t (.iface u v) (.iface u' v')).run P w = .ok (.bool false) w :=
 bin_eq rfl rfl (equalIn_iface_ne hu hne 9999 w)
theorem eq_ptr_nil {t e : TypeId} (hu : P.underlying t = some (.pointer e)) (q : Option Addr) (x y : Operand) (w : World) :
 (do eqGuard .eql t x y (.pointer q) (.pointer none); binOp .eql t (.pointer q) (.pointer none)).run P w = .ok (.bool q.isNone) w :=
 bin_eq rfl rfl (equalIn_ptr_nil hu q 9999 w)
theorem und_bb : P.underlying ty_blockBuilder = some (.interface ((match P.underlying ty_blockBuilder with | some (.interface ms) => ms | _ => #[]))) := by kernel_rfl
theorem und_para : P.underlying ty_P_paraBuilder = some (.pointer ty_paraBuilder) := by kernel_rfl

theorem newSetext_no {b d : Nat} {p : PS} {ob : List OB} {o : OB} {M : List Chunk} {t : TypeId} {v : Value} {l : Ln} (h : Sat σ w (p.at b :: M ++ L)) (hs : Stk p (ob ++ [o]) M) (hd : p.depth = d)
 (hlen : ob.length = d) (hb : o.bd = .iface t v) (ht : t ≠ ty_P_paraBuilder) (hl : l.ok)
 (hR : ∀ w, Sat σ w (p.at b :: M ++ L) → R (.returned (.tuple #[l.val, .bool false])) w) : callE P i_newSetextHeading #[.pointer (some ⟨b, 0, none⟩), l.val] R w := by
 have hlt := hs.2.2
 rw [List.length_append, List.length_singleton] at hlt
 refine g_newSetextHeading.sound ?_
 refine Sat.bx h fun b1 w h => ?_
 refine Sat.bx h fun b3 w h => ?_
 refine Sat.bx h fun b5 w h => ?_
 repeat (first | refine nilP_some ?_ | refine h.tk fun w h => ?_ | refine ⟨_, h.ldA, ?_⟩ | refine ⟨_, _, _, h.ldA, ?_⟩ | refine h.stA 0 fun w h => ?_ | refine h.stA 1 fun w h => ?_ | refine h.stA 2 fun w h => ?_ | refine h.stA 3 fun w h => ?_ | refine h.stA 4 fun w h => ?_ | refine h.stA 5 fun w h => ?_ | refine h.stA 6 fun w h => ?_ | refine h.bx fun b0 w h => ?_)
 have h : Sat σ _ (l.at b0 :: (b5, cel [.int .i64 0] ty_int) :: zLn b3 :: l.at b1 :: (p.at b :: M ++ L)) := h
 have h : Sat σ _ (p.at b :: M ++ (l.at b0 :: (b5, cel [.int .i64 0] ty_int) :: zLn b3 :: l.at b1 :: L)) := h.re
 refine nextB_ok h hs hd (by omega) fun w h => ?_
 rw [List.getElem?_eq_none (by simp; omega)]
 refine ⟨_, rfl, ?_⟩
 refine top_ok h hs hb (fun w h => ?_) (fun hc => absurd hc ht)
 rw [if_neg ht]
 refine ⟨_, rfl, false, w, eq_nil_iface und_bb _ _ w, br_false rfl ?_⟩
 have h : Sat σ _ (zLn b3 :: l.at b1 :: (b5, cel [.int .i64 0] ty_int) :: l.at b0 :: (p.at b :: M ++ L)) := h.re
 refine br_false rfl ?_
 repeat (first | refine nilP_some ?_ | refine h.tk fun w h => ?_ | refine ⟨_, h.ldA, ?_⟩ | refine ⟨_, _, _, h.ldA, ?_⟩ | refine h.stA 0 fun w h => ?_ | refine h.stA 1 fun w h => ?_ | refine h.stA 2 fun w h => ?_ | refine h.stA 3 fun w h => ?_ | refine h.stA 4 fun w h => ?_ | refine h.stA 5 fun w h => ?_ | refine h.stA 6 fun w h => ?_ | refine h.bx fun b0 w h => ?_)
 have h : Sat σ _ (l.at b3 :: l.at b1 :: (b5, cel [.int .i64 0] ty_int) :: l.at b0 :: (p.at b :: M ++ L)) := h
 exact hR _ h.tail.tail.tail.tail
end Go.Proofs.YtgbgadkldalkbaaGreatDoor


set_option linter.unusedVariables false
namespace Go.Proofs.YtgbgadkldalkbaaGreatDoor
open Go.Proofs Go.IntWalk
variable {σ : Out} {w : World} {L L' : List Chunk} {R : Ending → World → Prop}

theorem trimFence_no {b nb : Nat} {q1 q2 : Option Addr} {l : Ln} {v : Int} {e : TypeId} (h : Sat σ w (l.at b :: (nb, cel [.int .i64 v] e) :: L)) (hl : l.ok)
 (hp : (l.strip 3 0).2.peek ≠ 96 ∧ (l.strip 3 0).2.peek ≠ 126)
 (hR : ∀ w v, Sat σ w (l.at b :: (nb, cel [.int .i64 v] e) :: L) → R (.returned (.bool false)) w) :
 callE P i_line_trimFence #[.pointer (some ⟨b, 0, none⟩), .pointer q1, .pointer q2, .pointer (some ⟨nb, 0, none⟩)] R w := by
 refine g_line_trimFence.sound ?_
 repeat (first | refine nilP_some ?_ | refine h.tk fun w h => ?_ | refine ⟨_, h.ldA, ?_⟩ | refine ⟨_, _, _, h.ldA, ?_⟩ | refine h.stA 0 fun w h => ?_ | refine h.stA 1 fun w h => ?_ | refine h.stA 2 fun w h => ?_ | refine h.stA 3 fun w h => ?_ | refine h.stA 4 fun w h => ?_ | refine h.stA 5 fun w h => ?_ | refine h.stA 6 fun w h => ?_ | refine h.bx fun b0 w h => ?_)
 have h : Sat σ _ (l.at b0 :: l.at b :: (nb, cel [.int .i64 0] e) :: L) := h
 have fin : ∀ (n : Nat) (t : Ln) w, t.ok → t.peek ≠ 96 ∧ t.peek ≠ 126 → Sat σ w (t.at b0 :: l.at b :: (nb, cel [.int .i64 n] e) :: L) → g_line_trimFence.k2 R (some ⟨b, 0, none⟩) q1 q2 b0 w := by
  intro n t w ht hp h
  refine peek_ok h (by first | assumption | (repeat (first | exact .head _ | apply List.Mem.tail))) ht fun w h => ⟨_, rfl, ?_⟩
  rw [beqf (d := 126) (n := 126) rfl hp.2]
  exact br_false (beqf (d := 96) rfl hp.1) (br_false rfl (hR _ _ h.tail))
 intro X hX
 have loop : ∀ k n (t : Ln) w, t.ok → k + n = 3 → (t.strip k n).2.peek ≠ 96 ∧ (t.strip k n).2.peek ≠ 126 → Sat σ w (t.at b0 :: l.at b :: (nb, cel [.int .i64 n] e) :: L) →
  X (some ⟨b, 0, none⟩) q1 q2 (some ⟨nb, 0, none⟩) b0 w := by
  intro k n t w ht hk hp h
  induction k generalizing n t w with
  | zero =>
   refine hX _ _ _ _ _ _ ?_
   repeat (first | refine nilP_some ?_ | refine h.tk fun w h => ?_ | refine ⟨_, h.ldA, ?_⟩ | refine ⟨_, _, _, h.ldA, ?_⟩)
   exact br_false (by simp; omega) (fin n t w ht hp h)
  | succ k ih =>
   refine hX _ _ _ _ _ _ ?_
   repeat (first | refine nilP_some ?_ | refine h.tk fun w h => ?_ | refine ⟨_, h.ldA, ?_⟩ | refine ⟨_, _, _, h.ldA, ?_⟩)
   refine br_true (by simp; omega) ?_
   refine YtgbgadkldalkbaaGreatDoor.trimSp_ok (min := 1) (max := 1) h ht (by decide) (by decide) ?_
   simp only [Ln.strip] at hp
   cases hs : t.trimSp 1 1 false with
   | none =>
    rw [hs] at hp
    exact fun w h => ⟨_, rfl, br_false rfl (fin n t w ht hp h)⟩
   | some t' =>
    rw [hs] at hp
    intro w h
    refine ⟨_, rfl, br_true rfl ?_⟩
    repeat (first | refine nilP_some ?_ | refine h.tk fun w h => ?_ | refine ⟨_, h.ldA, ?_⟩ | refine ⟨_, _, _, h.ldA, ?_⟩ | refine h.stA 0 fun w h => ?_ | refine h.stA 1 fun w h => ?_ | refine h.stA 2 fun w h => ?_ | refine h.stA 3 fun w h => ?_ | refine h.stA 4 fun w h => ?_ | refine h.stA 5 fun w h => ?_ | refine h.stA 6 fun w h => ?_ | refine h.bx fun b0 w h => ?_)
    rw [i64_inc (by omega)] at h
    exact ih (n + 1) t' _ (Ln.trimSp_ok ht hs) (by omega) hp h
 exact loop 3 0 l _ hl rfl hp h
theorem newFence_no {q : Option Addr} {l : Ln} (h : Sat σ w L) (hl : l.ok) (hp : (l.strip 3 0).2.peek ≠ 96 ∧ (l.strip 3 0).2.peek ≠ 126)
 (hR : ∀ w, Sat σ w L → R (.returned (.tuple #[l.val, .bool false])) w) : callE P i_newFence #[.pointer q, l.val] R w := by
 refine g_newFence.sound ?_
 refine Sat.bx h fun b1 w h => ?_
 refine Sat.bx h fun b3 w h => ?_
 refine Sat.bx h fun b5 w h => ?_
 refine Sat.bx h fun b7 w h => ?_
 refine Sat.bx h fun b9 w h => ?_
 repeat (first | refine nilP_some ?_ | refine h.tk fun w h => ?_ | refine ⟨_, h.ldA, ?_⟩ | refine ⟨_, _, _, h.ldA, ?_⟩ | refine h.stA 0 fun w h => ?_ | refine h.stA 1 fun w h => ?_ | refine h.stA 2 fun w h => ?_ | refine h.stA 3 fun w h => ?_ | refine h.stA 4 fun w h => ?_ | refine h.stA 5 fun w h => ?_ | refine h.stA 6 fun w h => ?_ | refine h.bx fun b0 w h => ?_)
 have h : Sat σ _ (l.at b0 :: (b9, cel [.int .i64 0] ty_int) :: (b7, cel [.string (bs [])] ty_string) :: (b5, cel [.string (bs [])] ty_string) :: zLn b3 :: l.at b1 :: L) := h
 refine trimFence_no h hl hp fun w v h => ⟨_, rfl, ?_⟩
 refine br_false rfl ?_
 repeat (first | refine nilP_some ?_ | refine h.tk fun w h => ?_ | refine ⟨_, h.ldA, ?_⟩ | refine ⟨_, _, _, h.ldA, ?_⟩ | refine h.stA 0 fun w h => ?_ | refine h.stA 1 fun w h => ?_ | refine h.stA 2 fun w h => ?_ | refine h.stA 3 fun w h => ?_ | refine h.stA 4 fun w h => ?_ | refine h.stA 5 fun w h => ?_ | refine h.stA 6 fun w h => ?_ | refine h.bx fun b0 w h => ?_)
 exact hR _ h.tail.tail.tail.tail.tail.tail
end Go.Proofs.YtgbgadkldalkbaaGreatDoor


set_option linter.unusedVariables false
namespace Go.Proofs.YtgbgadkldalkbaaGreatDoor
open Go.Proofs Go.IntWalk
variable {σ : Out} {w : World} {L L' : List Chunk} {R : Ending → World → Prop}

theorem bin_ne {t : TypeId} {a b : Value} {r : Bool} {w : World} {x y : Operand} (h1 : (eqGuard .neq t x y a b).run P w = .ok () w) (h2 : binOp .neq t a b = (do pure (.bool (!(← Op.equal t a b)))))
 (h : (Op.equal t a b).run P w = .ok r w) : (do eqGuard .neq t x y a b; binOp .neq t a b).run P w = .ok (.bool (!r)) w := by
 rw [h2]
 simp only [Sem.run_bind, h1, h, Result.andThen_ok]
 rfl
theorem ne_ptr_nil {t e : TypeId} (hu : P.underlying t = some (.pointer e)) (q : Option Addr) (x y : Operand) (w : World) :
 (do eqGuard .neq t x y (.pointer q) (.pointer none); binOp .neq t (.pointer q) (.pointer none)).run P w = .ok (.bool (!q.isNone)) w :=
 bin_ne rfl rfl (equalIn_ptr_nil hu q 9999 w)

structure Opt where
 ids : Bool
 strike : Bool
 task : Bool
 auto : Bool
 http : Bool
 table : Bool
 emoji : Bool
 dot : Bool
 dash : Bool
 quote : Bool
def Opt.cells (o : Opt) : List Value := [.bool o.ids, .bool o.strike, .bool o.task, .bool o.auto, .bool o.http, .bool o.table, .bool o.emoji, .bool o.dot, .bool o.dash, .bool o.quote]
abbrev Opt.at (b : Nat) (o : Opt) : Chunk := (b, cel o.cells ty_Parser)

theorem newPre_no {b : Nat} {p : PS} {ob : List OB} {o : OB} {M : List Chunk} {t : TypeId} {v : Value} {l : Ln} (h : Sat σ w (p.at b :: M ++ L)) (hs : Stk p (ob ++ [o]) M)
 (hb : o.bd = .iface t v) (hv : t = ty_P_paraBuilder → ∃ q, v = .pointer q) (hl : l.ok) (hp : l.trimSp 4 4 false = none)
 (hR : ∀ w, Sat σ w (p.at b :: M ++ L) → R (.returned (.tuple #[l.val, .bool false])) w) : callE P i_newPre #[.pointer (some ⟨b, 0, none⟩), l.val] R w := by
 refine g_newPre.sound ?_
 refine Sat.bx h fun b1 w h => ?_
 refine Sat.bx h fun b3 w h => ?_
 repeat (first | refine nilP_some ?_ | refine h.tk fun w h => ?_ | refine ⟨_, h.ldA, ?_⟩ | refine ⟨_, _, _, h.ldA, ?_⟩ | refine h.stA 0 fun w h => ?_ | refine h.stA 1 fun w h => ?_ | refine h.stA 2 fun w h => ?_ | refine h.stA 3 fun w h => ?_ | refine h.stA 4 fun w h => ?_ | refine h.stA 5 fun w h => ?_ | refine h.stA 6 fun w h => ?_ | refine h.bx fun b0 w h => ?_)
 have h : Sat σ _ (l.at b0 :: zLn b3 :: l.at b1 :: (p.at b :: M ++ L)) := h
 have h : Sat σ _ (p.at b :: M ++ (l.at b0 :: zLn b3 :: l.at b1 :: L)) := h.re
 have fin : ∀ w, Sat σ w (l.at b0 :: (zLn b3 :: l.at b1 :: (p.at b :: M ++ L))) → g_newPre.k1 R (some ⟨b, 0, none⟩) b1 b3 b0 false w := by
  intro w h
  refine br_false rfl ?_
  repeat (first | refine nilP_some ?_ | refine h.tk fun w h => ?_ | refine ⟨_, h.ldA, ?_⟩ | refine ⟨_, _, _, h.ldA, ?_⟩ | refine h.stA 0 fun w h => ?_ | refine h.stA 1 fun w h => ?_ | refine h.stA 2 fun w h => ?_ | refine h.stA 3 fun w h => ?_ | refine h.stA 4 fun w h => ?_ | refine h.stA 5 fun w h => ?_ | refine h.stA 6 fun w h => ?_ | refine h.bx fun b0 w h => ?_)
  have h : Sat σ _ (l.at b0 :: l.at b3 :: l.at b1 :: (p.at b :: M ++ L)) := h
  exact hR _ h.tail.tail.tail
 refine top_ok h hs hb (fun w h => ?_) hv
 have h : Sat σ _ (l.at b0 :: (zLn b3 :: l.at b1 :: (p.at b :: M ++ L))) := h.re
 by_cases ht : t = ty_P_paraBuilder
 ·obtain ⟨q, rfl⟩ := hv ht
  rw [if_pos ht]
  refine ⟨q, rfl, q.isNone, w, eq_ptr_nil und_para _ _ _ w, br_split (fun hq => ?_) (fun _ => fin _ h)⟩
  refine YtgbgadkldalkbaaGreatDoor.trimSp_ok (min := 4) (max := 4) h hl (by decide) (by decide) ?_
  rw [hp]
  exact fun w h => ⟨_, rfl, br_false rfl (fin _ h)⟩
 ·rw [if_neg ht]
  refine ⟨none, rfl, _, w, eq_ptr_nil und_para _ _ _ w, br_true rfl ?_⟩
  refine YtgbgadkldalkbaaGreatDoor.trimSp_ok (min := 4) (max := 4) h hl (by decide) (by decide) ?_
  rw [hp]
  exact fun w h => ⟨_, rfl, br_false rfl (fin _ h)⟩
end Go.Proofs.YtgbgadkldalkbaaGreatDoor


set_option linter.unusedVariables false
namespace Go.Proofs.YtgbgadkldalkbaaGreatDoor
open Go.Proofs Go.IntWalk
variable {σ : Out} {w : World} {L L' : List Chunk} {R : Ending → World → Prop}

def Ln.zero : Ln := ⟨0, 0, 0, [], 0⟩
noncomputable def rowStr : Row P ty_S_string ty_string 1 16 :=
 ⟨(P.info? ty_string).getD default, ((P.info? ty_string).bind (·.zero)).getD default, by kernel_rfl, by kernel_rfl, by kernel_rfl, by kernel_rfl, by kernel_rfl, by kernel_rfl, by decide⟩
def ParaAt (qb : Nat) (ts : List (List UInt8)) (M : List Chunk) : Prop :=
 ∃ q c TM, Sl 1 ty_string q ts.length c (ts.map fun t => .string (bs t)) TM ∧ M = (qb, cel [.slice q ts.length c, .pointer none] ty_paraBuilder) :: TM

theorem para_append {qb : Nat} {ts : List (List UInt8)} {s : List UInt8} {b4 : Nat} {M : List Chunk} (h : Sat σ w (zLn b4 :: M ++ L)) (hp : ParaAt qb ts M) (hlen : ts.length < 1048576)
 (hR : ∀ w M', ParaAt qb (ts ++ [s]) M' → Sat σ w (M' ++ L) → R (.returned (.tuple #[Ln.zero.val, .bool true])) w) :
 g_newPara.k5 R b4 (some ⟨qb, 0, none⟩) (bs s) w := by
 obtain ⟨q, c, TM, hS, rfl⟩ := hp
 repeat (first | refine nilP_some ?_ | refine h.tk fun w h => ?_ | refine ⟨_, h.ldA, ?_⟩ | refine ⟨_, _, _, h.ldA, ?_⟩)
 have h : Sat σ w (TM ++ ((qb, cel [.slice q ts.length c, .pointer none] ty_paraBuilder) :: zLn b4 :: L)) := h.re
 refine Sat.app1 rowStr hS h (v := .string (bs s)) rfl (by simp [Value.cells, Value.oneCell']) (by kernel_rfl) (by omega) (by omega) (by decide) fun q' c' w TM' hS' h => ?_
 have h : Sat σ w ((qb, cel [.slice q ts.length c, .pointer none] ty_paraBuilder) :: zLn b4 :: (TM' ++ L)) := h.re
 repeat (first | refine nilP_some ?_ | refine h.tk fun w h => ?_ | refine ⟨_, h.ldA, ?_⟩ | refine ⟨_, _, _, h.ldA, ?_⟩ | refine h.stA 0 fun w h => ?_ | refine h.stA 1 fun w h => ?_ | refine h.stA 2 fun w h => ?_ | refine h.stA 3 fun w h => ?_ | refine h.stA 4 fun w h => ?_ | refine h.stA 5 fun w h => ?_ | refine h.stA 6 fun w h => ?_ | refine h.bx fun b0 w h => ?_)
 have h : Sat σ _ ((qb, cel [.slice q' (ts.length + 1) c', .pointer none] ty_paraBuilder) :: zLn b4 :: (TM' ++ L)) := h
 refine hR _ ((qb, cel [.slice q' (ts.length + 1) c', .pointer none] ty_paraBuilder) :: TM') ⟨q', c', TM', ?_, ?_⟩ (h.less [zLn b4])
 ·rw [List.length_append, List.map_append]; exact hS'
 ·rw [List.length_append]; rfl

theorem newPara_new {b pb : Nat} {p : PS} {ob : List OB} {o : OB} {M : List Chunk} {t : TypeId} {v : Value} {l : Ln} {op : Opt} (h : Sat σ w (p.at b :: M ++ L)) (hs : Stk p (ob ++ [o]) M)
 (hpz : p.pz = some ⟨pb, 0, none⟩) (hop : op.at pb ∈ L) (hd : p.depth = ob.length) (hb : o.bd = .iface t v) (ht : t ≠ ty_P_paraBuilder) (hl : l.ok) (hlen : ob.length < 1000000)
 (hR : ∀ w p' M' qb PM, p' = { p with stq := p'.stq, stn := ob.length + 2, stc := p'.stc } → Stk p' (ob ++ [o] ++ [⟨.iface ty_P_paraBuilder (.pointer (some ⟨qb, 0, none⟩)), none, 0, 0, p.lineno, p.lineno⟩]) M' →
  ParaAt qb [(l.text.drop l.i).dropWhile isST] PM → Sat σ w (p'.at b :: M' ++ (PM ++ L)) → R (.returned (.tuple #[Ln.zero.val, .bool true])) w) :
 callE P i_newPara #[.pointer (some ⟨b, 0, none⟩), l.val] R w := by
 refine g_newPara.sound ?_
 refine Sat.bx h fun b1 w h => ?_
 refine Sat.bx h fun b3 w h => ?_
 have h : Sat σ _ (zLn b3 :: l.at b1 :: (p.at b :: M ++ L)) := h
 have h : Sat σ _ (p.at b :: M ++ (zLn b3 :: l.at b1 :: L)) := h.re
 refine top_ok h hs hb (fun w h => ?_) (fun hc => absurd hc ht)
 rw [if_neg ht]
 refine ⟨_, rfl, ?_⟩
 repeat (first | refine nilP_some ?_ | refine h.tk fun w h => ?_ | refine ⟨_, h.ldA, ?_⟩ | refine ⟨_, _, _, h.ldA, ?_⟩)
 have h : Sat σ _ (l.at b1 :: (p.at b :: M ++ (zLn b3 :: L))) := h.re
 refine trimSpaceString_ok h (by first | assumption | (repeat (first | exact .head _ | apply List.Mem.tail))) hl fun w h => ⟨_, rfl, ?_⟩
 refine ⟨_, w, ne_ptr_nil und_para _ _ _ w, br_false rfl (br_false rfl ?_)⟩
 have h : Sat σ _ (p.at b :: (l.at b1 :: (M ++ (zLn b3 :: L)))) := h.re
 refine Sat.tk h fun w h => ?_
 refine nilP_some ?_
 refine ⟨_, Sat.ld h (.head _) rfl, ?_⟩
 rw [hpz]
 refine nilP_some ?_
 have hm : op.at pb ∈ (p.at b :: (l.at b1 :: (M ++ (zLn b3 :: L)))) := by simp [hop]
 refine ⟨op.table, Sat.ld h hm rfl, ?_⟩
 have fin : g_newPara.k4 R (some ⟨b, 0, none⟩) b3 none (bs ((l.text.drop l.i).dropWhile isST)) false w := by
  refine br_false rfl ⟨_, w, ne_ptr_nil und_para _ _ _ w, br_false rfl ?_⟩
  refine Sat.bx h fun qb w h => ?_
  have h : Sat σ _ ((qb, cel [.slice none 0 0, .pointer none] ty_paraBuilder) :: p.at b :: (l.at b1 :: (M ++ (zLn b3 :: L)))) := h
  have h : Sat σ _ (p.at b :: M ++ (zLn b3 :: (qb, cel [.slice none 0 0, .pointer none] ty_paraBuilder) :: L)) := h.less [l.at b1]
  refine addBlock_ok h hs (by rw [hd]; simp) (by simp; omega) fun w p' M' hp' hs' h => ⟨rfl, ?_⟩
  have h : Sat σ w (zLn b3 :: [(qb, cel [.slice none 0 0, .pointer none] ty_paraBuilder)] ++ (p'.at b :: M' ++ L)) := h.re
  refine para_append h (ts := []) ⟨none, 0, [], Sl.nil 1 ty_string, rfl⟩ (by decide) fun w PM hPM h => ?_
  refine hR w p' M' qb PM ?_ hs' hPM (h.re)
  rw [hp']; simp
 refine br_split (fun _ => ⟨_, ne_ptr_nil und_para _ _ _, br_false rfl fin⟩) (fun _ => fin)
end Go.Proofs.YtgbgadkldalkbaaGreatDoor


set_option linter.unusedVariables false
namespace Go.Proofs.YtgbgadkldalkbaaGreatDoor
open Go.Proofs Go.IntWalk
variable {σ : Out} {w : World} {L L' : List Chunk} {R : Ending → World → Prop}

theorem enter_fn {f : FuncId} {args first captured : Array Value} (h : callE P f (first ++ args ++ captured) R w) :
 enterE P (do let d ← Deferred.ofValue (.func (.func f) first captured) args; invoke d.target d.args) R w :=
 h.imp (fun h => ⟨f, _, w, h.1 _ _, h.2⟩) id

def newsF : List FuncId := [i_newQuote, i_newATXHeading, i_newSetextHeading, i_newHR, i_newListItem, i_newHTML, i_newFence, i_newPre]
def newsC : List Value := newsF.map fun f => .func (.func f) #[] #[]
theorem news_ok (h : Sat σ w L) (hR : ∀ w b e, Sat σ w ((b, cel newsC e) :: L) → R (.returned (.slice (some ⟨b, 0, none⟩) 8 8)) w) : callE P i_news #[] R w := by
 refine g_news.sound ?_
 have hu : P.underlying ty_S_func_P_parseState_line_line_bool = some (.slice ty_func_P_parseState_line_line_bool) := by kernel_rfl
 have hrun := run_buildSlice (P := P) w ty_S_func_P_parseState_line_line_bool ty_func_P_parseState_line_line_bool 8
  #[(0, .func (.func i_newQuote) #[] #[]), (1, .func (.func i_newATXHeading) #[] #[]), (2, .func (.func i_newSetextHeading) #[] #[]), (3, .func (.func i_newHR) #[] #[]),
   (4, .func (.func i_newListItem) #[] #[]), (5, .func (.func i_newHTML) #[] #[]), (6, .func (.func i_newFence) #[] #[]), (7, .func (.func i_newPre) #[] #[])] newsC.toArray
  ((P.info? ty_func_P_parseState_line_line_bool).getD default) (((P.info? ty_func_P_parseState_line_line_bool).bind (·.zero)).getD default) hu (by kernel_rfl) (by kernel_rfl)
  (by rw [show ((P.info? ty_func_P_parseState_line_line_bool).getD default).size = 1 by kernel_rfl]; decide) (by rw [show ((P.info? ty_func_P_parseState_line_line_bool).getD default).size = 1 by kernel_rfl]; decide) (by kernel_rfl)
 exact ⟨_, _, _, _, hrun, hR _ _ _ (h.alc newsC _)⟩
end Go.Proofs.YtgbgadkldalkbaaGreatDoor


set_option linter.unusedVariables false
namespace Go.Proofs.YtgbgadkldalkbaaGreatDoor
open Go.Proofs Go.IntWalk
variable {σ : Out} {w : World} {L L' : List Chunk} {R : Ending → World → Prop}

def Decl (b : Nat) (p : PS) (M : List Chunk) (l : Ln) (f : FuncId) : Prop :=
 ∀ (σ : Out) (w : World) (L : List Chunk) (R : Ending → World → Prop), Sat σ w (p.at b :: M ++ L) → (∀ w, Sat σ w (p.at b :: M ++ L) → R (.returned (.tuple #[l.val, .bool false])) w) →
  callE P f #[.pointer (some ⟨b, 0, none⟩), l.val] R w
def HDecl (l : Ln) : Prop :=
 ∀ (b : Nat) (p : PS) (ob : List OB) (o : OB) (M : List Chunk) (t : TypeId) (v : Value), Stk p (ob ++ [o]) M → o.bd = .iface t v → t ≠ ty_P_paraBuilder → Decl b p M l i_newHTML
theorem HDecl.of_peek {l : Ln} (hl : l.ok) (hp : (l.lead 3 false).peek ≠ 60) : HDecl l :=
 fun _ _ _ _ _ _ _ _ _ _ _ _ _ _ h hR => newHTML_no h hl hp hR
def LDecl (l : Ln) : Prop :=
 ∀ (b d : Nat) (p : PS) (ob : List OB) (o : OB) (M : List Chunk) (t : TypeId) (v : Value), Stk p ob M → p.depth = d → ob[d]? = some o → o.bd = .iface t v → t ≠ ty_P_listBuilder → Decl b p M l i_newListItem
theorem LDecl.of_peek {l : Ln} (hl : l.ok) (hp : isBullet (l.strip 3 0).2.peek = false) : LDecl l :=
 fun _ _ _ _ _ _ _ _ hs hd ho hb ht _ _ _ _ h hR => newListItem_no h hs hd ho hb ht hl hp hR
structure Ln.plain (l : Ln) : Prop where
 ok : l.ok
 blank : l.blank = false
 quote : l.quote = none
 heading : l.heading = none
 hr : l.isHR = false
 bullet : LDecl l
 html : HDecl l
 fence : (l.strip 3 0).2.peek ≠ 96 ∧ (l.strip 3 0).2.peek ≠ 126
 pre : l.trimSp 4 4 false = none

theorem decl_all {b : Nat} {p : PS} {ob : List OB} {o : OB} {M : List Chunk} {t : TypeId} {v : Value} {l : Ln} (hs : Stk p (ob ++ [o]) M) (hd : p.depth = ob.length)
 (hb : o.bd = .iface t v) (h1 : t ≠ ty_P_paraBuilder) (h2 : t ≠ ty_P_listBuilder) (hl : l.plain) : ∀ f ∈ newsF, Decl b p M l f := by
 intro f hf
 have hg : (ob ++ [o])[ob.length]? = some o := by simp
 simp only [newsF, List.mem_cons, List.not_mem_nil, or_false] at hf
 intro σ w L R h hR
 rcases hf with rfl | rfl | rfl | rfl | rfl | rfl | rfl | rfl
 ·exact newQuote_no (x := .nilIface) h hl.ok hl.quote hR
 ·exact newATX_no h hl.ok hl.heading hR
 ·exact newSetext_no h hs hd rfl hb h1 hl.ok hR
 ·exact newHR_no h hl.ok hl.hr hR
 ·exact hl.bullet b ob.length p (ob ++ [o]) o M t v hs hd hg hb h2 σ w L R h hR
 ·exact hl.html b p ob o M t v hs hb h1 σ w L R h hR
 ·exact newFence_no h hl.ok hl.fence hR
 ·exact newPre_no h hs hb (fun hc => absurd hc h1) hl.ok hl.pre hR

theorem newsC_get {i : Nat} {f : FuncId} (h : newsF[i]? = some f) : newsC[i]? = some (.func (.func f) #[] #[]) := by
 rw [newsC, List.getElem?_map, h]; rfl

end Go.Proofs.YtgbgadkldalkbaaGreatDoor


set_option linter.unusedVariables false
set_option maxRecDepth 20000
namespace Go.Proofs.YtgbgadkldalkbaaGreatDoor
open Go.Proofs
namespace g_zzContains
noncomputable def body : Code := bodyOf Tryz.f64
end g_zzContains
def g_zzContains (R : EP) (x0 x1 : BA) (w : World) : Prop :=
 callE P i_zzIndex #[.string x0, .string x1] (fun e w2 => ∃ (r1 : Int), e = .returned (.int .i64 r1) ∧
 R (.returned (.bool (decide (r1 ≥ 0)))) w2) w

namespace g_zzContains
noncomputable def ac (R : EP) : AC :=
 (.leaf (sel [] body))
theorem good (R : EP) : Good P 9 (ac R) (QF P [.tmp 4] R) :=
 trivial
theorem eq (R : EP) (x0 x1 : BA) (w : World) : g_zzContains R x0 x1 w = vcA P 9 (ac R) (QF P [.tmp 4] R) (fr0 [.string x0, .string x1]) w := by kernel_rfl
theorem sound {R : EP} {x0 x1 : ByteArray} {w : World} (h : g_zzContains R x0 x1 w) : callE P i_zzContains #[.string x0, .string x1] R w :=
 callE_fz (c := body) Tryz.func64 Tryz.call64 (good R) (eq R x0 x1 w) h
end g_zzContains
namespace g_zzIndex
noncomputable def body : Code := bodyOf Tryz.f67
def bl1 (R : EP) (Xa : BA → BA → Int → WP) (x0 x1 : BA) (x5 : Int) (w : World) : Prop :=
 br (decide ((IntKind.i64.wrap (x5 + (x1.size : Int))) ≤ (x0.size : Int)))
 (0 ≤ x5 ∧ x5 ≤ (IntKind.i64.wrap (x5 + (x1.size : Int))) ∧ (IntKind.i64.wrap (x5 + (x1.size : Int))) ≤ (x0.size : Int) ∧
 br ((x0.extract (Int.toNat x5) (Int.toNat (IntKind.i64.wrap (x5 + (x1.size : Int))))).toList == x1.toList)
 (R (.returned (.int .i64 x5)) w)
 (Xa x0 x1 (IntKind.i64.wrap (x5 + 1)) w))
 (R (.returned (.int .i64 (-1))) w)
def l1 (R : EP) (x0 x1 : BA) (x5 : Int) (w : World) : Prop :=
 ∀ X : BA → BA → Int → WP, (∀ x0 x1 x5 w, bl1 R X x0 x1 x5 w → X x0 x1 x5 w) → X x0 x1 x5 w

noncomputable def al1 (R : EP) (Xa : BA → BA → Int → WP) : AC :=
 (.leaf (sel [1,0,1,0,0] body))
end g_zzIndex
def g_zzIndex (R : EP) (x0 x1 : BA) (w : World) : Prop :=
 g_zzIndex.l1 R x0 x1 0 w

namespace g_zzIndex
noncomputable def ac (R : EP) : AC :=
 (.seq (.leaf (sel [0] body)) (.seq (.seq (.leaf (sel [1,0,0] body)) (.block 0 (.loop (leaf [(0, .s .str), (1, .s .str), (5, .s (.int .i64))] (l1 R)) (sel [1,0,1,0,0] body)))) (.leaf (sel [1,1] body))))
theorem good (R : EP) : Good P 25 (ac R) (QF P [.tmp 4] R) :=
 ⟨trivial, ⟨⟨trivial, (loopG (al1 R) (bl1 R) (fun _ => by kernel_rfl) (fun Xa => trivial) (fun Xa => by intro x0 x1 x5 ρ w; kernel_rfl) (fun X h _ _ _ _ g => g X h))⟩, trivial⟩⟩
theorem eq (R : EP) (x0 x1 : BA) (w : World) : g_zzIndex R x0 x1 w = vcA P 25 (ac R) (QF P [.tmp 4] R) (fr0 [.string x0, .string x1]) w := by kernel_rfl
theorem sound {R : EP} {x0 x1 : ByteArray} {w : World} (h : g_zzIndex R x0 x1 w) : callE P i_zzIndex #[.string x0, .string x1] R w :=
 callE_fz (c := body) Tryz.func67 Tryz.call67 (good R) (eq R x0 x1 w) h
end g_zzIndex
end Go.Proofs.YtgbgadkldalkbaaGreatDoor

set_option linter.unusedVariables false
namespace Go.Proofs.YtgbgadkldalkbaaGreatDoor
open Go.Proofs Go.IntWalk
variable {σ : Out} {w : World} {L L' : List Chunk} {R : Ending → World → Prop}

def findSub (sub l : List UInt8) : Nat → Nat → Option Nat
 | 0, _ => none
 | k + 1, i => if i + sub.length ≤ l.length then (if (l.drop i).take sub.length = sub then some i else findSub sub l k (i + 1)) else none
def idx (l sub : List UInt8) : Option Nat := findSub sub l (l.length + 1) 0
def idxInt (l sub : List UInt8) : Int := match idx l sub with
 | some i => (i : Int)
 | none => -1
theorem zzIndex_ok {l sub : List UInt8} (hl : l.length < 4611686018427387904) (hs : sub.length < 4611686018427387904) (hR : R (.returned (.int .i64 (idxInt l sub))) w) : callE P i_zzIndex #[.string (bs l), .string (bs sub)] R w := by
 refine g_zzIndex.sound ?_
 intro X hX
 have loop : ∀ (k i : Nat), l.length < k + i → i ≤ l.length + 1 → (match findSub sub l k i with | some i => (i : Int) | none => -1) = idxInt l sub → X (bs l) (bs sub) i w := by
  intro k
  induction k with
  | zero =>
   intro i hk hi he
   have hw : IntKind.i64.wrap ((i : Int) + (sub.length : Int)) = ((i + sub.length : Nat) : Int) := by rw [i64_in _ (by omega)]; omega
   refine hX _ _ _ _ (br_false (by rw [bs_size, bs_size, hw]; simp; omega) ?_)
   rw [← he] at hR
   exact hR
  | succ k ih =>
   intro i hk hi he
   have hw : IntKind.i64.wrap ((i : Int) + (sub.length : Int)) = ((i + sub.length : Nat) : Int) := by rw [i64_in _ (by omega)]; omega
   simp only [findSub] at he
   by_cases h1 : i + sub.length ≤ l.length
   ·rw [if_pos h1] at he
    refine hX _ _ _ _ (br_true (by rw [bs_size, bs_size, hw]; simp; omega) ?_)
    rw [bs_size, bs_size, hw]
    refine ⟨by omega, by omega, by omega, ?_⟩
    rw [Int.toNat_natCast, Int.toNat_natCast, bs_extract, bs_toList, bs_toList]
    have ht : (l.take (i + sub.length)).drop i = (l.drop i).take sub.length := by rw [List.drop_take]; congr 1; omega
    rw [ht]
    by_cases h2 : (l.drop i).take sub.length = sub
    ·rw [if_pos h2] at he
     rw [← he] at hR
     exact br_true (by simpa using h2) hR
    ·rw [if_neg h2] at he
     refine br_false (by simpa using h2) ?_
     rw [i64_inc (by omega)]
     exact ih (i + 1) (by omega) (by omega) he
   ·rw [if_neg h1] at he
    refine hX _ _ _ _ (br_false (by rw [bs_size, bs_size, hw]; simp; omega) ?_)
    rw [← he] at hR
    exact hR
 exact loop (l.length + 1) 0 (by omega) (by omega) rfl
theorem zzContains_ok {l sub : List UInt8} (hl : l.length < 4611686018427387904) (hs : sub.length < 4611686018427387904) (hR : R (.returned (.bool (idx l sub).isSome)) w) : callE P i_zzContains #[.string (bs l), .string (bs sub)] R w := by
 refine g_zzContains.sound ?_
 refine zzIndex_ok hl hs ⟨_, rfl, ?_⟩
 have : decide (idxInt l sub ≥ 0) = (idx l sub).isSome := by
  unfold idxInt
  cases idx l sub with
  | none => rfl
  | some i => simp
 rw [this]
 exact hR
theorem findSub_none {c : UInt8} {l : List UInt8} (hc : c ∉ l) : ∀ k i, findSub [c] l k i = none
 | 0, i => rfl
 | k + 1, i => by
  simp only [findSub]
  split
  ·rename_i h
   simp only [List.length_singleton] at h
   rw [if_neg]
   ·exact findSub_none hc k (i + 1)
   ·intro he
    have hm : c ∈ (l.drop i).take 1 := by
     have he' : (l.drop i).take 1 = [c] := he
     rw [he']; exact List.mem_singleton.2 rfl
    exact hc (List.mem_of_mem_drop (List.mem_of_mem_take hm))
  ·rfl
theorem idx_none {c : UInt8} {l : List UInt8} (hc : c ∉ l) : idx l [c] = none := findSub_none hc _ _
end Go.Proofs.YtgbgadkldalkbaaGreatDoor


set_option linter.unusedVariables false
namespace Go.Proofs.YtgbgadkldalkbaaGreatDoor
open Go.Proofs Go.IntWalk
variable {σ : Out} {w : World} {L L' : List Chunk} {R : Ending → World → Prop}

def methB (P : Program) (t : TypeId) (name : String) (f : FuncId) : Bool :=
 match P.info? t, P.underlying t with
 | some i, some (.pointer _) => match i.methods.find? (·.name == name) with
  | some m => m.path.isEmpty && (match m.func with | some (g, true) => Nat.beq g f | _ => false)
  | none => false
 | _, _ => false
theorem methB_run {P : Program} {t : TypeId} {name : String} {f : FuncId} (h : methB P t name f = true) (q : Option Addr) (fuel : Nat) (w : World) :
 (Go.method (fuel + 1) t (.pointer q) name).run P w = .ok (f, .pointer q) w := by
 unfold methB at h
 split at h
 ·rename_i i e hi hu
  split at h
  ·rename_i m hm
   simp only [Bool.and_eq_true] at h
   obtain ⟨hp, h⟩ := h
   split at h
   ·rename_i g hf
    have hg := Nat.eq_of_beq_eq_true h
    subst hg
    have hp' : m.path = #[] := by simpa using hp
    simp [Go.method, typeInfo, hi, hm, hp', Go.follow, hf, Go.receiverAt, run_underlying hu, Go.Place.get]
   ·cases h
  ·cases h
 ·cases h
theorem depth_succ (P : Program) : ∃ n, P.types.size + Made.depth = n + 1 := by
 have h : 0 < Made.depth := by decide
 exact ⟨P.types.size + (Made.depth - 1), by omega⟩
theorem enter_meth {t : TypeId} {name : String} {f : FuncId} {q : Option Addr} {args : Array Value} (hm : methB P t name f = true) (h : callE P f (#[.pointer q] ++ args) R w) :
 enterE P (callMethod (.iface t (.pointer q)) name args) R w := by
 obtain ⟨n, hn⟩ := depth_succ P
 have hr := methB_run hm q n w
 have e : (callMethod (.iface t (.pointer q)) name args).run P w = (callFunc f (#[.pointer q] ++ args)).run P w := by
  simp only [callMethod, Sem.run_bind, run_program, Result.andThen_ok, hn, hr]
 unfold enterE
 rw [e]
 exact h.imp (fun h => ⟨f, _, w, h.1 _ _, h.2⟩) id
theorem Sat.same {σ' : Out} {w w' : World} {L L' : List Chunk} (h : Sat σ w L) (h' : Sat σ' w' L') {b i : Nat} {o : Obj} (hm : (b, o) ∈ L) (hm' : (b, o) ∈ L') (n : Nat) : SameC w w' ⟨b, i, none⟩ n := by
 intro k _
 rw [Addr.add_lit]
 unfold World.cell?
 rw [h.at_ _ hm, h'.at_ _ hm']
theorem meth_pos : methB P ty_P_parseState "pub-paratext/pub/rscmarkdown.pos" i_parseState_pos = true := by kernel_rfl
theorem meth_blocks : methB P ty_P_parseState "pub-paratext/pub/rscmarkdown.blocks" i_parseState_blocks = true := by kernel_rfl
theorem meth_newText : methB P ty_P_parseState "pub-paratext/pub/rscmarkdown.newText" i_parseState_newText = true := by kernel_rfl
theorem meth_paraBuild : methB P ty_P_paraBuilder "pub-paratext/pub/rscmarkdown.build" i_paraBuilder_build = true := by kernel_rfl
theorem meth_rootBuild : methB P ty_P_rootBuilder "pub-paratext/pub/rscmarkdown.build" i_rootBuilder_build = true := by kernel_rfl
end Go.Proofs.YtgbgadkldalkbaaGreatDoor


set_option linter.unusedVariables false
namespace Go.Proofs.YtgbgadkldalkbaaGreatDoor
open Go.Proofs Go.IntWalk
variable {σ : Out} {w : World} {L L' : List Chunk} {R : Ending → World → Prop}

def isSTN (c : UInt8) : Bool := c == 32 || c == 9 || c == 10
def pastSTN (l : List UInt8) (i : Nat) : Nat := l.length - ((l.drop i).dropWhile isSTN).length
theorem skipSp_ok {l : List UInt8} {i : Nat} (hl : l.length < 4611686018427387904) (hi : i ≤ l.length) (hR : R (.returned (.int .i64 (pastSTN l i))) w) : callE P i_skipSpace #[.string (bs l), .int .i64 i] R w := by
 refine g_skipSpace.sound ?_
 intro X hX
 refine scanF (l := l) (X := fun i => X (bs l) (i : Int) w) (p := isSTN) (fun i hi hp hx => hX _ _ _ ?_) i hi (fun j hj hf he => hX _ _ _ ?_)
 ·refine ⟨fun _ => ⟨by omega, by simp; omega⟩, fun _ => ⟨by omega, by simp; omega⟩, fun _ => ⟨by omega, by simp; omega⟩, br_true ?_ ?_⟩
  ·rw [bt_beq hi 32 32 rfl, bt_beq hi 9 9 rfl, bt_beq hi 10 10 rfl]
   simpa [hi, isSTN] using hp
  ·rw [i64_inc (by omega)]; exact hx
 ·have hlt : ∀ {b : Bool}, (decide ((j : Int) < ((bs l).size : Int)) && b) = true → j < l.length := by
   intro b h
   simp only [Bool.and_eq_true, decide_eq_true_eq, bs_size] at h
   omega
  refine ⟨fun h => ⟨by omega, by simpa using h⟩, fun h => ⟨by omega, by have := hlt h; simp; omega⟩, fun h => ⟨by omega, by have := hlt h; simp; omega⟩, br_false ?_ ?_⟩
  ·by_cases hi' : j < l.length
   ·rw [bt_beq hi' 32 32 rfl, bt_beq hi' 9 9 rfl, bt_beq hi' 10 10 rfl]
    simpa [hi', isSTN] using hf hi'
   ·simp [hi']
  ·have : pastSTN l i = j := by
    rw [pastSTN, ← he, List.length_drop]; omega
   rw [← this]; exact hR

theorem ta_yes1 {t xt : TypeId} {v : Value} (hu : ∀ ms, P.underlying t ≠ some (.interface ms)) {d : TypeDesc} (hd : P.underlying t = some d) (w : World) :
 (Instr.typeAssert (.iface t v) xt t false).run P w = .ok v w := by
 cases d <;> first | (exact absurd hd (hu _)) | simp [Instr.typeAssert, run_underlying hd]
theorem und_ps : P.underlying ty_P_parseState = some (.pointer ty_parseState) := by kernel_rfl
theorem ta_ps (q : Option Addr) (w : World) : (Instr.typeAssert (.iface ty_P_parseState (.pointer q)) ty_buildState ty_P_parseState false).run P w = .ok (.pointer q) w :=
 ta_yes1 (by rw [und_ps]; intro ms h; cases h) und_ps w

theorem parseLinkRefDef_no {q : Option Addr} {l : List UInt8} (hl : l.length < 4611686018427387904) (hb : (l.dropWhile isSTN).head? ≠ some 91) (hR : R (.returned (.tuple #[.int .i64 0, .bool false])) w) :
 callE P i_parseLinkRefDef #[.iface ty_P_parseState (.pointer q), .string (bs l)] R w := by
 refine g_parseLinkRefDef.sound ?_
 refine skipSp_ok (i := 0) hl (Nat.zero_le _) ⟨_, rfl, q, w, ta_ps q w, ?_⟩
 generalize hj : pastSTN l 0 = j
 have hle : (l.dropWhile isSTN).length ≤ l.length := (List.dropWhile_sublist isSTN).length_le
 have hjd : j + (l.dropWhile isSTN).length = l.length := by rw [← hj, pastSTN, List.drop_zero]; omega
 have hsuf : l.drop j = l.dropWhile isSTN := by
  obtain ⟨pre, hp⟩ := List.dropWhile_suffix isSTN (l := l)
  have hpl : pre.length = j := by have := congrArg List.length hp; simp at this; omega
  exact (congrArg (List.drop j) hp).symm.trans (by rw [← hpl, List.drop_left])
 refine g_parseLinkLabel.sound ?_
 have hlt : (!(decide ((j : Int) ≥ ((bs l).size : Int)))) = true → j < l.length := by
  intro h; simp at h; exact h
 refine ⟨fun h => ⟨by omega, by have := hlt h; simp; omega⟩, br_true ?_ ⟨_, _, _, rfl, ?_⟩⟩
 ·by_cases hjl : j < l.length
  ·have : l[j] ≠ 91 := by
    intro h91
    apply hb
    rw [← hsuf, List.drop_eq_getElem_cons hjl, h91]
    rfl
   rw [bne, bt_beq hjl 91 91 rfl]
   simp [this]
  ·simp; omega
 ·refine ⟨fun h => by simp at h, br_true rfl hR⟩

def NoRef (l : List UInt8) : Prop := ∀ (R : Ending → World → Prop) (w : World) (q : Option Addr), R (.returned (.tuple #[.int .i64 0, .bool false])) w → callE P i_parseLinkRefDef #[.iface ty_P_parseState (.pointer q), .string (bs l)] R w
theorem noRef_of {l : List UInt8} (hl : l.length < 4611686018427387904) (hb : (l.dropWhile isSTN).head? ≠ some 91) : NoRef l := fun _ _ _ hR => parseLinkRefDef_no hl hb hR
theorem join_one {q : Option Addr} {c : Nat} {s sep : List UInt8} {TM : List Chunk} (h : Sat σ w (TM ++ L)) (hS : Sl 1 ty_string q 1 c [.string (bs s)] TM)
 (hR : ∀ w, Sat σ w (TM ++ L) → R (.returned (.string (bs s))) w) : callE P i_strings_Join #[.slice q 1 c, .string (bs sep)] R w := by
 refine g_strings_Join.sound ?_
 obtain ⟨_, _, hz | ⟨tb, sp, rfl, rfl, _⟩⟩ := hS
 ·omega
 ·refine br_false rfl (br_true rfl ⟨by decide, by decide, nilP_some ?_⟩)
  exact ⟨_, Sat.ld h (.head _) rfl, hR _ h⟩
end Go.Proofs.YtgbgadkldalkbaaGreatDoor


set_option linter.unusedVariables false
namespace Go.Proofs.YtgbgadkldalkbaaGreatDoor
open Go.Proofs Go.IntWalk
variable {σ : Out} {w : World} {L L' : List Chunk} {R : Ending → World → Prop}

theorem pos_ok {b : Nat} {p : PS} {l : List OB} {o : OB} {M : List Chunk} (h : Sat σ w (p.at b :: M ++ L)) (hs : Stk p (l ++ [o]) M)
 (hR : ∀ w, Sat σ w (p.at b :: M ++ L) → R (.returned (.agg #[.int .i64 o.s, .int .i64 o.e])) w) : callE P i_parseState_pos #[.pointer (some ⟨b, 0, none⟩)] R w := by
 obtain ⟨sb, sp, hq, rfl, hsp⟩ := hs.split (by simp)
 have hn := hs.2.1
 have hlt := hs.2.2
 rw [List.length_append, List.length_singleton] at hn hlt
 refine g_parseState_pos.sound ?_
 refine Sat.bx h fun b1 w h => ?_
 repeat (first | refine nilP_some ?_ | refine h.tk fun w h => ?_ | refine ⟨_, h.ldA, ?_⟩ | refine ⟨_, _, _, h.ldA, ?_⟩)
 rw [hn, len_dec (by omega)]
 refine ⟨by omega, by omega, ?_⟩
 rw [hq]
 refine nilP_some ?_
 simp only [Addr.add_lit, Nat.zero_add, Int.toNat_natCast, Nat.add_zero]
 refine ⟨_, Sat.ld h (by first | assumption | (repeat (first | exact .head _ | apply List.Mem.tail))) (stk_get (f := 2) (by decide) (last_get o)), ?_⟩
 refine ⟨_, Sat.ld h (by first | assumption | (repeat (first | exact .head _ | apply List.Mem.tail))) (stk_get (f := 3) (by decide) (last_get o)), ?_⟩
 repeat (first | refine nilP_some ?_ | refine h.tk fun w h => ?_ | refine ⟨_, h.ldA, ?_⟩ | refine ⟨_, _, _, h.ldA, ?_⟩ | refine h.stA 0 fun w h => ?_ | refine h.stA 1 fun w h => ?_ | refine h.stA 2 fun w h => ?_ | refine h.stA 3 fun w h => ?_ | refine h.stA 4 fun w h => ?_ | refine h.stA 5 fun w h => ?_ | refine h.stA 6 fun w h => ?_ | refine h.bx fun b0 w h => ?_)
 exact hR _ h.tail

noncomputable def rowText : Row P ty_S_P_Text ty_P_Text 1 8 :=
 ⟨(P.info? ty_P_Text).getD default, ((P.info? ty_P_Text).bind (·.zero)).getD default, by kernel_rfl, by kernel_rfl, by kernel_rfl, by kernel_rfl, by kernel_rfl, by kernel_rfl, by decide⟩
def Txts (p : PS) (ts : List Nat) (M : List Chunk) : Prop := Sl 1 ty_P_Text p.tq p.tn p.tc (ts.map fun t => .pointer (some ⟨t, 0, none⟩)) M ∧ p.tn = ts.length ∧ ts.length < 1048576
def textC (t : Nat) (s e : Nat) (q : Option Addr) (n c : Nat) (raw : List UInt8) : Chunk := (t, cel [.int .i64 s, .int .i64 e, .slice q n c, .string (bs raw)] ty_Text)
theorem newText_ok {b s e : Nat} {p : PS} {ts : List Nat} {TM : List Chunk} {raw : List UInt8} (h : Sat σ w (p.at b :: TM ++ L)) (ht : Txts p ts TM) (hlen : ts.length < 1048575)
 (hR : ∀ w p' TM' t, p' = { p with tq := p'.tq, tn := ts.length + 1, tc := p'.tc } → Txts p' (ts ++ [t]) TM' → Sat σ w (p'.at b :: TM' ++ (textC t s e none 0 0 raw :: L)) →
  R (.returned (.pointer (some ⟨t, 0, none⟩))) w) :
 callE P i_parseState_newText #[.pointer (some ⟨b, 0, none⟩), .agg #[.int .i64 s, .int .i64 e], .string (bs raw)] R w := by
 have hn := ht.2.1
 refine g_parseState_newText.sound ?_
 refine Sat.bx h fun b1 w h => ?_
 repeat (first | refine nilP_some ?_ | refine h.tk fun w h => ?_ | refine ⟨_, h.ldA, ?_⟩ | refine ⟨_, _, _, h.ldA, ?_⟩)
 refine Sat.bx h fun t w h => ?_
 repeat (first | refine nilP_some ?_ | refine h.tk fun w h => ?_ | refine ⟨_, h.ldA, ?_⟩ | refine ⟨_, _, _, h.ldA, ?_⟩)
 have h : Sat σ w (textC t s e none 0 0 raw :: (b1, cel [.int .i64 s, .int .i64 e] ty_Position) :: (p.at b :: TM ++ L)) := h
 have h : Sat σ w (TM ++ (p.at b :: textC t s e none 0 0 raw :: L)) := h.less [(b1, cel [.int .i64 s, .int .i64 e] ty_Position)]
 refine Sat.app1 rowText ht.1 h (v := .pointer (some ⟨t, 0, none⟩)) rfl (by simp [Value.cells, Value.oneCell']) (by kernel_rfl) (by omega) (by omega) (by decide) fun q' c' w TM' hS' h => ?_
 have h : Sat σ w (p.at b :: TM' ++ (textC t s e none 0 0 raw :: L)) := h.re
 rw [hn] at hS' ⊢
 let p' : PS := { p with tq := q', tn := ts.length + 1, tc := c' }
 repeat (first | refine nilP_some ?_ | refine h.tk fun w h => ?_ | refine ⟨_, h.ldA, ?_⟩ | refine ⟨_, _, _, h.ldA, ?_⟩ | refine h.stA 0 fun w h => ?_ | refine h.stA 1 fun w h => ?_ | refine h.stA 2 fun w h => ?_ | refine h.stA 3 fun w h => ?_ | refine h.stA 4 fun w h => ?_ | refine h.stA 5 fun w h => ?_ | refine h.stA 6 fun w h => ?_ | refine h.bx fun b0 w h => ?_)
 refine hR _ p' TM' t rfl ⟨?_, by simp [p'], by simp; omega⟩ h
 rw [List.map_append]
 exact hS'
end Go.Proofs.YtgbgadkldalkbaaGreatDoor


set_option linter.unusedVariables false
namespace Go.Proofs.YtgbgadkldalkbaaGreatDoor
open Go.Proofs Go.IntWalk
variable {σ : Out} {w : World} {L L' : List Chunk} {R : Ending → World → Prop}

theorem und_table : P.underlying ty_P_tableBuilder = some (.pointer ty_tableBuilder) := by kernel_rfl
def paraC (nb s e t : Nat) : Chunk := (nb, cel [.int .i64 s, .int .i64 e, .pointer (some ⟨t, 0, none⟩)] ty_Paragraph)
theorem Stk.of {p p' : PS} {l : List OB} {M : List Chunk} (h : Stk p l M) (h1 : p'.stq = p.stq) (h2 : p'.stn = p.stn) (h3 : p'.stc = p.stc) : Stk p' l M := by
 unfold Stk at *; rw [h1, h2, h3]; exact h
theorem Txts.of {p p' : PS} {l : List Nat} {M : List Chunk} (h : Txts p l M) (h1 : p'.tq = p.tq) (h2 : p'.tn = p.tn) (h3 : p'.tc = p.tc) : Txts p' l M := by
 unfold Txts at *; rw [h1, h2, h3]; exact h
end Go.Proofs.YtgbgadkldalkbaaGreatDoor


set_option linter.unusedVariables false
namespace Go.Proofs.YtgbgadkldalkbaaGreatDoor
open Go.Proofs Go.IntWalk
variable {σ : Out} {w : World} {L L' : List Chunk} {R : Ending → World → Prop}

theorem equalIn_iface_nil {t u : TypeId} {v : Value} {ms : Array (String × TypeId)} (hu : P.underlying t = some (.interface ms)) (d : Nat) (w : World) :
 (Op.equalIn (d + 1) t (.iface u v) .nilIface).run P w = .ok false w := by
 simp [Op.equalIn, run_underlying hu]
theorem eq_iface_nil {t u : TypeId} {v : Value} {ms : Array (String × TypeId)} (hu : P.underlying t = some (.interface ms)) (x y : Operand) (w : World) :
 (do eqGuard .eql t x y (.iface u v) .nilIface; binOp .eql t (.iface u v) .nilIface).run P w = .ok (.bool false) w :=
 bin_eq rfl rfl (equalIn_iface_nil hu 9999 w)
theorem ta_list_no {t : TypeId} {v : Value} (ht : t ≠ ty_P_List) (w : World) :
 (Instr.typeAssert (.iface t v) ty_Block ty_P_List true).run P w = .ok (.tuple #[.pointer none, .bool false]) w := by
 have hund : P.underlying ty_P_List = some (.pointer ty_List) := by kernel_rfl
 exact ta_no (by rw [hund]; intro ms h; cases h) hund ht (i := (P.info? ty_P_List).getD default) (by kernel_rfl) (by kernel_rfl) w
theorem sliceTo {P : Program} {t e : TypeId} {i : TypeInfo} (ht : P.underlying t = some (.slice e)) (hi : P.info? e = some i) (b n c m : Nat) (hm : m ≤ n) (hc : n ≤ c) (w : World) :
 (Instr.sliceAt t (.slice (some ⟨b, 0, none⟩) n c) none (some (.int .i64 m)) none).run P w = .ok (.slice (some ⟨b, 0, none⟩) m c) w := by
 have h1 : ¬ ((m : Int) < 0) := by omega
 have h2 : ¬ ((c : Int) < (m : Int)) := by omega
 simp [Instr.sliceAt, Instr.slice, Instr.sliceBounds, run_underlying ht, sizeOf, typeInfo, hi, run_sliceBound w .i64 (m : Int) c .sliceAcap (by omega) (by omega), Addr.add_lit]
end Go.Proofs.YtgbgadkldalkbaaGreatDoor


set_option linter.unusedVariables false
namespace Go.Proofs.YtgbgadkldalkbaaGreatDoor
open Go.Proofs Go.IntWalk
variable {σ : Out} {w : World} {L L' : List Chunk} {R : Ending → World → Prop}

noncomputable def rowBlock : Row P ty_S_Block ty_Block 1 16 :=
 ⟨(P.info? ty_Block).getD default, ((P.info? ty_Block).bind (·.zero)).getD default, by kernel_rfl, by kernel_rfl, by kernel_rfl, by kernel_rfl, by kernel_rfl, by kernel_rfl, by decide⟩
theorem closeBlock_ok {b : Nat} {p : PS} {ob : List OB} {par o : OB} {M IM : List Chunk} {inner : List Value} {t : TypeId} {v : Value} (Post : PS → List Chunk → TypeId → Option Addr → Prop)
 (h : Sat σ w (p.at b :: M ++ (IM ++ L))) (hs : Stk p (ob ++ [par] ++ [o]) M) (ho : o.bd = .iface t v) (hI : Sl 1 ty_Block par.q par.n par.c inner IM) (hin : par.n < 1000000)
 (hb : ∀ (R' : Ending → World → Prop) w, Sat σ w (p.at b :: M ++ (IM ++ L)) →
  (∀ w p1 L1 tb q, p1.stq = p.stq → p1.stn = p.stn → p1.stc = p.stc → tb ≠ ty_P_List → Post p1 L1 tb q → Sat σ w (p1.at b :: M ++ (IM ++ L1)) → R' (.returned (.iface tb (.pointer q))) w) →
  enterE P (callMethod o.bd "pub-paratext/pub/rscmarkdown.build" #[.iface ty_P_parseState (.pointer (some ⟨b, 0, none⟩))]) R' w)
 (hR : ∀ w p2 M2 IM2 p1 L1 tb q q' c', Post p1 L1 tb q → p2 = { p1 with stn := ob.length + 1 } → Stk p2 (ob ++ [{ par with q := q', n := par.n + 1, c := c' }]) M2 →
  Sl 1 ty_Block q' (par.n + 1) c' (inner ++ [.iface tb (.pointer q)]) IM2 → Sat σ w (p2.at b :: M2 ++ (IM2 ++ L1)) → R (.returned (.iface tb (.pointer q))) w) :
 callE P i_parseState_closeBlock #[.pointer (some ⟨b, 0, none⟩)] R w := by
 have hlt := hs.2.2
 have hn := hs.2.1
 obtain ⟨sb, sp, hq, rfl, hsp⟩ := hs.split (by simp)
 simp only [List.length_append, List.length_singleton] at hn hlt
 refine g_parseState_closeBlock.sound ?_
 refine h.tk fun w h => ?_
 refine nilP_some (nilP_some ?_)
 refine ⟨_, _, _, h.ldA, ?_⟩
 refine ⟨_, _, _, h.ldA, ?_⟩
 rw [hn, len_dec (by omega)]
 refine ⟨by omega, by omega, ?_⟩
 rw [hq]
 refine nilP_some ?_
 simp only [Addr.add_lit, Nat.zero_add, Int.toNat_natCast]
 have hg : ((ob ++ [par]) ++ [o])[ob.length + 1]? = some o := by simp
 refine ⟨o.bd, Sat.ld h (.tail _ (.head _)) (stk_get (f := 0) (by decide) hg), false, w, by rw [ho]; exact eq_iface_nil und_bb _ _ w, br_false rfl ?_⟩
 refine nilP_some ?_
 refine ⟨o.bd, Sat.ld h (.tail _ (.head _)) (stk_get (f := 0) (by decide) hg), ?_⟩
 refine hb _ w h fun w p1 L1 tb q h1 h2 h3 htb hpost h => ⟨_, rfl, none, false, w, ta_list_no htb w, br_false rfl ?_⟩
 have hq1 : p1.stq = some ⟨sb, 0, none⟩ := by rw [h1, hq]
 have hn1 : p1.stn = ob.length + 1 + 1 := by rw [h2, hn]
 refine h.tk fun w h => ?_
 refine nilP_some (nilP_some ?_)
 refine ⟨_, _, _, h.ldA, ?_⟩
 refine ⟨_, _, _, h.ldA, ?_⟩
 rw [hn1, len_dec (by omega), hq1]
 have hcap : ob.length + 1 + 1 ≤ p1.stc := by have := hs.1.2.1; rw [hn] at this; rw [h3]; exact this
 refine ⟨_, _, _, fun w => sliceTo rowOB.ht rowOB.hi sb (ob.length + 1 + 1) p1.stc (ob.length + 1) (by omega) hcap w, ?_⟩
 refine nilP_some ?_
 refine h.stA 0 fun w h => ?_
 let p2 : PS := { p1 with stq := some ⟨sb, 0, none⟩, stn := ob.length + 1 }
 have hp2 : p2 = { p1 with stn := ob.length + 1 } := by simp only [p2, ← hq1]
 have h : Sat σ w (p2.at b :: [(sb, cel (obCells (ob ++ [par]) ++ (o.cells ++ sp)) ty_openBlock)] ++ (IM ++ L1)) := by
  rw [obCells_snoc, List.append_assoc] at h
  exact h
 refine nilP_some ?_
 refine ⟨_, _, _, h.ldA, ?_⟩
 refine br_true (by simp [p2]) ?_
 refine h.tk fun w h => ?_
 refine nilP_some (nilP_some ?_)
 refine ⟨_, _, _, h.ldA, ?_⟩
 refine ⟨_, _, _, h.ldA, ?_⟩
 rw [show p2.stn = ob.length + 1 from rfl, len_dec (by omega), show p2.stq = some ⟨sb, 0, none⟩ from rfl]
 refine ⟨by omega, by omega, nilP_some ?_⟩
 simp only [Addr.add_lit, Nat.zero_add, Int.toNat_natCast, Nat.add_zero]
 refine ⟨_, _, _, Sat.ld h (.tail _ (.head _)) (stk_get (f := 1) (by decide) (last_get par)), ?_⟩
 have h : Sat σ _ (IM ++ (p2.at b :: (sb, cel (obCells (ob ++ [par]) ++ (o.cells ++ sp)) ty_openBlock) :: L1)) := h.re
 refine Sat.app1 rowBlock hI h (v := .iface tb (.pointer q)) rfl (by simp [Value.cells, Value.oneCell']) (by kernel_rfl) (by omega) (by omega) (by decide) fun q' c' w IM2 hI' h => ?_
 have h : Sat σ _ (p2.at b :: (sb, cel (obCells (ob ++ [par]) ++ (o.cells ++ sp)) ty_openBlock) :: (IM2 ++ L1)) := h.re
 refine Sat.st h (k := 1) rfl (by rw [List.length_append, obCells_length, List.length_append, List.length_singleton]; omega) trivial rfl fun w h => ?_
 have e := stk_set (l := ob) (sp := o.cells ++ sp) (o := par) (o' := { par with q := q', n := par.n + 1, c := c' }) (f := 1) (v := .slice q' (par.n + 1) c') (by decide) rfl
 have h : Sat σ w (p2.at b :: (sb, cel (obCells (ob ++ [{ par with q := q', n := par.n + 1, c := c' }]) ++ (o.cells ++ sp)) ty_openBlock) :: (IM2 ++ L1)) := by
  rw [← e]; exact h
 have hs2 : Stk p2 (ob ++ [{ par with q := q', n := par.n + 1, c := c' }]) [(sb, cel (obCells (ob ++ [{ par with q := q', n := par.n + 1, c := c' }]) ++ (o.cells ++ sp)) ty_openBlock)] := by
  refine Stk.mk' rfl ?_ (by simp [p2]) (by simp; omega)
  show _ = p1.stc * 4
  rw [h3, ← hsp]
  simp only [List.length_append, obCells_length, List.length_singleton, OB.cells, List.length_cons, List.length_nil]
  omega
 refine hR w p2 _ IM2 p1 L1 tb q q' c' hpost hp2 hs2 hI' h
end Go.Proofs.YtgbgadkldalkbaaGreatDoor


set_option linter.unusedVariables false
namespace Go.Proofs.YtgbgadkldalkbaaGreatDoor
open Go.Proofs Go.IntWalk
variable {σ : Out} {w : World} {L L' : List Chunk} {R : Ending → World → Prop}

def docC (db s e : Nat) (q : Option Addr) (n c : Nat) (links : Option Nat) : Chunk := (db, cel [.int .i64 s, .int .i64 e, .slice q n c, .map links] ty_Document)
theorem rootBuild_ok {b : Nat} {rq : Option Addr} {p : PS} {ob : List OB} {o : OB} {M : List Chunk} (h : Sat σ w (p.at b :: M ++ L)) (hs : Stk p (ob ++ [o]) M)
 (hR : ∀ w db, Sat σ w (p.at b :: M ++ (docC db o.s o.e o.q o.n o.c p.links :: L)) → R (.returned (.iface ty_P_Document (.pointer (some ⟨db, 0, none⟩)))) w) :
 callE P i_rootBuilder_build #[.pointer rq, .iface ty_P_parseState (.pointer (some ⟨b, 0, none⟩))] R w := by
 refine g_rootBuilder_build.sound ?_
 refine h.tk fun w h => ?_
 refine ⟨_, ta_ps _, nilP_some ?_⟩
 refine ⟨_, h.ldA, ?_⟩
 have h0 := h
 refine enter_meth meth_pos ?_
 refine pos_ok h hs fun w h => ⟨_, _, rfl, h0.same h (.head _) (.head _) 1, ?_⟩
 have h1 := h
 refine enter_meth meth_blocks ?_
 refine blocks_ok h hs fun w h => ⟨_, _, _, rfl, h1.same h (.head _) (.head _) 1, ?_⟩
 refine Sat.bx h fun db w h => ?_
 have h : Sat σ w (docC db o.s o.e o.q o.n o.c p.links :: (p.at b :: M ++ L)) := h
 exact hR w db (h.re)
theorem ta_doc (q : Option Addr) (w : World) : (Instr.typeAssert (.iface ty_P_Document (.pointer q)) ty_Block ty_P_Document false).run P w = .ok (.pointer q) w := by
 have hund : P.underlying ty_P_Document = some (.pointer ty_Document) := by kernel_rfl
 exact ta_yes1 (by rw [hund]; intro ms h; cases h) hund w
theorem closeRoot_ok {b rb : Nat} {p : PS} {o : OB} {M : List Chunk} (h : Sat σ w (p.at b :: M ++ L)) (hs : Stk p [o] M) (ho : o.bd = .iface ty_P_rootBuilder (.pointer (some ⟨rb, 0, none⟩)))
 (hR : ∀ w db, Sat σ w ({ p with stn := 0, root := some ⟨db, 0, none⟩ }.at b :: M ++ (docC db o.s o.e o.q o.n o.c p.links :: L)) → R (.returned (.iface ty_P_Document (.pointer (some ⟨db, 0, none⟩)))) w) :
 callE P i_parseState_closeBlock #[.pointer (some ⟨b, 0, none⟩)] R w := by
 have hn := hs.2.1
 have hs' : Stk p ([] ++ [o]) M := hs
 obtain ⟨sb, sp, hq, rfl, hsp⟩ := hs.split (by simp)
 simp only [List.length_singleton] at hn
 refine g_parseState_closeBlock.sound ?_
 refine h.tk fun w h => ?_
 refine nilP_some (nilP_some ?_)
 refine ⟨_, _, _, h.ldA, ?_⟩
 refine ⟨_, _, _, h.ldA, ?_⟩
 rw [hn, show IntKind.i64.wrap (((1 : Nat) : Int) - 1) = ((0 : Nat) : Int) from rfl]
 refine ⟨by omega, by omega, ?_⟩
 rw [hq]
 refine nilP_some ?_
 simp only [Addr.add_lit, Nat.zero_add, Int.toNat_natCast, Nat.zero_mul]
 have hg : (([] : List OB) ++ [o])[0]? = some o := rfl
 refine ⟨o.bd, Sat.ld h (.tail _ (.head _)) rfl, false, w, by rw [ho]; exact eq_iface_nil und_bb _ _ w, br_false rfl ?_⟩
 refine nilP_some ?_
 refine ⟨o.bd, Sat.ld h (.tail _ (.head _)) rfl, ?_⟩
 rw [ho]
 refine enter_meth meth_rootBuild ?_
 refine rootBuild_ok (ob := []) h hs' fun w db h => ⟨_, rfl, none, false, w, ta_list_no (by decide) w, br_false rfl ?_⟩
 refine h.tk fun w h => ?_
 refine nilP_some (nilP_some ?_)
 refine ⟨_, _, _, h.ldA, ?_⟩
 refine ⟨_, _, _, h.ldA, ?_⟩
 have hcap : 1 ≤ p.stc := by have := hs.1.2.1; rw [hn] at this; exact this
 rw [hn, show IntKind.i64.wrap (((1 : Nat) : Int) - 1) = ((0 : Nat) : Int) from rfl, hq]
 refine ⟨_, _, _, fun w => sliceTo rowOB.ht rowOB.hi sb 1 p.stc 0 (by omega) hcap w, ?_⟩
 refine nilP_some ?_
 refine h.stA 0 fun w h => ?_
 refine nilP_some ?_
 refine ⟨_, _, _, h.ldA, ?_⟩
 refine br_false rfl ?_
 refine ⟨_, _, ta_doc _ _, nilP_some ?_⟩
 refine h.stA 0 fun w h => ?_
 refine hR _ db ?_
 have e : ({ p with stn := 0, root := some ⟨db, 0, none⟩ } : PS) = { p with stq := some ⟨sb, 0, none⟩, stn := 0, root := some ⟨db, 0, none⟩ } := by rw [← hq]
 rw [e]
 exact h
end Go.Proofs.YtgbgadkldalkbaaGreatDoor


set_option linter.unusedVariables false
namespace Go.Proofs.YtgbgadkldalkbaaGreatDoor
open Go.Proofs Go.IntWalk
variable {σ : Out} {w : World} {L L' : List Chunk} {R : Ending → World → Prop}

noncomputable def rowInl : Row P ty_S_Inline ty_Inline 1 16 :=
 ⟨(P.info? ty_Inline).getD default, ((P.info? ty_Inline).bind (·.zero)).getD default, by kernel_rfl, by kernel_rfl, by kernel_rfl, by kernel_rfl, by kernel_rfl, by kernel_rfl, by decide⟩
def Inls (p : PS) (vs : List Value) (M : List Chunk) : Prop := Sl 1 ty_Inline p.lq p.ln p.lc vs M ∧ vs.length < 4294967296
def plainC (b : Nat) (s : List UInt8) : Chunk := (b, cel [.string (bs s)] ty_Plain)

theorem skipTo_ok {b : Nat} {p : PS} {i : Int} (h : Sat σ w (p.at b :: L)) (hR : ∀ w, Sat σ w ({ p with em := i }.at b :: L) → R (.returned (.tuple #[])) w) :
 callE P i_parseState_skip #[.pointer (some ⟨b, 0, none⟩), .int .i64 i] R w := by
 refine g_parseState_skip.sound ?_
 refine nilP_some ?_
 refine h.stA 0 fun w h => ?_
 exact hR _ h
theorem emit_no {b : Nat} {p : PS} {i : Int} (h : Sat σ w (p.at b :: L)) (hi : i ≤ p.em) (hR : ∀ w, Sat σ w (p.at b :: L) → R (.returned (.tuple #[])) w) :
 callE P i_parseState_emit #[.pointer (some ⟨b, 0, none⟩), .int .i64 i] R w := by
 refine g_parseState_emit.sound ?_
 refine nilP_some ?_
 refine ⟨_, h.ldA, ?_⟩
 exact br_false (by simpa using hi) (hR _ h)
theorem emit_ok {b i e : Nat} {p : PS} {vs : List Value} {M : List Chunk} (h : Sat σ w (p.at b :: M ++ L)) (hv : Inls p vs M) (he : p.em = e) (hi : e < i) (hl : i ≤ p.s.length) (hn : vs.length < 4294967295)
 (hR : ∀ w p' M' nb, p' = { p with em := i, lq := p'.lq, ln := vs.length + 1, lc := p'.lc } → Inls p' (vs ++ [.iface ty_P_Plain (.pointer (some ⟨nb, 0, none⟩))]) M' →
  Sat σ w (p'.at b :: M' ++ (plainC nb ((p.s.take i).drop e) :: L)) → R (.returned (.tuple #[])) w) :
 callE P i_parseState_emit #[.pointer (some ⟨b, 0, none⟩), .int .i64 i] R w := by
 have hln : p.ln = vs.length := by have := hv.1.1; omega
 refine g_parseState_emit.sound ?_
 refine nilP_some ?_
 refine ⟨_, h.ldA, ?_⟩
 rw [he]
 refine br_true (by simpa using hi) ?_
 refine h.tk fun w h => ?_
 refine nilP_some (nilP_some (nilP_some ?_))
 refine ⟨_, _, _, h.ldA, ?_⟩
 refine ⟨_, h.ldA, ?_⟩
 refine ⟨_, h.ldA, ?_⟩
 rw [he]
 refine ⟨by omega, by omega, by simp; omega, ?_⟩
 rw [Int.toNat_natCast, Int.toNat_natCast, bs_extract]
 have h0 := h
 refine Sat.bx h fun nb w h => ?_
 refine ⟨h0.same h (.head _) (.tail _ (.head _)) 1, ?_⟩
 have h : Sat σ w (M ++ (p.at b :: plainC nb ((p.s.take i).drop e) :: L)) := Sat.re (L := plainC nb ((p.s.take i).drop e) :: (p.at b :: M ++ L)) h
 have hs0 := h0
 refine Sat.app1S rowInl hv.1 h (v := .iface ty_P_Plain (.pointer (some ⟨nb, 0, none⟩))) rfl (by simp [Value.cells, Value.oneCell']) (by kernel_rfl) (by omega) (by omega) (by decide)
  (C := fun w1 => SameC _ w1 _ 1) (fun w1 X h' => Sat.same h h' (b := b) (o := cel p.cells ty_parseState) (by simp) (by simp) 1) fun q' c' w M' hS' h => ?_
 have h : Sat σ w (p.at b :: M' ++ (plainC nb ((p.s.take i).drop e) :: L)) := h.re
 let p' : PS := { p with em := i, lq := q', ln := p.ln + 1, lc := c' }
 refine nilP_some ?_
 refine h.stA 0 fun w h => ?_
 refine nilP_some ?_
 refine h.stA 0 fun w h => ?_
 refine hR _ p' M' nb (by simp [p', hln]) ⟨hS', by simp; omega⟩ h
end Go.Proofs.YtgbgadkldalkbaaGreatDoor


set_option linter.unusedVariables false
set_option maxRecDepth 20000
namespace Go.Proofs.YtgbgadkldalkbaaGreatDoor
open Go.Proofs
namespace g_strings_Builder_String
noncomputable def body : Code := bodyOf Tryz.f84
end g_strings_Builder_String
def g_strings_Builder_String (R : EP) (x0 : OA) (w : World) : Prop :=
 tk w fun w1 =>
 nilP x0 fun a2 =>
 nilP x0 fun a3 =>
 ∃ (v4q : OA), ∃ (v4n : Nat), ∃ (v4c : Nat), w1.cell? (a2.add 1) = some (.slice v4q v4n v4c) ∧
 ∃ (v5q : OA), ∃ (v5n : Nat), ∃ (v5c : Nat), w1.cell? (a3.add 1) = some (.slice v5q v5n v5c) ∧
 ∃ (r6 : OA), ∃ w7, (Builtin.unsafeSliceData_ #[ty_S_uint8] ty_P_uint8 #[.slice v4q v4n v4c]).run P w1 = .ok (.pointer r6) w7 ∧
 SameC w1 w7 (a3.add 1) 1 ∧
 ∃ (r8 : BA), ∃ w9, (Builtin.unsafeString_ #[ty_P_uint8, ty_int] ty_string #[.pointer r6, .int .i64 (v5n : Int)]).run P w7 = .ok (.string r8) w9 ∧
 R (.returned (.string r8)) w9

namespace g_strings_Builder_String
noncomputable def ac (R : EP) : AC :=
 (.seq (.leaf (sel [0] body)) (.seq (.draw (.pure 0 (.pure 1 (.pure 2 (.pure 5 (.pure 6 (.pure 7 (.load 3 (.load 8 (.pure 9 (.one 4 (.one 10 (.pure 11 .done)))))))))))) (sel [1,0] body)) (.leaf (sel [1,1] body))))
theorem good (R : EP) : Good P 14 (ac R) (QF P [.tmp 2] R) :=
 ⟨trivial, ⟨⟨by kernel_rfl, by kernel_rfl, fun _ _ _ h => h⟩, trivial⟩⟩
theorem eq (R : EP) (x0 : OA) (w : World) : g_strings_Builder_String R x0 w = vcA P 14 (ac R) (QF P [.tmp 2] R) (fr0 [.pointer x0]) w := by kernel_rfl
theorem sound {R : EP} {x0 : OA} {w : World} (h : g_strings_Builder_String R x0 w) : callE P i_strings_Builder_String #[.pointer x0] R w :=
 callE_fz (c := body) Tryz.func84 Tryz.call84 (good R) (eq R x0 w) h
end g_strings_Builder_String
namespace g_strings_Builder_WriteString
noncomputable def body : Code := bodyOf Tryz.f82
end g_strings_Builder_WriteString
def g_strings_Builder_WriteString (R : EP) (x0 : OA) (x1 : BA) (w : World) : Prop :=
 callE P i_strings_Builder_copyCheck #[.pointer x0] (fun e w2 => e = .returned (.tuple #[]) ∧
 nilP x0 fun a3 =>
 ∃ (v4q : OA), ∃ (v4n : Nat), ∃ (v4c : Nat), w2.cell? (a3.add 1) = some (.slice v4q v4n v4c) ∧
 ∃ (r5q : OA), ∃ (r5n : Nat), ∃ (r5c : Nat), ∃ w6, (Builtin.append_ #[ty_S_uint8, ty_string] ty_S_uint8 #[.slice v4q v4n v4c, .string x1]).run P w2 = .ok (.slice r5q r5n r5c) w6 ∧
 nilP x0 fun a7 =>
 stV w6 ((a7.add 1).add 0) (.slice r5q r5n r5c) fun w8 =>
 R (.returned (.tuple #[.int .i64 (x1.size : Int), .nilIface])) w8) w

namespace g_strings_Builder_WriteString
noncomputable def ac (R : EP) : AC :=
 (.leaf (sel [] body))
theorem good (R : EP) : Good P 19 (ac R) (QF P [.tmp 4, .tmp 5] R) :=
 trivial
theorem eq (R : EP) (x0 : OA) (x1 : BA) (w : World) : g_strings_Builder_WriteString R x0 x1 w = vcA P 19 (ac R) (QF P [.tmp 4, .tmp 5] R) (fr0 [.pointer x0, .string x1]) w := by kernel_rfl
theorem sound {R : EP} {x0 : OA} {x1 : ByteArray} {w : World} (h : g_strings_Builder_WriteString R x0 x1 w) : callE P i_strings_Builder_WriteString #[.pointer x0, .string x1] R w :=
 callE_fz (c := body) Tryz.func82 Tryz.call82 (good R) (eq R x0 x1 w) h
end g_strings_Builder_WriteString
namespace g_strings_Builder_copyCheck
noncomputable def body : Code := bodyOf Tryz.f122
end g_strings_Builder_copyCheck
def g_strings_Builder_copyCheck (R : EP) (x0 : OA) (w : World) : Prop :=
 nilP x0 fun a1 =>
 ∃ (v2 : OA), w.cell? a1 = some (.pointer v2) ∧
 ∃ (r3 : Bool), ∃ w4, (do eqGuard .eql ty_P_strings_Builder (.tmp 5) (.const (.pointer none)) (.pointer v2) (.pointer none); binOp .eql ty_P_strings_Builder (.pointer v2) (.pointer none)).run P w = .ok (.bool r3) w4 ∧
 br r3
 (∃ (r5 : OA), ∃ w6, (convert ty_P_strings_Builder ty_unsafe_Pointer (.pointer x0)).run P w4 = .ok (.pointer r5) w6 ∧
 callE P i_internal_abi_NoEscape #[.pointer r5] (fun e w8 => ∃ (r7 : OA), e = .returned (.pointer r7) ∧
 ∃ (r9 : OA), ∃ w10, (convert ty_unsafe_Pointer ty_P_strings_Builder (.pointer r7)).run P w8 = .ok (.pointer r9) w10 ∧
 nilP x0 fun a11 =>
 stV w10 (a11.add 0) (.pointer r9) fun w12 =>
 R (.returned (.tuple #[])) w12) w6)
 (nilP x0 fun a13 =>
 ∃ (v14 : OA), w4.cell? a13 = some (.pointer v14) ∧
 ∃ (r15 : Bool), ∃ w16, (do eqGuard .neq ty_P_strings_Builder (.tmp 17) (.tmp 18) (.pointer v14) (.pointer x0); binOp .neq ty_P_strings_Builder (.pointer v14) (.pointer x0)).run P w4 = .ok (.bool r15) w16 ∧
 br r15
 (False)
 (R (.returned (.tuple #[])) w16))

namespace g_strings_Builder_copyCheck
noncomputable def ac (R : EP) : AC :=
 (.leaf (sel [] body))
theorem good (R : EP) : Good P 20 (ac R) (QF P [] R) :=
 trivial
theorem eq (R : EP) (x0 : OA) (w : World) : g_strings_Builder_copyCheck R x0 w = vcA P 20 (ac R) (QF P [] R) (fr0 [.pointer x0]) w := by kernel_rfl
theorem sound {R : EP} {x0 : OA} {w : World} (h : g_strings_Builder_copyCheck R x0 w) : callE P i_strings_Builder_copyCheck #[.pointer x0] R w :=
 callE_fz (c := body) Tryz.func122 Tryz.call122 (good R) (eq R x0 w) h
end g_strings_Builder_copyCheck
end Go.Proofs.YtgbgadkldalkbaaGreatDoor
