/- Part 2 of the proof of the law FnNumeric: for every input the law returns true, the inputs read as they did, and memory that was there is as it was; under the conditions of the given row alone. Holds: G_internal_strconv_lower G_strconv_Atoi G_strconv_ParseInt G_isPunct G_isUnicodePunct G_isUnicodeSpace G_parseEmph G_unicode_utf8_DecodeLastRuneInString G_unicode_utf8_DecodeRuneInString G_parseState_inline G_parseState_mergePlain G_mergePlain1 G_toPlain G_parseState_emph G_parseState_emit G_parseState_skip G_parseState_trimStack G_parseState_closeBlock G_rootBuilder_build G_paraBuilder_build G_parseState_newText G_parseState_pos G_parseLinkLabel G_parseLinkRefDef G_skipSpace G_strings_Join G_parseState_addLine G_news G_newPara G_newPre. -/
import Derived.Test.YtmkfleohcnopkaaGreatDoorA1
set_option linter.all false
set_option linter.unusedVariables false
set_option maxRecDepth 20000
namespace Go.Proofs.YtmkfleohcnopkaaGreatDoor
open Go.Proofs
/- 186 internal/strconv.lower -/
noncomputable def g_internal_strconv_lower.body : Code := bodyOf Tryz.f186
def g_internal_strconv_lower (R : Ending → World → Prop) (x0 : Int) (w : World) : Prop :=
 R (.returned (.int .u8 (bitOr .u8 x0 32))) w

noncomputable def g_internal_strconv_lower.ac (R : Ending → World → Prop) : AC :=
  (.leaf (sel [] g_internal_strconv_lower.body))
theorem g_internal_strconv_lower.good (R : Ending → World → Prop) : Good P 5 (g_internal_strconv_lower.ac R) (QF P [.tmp 2] R) :=
  trivial
theorem g_internal_strconv_lower.eq (R : Ending → World → Prop) (x0 : Int) (w : World) : g_internal_strconv_lower R x0 w = vcA P 5 (g_internal_strconv_lower.ac R) (QF P [.tmp 2] R) (fr0 [.int .u8 x0]) w := by kernel_rfl
theorem g_internal_strconv_lower.sound {R : Ending → World → Prop} {x0 : Int} {w : World} (h : g_internal_strconv_lower R x0 w) : callE P i_internal_strconv_lower #[.int .u8 x0] R w :=
  callE_fin (c := g_internal_strconv_lower.body) Tryz.func186 Tryz.call186 (by kernel_rfl) (by kernel_rfl) (by kernel_rfl) (by kernel_rfl) (by kernel_rfl) (g_internal_strconv_lower.good R) (g_internal_strconv_lower.eq R x0 w) h
end Go.Proofs.YtmkfleohcnopkaaGreatDoor

set_option linter.unusedVariables false
set_option maxRecDepth 20000
namespace Go.Proofs.YtmkfleohcnopkaaGreatDoor
open Go.Proofs
/- 98 strconv.Atoi -/
noncomputable def g_strconv_Atoi.body : Code := bodyOf Tryz.f98
def g_strconv_Atoi (R : Ending → World → Prop) (x0 : ByteArray) (w : World) : Prop :=
 callE P i_internal_strconv_Atoi #[.string x0] (fun e w2 => ∃ (r1_0 : Int), ∃ (r1_1 : Value), e = .returned (.tuple #[.int .i64 r1_0, r1_1]) ∧
 ∃ (r3 : Bool), ∃ w4, (do eqGuard .neq ty_error (.tmp 11) (.const .nilIface) r1_1 .nilIface; binOp .neq ty_error r1_1 .nilIface).run P w2 = .ok (.bool r3) w4 ∧
 br r3
 (callE P i_strconv_toError #[.string (ByteArray.mk #[65, 116, 111, 105]), .string x0, .int .i64 0, .int .i64 0, r1_1] (fun e w6 => ∃ (r5 : Value), e = .returned r5 ∧
 R (.returned (.tuple #[.int .i64 r1_0, r5])) w6) w4)
 (R (.returned (.tuple #[.int .i64 r1_0, .nilIface])) w4)) w

noncomputable def g_strconv_Atoi.ac (R : Ending → World → Prop) : AC :=
  (.leaf (sel [] g_strconv_Atoi.body))
theorem g_strconv_Atoi.good (R : Ending → World → Prop) : Good P 18 (g_strconv_Atoi.ac R) (QF P [.tmp 2, .tmp 3] R) :=
  trivial
theorem g_strconv_Atoi.eq (R : Ending → World → Prop) (x0 : ByteArray) (w : World) : g_strconv_Atoi R x0 w = vcA P 18 (g_strconv_Atoi.ac R) (QF P [.tmp 2, .tmp 3] R) (fr0 [.string x0]) w := by kernel_rfl
theorem g_strconv_Atoi.sound {R : Ending → World → Prop} {x0 : ByteArray} {w : World} (h : g_strconv_Atoi R x0 w) : callE P i_strconv_Atoi #[.string x0] R w :=
  callE_fin (c := g_strconv_Atoi.body) Tryz.func98 Tryz.call98 (by kernel_rfl) (by kernel_rfl) (by kernel_rfl) (by kernel_rfl) (by kernel_rfl) (g_strconv_Atoi.good R) (g_strconv_Atoi.eq R x0 w) h
end Go.Proofs.YtmkfleohcnopkaaGreatDoor

set_option linter.unusedVariables false
set_option maxRecDepth 20000
namespace Go.Proofs.YtmkfleohcnopkaaGreatDoor
open Go.Proofs
/- 96 strconv.ParseInt -/
noncomputable def g_strconv_ParseInt.body : Code := bodyOf Tryz.f96
def g_strconv_ParseInt (R : Ending → World → Prop) (x0 : ByteArray) (x1 : Int) (x2 : Int) (w : World) : Prop :=
 callE P i_internal_strconv_ParseInt #[.string x0, .int .i64 x1, .int .i64 x2] (fun e w2 => ∃ (r1_0 : Int), ∃ (r1_1 : Value), e = .returned (.tuple #[.int .i64 r1_0, r1_1]) ∧
 ∃ (r3 : Bool), ∃ w4, (do eqGuard .neq ty_error (.tmp 16) (.const .nilIface) r1_1 .nilIface; binOp .neq ty_error r1_1 .nilIface).run P w2 = .ok (.bool r3) w4 ∧
 br r3
 (callE P i_strconv_toError #[.string (ByteArray.mk #[80, 97, 114, 115, 101, 73, 110, 116]), .string x0, .int .i64 x1, .int .i64 x2, r1_1] (fun e w6 => ∃ (r5 : Value), e = .returned r5 ∧
 R (.returned (.tuple #[.int .i64 r1_0, r5])) w6) w4)
 (R (.returned (.tuple #[.int .i64 r1_0, .nilIface])) w4)) w

noncomputable def g_strconv_ParseInt.ac (R : Ending → World → Prop) : AC :=
  (.leaf (sel [] g_strconv_ParseInt.body))
theorem g_strconv_ParseInt.good (R : Ending → World → Prop) : Good P 25 (g_strconv_ParseInt.ac R) (QF P [.tmp 6, .tmp 7] R) :=
  trivial
theorem g_strconv_ParseInt.eq (R : Ending → World → Prop) (x0 : ByteArray) (x1 : Int) (x2 : Int) (w : World) : g_strconv_ParseInt R x0 x1 x2 w = vcA P 25 (g_strconv_ParseInt.ac R) (QF P [.tmp 6, .tmp 7] R) (fr0 [.string x0, .int .i64 x1, .int .i64 x2]) w := by kernel_rfl
theorem g_strconv_ParseInt.sound {R : Ending → World → Prop} {x0 : ByteArray} {x1 : Int} {x2 : Int} {w : World} (h : g_strconv_ParseInt R x0 x1 x2 w) : callE P i_strconv_ParseInt #[.string x0, .int .i64 x1, .int .i64 x2] R w :=
  callE_fin (c := g_strconv_ParseInt.body) Tryz.func96 Tryz.call96 (by kernel_rfl) (by kernel_rfl) (by kernel_rfl) (by kernel_rfl) (by kernel_rfl) (g_strconv_ParseInt.good R) (g_strconv_ParseInt.eq R x0 x1 x2 w) h
end Go.Proofs.YtmkfleohcnopkaaGreatDoor

set_option linter.unusedVariables false
set_option maxRecDepth 20000
namespace Go.Proofs.YtmkfleohcnopkaaGreatDoor
open Go.Proofs
/- 86 pub-paratext/pub/rscmarkdown.isPunct -/
noncomputable def g_isPunct.body : Code := bodyOf Tryz.f86
def g_isPunct (R : Ending → World → Prop) (x0 : Int) (w : World) : Prop :=
 R (.returned (.bool (((((decide (33 ≤ x0)) && (decide (x0 ≤ 47))) || ((decide (58 ≤ x0)) && (decide (x0 ≤ 64)))) || ((decide (91 ≤ x0)) && (decide (x0 ≤ 96)))) || ((decide (123 ≤ x0)) && (decide (x0 ≤ 126)))))) w

noncomputable def g_isPunct.ac (R : Ending → World → Prop) : AC :=
  (.leaf (sel [] g_isPunct.body))
theorem g_isPunct.good (R : Ending → World → Prop) : Good P 33 (g_isPunct.ac R) (QF P [.tmp 2] R) :=
  trivial
theorem g_isPunct.eq (R : Ending → World → Prop) (x0 : Int) (w : World) : g_isPunct R x0 w = vcA P 33 (g_isPunct.ac R) (QF P [.tmp 2] R) (fr0 [.int .u8 x0]) w := by kernel_rfl
theorem g_isPunct.sound {R : Ending → World → Prop} {x0 : Int} {w : World} (h : g_isPunct R x0 w) : callE P i_isPunct #[.int .u8 x0] R w :=
  callE_fin (c := g_isPunct.body) Tryz.func86 Tryz.call86 (by kernel_rfl) (by kernel_rfl) (by kernel_rfl) (by kernel_rfl) (by kernel_rfl) (g_isPunct.good R) (g_isPunct.eq R x0 w) h
end Go.Proofs.YtmkfleohcnopkaaGreatDoor

set_option linter.unusedVariables false
set_option maxRecDepth 20000
namespace Go.Proofs.YtmkfleohcnopkaaGreatDoor
open Go.Proofs
/- 94 pub-paratext/pub/rscmarkdown.isUnicodePunct -/
noncomputable def g_isUnicodePunct.body : Code := bodyOf Tryz.f94
def g_isUnicodePunct (R : Ending → World → Prop) (x0 : Int) (w : World) : Prop :=
 br (decide (x0 < 128))
 (callE P i_isPunct #[.int .u8 (IntKind.u8.wrap x0)] (fun e w2 => ∃ (r1 : Bool), e = .returned (.bool r1) ∧
 R (.returned (.bool r1)) w2) w)
 (callE P i_zzPunct #[.int .i32 x0] (fun e w4 => ∃ (r3 : Bool), e = .returned (.bool r3) ∧
 R (.returned (.bool r3)) w4) w)

noncomputable def g_isUnicodePunct.ac (R : Ending → World → Prop) : AC :=
  (.leaf (sel [] g_isUnicodePunct.body))
theorem g_isUnicodePunct.good (R : Ending → World → Prop) : Good P 10 (g_isUnicodePunct.ac R) (QF P [.tmp 2] R) :=
  trivial
theorem g_isUnicodePunct.eq (R : Ending → World → Prop) (x0 : Int) (w : World) : g_isUnicodePunct R x0 w = vcA P 10 (g_isUnicodePunct.ac R) (QF P [.tmp 2] R) (fr0 [.int .i32 x0]) w := by kernel_rfl
theorem g_isUnicodePunct.sound {R : Ending → World → Prop} {x0 : Int} {w : World} (h : g_isUnicodePunct R x0 w) : callE P i_isUnicodePunct #[.int .i32 x0] R w :=
  callE_fin (c := g_isUnicodePunct.body) Tryz.func94 Tryz.call94 (by kernel_rfl) (by kernel_rfl) (by kernel_rfl) (by kernel_rfl) (by kernel_rfl) (g_isUnicodePunct.good R) (g_isUnicodePunct.eq R x0 w) h
end Go.Proofs.YtmkfleohcnopkaaGreatDoor

set_option linter.unusedVariables false
set_option maxRecDepth 20000
namespace Go.Proofs.YtmkfleohcnopkaaGreatDoor
open Go.Proofs
/- 93 pub-paratext/pub/rscmarkdown.isUnicodeSpace -/
noncomputable def g_isUnicodeSpace.body : Code := bodyOf Tryz.f93
def g_isUnicodeSpace (R : Ending → World → Prop) (x0 : Int) (w : World) : Prop :=
 br (decide (x0 < 128))
 (R (.returned (.bool ((((x0 == 32) || (x0 == 9)) || (x0 == 12)) || (x0 == 10)))) w)
 (callE P i_zzZs #[.int .i32 x0] (fun e w2 => ∃ (r1 : Bool), e = .returned (.bool r1) ∧
 R (.returned (.bool r1)) w2) w)

noncomputable def g_isUnicodeSpace.ac (R : Ending → World → Prop) : AC :=
  (.leaf (sel [] g_isUnicodeSpace.body))
theorem g_isUnicodeSpace.good (R : Ending → World → Prop) : Good P 21 (g_isUnicodeSpace.ac R) (QF P [.tmp 2] R) :=
  trivial
theorem g_isUnicodeSpace.eq (R : Ending → World → Prop) (x0 : Int) (w : World) : g_isUnicodeSpace R x0 w = vcA P 21 (g_isUnicodeSpace.ac R) (QF P [.tmp 2] R) (fr0 [.int .i32 x0]) w := by kernel_rfl
theorem g_isUnicodeSpace.sound {R : Ending → World → Prop} {x0 : Int} {w : World} (h : g_isUnicodeSpace R x0 w) : callE P i_isUnicodeSpace #[.int .i32 x0] R w :=
  callE_fin (c := g_isUnicodeSpace.body) Tryz.func93 Tryz.call93 (by kernel_rfl) (by kernel_rfl) (by kernel_rfl) (by kernel_rfl) (by kernel_rfl) (g_isUnicodeSpace.good R) (g_isUnicodeSpace.eq R x0 w) h
end Go.Proofs.YtmkfleohcnopkaaGreatDoor

set_option linter.unusedVariables false
set_option maxRecDepth 20000
namespace Go.Proofs.YtmkfleohcnopkaaGreatDoor
open Go.Proofs
/- 58 pub-paratext/pub/rscmarkdown.parseEmph -/
noncomputable def g_parseEmph.body : Code := bodyOf Tryz.f58
def g_parseEmph.k11 (R : Ending → World → Prop) (x1 : ByteArray) (x2 : Int) (x11 : Int) (x16 : Bool) (x17 : Bool) (w : World) : Prop :=
 0 ≤ x2 ∧ x2 ≤ x11 ∧ x11 ≤ (x1.size : Int) ∧
 box w #[.string (x1.extract (Int.toNat x2) (Int.toNat x11)), .bool x16, .bool x17, .int .i64 0, .int .i64 (IntKind.i64.wrap (x11 - x2))] ty_emphPlain fun b25 w26 =>
 R (.returned (.tuple #[.iface ty_P_emphPlain (.pointer (some ⟨b25, 0, none⟩)), .int .i64 x2, .int .i64 x11, .bool true])) w26

def g_parseEmph.k13 (R : Ending → World → Prop) (x1 : ByteArray) (x2 : Int) (x11 : Int) (x13 : Int) (x14 : Bool) (x15 : Bool) (x16 : Bool) (w : World) : Prop :=
 br x15
 (br (!x14)
 (g_parseEmph.k11 R x1 x2 x11 x16 true w)
 (callE P i_isUnicodePunct #[.int .i32 x13] (fun e w30 => ∃ (r29 : Bool), e = .returned (.bool r29) ∧
 g_parseEmph.k11 R x1 x2 x11 x16 r29 w30) w))
 (g_parseEmph.k11 R x1 x2 x11 x16 false w)

def g_parseEmph.k12 (R : Ending → World → Prop) (x1 : ByteArray) (x2 : Int) (x11 : Int) (x12 : Int) (x13 : Int) (x14 : Bool) (x15 : Bool) (x16 : Bool) (x17 : Bool) (x126 : Int) (x144 : Bool) (w : World) : Prop :=
 br x144
 (g_parseEmph.k11 R x1 x2 x11 x14 x15 w)
 (br (x126 == 95)
 (br x14
 (br (!x15)
 (g_parseEmph.k13 R x1 x2 x11 x13 x14 x15 true w)
 (callE P i_isUnicodePunct #[.int .i32 x12] (fun e w28 => ∃ (r27 : Bool), e = .returned (.bool r27) ∧
 g_parseEmph.k13 R x1 x2 x11 x13 x14 x15 r27 w28) w))
 (g_parseEmph.k13 R x1 x2 x11 x13 x14 x15 false w))
 (g_parseEmph.k11 R x1 x2 x11 x16 x17 w))

def g_parseEmph.k10 (R : Ending → World → Prop) (x1 : ByteArray) (x2 : Int) (x11 : Int) (x12 : Int) (x13 : Int) (x14 : Bool) (x15 : Bool) (x16 : Bool) (x17 : Bool) (x126 : Int) (x127 : Bool) (w : World) : Prop :=
 br x127
 (g_parseEmph.k11 R x1 x2 x11 (((x14 && (!x15)) && (x12 != 93)) && (x12 != 41)) x15 w)
 (br (x126 == 42)
 (g_parseEmph.k12 R x1 x2 x11 x12 x13 x14 x15 x16 x17 x126 true w)
 (g_parseEmph.k12 R x1 x2 x11 x12 x13 x14 x15 x16 x17 x126 (x126 == 126) w))

def g_parseEmph.k9 (R : Ending → World → Prop) (x1 : ByteArray) (x2 : Int) (x10 : Int) (x11 : Int) (x12 : Int) (x13 : Int) (x14 : Bool) (x15 : Bool) (w : World) : Prop :=
 br (x10 == 39)
 (g_parseEmph.k10 R x1 x2 x11 x12 x13 x14 x15 false false x10 true w)
 (g_parseEmph.k10 R x1 x2 x11 x12 x13 x14 x15 false false x10 (x10 == 34) w)

def g_parseEmph.k8 (R : Ending → World → Prop) (x1 : ByteArray) (x2 : Int) (x10 : Int) (x11 : Int) (x12 : Int) (x13 : Int) (x14 : Bool) (w : World) : Prop :=
 callE P i_isUnicodeSpace #[.int .i32 x12] (fun e w18 => ∃ (r17 : Bool), e = .returned (.bool r17) ∧
 br (!r17)
 (callE P i_isUnicodePunct #[.int .i32 x12] (fun e w20 => ∃ (r19 : Bool), e = .returned (.bool r19) ∧
 br (!r19)
 (g_parseEmph.k9 R x1 x2 x10 x11 x12 x13 x14 true w20)
 (callE P i_isUnicodeSpace #[.int .i32 x13] (fun e w22 => ∃ (r21 : Bool), e = .returned (.bool r21) ∧
 br r21
 (g_parseEmph.k9 R x1 x2 x10 x11 x12 x13 x14 true w22)
 (callE P i_isUnicodePunct #[.int .i32 x13] (fun e w24 => ∃ (r23 : Bool), e = .returned (.bool r23) ∧
 g_parseEmph.k9 R x1 x2 x10 x11 x12 x13 x14 r23 w24) w22)) w20)) w18)
 (g_parseEmph.k9 R x1 x2 x10 x11 x12 x13 x14 false w18)) w

def g_parseEmph.k7 (R : Ending → World → Prop) (x1 : ByteArray) (x2 : Int) (x10 : Int) (x11 : Int) (x12 : Int) (x13 : Int) (w : World) : Prop :=
 callE P i_isUnicodeSpace #[.int .i32 x13] (fun e w10 => ∃ (r9 : Bool), e = .returned (.bool r9) ∧
 br (!r9)
 (callE P i_isUnicodePunct #[.int .i32 x13] (fun e w12 => ∃ (r11 : Bool), e = .returned (.bool r11) ∧
 br (!r11)
 (g_parseEmph.k8 R x1 x2 x10 x11 x12 x13 true w12)
 (callE P i_isUnicodeSpace #[.int .i32 x12] (fun e w14 => ∃ (r13 : Bool), e = .returned (.bool r13) ∧
 br r13
 (g_parseEmph.k8 R x1 x2 x10 x11 x12 x13 true w14)
 (callE P i_isUnicodePunct #[.int .i32 x12] (fun e w16 => ∃ (r15 : Bool), e = .returned (.bool r15) ∧
 g_parseEmph.k8 R x1 x2 x10 x11 x12 x13 r15 w16) w14)) w12)) w10)
 (g_parseEmph.k8 R x1 x2 x10 x11 x12 x13 false w10)) w

def g_parseEmph.k6 (R : Ending → World → Prop) (x1 : ByteArray) (x2 : Int) (x10 : Int) (x11 : Int) (x12 : Int) (w : World) : Prop :=
 br (decide (x11 ≥ (x1.size : Int)))
 (g_parseEmph.k7 R x1 x2 x10 x11 x12 32 w)
 (0 ≤ x11 ∧ x11 ≤ (x1.size : Int) ∧
 callE P i_unicode_utf8_DecodeRuneInString #[.string (x1.extract (Int.toNat x11) x1.size)] (fun e w8 => ∃ (r7_0 : Int), ∃ (r7_1 : Int), e = .returned (.tuple #[.int .i32 r7_0, .int .i64 r7_1]) ∧
 g_parseEmph.k7 R x1 x2 x10 x11 x12 r7_0 w8) w)

def g_parseEmph.k5 (R : Ending → World → Prop) (x1 : ByteArray) (x2 : Int) (x10 : Int) (x11 : Int) (x64 : Bool) (w : World) : Prop :=
 br x64
 (0 ≤ x2 ∧ x2 ≤ x11 ∧ x11 ≤ (x1.size : Int) ∧
 box w #[.string (x1.extract (Int.toNat x2) (Int.toNat x11))] ty_Plain fun b3 w4 =>
 R (.returned (.tuple #[.iface ty_P_Plain (.pointer (some ⟨b3, 0, none⟩)), .int .i64 x2, .int .i64 x11, .bool true])) w4)
 (br (x2 == 0)
 (g_parseEmph.k6 R x1 x2 x10 x11 32 w)
 (0 ≤ x2 ∧ x2 ≤ (x1.size : Int) ∧
 callE P i_unicode_utf8_DecodeLastRuneInString #[.string (x1.extract 0 (Int.toNat x2))] (fun e w6 => ∃ (r5_0 : Int), ∃ (r5_1 : Int), e = .returned (.tuple #[.int .i32 r5_0, .int .i64 r5_1]) ∧
 g_parseEmph.k6 R x1 x2 x10 x11 r5_0 w6) w))

def g_parseEmph.k4 (R : Ending → World → Prop) (x1 : ByteArray) (x2 : Int) (x10 : Int) (x11 : Int) (w : World) : Prop :=
 g_parseEmph.k5 R x1 x2 x10 x11 ((x10 == 126) && (decide ((IntKind.i64.wrap (x11 - x2)) > 2))) w

def g_parseEmph.k3 (R : Ending → World → Prop) (x0 : Option Addr) (x1 : ByteArray) (x2 : Int) (x10 : Int) (x11 : Int) (x53 : Bool) (w : World) : Prop :=
 br x53
 (nilP x0 fun a1 =>
 stV w ((a1.add 6).add 0) (.bool true) fun w2 =>
 g_parseEmph.k4 R x1 x2 x10 x11 w2)
 (g_parseEmph.k4 R x1 x2 x10 x11 w)

def g_parseEmph.k2 (R : Ending → World → Prop) (x0 : Option Addr) (x1 : ByteArray) (x2 : Int) (x10 : Int) (x11 : Int) (w : World) : Prop :=
 g_parseEmph.k3 R x0 x1 x2 x10 x11 ((x10 == 126) && ((IntKind.i64.wrap (x11 - x2)) != 2)) w

def g_parseEmph.bl1 (R : Ending → World → Prop) (Xa : Option Addr → ByteArray → Int → Int → Int → World → Prop) (x0 : Option Addr) (x1 : ByteArray) (x2 : Int) (x10 : Int) (x11 : Int) (w : World) : Prop :=
 ((decide (x11 < (x1.size : Int))) = true → 0 ≤ x11 ∧ x11 < (x1.size : Int)) ∧
 br ((decide (x11 < (x1.size : Int))) && ((bt x1 x11) == x10))
 (Xa x0 x1 x2 x10 (IntKind.i64.wrap (x11 + 1)) w)
 (g_parseEmph.k2 R x0 x1 x2 x10 x11 w)
def g_parseEmph.l1 (R : Ending → World → Prop) (x0 : Option Addr) (x1 : ByteArray) (x2 : Int) (x10 : Int) (x11 : Int) (w : World) : Prop :=
  ∀ X : Option Addr → ByteArray → Int → Int → Int → World → Prop, (∀ x0 x1 x2 x10 x11 w, g_parseEmph.bl1 R X x0 x1 x2 x10 x11 w → X x0 x1 x2 x10 x11 w) → X x0 x1 x2 x10 x11 w

noncomputable def g_parseEmph.al1 (R : Ending → World → Prop) (Xa : Option Addr → ByteArray → Int → Int → Int → World → Prop) : AC :=
  (.leaf (sel [1, 1, 1, 0, 1, 0, 0, 0] g_parseEmph.body))
def g_parseEmph.k1 (R : Ending → World → Prop) (x0 : Option Addr) (x1 : ByteArray) (x2 : Int) (x10 : Int) (x11 : Int) (x32 : Bool) (w : World) : Prop :=
 br x32
 (g_parseEmph.l1 R x0 x1 x2 x10 x11 w)
 (g_parseEmph.k2 R x0 x1 x2 x10 x11 w)

def g_parseEmph (R : Ending → World → Prop) (x0 : Option Addr) (x1 : ByteArray) (x2 : Int) (w : World) : Prop :=
 0 ≤ x2 ∧ x2 < (x1.size : Int) ∧
 g_parseEmph.k1 R x0 x1 x2 (bt x1 x2) (IntKind.i64.wrap (x2 + 1)) ((((bt x1 x2) == 42) || ((bt x1 x2) == 126)) || ((bt x1 x2) == 95)) w

noncomputable def g_parseEmph.ac (R : Ending → World → Prop) : AC :=
  (.seq (.leaf (sel [0] g_parseEmph.body)) (.seq (.leaf (sel [1, 0] g_parseEmph.body)) (.seq (.leaf (sel [1, 1, 0] g_parseEmph.body)) (.seq (.seq (.leaf (sel [1, 1, 1, 0, 0] g_parseEmph.body)) (.mark (leaf [(0, .s .ptr), (1, .s .str), (2, .s (.int .i64)), (10, .s (.int .u8)), (11, .s (.int .i64)), (32, .s .bool)] (g_parseEmph.k1 R)) (.cond 32 (.block 0 (.loop (leaf [(0, .s .ptr), (1, .s .str), (2, .s (.int .i64)), (10, .s (.int .u8)), (11, .s (.int .i64))] (g_parseEmph.l1 R)) (sel [1, 1, 1, 0, 1, 0, 0, 0] g_parseEmph.body))) (.leaf (sel [1, 1, 1, 0, 1, 1] g_parseEmph.body))))) (.mark (leaf [(0, .s .ptr), (1, .s .str), (2, .s (.int .i64)), (10, .s (.int .u8)), (11, .s (.int .i64))] (g_parseEmph.k2 R)) (.seq (.seq (.leaf (sel [1, 1, 1, 1, 0, 0] g_parseEmph.body)) (.mark (leaf [(0, .s .ptr), (1, .s .str), (2, .s (.int .i64)), (10, .s (.int .u8)), (11, .s (.int .i64)), (53, .s .bool)] (g_parseEmph.k3 R)) (.leaf (sel [1, 1, 1, 1, 0, 1] g_parseEmph.body)))) (.mark (leaf [(1, .s .str), (2, .s (.int .i64)), (10, .s (.int .u8)), (11, .s (.int .i64))] (g_parseEmph.k4 R)) (.seq (.seq (.leaf (sel [1, 1, 1, 1, 1, 0, 0] g_parseEmph.body)) (.mark (leaf [(1, .s .str), (2, .s (.int .i64)), (10, .s (.int .u8)), (11, .s (.int .i64)), (64, .s .bool)] (g_parseEmph.k5 R)) (.leaf (sel [1, 1, 1, 1, 1, 0, 1] g_parseEmph.body)))) (.seq (.leaf (sel [1, 1, 1, 1, 1, 1, 0] g_parseEmph.body)) (.seq (.leaf (sel [1, 1, 1, 1, 1, 1, 1, 0] g_parseEmph.body)) (.mark (leaf [(1, .s .str), (2, .s (.int .i64)), (10, .s (.int .u8)), (11, .s (.int .i64)), (12, .s (.int .i32))] (g_parseEmph.k6 R)) (.seq (.leaf (sel [1, 1, 1, 1, 1, 1, 1, 1, 0] g_parseEmph.body)) (.mark (leaf [(1, .s .str), (2, .s (.int .i64)), (10, .s (.int .u8)), (11, .s (.int .i64)), (12, .s (.int .i32)), (13, .s (.int .i32))] (g_parseEmph.k7 R)) (.seq (.leaf (sel [1, 1, 1, 1, 1, 1, 1, 1, 1, 0] g_parseEmph.body)) (.mark (leaf [(1, .s .str), (2, .s (.int .i64)), (10, .s (.int .u8)), (11, .s (.int .i64)), (12, .s (.int .i32)), (13, .s (.int .i32)), (14, .s .bool)] (g_parseEmph.k8 R)) (.seq (.leaf (sel [1, 1, 1, 1, 1, 1, 1, 1, 1, 1, 0] g_parseEmph.body)) (.mark (leaf [(1, .s .str), (2, .s (.int .i64)), (10, .s (.int .u8)), (11, .s (.int .i64)), (12, .s (.int .i32)), (13, .s (.int .i32)), (14, .s .bool), (15, .s .bool)] (g_parseEmph.k9 R)) (.seq (.leaf (sel [1, 1, 1, 1, 1, 1, 1, 1, 1, 1, 1, 0] g_parseEmph.body)) (.seq (.seq (.leaf (sel [1, 1, 1, 1, 1, 1, 1, 1, 1, 1, 1, 1, 0, 0] g_parseEmph.body)) (.block 2 (.seq (.leaf (sel [1, 1, 1, 1, 1, 1, 1, 1, 1, 1, 1, 1, 0, 1, 0, 0] g_parseEmph.body)) (.mark (leaf [(1, .s .str), (2, .s (.int .i64)), (11, .s (.int .i64)), (12, .s (.int .i32)), (13, .s (.int .i32)), (14, .s .bool), (15, .s .bool), (16, .s .bool), (17, .s .bool), (126, .s (.int .u8)), (127, .s .bool)] (g_parseEmph.k10 R)) (.cond 127 (.leaf (sel [1, 1, 1, 1, 1, 1, 1, 1, 1, 1, 1, 1, 0, 1, 0, 1, 0] g_parseEmph.body)) (.seq (.leaf (sel [1, 1, 1, 1, 1, 1, 1, 1, 1, 1, 1, 1, 0, 1, 0, 1, 1, 0] g_parseEmph.body)) (.mark (leaf [(1, .s .str), (2, .s (.int .i64)), (11, .s (.int .i64)), (12, .s (.int .i32)), (13, .s (.int .i32)), (14, .s .bool), (15, .s .bool), (16, .s .bool), (17, .s .bool), (126, .s (.int .u8)), (144, .s .bool)] (g_parseEmph.k12 R)) (.cond 144 (.leaf (sel [1, 1, 1, 1, 1, 1, 1, 1, 1, 1, 1, 1, 0, 1, 0, 1, 1, 1, 0] g_parseEmph.body)) (.seq (.leaf (sel [1, 1, 1, 1, 1, 1, 1, 1, 1, 1, 1, 1, 0, 1, 0, 1, 1, 1, 1, 0] g_parseEmph.body)) (.cond 149 (.seq (.leaf (sel [1, 1, 1, 1, 1, 1, 1, 1, 1, 1, 1, 1, 0, 1, 0, 1, 1, 1, 1, 1, 0, 0] g_parseEmph.body)) (.mark (leaf [(1, .s .str), (2, .s (.int .i64)), (11, .s (.int .i64)), (13, .s (.int .i32)), (14, .s .bool), (15, .s .bool), (16, .s .bool)] (g_parseEmph.k13 R)) (.leaf (sel [1, 1, 1, 1, 1, 1, 1, 1, 1, 1, 1, 1, 0, 1, 0, 1, 1, 1, 1, 1, 0, 1] g_parseEmph.body)))) (.leaf (sel [1, 1, 1, 1, 1, 1, 1, 1, 1, 1, 1, 1, 0, 1, 0, 1, 1, 1, 1, 1, 1] g_parseEmph.body)))))))))))) (.mark (leaf [(1, .s .str), (2, .s (.int .i64)), (11, .s (.int .i64)), (16, .s .bool), (17, .s .bool)] (g_parseEmph.k11 R)) (.leaf (sel [1, 1, 1, 1, 1, 1, 1, 1, 1, 1, 1, 1, 1] g_parseEmph.body))))))))))))))))))))))
theorem g_parseEmph.good (R : Ending → World → Prop) : Good P 184 (g_parseEmph.ac R) (QF P [.tmp 6, .tmp 7, .tmp 8, .tmp 9] R) :=
  ⟨trivial, ⟨trivial, ⟨trivial, ⟨⟨trivial, ⟨⟨(loopG (g_parseEmph.al1 R) (g_parseEmph.bl1 R) (fun _ => by kernel_rfl) (fun Xa => trivial) (fun Xa => by intro x0 x1 x2 x10 x11 ρ w; kernel_rfl) (fun X h _ _ _ _ _ _ g => g X h)), trivial⟩, cutE (by intro x0 x1 x2 x10 x11 x32 ρ w; kernel_rfl)⟩⟩, ⟨⟨⟨trivial, ⟨trivial, cutE (by intro x0 x1 x2 x10 x11 x53 ρ w; kernel_rfl)⟩⟩, ⟨⟨⟨trivial, ⟨trivial, cutE (by intro x1 x2 x10 x11 x64 ρ w; kernel_rfl)⟩⟩, ⟨trivial, ⟨trivial, ⟨⟨trivial, ⟨⟨trivial, ⟨⟨trivial, ⟨⟨trivial, ⟨⟨trivial, ⟨trivial, ⟨⟨trivial, ⟨trivial, ⟨⟨trivial, ⟨trivial, ⟨⟨trivial, ⟨trivial, cutE (by intro x1 x2 x11 x13 x14 x15 x16 ρ w; kernel_rfl)⟩⟩, trivial⟩⟩⟩, cutE (by intro x1 x2 x11 x12 x13 x14 x15 x16 x17 x126 x144 ρ w; kernel_rfl)⟩⟩⟩, cutE (by intro x1 x2 x11 x12 x13 x14 x15 x16 x17 x126 x127 ρ w; kernel_rfl)⟩⟩⟩, ⟨trivial, cutE (by intro x1 x2 x11 x16 x17 ρ w; kernel_rfl)⟩⟩⟩, cutE (by intro x1 x2 x10 x11 x12 x13 x14 x15 ρ w; kernel_rfl)⟩⟩, cutE (by intro x1 x2 x10 x11 x12 x13 x14 ρ w; kernel_rfl)⟩⟩, cutE (by intro x1 x2 x10 x11 x12 x13 ρ w; kernel_rfl)⟩⟩, cutE (by intro x1 x2 x10 x11 x12 ρ w; kernel_rfl)⟩⟩⟩⟩, cutE (by intro x1 x2 x10 x11 ρ w; kernel_rfl)⟩⟩, cutE (by intro x0 x1 x2 x10 x11 ρ w; kernel_rfl)⟩⟩⟩⟩⟩
theorem g_parseEmph.eq (R : Ending → World → Prop) (x0 : Option Addr) (x1 : ByteArray) (x2 : Int) (w : World) : g_parseEmph R x0 x1 x2 w = vcA P 184 (g_parseEmph.ac R) (QF P [.tmp 6, .tmp 7, .tmp 8, .tmp 9] R) (fr0 [.pointer x0, .string x1, .int .i64 x2]) w := by kernel_rfl
theorem g_parseEmph.sound {R : Ending → World → Prop} {x0 : Option Addr} {x1 : ByteArray} {x2 : Int} {w : World} (h : g_parseEmph R x0 x1 x2 w) : callE P i_parseEmph #[.pointer x0, .string x1, .int .i64 x2] R w :=
  callE_fin (c := g_parseEmph.body) Tryz.func58 Tryz.call58 (by kernel_rfl) (by kernel_rfl) (by kernel_rfl) (by kernel_rfl) (by kernel_rfl) (g_parseEmph.good R) (g_parseEmph.eq R x0 x1 x2 w) h
end Go.Proofs.YtmkfleohcnopkaaGreatDoor

set_option linter.unusedVariables false
set_option maxRecDepth 20000
namespace Go.Proofs.YtmkfleohcnopkaaGreatDoor
open Go.Proofs
/- 91 unicode/utf8.DecodeLastRuneInString -/
noncomputable def g_unicode_utf8_DecodeLastRuneInString.body : Code := bodyOf Tryz.f91
def g_unicode_utf8_DecodeLastRuneInString.k2 (R : Ending → World → Prop) (x0 : ByteArray) (x4 : Int) (x5 : Int) (w : World) : Prop :=
 0 ≤ x5 ∧ x5 ≤ x4 ∧ x4 ≤ (x0.size : Int) ∧
 callE P i_unicode_utf8_DecodeRuneInString #[.string (x0.extract (Int.toNat x5) (Int.toNat x4))] (fun e w6 => ∃ (r5_0 : Int), ∃ (r5_1 : Int), e = .returned (.tuple #[.int .i32 r5_0, .int .i64 r5_1]) ∧
 br ((IntKind.i64.wrap (x5 + r5_1)) != x4)
 (R (.returned (.tuple #[.int .i32 65533, .int .i64 1])) w6)
 (R (.returned (.tuple #[.int .i32 r5_0, .int .i64 r5_1])) w6)) w

def g_unicode_utf8_DecodeLastRuneInString.k1 (R : Ending → World → Prop) (x0 : ByteArray) (x4 : Int) (x5 : Int) (w : World) : Prop :=
 br (decide (x5 < 0))
 (g_unicode_utf8_DecodeLastRuneInString.k2 R x0 x4 0 w)
 (g_unicode_utf8_DecodeLastRuneInString.k2 R x0 x4 x5 w)

def g_unicode_utf8_DecodeLastRuneInString.bl1 (R : Ending → World → Prop) (Xa : ByteArray → Int → Int → Int → World → Prop) (x0 : ByteArray) (x4 : Int) (x5 : Int) (x6 : Int) (w : World) : Prop :=
 br (decide (x5 ≥ x6))
 (0 ≤ x5 ∧ x5 < (x0.size : Int) ∧
 callE P i_unicode_utf8_RuneStart #[.int .u8 (bt x0 x5)] (fun e w4 => ∃ (r3 : Bool), e = .returned (.bool r3) ∧
 br r3
 (g_unicode_utf8_DecodeLastRuneInString.k1 R x0 x4 x5 w4)
 (Xa x0 x4 (IntKind.i64.wrap (x5 - 1)) x6 w4)) w)
 (g_unicode_utf8_DecodeLastRuneInString.k1 R x0 x4 x5 w)
def g_unicode_utf8_DecodeLastRuneInString.l1 (R : Ending → World → Prop) (x0 : ByteArray) (x4 : Int) (x5 : Int) (x6 : Int) (w : World) : Prop :=
  ∀ X : ByteArray → Int → Int → Int → World → Prop, (∀ x0 x4 x5 x6 w, g_unicode_utf8_DecodeLastRuneInString.bl1 R X x0 x4 x5 x6 w → X x0 x4 x5 x6 w) → X x0 x4 x5 x6 w

noncomputable def g_unicode_utf8_DecodeLastRuneInString.al1 (R : Ending → World → Prop) (Xa : ByteArray → Int → Int → Int → World → Prop) : AC :=
  (.leaf (sel [1, 1, 1, 1, 1, 1, 1, 0, 1, 0, 0] g_unicode_utf8_DecodeLastRuneInString.body))
def g_unicode_utf8_DecodeLastRuneInString (R : Ending → World → Prop) (x0 : ByteArray) (w : World) : Prop :=
 br ((x0.size : Int) == 0)
 (R (.returned (.tuple #[.int .i32 65533, .int .i64 0])) w)
 (0 ≤ (IntKind.i64.wrap ((x0.size : Int) - 1)) ∧ (IntKind.i64.wrap ((x0.size : Int) - 1)) < (x0.size : Int) ∧
 br (decide ((IntKind.i32.wrap (bt x0 (IntKind.i64.wrap ((x0.size : Int) - 1)))) < 128))
 (R (.returned (.tuple #[.int .i32 (IntKind.i32.wrap (bt x0 (IntKind.i64.wrap ((x0.size : Int) - 1)))), .int .i64 1])) w)
 (∃ (r1 : Int), ∃ w2, (Builtin.max_ #[ty_int, ty_int] ty_int #[.int .i64 (IntKind.i64.wrap ((x0.size : Int) - 4)), .int .i64 0]).run P w = .ok (.int .i64 r1) w2 ∧
 g_unicode_utf8_DecodeLastRuneInString.l1 R x0 (x0.size : Int) (IntKind.i64.wrap ((IntKind.i64.wrap ((x0.size : Int) - 1)) - 1)) r1 w2))

noncomputable def g_unicode_utf8_DecodeLastRuneInString.ac (R : Ending → World → Prop) : AC :=
  (.seq (.leaf (sel [0] g_unicode_utf8_DecodeLastRuneInString.body)) (.seq (.leaf (sel [1, 0] g_unicode_utf8_DecodeLastRuneInString.body)) (.seq (.leaf (sel [1, 1, 0] g_unicode_utf8_DecodeLastRuneInString.body)) (.seq (.leaf (sel [1, 1, 1, 0] g_unicode_utf8_DecodeLastRuneInString.body)) (.seq (.leaf (sel [1, 1, 1, 1, 0] g_unicode_utf8_DecodeLastRuneInString.body)) (.seq (.leaf (sel [1, 1, 1, 1, 1, 0] g_unicode_utf8_DecodeLastRuneInString.body)) (.seq (.leaf (sel [1, 1, 1, 1, 1, 1, 0] g_unicode_utf8_DecodeLastRuneInString.body)) (.seq (.seq (.leaf (sel [1, 1, 1, 1, 1, 1, 1, 0, 0] g_unicode_utf8_DecodeLastRuneInString.body)) (.block 0 (.loop (leaf [(0, .s .str), (4, .s (.int .i64)), (5, .s (.int .i64)), (6, .s (.int .i64))] (g_unicode_utf8_DecodeLastRuneInString.l1 R)) (sel [1, 1, 1, 1, 1, 1, 1, 0, 1, 0, 0] g_unicode_utf8_DecodeLastRuneInString.body)))) (.mark (leaf [(0, .s .str), (4, .s (.int .i64)), (5, .s (.int .i64))] (g_unicode_utf8_DecodeLastRuneInString.k1 R)) (.seq (.leaf (sel [1, 1, 1, 1, 1, 1, 1, 1, 0] g_unicode_utf8_DecodeLastRuneInString.body)) (.mark (leaf [(0, .s .str), (4, .s (.int .i64)), (5, .s (.int .i64))] (g_unicode_utf8_DecodeLastRuneInString.k2 R)) (.leaf (sel [1, 1, 1, 1, 1, 1, 1, 1, 1] g_unicode_utf8_DecodeLastRuneInString.body)))))))))))))
theorem g_unicode_utf8_DecodeLastRuneInString.good (R : Ending → World → Prop) : Good P 51 (g_unicode_utf8_DecodeLastRuneInString.ac R) (QF P [.tmp 2, .tmp 3] R) :=
  ⟨trivial, ⟨trivial, ⟨trivial, ⟨trivial, ⟨trivial, ⟨trivial, ⟨trivial, ⟨⟨trivial, (loopG (g_unicode_utf8_DecodeLastRuneInString.al1 R) (g_unicode_utf8_DecodeLastRuneInString.bl1 R) (fun _ => by kernel_rfl) (fun Xa => trivial) (fun Xa => by intro x0 x4 x5 x6 ρ w; kernel_rfl) (fun X h _ _ _ _ _ g => g X h))⟩, ⟨⟨trivial, ⟨trivial, cutE (by intro x0 x4 x5 ρ w; kernel_rfl)⟩⟩, cutE (by intro x0 x4 x5 ρ w; kernel_rfl)⟩⟩⟩⟩⟩⟩⟩⟩⟩
theorem g_unicode_utf8_DecodeLastRuneInString.eq (R : Ending → World → Prop) (x0 : ByteArray) (w : World) : g_unicode_utf8_DecodeLastRuneInString R x0 w = vcA P 51 (g_unicode_utf8_DecodeLastRuneInString.ac R) (QF P [.tmp 2, .tmp 3] R) (fr0 [.string x0]) w := by kernel_rfl
theorem g_unicode_utf8_DecodeLastRuneInString.sound {R : Ending → World → Prop} {x0 : ByteArray} {w : World} (h : g_unicode_utf8_DecodeLastRuneInString R x0 w) : callE P i_unicode_utf8_DecodeLastRuneInString #[.string x0] R w :=
  callE_fin (c := g_unicode_utf8_DecodeLastRuneInString.body) Tryz.func91 Tryz.call91 (by kernel_rfl) (by kernel_rfl) (by kernel_rfl) (by kernel_rfl) (by kernel_rfl) (g_unicode_utf8_DecodeLastRuneInString.good R) (g_unicode_utf8_DecodeLastRuneInString.eq R x0 w) h
end Go.Proofs.YtmkfleohcnopkaaGreatDoor

set_option linter.unusedVariables false
set_option maxRecDepth 20000
namespace Go.Proofs.YtmkfleohcnopkaaGreatDoor
open Go.Proofs
/- 92 unicode/utf8.DecodeRuneInString -/
noncomputable def g_unicode_utf8_DecodeRuneInString.body : Code := bodyOf Tryz.f92
def g_unicode_utf8_DecodeRuneInString.k1 (R : Ending → World → Prop) (x0 : ByteArray) (x10 : Bool) (w : World) : Prop :=
 br x10
 (0 ≤ (0 : Int) ∧ 0 < (x0.size : Int) ∧
 R (.returned (.tuple #[.int .i32 (IntKind.i32.wrap (bt x0 0)), .int .i64 1])) w)
 (callE P i_unicode_utf8_decodeRuneInStringSlow #[.string x0] (fun e w2 => ∃ (r1_0 : Int), ∃ (r1_1 : Int), e = .returned (.tuple #[.int .i32 r1_0, .int .i64 r1_1]) ∧
 R (.returned (.tuple #[.int .i32 r1_0, .int .i64 r1_1])) w2) w)

def g_unicode_utf8_DecodeRuneInString (R : Ending → World → Prop) (x0 : ByteArray) (w : World) : Prop :=
 ((!(x0.toList == (ByteArray.mk #[]).toList)) = true → 0 ≤ (0 : Int) ∧ 0 < (x0.size : Int)) ∧
 g_unicode_utf8_DecodeRuneInString.k1 R x0 ((!(x0.toList == (ByteArray.mk #[]).toList)) && (decide ((bt x0 0) < 128))) w

noncomputable def g_unicode_utf8_DecodeRuneInString.ac (R : Ending → World → Prop) : AC :=
  (.seq (.leaf (sel [0] g_unicode_utf8_DecodeRuneInString.body)) (.seq (.seq (.leaf (sel [1, 0, 0] g_unicode_utf8_DecodeRuneInString.body)) (.mark (leaf [(0, .s .str), (10, .s .bool)] (g_unicode_utf8_DecodeRuneInString.k1 R)) (.leaf (sel [1, 0, 1] g_unicode_utf8_DecodeRuneInString.body)))) (.leaf (sel [1, 1] g_unicode_utf8_DecodeRuneInString.body))))
theorem g_unicode_utf8_DecodeRuneInString.good (R : Ending → World → Prop) : Good P 19 (g_unicode_utf8_DecodeRuneInString.ac R) (QF P [.tmp 2, .tmp 3] R) :=
  ⟨trivial, ⟨⟨trivial, ⟨trivial, cutE (by intro x0 x10 ρ w; kernel_rfl)⟩⟩, trivial⟩⟩
theorem g_unicode_utf8_DecodeRuneInString.eq (R : Ending → World → Prop) (x0 : ByteArray) (w : World) : g_unicode_utf8_DecodeRuneInString R x0 w = vcA P 19 (g_unicode_utf8_DecodeRuneInString.ac R) (QF P [.tmp 2, .tmp 3] R) (fr0 [.string x0]) w := by kernel_rfl
theorem g_unicode_utf8_DecodeRuneInString.sound {R : Ending → World → Prop} {x0 : ByteArray} {w : World} (h : g_unicode_utf8_DecodeRuneInString R x0 w) : callE P i_unicode_utf8_DecodeRuneInString #[.string x0] R w :=
  callE_fin (c := g_unicode_utf8_DecodeRuneInString.body) Tryz.func92 Tryz.call92 (by kernel_rfl) (by kernel_rfl) (by kernel_rfl) (by kernel_rfl) (by kernel_rfl) (g_unicode_utf8_DecodeRuneInString.good R) (g_unicode_utf8_DecodeRuneInString.eq R x0 w) h
end Go.Proofs.YtmkfleohcnopkaaGreatDoor

set_option linter.unusedVariables false
set_option maxRecDepth 20000
namespace Go.Proofs.YtmkfleohcnopkaaGreatDoor
open Go.Proofs
/- 43 (*pub-paratext/pub/rscmarkdown.parseState).inline -/
noncomputable def g_parseState_inline.body : Code := bodyOf Tryz.f43
def g_parseState_inline.k4 (R : Ending → World → Prop) (Xa : Option Addr → ByteArray → Option Addr → Nat → Nat → Int → Bool → Int → World → Prop) (x0 : Option Addr) (x1 : ByteArray) (x5q : Option Addr) (x5n : Nat) (x5c : Nat) (x6 : Int) (x7 : Bool) (x10 : Value) (x12 : Int) (w : World) : Prop :=
 nilP x0 fun a61 =>
 ∃ (v62q : Option Addr), ∃ (v62n : Nat), ∃ (v62c : Nat), w.cell? (a61.add 9) = some (.slice v62q v62n v62c) ∧
 ∃ (r63q : Option Addr), ∃ (r63n : Nat), ∃ (r63c : Nat), ∃ w64, (Instr.buildSlice ty_S_Inline 1 #[(0, x10)]).run P w = .ok (.slice r63q r63n r63c) w64 ∧
 ∃ (r65q : Option Addr), ∃ (r65n : Nat), ∃ (r65c : Nat), ∃ w66, (Builtin.append_ #[ty_S_Inline, ty_S_Inline] ty_S_Inline #[.slice v62q v62n v62c, .slice r63q r63n r63c]).run P w64 = .ok (.slice r65q r65n r65c) w66 ∧
 nilP x0 fun a67 =>
 stV w66 ((a67.add 9).add 0) (.slice r65q r65n r65c) fun w68 =>
 callE P i_parseState_skip #[.pointer x0, .int .i64 x12] (fun e w70 => e = .returned (.tuple #[]) ∧
 Xa x0 x1 x5q x5n x5c x6 x7 x12 w70) w68

def g_parseState_inline.k10 (R : Ending → World → Prop) (Xa : Option Addr → ByteArray → Option Addr → Nat → Nat → Int → Bool → Int → World → Prop) (x0 : Option Addr) (x1 : ByteArray) (x5q : Option Addr) (x5n : Nat) (x5c : Nat) (x6 : Int) (x7 : Bool) (x16 : Int) (x17 : Option Addr) (x19 : Int) (w : World) : Prop :=
 nilP x0 fun a133 =>
 ∃ (v134q : Option Addr), ∃ (v134n : Nat), ∃ (v134c : Nat), w.cell? (a133.add 9) = some (.slice v134q v134n v134c) ∧
 ∃ (r135q : Option Addr), ∃ (r135n : Nat), ∃ (r135c : Nat), ∃ w136, (Instr.sliceAt ty_S_Inline (.slice v134q v134n v134c) none (some (.int .i64 (IntKind.i64.wrap (x16 + 1)))) none).run P w = .ok (.slice r135q r135n r135c) w136 ∧
 nilP x0 fun a137 =>
 stV w136 ((a137.add 9).add 0) (.slice r135q r135n r135c) fun w138 =>
 callE P i_parseState_skip #[.pointer x0, .int .i64 x19] (fun e w140 => e = .returned (.tuple #[]) ∧
 nilP x17 fun a141 =>
 ∃ (v142 : ByteArray), w140.cell? a141 = some (.string v142) ∧
 0 ≤ (0 : Int) ∧ 0 < (v142.size : Int) ∧
 br ((bt v142 0) == 91)
 (nilP x17 fun a143 =>
 ∃ (v144 : Int), w140.cell? (a143.add 1) = some (.int .i64 v144) ∧
 Xa x0 x1 x5q x5n x5c v144 x7 x19 w140)
 (Xa x0 x1 x5q x5n x5c x6 x7 x19 w140)) w138

def g_parseState_inline.k9 (R : Ending → World → Prop) (Xa : Option Addr → ByteArray → Option Addr → Nat → Nat → Int → Bool → Int → World → Prop) (x0 : Option Addr) (x1 : ByteArray) (x5q : Option Addr) (x5n : Nat) (x5c : Nat) (x6 : Int) (x7 : Bool) (x8 : Int) (x16 : Int) (x17 : Option Addr) (x18 : Option Addr) (x19 : Int) (w : World) : Prop :=
 callE P i_parseState_emit #[.pointer x0, .int .i64 x8] (fun e w114 => e = .returned (.tuple #[]) ∧
 nilP x0 fun a115 =>
 ∃ (v116q : Option Addr), ∃ (v116n : Nat), ∃ (v116c : Nat), w114.cell? (a115.add 9) = some (.slice v116q v116n v116c) ∧
 ∃ (r117q : Option Addr), ∃ (r117n : Nat), ∃ (r117c : Nat), ∃ w118, (Instr.sliceAt ty_S_Inline (.slice v116q v116n v116c) (some (.int .i64 (IntKind.i64.wrap (x16 + 1)))) none none).run P w114 = .ok (.slice r117q r117n r117c) w118 ∧
 callE P i_parseState_emph #[.pointer x0, .slice none 0 0, .slice r117q r117n r117c] (fun e w120 => ∃ (r119q : Option Addr), ∃ (r119n : Nat), ∃ (r119c : Nat), e = .returned (.slice r119q r119n r119c) ∧
 nilP x18 fun a121 =>
 stV w120 (a121.add 0) (.slice r119q r119n r119c) fun w122 =>
 nilP x17 fun a123 =>
 ∃ (v124 : ByteArray), w122.cell? a123 = some (.string v124) ∧
 0 ≤ (0 : Int) ∧ 0 < (v124.size : Int) ∧
 br ((bt v124 0) == 33)
 (nilP x0 fun a125 =>
 ∃ (v126q : Option Addr), ∃ (v126n : Nat), ∃ (v126c : Nat), w122.cell? (a125.add 9) = some (.slice v126q v126n v126c) ∧
 0 ≤ x16 ∧ x16 < (v126n : Int) ∧
 nilP v126q fun a127 =>
 stV w122 ((a127.add (Int.toNat x16 * 1)).add 0) (.iface ty_P_Image (.pointer x18)) fun w128 =>
 g_parseState_inline.k10 R Xa x0 x1 x5q x5n x5c x6 x7 x16 x17 x19 w128)
 (nilP x0 fun a129 =>
 ∃ (v130q : Option Addr), ∃ (v130n : Nat), ∃ (v130c : Nat), w122.cell? (a129.add 9) = some (.slice v130q v130n v130c) ∧
 0 ≤ x16 ∧ x16 < (v130n : Int) ∧
 nilP v130q fun a131 =>
 stV w122 ((a131.add (Int.toNat x16 * 1)).add 0) (.iface ty_P_Link (.pointer x18)) fun w132 =>
 g_parseState_inline.k10 R Xa x0 x1 x5q x5n x5c x6 x7 x16 x17 x19 w132)) w118) w

def g_parseState_inline.k8 (R : Ending → World → Prop) (Xa : Option Addr → ByteArray → Option Addr → Nat → Nat → Int → Bool → Int → World → Prop) (x0 : Option Addr) (x1 : ByteArray) (x5q : Option Addr) (x5n : Nat) (x5c : Nat) (x6 : Int) (x7 : Bool) (x8 : Int) (x16 : Int) (x17 : Option Addr) (x199 : Bool) (w : World) : Prop :=
 br x199
 (callE P i_parseState_parseLinkClose #[.pointer x0, .string x1, .int .i64 x8, .pointer x17] (fun e w98 => ∃ (r97_0 : Option Addr), ∃ (r97_1 : Int), ∃ (r97_2 : Bool), e = .returned (.tuple #[.pointer r97_0, .int .i64 r97_1, .bool r97_2]) ∧
 br r97_2
 (nilP x0 fun a99 =>
 ∃ (v100 : Bool), w98.cell? (a99.add 6) = some (.bool v100) ∧
 br v100
 (nilP x0 fun a101 =>
 stV w98 ((a101.add 6).add 0) (.bool true) fun w102 =>
 g_parseState_inline.k9 R Xa x0 x1 x5q x5n x5c x6 x7 x8 x16 x17 r97_0 r97_1 w102)
 (nilP r97_0 fun a103 =>
 ∃ (v104 : Bool), w98.cell? (a103.add 4) = some (.bool v104) ∧
 br v104
 (nilP x0 fun a105 =>
 stV w98 ((a105.add 6).add 0) (.bool true) fun w106 =>
 g_parseState_inline.k9 R Xa x0 x1 x5q x5n x5c x6 x7 x8 x16 x17 r97_0 r97_1 w106)
 (nilP r97_0 fun a107 =>
 ∃ (v108 : ByteArray), w98.cell? (a107.add 1) = some (.string v108) ∧
 callE P i_linkCorner #[.string v108] (fun e w110 => ∃ (r109 : Bool), e = .returned (.bool r109) ∧
 nilP x0 fun a111 =>
 stV w110 ((a111.add 6).add 0) (.bool r109) fun w112 =>
 g_parseState_inline.k9 R Xa x0 x1 x5q x5n x5c x6 x7 x8 x16 x17 r97_0 r97_1 w112) w98)))
 (Xa x0 x1 x5q x5n x5c x6 x7 (IntKind.i64.wrap (x8 + 1)) w98)) w)
 (Xa x0 x1 x5q x5n x5c x6 x7 (IntKind.i64.wrap (x8 + 1)) w)

def g_parseState_inline.k7 (R : Ending → World → Prop) (Xa : Option Addr → ByteArray → Option Addr → Nat → Nat → Int → Bool → Int → World → Prop) (x0 : Option Addr) (x1 : ByteArray) (x5q : Option Addr) (x5n : Nat) (x5c : Nat) (x6 : Int) (x7 : Bool) (x8 : Int) (x165 : Bool) (w : World) : Prop :=
 br x165
 (0 ≤ (IntKind.i64.wrap ((x5n : Int) - 1)) ∧ (IntKind.i64.wrap ((x5n : Int) - 1)) < (x5n : Int) ∧
 nilP x5q fun a83 =>
 ∃ (v84 : Int), w.cell? (a83.add (Int.toNat (IntKind.i64.wrap ((x5n : Int) - 1)) * 1)) = some (.int .i64 v84) ∧
 nilP x0 fun a85 =>
 ∃ (v86q : Option Addr), ∃ (v86n : Nat), ∃ (v86c : Nat), w.cell? (a85.add 9) = some (.slice v86q v86n v86c) ∧
 0 ≤ v84 ∧ v84 < (v86n : Int) ∧
 nilP v86q fun a87 =>
 ∃ (v88 : Value), w.cell? (a87.add (Int.toNat v84 * 1)) = some v88 ∧
 ∃ (r89 : Option Addr), ∃ w90, (Instr.typeAssert v88 ty_Inline ty_P_openPlain false).run P w = .ok (.pointer r89) w90 ∧
 ∃ (r91q : Option Addr), ∃ (r91n : Nat), ∃ (r91c : Nat), ∃ w92, (Instr.sliceAt ty_S_int (.slice x5q x5n x5c) none (some (.int .i64 (IntKind.i64.wrap ((x5n : Int) - 1)))) none).run P w90 = .ok (.slice r91q r91n r91c) w92 ∧
 nilP r89 fun a93 =>
 ∃ (v94 : ByteArray), w92.cell? a93 = some (.string v94) ∧
 0 ≤ (0 : Int) ∧ 0 < (v94.size : Int) ∧
 br ((bt v94 0) == 33)
 (g_parseState_inline.k8 R Xa x0 x1 r91q r91n r91c x6 x7 x8 v84 r89 true w92)
 (nilP r89 fun a95 =>
 ∃ (v96 : Int), w92.cell? (a95.add 1) = some (.int .i64 v96) ∧
 g_parseState_inline.k8 R Xa x0 x1 r91q r91n r91c x6 x7 x8 v84 r89 (decide (x6 ≤ v96)) w92))
 (Xa x0 x1 x5q x5n x5c x6 x7 (IntKind.i64.wrap (x8 + 1)) w)

def g_parseState_inline.k5 (R : Ending → World → Prop) (Xa : Option Addr → ByteArray → Option Addr → Nat → Nat → Int → Bool → Int → World → Prop) (x0 : Option Addr) (x1 : ByteArray) (x5q : Option Addr) (x5n : Nat) (x5c : Nat) (x6 : Int) (x7 : Bool) (x8 : Int) (w : World) : Prop :=
 0 ≤ x8 ∧ x8 < (x1.size : Int) ∧
 g_parseState_inline.k7 R Xa x0 x1 x5q x5n x5c x6 x7 x8 (((bt x1 x8) == 93) && (decide ((x5n : Int) > 0))) w

def g_parseState_inline.k1 (R : Ending → World → Prop) (Xa : Option Addr → ByteArray → Option Addr → Nat → Nat → Int → Bool → Int → World → Prop) (x0 : Option Addr) (x1 : ByteArray) (x5q : Option Addr) (x5n : Nat) (x5c : Nat) (x6 : Int) (x7 : Bool) (x8 : Int) (x9 : Value) (w : World) : Prop :=
 ∃ (r38 : Bool), ∃ w39, (do eqGuard .neq ty_func_P_parseState_string_int_I_18a27a (.tmp 113) (.const .nilFunc) x9 .nilFunc; binOp .neq ty_func_P_parseState_string_int_I_18a27a x9 .nilFunc).run P w = .ok (.bool r38) w39 ∧
 br r38
 (enterE P (do let d ← Deferred.ofValue x9 #[.pointer x0, .string x1, .int .i64 x8]; invoke d.target d.args) (fun e w41 => ∃ (r40_0 : Value), ∃ (r40_1 : Int), ∃ (r40_2 : Int), ∃ (r40_3 : Bool), e = .returned (.tuple #[r40_0, .int .i64 r40_1, .int .i64 r40_2, .bool r40_3]) ∧
 br r40_3
 (callE P i_parseState_emit #[.pointer x0, .int .i64 r40_1] (fun e w43 => e = .returned (.tuple #[]) ∧
 ∃ (r44_0 : Option Addr), ∃ (r44_1 : Bool), ∃ w45, (Instr.typeAssert r40_0 ty_Inline ty_P_openPlain true).run P w43 = .ok (.tuple #[.pointer r44_0, .bool r44_1]) w45 ∧
 br r44_1
 (nilP x0 fun a46 =>
 ∃ (v47q : Option Addr), ∃ (v47n : Nat), ∃ (v47c : Nat), w45.cell? (a46.add 9) = some (.slice v47q v47n v47c) ∧
 ∃ (r48q : Option Addr), ∃ (r48n : Nat), ∃ (r48c : Nat), ∃ w49, (Instr.buildSlice ty_S_int 1 #[(0, .int .i64 (v47n : Int))]).run P w45 = .ok (.slice r48q r48n r48c) w49 ∧
 ∃ (r50q : Option Addr), ∃ (r50n : Nat), ∃ (r50c : Nat), ∃ w51, (Builtin.append_ #[ty_S_int, ty_S_int] ty_S_int #[.slice x5q x5n x5c, .slice r48q r48n r48c]).run P w49 = .ok (.slice r50q r50n r50c) w51 ∧
 g_parseState_inline.k4 R Xa x0 x1 r50q r50n r50c x6 x7 r40_0 r40_2 w51)
 (g_parseState_inline.k4 R Xa x0 x1 x5q x5n x5c x6 x7 r40_0 r40_2 w45)) w41)
 (g_parseState_inline.k5 R Xa x0 x1 x5q x5n x5c x6 x7 x8 w41)) w39)
 (g_parseState_inline.k5 R Xa x0 x1 x5q x5n x5c x6 x7 x8 w39)

def g_parseState_inline.k2 (R : Ending → World → Prop) (Xa : Option Addr → ByteArray → Option Addr → Nat → Nat → Int → Bool → Int → World → Prop) (x0 : Option Addr) (x1 : ByteArray) (x5q : Option Addr) (x5n : Nat) (x5c : Nat) (x6 : Int) (x7 : Bool) (x8 : Int) (w : World) : Prop :=
 nilP x0 fun a52 =>
 g_parseState_inline.k1 R Xa x0 x1 x5q x5n x5c x6 x7 x8 (.func (.func i_backtickParser_parseCodeSpan) #[.pointer (some (a52.add 12))] #[]) w

def g_parseState_inline.k6 (R : Ending → World → Prop) (Xa : Option Addr → ByteArray → Option Addr → Nat → Nat → Int → Bool → Int → World → Prop) (x0 : Option Addr) (x1 : ByteArray) (x5q : Option Addr) (x5n : Nat) (x5c : Nat) (x6 : Int) (x7 : Bool) (x8 : Int) (x9 : Value) (x39 : Int) (x81 : Bool) (w : World) : Prop :=
 br x81
 (nilP x0 fun a71 =>
 ∃ (v72 : Option Addr), w.cell? a71 = some (.pointer v72) ∧
 nilP v72 fun a73 =>
 ∃ (v74 : Bool), w.cell? (a73.add 9) = some (.bool v74) ∧
 br v74
 (g_parseState_inline.k1 R Xa x0 x1 x5q x5n x5c x6 x7 x8 (.func (.func i_parseEmph) #[] #[]) w)
 (g_parseState_inline.k1 R Xa x0 x1 x5q x5n x5c x6 x7 x8 x9 w))
 (br (x39 == 126)
 (nilP x0 fun a75 =>
 ∃ (v76 : Option Addr), w.cell? a75 = some (.pointer v76) ∧
 nilP v76 fun a77 =>
 ∃ (v78 : Bool), w.cell? (a77.add 1) = some (.bool v78) ∧
 br v78
 (g_parseState_inline.k1 R Xa x0 x1 x5q x5n x5c x6 x7 x8 (.func (.func i_parseEmph) #[] #[]) w)
 (g_parseState_inline.k1 R Xa x0 x1 x5q x5n x5c x6 x7 x8 x9 w))
 (br (x39 == 10)
 (g_parseState_inline.k1 R Xa x0 x1 x5q x5n x5c x6 x7 x8 (.func (.func i_parseBreak) #[] #[]) w)
 (br (x39 == 38)
 (g_parseState_inline.k1 R Xa x0 x1 x5q x5n x5c x6 x7 x8 (.func (.func i_parseHTMLEntity) #[] #[]) w)
 (br (x39 == 58)
 (nilP x0 fun a79 =>
 ∃ (v80 : Option Addr), w.cell? a79 = some (.pointer v80) ∧
 nilP v80 fun a81 =>
 ∃ (v82 : Bool), w.cell? (a81.add 6) = some (.bool v82) ∧
 br v82
 (g_parseState_inline.k1 R Xa x0 x1 x5q x5n x5c x6 x7 x8 (.func (.func i_parseEmoji) #[] #[]) w)
 (g_parseState_inline.k1 R Xa x0 x1 x5q x5n x5c x6 x7 x8 x9 w))
 (g_parseState_inline.k1 R Xa x0 x1 x5q x5n x5c x6 x7 x8 x9 w)))))

def g_parseState_inline.k3 (R : Ending → World → Prop) (Xa : Option Addr → ByteArray → Option Addr → Nat → Nat → Int → Bool → Int → World → Prop) (x0 : Option Addr) (x1 : ByteArray) (x5q : Option Addr) (x5n : Nat) (x5c : Nat) (x6 : Int) (x7 : Bool) (x8 : Int) (x9 : Value) (x39 : Int) (x60 : Bool) (w : World) : Prop :=
 br x60
 (g_parseState_inline.k1 R Xa x0 x1 x5q x5n x5c x6 x7 x8 (.func (.func i_parseEmph) #[] #[]) w)
 (br (x39 == 46)
 (nilP x0 fun a53 =>
 ∃ (v54 : Option Addr), w.cell? a53 = some (.pointer v54) ∧
 nilP v54 fun a55 =>
 ∃ (v56 : Bool), w.cell? (a55.add 7) = some (.bool v56) ∧
 br v56
 (g_parseState_inline.k1 R Xa x0 x1 x5q x5n x5c x6 x7 x8 (.func (.func i_parseDot) #[] #[]) w)
 (g_parseState_inline.k1 R Xa x0 x1 x5q x5n x5c x6 x7 x8 x9 w))
 (br (x39 == 45)
 (nilP x0 fun a57 =>
 ∃ (v58 : Option Addr), w.cell? a57 = some (.pointer v58) ∧
 nilP v58 fun a59 =>
 ∃ (v60 : Bool), w.cell? (a59.add 8) = some (.bool v60) ∧
 br v60
 (g_parseState_inline.k1 R Xa x0 x1 x5q x5n x5c x6 x7 x8 (.func (.func i_parseDash) #[] #[]) w)
 (g_parseState_inline.k1 R Xa x0 x1 x5q x5n x5c x6 x7 x8 x9 w))
 (br (x39 == 34)
 (g_parseState_inline.k6 R Xa x0 x1 x5q x5n x5c x6 x7 x8 x9 x39 true w)
 (g_parseState_inline.k6 R Xa x0 x1 x5q x5n x5c x6 x7 x8 x9 x39 (x39 == 39) w))))

def g_parseState_inline.bl1 (R : Ending → World → Prop) (Xa : Option Addr → ByteArray → Option Addr → Nat → Nat → Int → Bool → Int → World → Prop) (x0 : Option Addr) (x1 : ByteArray) (x5q : Option Addr) (x5n : Nat) (x5c : Nat) (x6 : Int) (x7 : Bool) (x8 : Int) (w : World) : Prop :=
 br (decide (x8 < (x1.size : Int)))
 (0 ≤ x8 ∧ x8 < (x1.size : Int) ∧
 br ((bt x1 x8) == 92)
 (g_parseState_inline.k1 R Xa x0 x1 x5q x5n x5c x6 x7 x8 (.func (.func i_parseEscape) #[] #[]) w)
 (br ((bt x1 x8) == 96)
 (br (!x7)
 (nilP x0 fun a9 =>
 callE P i_backtickParser_reset #[.pointer (some (a9.add 12))] (fun e w11 => e = .returned (.tuple #[]) ∧
 g_parseState_inline.k2 R Xa x0 x1 x5q x5n x5c x6 true x8 w11) w)
 (g_parseState_inline.k2 R Xa x0 x1 x5q x5n x5c x6 x7 x8 w))
 (br ((bt x1 x8) == 60)
 (g_parseState_inline.k1 R Xa x0 x1 x5q x5n x5c x6 x7 x8 (.func (.func i_parseAutoLinkOrHTML) #[] #[]) w)
 (br ((bt x1 x8) == 91)
 (g_parseState_inline.k1 R Xa x0 x1 x5q x5n x5c x6 x7 x8 (.func (.func i_parseLinkOpen) #[] #[]) w)
 (br ((bt x1 x8) == 33)
 (g_parseState_inline.k1 R Xa x0 x1 x5q x5n x5c x6 x7 x8 (.func (.func i_parseImageOpen) #[] #[]) w)
 (br ((bt x1 x8) == 95)
 (g_parseState_inline.k3 R Xa x0 x1 x5q x5n x5c x6 x7 x8 .nilFunc (bt x1 x8) true w)
 (g_parseState_inline.k3 R Xa x0 x1 x5q x5n x5c x6 x7 x8 .nilFunc (bt x1 x8) ((bt x1 x8) == 42) w)))))))
 (callE P i_parseState_emit #[.pointer x0, .int .i64 (x1.size : Int)] (fun e w13 => e = .returned (.tuple #[]) ∧
 tk w13 fun w14 =>
 nilP x0 fun a15 =>
 nilP x0 fun a16 =>
 ∃ (v17q : Option Addr), ∃ (v17n : Nat), ∃ (v17c : Nat), w14.cell? (a15.add 9) = some (.slice v17q v17n v17c) ∧
 ∃ (r18q : Option Addr), ∃ (r18n : Nat), ∃ (r18c : Nat), (∀ w, (Instr.sliceAt ty_S_Inline (.slice v17q v17n v17c) none (some (.int .i64 0)) none).run P w = .ok (.slice r18q r18n r18c) w) ∧
 ∃ (v19q : Option Addr), ∃ (v19n : Nat), ∃ (v19c : Nat), w14.cell? (a16.add 9) = some (.slice v19q v19n v19c) ∧
 callE P i_parseState_emph #[.pointer x0, .slice r18q r18n r18c, .slice v19q v19n v19c] (fun e w21 => ∃ (r20q : Option Addr), ∃ (r20n : Nat), ∃ (r20c : Nat), e = .returned (.slice r20q r20n r20c) ∧
 nilP x0 fun a22 =>
 stV w21 ((a22.add 9).add 0) (.slice r20q r20n r20c) fun w23 =>
 nilP x0 fun a24 =>
 ∃ (v25q : Option Addr), ∃ (v25n : Nat), ∃ (v25c : Nat), w23.cell? (a24.add 9) = some (.slice v25q v25n v25c) ∧
 callE P i_parseState_mergePlain #[.pointer x0, .slice v25q v25n v25c] (fun e w27 => ∃ (r26q : Option Addr), ∃ (r26n : Nat), ∃ (r26c : Nat), e = .returned (.slice r26q r26n r26c) ∧
 nilP x0 fun a28 =>
 stV w27 ((a28.add 9).add 0) (.slice r26q r26n r26c) fun w29 =>
 nilP x0 fun a30 =>
 ∃ (v31q : Option Addr), ∃ (v31n : Nat), ∃ (v31c : Nat), w29.cell? (a30.add 9) = some (.slice v31q v31n v31c) ∧
 callE P i_parseState_autoLinkText #[.pointer x0, .slice v31q v31n v31c] (fun e w33 => ∃ (r32q : Option Addr), ∃ (r32n : Nat), ∃ (r32c : Nat), e = .returned (.slice r32q r32n r32c) ∧
 nilP x0 fun a34 =>
 stV w33 ((a34.add 9).add 0) (.slice r32q r32n r32c) fun w35 =>
 nilP x0 fun a36 =>
 ∃ (v37q : Option Addr), ∃ (v37n : Nat), ∃ (v37c : Nat), w35.cell? (a36.add 9) = some (.slice v37q v37n v37c) ∧
 R (.returned (.slice v37q v37n v37c)) w35) w29) w23) w14) w)
def g_parseState_inline.l1 (R : Ending → World → Prop) (x0 : Option Addr) (x1 : ByteArray) (x5q : Option Addr) (x5n : Nat) (x5c : Nat) (x6 : Int) (x7 : Bool) (x8 : Int) (w : World) : Prop :=
  ∀ X : Option Addr → ByteArray → Option Addr → Nat → Nat → Int → Bool → Int → World → Prop, (∀ x0 x1 x5q x5n x5c x6 x7 x8 w, g_parseState_inline.bl1 R X x0 x1 x5q x5n x5c x6 x7 x8 w → X x0 x1 x5q x5n x5c x6 x7 x8 w) → X x0 x1 x5q x5n x5c x6 x7 x8 w

noncomputable def g_parseState_inline.al1 (R : Ending → World → Prop) (Xa : Option Addr → ByteArray → Option Addr → Nat → Nat → Int → Bool → Int → World → Prop) : AC :=
  (.seq (.leaf (sel [1, 1, 1, 1, 1, 1, 1, 1, 1, 0, 0, 0, 0] g_parseState_inline.body)) (.block 1 (.seq (.leaf (sel [1, 1, 1, 1, 1, 1, 1, 1, 1, 0, 0, 0, 1, 0, 0] g_parseState_inline.body)) (.seq (.seq (.leaf (sel [1, 1, 1, 1, 1, 1, 1, 1, 1, 0, 0, 0, 1, 0, 1, 0, 0] g_parseState_inline.body)) (.block 2 (.seq (.leaf (sel [1, 1, 1, 1, 1, 1, 1, 1, 1, 0, 0, 0, 1, 0, 1, 0, 1, 0, 0] g_parseState_inline.body)) (.cond 40 (.leaf (sel [1, 1, 1, 1, 1, 1, 1, 1, 1, 0, 0, 0, 1, 0, 1, 0, 1, 0, 1, 0] g_parseState_inline.body)) (.seq (.leaf (sel [1, 1, 1, 1, 1, 1, 1, 1, 1, 0, 0, 0, 1, 0, 1, 0, 1, 0, 1, 1, 0] g_parseState_inline.body)) (.cond 42 (.seq (.leaf (sel [1, 1, 1, 1, 1, 1, 1, 1, 1, 0, 0, 0, 1, 0, 1, 0, 1, 0, 1, 1, 1, 0, 0] g_parseState_inline.body)) (.mark (leaf [(0, .s .ptr), (1, .s .str), (5, .s .slice), (6, .s (.int .i64)), (7, .s .bool), (8, .s (.int .i64))] (g_parseState_inline.k2 R Xa)) (.leaf (sel [1, 1, 1, 1, 1, 1, 1, 1, 1, 0, 0, 0, 1, 0, 1, 0, 1, 0, 1, 1, 1, 0, 1] g_parseState_inline.body)))) (.seq (.leaf (sel [1, 1, 1, 1, 1, 1, 1, 1, 1, 0, 0, 0, 1, 0, 1, 0, 1, 0, 1, 1, 1, 1, 0] g_parseState_inline.body)) (.cond 54 (.leaf (sel [1, 1, 1, 1, 1, 1, 1, 1, 1, 0, 0, 0, 1, 0, 1, 0, 1, 0, 1, 1, 1, 1, 1, 0] g_parseState_inline.body)) (.seq (.leaf (sel [1, 1, 1, 1, 1, 1, 1, 1, 1, 0, 0, 0, 1, 0, 1, 0, 1, 0, 1, 1, 1, 1, 1, 1, 0] g_parseState_inline.body)) (.cond 56 (.leaf (sel [1, 1, 1, 1, 1, 1, 1, 1, 1, 0, 0, 0, 1, 0, 1, 0, 1, 0, 1, 1, 1, 1, 1, 1, 1, 0] g_parseState_inline.body)) (.seq (.leaf (sel [1, 1, 1, 1, 1, 1, 1, 1, 1, 0, 0, 0, 1, 0, 1, 0, 1, 0, 1, 1, 1, 1, 1, 1, 1, 1, 0] g_parseState_inline.body)) (.cond 58 (.leaf (sel [1, 1, 1, 1, 1, 1, 1, 1, 1, 0, 0, 0, 1, 0, 1, 0, 1, 0, 1, 1, 1, 1, 1, 1, 1, 1, 1, 0] g_parseState_inline.body)) (.seq (.leaf (sel [1, 1, 1, 1, 1, 1, 1, 1, 1, 0, 0, 0, 1, 0, 1, 0, 1, 0, 1, 1, 1, 1, 1, 1, 1, 1, 1, 1, 0] g_parseState_inline.body)) (.mark (leaf [(0, .s .ptr), (1, .s .str), (5, .s .slice), (6, .s (.int .i64)), (7, .s .bool), (8, .s (.int .i64)), (9, .s .any), (39, .s (.int .u8)), (60, .s .bool)] (g_parseState_inline.k3 R Xa)) (.cond 60 (.leaf (sel [1, 1, 1, 1, 1, 1, 1, 1, 1, 0, 0, 0, 1, 0, 1, 0, 1, 0, 1, 1, 1, 1, 1, 1, 1, 1, 1, 1, 1, 0] g_parseState_inline.body)) (.seq (.leaf (sel [1, 1, 1, 1, 1, 1, 1, 1, 1, 0, 0, 0, 1, 0, 1, 0, 1, 0, 1, 1, 1, 1, 1, 1, 1, 1, 1, 1, 1, 1, 0] g_parseState_inline.body)) (.cond 63 (.leaf (sel [1, 1, 1, 1, 1, 1, 1, 1, 1, 0, 0, 0, 1, 0, 1, 0, 1, 0, 1, 1, 1, 1, 1, 1, 1, 1, 1, 1, 1, 1, 1, 0] g_parseState_inline.body)) (.seq (.leaf (sel [1, 1, 1, 1, 1, 1, 1, 1, 1, 0, 0, 0, 1, 0, 1, 0, 1, 0, 1, 1, 1, 1, 1, 1, 1, 1, 1, 1, 1, 1, 1, 1, 0] g_parseState_inline.body)) (.cond 72 (.leaf (sel [1, 1, 1, 1, 1, 1, 1, 1, 1, 0, 0, 0, 1, 0, 1, 0, 1, 0, 1, 1, 1, 1, 1, 1, 1, 1, 1, 1, 1, 1, 1, 1, 1, 0] g_parseState_inline.body)) (.seq (.leaf (sel [1, 1, 1, 1, 1, 1, 1, 1, 1, 0, 0, 0, 1, 0, 1, 0, 1, 0, 1, 1, 1, 1, 1, 1, 1, 1, 1, 1, 1, 1, 1, 1, 1, 1, 0] g_parseState_inline.body)) (.mark (leaf [(0, .s .ptr), (1, .s .str), (5, .s .slice), (6, .s (.int .i64)), (7, .s .bool), (8, .s (.int .i64)), (9, .s .any), (39, .s (.int .u8)), (81, .s .bool)] (g_parseState_inline.k6 R Xa)) (.leaf (sel [1, 1, 1, 1, 1, 1, 1, 1, 1, 0, 0, 0, 1, 0, 1, 0, 1, 0, 1, 1, 1, 1, 1, 1, 1, 1, 1, 1, 1, 1, 1, 1, 1, 1, 1] g_parseState_inline.body))))))))))))))))))))))) (.mark (leaf [(0, .s .ptr), (1, .s .str), (5, .s .slice), (6, .s (.int .i64)), (7, .s .bool), (8, .s (.int .i64)), (9, .s .any)] (g_parseState_inline.k1 R Xa)) (.seq (.seq (.leaf (sel [1, 1, 1, 1, 1, 1, 1, 1, 1, 0, 0, 0, 1, 0, 1, 1, 0, 0] g_parseState_inline.body)) (.cond 114 (.seq (.leaf (sel [1, 1, 1, 1, 1, 1, 1, 1, 1, 0, 0, 0, 1, 0, 1, 1, 0, 1, 0, 0] g_parseState_inline.body)) (.seq (.leaf (sel [1, 1, 1, 1, 1, 1, 1, 1, 1, 0, 0, 0, 1, 0, 1, 1, 0, 1, 0, 1, 0] g_parseState_inline.body)) (.cond 125 (.seq (.leaf (sel [1, 1, 1, 1, 1, 1, 1, 1, 1, 0, 0, 0, 1, 0, 1, 1, 0, 1, 0, 1, 1, 0, 0] g_parseState_inline.body)) (.seq (.leaf (sel [1, 1, 1, 1, 1, 1, 1, 1, 1, 0, 0, 0, 1, 0, 1, 1, 0, 1, 0, 1, 1, 0, 1, 0] g_parseState_inline.body)) (.mark (leaf [(0, .s .ptr), (1, .s .str), (5, .s .slice), (6, .s (.int .i64)), (7, .s .bool), (10, .s .any), (12, .s (.int .i64))] (g_parseState_inline.k4 R Xa)) (.leaf (sel [1, 1, 1, 1, 1, 1, 1, 1, 1, 0, 0, 0, 1, 0, 1, 1, 0, 1, 0, 1, 1, 0, 1, 1] g_parseState_inline.body))))) (.leaf (sel [1, 1, 1, 1, 1, 1, 1, 1, 1, 0, 0, 0, 1, 0, 1, 1, 0, 1, 0, 1, 1, 1] g_parseState_inline.body))))) (.leaf (sel [1, 1, 1, 1, 1, 1, 1, 1, 1, 0, 0, 0, 1, 0, 1, 1, 0, 1, 1] g_parseState_inline.body)))) (.mark (leaf [(0, .s .ptr), (1, .s .str), (5, .s .slice), (6, .s (.int .i64)), (7, .s .bool), (8, .s (.int .i64))] (g_parseState_inline.k5 R Xa)) (.seq (.seq (.leaf (sel [1, 1, 1, 1, 1, 1, 1, 1, 1, 0, 0, 0, 1, 0, 1, 1, 1, 0, 0] g_parseState_inline.body)) (.mark (leaf [(0, .s .ptr), (1, .s .str), (5, .s .slice), (6, .s (.int .i64)), (7, .s .bool), (8, .s (.int .i64)), (165, .s .bool)] (g_parseState_inline.k7 R Xa)) (.cond 165 (.seq (.leaf (sel [1, 1, 1, 1, 1, 1, 1, 1, 1, 0, 0, 0, 1, 0, 1, 1, 1, 0, 1, 0, 0] g_parseState_inline.body)) (.seq (.leaf (sel [1, 1, 1, 1, 1, 1, 1, 1, 1, 0, 0, 0, 1, 0, 1, 1, 1, 0, 1, 0, 1, 0] g_parseState_inline.body)) (.seq (.leaf (sel [1, 1, 1, 1, 1, 1, 1, 1, 1, 0, 0, 0, 1, 0, 1, 1, 1, 0, 1, 0, 1, 1, 0] g_parseState_inline.body)) (.seq (.leaf (sel [1, 1, 1, 1, 1, 1, 1, 1, 1, 0, 0, 0, 1, 0, 1, 1, 1, 0, 1, 0, 1, 1, 1, 0] g_parseState_inline.body)) (.mark (leaf [(0, .s .ptr), (1, .s .str), (5, .s .slice), (6, .s (.int .i64)), (7, .s .bool), (8, .s (.int .i64)), (16, .s (.int .i64)), (17, .s .ptr), (199, .s .bool)] (g_parseState_inline.k8 R Xa)) (.cond 199 (.seq (.leaf (sel [1, 1, 1, 1, 1, 1, 1, 1, 1, 0, 0, 0, 1, 0, 1, 1, 1, 0, 1, 0, 1, 1, 1, 1, 0, 0] g_parseState_inline.body)) (.seq (.leaf (sel [1, 1, 1, 1, 1, 1, 1, 1, 1, 0, 0, 0, 1, 0, 1, 1, 1, 0, 1, 0, 1, 1, 1, 1, 0, 1, 0] g_parseState_inline.body)) (.cond 209 (.seq (.leaf (sel [1, 1, 1, 1, 1, 1, 1, 1, 1, 0, 0, 0, 1, 0, 1, 1, 1, 0, 1, 0, 1, 1, 1, 1, 0, 1, 1, 0, 0] g_parseState_inline.body)) (.mark (leaf [(0, .s .ptr), (1, .s .str), (5, .s .slice), (6, .s (.int .i64)), (7, .s .bool), (8, .s (.int .i64)), (16, .s (.int .i64)), (17, .s .ptr), (18, .s .ptr), (19, .s (.int .i64))] (g_parseState_inline.k9 R Xa)) (.seq (.leaf (sel [1, 1, 1, 1, 1, 1, 1, 1, 1, 0, 0, 0, 1, 0, 1, 1, 1, 0, 1, 0, 1, 1, 1, 1, 0, 1, 1, 0, 1, 0] g_parseState_inline.body)) (.seq (.leaf (sel [1, 1, 1, 1, 1, 1, 1, 1, 1, 0, 0, 0, 1, 0, 1, 1, 1, 0, 1, 0, 1, 1, 1, 1, 0, 1, 1, 0, 1, 1, 0] g_parseState_inline.body)) (.seq (.leaf (sel [1, 1, 1, 1, 1, 1, 1, 1, 1, 0, 0, 0, 1, 0, 1, 1, 1, 0, 1, 0, 1, 1, 1, 1, 0, 1, 1, 0, 1, 1, 1, 0] g_parseState_inline.body)) (.mark (leaf [(0, .s .ptr), (1, .s .str), (5, .s .slice), (6, .s (.int .i64)), (7, .s .bool), (16, .s (.int .i64)), (17, .s .ptr), (19, .s (.int .i64))] (g_parseState_inline.k10 R Xa)) (.leaf (sel [1, 1, 1, 1, 1, 1, 1, 1, 1, 0, 0, 0, 1, 0, 1, 1, 1, 0, 1, 0, 1, 1, 1, 1, 0, 1, 1, 0, 1, 1, 1, 1] g_parseState_inline.body)))))))) (.leaf (sel [1, 1, 1, 1, 1, 1, 1, 1, 1, 0, 0, 0, 1, 0, 1, 1, 1, 0, 1, 0, 1, 1, 1, 1, 0, 1, 1, 1] g_parseState_inline.body))))) (.leaf (sel [1, 1, 1, 1, 1, 1, 1, 1, 1, 0, 0, 0, 1, 0, 1, 1, 1, 0, 1, 0, 1, 1, 1, 1, 1] g_parseState_inline.body)))))))) (.leaf (sel [1, 1, 1, 1, 1, 1, 1, 1, 1, 0, 0, 0, 1, 0, 1, 1, 1, 0, 1, 1] g_parseState_inline.body))))) (.leaf (sel [1, 1, 1, 1, 1, 1, 1, 1, 1, 0, 0, 0, 1, 0, 1, 1, 1, 1] g_parseState_inline.body))))))))))
def g_parseState_inline (R : Ending → World → Prop) (x0 : Option Addr) (x1 : ByteArray) (w : World) : Prop :=
 callE P i_trimSpaceTab #[.string x1] (fun e w2 => ∃ (r1 : ByteArray), e = .returned (.string r1) ∧
 nilP x0 fun a3 =>
 stV w2 ((a3.add 7).add 0) (.string r1) fun w4 =>
 nilP x0 fun a5 =>
 stV w4 ((a5.add 9).add 0) (.slice none 0 0) fun w6 =>
 nilP x0 fun a7 =>
 stV w6 ((a7.add 8).add 0) (.int .i64 0) fun w8 =>
 g_parseState_inline.l1 R x0 r1 none 0 0 0 false 0 w8) w

noncomputable def g_parseState_inline.ac (R : Ending → World → Prop) : AC :=
  (.seq (.leaf (sel [0] g_parseState_inline.body)) (.seq (.leaf (sel [1, 0] g_parseState_inline.body)) (.seq (.leaf (sel [1, 1, 0] g_parseState_inline.body)) (.seq (.leaf (sel [1, 1, 1, 0] g_parseState_inline.body)) (.seq (.leaf (sel [1, 1, 1, 1, 0] g_parseState_inline.body)) (.seq (.leaf (sel [1, 1, 1, 1, 1, 0] g_parseState_inline.body)) (.seq (.leaf (sel [1, 1, 1, 1, 1, 1, 0] g_parseState_inline.body)) (.seq (.leaf (sel [1, 1, 1, 1, 1, 1, 1, 0] g_parseState_inline.body)) (.seq (.leaf (sel [1, 1, 1, 1, 1, 1, 1, 1, 0] g_parseState_inline.body)) (.seq (.block 0 (.loop (leaf [(0, .s .ptr), (1, .s .str), (5, .s .slice), (6, .s (.int .i64)), (7, .s .bool), (8, .s (.int .i64))] (g_parseState_inline.l1 R)) (sel [1, 1, 1, 1, 1, 1, 1, 1, 1, 0, 0, 0] g_parseState_inline.body))) (.seq (.leaf (sel [1, 1, 1, 1, 1, 1, 1, 1, 1, 1, 0] g_parseState_inline.body)) (.seq (.draw (.pure 0 (.pure 1 (.pure 2 (.pure 3 (.pure 4 (.pure 7 (.pure 8 (.pure 9 (.load 5 (.pure 6 (.load 10 (.one 11 (.pure 12 (.pure 13 (.one 14 .done))))))))))))))) (sel [1, 1, 1, 1, 1, 1, 1, 1, 1, 1, 1, 0] g_parseState_inline.body)) (.leaf (sel [1, 1, 1, 1, 1, 1, 1, 1, 1, 1, 1, 1] g_parseState_inline.body))))))))))))))
theorem g_parseState_inline.good (R : Ending → World → Prop) : Good P 335 (g_parseState_inline.ac R) (QF P [.tmp 4] R) :=
  ⟨trivial, ⟨trivial, ⟨trivial, ⟨trivial, ⟨trivial, ⟨trivial, ⟨trivial, ⟨trivial, ⟨trivial, ⟨(loopG (g_parseState_inline.al1 R) (g_parseState_inline.bl1 R) (fun _ => by kernel_rfl) (fun Xa => ⟨trivial, ⟨trivial, ⟨⟨trivial, ⟨trivial, ⟨trivial, ⟨trivial, ⟨⟨trivial, ⟨trivial, cutE (by intro x0 x1 x5q x5n x5c x6 x7 x8 ρ w; kernel_rfl)⟩⟩, ⟨trivial, ⟨trivial, ⟨trivial, ⟨trivial, ⟨trivial, ⟨trivial, ⟨trivial, ⟨⟨trivial, ⟨trivial, ⟨trivial, ⟨trivial, ⟨trivial, ⟨trivial, ⟨trivial, cutE (by intro x0 x1 x5q x5n x5c x6 x7 x8 x9 x39 x81 ρ w; kernel_rfl)⟩⟩⟩⟩⟩⟩⟩, cutE (by intro x0 x1 x5q x5n x5c x6 x7 x8 x9 x39 x60 ρ w; kernel_rfl)⟩⟩⟩⟩⟩⟩⟩⟩⟩⟩⟩⟩⟩, ⟨⟨⟨trivial, ⟨⟨trivial, ⟨trivial, ⟨⟨trivial, ⟨trivial, ⟨trivial, cutE (by intro x0 x1 x5q x5n x5c x6 x7 x10 x12 ρ w; kernel_rfl)⟩⟩⟩, trivial⟩⟩⟩, trivial⟩⟩, ⟨⟨⟨trivial, ⟨⟨⟨trivial, ⟨trivial, ⟨trivial, ⟨trivial, ⟨⟨⟨trivial, ⟨trivial, ⟨⟨trivial, ⟨⟨trivial, ⟨trivial, ⟨trivial, ⟨trivial, cutE (by intro x0 x1 x5q x5n x5c x6 x7 x16 x17 x19 ρ w; kernel_rfl)⟩⟩⟩⟩, cutE (by intro x0 x1 x5q x5n x5c x6 x7 x8 x16 x17 x18 x19 ρ w; kernel_rfl)⟩⟩, trivial⟩⟩⟩, trivial⟩, cutE (by intro x0 x1 x5q x5n x5c x6 x7 x8 x16 x17 x199 ρ w; kernel_rfl)⟩⟩⟩⟩⟩, trivial⟩, cutE (by intro x0 x1 x5q x5n x5c x6 x7 x8 x165 ρ w; kernel_rfl)⟩⟩, trivial⟩, cutE (by intro x0 x1 x5q x5n x5c x6 x7 x8 ρ w; kernel_rfl)⟩⟩, cutE (by intro x0 x1 x5q x5n x5c x6 x7 x8 x9 ρ w; kernel_rfl)⟩⟩⟩⟩) (fun Xa => by intro x0 x1 x5q x5n x5c x6 x7 x8 ρ w; kernel_rfl) (fun X h _ _ _ _ _ _ _ _ _ g => g X h)), ⟨trivial, ⟨⟨by kernel_rfl, by kernel_rfl, fun _ _ _ h => h⟩, trivial⟩⟩⟩⟩⟩⟩⟩⟩⟩⟩⟩⟩
theorem g_parseState_inline.eq (R : Ending → World → Prop) (x0 : Option Addr) (x1 : ByteArray) (w : World) : g_parseState_inline R x0 x1 w = vcA P 335 (g_parseState_inline.ac R) (QF P [.tmp 4] R) (fr0 [.pointer x0, .string x1]) w := by kernel_rfl
theorem g_parseState_inline.sound {R : Ending → World → Prop} {x0 : Option Addr} {x1 : ByteArray} {w : World} (h : g_parseState_inline R x0 x1 w) : callE P i_parseState_inline #[.pointer x0, .string x1] R w :=
  callE_fin (c := g_parseState_inline.body) Tryz.func43 Tryz.call43 (by kernel_rfl) (by kernel_rfl) (by kernel_rfl) (by kernel_rfl) (by kernel_rfl) (g_parseState_inline.good R) (g_parseState_inline.eq R x0 x1 w) h
end Go.Proofs.YtmkfleohcnopkaaGreatDoor

set_option linter.unusedVariables false
set_option maxRecDepth 20000
namespace Go.Proofs.YtmkfleohcnopkaaGreatDoor
open Go.Proofs
/- 69 (*pub-paratext/pub/rscmarkdown.parseState).mergePlain -/
noncomputable def g_parseState_mergePlain.body : Code := bodyOf Tryz.f69
def g_parseState_mergePlain.k2 (R : Ending → World → Prop) (Xa : Option Addr → Nat → Nat → Option Addr → Nat → Nat → Int → Int → World → Prop) (x1q : Option Addr) (x1n : Nat) (x1c : Nat) (x5q : Option Addr) (x5n : Nat) (x5c : Nat) (x7 : Int) (w : World) : Prop :=
 br (decide (x7 ≥ (x1n : Int)))
 (R (.returned (.slice x5q x5n x5c)) w)
 (0 ≤ x7 ∧ x7 < (x1n : Int) ∧
 nilP x1q fun a17 =>
 ∃ (v18 : Value), w.cell? (a17.add (Int.toNat x7 * 1)) = some v18 ∧
 ∃ (r19q : Option Addr), ∃ (r19n : Nat), ∃ (r19c : Nat), ∃ w20, (Instr.buildSlice ty_S_Inline 1 #[(0, v18)]).run P w = .ok (.slice r19q r19n r19c) w20 ∧
 ∃ (r21q : Option Addr), ∃ (r21n : Nat), ∃ (r21c : Nat), ∃ w22, (Builtin.append_ #[ty_S_Inline, ty_S_Inline] ty_S_Inline #[.slice x5q x5n x5c, .slice r19q r19n r19c]).run P w20 = .ok (.slice r21q r21n r21c) w22 ∧
 Xa x1q x1n x1c r21q r21n r21c (IntKind.i64.wrap (x7 + 1)) (IntKind.i64.wrap (x7 + 1)) w22)

def g_parseState_mergePlain.k1 (R : Ending → World → Prop) (Xa : Option Addr → Nat → Nat → Option Addr → Nat → Nat → Int → Int → World → Prop) (x1q : Option Addr) (x1n : Nat) (x1c : Nat) (x5q : Option Addr) (x5n : Nat) (x5c : Nat) (x6 : Int) (x7 : Int) (w : World) : Prop :=
 br (decide (x6 < x7))
 (∃ (r9q : Option Addr), ∃ (r9n : Nat), ∃ (r9c : Nat), ∃ w10, (Instr.sliceAt ty_S_Inline (.slice x1q x1n x1c) (some (.int .i64 x6)) (some (.int .i64 x7)) none).run P w = .ok (.slice r9q r9n r9c) w10 ∧
 callE P i_mergePlain1 #[.slice r9q r9n r9c] (fun e w12 => ∃ (r11 : Option Addr), e = .returned (.pointer r11) ∧
 ∃ (r13q : Option Addr), ∃ (r13n : Nat), ∃ (r13c : Nat), ∃ w14, (Instr.buildSlice ty_S_Inline 1 #[(0, .iface ty_P_Plain (.pointer r11))]).run P w12 = .ok (.slice r13q r13n r13c) w14 ∧
 ∃ (r15q : Option Addr), ∃ (r15n : Nat), ∃ (r15c : Nat), ∃ w16, (Builtin.append_ #[ty_S_Inline, ty_S_Inline] ty_S_Inline #[.slice x5q x5n x5c, .slice r13q r13n r13c]).run P w14 = .ok (.slice r15q r15n r15c) w16 ∧
 g_parseState_mergePlain.k2 R Xa x1q x1n x1c r15q r15n r15c x7 w16) w10)
 (g_parseState_mergePlain.k2 R Xa x1q x1n x1c x5q x5n x5c x7 w)

def g_parseState_mergePlain.bl1 (R : Ending → World → Prop) (Xa : Option Addr → Nat → Nat → Option Addr → Nat → Nat → Int → Int → World → Prop) (x1q : Option Addr) (x1n : Nat) (x1c : Nat) (x5q : Option Addr) (x5n : Nat) (x5c : Nat) (x6 : Int) (x7 : Int) (w : World) : Prop :=
 br (decide (x7 < (x1n : Int)))
 (0 ≤ x7 ∧ x7 < (x1n : Int) ∧
 nilP x1q fun a3 =>
 ∃ (v4 : Value), w.cell? (a3.add (Int.toNat x7 * 1)) = some v4 ∧
 callE P i_toPlain #[v4] (fun e w6 => ∃ (r5 : Option Addr), e = .returned (.pointer r5) ∧
 ∃ (r7 : Bool), ∃ w8, (do eqGuard .neq ty_P_Plain (.tmp 21) (.const (.pointer none)) (.pointer r5) (.pointer none); binOp .neq ty_P_Plain (.pointer r5) (.pointer none)).run P w6 = .ok (.bool r7) w8 ∧
 br r7
 (Xa x1q x1n x1c x5q x5n x5c x6 (IntKind.i64.wrap (x7 + 1)) w8)
 (g_parseState_mergePlain.k1 R Xa x1q x1n x1c x5q x5n x5c x6 x7 w8)) w)
 (g_parseState_mergePlain.k1 R Xa x1q x1n x1c x5q x5n x5c x6 x7 w)
def g_parseState_mergePlain.l1 (R : Ending → World → Prop) (x1q : Option Addr) (x1n : Nat) (x1c : Nat) (x5q : Option Addr) (x5n : Nat) (x5c : Nat) (x6 : Int) (x7 : Int) (w : World) : Prop :=
  ∀ X : Option Addr → Nat → Nat → Option Addr → Nat → Nat → Int → Int → World → Prop, (∀ x1q x1n x1c x5q x5n x5c x6 x7 w, g_parseState_mergePlain.bl1 R X x1q x1n x1c x5q x5n x5c x6 x7 w → X x1q x1n x1c x5q x5n x5c x6 x7 w) → X x1q x1n x1c x5q x5n x5c x6 x7 w

noncomputable def g_parseState_mergePlain.al1 (R : Ending → World → Prop) (Xa : Option Addr → Nat → Nat → Option Addr → Nat → Nat → Int → Int → World → Prop) : AC :=
  (.seq (.block 1 (.seq (.leaf (sel [1, 1, 1, 0, 1, 0, 0, 0, 0, 0] g_parseState_mergePlain.body)) (.mark (leaf [(1, .s .slice), (5, .s .slice), (6, .s (.int .i64)), (7, .s (.int .i64))] (g_parseState_mergePlain.k1 R Xa)) (.seq (.leaf (sel [1, 1, 1, 0, 1, 0, 0, 0, 0, 1, 0] g_parseState_mergePlain.body)) (.mark (leaf [(1, .s .slice), (5, .s .slice), (7, .s (.int .i64))] (g_parseState_mergePlain.k2 R Xa)) (.leaf (sel [1, 1, 1, 0, 1, 0, 0, 0, 0, 1, 1] g_parseState_mergePlain.body))))))) (.leaf (sel [1, 1, 1, 0, 1, 0, 0, 1] g_parseState_mergePlain.body)))
def g_parseState_mergePlain (R : Ending → World → Prop) (x0 : Option Addr) (x1q : Option Addr) (x1n : Nat) (x1c : Nat) (w : World) : Prop :=
 ∃ (r1q : Option Addr), ∃ (r1n : Nat), ∃ (r1c : Nat), ∃ w2, (Instr.sliceAt ty_S_Inline (.slice x1q x1n x1c) none (some (.int .i64 0)) none).run P w = .ok (.slice r1q r1n r1c) w2 ∧
 g_parseState_mergePlain.l1 R x1q x1n x1c r1q r1n r1c 0 0 w2

noncomputable def g_parseState_mergePlain.ac (R : Ending → World → Prop) : AC :=
  (.seq (.leaf (sel [0] g_parseState_mergePlain.body)) (.seq (.leaf (sel [1, 0] g_parseState_mergePlain.body)) (.seq (.leaf (sel [1, 1, 0] g_parseState_mergePlain.body)) (.seq (.seq (.leaf (sel [1, 1, 1, 0, 0] g_parseState_mergePlain.body)) (.block 0 (.loop (leaf [(1, .s .slice), (5, .s .slice), (6, .s (.int .i64)), (7, .s (.int .i64))] (g_parseState_mergePlain.l1 R)) (sel [1, 1, 1, 0, 1, 0, 0] g_parseState_mergePlain.body)))) (.leaf (sel [1, 1, 1, 1] g_parseState_mergePlain.body))))))
theorem g_parseState_mergePlain.good (R : Ending → World → Prop) : Good P 50 (g_parseState_mergePlain.ac R) (QF P [.tmp 4] R) :=
  ⟨trivial, ⟨trivial, ⟨trivial, ⟨⟨trivial, (loopG (g_parseState_mergePlain.al1 R) (g_parseState_mergePlain.bl1 R) (fun _ => by kernel_rfl) (fun Xa => ⟨⟨trivial, ⟨⟨trivial, ⟨trivial, cutE (by intro x1q x1n x1c x5q x5n x5c x7 ρ w; kernel_rfl)⟩⟩, cutE (by intro x1q x1n x1c x5q x5n x5c x6 x7 ρ w; kernel_rfl)⟩⟩, trivial⟩) (fun Xa => by intro x1q x1n x1c x5q x5n x5c x6 x7 ρ w; kernel_rfl) (fun X h _ _ _ _ _ _ _ _ _ g => g X h))⟩, trivial⟩⟩⟩⟩
theorem g_parseState_mergePlain.eq (R : Ending → World → Prop) (x0 : Option Addr) (x1q : Option Addr) (x1n : Nat) (x1c : Nat) (w : World) : g_parseState_mergePlain R x0 x1q x1n x1c w = vcA P 50 (g_parseState_mergePlain.ac R) (QF P [.tmp 4] R) (fr0 [.pointer x0, .slice x1q x1n x1c]) w := by kernel_rfl
theorem g_parseState_mergePlain.sound {R : Ending → World → Prop} {x0 : Option Addr} {x1q : Option Addr} {x1n : Nat} {x1c : Nat} {w : World} (h : g_parseState_mergePlain R x0 x1q x1n x1c w) : callE P i_parseState_mergePlain #[.pointer x0, .slice x1q x1n x1c] R w :=
  callE_fin (c := g_parseState_mergePlain.body) Tryz.func69 Tryz.call69 (by kernel_rfl) (by kernel_rfl) (by kernel_rfl) (by kernel_rfl) (by kernel_rfl) (g_parseState_mergePlain.good R) (g_parseState_mergePlain.eq R x0 x1q x1n x1c w) h
end Go.Proofs.YtmkfleohcnopkaaGreatDoor

set_option linter.unusedVariables false
set_option maxRecDepth 20000
namespace Go.Proofs.YtmkfleohcnopkaaGreatDoor
open Go.Proofs
/- 109 pub-paratext/pub/rscmarkdown.mergePlain1 -/
noncomputable def g_mergePlain1.body : Code := bodyOf Tryz.f109
def g_mergePlain1.bl1 (R : Ending → World → Prop) (Xa : Option Addr → Nat → Nat → Option Addr → Nat → Nat → Int → Int → World → Prop) (x3q : Option Addr) (x3n : Nat) (x3c : Nat) (x13q : Option Addr) (x13n : Nat) (x13c : Nat) (x14 : Int) (x15 : Int) (w : World) : Prop :=
 br (decide (x15 < x14))
 (0 ≤ x15 ∧ x15 < (x13n : Int) ∧
 nilP x13q fun a5 =>
 ∃ (v6 : Value), w.cell? (a5.add (Int.toNat x15 * 1)) = some v6 ∧
 callE P i_toPlain #[v6] (fun e w8 => ∃ (r7 : Option Addr), e = .returned (.pointer r7) ∧
 nilP r7 fun a9 =>
 ∃ (v10 : ByteArray), w8.cell? a9 = some (.string v10) ∧
 ∃ (r11q : Option Addr), ∃ (r11n : Nat), ∃ (r11c : Nat), ∃ w12, (Instr.buildSlice ty_S_string 1 #[(0, .string v10)]).run P w8 = .ok (.slice r11q r11n r11c) w12 ∧
 ∃ (r13q : Option Addr), ∃ (r13n : Nat), ∃ (r13c : Nat), ∃ w14, (Builtin.append_ #[ty_S_string, ty_S_string] ty_S_string #[.slice x3q x3n x3c, .slice r11q r11n r11c]).run P w12 = .ok (.slice r13q r13n r13c) w14 ∧
 Xa r13q r13n r13c x13q x13n x13c x14 (IntKind.i64.wrap (x15 + 1)) w14) w)
 (callE P i_strings_Join #[.slice x3q x3n x3c, .string (ByteArray.mk #[])] (fun e w16 => ∃ (r15 : ByteArray), e = .returned (.string r15) ∧
 box w16 #[.string r15] ty_Plain fun b17 w18 =>
 R (.returned (.pointer (some ⟨b17, 0, none⟩))) w18) w)
def g_mergePlain1.l1 (R : Ending → World → Prop) (x3q : Option Addr) (x3n : Nat) (x3c : Nat) (x13q : Option Addr) (x13n : Nat) (x13c : Nat) (x14 : Int) (x15 : Int) (w : World) : Prop :=
  ∀ X : Option Addr → Nat → Nat → Option Addr → Nat → Nat → Int → Int → World → Prop, (∀ x3q x3n x3c x13q x13n x13c x14 x15 w, g_mergePlain1.bl1 R X x3q x3n x3c x13q x13n x13c x14 x15 w → X x3q x3n x3c x13q x13n x13c x14 x15 w) → X x3q x3n x3c x13q x13n x13c x14 x15 w

noncomputable def g_mergePlain1.al1 (R : Ending → World → Prop) (Xa : Option Addr → Nat → Nat → Option Addr → Nat → Nat → Int → Int → World → Prop) : AC :=
  (.leaf (sel [1, 1, 1, 0, 1, 0, 0] g_mergePlain1.body))
def g_mergePlain1 (R : Ending → World → Prop) (x0q : Option Addr) (x0n : Nat) (x0c : Nat) (w : World) : Prop :=
 br ((x0n : Int) == 1)
 (0 ≤ (0 : Int) ∧ 0 < (x0n : Int) ∧
 nilP x0q fun a1 =>
 ∃ (v2 : Value), w.cell? (a1.add (Int.toNat 0 * 1)) = some v2 ∧
 callE P i_toPlain #[v2] (fun e w4 => ∃ (r3 : Option Addr), e = .returned (.pointer r3) ∧
 R (.returned (.pointer r3)) w4) w)
 (g_mergePlain1.l1 R none 0 0 x0q x0n x0c (x0n : Int) 0 w)

noncomputable def g_mergePlain1.ac (R : Ending → World → Prop) : AC :=
  (.seq (.leaf (sel [0] g_mergePlain1.body)) (.seq (.leaf (sel [1, 0] g_mergePlain1.body)) (.seq (.leaf (sel [1, 1, 0] g_mergePlain1.body)) (.seq (.seq (.leaf (sel [1, 1, 1, 0, 0] g_mergePlain1.body)) (.block 0 (.loop (leaf [(3, .s .slice), (13, .s .slice), (14, .s (.int .i64)), (15, .s (.int .i64))] (g_mergePlain1.l1 R)) (sel [1, 1, 1, 0, 1, 0, 0] g_mergePlain1.body)))) (.leaf (sel [1, 1, 1, 1] g_mergePlain1.body))))))
theorem g_mergePlain1.good (R : Ending → World → Prop) : Good P 32 (g_mergePlain1.ac R) (QF P [.tmp 2] R) :=
  ⟨trivial, ⟨trivial, ⟨trivial, ⟨⟨trivial, (loopG (g_mergePlain1.al1 R) (g_mergePlain1.bl1 R) (fun _ => by kernel_rfl) (fun Xa => trivial) (fun Xa => by intro x3q x3n x3c x13q x13n x13c x14 x15 ρ w; kernel_rfl) (fun X h _ _ _ _ _ _ _ _ _ g => g X h))⟩, trivial⟩⟩⟩⟩
theorem g_mergePlain1.eq (R : Ending → World → Prop) (x0q : Option Addr) (x0n : Nat) (x0c : Nat) (w : World) : g_mergePlain1 R x0q x0n x0c w = vcA P 32 (g_mergePlain1.ac R) (QF P [.tmp 2] R) (fr0 [.slice x0q x0n x0c]) w := by kernel_rfl
theorem g_mergePlain1.sound {R : Ending → World → Prop} {x0q : Option Addr} {x0n : Nat} {x0c : Nat} {w : World} (h : g_mergePlain1 R x0q x0n x0c w) : callE P i_mergePlain1 #[.slice x0q x0n x0c] R w :=
  callE_fin (c := g_mergePlain1.body) Tryz.func109 Tryz.call109 (by kernel_rfl) (by kernel_rfl) (by kernel_rfl) (by kernel_rfl) (by kernel_rfl) (g_mergePlain1.good R) (g_mergePlain1.eq R x0q x0n x0c w) h
end Go.Proofs.YtmkfleohcnopkaaGreatDoor

set_option linter.unusedVariables false
set_option maxRecDepth 20000
namespace Go.Proofs.YtmkfleohcnopkaaGreatDoor
open Go.Proofs
/- 108 pub-paratext/pub/rscmarkdown.toPlain -/
noncomputable def g_toPlain.body : Code := bodyOf Tryz.f108
def g_toPlain (R : Ending → World → Prop) (x0 : Value) (w : World) : Prop :=
 ∃ (r1_0 : Option Addr), ∃ (r1_1 : Bool), ∃ w2, (Instr.typeAssert x0 ty_Inline ty_P_Plain true).run P w = .ok (.tuple #[.pointer r1_0, .bool r1_1]) w2 ∧
 br r1_1
 (R (.returned (.pointer r1_0)) w2)
 (∃ (r3_0 : Option Addr), ∃ (r3_1 : Bool), ∃ w4, (Instr.typeAssert x0 ty_Inline ty_P_emphPlain true).run P w2 = .ok (.tuple #[.pointer r3_0, .bool r3_1]) w4 ∧
 br r3_1
 (nilP r3_0 fun a5 =>
 R (.returned (.pointer (some a5))) w4)
 (∃ (r6_0 : Option Addr), ∃ (r6_1 : Bool), ∃ w7, (Instr.typeAssert x0 ty_Inline ty_P_openPlain true).run P w4 = .ok (.tuple #[.pointer r6_0, .bool r6_1]) w7 ∧
 br r6_1
 (nilP r6_0 fun a8 =>
 R (.returned (.pointer (some a8))) w7)
 (R (.returned (.pointer none)) w7)))

noncomputable def g_toPlain.ac (R : Ending → World → Prop) : AC :=
  (.leaf (sel [] g_toPlain.body))
theorem g_toPlain.good (R : Ending → World → Prop) : Good P 23 (g_toPlain.ac R) (QF P [.tmp 2] R) :=
  trivial
theorem g_toPlain.eq (R : Ending → World → Prop) (x0 : Value) (w : World) : g_toPlain R x0 w = vcA P 23 (g_toPlain.ac R) (QF P [.tmp 2] R) (fr0 [x0]) w := by kernel_rfl
theorem g_toPlain.sound {R : Ending → World → Prop} {x0 : Value} {w : World} (h : g_toPlain R x0 w) : callE P i_toPlain #[x0] R w :=
  callE_fin (c := g_toPlain.body) Tryz.func108 Tryz.call108 (by kernel_rfl) (by kernel_rfl) (by kernel_rfl) (by kernel_rfl) (by kernel_rfl) (g_toPlain.good R) (g_toPlain.eq R x0 w) h
end Go.Proofs.YtmkfleohcnopkaaGreatDoor

set_option linter.unusedVariables false
set_option maxRecDepth 20000
namespace Go.Proofs.YtmkfleohcnopkaaGreatDoor
open Go.Proofs
/- 68 (*pub-paratext/pub/rscmarkdown.parseState).emph -/
noncomputable def g_parseState_emph.body : Code := bodyOf Tryz.f68
def g_parseState_emph.k4 (R : Ending → World → Prop) (Xa : Option Addr → Nat → Nat → Nat → Nat → Value → Value → Int → World → Prop) (x2q : Option Addr) (x2n : Nat) (x2c : Nat) (x4 : Nat) (x7 : Nat) (x8 : Value) (x9 : Value) (x10 : Int) (x13 : Option Addr) (x21 : Option Addr) (w : World) : Prop :=
 nilP x13 fun a147 =>
 ∃ (v148 : Bool), w.cell? (a147.add 1) = some (.bool v148) ∧
 br v148
 (∃ (v149q : Option Addr), ∃ (v149n : Nat), ∃ (v149c : Nat), w.cell? ⟨x4, 0, none⟩ = some (.slice v149q v149n v149c) ∧
 nilP x13 fun a150 =>
 stV w ((a150.add 3).add 0) (.int .i64 (v149n : Int)) fun w151 =>
 ∃ (v152q : Option Addr), ∃ (v152n : Nat), ∃ (v152c : Nat), w151.cell? ⟨x4, 0, none⟩ = some (.slice v152q v152n v152c) ∧
 ∃ (r153q : Option Addr), ∃ (r153n : Nat), ∃ (r153c : Nat), ∃ w154, (Instr.buildSlice ty_S_Inline 1 #[(0, .iface ty_P_emphPlain (.pointer x13))]).run P w151 = .ok (.slice r153q r153n r153c) w154 ∧
 ∃ (r155q : Option Addr), ∃ (r155n : Nat), ∃ (r155c : Nat), ∃ w156, (Builtin.append_ #[ty_S_Inline, ty_S_Inline] ty_S_Inline #[.slice v152q v152n v152c, .slice r153q r153n r153c]).run P w154 = .ok (.slice r155q r155n r155c) w156 ∧
 stV w156 ⟨x4, 0, none⟩ (.slice r155q r155n r155c) fun w157 =>
 nilP x21 fun a158 =>
 ∃ (v159q : Option Addr), ∃ (v159n : Nat), ∃ (v159c : Nat), w157.cell? a158 = some (.slice v159q v159n v159c) ∧
 ∃ (r160q : Option Addr), ∃ (r160n : Nat), ∃ (r160c : Nat), ∃ w161, (Instr.buildSlice ty_S_P_emphPlain 1 #[(0, .pointer x13)]).run P w157 = .ok (.slice r160q r160n r160c) w161 ∧
 ∃ (r162q : Option Addr), ∃ (r162n : Nat), ∃ (r162c : Nat), ∃ w163, (Builtin.append_ #[ty_S_P_emphPlain, ty_S_P_emphPlain] ty_S_P_emphPlain #[.slice v159q v159n v159c, .slice r160q r160n r160c]).run P w161 = .ok (.slice r162q r162n r162c) w163 ∧
 nilP x21 fun a164 =>
 stV w163 (a164.add 0) (.slice r162q r162n r162c) fun w165 =>
 Xa x2q x2n x2c x4 x7 x8 x9 (IntKind.i64.wrap (x10 + 1)) w165)
 (tk w fun w166 =>
 nilP x13 fun a167 =>
 ∃ (v168q : Option Addr), ∃ (v168n : Nat), ∃ (v168c : Nat), w166.cell? ⟨x4, 0, none⟩ = some (.slice v168q v168n v168c) ∧
 ∃ (r169q : Option Addr), ∃ (r169n : Nat), ∃ (r169c : Nat), ∃ w170, (Instr.buildSlice ty_S_Inline 1 #[(0, .iface ty_P_Plain (.pointer (some a167)))]).run P w166 = .ok (.slice r169q r169n r169c) w170 ∧
 SameC w166 w170 ⟨x4, 0, none⟩ 1 ∧
 ∃ (r171q : Option Addr), ∃ (r171n : Nat), ∃ (r171c : Nat), ∃ w172, (Builtin.append_ #[ty_S_Inline, ty_S_Inline] ty_S_Inline #[.slice v168q v168n v168c, .slice r169q r169n r169c]).run P w170 = .ok (.slice r171q r171n r171c) w172 ∧
 stV w172 ⟨x4, 0, none⟩ (.slice r171q r171n r171c) fun w173 =>
 Xa x2q x2n x2c x4 x7 x8 x9 (IntKind.i64.wrap (x10 + 1)) w173)

def g_parseState_emph.k7 (R : Ending → World → Prop) (Xa : Option Addr → Nat → Nat → Nat → Nat → Value → Value → Int → World → Prop) (Xb : Option Addr → Nat → Nat → Nat → Nat → Value → Value → Int → Option Addr → Option Addr → World → Prop) (Xc : Option Addr → Nat → Nat → Nat → Nat → Value → Value → Int → Option Addr → Option Addr → Int → World → Prop) (x2q : Option Addr) (x2n : Nat) (x2c : Nat) (x4 : Nat) (x7 : Nat) (x8 : Value) (x9 : Value) (x10 : Int) (x13 : Option Addr) (x15 : Option Addr) (x18 : Int) (x19 : Bool) (x20 : Option Addr) (w : World) : Prop :=
 enterE P (do let d ← Deferred.ofValue x9 #[]; invoke d.target d.args) (fun e w267 => e = .returned (.tuple #[]) ∧
 br x19
 (∃ (v268q : Option Addr), ∃ (v268n : Nat), ∃ (v268c : Nat), w267.cell? ⟨x4, 0, none⟩ = some (.slice v268q v268n v268c) ∧
 ∃ (r269q : Option Addr), ∃ (r269n : Nat), ∃ (r269c : Nat), ∃ w270, (Instr.buildSlice ty_S_Inline 1 #[(0, .iface ty_P_Del (.pointer x20))]).run P w267 = .ok (.slice r269q r269n r269c) w270 ∧
 ∃ (r271q : Option Addr), ∃ (r271n : Nat), ∃ (r271c : Nat), ∃ w272, (Builtin.append_ #[ty_S_Inline, ty_S_Inline] ty_S_Inline #[.slice v268q v268n v268c, .slice r269q r269n r269c]).run P w270 = .ok (.slice r271q r271n r271c) w272 ∧
 stV w272 ⟨x4, 0, none⟩ (.slice r271q r271n r271c) fun w273 =>
 Xb x2q x2n x2c x4 x7 x8 x9 x10 x13 x15 w273)
 (br (x18 == 2)
 (∃ (v274q : Option Addr), ∃ (v274n : Nat), ∃ (v274c : Nat), w267.cell? ⟨x4, 0, none⟩ = some (.slice v274q v274n v274c) ∧
 ∃ (r275q : Option Addr), ∃ (r275n : Nat), ∃ (r275c : Nat), ∃ w276, (Instr.buildSlice ty_S_Inline 1 #[(0, .iface ty_P_Strong (.pointer x20))]).run P w267 = .ok (.slice r275q r275n r275c) w276 ∧
 ∃ (r277q : Option Addr), ∃ (r277n : Nat), ∃ (r277c : Nat), ∃ w278, (Builtin.append_ #[ty_S_Inline, ty_S_Inline] ty_S_Inline #[.slice v274q v274n v274c, .slice r275q r275n r275c]).run P w276 = .ok (.slice r277q r277n r277c) w278 ∧
 stV w278 ⟨x4, 0, none⟩ (.slice r277q r277n r277c) fun w279 =>
 Xb x2q x2n x2c x4 x7 x8 x9 x10 x13 x15 w279)
 (∃ (v280q : Option Addr), ∃ (v280n : Nat), ∃ (v280c : Nat), w267.cell? ⟨x4, 0, none⟩ = some (.slice v280q v280n v280c) ∧
 ∃ (r281q : Option Addr), ∃ (r281n : Nat), ∃ (r281c : Nat), ∃ w282, (Instr.buildSlice ty_S_Inline 1 #[(0, .iface ty_P_Emph (.pointer x20))]).run P w267 = .ok (.slice r281q r281n r281c) w282 ∧
 ∃ (r283q : Option Addr), ∃ (r283n : Nat), ∃ (r283c : Nat), ∃ w284, (Builtin.append_ #[ty_S_Inline, ty_S_Inline] ty_S_Inline #[.slice v280q v280n v280c, .slice r281q r281n r281c]).run P w282 = .ok (.slice r283q r283n r283c) w284 ∧
 stV w284 ⟨x4, 0, none⟩ (.slice r283q r283n r283c) fun w285 =>
 Xb x2q x2n x2c x4 x7 x8 x9 x10 x13 x15 w285))) w

def g_parseState_emph.k2 (R : Ending → World → Prop) (Xa : Option Addr → Nat → Nat → Nat → Nat → Value → Value → Int → World → Prop) (x2q : Option Addr) (x2n : Nat) (x2c : Nat) (x4 : Nat) (x7 : Nat) (x8 : Value) (x9 : Value) (x10 : Int) (x13 : Option Addr) (x21 : Option Addr) (w : World) : Prop :=
 nilP x13 fun a132 =>
 ∃ (v133 : ByteArray), w.cell? a132 = some (.string v133) ∧
 br (v133.toList == (ByteArray.mk #[34]).toList)
 (nilP x13 fun a134 =>
 ∃ (v135 : Bool), w.cell? (a134.add 2) = some (.bool v135) ∧
 br v135
 (nilP x13 fun a136 =>
 stV w (a136.add 0) (.string (ByteArray.mk #[226, 128, 157])) fun w137 =>
 g_parseState_emph.k4 R Xa x2q x2n x2c x4 x7 x8 x9 x10 x13 x21 w137)
 (nilP x13 fun a138 =>
 stV w (a138.add 0) (.string (ByteArray.mk #[226, 128, 156])) fun w139 =>
 g_parseState_emph.k4 R Xa x2q x2n x2c x4 x7 x8 x9 x10 x13 x21 w139))
 (g_parseState_emph.k4 R Xa x2q x2n x2c x4 x7 x8 x9 x10 x13 x21 w)

def g_parseState_emph.k6 (R : Ending → World → Prop) (Xa : Option Addr → Nat → Nat → Nat → Nat → Value → Value → Int → World → Prop) (Xb : Option Addr → Nat → Nat → Nat → Nat → Value → Value → Int → Option Addr → Option Addr → World → Prop) (Xc : Option Addr → Nat → Nat → Nat → Nat → Value → Value → Int → Option Addr → Option Addr → Int → World → Prop) (x2q : Option Addr) (x2n : Nat) (x2c : Nat) (x4 : Nat) (x7 : Nat) (x8 : Value) (x9 : Value) (x10 : Int) (x13 : Option Addr) (x15 : Option Addr) (x17 : Option Addr) (x18 : Int) (w : World) : Prop :=
 nilP x13 fun a228 =>
 ∃ (v229 : ByteArray), w.cell? a228 = some (.string v229) ∧
 0 ≤ (0 : Int) ∧ 0 < (v229.size : Int) ∧
 tk w fun w230 =>
 nilP x13 fun a231 =>
 nilP x17 fun a232 =>
 ∃ (v233 : ByteArray), w230.cell? a231 = some (.string v233) ∧
 0 ≤ x18 ∧ x18 ≤ (v233.size : Int) ∧
 ∃ (v234q : Option Addr), ∃ (v234n : Nat), ∃ (v234c : Nat), w230.cell? ⟨x4, 0, none⟩ = some (.slice v234q v234n v234c) ∧
 ∃ (v235 : Int), w230.cell? (a232.add 3) = some (.int .i64 v235) ∧
 ∃ (r236q : Option Addr), ∃ (r236n : Nat), ∃ (r236c : Nat), (∀ w, (Instr.sliceAt ty_S_Inline (.slice v234q v234n v234c) (some (.int .i64 (IntKind.i64.wrap (v235 + 1)))) none none).run P w = .ok (.slice r236q r236n r236c) w) ∧
 ∃ (r237q : Option Addr), ∃ (r237n : Nat), ∃ (r237c : Nat), ∃ w238, (Builtin.append_ #[ty_S_Inline, ty_S_Inline] ty_S_Inline #[.slice none 0 0, .slice r236q r236n r236c]).run P w230 = .ok (.slice r237q r237n r237c) w238 ∧
 SameC w230 w238 (a231) 1 ∧
 box w238 #[.string (v233.extract 0 (Int.toNat x18)), .slice r237q r237n r237c] ty_Emph fun b239 w240 =>
 tk w240 fun w241 =>
 nilP x17 fun a242 =>
 nilP x17 fun a243 =>
 ∃ (v244 : ByteArray), w241.cell? a242 = some (.string v244) ∧
 ∃ (v245 : ByteArray), w241.cell? a243 = some (.string v245) ∧
 0 ≤ (IntKind.i64.wrap ((v245.size : Int) - x18)) ∧ (IntKind.i64.wrap ((v245.size : Int) - x18)) ≤ (v244.size : Int) ∧
 nilP x17 fun a246 =>
 stV w241 (a246.add 0) (.string (v244.extract 0 (Int.toNat (IntKind.i64.wrap ((v245.size : Int) - x18))))) fun w247 =>
 nilP x13 fun a248 =>
 ∃ (v249 : ByteArray), w247.cell? a248 = some (.string v249) ∧
 0 ≤ x18 ∧ x18 ≤ (v249.size : Int) ∧
 nilP x13 fun a250 =>
 stV w247 (a250.add 0) (.string (v249.extract (Int.toNat x18) v249.size)) fun w251 =>
 nilP x17 fun a252 =>
 ∃ (v253 : ByteArray), w251.cell? a252 = some (.string v253) ∧
 br (v253.toList == (ByteArray.mk #[]).toList)
 (tk w251 fun w254 =>
 nilP x17 fun a255 =>
 ∃ (v256q : Option Addr), ∃ (v256n : Nat), ∃ (v256c : Nat), w254.cell? ⟨x4, 0, none⟩ = some (.slice v256q v256n v256c) ∧
 ∃ (v257 : Int), w254.cell? (a255.add 3) = some (.int .i64 v257) ∧
 ∃ (r258q : Option Addr), ∃ (r258n : Nat), ∃ (r258c : Nat), (∀ w, (Instr.sliceAt ty_S_Inline (.slice v256q v256n v256c) none (some (.int .i64 v257)) none).run P w = .ok (.slice r258q r258n r258c) w) ∧
 stV w254 ⟨x4, 0, none⟩ (.slice r258q r258n r258c) fun w259 =>
 g_parseState_emph.k7 R Xa Xb Xc x2q x2n x2c x4 x7 x8 x9 x10 x13 x15 x18 ((bt v229 0) == 126) (some ⟨b239, 0, none⟩) w259)
 (tk w251 fun w260 =>
 nilP x17 fun a261 =>
 ∃ (v262q : Option Addr), ∃ (v262n : Nat), ∃ (v262c : Nat), w260.cell? ⟨x4, 0, none⟩ = some (.slice v262q v262n v262c) ∧
 ∃ (v263 : Int), w260.cell? (a261.add 3) = some (.int .i64 v263) ∧
 ∃ (r264q : Option Addr), ∃ (r264n : Nat), ∃ (r264c : Nat), (∀ w, (Instr.sliceAt ty_S_Inline (.slice v262q v262n v262c) none (some (.int .i64 (IntKind.i64.wrap (v263 + 1)))) none).run P w = .ok (.slice r264q r264n r264c) w) ∧
 stV w260 ⟨x4, 0, none⟩ (.slice r264q r264n r264c) fun w265 =>
 g_parseState_emph.k7 R Xa Xb Xc x2q x2n x2c x4 x7 x8 x9 x10 x13 x15 x18 ((bt v229 0) == 126) (some ⟨b239, 0, none⟩) w265)

def g_parseState_emph.k1 (R : Ending → World → Prop) (Xa : Option Addr → Nat → Nat → Nat → Nat → Value → Value → Int → World → Prop) (x2q : Option Addr) (x2n : Nat) (x2c : Nat) (x4 : Nat) (x7 : Nat) (x8 : Value) (x9 : Value) (x10 : Int) (x13 : Option Addr) (w : World) : Prop :=
 nilP x13 fun a41 =>
 ∃ (v42 : ByteArray), w.cell? a41 = some (.string v42) ∧
 br (!(v42.toList == (ByteArray.mk #[]).toList))
 (nilP x13 fun a43 =>
 ∃ (v44 : ByteArray), w.cell? a43 = some (.string v44) ∧
 0 ≤ (0 : Int) ∧ 0 < (v44.size : Int) ∧
 enterE P (do let d ← Deferred.ofValue x8 #[.int .u8 (bt v44 0)]; invoke d.target d.args) (fun e w46 => ∃ (r45 : Int), e = .returned (.int .i64 r45) ∧
 0 ≤ r45 ∧ r45 < (5 : Int) ∧
 nilP x13 fun a47 =>
 ∃ (v48 : ByteArray), w46.cell? a47 = some (.string v48) ∧
 br (v48.toList == (ByteArray.mk #[39]).toList)
 (nilP x13 fun a49 =>
 stV w46 (a49.add 0) (.string (ByteArray.mk #[226, 128, 153])) fun w50 =>
 g_parseState_emph.k2 R Xa x2q x2n x2c x4 x7 x8 x9 x10 x13 (some ((⟨x7, 0, none⟩ : Addr).add (Int.toNat r45 * 1))) w50)
 (g_parseState_emph.k2 R Xa x2q x2n x2c x4 x7 x8 x9 x10 x13 (some ((⟨x7, 0, none⟩ : Addr).add (Int.toNat r45 * 1))) w46)) w)
 (Xa x2q x2n x2c x4 x7 x8 x9 (IntKind.i64.wrap (x10 + 1)) w)

def g_parseState_emph.k5 (R : Ending → World → Prop) (Xa : Option Addr → Nat → Nat → Nat → Nat → Value → Value → Int → World → Prop) (Xb : Option Addr → Nat → Nat → Nat → Nat → Value → Value → Int → Option Addr → Option Addr → World → Prop) (Xc : Option Addr → Nat → Nat → Nat → Nat → Value → Value → Int → Option Addr → Option Addr → Int → World → Prop) (x2q : Option Addr) (x2n : Nat) (x2c : Nat) (x4 : Nat) (x7 : Nat) (x8 : Value) (x9 : Value) (x10 : Int) (x13 : Option Addr) (x15 : Option Addr) (x16 : Int) (x17 : Option Addr) (w : World) : Prop :=
 nilP x13 fun a174 =>
 ∃ (v175 : ByteArray), w.cell? a174 = some (.string v175) ∧
 0 ≤ (0 : Int) ∧ 0 < (v175.size : Int) ∧
 br ((bt v175 0) == 34)
 (tk w fun w176 =>
 nilP x17 fun a177 =>
 ∃ (v178q : Option Addr), ∃ (v178n : Nat), ∃ (v178c : Nat), w176.cell? ⟨x4, 0, none⟩ = some (.slice v178q v178n v178c) ∧
 ∃ (v179 : Int), w176.cell? (a177.add 3) = some (.int .i64 v179) ∧
 0 ≤ v179 ∧ v179 < (v178n : Int) ∧
 nilP v178q fun a180 =>
 ∃ (v181 : Value), w176.cell? (a180.add (Int.toNat v179 * 1)) = some v181 ∧
 ∃ (r182 : Option Addr), (∀ w, (Instr.typeAssert v181 ty_Inline ty_P_emphPlain false).run P w = .ok (.pointer r182) w) ∧
 nilP r182 fun a183 =>
 stV w176 (a183.add 0) (.string (ByteArray.mk #[226, 128, 156])) fun w184 =>
 nilP x13 fun a185 =>
 stV w184 (a185.add 0) (.string (ByteArray.mk #[226, 128, 157])) fun w186 =>
 ∃ (v187q : Option Addr), ∃ (v187n : Nat), ∃ (v187c : Nat), w186.cell? ⟨x4, 0, none⟩ = some (.slice v187q v187n v187c) ∧
 ∃ (r188q : Option Addr), ∃ (r188n : Nat), ∃ (r188c : Nat), ∃ w189, (Instr.buildSlice ty_S_Inline 1 #[(0, .iface ty_P_emphPlain (.pointer x13))]).run P w186 = .ok (.slice r188q r188n r188c) w189 ∧
 ∃ (r190q : Option Addr), ∃ (r190n : Nat), ∃ (r190c : Nat), ∃ w191, (Builtin.append_ #[ty_S_Inline, ty_S_Inline] ty_S_Inline #[.slice v187q v187n v187c, .slice r188q r188n r188c]).run P w189 = .ok (.slice r190q r190n r190c) w191 ∧
 stV w191 ⟨x4, 0, none⟩ (.slice r190q r190n r190c) fun w192 =>
 nilP x15 fun a193 =>
 ∃ (v194q : Option Addr), ∃ (v194n : Nat), ∃ (v194c : Nat), w192.cell? a193 = some (.slice v194q v194n v194c) ∧
 ∃ (r195q : Option Addr), ∃ (r195n : Nat), ∃ (r195c : Nat), ∃ w196, (Instr.sliceAt ty_S_P_emphPlain (.slice v194q v194n v194c) none (some (.int .i64 x16)) none).run P w192 = .ok (.slice r195q r195n r195c) w196 ∧
 nilP x15 fun a197 =>
 stV w196 (a197.add 0) (.slice r195q r195n r195c) fun w198 =>
 Xa x2q x2n x2c x4 x7 x8 x9 (IntKind.i64.wrap (x10 + 1)) w198)
 (nilP x13 fun a199 =>
 ∃ (v200 : ByteArray), w.cell? a199 = some (.string v200) ∧
 0 ≤ (0 : Int) ∧ 0 < (v200.size : Int) ∧
 br ((bt v200 0) == 39)
 (tk w fun w201 =>
 nilP x17 fun a202 =>
 ∃ (v203q : Option Addr), ∃ (v203n : Nat), ∃ (v203c : Nat), w201.cell? ⟨x4, 0, none⟩ = some (.slice v203q v203n v203c) ∧
 ∃ (v204 : Int), w201.cell? (a202.add 3) = some (.int .i64 v204) ∧
 0 ≤ v204 ∧ v204 < (v203n : Int) ∧
 nilP v203q fun a205 =>
 ∃ (v206 : Value), w201.cell? (a205.add (Int.toNat v204 * 1)) = some v206 ∧
 ∃ (r207 : Option Addr), (∀ w, (Instr.typeAssert v206 ty_Inline ty_P_emphPlain false).run P w = .ok (.pointer r207) w) ∧
 nilP r207 fun a208 =>
 stV w201 (a208.add 0) (.string (ByteArray.mk #[226, 128, 152])) fun w209 =>
 nilP x13 fun a210 =>
 stV w209 (a210.add 0) (.string (ByteArray.mk #[226, 128, 153])) fun w211 =>
 ∃ (v212q : Option Addr), ∃ (v212n : Nat), ∃ (v212c : Nat), w211.cell? ⟨x4, 0, none⟩ = some (.slice v212q v212n v212c) ∧
 ∃ (r213q : Option Addr), ∃ (r213n : Nat), ∃ (r213c : Nat), ∃ w214, (Instr.buildSlice ty_S_Inline 1 #[(0, .iface ty_P_emphPlain (.pointer x13))]).run P w211 = .ok (.slice r213q r213n r213c) w214 ∧
 ∃ (r215q : Option Addr), ∃ (r215n : Nat), ∃ (r215c : Nat), ∃ w216, (Builtin.append_ #[ty_S_Inline, ty_S_Inline] ty_S_Inline #[.slice v212q v212n v212c, .slice r213q r213n r213c]).run P w214 = .ok (.slice r215q r215n r215c) w216 ∧
 stV w216 ⟨x4, 0, none⟩ (.slice r215q r215n r215c) fun w217 =>
 nilP x15 fun a218 =>
 ∃ (v219q : Option Addr), ∃ (v219n : Nat), ∃ (v219c : Nat), w217.cell? a218 = some (.slice v219q v219n v219c) ∧
 ∃ (r220q : Option Addr), ∃ (r220n : Nat), ∃ (r220c : Nat), ∃ w221, (Instr.sliceAt ty_S_P_emphPlain (.slice v219q v219n v219c) none (some (.int .i64 x16)) none).run P w217 = .ok (.slice r220q r220n r220c) w221 ∧
 nilP x15 fun a222 =>
 stV w221 (a222.add 0) (.slice r220q r220n r220c) fun w223 =>
 Xa x2q x2n x2c x4 x7 x8 x9 (IntKind.i64.wrap (x10 + 1)) w223)
 (nilP x13 fun a224 =>
 ∃ (v225 : ByteArray), w.cell? a224 = some (.string v225) ∧
 br (decide ((v225.size : Int) ≥ 2))
 (nilP x17 fun a226 =>
 ∃ (v227 : ByteArray), w.cell? a226 = some (.string v227) ∧
 br (decide ((v227.size : Int) ≥ 2))
 (g_parseState_emph.k6 R Xa Xb Xc x2q x2n x2c x4 x7 x8 x9 x10 x13 x15 x17 2 w)
 (g_parseState_emph.k6 R Xa Xb Xc x2q x2n x2c x4 x7 x8 x9 x10 x13 x15 x17 1 w))
 (g_parseState_emph.k6 R Xa Xb Xc x2q x2n x2c x4 x7 x8 x9 x10 x13 x15 x17 1 w)))

def g_parseState_emph.k3 (R : Ending → World → Prop) (Xa : Option Addr → Nat → Nat → Nat → Nat → Value → Value → Int → World → Prop) (Xb : Option Addr → Nat → Nat → Nat → Nat → Value → Value → Int → Option Addr → Option Addr → World → Prop) (Xc : Option Addr → Nat → Nat → Nat → Nat → Value → Value → Int → Option Addr → Option Addr → Int → World → Prop) (x2q : Option Addr) (x2n : Nat) (x2c : Nat) (x4 : Nat) (x7 : Nat) (x8 : Value) (x9 : Value) (x10 : Int) (x13 : Option Addr) (x15 : Option Addr) (x16 : Int) (x17 : Option Addr) (w : World) : Prop :=
 tk w fun w140 =>
 nilP x13 fun a141 =>
 ∃ (v142 : ByteArray), w140.cell? a141 = some (.string v142) ∧
 0 ≤ (0 : Int) ∧ 0 < (v142.size : Int) ∧
 br ((bt v142 0) == 126)
 (nilP x13 fun a143 =>
 nilP x17 fun a144 =>
 ∃ (v145 : ByteArray), w140.cell? a143 = some (.string v145) ∧
 ∃ (v146 : ByteArray), w140.cell? a144 = some (.string v146) ∧
 br ((v145.size : Int) != (v146.size : Int))
 (Xc x2q x2n x2c x4 x7 x8 x9 x10 x13 x15 (IntKind.i64.wrap (x16 - 1)) w140)
 (g_parseState_emph.k5 R Xa Xb Xc x2q x2n x2c x4 x7 x8 x9 x10 x13 x15 x16 x17 w140))
 (g_parseState_emph.k5 R Xa Xb Xc x2q x2n x2c x4 x7 x8 x9 x10 x13 x15 x16 x17 w140)

def g_parseState_emph.bl3 (R : Ending → World → Prop) (Xa : Option Addr → Nat → Nat → Nat → Nat → Value → Value → Int → World → Prop) (Xb : Option Addr → Nat → Nat → Nat → Nat → Value → Value → Int → Option Addr → Option Addr → World → Prop) (Xc : Option Addr → Nat → Nat → Nat → Nat → Value → Value → Int → Option Addr → Option Addr → Int → World → Prop) (x2q : Option Addr) (x2n : Nat) (x2c : Nat) (x4 : Nat) (x7 : Nat) (x8 : Value) (x9 : Value) (x10 : Int) (x13 : Option Addr) (x15 : Option Addr) (x16 : Int) (w : World) : Prop :=
 br (decide (x16 ≥ 0))
 (nilP x15 fun a51 =>
 ∃ (v52q : Option Addr), ∃ (v52n : Nat), ∃ (v52c : Nat), w.cell? a51 = some (.slice v52q v52n v52c) ∧
 0 ≤ x16 ∧ x16 < (v52n : Int) ∧
 nilP v52q fun a53 =>
 ∃ (v54 : Option Addr), w.cell? (a53.add (Int.toNat x16 * 1)) = some (.pointer v54) ∧
 tk w fun w55 =>
 nilP x13 fun a56 =>
 ∃ (v57 : ByteArray), w55.cell? a56 = some (.string v57) ∧
 0 ≤ (0 : Int) ∧ 0 < (v57.size : Int) ∧
 br ((bt v57 0) == 42)
 (nilP x13 fun a58 =>
 ∃ (v59 : Bool), w55.cell? (a58.add 1) = some (.bool v59) ∧
 br v59
 (nilP x13 fun a60 =>
 ∃ (v61 : Bool), w55.cell? (a60.add 2) = some (.bool v61) ∧
 br v61
 (nilP x13 fun a62 =>
 nilP v54 fun a63 =>
 ∃ (v64 : Int), w55.cell? (a62.add 4) = some (.int .i64 v64) ∧
 ∃ (v65 : Int), w55.cell? (a63.add 4) = some (.int .i64 v65) ∧
 (3 : Int) ≠ 0 ∧
 br ((Int.tmod (IntKind.i64.wrap (v64 + v65)) 3) == 0)
 (nilP x13 fun a66 =>
 ∃ (v67 : Int), w55.cell? (a66.add 4) = some (.int .i64 v67) ∧
 (3 : Int) ≠ 0 ∧
 br ((Int.tmod v67 3) != 0)
 (Xc x2q x2n x2c x4 x7 x8 x9 x10 x13 x15 (IntKind.i64.wrap (x16 - 1)) w55)
 (nilP v54 fun a68 =>
 ∃ (v69 : Int), w55.cell? (a68.add 4) = some (.int .i64 v69) ∧
 (3 : Int) ≠ 0 ∧
 br ((Int.tmod v69 3) != 0)
 (Xc x2q x2n x2c x4 x7 x8 x9 x10 x13 x15 (IntKind.i64.wrap (x16 - 1)) w55)
 (g_parseState_emph.k3 R Xa Xb Xc x2q x2n x2c x4 x7 x8 x9 x10 x13 x15 x16 v54 w55)))
 (g_parseState_emph.k3 R Xa Xb Xc x2q x2n x2c x4 x7 x8 x9 x10 x13 x15 x16 v54 w55))
 (nilP v54 fun a70 =>
 ∃ (v71 : Bool), w55.cell? (a70.add 1) = some (.bool v71) ∧
 br v71
 (nilP v54 fun a72 =>
 ∃ (v73 : Bool), w55.cell? (a72.add 2) = some (.bool v73) ∧
 br v73
 (nilP x13 fun a74 =>
 nilP v54 fun a75 =>
 ∃ (v76 : Int), w55.cell? (a74.add 4) = some (.int .i64 v76) ∧
 ∃ (v77 : Int), w55.cell? (a75.add 4) = some (.int .i64 v77) ∧
 (3 : Int) ≠ 0 ∧
 br ((Int.tmod (IntKind.i64.wrap (v76 + v77)) 3) == 0)
 (nilP x13 fun a78 =>
 ∃ (v79 : Int), w55.cell? (a78.add 4) = some (.int .i64 v79) ∧
 (3 : Int) ≠ 0 ∧
 br ((Int.tmod v79 3) != 0)
 (Xc x2q x2n x2c x4 x7 x8 x9 x10 x13 x15 (IntKind.i64.wrap (x16 - 1)) w55)
 (nilP v54 fun a80 =>
 ∃ (v81 : Int), w55.cell? (a80.add 4) = some (.int .i64 v81) ∧
 (3 : Int) ≠ 0 ∧
 br ((Int.tmod v81 3) != 0)
 (Xc x2q x2n x2c x4 x7 x8 x9 x10 x13 x15 (IntKind.i64.wrap (x16 - 1)) w55)
 (g_parseState_emph.k3 R Xa Xb Xc x2q x2n x2c x4 x7 x8 x9 x10 x13 x15 x16 v54 w55)))
 (g_parseState_emph.k3 R Xa Xb Xc x2q x2n x2c x4 x7 x8 x9 x10 x13 x15 x16 v54 w55))
 (g_parseState_emph.k3 R Xa Xb Xc x2q x2n x2c x4 x7 x8 x9 x10 x13 x15 x16 v54 w55))
 (g_parseState_emph.k3 R Xa Xb Xc x2q x2n x2c x4 x7 x8 x9 x10 x13 x15 x16 v54 w55)))
 (nilP v54 fun a82 =>
 ∃ (v83 : Bool), w55.cell? (a82.add 1) = some (.bool v83) ∧
 br v83
 (nilP v54 fun a84 =>
 ∃ (v85 : Bool), w55.cell? (a84.add 2) = some (.bool v85) ∧
 br v85
 (nilP x13 fun a86 =>
 nilP v54 fun a87 =>
 ∃ (v88 : Int), w55.cell? (a86.add 4) = some (.int .i64 v88) ∧
 ∃ (v89 : Int), w55.cell? (a87.add 4) = some (.int .i64 v89) ∧
 (3 : Int) ≠ 0 ∧
 br ((Int.tmod (IntKind.i64.wrap (v88 + v89)) 3) == 0)
 (nilP x13 fun a90 =>
 ∃ (v91 : Int), w55.cell? (a90.add 4) = some (.int .i64 v91) ∧
 (3 : Int) ≠ 0 ∧
 br ((Int.tmod v91 3) != 0)
 (Xc x2q x2n x2c x4 x7 x8 x9 x10 x13 x15 (IntKind.i64.wrap (x16 - 1)) w55)
 (nilP v54 fun a92 =>
 ∃ (v93 : Int), w55.cell? (a92.add 4) = some (.int .i64 v93) ∧
 (3 : Int) ≠ 0 ∧
 br ((Int.tmod v93 3) != 0)
 (Xc x2q x2n x2c x4 x7 x8 x9 x10 x13 x15 (IntKind.i64.wrap (x16 - 1)) w55)
 (g_parseState_emph.k3 R Xa Xb Xc x2q x2n x2c x4 x7 x8 x9 x10 x13 x15 x16 v54 w55)))
 (g_parseState_emph.k3 R Xa Xb Xc x2q x2n x2c x4 x7 x8 x9 x10 x13 x15 x16 v54 w55))
 (g_parseState_emph.k3 R Xa Xb Xc x2q x2n x2c x4 x7 x8 x9 x10 x13 x15 x16 v54 w55))
 (g_parseState_emph.k3 R Xa Xb Xc x2q x2n x2c x4 x7 x8 x9 x10 x13 x15 x16 v54 w55)))
 (nilP x13 fun a94 =>
 ∃ (v95 : ByteArray), w55.cell? a94 = some (.string v95) ∧
 0 ≤ (0 : Int) ∧ 0 < (v95.size : Int) ∧
 br ((bt v95 0) == 95)
 (nilP x13 fun a96 =>
 ∃ (v97 : Bool), w55.cell? (a96.add 1) = some (.bool v97) ∧
 br v97
 (nilP x13 fun a98 =>
 ∃ (v99 : Bool), w55.cell? (a98.add 2) = some (.bool v99) ∧
 br v99
 (nilP x13 fun a100 =>
 nilP v54 fun a101 =>
 ∃ (v102 : Int), w55.cell? (a100.add 4) = some (.int .i64 v102) ∧
 ∃ (v103 : Int), w55.cell? (a101.add 4) = some (.int .i64 v103) ∧
 (3 : Int) ≠ 0 ∧
 br ((Int.tmod (IntKind.i64.wrap (v102 + v103)) 3) == 0)
 (nilP x13 fun a104 =>
 ∃ (v105 : Int), w55.cell? (a104.add 4) = some (.int .i64 v105) ∧
 (3 : Int) ≠ 0 ∧
 br ((Int.tmod v105 3) != 0)
 (Xc x2q x2n x2c x4 x7 x8 x9 x10 x13 x15 (IntKind.i64.wrap (x16 - 1)) w55)
 (nilP v54 fun a106 =>
 ∃ (v107 : Int), w55.cell? (a106.add 4) = some (.int .i64 v107) ∧
 (3 : Int) ≠ 0 ∧
 br ((Int.tmod v107 3) != 0)
 (Xc x2q x2n x2c x4 x7 x8 x9 x10 x13 x15 (IntKind.i64.wrap (x16 - 1)) w55)
 (g_parseState_emph.k3 R Xa Xb Xc x2q x2n x2c x4 x7 x8 x9 x10 x13 x15 x16 v54 w55)))
 (g_parseState_emph.k3 R Xa Xb Xc x2q x2n x2c x4 x7 x8 x9 x10 x13 x15 x16 v54 w55))
 (nilP v54 fun a108 =>
 ∃ (v109 : Bool), w55.cell? (a108.add 1) = some (.bool v109) ∧
 br v109
 (nilP v54 fun a110 =>
 ∃ (v111 : Bool), w55.cell? (a110.add 2) = some (.bool v111) ∧
 br v111
 (nilP x13 fun a112 =>
 nilP v54 fun a113 =>
 ∃ (v114 : Int), w55.cell? (a112.add 4) = some (.int .i64 v114) ∧
 ∃ (v115 : Int), w55.cell? (a113.add 4) = some (.int .i64 v115) ∧
 (3 : Int) ≠ 0 ∧
 br ((Int.tmod (IntKind.i64.wrap (v114 + v115)) 3) == 0)
 (nilP x13 fun a116 =>
 ∃ (v117 : Int), w55.cell? (a116.add 4) = some (.int .i64 v117) ∧
 (3 : Int) ≠ 0 ∧
 br ((Int.tmod v117 3) != 0)
 (Xc x2q x2n x2c x4 x7 x8 x9 x10 x13 x15 (IntKind.i64.wrap (x16 - 1)) w55)
 (nilP v54 fun a118 =>
 ∃ (v119 : Int), w55.cell? (a118.add 4) = some (.int .i64 v119) ∧
 (3 : Int) ≠ 0 ∧
 br ((Int.tmod v119 3) != 0)
 (Xc x2q x2n x2c x4 x7 x8 x9 x10 x13 x15 (IntKind.i64.wrap (x16 - 1)) w55)
 (g_parseState_emph.k3 R Xa Xb Xc x2q x2n x2c x4 x7 x8 x9 x10 x13 x15 x16 v54 w55)))
 (g_parseState_emph.k3 R Xa Xb Xc x2q x2n x2c x4 x7 x8 x9 x10 x13 x15 x16 v54 w55))
 (g_parseState_emph.k3 R Xa Xb Xc x2q x2n x2c x4 x7 x8 x9 x10 x13 x15 x16 v54 w55))
 (g_parseState_emph.k3 R Xa Xb Xc x2q x2n x2c x4 x7 x8 x9 x10 x13 x15 x16 v54 w55)))
 (nilP v54 fun a120 =>
 ∃ (v121 : Bool), w55.cell? (a120.add 1) = some (.bool v121) ∧
 br v121
 (nilP v54 fun a122 =>
 ∃ (v123 : Bool), w55.cell? (a122.add 2) = some (.bool v123) ∧
 br v123
 (nilP x13 fun a124 =>
 nilP v54 fun a125 =>
 ∃ (v126 : Int), w55.cell? (a124.add 4) = some (.int .i64 v126) ∧
 ∃ (v127 : Int), w55.cell? (a125.add 4) = some (.int .i64 v127) ∧
 (3 : Int) ≠ 0 ∧
 br ((Int.tmod (IntKind.i64.wrap (v126 + v127)) 3) == 0)
 (nilP x13 fun a128 =>
 ∃ (v129 : Int), w55.cell? (a128.add 4) = some (.int .i64 v129) ∧
 (3 : Int) ≠ 0 ∧
 br ((Int.tmod v129 3) != 0)
 (Xc x2q x2n x2c x4 x7 x8 x9 x10 x13 x15 (IntKind.i64.wrap (x16 - 1)) w55)
 (nilP v54 fun a130 =>
 ∃ (v131 : Int), w55.cell? (a130.add 4) = some (.int .i64 v131) ∧
 (3 : Int) ≠ 0 ∧
 br ((Int.tmod v131 3) != 0)
 (Xc x2q x2n x2c x4 x7 x8 x9 x10 x13 x15 (IntKind.i64.wrap (x16 - 1)) w55)
 (g_parseState_emph.k3 R Xa Xb Xc x2q x2n x2c x4 x7 x8 x9 x10 x13 x15 x16 v54 w55)))
 (g_parseState_emph.k3 R Xa Xb Xc x2q x2n x2c x4 x7 x8 x9 x10 x13 x15 x16 v54 w55))
 (g_parseState_emph.k3 R Xa Xb Xc x2q x2n x2c x4 x7 x8 x9 x10 x13 x15 x16 v54 w55))
 (g_parseState_emph.k3 R Xa Xb Xc x2q x2n x2c x4 x7 x8 x9 x10 x13 x15 x16 v54 w55)))
 (g_parseState_emph.k3 R Xa Xb Xc x2q x2n x2c x4 x7 x8 x9 x10 x13 x15 x16 v54 w55)))
 (g_parseState_emph.k1 R Xa x2q x2n x2c x4 x7 x8 x9 x10 x13 w)
def g_parseState_emph.l3 (R : Ending → World → Prop) (Xa : Option Addr → Nat → Nat → Nat → Nat → Value → Value → Int → World → Prop) (Xb : Option Addr → Nat → Nat → Nat → Nat → Value → Value → Int → Option Addr → Option Addr → World → Prop) (x2q : Option Addr) (x2n : Nat) (x2c : Nat) (x4 : Nat) (x7 : Nat) (x8 : Value) (x9 : Value) (x10 : Int) (x13 : Option Addr) (x15 : Option Addr) (x16 : Int) (w : World) : Prop :=
  ∀ X : Option Addr → Nat → Nat → Nat → Nat → Value → Value → Int → Option Addr → Option Addr → Int → World → Prop, (∀ x2q x2n x2c x4 x7 x8 x9 x10 x13 x15 x16 w, g_parseState_emph.bl3 R Xa Xb X x2q x2n x2c x4 x7 x8 x9 x10 x13 x15 x16 w → X x2q x2n x2c x4 x7 x8 x9 x10 x13 x15 x16 w) → X x2q x2n x2c x4 x7 x8 x9 x10 x13 x15 x16 w

noncomputable def g_parseState_emph.al3 (R : Ending → World → Prop) (Xa : Option Addr → Nat → Nat → Nat → Nat → Value → Value → Int → World → Prop) (Xb : Option Addr → Nat → Nat → Nat → Nat → Value → Value → Int → Option Addr → Option Addr → World → Prop) (Xc : Option Addr → Nat → Nat → Nat → Nat → Value → Value → Int → Option Addr → Option Addr → Int → World → Prop) : AC :=
  (.seq (.leaf (sel [1, 0, 1, 1, 1, 1, 0, 1, 0, 0, 1, 0, 0, 1, 1, 1, 0, 1, 0, 0, 1, 1, 0, 0, 1, 0, 0, 1, 0, 0, 0] g_parseState_emph.body)) (.seq (.block 5 (.seq (.leaf (sel [1, 0, 1, 1, 1, 1, 0, 1, 0, 0, 1, 0, 0, 1, 1, 1, 0, 1, 0, 0, 1, 1, 0, 0, 1, 0, 0, 1, 0, 0, 1, 0, 0, 0] g_parseState_emph.body)) (.seq (.seq (.draw (.pure 0 (.pure 1 (.pure 2 (.pure 3 (.load 4 (.pure 5 (.pure 6 (.pure 7 (.pure 8 (.pure 9 (.pure 10 (.pure 11 (.load 12 (.pure 13 (.pure 14 (.pure 15 (.pure 16 (.pure 17 (.pure 18 (.pure 19 (.load 20 (.pure 21 (.pure 22 (.pure 23 (.pure 24 (.load 25 (.pure 26 (.pure 27 (.pure 28 (.pure 29 (.pure 30 (.load 31 (.pure 32 (.pure 33 (.pure 34 (.pure 35 (.load 36 (.pure 37 (.pure 38 (.pure 39 (.pure 40 (.pure 41 (.pure 42 (.pure 43 (.pure 45 (.pure 46 (.pure 47 (.load 44 (.load 48 (.pure 49 (.pure 50 (.pure 51 (.pure 52 (.pure 53 (.pure 54 (.pure 55 (.pure 56 (.load 57 (.pure 58 (.pure 59 (.pure 60 (.pure 61 (.pure 62 (.pure 63 (.load 64 (.pure 65 (.pure 66 (.pure 67 (.pure 68 .done))))))))))))))))))))))))))))))))))))))))))))))))))))))))))))))))))))) (sel [1, 0, 1, 1, 1, 1, 0, 1, 0, 0, 1, 0, 0, 1, 1, 1, 0, 1, 0, 0, 1, 1, 0, 0, 1, 0, 0, 1, 0, 0, 1, 0, 0, 1, 0, 0] g_parseState_emph.body)) (.leaf (sel [1, 0, 1, 1, 1, 1, 0, 1, 0, 0, 1, 0, 0, 1, 1, 1, 0, 1, 0, 0, 1, 1, 0, 0, 1, 0, 0, 1, 0, 0, 1, 0, 0, 1, 0, 1] g_parseState_emph.body))) (.mark (leaf [(2, .s .slice), (4, .s .loc), (7, .s .loc), (8, .s .any), (9, .s .any), (10, .s (.int .i64)), (13, .s .ptr), (15, .s .ptr), (16, .s (.int .i64)), (17, .s .ptr)] (g_parseState_emph.k3 R Xa Xb Xc)) (.seq (.seq (.draw (.pure 0 (.pure 1 (.pure 2 (.pure 3 (.load 4 (.pure 5 (.pure 6 (.pure 7 (.pure 8 (.pure 9 (.pure 10 (.pure 11 (.pure 14 (.pure 15 (.pure 16 (.pure 17 (.load 12 (.pure 13 (.load 18 (.pure 19 (.pure 20 (.pure 21 .done)))))))))))))))))))))) (sel [1, 0, 1, 1, 1, 1, 0, 1, 0, 0, 1, 0, 0, 1, 1, 1, 0, 1, 0, 0, 1, 1, 0, 0, 1, 0, 0, 1, 0, 0, 1, 0, 0, 1, 1, 0, 0] g_parseState_emph.body)) (.leaf (sel [1, 0, 1, 1, 1, 1, 0, 1, 0, 0, 1, 0, 0, 1, 1, 1, 0, 1, 0, 0, 1, 1, 0, 0, 1, 0, 0, 1, 0, 0, 1, 0, 0, 1, 1, 0, 1] g_parseState_emph.body))) (.mark (leaf [(2, .s .slice), (4, .s .loc), (7, .s .loc), (8, .s .any), (9, .s .any), (10, .s (.int .i64)), (13, .s .ptr), (15, .s .ptr), (16, .s (.int .i64)), (17, .s .ptr)] (g_parseState_emph.k5 R Xa Xb Xc)) (.seq (.seq (.leaf (sel [1, 0, 1, 1, 1, 1, 0, 1, 0, 0, 1, 0, 0, 1, 1, 1, 0, 1, 0, 0, 1, 1, 0, 0, 1, 0, 0, 1, 0, 0, 1, 0, 0, 1, 1, 1, 0, 0] g_parseState_emph.body)) (.cond 193 (.seq (.draw (.pure 1 (.pure 2 (.pure 3 (.load 0 (.load 4 (.pure 5 (.load 6 (.pure 7 (.pure 8 (.pure 9 (.pure 10 (.one 11 .done)))))))))))) (sel [1, 0, 1, 1, 1, 1, 0, 1, 0, 0, 1, 0, 0, 1, 1, 1, 0, 1, 0, 0, 1, 1, 0, 0, 1, 0, 0, 1, 0, 0, 1, 0, 0, 1, 1, 1, 0, 1, 0, 0] g_parseState_emph.body)) (.leaf (sel [1, 0, 1, 1, 1, 1, 0, 1, 0, 0, 1, 0, 0, 1, 1, 1, 0, 1, 0, 0, 1, 1, 0, 0, 1, 0, 0, 1, 0, 0, 1, 0, 0, 1, 1, 1, 0, 1, 0, 1] g_parseState_emph.body))) (.leaf (sel [1, 0, 1, 1, 1, 1, 0, 1, 0, 0, 1, 0, 0, 1, 1, 1, 0, 1, 0, 0, 1, 1, 0, 0, 1, 0, 0, 1, 0, 0, 1, 0, 0, 1, 1, 1, 0, 1, 1] g_parseState_emph.body)))) (.seq (.seq (.leaf (sel [1, 0, 1, 1, 1, 1, 0, 1, 0, 0, 1, 0, 0, 1, 1, 1, 0, 1, 0, 0, 1, 1, 0, 0, 1, 0, 0, 1, 0, 0, 1, 0, 0, 1, 1, 1, 1, 0, 0] g_parseState_emph.body)) (.cond 227 (.seq (.draw (.pure 1 (.pure 2 (.pure 3 (.load 0 (.load 4 (.pure 5 (.load 6 (.pure 7 (.pure 8 (.pure 9 (.pure 10 (.one 11 .done)))))))))))) (sel [1, 0, 1, 1, 1, 1, 0, 1, 0, 0, 1, 0, 0, 1, 1, 1, 0, 1, 0, 0, 1, 1, 0, 0, 1, 0, 0, 1, 0, 0, 1, 0, 0, 1, 1, 1, 1, 0, 1, 0, 0] g_parseState_emph.body)) (.leaf (sel [1, 0, 1, 1, 1, 1, 0, 1, 0, 0, 1, 0, 0, 1, 1, 1, 0, 1, 0, 0, 1, 1, 0, 0, 1, 0, 0, 1, 0, 0, 1, 0, 0, 1, 1, 1, 1, 0, 1, 0, 1] g_parseState_emph.body))) (.leaf (sel [1, 0, 1, 1, 1, 1, 0, 1, 0, 0, 1, 0, 0, 1, 1, 1, 0, 1, 0, 0, 1, 1, 0, 0, 1, 0, 0, 1, 0, 0, 1, 0, 0, 1, 1, 1, 1, 0, 1, 1] g_parseState_emph.body)))) (.seq (.leaf (sel [1, 0, 1, 1, 1, 1, 0, 1, 0, 0, 1, 0, 0, 1, 1, 1, 0, 1, 0, 0, 1, 1, 0, 0, 1, 0, 0, 1, 0, 0, 1, 0, 0, 1, 1, 1, 1, 1, 0] g_parseState_emph.body)) (.seq (.leaf (sel [1, 0, 1, 1, 1, 1, 0, 1, 0, 0, 1, 0, 0, 1, 1, 1, 0, 1, 0, 0, 1, 1, 0, 0, 1, 0, 0, 1, 0, 0, 1, 0, 0, 1, 1, 1, 1, 1, 1, 0] g_parseState_emph.body)) (.mark (leaf [(2, .s .slice), (4, .s .loc), (7, .s .loc), (8, .s .any), (9, .s .any), (10, .s (.int .i64)), (13, .s .ptr), (15, .s .ptr), (17, .s .ptr), (18, .s (.int .i64))] (g_parseState_emph.k6 R Xa Xb Xc)) (.seq (.leaf (sel [1, 0, 1, 1, 1, 1, 0, 1, 0, 0, 1, 0, 0, 1, 1, 1, 0, 1, 0, 0, 1, 1, 0, 0, 1, 0, 0, 1, 0, 0, 1, 0, 0, 1, 1, 1, 1, 1, 1, 1, 0] g_parseState_emph.body)) (.seq (.draw (.pure 0 (.pure 1 (.pure 2 (.pure 3 (.pure 5 (.pure 8 (.pure 9 (.pure 10 (.load 4 (.pure 6 (.load 7 (.load 11 (.pure 12 (.pure 13 (.one 14 (.pure 15 (.one 16 (.pure 17 .done)))))))))))))))))) (sel [1, 0, 1, 1, 1, 1, 0, 1, 0, 0, 1, 0, 0, 1, 1, 1, 0, 1, 0, 0, 1, 1, 0, 0, 1, 0, 0, 1, 0, 0, 1, 0, 0, 1, 1, 1, 1, 1, 1, 1, 1, 0] g_parseState_emph.body)) (.seq (.draw (.pure 0 (.pure 1 (.pure 2 (.pure 3 (.pure 4 (.pure 6 (.pure 7 (.pure 8 (.pure 9 (.pure 12 (.load 5 (.load 10 (.pure 11 (.pure 13 (.pure 14 (.pure 15 (.pure 16 (.pure 17 (.one 18 .done))))))))))))))))))) (sel [1, 0, 1, 1, 1, 1, 0, 1, 0, 0, 1, 0, 0, 1, 1, 1, 0, 1, 0, 0, 1, 1, 0, 0, 1, 0, 0, 1, 0, 0, 1, 0, 0, 1, 1, 1, 1, 1, 1, 1, 1, 1, 0] g_parseState_emph.body)) (.seq (.leaf (sel [1, 0, 1, 1, 1, 1, 0, 1, 0, 0, 1, 0, 0, 1, 1, 1, 0, 1, 0, 0, 1, 1, 0, 0, 1, 0, 0, 1, 0, 0, 1, 0, 0, 1, 1, 1, 1, 1, 1, 1, 1, 1, 1, 0] g_parseState_emph.body)) (.seq (.seq (.leaf (sel [1, 0, 1, 1, 1, 1, 0, 1, 0, 0, 1, 0, 0, 1, 1, 1, 0, 1, 0, 0, 1, 1, 0, 0, 1, 0, 0, 1, 0, 0, 1, 0, 0, 1, 1, 1, 1, 1, 1, 1, 1, 1, 1, 1, 0, 0] g_parseState_emph.body)) (.cond 329 (.draw (.pure 1 (.pure 2 (.pure 3 (.load 0 (.load 4 (.pure 5 (.one 6 .done))))))) (sel [1, 0, 1, 1, 1, 1, 0, 1, 0, 0, 1, 0, 0, 1, 1, 1, 0, 1, 0, 0, 1, 1, 0, 0, 1, 0, 0, 1, 0, 0, 1, 0, 0, 1, 1, 1, 1, 1, 1, 1, 1, 1, 1, 1, 0, 1, 0] g_parseState_emph.body)) (.draw (.pure 1 (.pure 2 (.pure 3 (.load 0 (.load 4 (.pure 5 (.pure 6 (.one 7 .done)))))))) (sel [1, 0, 1, 1, 1, 1, 0, 1, 0, 0, 1, 0, 0, 1, 1, 1, 0, 1, 0, 0, 1, 1, 0, 0, 1, 0, 0, 1, 0, 0, 1, 0, 0, 1, 1, 1, 1, 1, 1, 1, 1, 1, 1, 1, 0, 1, 1] g_parseState_emph.body)))) (.mark (leaf [(2, .s .slice), (4, .s .loc), (7, .s .loc), (8, .s .any), (9, .s .any), (10, .s (.int .i64)), (13, .s .ptr), (15, .s .ptr), (18, .s (.int .i64)), (19, .s .bool), (20, .s .ptr)] (g_parseState_emph.k7 R Xa Xb Xc)) (.leaf (sel [1, 0, 1, 1, 1, 1, 0, 1, 0, 0, 1, 0, 0, 1, 1, 1, 0, 1, 0, 0, 1, 1, 0, 0, 1, 0, 0, 1, 0, 0, 1, 0, 0, 1, 1, 1, 1, 1, 1, 1, 1, 1, 1, 1, 1] g_parseState_emph.body))))))))))))))))))) (.leaf (sel [1, 0, 1, 1, 1, 1, 0, 1, 0, 0, 1, 0, 0, 1, 1, 1, 0, 1, 0, 0, 1, 1, 0, 0, 1, 0, 0, 1, 0, 0, 1, 1] g_parseState_emph.body))))
def g_parseState_emph.bl2 (R : Ending → World → Prop) (Xa : Option Addr → Nat → Nat → Nat → Nat → Value → Value → Int → World → Prop) (Xb : Option Addr → Nat → Nat → Nat → Nat → Value → Value → Int → Option Addr → Option Addr → World → Prop) (x2q : Option Addr) (x2n : Nat) (x2c : Nat) (x4 : Nat) (x7 : Nat) (x8 : Value) (x9 : Value) (x10 : Int) (x13 : Option Addr) (x15 : Option Addr) (w : World) : Prop :=
 nilP x13 fun a37 =>
 ∃ (v38 : ByteArray), w.cell? a37 = some (.string v38) ∧
 br (!(v38.toList == (ByteArray.mk #[]).toList))
 (nilP x15 fun a39 =>
 ∃ (v40q : Option Addr), ∃ (v40n : Nat), ∃ (v40c : Nat), w.cell? a39 = some (.slice v40q v40n v40c) ∧
 g_parseState_emph.l3 R Xa Xb x2q x2n x2c x4 x7 x8 x9 x10 x13 x15 (IntKind.i64.wrap ((v40n : Int) - 1)) w)
 (g_parseState_emph.k1 R Xa x2q x2n x2c x4 x7 x8 x9 x10 x13 w)
def g_parseState_emph.l2 (R : Ending → World → Prop) (Xa : Option Addr → Nat → Nat → Nat → Nat → Value → Value → Int → World → Prop) (x2q : Option Addr) (x2n : Nat) (x2c : Nat) (x4 : Nat) (x7 : Nat) (x8 : Value) (x9 : Value) (x10 : Int) (x13 : Option Addr) (x15 : Option Addr) (w : World) : Prop :=
  ∀ X : Option Addr → Nat → Nat → Nat → Nat → Value → Value → Int → Option Addr → Option Addr → World → Prop, (∀ x2q x2n x2c x4 x7 x8 x9 x10 x13 x15 w, g_parseState_emph.bl2 R Xa X x2q x2n x2c x4 x7 x8 x9 x10 x13 x15 w → X x2q x2n x2c x4 x7 x8 x9 x10 x13 x15 w) → X x2q x2n x2c x4 x7 x8 x9 x10 x13 x15 w

noncomputable def g_parseState_emph.al2 (R : Ending → World → Prop) (Xa : Option Addr → Nat → Nat → Nat → Nat → Value → Value → Int → World → Prop) (Xb : Option Addr → Nat → Nat → Nat → Nat → Value → Value → Int → Option Addr → Option Addr → World → Prop) : AC :=
  (.seq (.leaf (sel [1, 0, 1, 1, 1, 1, 0, 1, 0, 0, 1, 0, 0, 1, 1, 1, 0, 1, 0, 0, 1, 1, 0, 0, 0] g_parseState_emph.body)) (.block 3 (.seq (.seq (.leaf (sel [1, 0, 1, 1, 1, 1, 0, 1, 0, 0, 1, 0, 0, 1, 1, 1, 0, 1, 0, 0, 1, 1, 0, 0, 1, 0, 0, 0] g_parseState_emph.body)) (.block 4 (.loop (leaf [(2, .s .slice), (4, .s .loc), (7, .s .loc), (8, .s .any), (9, .s .any), (10, .s (.int .i64)), (13, .s .ptr), (15, .s .ptr), (16, .s (.int .i64))] (g_parseState_emph.l3 R Xa Xb)) (sel [1, 0, 1, 1, 1, 1, 0, 1, 0, 0, 1, 0, 0, 1, 1, 1, 0, 1, 0, 0, 1, 1, 0, 0, 1, 0, 0, 1, 0, 0] g_parseState_emph.body)))) (.leaf (sel [1, 0, 1, 1, 1, 1, 0, 1, 0, 0, 1, 0, 0, 1, 1, 1, 0, 1, 0, 0, 1, 1, 0, 0, 1, 0, 1] g_parseState_emph.body)))))
def g_parseState_emph.bl1 (R : Ending → World → Prop) (Xa : Option Addr → Nat → Nat → Nat → Nat → Value → Value → Int → World → Prop) (x2q : Option Addr) (x2n : Nat) (x2c : Nat) (x4 : Nat) (x7 : Nat) (x8 : Value) (x9 : Value) (x10 : Int) (w : World) : Prop :=
 br (decide (x10 < (x2n : Int)))
 (0 ≤ x10 ∧ x10 < (x2n : Int) ∧
 nilP x2q fun a5 =>
 ∃ (v6 : Value), w.cell? (a5.add (Int.toNat x10 * 1)) = some v6 ∧
 ∃ (r7_0 : Option Addr), ∃ (r7_1 : Bool), ∃ w8, (Instr.typeAssert v6 ty_Inline ty_P_openPlain true).run P w = .ok (.tuple #[.pointer r7_0, .bool r7_1]) w8 ∧
 br r7_1
 (tk w8 fun w9 =>
 nilP r7_0 fun a10 =>
 ∃ (v11q : Option Addr), ∃ (v11n : Nat), ∃ (v11c : Nat), w9.cell? ⟨x4, 0, none⟩ = some (.slice v11q v11n v11c) ∧
 ∃ (r12q : Option Addr), ∃ (r12n : Nat), ∃ (r12c : Nat), ∃ w13, (Instr.buildSlice ty_S_Inline 1 #[(0, .iface ty_P_Plain (.pointer (some a10)))]).run P w9 = .ok (.slice r12q r12n r12c) w13 ∧
 SameC w9 w13 ⟨x4, 0, none⟩ 1 ∧
 ∃ (r14q : Option Addr), ∃ (r14n : Nat), ∃ (r14c : Nat), ∃ w15, (Builtin.append_ #[ty_S_Inline, ty_S_Inline] ty_S_Inline #[.slice v11q v11n v11c, .slice r12q r12n r12c]).run P w13 = .ok (.slice r14q r14n r14c) w15 ∧
 stV w15 ⟨x4, 0, none⟩ (.slice r14q r14n r14c) fun w16 =>
 Xa x2q x2n x2c x4 x7 x8 x9 (IntKind.i64.wrap (x10 + 1)) w16)
 (0 ≤ x10 ∧ x10 < (x2n : Int) ∧
 nilP x2q fun a17 =>
 ∃ (v18 : Value), w8.cell? (a17.add (Int.toNat x10 * 1)) = some v18 ∧
 ∃ (r19_0 : Option Addr), ∃ (r19_1 : Bool), ∃ w20, (Instr.typeAssert v18 ty_Inline ty_P_emphPlain true).run P w8 = .ok (.tuple #[.pointer r19_0, .bool r19_1]) w20 ∧
 br (!r19_1)
 (tk w20 fun w21 =>
 0 ≤ x10 ∧ x10 < (x2n : Int) ∧
 nilP x2q fun a22 =>
 ∃ (v23q : Option Addr), ∃ (v23n : Nat), ∃ (v23c : Nat), w21.cell? ⟨x4, 0, none⟩ = some (.slice v23q v23n v23c) ∧
 ∃ (v24 : Value), w21.cell? (a22.add (Int.toNat x10 * 1)) = some v24 ∧
 ∃ (r25q : Option Addr), ∃ (r25n : Nat), ∃ (r25c : Nat), ∃ w26, (Instr.buildSlice ty_S_Inline 1 #[(0, v24)]).run P w21 = .ok (.slice r25q r25n r25c) w26 ∧
 SameC w21 w26 ⟨x4, 0, none⟩ 1 ∧
 ∃ (r27q : Option Addr), ∃ (r27n : Nat), ∃ (r27c : Nat), ∃ w28, (Builtin.append_ #[ty_S_Inline, ty_S_Inline] ty_S_Inline #[.slice v23q v23n v23c, .slice r25q r25n r25c]).run P w26 = .ok (.slice r27q r27n r27c) w28 ∧
 stV w28 ⟨x4, 0, none⟩ (.slice r27q r27n r27c) fun w29 =>
 Xa x2q x2n x2c x4 x7 x8 x9 (IntKind.i64.wrap (x10 + 1)) w29)
 (nilP r19_0 fun a30 =>
 ∃ (v31 : Bool), w20.cell? (a30.add 2) = some (.bool v31) ∧
 br v31
 (nilP r19_0 fun a32 =>
 ∃ (v33 : ByteArray), w20.cell? a32 = some (.string v33) ∧
 0 ≤ (0 : Int) ∧ 0 < (v33.size : Int) ∧
 enterE P (do let d ← Deferred.ofValue x8 #[.int .u8 (bt v33 0)]; invoke d.target d.args) (fun e w35 => ∃ (r34 : Int), e = .returned (.int .i64 r34) ∧
 0 ≤ r34 ∧ r34 < (5 : Int) ∧
 g_parseState_emph.l2 R Xa x2q x2n x2c x4 x7 x8 x9 x10 r19_0 (some ((⟨x7, 0, none⟩ : Addr).add (Int.toNat r34 * 1))) w35) w20)
 (g_parseState_emph.k1 R Xa x2q x2n x2c x4 x7 x8 x9 x10 r19_0 w20))))
 (∃ (v36q : Option Addr), ∃ (v36n : Nat), ∃ (v36c : Nat), w.cell? ⟨x4, 0, none⟩ = some (.slice v36q v36n v36c) ∧
 R (.returned (.slice v36q v36n v36c)) w)
def g_parseState_emph.l1 (R : Ending → World → Prop) (x2q : Option Addr) (x2n : Nat) (x2c : Nat) (x4 : Nat) (x7 : Nat) (x8 : Value) (x9 : Value) (x10 : Int) (w : World) : Prop :=
  ∀ X : Option Addr → Nat → Nat → Nat → Nat → Value → Value → Int → World → Prop, (∀ x2q x2n x2c x4 x7 x8 x9 x10 w, g_parseState_emph.bl1 R X x2q x2n x2c x4 x7 x8 x9 x10 w → X x2q x2n x2c x4 x7 x8 x9 x10 w) → X x2q x2n x2c x4 x7 x8 x9 x10 w

noncomputable def g_parseState_emph.al1 (R : Ending → World → Prop) (Xa : Option Addr → Nat → Nat → Nat → Nat → Value → Value → Int → World → Prop) : AC :=
  (.seq (.leaf (sel [1, 0, 1, 1, 1, 1, 0, 1, 0, 0, 0] g_parseState_emph.body)) (.seq (.block 1 (.seq (.seq (.leaf (sel [1, 0, 1, 1, 1, 1, 0, 1, 0, 0, 1, 0, 0, 0, 0] g_parseState_emph.body)) (.seq (.leaf (sel [1, 0, 1, 1, 1, 1, 0, 1, 0, 0, 1, 0, 0, 0, 1, 0] g_parseState_emph.body)) (.cond 37 (.seq (.draw (.pure 1 (.pure 2 (.pure 3 (.pure 4 (.load 0 (.one 5 (.one 6 (.one 7 .done)))))))) (sel [1, 0, 1, 1, 1, 1, 0, 1, 0, 0, 1, 0, 0, 0, 1, 1, 0, 0] g_parseState_emph.body)) (.leaf (sel [1, 0, 1, 1, 1, 1, 0, 1, 0, 0, 1, 0, 0, 0, 1, 1, 0, 1] g_parseState_emph.body))) (.leaf (sel [1, 0, 1, 1, 1, 1, 0, 1, 0, 0, 1, 0, 0, 0, 1, 1, 1] g_parseState_emph.body))))) (.seq (.leaf (sel [1, 0, 1, 1, 1, 1, 0, 1, 0, 0, 1, 0, 0, 1, 0] g_parseState_emph.body)) (.seq (.seq (.leaf (sel [1, 0, 1, 1, 1, 1, 0, 1, 0, 0, 1, 0, 0, 1, 1, 0, 0] g_parseState_emph.body)) (.cond 54 (.seq (.draw (.pure 1 (.pure 2 (.pure 3 (.load 0 (.load 4 (.one 5 (.one 6 (.one 7 .done)))))))) (sel [1, 0, 1, 1, 1, 1, 0, 1, 0, 0, 1, 0, 0, 1, 1, 0, 1, 0, 0] g_parseState_emph.body)) (.leaf (sel [1, 0, 1, 1, 1, 1, 0, 1, 0, 0, 1, 0, 0, 1, 1, 0, 1, 0, 1] g_parseState_emph.body))) (.leaf (sel [1, 0, 1, 1, 1, 1, 0, 1, 0, 0, 1, 0, 0, 1, 1, 0, 1, 1] g_parseState_emph.body)))) (.seq (.seq (.leaf (sel [1, 0, 1, 1, 1, 1, 0, 1, 0, 0, 1, 0, 0, 1, 1, 1, 0, 0] g_parseState_emph.body)) (.cond 65 (.scope (.seq (.leaf (sel [1, 0, 1, 1, 1, 1, 0, 1, 0, 0, 1, 0, 0, 1, 1, 1, 0, 1, 0, 0, 0] g_parseState_emph.body)) (.seq (.leaf (sel [1, 0, 1, 1, 1, 1, 0, 1, 0, 0, 1, 0, 0, 1, 1, 1, 0, 1, 0, 0, 1, 0] g_parseState_emph.body)) (.block 2 (.loop (leaf [(2, .s .slice), (4, .s .loc), (7, .s .loc), (8, .s .any), (9, .s .any), (10, .s (.int .i64)), (13, .s .ptr), (15, .s .ptr)] (g_parseState_emph.l2 R Xa)) (sel [1, 0, 1, 1, 1, 1, 0, 1, 0, 0, 1, 0, 0, 1, 1, 1, 0, 1, 0, 0, 1, 1, 0, 0] g_parseState_emph.body)))))) (.leaf (sel [1, 0, 1, 1, 1, 1, 0, 1, 0, 0, 1, 0, 0, 1, 1, 1, 0, 1, 1] g_parseState_emph.body)))) (.mark (leaf [(2, .s .slice), (4, .s .loc), (7, .s .loc), (8, .s .any), (9, .s .any), (10, .s (.int .i64)), (13, .s .ptr)] (g_parseState_emph.k1 R Xa)) (.seq (.leaf (sel [1, 0, 1, 1, 1, 1, 0, 1, 0, 0, 1, 0, 0, 1, 1, 1, 1, 0] g_parseState_emph.body)) (.cond 368 (.seq (.leaf (sel [1, 0, 1, 1, 1, 1, 0, 1, 0, 0, 1, 0, 0, 1, 1, 1, 1, 1, 0, 0] g_parseState_emph.body)) (.seq (.leaf (sel [1, 0, 1, 1, 1, 1, 0, 1, 0, 0, 1, 0, 0, 1, 1, 1, 1, 1, 0, 1, 0] g_parseState_emph.body)) (.mark (leaf [(2, .s .slice), (4, .s .loc), (7, .s .loc), (8, .s .any), (9, .s .any), (10, .s (.int .i64)), (13, .s .ptr), (21, .s .ptr)] (g_parseState_emph.k2 R Xa)) (.seq (.leaf (sel [1, 0, 1, 1, 1, 1, 0, 1, 0, 0, 1, 0, 0, 1, 1, 1, 1, 1, 0, 1, 1, 0] g_parseState_emph.body)) (.mark (leaf [(2, .s .slice), (4, .s .loc), (7, .s .loc), (8, .s .any), (9, .s .any), (10, .s (.int .i64)), (13, .s .ptr), (21, .s .ptr)] (g_parseState_emph.k4 R Xa)) (.seq (.leaf (sel [1, 0, 1, 1, 1, 1, 0, 1, 0, 0, 1, 0, 0, 1, 1, 1, 1, 1, 0, 1, 1, 1, 0] g_parseState_emph.body)) (.cond 409 (.leaf (sel [1, 0, 1, 1, 1, 1, 0, 1, 0, 0, 1, 0, 0, 1, 1, 1, 1, 1, 0, 1, 1, 1, 1, 0] g_parseState_emph.body)) (.draw (.pure 1 (.pure 2 (.pure 3 (.pure 4 (.load 0 (.one 5 (.one 6 (.one 7 .done)))))))) (sel [1, 0, 1, 1, 1, 1, 0, 1, 0, 0, 1, 0, 0, 1, 1, 1, 1, 1, 0, 1, 1, 1, 1, 1] g_parseState_emph.body))))))))) (.leaf (sel [1, 0, 1, 1, 1, 1, 0, 1, 0, 0, 1, 0, 0, 1, 1, 1, 1, 1, 1] g_parseState_emph.body)))))))))) (.leaf (sel [1, 0, 1, 1, 1, 1, 0, 1, 0, 0, 1, 1] g_parseState_emph.body))))
def g_parseState_emph (R : Ending → World → Prop) (x0 : Option Addr) (x1q : Option Addr) (x1n : Nat) (x1c : Nat) (x2q : Option Addr) (x2n : Nat) (x2c : Nat) (w : World) : Prop :=
 box w #[.slice x1q x1n x1c] ty_S_Inline fun b1 w2 =>
 box w2 #[.slice none 0 0, .slice none 0 0, .slice none 0 0, .slice none 0 0, .slice none 0 0] ty_5_S_P_emphPlain fun b3 w4 =>
 g_parseState_emph.l1 R x2q x2n x2c b1 b3 (.func (.func i_parseState_emph_1) #[] #[]) (.func (.func i_parseState_emph_2) #[] #[.pointer (some ⟨b3, 0, none⟩), .pointer (some ⟨b1, 0, none⟩)]) 0 w4

noncomputable def g_parseState_emph.ac (R : Ending → World → Prop) : AC :=
  (.seq (.leaf (sel [0] g_parseState_emph.body)) (.scope (.seq (.leaf (sel [1, 0, 0] g_parseState_emph.body)) (.seq (.leaf (sel [1, 0, 1, 0] g_parseState_emph.body)) (.seq (.leaf (sel [1, 0, 1, 1, 0] g_parseState_emph.body)) (.seq (.leaf (sel [1, 0, 1, 1, 1, 0] g_parseState_emph.body)) (.seq (.seq (.leaf (sel [1, 0, 1, 1, 1, 1, 0, 0] g_parseState_emph.body)) (.block 0 (.loop (leaf [(2, .s .slice), (4, .s .loc), (7, .s .loc), (8, .s .any), (9, .s .any), (10, .s (.int .i64))] (g_parseState_emph.l1 R)) (sel [1, 0, 1, 1, 1, 1, 0, 1, 0, 0] g_parseState_emph.body)))) (.leaf (sel [1, 0, 1, 1, 1, 1, 1] g_parseState_emph.body)))))))))
theorem g_parseState_emph.good (R : Ending → World → Prop) : Good P 436 (g_parseState_emph.ac R) (QF P [.tmp 6] R) :=
  ⟨trivial, ⟨trivial, ⟨trivial, ⟨trivial, ⟨trivial, ⟨⟨trivial, (loopG (g_parseState_emph.al1 R) (g_parseState_emph.bl1 R) (fun _ => by kernel_rfl) (fun Xa => ⟨trivial, ⟨⟨⟨trivial, ⟨trivial, ⟨⟨⟨by kernel_rfl, by kernel_rfl, fun _ _ _ h => h⟩, trivial⟩, trivial⟩⟩⟩, ⟨trivial, ⟨⟨trivial, ⟨⟨⟨by kernel_rfl, by kernel_rfl, fun _ _ _ h => h⟩, trivial⟩, trivial⟩⟩, ⟨⟨trivial, ⟨⟨trivial, ⟨trivial, (loopG (g_parseState_emph.al2 R Xa) (g_parseState_emph.bl2 R Xa) (fun _ => by kernel_rfl) (fun Xb => ⟨trivial, ⟨⟨trivial, (loopG (g_parseState_emph.al3 R Xa Xb) (g_parseState_emph.bl3 R Xa Xb) (fun _ => by kernel_rfl) (fun Xc => ⟨trivial, ⟨⟨trivial, ⟨⟨⟨by kernel_rfl, by kernel_rfl, fun _ _ _ h => h⟩, trivial⟩, ⟨⟨⟨⟨by kernel_rfl, by kernel_rfl, fun _ _ _ h => h⟩, trivial⟩, ⟨⟨⟨trivial, ⟨⟨⟨by kernel_rfl, by kernel_rfl, fun _ _ _ h => h⟩, trivial⟩, trivial⟩⟩, ⟨⟨trivial, ⟨⟨⟨by kernel_rfl, by kernel_rfl, fun _ _ _ h => h⟩, trivial⟩, trivial⟩⟩, ⟨trivial, ⟨trivial, ⟨⟨trivial, ⟨⟨by kernel_rfl, by kernel_rfl, fun _ _ _ h => h⟩, ⟨⟨by kernel_rfl, by kernel_rfl, fun _ _ _ h => h⟩, ⟨trivial, ⟨⟨trivial, ⟨⟨by kernel_rfl, by kernel_rfl, fun _ _ _ h => h⟩, ⟨by kernel_rfl, by kernel_rfl, fun _ _ _ h => h⟩⟩⟩, ⟨trivial, cutE (by intro x2q x2n x2c x4 x7 x8 x9 x10 x13 x15 x18 x19 x20 ρ w; kernel_rfl)⟩⟩⟩⟩⟩⟩, cutE (by intro x2q x2n x2c x4 x7 x8 x9 x10 x13 x15 x17 x18 ρ w; kernel_rfl)⟩⟩⟩⟩⟩, cutE (by intro x2q x2n x2c x4 x7 x8 x9 x10 x13 x15 x16 x17 ρ w; kernel_rfl)⟩⟩, cutE (by intro x2q x2n x2c x4 x7 x8 x9 x10 x13 x15 x16 x17 ρ w; kernel_rfl)⟩⟩⟩, trivial⟩⟩) (fun Xc => by intro x2q x2n x2c x4 x7 x8 x9 x10 x13 x15 x16 ρ w; kernel_rfl) (fun X h _ _ _ _ _ _ _ _ _ _ _ _ g => g X h))⟩, trivial⟩⟩) (fun Xb => by intro x2q x2n x2c x4 x7 x8 x9 x10 x13 x15 ρ w; kernel_rfl) (fun X h _ _ _ _ _ _ _ _ _ _ _ g => g X h))⟩⟩, trivial⟩⟩, ⟨⟨trivial, ⟨⟨trivial, ⟨trivial, ⟨⟨trivial, ⟨⟨trivial, ⟨trivial, ⟨by kernel_rfl, by kernel_rfl, fun _ _ _ h => h⟩⟩⟩, cutE (by intro x2q x2n x2c x4 x7 x8 x9 x10 x13 x21 ρ w; kernel_rfl)⟩⟩, cutE (by intro x2q x2n x2c x4 x7 x8 x9 x10 x13 x21 ρ w; kernel_rfl)⟩⟩⟩, trivial⟩⟩, cutE (by intro x2q x2n x2c x4 x7 x8 x9 x10 x13 ρ w; kernel_rfl)⟩⟩⟩⟩⟩, trivial⟩⟩) (fun Xa => by intro x2q x2n x2c x4 x7 x8 x9 x10 ρ w; kernel_rfl) (fun X h _ _ _ _ _ _ _ _ _ g => g X h))⟩, trivial⟩⟩⟩⟩⟩⟩
theorem g_parseState_emph.eq (R : Ending → World → Prop) (x0 : Option Addr) (x1q : Option Addr) (x1n : Nat) (x1c : Nat) (x2q : Option Addr) (x2n : Nat) (x2c : Nat) (w : World) : g_parseState_emph R x0 x1q x1n x1c x2q x2n x2c w = vcA P 436 (g_parseState_emph.ac R) (QF P [.tmp 6] R) (fr0 [.pointer x0, .slice x1q x1n x1c, .slice x2q x2n x2c]) w := by kernel_rfl
theorem g_parseState_emph.sound {R : Ending → World → Prop} {x0 : Option Addr} {x1q : Option Addr} {x1n : Nat} {x1c : Nat} {x2q : Option Addr} {x2n : Nat} {x2c : Nat} {w : World} (h : g_parseState_emph R x0 x1q x1n x1c x2q x2n x2c w) : callE P i_parseState_emph #[.pointer x0, .slice x1q x1n x1c, .slice x2q x2n x2c] R w :=
  callE_fin (c := g_parseState_emph.body) Tryz.func68 Tryz.call68 (by kernel_rfl) (by kernel_rfl) (by kernel_rfl) (by kernel_rfl) (by kernel_rfl) (g_parseState_emph.good R) (g_parseState_emph.eq R x0 x1q x1n x1c x2q x2n x2c w) h
end Go.Proofs.YtmkfleohcnopkaaGreatDoor

set_option linter.unusedVariables false
set_option maxRecDepth 20000
namespace Go.Proofs.YtmkfleohcnopkaaGreatDoor
open Go.Proofs
/- 64 (*pub-paratext/pub/rscmarkdown.parseState).emit -/
noncomputable def g_parseState_emit.body : Code := bodyOf Tryz.f64
def g_parseState_emit (R : Ending → World → Prop) (x0 : Option Addr) (x1 : Int) (w : World) : Prop :=
 nilP x0 fun a1 =>
 ∃ (v2 : Int), w.cell? (a1.add 8) = some (.int .i64 v2) ∧
 br (decide (v2 < x1))
 (tk w fun w3 =>
 nilP x0 fun a4 =>
 nilP x0 fun a5 =>
 nilP x0 fun a6 =>
 ∃ (v7q : Option Addr), ∃ (v7n : Nat), ∃ (v7c : Nat), w3.cell? (a4.add 9) = some (.slice v7q v7n v7c) ∧
 ∃ (v8 : ByteArray), w3.cell? (a5.add 7) = some (.string v8) ∧
 ∃ (v9 : Int), w3.cell? (a6.add 8) = some (.int .i64 v9) ∧
 0 ≤ v9 ∧ v9 ≤ x1 ∧ x1 ≤ (v8.size : Int) ∧
 box w3 #[.string (v8.extract (Int.toNat v9) (Int.toNat x1))] ty_Plain fun b10 w11 =>
 SameC w3 w11 (a4.add 9) 1 ∧
 ∃ (r12q : Option Addr), ∃ (r12n : Nat), ∃ (r12c : Nat), ∃ w13, (Instr.buildSlice ty_S_Inline 1 #[(0, .iface ty_P_Plain (.pointer (some ⟨b10, 0, none⟩)))]).run P w11 = .ok (.slice r12q r12n r12c) w13 ∧
 SameC w11 w13 (a4.add 9) 1 ∧
 ∃ (r14q : Option Addr), ∃ (r14n : Nat), ∃ (r14c : Nat), ∃ w15, (Builtin.append_ #[ty_S_Inline, ty_S_Inline] ty_S_Inline #[.slice v7q v7n v7c, .slice r12q r12n r12c]).run P w13 = .ok (.slice r14q r14n r14c) w15 ∧
 nilP x0 fun a16 =>
 stV w15 ((a16.add 9).add 0) (.slice r14q r14n r14c) fun w17 =>
 nilP x0 fun a18 =>
 stV w17 ((a18.add 8).add 0) (.int .i64 x1) fun w19 =>
 R (.returned (.tuple #[])) w19)
 (R (.returned (.tuple #[])) w)

noncomputable def g_parseState_emit.ac (R : Ending → World → Prop) : AC :=
  (.seq (.leaf (sel [0] g_parseState_emit.body)) (.cond 9 (.seq (.draw (.pure 0 (.pure 1 (.pure 2 (.pure 3 (.pure 5 (.pure 6 (.pure 7 (.pure 9 (.pure 10 (.pure 11 (.pure 13 (.load 4 (.load 8 (.load 12 (.pure 14 (.pure 15 (.one 16 (.pure 17 (.one 18 (.one 19 (.pure 20 (.pure 21 (.one 22 .done))))))))))))))))))))))) (sel [1, 0, 0] g_parseState_emit.body)) (.leaf (sel [1, 0, 1] g_parseState_emit.body))) (.leaf (sel [1, 1] g_parseState_emit.body))))
theorem g_parseState_emit.good (R : Ending → World → Prop) : Good P 36 (g_parseState_emit.ac R) (QF P [] R) :=
  ⟨trivial, ⟨⟨⟨by kernel_rfl, by kernel_rfl, fun _ _ _ h => h⟩, trivial⟩, trivial⟩⟩
theorem g_parseState_emit.eq (R : Ending → World → Prop) (x0 : Option Addr) (x1 : Int) (w : World) : g_parseState_emit R x0 x1 w = vcA P 36 (g_parseState_emit.ac R) (QF P [] R) (fr0 [.pointer x0, .int .i64 x1]) w := by kernel_rfl
theorem g_parseState_emit.sound {R : Ending → World → Prop} {x0 : Option Addr} {x1 : Int} {w : World} (h : g_parseState_emit R x0 x1 w) : callE P i_parseState_emit #[.pointer x0, .int .i64 x1] R w :=
  callE_fin (c := g_parseState_emit.body) Tryz.func64 Tryz.call64 (by kernel_rfl) (by kernel_rfl) (by kernel_rfl) (by kernel_rfl) (by kernel_rfl) (g_parseState_emit.good R) (g_parseState_emit.eq R x0 x1 w) h
end Go.Proofs.YtmkfleohcnopkaaGreatDoor

set_option linter.unusedVariables false
set_option maxRecDepth 20000
namespace Go.Proofs.YtmkfleohcnopkaaGreatDoor
open Go.Proofs
/- 65 (*pub-paratext/pub/rscmarkdown.parseState).skip -/
noncomputable def g_parseState_skip.body : Code := bodyOf Tryz.f65
def g_parseState_skip (R : Ending → World → Prop) (x0 : Option Addr) (x1 : Int) (w : World) : Prop :=
 nilP x0 fun a1 =>
 stV w ((a1.add 8).add 0) (.int .i64 x1) fun w2 =>
 R (.returned (.tuple #[])) w2

noncomputable def g_parseState_skip.ac (R : Ending → World → Prop) : AC :=
  (.leaf (sel [] g_parseState_skip.body))
theorem g_parseState_skip.good (R : Ending → World → Prop) : Good P 8 (g_parseState_skip.ac R) (QF P [] R) :=
  trivial
theorem g_parseState_skip.eq (R : Ending → World → Prop) (x0 : Option Addr) (x1 : Int) (w : World) : g_parseState_skip R x0 x1 w = vcA P 8 (g_parseState_skip.ac R) (QF P [] R) (fr0 [.pointer x0, .int .i64 x1]) w := by kernel_rfl
theorem g_parseState_skip.sound {R : Ending → World → Prop} {x0 : Option Addr} {x1 : Int} {w : World} (h : g_parseState_skip R x0 x1 w) : callE P i_parseState_skip #[.pointer x0, .int .i64 x1] R w :=
  callE_fin (c := g_parseState_skip.body) Tryz.func65 Tryz.call65 (by kernel_rfl) (by kernel_rfl) (by kernel_rfl) (by kernel_rfl) (by kernel_rfl) (g_parseState_skip.good R) (g_parseState_skip.eq R x0 x1 w) h
end Go.Proofs.YtmkfleohcnopkaaGreatDoor

set_option linter.unusedVariables false
set_option maxRecDepth 20000
namespace Go.Proofs.YtmkfleohcnopkaaGreatDoor
open Go.Proofs
/- 42 (*pub-paratext/pub/rscmarkdown.parseState).trimStack -/
noncomputable def g_parseState_trimStack.body : Code := bodyOf Tryz.f42
def g_parseState_trimStack.bl1 (R : Ending → World → Prop) (Xa : Option Addr → Int → World → Prop) (x0 : Option Addr) (x1 : Int) (w : World) : Prop :=
 nilP x0 fun a3 =>
 ∃ (v4q : Option Addr), ∃ (v4n : Nat), ∃ (v4c : Nat), w.cell? (a3.add 4) = some (.slice v4q v4n v4c) ∧
 br (decide ((v4n : Int) > x1))
 (callE P i_parseState_closeBlock #[.pointer x0] (fun e w6 => ∃ (r5 : Value), e = .returned r5 ∧
 Xa x0 x1 w6) w)
 (R (.returned (.tuple #[])) w)
def g_parseState_trimStack.l1 (R : Ending → World → Prop) (x0 : Option Addr) (x1 : Int) (w : World) : Prop :=
  ∀ X : Option Addr → Int → World → Prop, (∀ x0 x1 w, g_parseState_trimStack.bl1 R X x0 x1 w → X x0 x1 w) → X x0 x1 w

noncomputable def g_parseState_trimStack.al1 (R : Ending → World → Prop) (Xa : Option Addr → Int → World → Prop) : AC :=
  (.leaf (sel [1, 0, 0] g_parseState_trimStack.body))
def g_parseState_trimStack.k1 (R : Ending → World → Prop) (x0 : Option Addr) (x1 : Int) (w : World) : Prop :=
 g_parseState_trimStack.l1 R x0 x1 w

def g_parseState_trimStack (R : Ending → World → Prop) (x0 : Option Addr) (x1 : Int) (w : World) : Prop :=
 nilP x0 fun a1 =>
 ∃ (v2q : Option Addr), ∃ (v2n : Nat), ∃ (v2c : Nat), w.cell? (a1.add 4) = some (.slice v2q v2n v2c) ∧
 br (decide ((v2n : Int) < x1))
 (False)
 (g_parseState_trimStack.k1 R x0 x1 w)

noncomputable def g_parseState_trimStack.ac (R : Ending → World → Prop) : AC :=
  (.seq (.leaf (sel [0] g_parseState_trimStack.body)) (.mark (leaf [(0, .s .ptr), (1, .s (.int .i64))] (g_parseState_trimStack.k1 R)) (.block 0 (.loop (leaf [(0, .s .ptr), (1, .s (.int .i64))] (g_parseState_trimStack.l1 R)) (sel [1, 0, 0] g_parseState_trimStack.body)))))
theorem g_parseState_trimStack.good (R : Ending → World → Prop) : Good P 21 (g_parseState_trimStack.ac R) (QF P [] R) :=
  ⟨trivial, ⟨(loopG (g_parseState_trimStack.al1 R) (g_parseState_trimStack.bl1 R) (fun _ => by kernel_rfl) (fun Xa => trivial) (fun Xa => by intro x0 x1 ρ w; kernel_rfl) (fun X h _ _ _ g => g X h)), cutE (by intro x0 x1 ρ w; kernel_rfl)⟩⟩
theorem g_parseState_trimStack.eq (R : Ending → World → Prop) (x0 : Option Addr) (x1 : Int) (w : World) : g_parseState_trimStack R x0 x1 w = vcA P 21 (g_parseState_trimStack.ac R) (QF P [] R) (fr0 [.pointer x0, .int .i64 x1]) w := by kernel_rfl
theorem g_parseState_trimStack.sound {R : Ending → World → Prop} {x0 : Option Addr} {x1 : Int} {w : World} (h : g_parseState_trimStack R x0 x1 w) : callE P i_parseState_trimStack #[.pointer x0, .int .i64 x1] R w :=
  callE_fin (c := g_parseState_trimStack.body) Tryz.func42 Tryz.call42 (by kernel_rfl) (by kernel_rfl) (by kernel_rfl) (by kernel_rfl) (by kernel_rfl) (g_parseState_trimStack.good R) (g_parseState_trimStack.eq R x0 x1 w) h
end Go.Proofs.YtmkfleohcnopkaaGreatDoor

set_option linter.unusedVariables false
set_option maxRecDepth 20000
namespace Go.Proofs.YtmkfleohcnopkaaGreatDoor
open Go.Proofs
/- 50 (*pub-paratext/pub/rscmarkdown.parseState).closeBlock -/
noncomputable def g_parseState_closeBlock.body : Code := bodyOf Tryz.f50
def g_parseState_closeBlock.k3 (R : Ending → World → Prop) (x0 : Option Addr) (x4 : Value) (w : World) : Prop :=
 tk w fun w38 =>
 nilP x0 fun a39 =>
 nilP x0 fun a40 =>
 ∃ (v41q : Option Addr), ∃ (v41n : Nat), ∃ (v41c : Nat), w38.cell? (a39.add 4) = some (.slice v41q v41n v41c) ∧
 ∃ (v42q : Option Addr), ∃ (v42n : Nat), ∃ (v42c : Nat), w38.cell? (a40.add 4) = some (.slice v42q v42n v42c) ∧
 ∃ (r43q : Option Addr), ∃ (r43n : Nat), ∃ (r43c : Nat), (∀ w, (Instr.sliceAt ty_S_openBlock (.slice v41q v41n v41c) none (some (.int .i64 (IntKind.i64.wrap ((v42n : Int) - 1)))) none).run P w = .ok (.slice r43q r43n r43c) w) ∧
 nilP x0 fun a44 =>
 stV w38 ((a44.add 4).add 0) (.slice r43q r43n r43c) fun w45 =>
 nilP x0 fun a46 =>
 ∃ (v47q : Option Addr), ∃ (v47n : Nat), ∃ (v47c : Nat), w45.cell? (a46.add 4) = some (.slice v47q v47n v47c) ∧
 br (decide ((v47n : Int) > 0))
 (tk w45 fun w48 =>
 nilP x0 fun a49 =>
 nilP x0 fun a50 =>
 ∃ (v51q : Option Addr), ∃ (v51n : Nat), ∃ (v51c : Nat), w48.cell? (a49.add 4) = some (.slice v51q v51n v51c) ∧
 ∃ (v52q : Option Addr), ∃ (v52n : Nat), ∃ (v52c : Nat), w48.cell? (a50.add 4) = some (.slice v52q v52n v52c) ∧
 0 ≤ (IntKind.i64.wrap ((v52n : Int) - 1)) ∧ (IntKind.i64.wrap ((v52n : Int) - 1)) < (v51n : Int) ∧
 nilP v51q fun a53 =>
 ∃ (v54q : Option Addr), ∃ (v54n : Nat), ∃ (v54c : Nat), w48.cell? ((a53.add (Int.toNat (IntKind.i64.wrap ((v52n : Int) - 1)) * 4)).add 1) = some (.slice v54q v54n v54c) ∧
 ∃ (r55q : Option Addr), ∃ (r55n : Nat), ∃ (r55c : Nat), ∃ w56, (Instr.buildSlice ty_S_Block 1 #[(0, x4)]).run P w48 = .ok (.slice r55q r55n r55c) w56 ∧
 ∃ (r57q : Option Addr), ∃ (r57n : Nat), ∃ (r57c : Nat), ∃ w58, (Builtin.append_ #[ty_S_Block, ty_S_Block] ty_S_Block #[.slice v54q v54n v54c, .slice r55q r55n r55c]).run P w56 = .ok (.slice r57q r57n r57c) w58 ∧
 stV w58 (((a53.add (Int.toNat (IntKind.i64.wrap ((v52n : Int) - 1)) * 4)).add 1).add 0) (.slice r57q r57n r57c) fun w59 =>
 R (.returned x4) w59)
 (∃ (r60 : Option Addr), ∃ w61, (Instr.typeAssert x4 ty_Block ty_P_Document false).run P w45 = .ok (.pointer r60) w61 ∧
 nilP x0 fun a62 =>
 stV w61 ((a62.add 1).add 0) (.pointer r60) fun w63 =>
 R (.returned x4) w63)

def g_parseState_closeBlock.k2 (R : Ending → World → Prop) (x0 : Option Addr) (x4 : Value) (x5 : Option Addr) (w : World) : Prop :=
 nilP x0 fun a26 =>
 ∃ (v27 : Option Addr), w.cell? a26 = some (.pointer v27) ∧
 nilP v27 fun a28 =>
 ∃ (v29 : Bool), w.cell? (a28.add 2) = some (.bool v29) ∧
 br v29
 (nilP x0 fun a30 =>
 ∃ (v31q : Option Addr), ∃ (v31n : Nat), ∃ (v31c : Nat), w.cell? (a30.add 10) = some (.slice v31q v31n v31c) ∧
 ∃ (r32q : Option Addr), ∃ (r32n : Nat), ∃ (r32c : Nat), ∃ w33, (Instr.buildSlice ty_S_P_List 1 #[(0, .pointer x5)]).run P w = .ok (.slice r32q r32n r32c) w33 ∧
 ∃ (r34q : Option Addr), ∃ (r34n : Nat), ∃ (r34c : Nat), ∃ w35, (Builtin.append_ #[ty_S_P_List, ty_S_P_List] ty_S_P_List #[.slice v31q v31n v31c, .slice r32q r32n r32c]).run P w33 = .ok (.slice r34q r34n r34c) w35 ∧
 nilP x0 fun a36 =>
 stV w35 ((a36.add 10).add 0) (.slice r34q r34n r34c) fun w37 =>
 g_parseState_closeBlock.k3 R x0 x4 w37)
 (g_parseState_closeBlock.k3 R x0 x4 w)

def g_parseState_closeBlock.k1 (R : Ending → World → Prop) (x0 : Option Addr) (x3 : Option Addr) (w : World) : Prop :=
 nilP x3 fun a12 =>
 ∃ (v13 : Value), w.cell? a12 = some v13 ∧
 enterE P (callMethod v13 "pub-paratext/pub/rscmarkdown.build" #[.iface ty_P_parseState (.pointer x0)]) (fun e w15 => ∃ (r14 : Value), e = .returned r14 ∧
 ∃ (r16_0 : Option Addr), ∃ (r16_1 : Bool), ∃ w17, (Instr.typeAssert r14 ty_Block ty_P_List true).run P w15 = .ok (.tuple #[.pointer r16_0, .bool r16_1]) w17 ∧
 br r16_1
 (nilP x0 fun a18 =>
 ∃ (v19 : Bool), w17.cell? (a18.add 6) = some (.bool v19) ∧
 br v19
 (nilP x0 fun a20 =>
 stV w17 ((a20.add 6).add 0) (.bool true) fun w21 =>
 g_parseState_closeBlock.k2 R x0 r14 r16_0 w21)
 (callE P i_listCorner #[.pointer r16_0] (fun e w23 => ∃ (r22 : Bool), e = .returned (.bool r22) ∧
 nilP x0 fun a24 =>
 stV w23 ((a24.add 6).add 0) (.bool r22) fun w25 =>
 g_parseState_closeBlock.k2 R x0 r14 r16_0 w25) w17))
 (g_parseState_closeBlock.k3 R x0 r14 w17)) w

def g_parseState_closeBlock (R : Ending → World → Prop) (x0 : Option Addr) (w : World) : Prop :=
 tk w fun w1 =>
 nilP x0 fun a2 =>
 nilP x0 fun a3 =>
 ∃ (v4q : Option Addr), ∃ (v4n : Nat), ∃ (v4c : Nat), w1.cell? (a2.add 4) = some (.slice v4q v4n v4c) ∧
 ∃ (v5q : Option Addr), ∃ (v5n : Nat), ∃ (v5c : Nat), w1.cell? (a3.add 4) = some (.slice v5q v5n v5c) ∧
 0 ≤ (IntKind.i64.wrap ((v5n : Int) - 1)) ∧ (IntKind.i64.wrap ((v5n : Int) - 1)) < (v4n : Int) ∧
 nilP v4q fun a6 =>
 ∃ (v7 : Value), w1.cell? (a6.add (Int.toNat (IntKind.i64.wrap ((v5n : Int) - 1)) * 4)) = some v7 ∧
 ∃ (r8 : Bool), ∃ w9, (do eqGuard .eql ty_blockBuilder (.tmp 22) (.const .nilIface) v7 .nilIface; binOp .eql ty_blockBuilder v7 .nilIface).run P w1 = .ok (.bool r8) w9 ∧
 br r8
 (nilP x0 fun a10 =>
 ∃ (v11q : Option Addr), ∃ (v11n : Nat), ∃ (v11c : Nat), w9.cell? (a10.add 4) = some (.slice v11q v11n v11c) ∧
 False)
 (g_parseState_closeBlock.k1 R x0 (some (a6.add (Int.toNat (IntKind.i64.wrap ((v5n : Int) - 1)) * 4))) w9)

noncomputable def g_parseState_closeBlock.ac (R : Ending → World → Prop) : AC :=
  (.seq (.leaf (sel [0] g_parseState_closeBlock.body)) (.seq (.draw (.pure 0 (.pure 1 (.pure 2 (.pure 4 (.pure 5 (.pure 6 (.load 3 (.load 7 (.pure 8 (.pure 9 (.pure 10 (.pure 11 .done)))))))))))) (sel [1, 0] g_parseState_closeBlock.body)) (.seq (.leaf (sel [1, 1, 0] g_parseState_closeBlock.body)) (.mark (leaf [(0, .s .ptr), (3, .s .ptr)] (g_parseState_closeBlock.k1 R)) (.seq (.leaf (sel [1, 1, 1, 0] g_parseState_closeBlock.body)) (.seq (.seq (.leaf (sel [1, 1, 1, 1, 0, 0] g_parseState_closeBlock.body)) (.seq (.leaf (sel [1, 1, 1, 1, 0, 1, 0] g_parseState_closeBlock.body)) (.cond 42 (.seq (.leaf (sel [1, 1, 1, 1, 0, 1, 1, 0, 0] g_parseState_closeBlock.body)) (.mark (leaf [(0, .s .ptr), (4, .s .any), (5, .s .ptr)] (g_parseState_closeBlock.k2 R)) (.leaf (sel [1, 1, 1, 1, 0, 1, 1, 0, 1] g_parseState_closeBlock.body)))) (.leaf (sel [1, 1, 1, 1, 0, 1, 1, 1] g_parseState_closeBlock.body))))) (.mark (leaf [(0, .s .ptr), (4, .s .any)] (g_parseState_closeBlock.k3 R)) (.seq (.draw (.pure 0 (.pure 1 (.pure 2 (.pure 3 (.pure 5 (.pure 6 (.pure 7 (.load 4 (.load 8 (.pure 9 (.pure 10 (.pure 11 (.pure 12 (.pure 13 (.one 14 .done))))))))))))))) (sel [1, 1, 1, 1, 1, 0] g_parseState_closeBlock.body)) (.seq (.seq (.leaf (sel [1, 1, 1, 1, 1, 1, 0, 0] g_parseState_closeBlock.body)) (.cond 90 (.seq (.draw (.pure 0 (.pure 1 (.pure 2 (.pure 4 (.pure 5 (.pure 6 (.load 3 (.load 7 (.pure 8 (.pure 9 (.pure 10 (.pure 11 .done)))))))))))) (sel [1, 1, 1, 1, 1, 1, 0, 1, 0, 0] g_parseState_closeBlock.body)) (.leaf (sel [1, 1, 1, 1, 1, 1, 0, 1, 0, 1] g_parseState_closeBlock.body))) (.leaf (sel [1, 1, 1, 1, 1, 1, 0, 1, 1] g_parseState_closeBlock.body)))) (.leaf (sel [1, 1, 1, 1, 1, 1, 1] g_parseState_closeBlock.body)))))))))))
theorem g_parseState_closeBlock.good (R : Ending → World → Prop) : Good P 118 (g_parseState_closeBlock.ac R) (QF P [.tmp 2] R) :=
  ⟨trivial, ⟨⟨by kernel_rfl, by kernel_rfl, fun _ _ _ h => h⟩, ⟨trivial, ⟨⟨trivial, ⟨⟨trivial, ⟨trivial, ⟨⟨trivial, ⟨trivial, cutE (by intro x0 x4 x5 ρ w; kernel_rfl)⟩⟩, trivial⟩⟩⟩, ⟨⟨⟨by kernel_rfl, by kernel_rfl, fun _ _ _ h => h⟩, ⟨⟨trivial, ⟨⟨⟨by kernel_rfl, by kernel_rfl, fun _ _ _ h => h⟩, trivial⟩, trivial⟩⟩, trivial⟩⟩, cutE (by intro x0 x4 ρ w; kernel_rfl)⟩⟩⟩, cutE (by intro x0 x3 ρ w; kernel_rfl)⟩⟩⟩⟩
theorem g_parseState_closeBlock.eq (R : Ending → World → Prop) (x0 : Option Addr) (w : World) : g_parseState_closeBlock R x0 w = vcA P 118 (g_parseState_closeBlock.ac R) (QF P [.tmp 2] R) (fr0 [.pointer x0]) w := by kernel_rfl
theorem g_parseState_closeBlock.sound {R : Ending → World → Prop} {x0 : Option Addr} {w : World} (h : g_parseState_closeBlock R x0 w) : callE P i_parseState_closeBlock #[.pointer x0] R w :=
  callE_fin (c := g_parseState_closeBlock.body) Tryz.func50 Tryz.call50 (by kernel_rfl) (by kernel_rfl) (by kernel_rfl) (by kernel_rfl) (by kernel_rfl) (g_parseState_closeBlock.good R) (g_parseState_closeBlock.eq R x0 w) h
end Go.Proofs.YtmkfleohcnopkaaGreatDoor

set_option linter.unusedVariables false
set_option maxRecDepth 20000
namespace Go.Proofs.YtmkfleohcnopkaaGreatDoor
open Go.Proofs
/- 225 (*pub-paratext/pub/rscmarkdown.rootBuilder).build -/
noncomputable def g_rootBuilder_build.body : Code := bodyOf Tryz.f225
def g_rootBuilder_build (R : Ending → World → Prop) (x0 : Option Addr) (x1 : Value) (w : World) : Prop :=
 tk w fun w1 =>
 ∃ (r2 : Option Addr), (∀ w, (Instr.typeAssert x1 ty_buildState ty_P_parseState false).run P w = .ok (.pointer r2) w) ∧
 nilP r2 fun a3 =>
 ∃ (v4 : Option Nat), w1.cell? (a3.add 2) = some (.map v4) ∧
 enterE P (callMethod x1 "pub-paratext/pub/rscmarkdown.pos" #[]) (fun e w6 => ∃ (r5_0 : Int), ∃ (r5_1 : Int), e = .returned (.agg #[.int .i64 r5_0, .int .i64 r5_1]) ∧
 SameC w1 w6 (a3.add 2) 1 ∧
 enterE P (callMethod x1 "pub-paratext/pub/rscmarkdown.blocks" #[]) (fun e w8 => ∃ (r7q : Option Addr), ∃ (r7n : Nat), ∃ (r7c : Nat), e = .returned (.slice r7q r7n r7c) ∧
 SameC w6 w8 (a3.add 2) 1 ∧
 box w8 #[.int .i64 r5_0, .int .i64 r5_1, .slice r7q r7n r7c, .map v4] ty_Document fun b9 w10 =>
 R (.returned (.iface ty_P_Document (.pointer (some ⟨b9, 0, none⟩)))) w10) w6) w1

noncomputable def g_rootBuilder_build.ac (R : Ending → World → Prop) : AC :=
  (.seq (.leaf (sel [0] g_rootBuilder_build.body)) (.seq (.draw (.pure 0 (.pure 2 (.pure 4 (.pure 5 (.pure 6 (.pure 7 (.load 8 (.one 1 (.one 3 (.pure 9 (.one 10 (.pure 11 (.pure 12 .done))))))))))))) (sel [1, 0] g_rootBuilder_build.body)) (.leaf (sel [1, 1] g_rootBuilder_build.body))))
theorem g_rootBuilder_build.good (R : Ending → World → Prop) : Good P 17 (g_rootBuilder_build.ac R) (QF P [.tmp 4] R) :=
  ⟨trivial, ⟨⟨by kernel_rfl, by kernel_rfl, fun _ _ _ h => h⟩, trivial⟩⟩
theorem g_rootBuilder_build.eq (R : Ending → World → Prop) (x0 : Option Addr) (x1 : Value) (w : World) : g_rootBuilder_build R x0 x1 w = vcA P 17 (g_rootBuilder_build.ac R) (QF P [.tmp 4] R) (fr0 [.pointer x0, x1]) w := by kernel_rfl
theorem g_rootBuilder_build.sound {R : Ending → World → Prop} {x0 : Option Addr} {x1 : Value} {w : World} (h : g_rootBuilder_build R x0 x1 w) : callE P i_rootBuilder_build #[.pointer x0, x1] R w :=
  callE_fin (c := g_rootBuilder_build.body) Tryz.func225 Tryz.call225 (by kernel_rfl) (by kernel_rfl) (by kernel_rfl) (by kernel_rfl) (by kernel_rfl) (g_rootBuilder_build.good R) (g_rootBuilder_build.eq R x0 x1 w) h
end Go.Proofs.YtmkfleohcnopkaaGreatDoor

set_option linter.unusedVariables false
set_option maxRecDepth 20000
namespace Go.Proofs.YtmkfleohcnopkaaGreatDoor
open Go.Proofs
/- 266 (*pub-paratext/pub/rscmarkdown.paraBuilder).build -/
noncomputable def g_paraBuilder_build.body : Code := bodyOf Tryz.f266
def g_paraBuilder_build.k1 (R : Ending → World → Prop) (x0 : Option Addr) (x1 : Value) (x5 : ByteArray) (w : World) : Prop :=
 br (x5.toList == (ByteArray.mk #[]).toList)
 (enterE P (callMethod x1 "pub-paratext/pub/rscmarkdown.pos" #[]) (fun e w18 => ∃ (r17_0 : Int), ∃ (r17_1 : Int), e = .returned (.agg #[.int .i64 r17_0, .int .i64 r17_1]) ∧
 box w18 #[.int .i64 r17_0, .int .i64 r17_1] ty_Empty fun b19 w20 =>
 R (.returned (.iface ty_P_Empty (.pointer (some ⟨b19, 0, none⟩)))) w20) w)
 (enterE P (callMethod x1 "pub-paratext/pub/rscmarkdown.pos" #[]) (fun e w22 => ∃ (r21_0 : Int), ∃ (r21_1 : Int), e = .returned (.agg #[.int .i64 r21_0, .int .i64 r21_1]) ∧
 box w22 #[.int .i64 0, .int .i64 0] ty_Position fun b23 w24 =>
 stV w24 ⟨b23, 0, none⟩ (.int .i64 r21_0) fun w25 =>
 stV w25 ⟨b23, 1, none⟩ (.int .i64 r21_1) fun w26 =>
 tk w26 fun w27 =>
 nilP x0 fun a28 =>
 ∃ (v29 : Int), w27.cell? ⟨b23, 0, none⟩ = some (.int .i64 v29) ∧
 ∃ (v30q : Option Addr), ∃ (v30n : Nat), ∃ (v30c : Nat), w27.cell? a28 = some (.slice v30q v30n v30c) ∧
 stV w27 ⟨b23, 1, none⟩ (.int .i64 (IntKind.i64.wrap ((IntKind.i64.wrap (v29 + (v30n : Int))) - 1))) fun w31 =>
 tk w31 fun w32 =>
 ∃ (v33 : Int), w32.cell? ⟨b23, 0, none⟩ = some (.int .i64 v33) ∧
 ∃ (v34 : Int), w32.cell? ⟨b23, 1, none⟩ = some (.int .i64 v34) ∧
 ∃ (v35 : Int), w32.cell? ⟨b23, 0, none⟩ = some (.int .i64 v35) ∧
 ∃ (v36 : Int), w32.cell? ⟨b23, 1, none⟩ = some (.int .i64 v36) ∧
 enterE P (callMethod x1 "pub-paratext/pub/rscmarkdown.newText" #[.agg #[.int .i64 v35, .int .i64 v36], .string x5]) (fun e w38 => ∃ (r37 : Option Addr), e = .returned (.pointer r37) ∧
 SameC w32 w38 ⟨b23, 0, none⟩ 2 ∧
 box w38 #[.int .i64 v33, .int .i64 v34, .pointer r37] ty_Paragraph fun b39 w40 =>
 R (.returned (.iface ty_P_Paragraph (.pointer (some ⟨b39, 0, none⟩)))) w40) w32) w)

def g_paraBuilder_build.bl1 (R : Ending → World → Prop) (Xa : Option Addr → Value → ByteArray → World → Prop) (x0 : Option Addr) (x1 : Value) (x5 : ByteArray) (w : World) : Prop :=
 br (!(x5.toList == (ByteArray.mk #[]).toList))
 (callE P i_parseLinkRefDef #[x1, .string x5] (fun e w14 => ∃ (r13_0 : Int), ∃ (r13_1 : Bool), e = .returned (.tuple #[.int .i64 r13_0, .bool r13_1]) ∧
 br (!r13_1)
 (g_paraBuilder_build.k1 R x0 x1 x5 w14)
 (callE P i_skipSpace #[.string x5, .int .i64 r13_0] (fun e w16 => ∃ (r15 : Int), e = .returned (.int .i64 r15) ∧
 0 ≤ r15 ∧ r15 ≤ (x5.size : Int) ∧
 Xa x0 x1 (x5.extract (Int.toNat r15) x5.size) w16) w14)) w)
 (g_paraBuilder_build.k1 R x0 x1 x5 w)
def g_paraBuilder_build.l1 (R : Ending → World → Prop) (x0 : Option Addr) (x1 : Value) (x5 : ByteArray) (w : World) : Prop :=
  ∀ X : Option Addr → Value → ByteArray → World → Prop, (∀ x0 x1 x5 w, g_paraBuilder_build.bl1 R X x0 x1 x5 w → X x0 x1 x5 w) → X x0 x1 x5 w

noncomputable def g_paraBuilder_build.al1 (R : Ending → World → Prop) (Xa : Option Addr → Value → ByteArray → World → Prop) : AC :=
  (.leaf (sel [1, 1, 1, 0, 0, 0] g_paraBuilder_build.body))
def g_paraBuilder_build (R : Ending → World → Prop) (x0 : Option Addr) (x1 : Value) (w : World) : Prop :=
 nilP x0 fun a1 =>
 ∃ (v2 : Option Addr), w.cell? (a1.add 1) = some (.pointer v2) ∧
 ∃ (r3 : Bool), ∃ w4, (do eqGuard .neq ty_P_tableBuilder (.tmp 12) (.const (.pointer none)) (.pointer v2) (.pointer none); binOp .neq ty_P_tableBuilder (.pointer v2) (.pointer none)).run P w = .ok (.bool r3) w4 ∧
 br r3
 (nilP x0 fun a5 =>
 ∃ (v6 : Option Addr), w4.cell? (a5.add 1) = some (.pointer v6) ∧
 callE P i_tableBuilder_build #[.pointer v6, x1] (fun e w8 => ∃ (r7 : Value), e = .returned r7 ∧
 R (.returned r7) w8) w4)
 (nilP x0 fun a9 =>
 ∃ (v10q : Option Addr), ∃ (v10n : Nat), ∃ (v10c : Nat), w4.cell? a9 = some (.slice v10q v10n v10c) ∧
 callE P i_strings_Join #[.slice v10q v10n v10c, .string (ByteArray.mk #[10])] (fun e w12 => ∃ (r11 : ByteArray), e = .returned (.string r11) ∧
 g_paraBuilder_build.l1 R x0 x1 r11 w12) w4)

noncomputable def g_paraBuilder_build.ac (R : Ending → World → Prop) : AC :=
  (.seq (.leaf (sel [0] g_paraBuilder_build.body)) (.seq (.leaf (sel [1, 0] g_paraBuilder_build.body)) (.seq (.leaf (sel [1, 1, 0] g_paraBuilder_build.body)) (.seq (.block 0 (.loop (leaf [(0, .s .ptr), (1, .s .any), (5, .s .str)] (g_paraBuilder_build.l1 R)) (sel [1, 1, 1, 0, 0, 0] g_paraBuilder_build.body))) (.mark (leaf [(0, .s .ptr), (1, .s .any), (5, .s .str)] (g_paraBuilder_build.k1 R)) (.seq (.leaf (sel [1, 1, 1, 1, 0] g_paraBuilder_build.body)) (.seq (.leaf (sel [1, 1, 1, 1, 1, 0] g_paraBuilder_build.body)) (.seq (.draw (.pure 0 (.pure 2 (.pure 3 (.pure 4 (.load 1 (.load 5 (.pure 6 (.pure 7 (.pure 8 (.pure 9 (.one 10 .done))))))))))) (sel [1, 1, 1, 1, 1, 1, 0] g_paraBuilder_build.body)) (.seq (.draw (.pure 1 (.pure 3 (.load 0 (.load 2 (.one 4 (.pure 5 (.one 6 (.pure 7 (.pure 8 .done))))))))) (sel [1, 1, 1, 1, 1, 1, 1, 0] g_paraBuilder_build.body)) (.leaf (sel [1, 1, 1, 1, 1, 1, 1, 1] g_paraBuilder_build.body)))))))))))
theorem g_paraBuilder_build.good (R : Ending → World → Prop) : Good P 67 (g_paraBuilder_build.ac R) (QF P [.tmp 4] R) :=
  ⟨trivial, ⟨trivial, ⟨trivial, ⟨(loopG (g_paraBuilder_build.al1 R) (g_paraBuilder_build.bl1 R) (fun _ => by kernel_rfl) (fun Xa => trivial) (fun Xa => by intro x0 x1 x5 ρ w; kernel_rfl) (fun X h _ _ _ _ g => g X h)), ⟨⟨trivial, ⟨trivial, ⟨⟨by kernel_rfl, by kernel_rfl, fun _ _ _ h => h⟩, ⟨⟨by kernel_rfl, by kernel_rfl, fun _ _ _ h => h⟩, trivial⟩⟩⟩⟩, cutE (by intro x0 x1 x5 ρ w; kernel_rfl)⟩⟩⟩⟩⟩
theorem g_paraBuilder_build.eq (R : Ending → World → Prop) (x0 : Option Addr) (x1 : Value) (w : World) : g_paraBuilder_build R x0 x1 w = vcA P 67 (g_paraBuilder_build.ac R) (QF P [.tmp 4] R) (fr0 [.pointer x0, x1]) w := by kernel_rfl
theorem g_paraBuilder_build.sound {R : Ending → World → Prop} {x0 : Option Addr} {x1 : Value} {w : World} (h : g_paraBuilder_build R x0 x1 w) : callE P i_paraBuilder_build #[.pointer x0, x1] R w :=
  callE_fin (c := g_paraBuilder_build.body) Tryz.func266 Tryz.call266 (by kernel_rfl) (by kernel_rfl) (by kernel_rfl) (by kernel_rfl) (by kernel_rfl) (g_paraBuilder_build.good R) (g_paraBuilder_build.eq R x0 x1 w) h
end Go.Proofs.YtmkfleohcnopkaaGreatDoor

set_option linter.unusedVariables false
set_option maxRecDepth 20000
namespace Go.Proofs.YtmkfleohcnopkaaGreatDoor
open Go.Proofs
/- 119 (*pub-paratext/pub/rscmarkdown.parseState).newText -/
noncomputable def g_parseState_newText.body : Code := bodyOf Tryz.f119
def g_parseState_newText (R : Ending → World → Prop) (x0 : Option Addr) (x1_0 : Int) (x1_1 : Int) (x2 : ByteArray) (w : World) : Prop :=
 box w #[.int .i64 x1_0, .int .i64 x1_1] ty_Position fun b1 w2 =>
 ∃ (v3 : Int), w2.cell? ⟨b1, 0, none⟩ = some (.int .i64 v3) ∧
 ∃ (v4 : Int), w2.cell? ⟨b1, 1, none⟩ = some (.int .i64 v4) ∧
 box w2 #[.int .i64 v3, .int .i64 v4, .slice none 0 0, .string x2] ty_Text fun b5 w6 =>
 nilP x0 fun a7 =>
 ∃ (v8q : Option Addr), ∃ (v8n : Nat), ∃ (v8c : Nat), w6.cell? (a7.add 11) = some (.slice v8q v8n v8c) ∧
 ∃ (r9q : Option Addr), ∃ (r9n : Nat), ∃ (r9c : Nat), ∃ w10, (Instr.buildSlice ty_S_P_Text 1 #[(0, .pointer (some ⟨b5, 0, none⟩))]).run P w6 = .ok (.slice r9q r9n r9c) w10 ∧
 ∃ (r11q : Option Addr), ∃ (r11n : Nat), ∃ (r11c : Nat), ∃ w12, (Builtin.append_ #[ty_S_P_Text, ty_S_P_Text] ty_S_P_Text #[.slice v8q v8n v8c, .slice r9q r9n r9c]).run P w10 = .ok (.slice r11q r11n r11c) w12 ∧
 nilP x0 fun a13 =>
 stV w12 ((a13.add 11).add 0) (.slice r11q r11n r11c) fun w14 =>
 R (.returned (.pointer (some ⟨b5, 0, none⟩))) w14

noncomputable def g_parseState_newText.ac (R : Ending → World → Prop) : AC :=
  (.leaf (sel [] g_parseState_newText.body))
theorem g_parseState_newText.good (R : Ending → World → Prop) : Good P 23 (g_parseState_newText.ac R) (QF P [.tmp 6] R) :=
  trivial
theorem g_parseState_newText.eq (R : Ending → World → Prop) (x0 : Option Addr) (x1_0 : Int) (x1_1 : Int) (x2 : ByteArray) (w : World) : g_parseState_newText R x0 x1_0 x1_1 x2 w = vcA P 23 (g_parseState_newText.ac R) (QF P [.tmp 6] R) (fr0 [.pointer x0, .agg #[.int .i64 x1_0, .int .i64 x1_1], .string x2]) w := by kernel_rfl
theorem g_parseState_newText.sound {R : Ending → World → Prop} {x0 : Option Addr} {x1_0 : Int} {x1_1 : Int} {x2 : ByteArray} {w : World} (h : g_parseState_newText R x0 x1_0 x1_1 x2 w) : callE P i_parseState_newText #[.pointer x0, .agg #[.int .i64 x1_0, .int .i64 x1_1], .string x2] R w :=
  callE_fin (c := g_parseState_newText.body) Tryz.func119 Tryz.call119 (by kernel_rfl) (by kernel_rfl) (by kernel_rfl) (by kernel_rfl) (by kernel_rfl) (g_parseState_newText.good R) (g_parseState_newText.eq R x0 x1_0 x1_1 x2 w) h
end Go.Proofs.YtmkfleohcnopkaaGreatDoor

set_option linter.unusedVariables false
set_option maxRecDepth 20000
namespace Go.Proofs.YtmkfleohcnopkaaGreatDoor
open Go.Proofs
/- 238 (*pub-paratext/pub/rscmarkdown.parseState).pos -/
noncomputable def g_parseState_pos.body : Code := bodyOf Tryz.f238
def g_parseState_pos (R : Ending → World → Prop) (x0 : Option Addr) (w : World) : Prop :=
 box w #[.int .i64 0, .int .i64 0] ty_Position fun b1 w2 =>
 tk w2 fun w3 =>
 nilP x0 fun a4 =>
 nilP x0 fun a5 =>
 ∃ (v6q : Option Addr), ∃ (v6n : Nat), ∃ (v6c : Nat), w3.cell? (a4.add 4) = some (.slice v6q v6n v6c) ∧
 ∃ (v7q : Option Addr), ∃ (v7n : Nat), ∃ (v7c : Nat), w3.cell? (a5.add 4) = some (.slice v7q v7n v7c) ∧
 0 ≤ (IntKind.i64.wrap ((v7n : Int) - 1)) ∧ (IntKind.i64.wrap ((v7n : Int) - 1)) < (v6n : Int) ∧
 nilP v6q fun a8 =>
 ∃ (v9 : Int), w3.cell? (((a8.add (Int.toNat (IntKind.i64.wrap ((v7n : Int) - 1)) * 4)).add 2).add 0) = some (.int .i64 v9) ∧
 ∃ (v10 : Int), w3.cell? (((a8.add (Int.toNat (IntKind.i64.wrap ((v7n : Int) - 1)) * 4)).add 2).add 1) = some (.int .i64 v10) ∧
 stV w3 ⟨b1, 0, none⟩ (.int .i64 v9) fun w11 =>
 stV w11 ⟨b1, 1, none⟩ (.int .i64 v10) fun w12 =>
 ∃ (v13 : Int), w12.cell? ⟨b1, 0, none⟩ = some (.int .i64 v13) ∧
 ∃ (v14 : Int), w12.cell? ⟨b1, 1, none⟩ = some (.int .i64 v14) ∧
 R (.returned (.agg #[.int .i64 v13, .int .i64 v14])) w12

noncomputable def g_parseState_pos.ac (R : Ending → World → Prop) : AC :=
  (.seq (.leaf (sel [0] g_parseState_pos.body)) (.seq (.draw (.pure 0 (.pure 1 (.pure 2 (.pure 4 (.pure 5 (.pure 6 (.load 3 (.load 7 (.pure 8 (.pure 9 (.pure 10 (.pure 11 .done)))))))))))) (sel [1, 0] g_parseState_pos.body)) (.leaf (sel [1, 1] g_parseState_pos.body))))
theorem g_parseState_pos.good (R : Ending → World → Prop) : Good P 19 (g_parseState_pos.ac R) (QF P [.cell 2 98] R) :=
  ⟨trivial, ⟨⟨by kernel_rfl, by kernel_rfl, fun _ _ _ h => h⟩, trivial⟩⟩
theorem g_parseState_pos.eq (R : Ending → World → Prop) (x0 : Option Addr) (w : World) : g_parseState_pos R x0 w = vcA P 19 (g_parseState_pos.ac R) (QF P [.cell 2 98] R) (fr0 [.pointer x0]) w := by kernel_rfl
theorem g_parseState_pos.sound {R : Ending → World → Prop} {x0 : Option Addr} {w : World} (h : g_parseState_pos R x0 w) : callE P i_parseState_pos #[.pointer x0] R w :=
  callE_fin (c := g_parseState_pos.body) Tryz.func238 Tryz.call238 (by kernel_rfl) (by kernel_rfl) (by kernel_rfl) (by kernel_rfl) (by kernel_rfl) (g_parseState_pos.good R) (g_parseState_pos.eq R x0 w) h
end Go.Proofs.YtmkfleohcnopkaaGreatDoor

set_option linter.unusedVariables false
set_option maxRecDepth 20000
namespace Go.Proofs.YtmkfleohcnopkaaGreatDoor
open Go.Proofs
/- 104 pub-paratext/pub/rscmarkdown.parseLinkLabel -/
noncomputable def g_parseLinkLabel.body : Code := bodyOf Tryz.f104
def g_parseLinkLabel.bl1 (R : Ending → World → Prop) (Xa : Option Addr → ByteArray → Int → Int → World → Prop) (x0 : Option Addr) (x1 : ByteArray) (x2 : Int) (x9 : Int) (w : World) : Prop :=
 br (decide (x9 < (x1.size : Int)))
 (0 ≤ x9 ∧ x9 < (x1.size : Int) ∧
 br ((bt x1 x9) == 93)
 (br (decide ((IntKind.i64.wrap (x9 - (IntKind.i64.wrap (x2 + 1)))) > 999))
 (nilP x0 fun a1 =>
 stV w ((a1.add 6).add 0) (.bool true) fun w2 =>
 R (.returned (.tuple #[.string (ByteArray.mk #[]), .int .i64 0, .bool false])) w2)
 (0 ≤ (IntKind.i64.wrap (x2 + 1)) ∧ (IntKind.i64.wrap (x2 + 1)) ≤ x9 ∧ x9 ≤ (x1.size : Int) ∧
 callE P i_trimSpaceTabNewline #[.string (x1.extract (Int.toNat (IntKind.i64.wrap (x2 + 1))) (Int.toNat x9))] (fun e w4 => ∃ (r3 : ByteArray), e = .returned (.string r3) ∧
 br (!(r3.toList == (ByteArray.mk #[]).toList))
 (R (.returned (.tuple #[.string r3, .int .i64 (IntKind.i64.wrap (x9 + 1)), .bool true])) w4)
 (R (.returned (.tuple #[.string (ByteArray.mk #[]), .int .i64 0, .bool false])) w4)) w))
 (0 ≤ x9 ∧ x9 < (x1.size : Int) ∧
 br ((bt x1 x9) == 91)
 (R (.returned (.tuple #[.string (ByteArray.mk #[]), .int .i64 0, .bool false])) w)
 (0 ≤ x9 ∧ x9 < (x1.size : Int) ∧
 br (((bt x1 x9) == 92) && (decide ((IntKind.i64.wrap (x9 + 1)) < (x1.size : Int))))
 (Xa x0 x1 x2 (IntKind.i64.wrap ((IntKind.i64.wrap (x9 + 1)) + 1)) w)
 (Xa x0 x1 x2 (IntKind.i64.wrap (x9 + 1)) w))))
 (R (.returned (.tuple #[.string (ByteArray.mk #[]), .int .i64 0, .bool false])) w)
def g_parseLinkLabel.l1 (R : Ending → World → Prop) (x0 : Option Addr) (x1 : ByteArray) (x2 : Int) (x9 : Int) (w : World) : Prop :=
  ∀ X : Option Addr → ByteArray → Int → Int → World → Prop, (∀ x0 x1 x2 x9 w, g_parseLinkLabel.bl1 R X x0 x1 x2 x9 w → X x0 x1 x2 x9 w) → X x0 x1 x2 x9 w

noncomputable def g_parseLinkLabel.al1 (R : Ending → World → Prop) (Xa : Option Addr → ByteArray → Int → Int → World → Prop) : AC :=
  (.leaf (sel [1, 1, 1, 0, 0, 0] g_parseLinkLabel.body))
def g_parseLinkLabel.k1 (R : Ending → World → Prop) (x0 : Option Addr) (x1 : ByteArray) (x2 : Int) (w : World) : Prop :=
 g_parseLinkLabel.l1 R x0 x1 x2 (IntKind.i64.wrap (x2 + 1)) w

def g_parseLinkLabel (R : Ending → World → Prop) (x0 : Option Addr) (x1 : ByteArray) (x2 : Int) (w : World) : Prop :=
 ((!(decide (x2 ≥ (x1.size : Int)))) = true → 0 ≤ x2 ∧ x2 < (x1.size : Int)) ∧
 br ((decide (x2 ≥ (x1.size : Int))) || ((bt x1 x2) != 91))
 (R (.returned (.tuple #[.string (ByteArray.mk #[]), .int .i64 0, .bool false])) w)
 (g_parseLinkLabel.k1 R x0 x1 x2 w)

noncomputable def g_parseLinkLabel.ac (R : Ending → World → Prop) : AC :=
  (.seq (.leaf (sel [0] g_parseLinkLabel.body)) (.seq (.leaf (sel [1, 0] g_parseLinkLabel.body)) (.mark (leaf [(0, .s .ptr), (1, .s .str), (2, .s (.int .i64))] (g_parseLinkLabel.k1 R)) (.seq (.leaf (sel [1, 1, 0] g_parseLinkLabel.body)) (.seq (.block 0 (.loop (leaf [(0, .s .ptr), (1, .s .str), (2, .s (.int .i64)), (9, .s (.int .i64))] (g_parseLinkLabel.l1 R)) (sel [1, 1, 1, 0, 0, 0] g_parseLinkLabel.body))) (.leaf (sel [1, 1, 1, 1] g_parseLinkLabel.body)))))))
theorem g_parseLinkLabel.good (R : Ending → World → Prop) : Good P 69 (g_parseLinkLabel.ac R) (QF P [.tmp 6, .tmp 7, .tmp 8] R) :=
  ⟨trivial, ⟨trivial, ⟨⟨trivial, ⟨(loopG (g_parseLinkLabel.al1 R) (g_parseLinkLabel.bl1 R) (fun _ => by kernel_rfl) (fun Xa => trivial) (fun Xa => by intro x0 x1 x2 x9 ρ w; kernel_rfl) (fun X h _ _ _ _ _ g => g X h)), trivial⟩⟩, cutE (by intro x0 x1 x2 ρ w; kernel_rfl)⟩⟩⟩
theorem g_parseLinkLabel.eq (R : Ending → World → Prop) (x0 : Option Addr) (x1 : ByteArray) (x2 : Int) (w : World) : g_parseLinkLabel R x0 x1 x2 w = vcA P 69 (g_parseLinkLabel.ac R) (QF P [.tmp 6, .tmp 7, .tmp 8] R) (fr0 [.pointer x0, .string x1, .int .i64 x2]) w := by kernel_rfl
theorem g_parseLinkLabel.sound {R : Ending → World → Prop} {x0 : Option Addr} {x1 : ByteArray} {x2 : Int} {w : World} (h : g_parseLinkLabel R x0 x1 x2 w) : callE P i_parseLinkLabel #[.pointer x0, .string x1, .int .i64 x2] R w :=
  callE_fin (c := g_parseLinkLabel.body) Tryz.func104 Tryz.call104 (by kernel_rfl) (by kernel_rfl) (by kernel_rfl) (by kernel_rfl) (by kernel_rfl) (g_parseLinkLabel.good R) (g_parseLinkLabel.eq R x0 x1 x2 w) h
end Go.Proofs.YtmkfleohcnopkaaGreatDoor

set_option linter.unusedVariables false
set_option maxRecDepth 20000
namespace Go.Proofs.YtmkfleohcnopkaaGreatDoor
open Go.Proofs
/- 269 pub-paratext/pub/rscmarkdown.parseLinkRefDef -/
noncomputable def g_parseLinkRefDef.body : Code := bodyOf Tryz.f269
def g_parseLinkRefDef.k2 (R : Ending → World → Prop) (x0 : Value) (x67 : Bool) (w : World) : Prop :=
 br x67
 (∃ (r11 : Option Addr), ∃ w12, (Instr.typeAssert x0 ty_buildState ty_P_parseState false).run P w = .ok (.pointer r11) w12 ∧
 nilP r11 fun a13 =>
 stV w12 ((a13.add 6).add 0) (.bool true) fun w14 =>
 R (.returned (.tuple #[.int .i64 0, .bool false])) w14)
 (R (.returned (.tuple #[.int .i64 0, .bool false])) w)

def g_parseLinkRefDef.k3 (R : Ending → World → Prop) (Xa : Value → ByteArray → Int → ByteArray → ByteArray → Bool → World → Prop) (x0 : Value) (x1 : ByteArray) (x6 : Int) (x7 : ByteArray) (x10 : ByteArray) (w : World) : Prop :=
 Xa x0 x1 (IntKind.i64.wrap (x6 + 1)) x7 x10 true w

def g_parseLinkRefDef.k10 (R : Ending → World → Prop) (x0 : Value) (x6 : Int) (x7 : ByteArray) (x10 : ByteArray) (x13 : ByteArray) (x14 : Int) (x15 : Bool) (w : World) : Prop :=
 callE P i_normalizeLabel #[.string x7] (fun e w18 => ∃ (r17 : ByteArray), e = .returned (.string r17) ∧
 enterE P (callMethod x0 "pub-paratext/pub/rscmarkdown.link" #[.string r17]) (fun e w20 => ∃ (r19 : Option Addr), e = .returned (.pointer r19) ∧
 ∃ (r21 : Bool), ∃ w22, (do eqGuard .eql ty_P_Link (.tmp 188) (.const (.pointer none)) (.pointer r19) (.pointer none); binOp .eql ty_P_Link (.pointer r19) (.pointer none)).run P w20 = .ok (.bool r21) w22 ∧
 br r21
 (box w22 #[.slice none 0 0, .string x10, .string x13, .int .u8 x14, .bool x15] ty_Link fun b23 w24 =>
 enterE P (callMethod x0 "pub-paratext/pub/rscmarkdown.defineLink" #[.string r17, .pointer (some ⟨b23, 0, none⟩)]) (fun e w26 => e = .returned (.tuple #[]) ∧
 R (.returned (.tuple #[.int .i64 x6, .bool true])) w26) w24)
 (R (.returned (.tuple #[.int .i64 x6, .bool true])) w22)) w18) w

def g_parseLinkRefDef.k9 (R : Ending → World → Prop) (x0 : Value) (x1 : ByteArray) (x6 : Int) (x7 : ByteArray) (x10 : ByteArray) (x13 : ByteArray) (x14 : Int) (x15 : Bool) (w : World) : Prop :=
 br (decide (x6 < (x1.size : Int)))
 (g_parseLinkRefDef.k10 R x0 (IntKind.i64.wrap (x6 + 1)) x7 x10 x13 x14 x15 w)
 (g_parseLinkRefDef.k10 R x0 x6 x7 x10 x13 x14 x15 w)

def g_parseLinkRefDef.k7 (R : Ending → World → Prop) (x0 : Value) (x1 : ByteArray) (x6 : Int) (x7 : ByteArray) (x10 : ByteArray) (x13 : ByteArray) (x14 : Int) (x15 : Bool) (w : World) : Prop :=
 ((decide (x6 < (x1.size : Int))) = true → 0 ≤ x6 ∧ x6 < (x1.size : Int)) ∧
 br ((decide (x6 < (x1.size : Int))) && ((bt x1 x6) != 10))
 (R (.returned (.tuple #[.int .i64 0, .bool false])) w)
 (g_parseLinkRefDef.k9 R x0 x1 x6 x7 x10 x13 x14 x15 w)

def g_parseLinkRefDef.k13 (R : Ending → World → Prop) (x0 : Value) (x1 : ByteArray) (x6 : Int) (x7 : ByteArray) (x10 : ByteArray) (x15 : Bool) (x16 : ByteArray) (x17 : Int) (w : World) : Prop :=
 g_parseLinkRefDef.k7 R x0 x1 x6 x7 x10 x16 x17 x15 w

def g_parseLinkRefDef.k12 (R : Ending → World → Prop) (x0 : Value) (x1 : ByteArray) (x6 : Int) (x7 : ByteArray) (x10 : ByteArray) (x13 : ByteArray) (x14 : Int) (x15 : Bool) (x16 : ByteArray) (x17 : Int) (x18 : Int) (x162 : Bool) (w : World) : Prop :=
 br x162
 (br (x16.toList == (ByteArray.mk #[]).toList)
 (g_parseLinkRefDef.k13 R x0 x1 x18 x7 x10 true x16 x17 w)
 (g_parseLinkRefDef.k13 R x0 x1 x18 x7 x10 x15 x16 x17 w))
 (g_parseLinkRefDef.k7 R x0 x1 x6 x7 x10 x13 x14 x15 w)

def g_parseLinkRefDef.k11 (R : Ending → World → Prop) (x0 : Value) (x1 : ByteArray) (x6 : Int) (x7 : ByteArray) (x10 : ByteArray) (x13 : ByteArray) (x14 : Int) (x15 : Bool) (x16 : ByteArray) (x17 : Int) (x18 : Int) (w : World) : Prop :=
 ((!(decide (x18 ≥ (x1.size : Int)))) = true → 0 ≤ x18 ∧ x18 < (x1.size : Int)) ∧
 g_parseLinkRefDef.k12 R x0 x1 x6 x7 x10 x13 x14 x15 x16 x17 x18 ((decide (x18 ≥ (x1.size : Int))) || ((bt x1 x18) == 10)) w

def g_parseLinkRefDef.bl3 (R : Ending → World → Prop) (Xb : Value → ByteArray → Int → ByteArray → ByteArray → ByteArray → Int → Bool → ByteArray → Int → Int → World → Prop) (x0 : Value) (x1 : ByteArray) (x6 : Int) (x7 : ByteArray) (x10 : ByteArray) (x13 : ByteArray) (x14 : Int) (x15 : Bool) (x16 : ByteArray) (x17 : Int) (x18 : Int) (w : World) : Prop :=
 ((decide (x18 < (x1.size : Int))) = true → 0 ≤ x18 ∧ x18 < (x1.size : Int)) ∧
 (((decide (x18 < (x1.size : Int))) && (!((bt x1 x18) == 32))) = true → 0 ≤ x18 ∧ x18 < (x1.size : Int)) ∧
 br ((decide (x18 < (x1.size : Int))) && (((bt x1 x18) == 32) || ((bt x1 x18) == 9)))
 (Xb x0 x1 x6 x7 x10 x13 x14 x15 x16 x17 (IntKind.i64.wrap (x18 + 1)) w)
 (g_parseLinkRefDef.k11 R x0 x1 x6 x7 x10 x13 x14 x15 x16 x17 x18 w)
def g_parseLinkRefDef.l3 (R : Ending → World → Prop) (x0 : Value) (x1 : ByteArray) (x6 : Int) (x7 : ByteArray) (x10 : ByteArray) (x13 : ByteArray) (x14 : Int) (x15 : Bool) (x16 : ByteArray) (x17 : Int) (x18 : Int) (w : World) : Prop :=
  ∀ X : Value → ByteArray → Int → ByteArray → ByteArray → ByteArray → Int → Bool → ByteArray → Int → Int → World → Prop, (∀ x0 x1 x6 x7 x10 x13 x14 x15 x16 x17 x18 w, g_parseLinkRefDef.bl3 R X x0 x1 x6 x7 x10 x13 x14 x15 x16 x17 x18 w → X x0 x1 x6 x7 x10 x13 x14 x15 x16 x17 x18 w) → X x0 x1 x6 x7 x10 x13 x14 x15 x16 x17 x18 w

noncomputable def g_parseLinkRefDef.al3 (R : Ending → World → Prop) (Xb : Value → ByteArray → Int → ByteArray → ByteArray → ByteArray → Int → Bool → ByteArray → Int → Int → World → Prop) : AC :=
  (.leaf (sel [1, 1, 1, 1, 1, 1, 1, 1, 1, 1, 1, 1, 1, 1, 1, 0, 1, 0, 1, 1, 1, 0, 0, 0, 0] g_parseLinkRefDef.body))
def g_parseLinkRefDef.k8 (R : Ending → World → Prop) (x0 : Value) (x1 : ByteArray) (x6 : Int) (x7 : ByteArray) (x10 : ByteArray) (x12 : Int) (x13 : ByteArray) (x14 : Int) (x15 : Bool) (w : World) : Prop :=
 callE P i_parseLinkTitle #[.string x1, .int .i64 x12] (fun e w16 => ∃ (r15_0 : ByteArray), ∃ (r15_1 : Int), ∃ (r15_2 : Int), ∃ (r15_3 : Bool), e = .returned (.tuple #[.string r15_0, .int .u8 r15_1, .int .i64 r15_2, .bool r15_3]) ∧
 br r15_3
 (g_parseLinkRefDef.l3 R x0 x1 x6 x7 x10 x13 x14 x15 r15_0 r15_1 r15_2 w16)
 (g_parseLinkRefDef.k7 R x0 x1 x6 x7 x10 x13 x14 x15 w16)) w

def g_parseLinkRefDef.bl2 (R : Ending → World → Prop) (Xc : Value → ByteArray → Int → ByteArray → ByteArray → Int → ByteArray → Int → Bool → World → Prop) (x0 : Value) (x1 : ByteArray) (x6 : Int) (x7 : ByteArray) (x10 : ByteArray) (x12 : Int) (x13 : ByteArray) (x14 : Int) (x15 : Bool) (w : World) : Prop :=
 ((decide (x12 < (x1.size : Int))) = true → 0 ≤ x12 ∧ x12 < (x1.size : Int)) ∧
 (((decide (x12 < (x1.size : Int))) && (!((bt x1 x12) == 32))) = true → 0 ≤ x12 ∧ x12 < (x1.size : Int)) ∧
 br ((decide (x12 < (x1.size : Int))) && (((bt x1 x12) == 32) || ((bt x1 x12) == 9)))
 (Xc x0 x1 x6 x7 x10 (IntKind.i64.wrap (x12 + 1)) x13 x14 x15 w)
 (g_parseLinkRefDef.k8 R x0 x1 x6 x7 x10 x12 x13 x14 x15 w)
def g_parseLinkRefDef.l2 (R : Ending → World → Prop) (x0 : Value) (x1 : ByteArray) (x6 : Int) (x7 : ByteArray) (x10 : ByteArray) (x12 : Int) (x13 : ByteArray) (x14 : Int) (x15 : Bool) (w : World) : Prop :=
  ∀ X : Value → ByteArray → Int → ByteArray → ByteArray → Int → ByteArray → Int → Bool → World → Prop, (∀ x0 x1 x6 x7 x10 x12 x13 x14 x15 w, g_parseLinkRefDef.bl2 R X x0 x1 x6 x7 x10 x12 x13 x14 x15 w → X x0 x1 x6 x7 x10 x12 x13 x14 x15 w) → X x0 x1 x6 x7 x10 x12 x13 x14 x15 w

noncomputable def g_parseLinkRefDef.al2 (R : Ending → World → Prop) (Xc : Value → ByteArray → Int → ByteArray → ByteArray → Int → ByteArray → Int → Bool → World → Prop) : AC :=
  (.leaf (sel [1, 1, 1, 1, 1, 1, 1, 1, 1, 1, 1, 1, 1, 1, 1, 0, 1, 0, 0, 0, 0] g_parseLinkRefDef.body))
def g_parseLinkRefDef.k6 (R : Ending → World → Prop) (x0 : Value) (x1 : ByteArray) (x6 : Int) (x7 : ByteArray) (x10 : ByteArray) (x11 : Bool) (x12 : Int) (w : World) : Prop :=
 br x11
 (g_parseLinkRefDef.l2 R x0 x1 x6 x7 x10 x12 (ByteArray.mk #[]) 0 false w)
 (g_parseLinkRefDef.k7 R x0 x1 x6 x7 x10 (ByteArray.mk #[]) 0 false w)

def g_parseLinkRefDef.k5 (R : Ending → World → Prop) (x0 : Value) (x1 : ByteArray) (x6 : Int) (x7 : ByteArray) (x10 : ByteArray) (x11 : Bool) (x12 : Int) (x100 : Bool) (w : World) : Prop :=
 br x100
 (br (decide (x12 < (x1.size : Int)))
 (g_parseLinkRefDef.k6 R x0 x1 x6 x7 x10 true (IntKind.i64.wrap (x12 + 1)) w)
 (g_parseLinkRefDef.k6 R x0 x1 x6 x7 x10 true x12 w))
 (g_parseLinkRefDef.k6 R x0 x1 x6 x7 x10 x11 x12 w)

def g_parseLinkRefDef.k4 (R : Ending → World → Prop) (x0 : Value) (x1 : ByteArray) (x6 : Int) (x7 : ByteArray) (x10 : ByteArray) (x11 : Bool) (w : World) : Prop :=
 ((!(decide (x6 ≥ (x1.size : Int)))) = true → 0 ≤ x6 ∧ x6 < (x1.size : Int)) ∧
 g_parseLinkRefDef.k5 R x0 x1 x6 x7 x10 x11 x6 ((decide (x6 ≥ (x1.size : Int))) || ((bt x1 x6) == 10)) w

def g_parseLinkRefDef.bl1 (R : Ending → World → Prop) (Xa : Value → ByteArray → Int → ByteArray → ByteArray → Bool → World → Prop) (x0 : Value) (x1 : ByteArray) (x6 : Int) (x7 : ByteArray) (x10 : ByteArray) (x11 : Bool) (w : World) : Prop :=
 ((decide (x6 < (x1.size : Int))) = true → 0 ≤ x6 ∧ x6 < (x1.size : Int)) ∧
 (((decide (x6 < (x1.size : Int))) && (!((bt x1 x6) == 32))) = true → 0 ≤ x6 ∧ x6 < (x1.size : Int)) ∧
 br ((decide (x6 < (x1.size : Int))) && (((bt x1 x6) == 32) || ((bt x1 x6) == 9)))
 (g_parseLinkRefDef.k3 R Xa x0 x1 x6 x7 x10 w)
 (g_parseLinkRefDef.k4 R x0 x1 x6 x7 x10 x11 w)
def g_parseLinkRefDef.l1 (R : Ending → World → Prop) (x0 : Value) (x1 : ByteArray) (x6 : Int) (x7 : ByteArray) (x10 : ByteArray) (x11 : Bool) (w : World) : Prop :=
  ∀ X : Value → ByteArray → Int → ByteArray → ByteArray → Bool → World → Prop, (∀ x0 x1 x6 x7 x10 x11 w, g_parseLinkRefDef.bl1 R X x0 x1 x6 x7 x10 x11 w → X x0 x1 x6 x7 x10 x11 w) → X x0 x1 x6 x7 x10 x11 w

noncomputable def g_parseLinkRefDef.al1 (R : Ending → World → Prop) (Xa : Value → ByteArray → Int → ByteArray → ByteArray → Bool → World → Prop) : AC :=
  (.seq (.leaf (sel [1, 1, 1, 1, 1, 1, 1, 1, 1, 0, 0, 0, 0] g_parseLinkRefDef.body)) (.mark (leaf [(0, .s .any), (1, .s .str), (6, .s (.int .i64)), (7, .s .str), (10, .s .str)] (g_parseLinkRefDef.k3 R Xa)) (.leaf (sel [1, 1, 1, 1, 1, 1, 1, 1, 1, 0, 0, 0, 1] g_parseLinkRefDef.body))))
def g_parseLinkRefDef.k1 (R : Ending → World → Prop) (x0 : Value) (x1 : ByteArray) (x6 : Int) (x7 : ByteArray) (w : World) : Prop :=
 callE P i_skipSpace #[.string x1, .int .i64 (IntKind.i64.wrap (x6 + 1))] (fun e w8 => ∃ (r7 : Int), e = .returned (.int .i64 r7) ∧
 0 ≤ r7 ∧ r7 ≤ (x1.size : Int) ∧
 callE P i_parseLinkDest #[.string x1, .int .i64 r7] (fun e w10 => ∃ (r9_0 : ByteArray), ∃ (r9_1 : Int), ∃ (r9_2 : Bool), e = .returned (.tuple #[.string r9_0, .int .i64 r9_1, .bool r9_2]) ∧
 br (!r9_2)
 (((!((x1.extract (Int.toNat r7) x1.size).toList == (ByteArray.mk #[]).toList)) = true → 0 ≤ (0 : Int) ∧ 0 < ((x1.extract (Int.toNat r7) x1.size).size : Int)) ∧
 g_parseLinkRefDef.k2 R x0 ((!((x1.extract (Int.toNat r7) x1.size).toList == (ByteArray.mk #[]).toList)) && ((bt (x1.extract (Int.toNat r7) x1.size) 0) == 60)) w10)
 (g_parseLinkRefDef.l1 R x0 x1 r9_1 x7 r9_0 false w10)) w8) w

def g_parseLinkRefDef (R : Ending → World → Prop) (x0 : Value) (x1 : ByteArray) (w : World) : Prop :=
 callE P i_skipSpace #[.string x1, .int .i64 0] (fun e w2 => ∃ (r1 : Int), e = .returned (.int .i64 r1) ∧
 ∃ (r3 : Option Addr), ∃ w4, (Instr.typeAssert x0 ty_buildState ty_P_parseState false).run P w2 = .ok (.pointer r3) w4 ∧
 callE P i_parseLinkLabel #[.pointer r3, .string x1, .int .i64 r1] (fun e w6 => ∃ (r5_0 : ByteArray), ∃ (r5_1 : Int), ∃ (r5_2 : Bool), e = .returned (.tuple #[.string r5_0, .int .i64 r5_1, .bool r5_2]) ∧
 ((!((!r5_2) || (decide (r5_1 ≥ (x1.size : Int))))) = true → 0 ≤ r5_1 ∧ r5_1 < (x1.size : Int)) ∧
 br (((!r5_2) || (decide (r5_1 ≥ (x1.size : Int)))) || ((bt x1 r5_1) != 58))
 (R (.returned (.tuple #[.int .i64 0, .bool false])) w6)
 (g_parseLinkRefDef.k1 R x0 x1 r5_1 r5_0 w6)) w4) w

noncomputable def g_parseLinkRefDef.ac (R : Ending → World → Prop) : AC :=
  (.seq (.leaf (sel [0] g_parseLinkRefDef.body)) (.seq (.leaf (sel [1, 0] g_parseLinkRefDef.body)) (.seq (.leaf (sel [1, 1, 0] g_parseLinkRefDef.body)) (.seq (.leaf (sel [1, 1, 1, 0] g_parseLinkRefDef.body)) (.mark (leaf [(0, .s .any), (1, .s .str), (6, .s (.int .i64)), (7, .s .str)] (g_parseLinkRefDef.k1 R)) (.seq (.leaf (sel [1, 1, 1, 1, 0] g_parseLinkRefDef.body)) (.seq (.leaf (sel [1, 1, 1, 1, 1, 0] g_parseLinkRefDef.body)) (.seq (.leaf (sel [1, 1, 1, 1, 1, 1, 0] g_parseLinkRefDef.body)) (.seq (.seq (.leaf (sel [1, 1, 1, 1, 1, 1, 1, 0, 0] g_parseLinkRefDef.body)) (.cond 60 (.seq (.seq (.leaf (sel [1, 1, 1, 1, 1, 1, 1, 0, 1, 0, 0, 0] g_parseLinkRefDef.body)) (.mark (leaf [(0, .s .any), (67, .s .bool)] (g_parseLinkRefDef.k2 R)) (.leaf (sel [1, 1, 1, 1, 1, 1, 1, 0, 1, 0, 0, 1] g_parseLinkRefDef.body)))) (.leaf (sel [1, 1, 1, 1, 1, 1, 1, 0, 1, 0, 1] g_parseLinkRefDef.body))) (.leaf (sel [1, 1, 1, 1, 1, 1, 1, 0, 1, 1] g_parseLinkRefDef.body)))) (.seq (.leaf (sel [1, 1, 1, 1, 1, 1, 1, 1, 0] g_parseLinkRefDef.body)) (.seq (.block 0 (.loop (leaf [(0, .s .any), (1, .s .str), (6, .s (.int .i64)), (7, .s .str), (10, .s .str), (11, .s .bool)] (g_parseLinkRefDef.l1 R)) (sel [1, 1, 1, 1, 1, 1, 1, 1, 1, 0, 0, 0] g_parseLinkRefDef.body))) (.mark (leaf [(0, .s .any), (1, .s .str), (6, .s (.int .i64)), (7, .s .str), (10, .s .str), (11, .s .bool)] (g_parseLinkRefDef.k4 R)) (.seq (.leaf (sel [1, 1, 1, 1, 1, 1, 1, 1, 1, 1, 0] g_parseLinkRefDef.body)) (.seq (.seq (.leaf (sel [1, 1, 1, 1, 1, 1, 1, 1, 1, 1, 1, 0, 0] g_parseLinkRefDef.body)) (.mark (leaf [(0, .s .any), (1, .s .str), (6, .s (.int .i64)), (7, .s .str), (10, .s .str), (11, .s .bool), (12, .s (.int .i64)), (100, .s .bool)] (g_parseLinkRefDef.k5 R)) (.leaf (sel [1, 1, 1, 1, 1, 1, 1, 1, 1, 1, 1, 0, 1] g_parseLinkRefDef.body)))) (.mark (leaf [(0, .s .any), (1, .s .str), (6, .s (.int .i64)), (7, .s .str), (10, .s .str), (11, .s .bool), (12, .s (.int .i64))] (g_parseLinkRefDef.k6 R)) (.seq (.leaf (sel [1, 1, 1, 1, 1, 1, 1, 1, 1, 1, 1, 1, 0] g_parseLinkRefDef.body)) (.seq (.leaf (sel [1, 1, 1, 1, 1, 1, 1, 1, 1, 1, 1, 1, 1, 0] g_parseLinkRefDef.body)) (.seq (.leaf (sel [1, 1, 1, 1, 1, 1, 1, 1, 1, 1, 1, 1, 1, 1, 0] g_parseLinkRefDef.body)) (.seq (.seq (.leaf (sel [1, 1, 1, 1, 1, 1, 1, 1, 1, 1, 1, 1, 1, 1, 1, 0, 0] g_parseLinkRefDef.body)) (.cond 107 (.seq (.block 2 (.loop (leaf [(0, .s .any), (1, .s .str), (6, .s (.int .i64)), (7, .s .str), (10, .s .str), (12, .s (.int .i64)), (13, .s .str), (14, .s (.int .u8)), (15, .s .bool)] (g_parseLinkRefDef.l2 R)) (sel [1, 1, 1, 1, 1, 1, 1, 1, 1, 1, 1, 1, 1, 1, 1, 0, 1, 0, 0, 0, 0] g_parseLinkRefDef.body))) (.mark (leaf [(0, .s .any), (1, .s .str), (6, .s (.int .i64)), (7, .s .str), (10, .s .str), (12, .s (.int .i64)), (13, .s .str), (14, .s (.int .u8)), (15, .s .bool)] (g_parseLinkRefDef.k8 R)) (.seq (.leaf (sel [1, 1, 1, 1, 1, 1, 1, 1, 1, 1, 1, 1, 1, 1, 1, 0, 1, 0, 1, 0] g_parseLinkRefDef.body)) (.seq (.leaf (sel [1, 1, 1, 1, 1, 1, 1, 1, 1, 1, 1, 1, 1, 1, 1, 0, 1, 0, 1, 1, 0] g_parseLinkRefDef.body)) (.cond 134 (.seq (.block 4 (.loop (leaf [(0, .s .any), (1, .s .str), (6, .s (.int .i64)), (7, .s .str), (10, .s .str), (13, .s .str), (14, .s (.int .u8)), (15, .s .bool), (16, .s .str), (17, .s (.int .u8)), (18, .s (.int .i64))] (g_parseLinkRefDef.l3 R)) (sel [1, 1, 1, 1, 1, 1, 1, 1, 1, 1, 1, 1, 1, 1, 1, 0, 1, 0, 1, 1, 1, 0, 0, 0, 0] g_parseLinkRefDef.body))) (.mark (leaf [(0, .s .any), (1, .s .str), (6, .s (.int .i64)), (7, .s .str), (10, .s .str), (13, .s .str), (14, .s (.int .u8)), (15, .s .bool), (16, .s .str), (17, .s (.int .u8)), (18, .s (.int .i64))] (g_parseLinkRefDef.k11 R)) (.seq (.leaf (sel [1, 1, 1, 1, 1, 1, 1, 1, 1, 1, 1, 1, 1, 1, 1, 0, 1, 0, 1, 1, 1, 0, 1, 0] g_parseLinkRefDef.body)) (.mark (leaf [(0, .s .any), (1, .s .str), (6, .s (.int .i64)), (7, .s .str), (10, .s .str), (13, .s .str), (14, .s (.int .u8)), (15, .s .bool), (16, .s .str), (17, .s (.int .u8)), (18, .s (.int .i64)), (162, .s .bool)] (g_parseLinkRefDef.k12 R)) (.cond 162 (.seq (.leaf (sel [1, 1, 1, 1, 1, 1, 1, 1, 1, 1, 1, 1, 1, 1, 1, 0, 1, 0, 1, 1, 1, 0, 1, 1, 0, 0] g_parseLinkRefDef.body)) (.seq (.leaf (sel [1, 1, 1, 1, 1, 1, 1, 1, 1, 1, 1, 1, 1, 1, 1, 0, 1, 0, 1, 1, 1, 0, 1, 1, 0, 1, 0] g_parseLinkRefDef.body)) (.mark (leaf [(0, .s .any), (1, .s .str), (6, .s (.int .i64)), (7, .s .str), (10, .s .str), (15, .s .bool), (16, .s .str), (17, .s (.int .u8))] (g_parseLinkRefDef.k13 R)) (.leaf (sel [1, 1, 1, 1, 1, 1, 1, 1, 1, 1, 1, 1, 1, 1, 1, 0, 1, 0, 1, 1, 1, 0, 1, 1, 0, 1, 1] g_parseLinkRefDef.body))))) (.leaf (sel [1, 1, 1, 1, 1, 1, 1, 1, 1, 1, 1, 1, 1, 1, 1, 0, 1, 0, 1, 1, 1, 0, 1, 1, 1] g_parseLinkRefDef.body))))))) (.leaf (sel [1, 1, 1, 1, 1, 1, 1, 1, 1, 1, 1, 1, 1, 1, 1, 0, 1, 0, 1, 1, 1, 1] g_parseLinkRefDef.body))))))) (.leaf (sel [1, 1, 1, 1, 1, 1, 1, 1, 1, 1, 1, 1, 1, 1, 1, 0, 1, 1] g_parseLinkRefDef.body)))) (.mark (leaf [(0, .s .any), (1, .s .str), (6, .s (.int .i64)), (7, .s .str), (10, .s .str), (13, .s .str), (14, .s (.int .u8)), (15, .s .bool)] (g_parseLinkRefDef.k7 R)) (.seq (.leaf (sel [1, 1, 1, 1, 1, 1, 1, 1, 1, 1, 1, 1, 1, 1, 1, 1, 0] g_parseLinkRefDef.body)) (.mark (leaf [(0, .s .any), (1, .s .str), (6, .s (.int .i64)), (7, .s .str), (10, .s .str), (13, .s .str), (14, .s (.int .u8)), (15, .s .bool)] (g_parseLinkRefDef.k9 R)) (.seq (.leaf (sel [1, 1, 1, 1, 1, 1, 1, 1, 1, 1, 1, 1, 1, 1, 1, 1, 1, 0] g_parseLinkRefDef.body)) (.mark (leaf [(0, .s .any), (6, .s (.int .i64)), (7, .s .str), (10, .s .str), (13, .s .str), (14, .s (.int .u8)), (15, .s .bool)] (g_parseLinkRefDef.k10 R)) (.leaf (sel [1, 1, 1, 1, 1, 1, 1, 1, 1, 1, 1, 1, 1, 1, 1, 1, 1, 1] g_parseLinkRefDef.body))))))))))))))))))))))))))
theorem g_parseLinkRefDef.good (R : Ending → World → Prop) : Good P 200 (g_parseLinkRefDef.ac R) (QF P [.tmp 4, .tmp 5] R) :=
  ⟨trivial, ⟨trivial, ⟨trivial, ⟨trivial, ⟨⟨trivial, ⟨trivial, ⟨trivial, ⟨⟨trivial, ⟨⟨⟨trivial, ⟨trivial, cutE (by intro x0 x67 ρ w; kernel_rfl)⟩⟩, trivial⟩, trivial⟩⟩, ⟨trivial, ⟨(loopG (g_parseLinkRefDef.al1 R) (g_parseLinkRefDef.bl1 R) (fun _ => by kernel_rfl) (fun Xa => ⟨trivial, ⟨trivial, cutE (by intro x0 x1 x6 x7 x10 ρ w; kernel_rfl)⟩⟩) (fun Xa => by intro x0 x1 x6 x7 x10 x11 ρ w; kernel_rfl) (fun X h _ _ _ _ _ _ _ g => g X h)), ⟨⟨trivial, ⟨⟨trivial, ⟨trivial, cutE (by intro x0 x1 x6 x7 x10 x11 x12 x100 ρ w; kernel_rfl)⟩⟩, ⟨⟨trivial, ⟨trivial, ⟨trivial, ⟨⟨trivial, ⟨⟨(loopG (g_parseLinkRefDef.al2 R) (g_parseLinkRefDef.bl2 R) (fun _ => by kernel_rfl) (fun Xc => trivial) (fun Xc => by intro x0 x1 x6 x7 x10 x12 x13 x14 x15 ρ w; kernel_rfl) (fun X h _ _ _ _ _ _ _ _ _ _ g => g X h)), ⟨⟨trivial, ⟨trivial, ⟨⟨(loopG (g_parseLinkRefDef.al3 R) (g_parseLinkRefDef.bl3 R) (fun _ => by kernel_rfl) (fun Xb => trivial) (fun Xb => by intro x0 x1 x6 x7 x10 x13 x14 x15 x16 x17 x18 ρ w; kernel_rfl) (fun X h _ _ _ _ _ _ _ _ _ _ _ _ g => g X h)), ⟨⟨trivial, ⟨⟨⟨trivial, ⟨trivial, ⟨trivial, cutE (by intro x0 x1 x6 x7 x10 x15 x16 x17 ρ w; kernel_rfl)⟩⟩⟩, trivial⟩, cutE (by intro x0 x1 x6 x7 x10 x13 x14 x15 x16 x17 x18 x162 ρ w; kernel_rfl)⟩⟩, cutE (by intro x0 x1 x6 x7 x10 x13 x14 x15 x16 x17 x18 ρ w; kernel_rfl)⟩⟩, trivial⟩⟩⟩, cutE (by intro x0 x1 x6 x7 x10 x12 x13 x14 x15 ρ w; kernel_rfl)⟩⟩, trivial⟩⟩, ⟨⟨trivial, ⟨⟨trivial, ⟨trivial, cutE (by intro x0 x6 x7 x10 x13 x14 x15 ρ w; kernel_rfl)⟩⟩, cutE (by intro x0 x1 x6 x7 x10 x13 x14 x15 ρ w; kernel_rfl)⟩⟩, cutE (by intro x0 x1 x6 x7 x10 x13 x14 x15 ρ w; kernel_rfl)⟩⟩⟩⟩⟩, cutE (by intro x0 x1 x6 x7 x10 x11 x12 ρ w; kernel_rfl)⟩⟩⟩, cutE (by intro x0 x1 x6 x7 x10 x11 ρ w; kernel_rfl)⟩⟩⟩⟩⟩⟩⟩, cutE (by intro x0 x1 x6 x7 ρ w; kernel_rfl)⟩⟩⟩⟩⟩
theorem g_parseLinkRefDef.eq (R : Ending → World → Prop) (x0 : Value) (x1 : ByteArray) (w : World) : g_parseLinkRefDef R x0 x1 w = vcA P 200 (g_parseLinkRefDef.ac R) (QF P [.tmp 4, .tmp 5] R) (fr0 [x0, .string x1]) w := by kernel_rfl
theorem g_parseLinkRefDef.sound {R : Ending → World → Prop} {x0 : Value} {x1 : ByteArray} {w : World} (h : g_parseLinkRefDef R x0 x1 w) : callE P i_parseLinkRefDef #[x0, .string x1] R w :=
  callE_fin (c := g_parseLinkRefDef.body) Tryz.func269 Tryz.call269 (by kernel_rfl) (by kernel_rfl) (by kernel_rfl) (by kernel_rfl) (by kernel_rfl) (g_parseLinkRefDef.good R) (g_parseLinkRefDef.eq R x0 x1 w) h
end Go.Proofs.YtmkfleohcnopkaaGreatDoor

set_option linter.unusedVariables false
set_option maxRecDepth 20000
namespace Go.Proofs.YtmkfleohcnopkaaGreatDoor
open Go.Proofs
/- 101 pub-paratext/pub/rscmarkdown.skipSpace -/
noncomputable def g_skipSpace.body : Code := bodyOf Tryz.f101
def g_skipSpace.bl1 (R : Ending → World → Prop) (Xa : ByteArray → Int → World → Prop) (x0 : ByteArray) (x1 : Int) (w : World) : Prop :=
 ((decide (x1 < (x0.size : Int))) = true → 0 ≤ x1 ∧ x1 < (x0.size : Int)) ∧
 (((decide (x1 < (x0.size : Int))) && (!((bt x0 x1) == 32))) = true → 0 ≤ x1 ∧ x1 < (x0.size : Int)) ∧
 (((decide (x1 < (x0.size : Int))) && (!(((bt x0 x1) == 32) || ((bt x0 x1) == 9)))) = true → 0 ≤ x1 ∧ x1 < (x0.size : Int)) ∧
 br ((decide (x1 < (x0.size : Int))) && ((((bt x0 x1) == 32) || ((bt x0 x1) == 9)) || ((bt x0 x1) == 10)))
 (Xa x0 (IntKind.i64.wrap (x1 + 1)) w)
 (R (.returned (.int .i64 x1)) w)
def g_skipSpace.l1 (R : Ending → World → Prop) (x0 : ByteArray) (x1 : Int) (w : World) : Prop :=
  ∀ X : ByteArray → Int → World → Prop, (∀ x0 x1 w, g_skipSpace.bl1 R X x0 x1 w → X x0 x1 w) → X x0 x1 w

noncomputable def g_skipSpace.al1 (R : Ending → World → Prop) (Xa : ByteArray → Int → World → Prop) : AC :=
  (.leaf (sel [1, 0, 0, 0] g_skipSpace.body))
def g_skipSpace (R : Ending → World → Prop) (x0 : ByteArray) (x1 : Int) (w : World) : Prop :=
 g_skipSpace.l1 R x0 x1 w

noncomputable def g_skipSpace.ac (R : Ending → World → Prop) : AC :=
  (.seq (.leaf (sel [0] g_skipSpace.body)) (.seq (.block 0 (.loop (leaf [(0, .s .str), (1, .s (.int .i64))] (g_skipSpace.l1 R)) (sel [1, 0, 0, 0] g_skipSpace.body))) (.leaf (sel [1, 1] g_skipSpace.body))))
theorem g_skipSpace.good (R : Ending → World → Prop) : Good P 30 (g_skipSpace.ac R) (QF P [.tmp 4] R) :=
  ⟨trivial, ⟨(loopG (g_skipSpace.al1 R) (g_skipSpace.bl1 R) (fun _ => by kernel_rfl) (fun Xa => trivial) (fun Xa => by intro x0 x1 ρ w; kernel_rfl) (fun X h _ _ _ g => g X h)), trivial⟩⟩
theorem g_skipSpace.eq (R : Ending → World → Prop) (x0 : ByteArray) (x1 : Int) (w : World) : g_skipSpace R x0 x1 w = vcA P 30 (g_skipSpace.ac R) (QF P [.tmp 4] R) (fr0 [.string x0, .int .i64 x1]) w := by kernel_rfl
theorem g_skipSpace.sound {R : Ending → World → Prop} {x0 : ByteArray} {x1 : Int} {w : World} (h : g_skipSpace R x0 x1 w) : callE P i_skipSpace #[.string x0, .int .i64 x1] R w :=
  callE_fin (c := g_skipSpace.body) Tryz.func101 Tryz.call101 (by kernel_rfl) (by kernel_rfl) (by kernel_rfl) (by kernel_rfl) (by kernel_rfl) (g_skipSpace.good R) (g_skipSpace.eq R x0 x1 w) h
end Go.Proofs.YtmkfleohcnopkaaGreatDoor

set_option linter.unusedVariables false
set_option maxRecDepth 20000
namespace Go.Proofs.YtmkfleohcnopkaaGreatDoor
open Go.Proofs
/- 155 strings.Join -/
noncomputable def g_strings_Join.body : Code := bodyOf Tryz.f155
def g_strings_Join.k3 (R : Ending → World → Prop) (Xa : Option Addr → Nat → Nat → ByteArray → Int → Option Addr → Nat → Nat → Int → Int → World → Prop) (x0q : Option Addr) (x0n : Nat) (x0c : Nat) (x1 : ByteArray) (x5 : Int) (x7 : ByteArray) (x39q : Option Addr) (x39n : Nat) (x39c : Nat) (x40 : Int) (x41 : Int) (w : World) : Prop :=
 Xa x0q x0n x0c x1 (IntKind.i64.wrap (x5 + (x7.size : Int))) x39q x39n x39c x40 (IntKind.i64.wrap (x41 + 1)) w

def g_strings_Join.bl2 (R : Ending → World → Prop) (Xb : ByteArray → Nat → Option Addr → Nat → Nat → Int → Int → World → Prop) (x1 : ByteArray) (x8 : Nat) (x63q : Option Addr) (x63n : Nat) (x63c : Nat) (x64 : Int) (x65 : Int) (w : World) : Prop :=
 br (decide (x65 < x64))
 (0 ≤ x65 ∧ x65 < (x63n : Int) ∧
 nilP x63q fun a15 =>
 ∃ (v16 : ByteArray), w.cell? (a15.add (Int.toNat x65 * 1)) = some (.string v16) ∧
 callE P i_strings_Builder_WriteString #[.pointer (some ⟨x8, 0, none⟩), .string x1] (fun e w18 => ∃ (r17_0 : Int), ∃ (r17_1 : Value), e = .returned (.tuple #[.int .i64 r17_0, r17_1]) ∧
 callE P i_strings_Builder_WriteString #[.pointer (some ⟨x8, 0, none⟩), .string v16] (fun e w20 => ∃ (r19_0 : Int), ∃ (r19_1 : Value), e = .returned (.tuple #[.int .i64 r19_0, r19_1]) ∧
 Xb x1 x8 x63q x63n x63c x64 (IntKind.i64.wrap (x65 + 1)) w20) w18) w)
 (callE P i_strings_Builder_String #[.pointer (some ⟨x8, 0, none⟩)] (fun e w22 => ∃ (r21 : ByteArray), e = .returned (.string r21) ∧
 R (.returned (.string r21)) w22) w)
def g_strings_Join.l2 (R : Ending → World → Prop) (x1 : ByteArray) (x8 : Nat) (x63q : Option Addr) (x63n : Nat) (x63c : Nat) (x64 : Int) (x65 : Int) (w : World) : Prop :=
  ∀ X : ByteArray → Nat → Option Addr → Nat → Nat → Int → Int → World → Prop, (∀ x1 x8 x63q x63n x63c x64 x65 w, g_strings_Join.bl2 R X x1 x8 x63q x63n x63c x64 x65 w → X x1 x8 x63q x63n x63c x64 x65 w) → X x1 x8 x63q x63n x63c x64 x65 w

noncomputable def g_strings_Join.al2 (R : Ending → World → Prop) (Xb : ByteArray → Nat → Option Addr → Nat → Nat → Int → Int → World → Prop) : AC :=
  (.leaf (sel [1, 1, 1, 1, 1, 1, 1, 1, 0, 1, 0, 0] g_strings_Join.body))
def g_strings_Join.bl1 (R : Ending → World → Prop) (Xa : Option Addr → Nat → Nat → ByteArray → Int → Option Addr → Nat → Nat → Int → Int → World → Prop) (x0q : Option Addr) (x0n : Nat) (x0c : Nat) (x1 : ByteArray) (x5 : Int) (x39q : Option Addr) (x39n : Nat) (x39c : Nat) (x40 : Int) (x41 : Int) (w : World) : Prop :=
 br (decide (x41 < x40))
 (0 ≤ x41 ∧ x41 < (x39n : Int) ∧
 nilP x39q fun a3 =>
 ∃ (v4 : ByteArray), w.cell? (a3.add (Int.toNat x41 * 1)) = some (.string v4) ∧
 br (decide ((v4.size : Int) > (IntKind.i64.wrap (9223372036854775807 - x5))))
 (False)
 (g_strings_Join.k3 R Xa x0q x0n x0c x1 x5 v4 x39q x39n x39c x40 x41 w))
 (box w #[.pointer none, .slice none 0 0] ty_strings_Builder fun b5 w6 =>
 callE P i_strings_Builder_Grow #[.pointer (some ⟨b5, 0, none⟩), .int .i64 x5] (fun e w8 => e = .returned (.tuple #[]) ∧
 0 ≤ (0 : Int) ∧ 0 < (x0n : Int) ∧
 nilP x0q fun a9 =>
 ∃ (v10 : ByteArray), w8.cell? (a9.add (Int.toNat 0 * 1)) = some (.string v10) ∧
 callE P i_strings_Builder_WriteString #[.pointer (some ⟨b5, 0, none⟩), .string v10] (fun e w12 => ∃ (r11_0 : Int), ∃ (r11_1 : Value), e = .returned (.tuple #[.int .i64 r11_0, r11_1]) ∧
 ∃ (r13q : Option Addr), ∃ (r13n : Nat), ∃ (r13c : Nat), ∃ w14, (Instr.sliceAt ty_S_string (.slice x0q x0n x0c) (some (.int .i64 1)) none none).run P w12 = .ok (.slice r13q r13n r13c) w14 ∧
 g_strings_Join.l2 R x1 b5 r13q r13n r13c (r13n : Int) 0 w14) w8) w6)
def g_strings_Join.l1 (R : Ending → World → Prop) (x0q : Option Addr) (x0n : Nat) (x0c : Nat) (x1 : ByteArray) (x5 : Int) (x39q : Option Addr) (x39n : Nat) (x39c : Nat) (x40 : Int) (x41 : Int) (w : World) : Prop :=
  ∀ X : Option Addr → Nat → Nat → ByteArray → Int → Option Addr → Nat → Nat → Int → Int → World → Prop, (∀ x0q x0n x0c x1 x5 x39q x39n x39c x40 x41 w, g_strings_Join.bl1 R X x0q x0n x0c x1 x5 x39q x39n x39c x40 x41 w → X x0q x0n x0c x1 x5 x39q x39n x39c x40 x41 w) → X x0q x0n x0c x1 x5 x39q x39n x39c x40 x41 w

noncomputable def g_strings_Join.al1 (R : Ending → World → Prop) (Xa : Option Addr → Nat → Nat → ByteArray → Int → Option Addr → Nat → Nat → Int → Int → World → Prop) : AC :=
  (.seq (.leaf (sel [1, 1, 1, 1, 0, 1, 0, 0, 0] g_strings_Join.body)) (.seq (.leaf (sel [1, 1, 1, 1, 0, 1, 0, 0, 1, 0] g_strings_Join.body)) (.seq (.block 2 (.seq (.leaf (sel [1, 1, 1, 1, 0, 1, 0, 0, 1, 1, 0, 0, 0] g_strings_Join.body)) (.seq (.leaf (sel [1, 1, 1, 1, 0, 1, 0, 0, 1, 1, 0, 0, 1, 0] g_strings_Join.body)) (.mark (leaf [(0, .s .slice), (1, .s .str), (5, .s (.int .i64)), (7, .s .str), (39, .s .slice), (40, .s (.int .i64)), (41, .s (.int .i64))] (g_strings_Join.k3 R Xa)) (.leaf (sel [1, 1, 1, 1, 0, 1, 0, 0, 1, 1, 0, 0, 1, 1] g_strings_Join.body)))))) (.leaf (sel [1, 1, 1, 1, 0, 1, 0, 0, 1, 1, 1] g_strings_Join.body)))))
def g_strings_Join.k2 (R : Ending → World → Prop) (x0q : Option Addr) (x0n : Nat) (x0c : Nat) (x1 : ByteArray) (x5 : Int) (w : World) : Prop :=
 g_strings_Join.l1 R x0q x0n x0c x1 x5 x0q x0n x0c (x0n : Int) 0 w

def g_strings_Join.k1 (R : Ending → World → Prop) (x0q : Option Addr) (x0n : Nat) (x0c : Nat) (x1 : ByteArray) (x5 : Int) (w : World) : Prop :=
 g_strings_Join.k2 R x0q x0n x0c x1 (IntKind.i64.wrap (x5 + (IntKind.i64.wrap ((x1.size : Int) * (IntKind.i64.wrap ((x0n : Int) - 1)))))) w

def g_strings_Join (R : Ending → World → Prop) (x0q : Option Addr) (x0n : Nat) (x0c : Nat) (x1 : ByteArray) (w : World) : Prop :=
 br ((x0n : Int) == 0)
 (R (.returned (.string (ByteArray.mk #[]))) w)
 (br ((x0n : Int) == 1)
 (0 ≤ (0 : Int) ∧ 0 < (x0n : Int) ∧
 nilP x0q fun a1 =>
 ∃ (v2 : ByteArray), w.cell? (a1.add (Int.toNat 0 * 1)) = some (.string v2) ∧
 R (.returned (.string v2)) w)
 (br (decide ((x1.size : Int) > 0))
 ((IntKind.i64.wrap ((x0n : Int) - 1)) ≠ 0 ∧
 br (decide ((x1.size : Int) ≥ (IntKind.i64.wrap (Int.tdiv 9223372036854775807 (IntKind.i64.wrap ((x0n : Int) - 1))))))
 (False)
 (g_strings_Join.k1 R x0q x0n x0c x1 0 w))
 (g_strings_Join.k2 R x0q x0n x0c x1 0 w)))

noncomputable def g_strings_Join.ac (R : Ending → World → Prop) : AC :=
  (.seq (.leaf (sel [0] g_strings_Join.body)) (.seq (.leaf (sel [1, 0] g_strings_Join.body)) (.seq (.leaf (sel [1, 1, 0] g_strings_Join.body)) (.seq (.seq (.leaf (sel [1, 1, 1, 0, 0] g_strings_Join.body)) (.cond 22 (.seq (.leaf (sel [1, 1, 1, 0, 1, 0, 0] g_strings_Join.body)) (.mark (leaf [(0, .s .slice), (1, .s .str), (5, .s (.int .i64))] (g_strings_Join.k1 R)) (.leaf (sel [1, 1, 1, 0, 1, 0, 1] g_strings_Join.body)))) (.leaf (sel [1, 1, 1, 0, 1, 1] g_strings_Join.body)))) (.mark (leaf [(0, .s .slice), (1, .s .str), (5, .s (.int .i64))] (g_strings_Join.k2 R)) (.seq (.seq (.leaf (sel [1, 1, 1, 1, 0, 0] g_strings_Join.body)) (.block 1 (.loop (leaf [(0, .s .slice), (1, .s .str), (5, .s (.int .i64)), (39, .s .slice), (40, .s (.int .i64)), (41, .s (.int .i64))] (g_strings_Join.l1 R)) (sel [1, 1, 1, 1, 0, 1, 0, 0] g_strings_Join.body)))) (.seq (.leaf (sel [1, 1, 1, 1, 1, 0] g_strings_Join.body)) (.seq (.leaf (sel [1, 1, 1, 1, 1, 1, 0] g_strings_Join.body)) (.seq (.leaf (sel [1, 1, 1, 1, 1, 1, 1, 0] g_strings_Join.body)) (.seq (.seq (.leaf (sel [1, 1, 1, 1, 1, 1, 1, 1, 0, 0] g_strings_Join.body)) (.block 3 (.loop (leaf [(1, .s .str), (8, .s .loc), (63, .s .slice), (64, .s (.int .i64)), (65, .s (.int .i64))] (g_strings_Join.l2 R)) (sel [1, 1, 1, 1, 1, 1, 1, 1, 0, 1, 0, 0] g_strings_Join.body)))) (.leaf (sel [1, 1, 1, 1, 1, 1, 1, 1, 1] g_strings_Join.body))))))))))))
theorem g_strings_Join.good (R : Ending → World → Prop) : Good P 75 (g_strings_Join.ac R) (QF P [.tmp 4] R) :=
  ⟨trivial, ⟨trivial, ⟨trivial, ⟨⟨trivial, ⟨⟨trivial, ⟨trivial, cutE (by intro x0q x0n x0c x1 x5 ρ w; kernel_rfl)⟩⟩, trivial⟩⟩, ⟨⟨⟨trivial, (loopG (g_strings_Join.al1 R) (g_strings_Join.bl1 R) (fun _ => by kernel_rfl) (fun Xa => ⟨trivial, ⟨trivial, ⟨⟨trivial, ⟨trivial, ⟨trivial, cutE (by intro x0q x0n x0c x1 x5 x7 x39q x39n x39c x40 x41 ρ w; kernel_rfl)⟩⟩⟩, trivial⟩⟩⟩) (fun Xa => by intro x0q x0n x0c x1 x5 x39q x39n x39c x40 x41 ρ w; kernel_rfl) (fun X h _ _ _ _ _ _ _ _ _ _ _ g => g X h))⟩, ⟨trivial, ⟨trivial, ⟨trivial, ⟨⟨trivial, (loopG (g_strings_Join.al2 R) (g_strings_Join.bl2 R) (fun _ => by kernel_rfl) (fun Xb => trivial) (fun Xb => by intro x1 x8 x63q x63n x63c x64 x65 ρ w; kernel_rfl) (fun X h _ _ _ _ _ _ _ _ g => g X h))⟩, trivial⟩⟩⟩⟩⟩, cutE (by intro x0q x0n x0c x1 x5 ρ w; kernel_rfl)⟩⟩⟩⟩⟩
theorem g_strings_Join.eq (R : Ending → World → Prop) (x0q : Option Addr) (x0n : Nat) (x0c : Nat) (x1 : ByteArray) (w : World) : g_strings_Join R x0q x0n x0c x1 w = vcA P 75 (g_strings_Join.ac R) (QF P [.tmp 4] R) (fr0 [.slice x0q x0n x0c, .string x1]) w := by kernel_rfl
theorem g_strings_Join.sound {R : Ending → World → Prop} {x0q : Option Addr} {x0n : Nat} {x0c : Nat} {x1 : ByteArray} {w : World} (h : g_strings_Join R x0q x0n x0c x1 w) : callE P i_strings_Join #[.slice x0q x0n x0c, .string x1] R w :=
  callE_fin (c := g_strings_Join.body) Tryz.func155 Tryz.call155 (by kernel_rfl) (by kernel_rfl) (by kernel_rfl) (by kernel_rfl) (by kernel_rfl) (g_strings_Join.good R) (g_strings_Join.eq R x0q x0n x0c x1 w) h
end Go.Proofs.YtmkfleohcnopkaaGreatDoor

set_option linter.unusedVariables false
set_option maxRecDepth 20000
namespace Go.Proofs.YtmkfleohcnopkaaGreatDoor
open Go.Proofs
/- 41 (*pub-paratext/pub/rscmarkdown.parseState).addLine -/
noncomputable def g_parseState_addLine.body : Code := bodyOf Tryz.f41
def g_parseState_addLine.k3 (R : Ending → World → Prop) (Xa : Option Addr → Nat → World → Prop) (x0 : Option Addr) (x3 : Nat) (w : World) : Prop :=
 nilP x0 fun a70 =>
 ∃ (v71 : Int), w.cell? (a70.add 5) = some (.int .i64 v71) ∧
 nilP x0 fun a72 =>
 stV w ((a72.add 5).add 0) (.int .i64 (IntKind.i64.wrap (v71 + 1))) fun w73 =>
 Xa x0 x3 w73

def g_parseState_addLine.bl2 (R : Ending → World → Prop) (Xb : Option Addr → Nat → World → Prop) (Xc : Option Addr → Nat → Option Addr → Nat → Nat → Int → Int → World → Prop) (x0 : Option Addr) (x3 : Nat) (x86q : Option Addr) (x86n : Nat) (x86c : Nat) (x87 : Int) (x88 : Int) (w : World) : Prop :=
 br (decide (x88 < x87))
 (0 ≤ x88 ∧ x88 < (x86n : Int) ∧
 nilP x86q fun a76 =>
 ∃ (v77 : Value), w.cell? (a76.add (Int.toNat x88 * 1)) = some v77 ∧
 ∃ (v78 : Int), w.cell? ⟨x3, 0, none⟩ = some (.int .i64 v78) ∧
 ∃ (v79 : Int), w.cell? ⟨x3, 1, none⟩ = some (.int .i64 v79) ∧
 ∃ (v80 : Int), w.cell? ⟨x3, 2, none⟩ = some (.int .i64 v80) ∧
 ∃ (v81 : ByteArray), w.cell? ⟨x3, 3, none⟩ = some (.string v81) ∧
 ∃ (v82 : Int), w.cell? ⟨x3, 4, none⟩ = some (.int .u8 v82) ∧
 enterE P (do let d ← Deferred.ofValue v77 #[.pointer x0, .agg #[.int .i64 v78, .int .i64 v79, .int .i64 v80, .string v81, .int .u8 v82]]; invoke d.target d.args) (fun e w84 => ∃ (r83_0_0 : Int), ∃ (r83_0_1 : Int), ∃ (r83_0_2 : Int), ∃ (r83_0_3 : ByteArray), ∃ (r83_0_4 : Int), ∃ (r83_1 : Bool), e = .returned (.tuple #[.agg #[.int .i64 r83_0_0, .int .i64 r83_0_1, .int .i64 r83_0_2, .string r83_0_3, .int .u8 r83_0_4], .bool r83_1]) ∧
 box w84 #[.int .i64 0, .int .i64 0, .int .i64 0, .string (ByteArray.mk #[]), .int .u8 0] ty_line fun b85 w86 =>
 stV w86 ⟨b85, 0, none⟩ (.int .i64 r83_0_0) fun w87 =>
 stV w87 ⟨b85, 1, none⟩ (.int .i64 r83_0_1) fun w88 =>
 stV w88 ⟨b85, 2, none⟩ (.int .i64 r83_0_2) fun w89 =>
 stV w89 ⟨b85, 3, none⟩ (.string r83_0_3) fun w90 =>
 stV w90 ⟨b85, 4, none⟩ (.int .u8 r83_0_4) fun w91 =>
 br r83_1
 (∃ (v92 : Int), w91.cell? ⟨b85, 0, none⟩ = some (.int .i64 v92) ∧
 ∃ (v93 : Int), w91.cell? ⟨b85, 1, none⟩ = some (.int .i64 v93) ∧
 ∃ (v94 : Int), w91.cell? ⟨b85, 2, none⟩ = some (.int .i64 v94) ∧
 ∃ (v95 : ByteArray), w91.cell? ⟨b85, 3, none⟩ = some (.string v95) ∧
 ∃ (v96 : Int), w91.cell? ⟨b85, 4, none⟩ = some (.int .u8 v96) ∧
 stV w91 ⟨x3, 0, none⟩ (.int .i64 v92) fun w97 =>
 stV w97 ⟨x3, 1, none⟩ (.int .i64 v93) fun w98 =>
 stV w98 ⟨x3, 2, none⟩ (.int .i64 v94) fun w99 =>
 stV w99 ⟨x3, 3, none⟩ (.string v95) fun w100 =>
 stV w100 ⟨x3, 4, none⟩ (.int .u8 v96) fun w101 =>
 callE P i_line_isBlank #[.pointer (some ⟨x3, 0, none⟩)] (fun e w103 => ∃ (r102 : Bool), e = .returned (.bool r102) ∧
 br r102
 (R (.returned (.tuple #[])) w103)
 (nilP x0 fun a104 =>
 ∃ (v105 : Int), w103.cell? (a104.add 5) = some (.int .i64 v105) ∧
 nilP x0 fun a106 =>
 stV w103 ((a106.add 5).add 0) (.int .i64 (IntKind.i64.wrap (v105 + 1))) fun w107 =>
 Xb x0 x3 w107)) w101)
 (Xc x0 x3 x86q x86n x86c x87 (IntKind.i64.wrap (x88 + 1)) w91)) w)
 (∃ (v108 : Int), w.cell? ⟨x3, 0, none⟩ = some (.int .i64 v108) ∧
 ∃ (v109 : Int), w.cell? ⟨x3, 1, none⟩ = some (.int .i64 v109) ∧
 ∃ (v110 : Int), w.cell? ⟨x3, 2, none⟩ = some (.int .i64 v110) ∧
 ∃ (v111 : ByteArray), w.cell? ⟨x3, 3, none⟩ = some (.string v111) ∧
 ∃ (v112 : Int), w.cell? ⟨x3, 4, none⟩ = some (.int .u8 v112) ∧
 callE P i_newPara #[.pointer x0, .agg #[.int .i64 v108, .int .i64 v109, .int .i64 v110, .string v111, .int .u8 v112]] (fun e w114 => ∃ (r113_0_0 : Int), ∃ (r113_0_1 : Int), ∃ (r113_0_2 : Int), ∃ (r113_0_3 : ByteArray), ∃ (r113_0_4 : Int), ∃ (r113_1 : Bool), e = .returned (.tuple #[.agg #[.int .i64 r113_0_0, .int .i64 r113_0_1, .int .i64 r113_0_2, .string r113_0_3, .int .u8 r113_0_4], .bool r113_1]) ∧
 R (.returned (.tuple #[])) w114) w)
def g_parseState_addLine.l2 (R : Ending → World → Prop) (Xb : Option Addr → Nat → World → Prop) (x0 : Option Addr) (x3 : Nat) (x86q : Option Addr) (x86n : Nat) (x86c : Nat) (x87 : Int) (x88 : Int) (w : World) : Prop :=
  ∀ X : Option Addr → Nat → Option Addr → Nat → Nat → Int → Int → World → Prop, (∀ x0 x3 x86q x86n x86c x87 x88 w, g_parseState_addLine.bl2 R Xb X x0 x3 x86q x86n x86c x87 x88 w → X x0 x3 x86q x86n x86c x87 x88 w) → X x0 x3 x86q x86n x86c x87 x88 w

noncomputable def g_parseState_addLine.al2 (R : Ending → World → Prop) (Xb : Option Addr → Nat → World → Prop) (Xc : Option Addr → Nat → Option Addr → Nat → Nat → Int → Int → World → Prop) : AC :=
  (.leaf (sel [1, 0, 1, 1, 1, 1, 0, 1, 0, 0] g_parseState_addLine.body))
def g_parseState_addLine.bl102 (R : Ending → World → Prop) (Xb : Option Addr → Nat → World → Prop) (x0 : Option Addr) (x3 : Nat) (w : World) : Prop :=
 callE P i_news #[] (fun e w75 => ∃ (r74q : Option Addr), ∃ (r74n : Nat), ∃ (r74c : Nat), e = .returned (.slice r74q r74n r74c) ∧
 g_parseState_addLine.l2 R Xb x0 x3 r74q r74n r74c (r74n : Int) 0 w75) w
def g_parseState_addLine.l102 (R : Ending → World → Prop) (x0 : Option Addr) (x3 : Nat) (w : World) : Prop :=
  ∀ X : Option Addr → Nat → World → Prop, (∀ x0 x3 w, g_parseState_addLine.bl102 R X x0 x3 w → X x0 x3 w) → X x0 x3 w

noncomputable def g_parseState_addLine.al102 (R : Ending → World → Prop) (Xb : Option Addr → Nat → World → Prop) : AC :=
  (.seq (.seq (.leaf (sel [1, 0, 1, 1, 1, 1, 0, 0] g_parseState_addLine.body)) (.block 2 (.loop (leaf [(0, .s .ptr), (3, .s .loc), (86, .s .slice), (87, .s (.int .i64)), (88, .s (.int .i64))] (g_parseState_addLine.l2 R Xb)) (sel [1, 0, 1, 1, 1, 1, 0, 1, 0, 0] g_parseState_addLine.body)))) (.leaf (sel [1, 0, 1, 1, 1, 1, 1] g_parseState_addLine.body)))
def g_parseState_addLine.k2 (R : Ending → World → Prop) (x0 : Option Addr) (x3 : Nat) (w : World) : Prop :=
 callE P i_line_isBlank #[.pointer (some ⟨x3, 0, none⟩)] (fun e w65 => ∃ (r64 : Bool), e = .returned (.bool r64) ∧
 br r64
 (nilP x0 fun a66 =>
 ∃ (v67 : Int), w65.cell? (a66.add 5) = some (.int .i64 v67) ∧
 callE P i_parseState_trimStack #[.pointer x0, .int .i64 (IntKind.i64.wrap (v67 + 1))] (fun e w69 => e = .returned (.tuple #[]) ∧
 R (.returned (.tuple #[])) w69) w65)
 (g_parseState_addLine.bl102 R (g_parseState_addLine.l102 R) x0 x3 w65)) w

def g_parseState_addLine.k1 (R : Ending → World → Prop) (Xa : Option Addr → Nat → World → Prop) (x0 : Option Addr) (x3 : Nat) (x5 : Bool) (x59 : Bool) (w : World) : Prop :=
 br x59
 (tk w fun w55 =>
 nilP x0 fun a56 =>
 nilP x0 fun a57 =>
 nilP x0 fun a58 =>
 ∃ (v59q : Option Addr), ∃ (v59n : Nat), ∃ (v59c : Nat), w55.cell? (a56.add 4) = some (.slice v59q v59n v59c) ∧
 ∃ (v60 : Int), w55.cell? (a57.add 5) = some (.int .i64 v60) ∧
 ∃ (v61 : Int), w55.cell? (a58.add 3) = some (.int .i64 v61) ∧
 0 ≤ (IntKind.i64.wrap (v60 + 1)) ∧ (IntKind.i64.wrap (v60 + 1)) < (v59n : Int) ∧
 nilP v59q fun a62 =>
 stV w55 ((((a62.add (Int.toNat (IntKind.i64.wrap (v60 + 1)) * 4)).add 2).add 1).add 0) (.int .i64 v61) fun w63 =>
 br (!x5)
 (g_parseState_addLine.k2 R x0 x3 w63)
 (g_parseState_addLine.k3 R Xa x0 x3 w63))
 (br (!x5)
 (g_parseState_addLine.k2 R x0 x3 w)
 (g_parseState_addLine.k3 R Xa x0 x3 w))

def g_parseState_addLine.bl1 (R : Ending → World → Prop) (Xa : Option Addr → Nat → World → Prop) (x0 : Option Addr) (x3 : Nat) (w : World) : Prop :=
 tk w fun w5 =>
 nilP x0 fun a6 =>
 nilP x0 fun a7 =>
 ∃ (v8 : Int), w5.cell? (a6.add 5) = some (.int .i64 v8) ∧
 ∃ (v9q : Option Addr), ∃ (v9n : Nat), ∃ (v9c : Nat), w5.cell? (a7.add 4) = some (.slice v9q v9n v9c) ∧
 br (decide ((IntKind.i64.wrap (v8 + 1)) < (v9n : Int)))
 (∃ (v10 : Int), w5.cell? ⟨x3, 0, none⟩ = some (.int .i64 v10) ∧
 ∃ (v11 : Int), w5.cell? ⟨x3, 1, none⟩ = some (.int .i64 v11) ∧
 ∃ (v12 : Int), w5.cell? ⟨x3, 2, none⟩ = some (.int .i64 v12) ∧
 ∃ (v13 : ByteArray), w5.cell? ⟨x3, 3, none⟩ = some (.string v13) ∧
 ∃ (v14 : Int), w5.cell? ⟨x3, 4, none⟩ = some (.int .u8 v14) ∧
 box w5 #[.int .i64 0, .int .i64 0, .int .i64 0, .string (ByteArray.mk #[]), .int .u8 0] ty_line fun b15 w16 =>
 stV w16 ⟨b15, 0, none⟩ (.int .i64 v10) fun w17 =>
 stV w17 ⟨b15, 1, none⟩ (.int .i64 v11) fun w18 =>
 stV w18 ⟨b15, 2, none⟩ (.int .i64 v12) fun w19 =>
 stV w19 ⟨b15, 3, none⟩ (.string v13) fun w20 =>
 stV w20 ⟨b15, 4, none⟩ (.int .u8 v14) fun w21 =>
 tk w21 fun w22 =>
 nilP x0 fun a23 =>
 nilP x0 fun a24 =>
 ∃ (v25q : Option Addr), ∃ (v25n : Nat), ∃ (v25c : Nat), w22.cell? (a23.add 4) = some (.slice v25q v25n v25c) ∧
 ∃ (v26 : Int), w22.cell? (a24.add 5) = some (.int .i64 v26) ∧
 0 ≤ (IntKind.i64.wrap (v26 + 1)) ∧ (IntKind.i64.wrap (v26 + 1)) < (v25n : Int) ∧
 nilP v25q fun a27 =>
 ∃ (v28 : Value), w22.cell? (a27.add (Int.toNat (IntKind.i64.wrap (v26 + 1)) * 4)) = some v28 ∧
 ∃ (v29 : Int), w22.cell? ⟨x3, 0, none⟩ = some (.int .i64 v29) ∧
 ∃ (v30 : Int), w22.cell? ⟨x3, 1, none⟩ = some (.int .i64 v30) ∧
 ∃ (v31 : Int), w22.cell? ⟨x3, 2, none⟩ = some (.int .i64 v31) ∧
 ∃ (v32 : ByteArray), w22.cell? ⟨x3, 3, none⟩ = some (.string v32) ∧
 ∃ (v33 : Int), w22.cell? ⟨x3, 4, none⟩ = some (.int .u8 v33) ∧
 enterE P (callMethod v28 "pub-paratext/pub/rscmarkdown.extend" #[.pointer x0, .agg #[.int .i64 v29, .int .i64 v30, .int .i64 v31, .string v32, .int .u8 v33]]) (fun e w35 => ∃ (r34_0_0 : Int), ∃ (r34_0_1 : Int), ∃ (r34_0_2 : Int), ∃ (r34_0_3 : ByteArray), ∃ (r34_0_4 : Int), ∃ (r34_1 : Bool), e = .returned (.tuple #[.agg #[.int .i64 r34_0_0, .int .i64 r34_0_1, .int .i64 r34_0_2, .string r34_0_3, .int .u8 r34_0_4], .bool r34_1]) ∧
 stV w35 ⟨x3, 0, none⟩ (.int .i64 r34_0_0) fun w36 =>
 stV w36 ⟨x3, 1, none⟩ (.int .i64 r34_0_1) fun w37 =>
 stV w37 ⟨x3, 2, none⟩ (.int .i64 r34_0_2) fun w38 =>
 stV w38 ⟨x3, 3, none⟩ (.string r34_0_3) fun w39 =>
 stV w39 ⟨x3, 4, none⟩ (.int .u8 r34_0_4) fun w40 =>
 callE P i_line_isBlank #[.pointer (some ⟨b15, 0, none⟩)] (fun e w42 => ∃ (r41 : Bool), e = .returned (.bool r41) ∧
 br (!r41)
 (br r34_1
 (g_parseState_addLine.k1 R Xa x0 x3 r34_1 true w42)
 (∃ (v43 : Int), w42.cell? ⟨x3, 0, none⟩ = some (.int .i64 v43) ∧
 ∃ (v44 : Int), w42.cell? ⟨x3, 1, none⟩ = some (.int .i64 v44) ∧
 ∃ (v45 : Int), w42.cell? ⟨x3, 2, none⟩ = some (.int .i64 v45) ∧
 ∃ (v46 : ByteArray), w42.cell? ⟨x3, 3, none⟩ = some (.string v46) ∧
 ∃ (v47 : Int), w42.cell? ⟨x3, 4, none⟩ = some (.int .u8 v47) ∧
 ∃ (v48 : Int), w42.cell? ⟨b15, 0, none⟩ = some (.int .i64 v48) ∧
 ∃ (v49 : Int), w42.cell? ⟨b15, 1, none⟩ = some (.int .i64 v49) ∧
 ∃ (v50 : Int), w42.cell? ⟨b15, 2, none⟩ = some (.int .i64 v50) ∧
 ∃ (v51 : ByteArray), w42.cell? ⟨b15, 3, none⟩ = some (.string v51) ∧
 ∃ (v52 : Int), w42.cell? ⟨b15, 4, none⟩ = some (.int .u8 v52) ∧
 ∃ (r53 : Bool), ∃ w54, (do eqGuard .neq ty_line (.tmp 55) (.tmp 56) (.agg #[.int .i64 v43, .int .i64 v44, .int .i64 v45, .string v46, .int .u8 v47]) (.agg #[.int .i64 v48, .int .i64 v49, .int .i64 v50, .string v51, .int .u8 v52]); binOp .neq ty_line (.agg #[.int .i64 v43, .int .i64 v44, .int .i64 v45, .string v46, .int .u8 v47]) (.agg #[.int .i64 v48, .int .i64 v49, .int .i64 v50, .string v51, .int .u8 v52])).run P w42 = .ok (.bool r53) w54 ∧
 g_parseState_addLine.k1 R Xa x0 x3 r34_1 r53 w54))
 (g_parseState_addLine.k1 R Xa x0 x3 r34_1 false w42)) w40) w22)
 (g_parseState_addLine.k2 R x0 x3 w5)
def g_parseState_addLine.l1 (R : Ending → World → Prop) (x0 : Option Addr) (x3 : Nat) (w : World) : Prop :=
  ∀ X : Option Addr → Nat → World → Prop, (∀ x0 x3 w, g_parseState_addLine.bl1 R X x0 x3 w → X x0 x3 w) → X x0 x3 w

noncomputable def g_parseState_addLine.al1 (R : Ending → World → Prop) (Xa : Option Addr → Nat → World → Prop) : AC :=
  (.seq (.seq (.draw (.pure 0 (.pure 1 (.pure 2 (.pure 5 (.pure 6 (.pure 7 (.load 3 (.pure 4 (.load 8 (.pure 9 (.pure 10 .done))))))))))) (sel [1, 0, 1, 0, 0, 0, 0, 0] g_parseState_addLine.body)) (.leaf (sel [1, 0, 1, 0, 0, 0, 0, 1] g_parseState_addLine.body))) (.seq (.block 1 (.seq (.leaf (sel [1, 0, 1, 0, 0, 0, 1, 0, 0, 0] g_parseState_addLine.body)) (.seq (.leaf (sel [1, 0, 1, 0, 0, 0, 1, 0, 0, 1, 0] g_parseState_addLine.body)) (.seq (.draw (.pure 0 (.pure 1 (.pure 2 (.pure 4 (.pure 5 (.pure 6 (.pure 12 (.load 3 (.load 7 (.pure 8 (.pure 9 (.pure 10 (.load 11 (.load 13 (.one 14 (.pure 15 (.pure 16 (.pure 17 (.one 18 (.pure 19 .done)))))))))))))))))))) (sel [1, 0, 1, 0, 0, 0, 1, 0, 0, 1, 1, 0] g_parseState_addLine.body)) (.seq (.seq (.leaf (sel [1, 0, 1, 0, 0, 0, 1, 0, 0, 1, 1, 1, 0, 0] g_parseState_addLine.body)) (.mark (leaf [(0, .s .ptr), (3, .s .loc), (5, .s .bool), (59, .s .bool)] (g_parseState_addLine.k1 R Xa)) (.cond 59 (.draw (.pure 0 (.pure 1 (.pure 2 (.pure 4 (.pure 5 (.pure 6 (.pure 9 (.pure 10 (.pure 11 (.load 3 (.load 7 (.pure 8 (.load 12 (.pure 13 (.pure 14 (.pure 15 (.one 16 .done))))))))))))))))) (sel [1, 0, 1, 0, 0, 0, 1, 0, 0, 1, 1, 1, 0, 1, 0] g_parseState_addLine.body)) (.leaf (sel [1, 0, 1, 0, 0, 0, 1, 0, 0, 1, 1, 1, 0, 1, 1] g_parseState_addLine.body))))) (.leaf (sel [1, 0, 1, 0, 0, 0, 1, 0, 0, 1, 1, 1, 1] g_parseState_addLine.body))))))) (.mark (leaf [(0, .s .ptr), (3, .s .loc)] (g_parseState_addLine.k3 R Xa)) (.leaf (sel [1, 0, 1, 0, 0, 0, 1, 1] g_parseState_addLine.body)))))
def g_parseState_addLine (R : Ending → World → Prop) (x0 : Option Addr) (x1_0 : Int) (x1_1 : Int) (x1_2 : Int) (x1_3 : ByteArray) (x1_4 : Int) (w : World) : Prop :=
 box w #[.int .i64 x1_0, .int .i64 x1_1, .int .i64 x1_2, .string x1_3, .int .u8 x1_4] ty_line fun b1 w2 =>
 nilP x0 fun a3 =>
 stV w2 ((a3.add 5).add 0) (.int .i64 0) fun w4 =>
 g_parseState_addLine.l1 R x0 b1 w4

noncomputable def g_parseState_addLine.ac (R : Ending → World → Prop) : AC :=
  (.seq (.leaf (sel [0] g_parseState_addLine.body)) (.jump 0 (leaf [(0, .s .ptr), (3, .s .loc)] (g_parseState_addLine.l102 R)) (.seq (.leaf (sel [1, 0, 0] g_parseState_addLine.body)) (.seq (.block 0 (.loop (leaf [(0, .s .ptr), (3, .s .loc)] (g_parseState_addLine.l1 R)) (sel [1, 0, 1, 0, 0, 0] g_parseState_addLine.body))) (.mark (leaf [(0, .s .ptr), (3, .s .loc)] (g_parseState_addLine.k2 R)) (.seq (.leaf (sel [1, 0, 1, 1, 0] g_parseState_addLine.body)) (.seq (.leaf (sel [1, 0, 1, 1, 1, 0] g_parseState_addLine.body)) (.mark (leaf [(0, .s .ptr), (3, .s .loc)] (g_parseState_addLine.bl102 R (g_parseState_addLine.l102 R))) (g_parseState_addLine.al102 R (g_parseState_addLine.l102 R))))))))))
theorem g_parseState_addLine.good (R : Ending → World → Prop) : Good P 113 (g_parseState_addLine.ac R) (QF P [] R) :=
  ⟨trivial, ⟨⟨trivial, ⟨(loopG (g_parseState_addLine.al1 R) (g_parseState_addLine.bl1 R) (fun _ => by kernel_rfl) (fun Xa => ⟨⟨⟨by kernel_rfl, by kernel_rfl, fun _ _ _ h => h⟩, trivial⟩, ⟨⟨trivial, ⟨trivial, ⟨⟨by kernel_rfl, by kernel_rfl, fun _ _ _ h => h⟩, ⟨⟨trivial, ⟨⟨⟨by kernel_rfl, by kernel_rfl, fun _ _ _ h => h⟩, trivial⟩, cutE (by intro x0 x3 x5 x59 ρ w; kernel_rfl)⟩⟩, trivial⟩⟩⟩⟩, ⟨trivial, cutE (by intro x0 x3 ρ w; kernel_rfl)⟩⟩⟩) (fun Xa => by intro x0 x3 ρ w; kernel_rfl) (fun X h _ _ _ g => g X h)), ⟨⟨trivial, ⟨trivial, ⟨⟨trivial, (loopG (g_parseState_addLine.al2 R (g_parseState_addLine.l102 R)) (g_parseState_addLine.bl2 R (g_parseState_addLine.l102 R)) (fun _ => by kernel_rfl) (fun Xc => trivial) (fun Xc => by intro x0 x3 x86q x86n x86c x87 x88 ρ w; kernel_rfl) (fun X h _ _ _ _ _ _ _ _ g => g X h))⟩, trivial⟩, cutE (by intro x0 x3 ρ w; kernel_rfl)⟩⟩, cutE (by intro x0 x3 ρ w; kernel_rfl)⟩⟩⟩, .seq .skip (sel [1, 0, 1, 1, 1, 1] g_parseState_addLine.body), by kernel_rfl, jumpG (l := 0) (fun X => .seq (.leaf .skip) (g_parseState_addLine.al102 R X)) (g_parseState_addLine.bl102 R) (by kernel_rfl) (fun _ => by kernel_rfl) (fun Xb => ⟨trivial, ⟨⟨trivial, (loopG (g_parseState_addLine.al2 R Xb) (g_parseState_addLine.bl2 R Xb) (fun _ => by kernel_rfl) (fun Xc => trivial) (fun Xc => by intro x0 x3 x86q x86n x86c x87 x88 ρ w; kernel_rfl) (fun X h _ _ _ _ _ _ _ _ g => g X h))⟩, trivial⟩⟩) (fun Xb => by intro x0 x3 ρ w; kernel_rfl) (fun X h _ _ _ g => g X h)⟩⟩
theorem g_parseState_addLine.eq (R : Ending → World → Prop) (x0 : Option Addr) (x1_0 : Int) (x1_1 : Int) (x1_2 : Int) (x1_3 : ByteArray) (x1_4 : Int) (w : World) : g_parseState_addLine R x0 x1_0 x1_1 x1_2 x1_3 x1_4 w = vcA P 113 (g_parseState_addLine.ac R) (QF P [] R) (fr0 [.pointer x0, .agg #[.int .i64 x1_0, .int .i64 x1_1, .int .i64 x1_2, .string x1_3, .int .u8 x1_4]]) w := by kernel_rfl
theorem g_parseState_addLine.sound {R : Ending → World → Prop} {x0 : Option Addr} {x1_0 : Int} {x1_1 : Int} {x1_2 : Int} {x1_3 : ByteArray} {x1_4 : Int} {w : World} (h : g_parseState_addLine R x0 x1_0 x1_1 x1_2 x1_3 x1_4 w) : callE P i_parseState_addLine #[.pointer x0, .agg #[.int .i64 x1_0, .int .i64 x1_1, .int .i64 x1_2, .string x1_3, .int .u8 x1_4]] R w :=
  callE_fin (c := g_parseState_addLine.body) Tryz.func41 Tryz.call41 (by kernel_rfl) (by kernel_rfl) (by kernel_rfl) (by kernel_rfl) (by kernel_rfl) (g_parseState_addLine.good R) (g_parseState_addLine.eq R x0 x1_0 x1_1 x1_2 x1_3 x1_4 w) h
end Go.Proofs.YtmkfleohcnopkaaGreatDoor

set_option linter.unusedVariables false
set_option maxRecDepth 20000
namespace Go.Proofs.YtmkfleohcnopkaaGreatDoor
open Go.Proofs
/- 48 pub-paratext/pub/rscmarkdown.news -/
noncomputable def g_news.body : Code := bodyOf Tryz.f48
def g_news (R : Ending → World → Prop) (w : World) : Prop :=
 ∃ (r1q : Option Addr), ∃ (r1n : Nat), ∃ (r1c : Nat), ∃ w2, (Instr.buildSlice ty_S_func_P_parseState_line_line_bool 8 #[(0, .func (.func i_newQuote) #[] #[]), (1, .func (.func i_newATXHeading) #[] #[]), (2, .func (.func i_newSetextHeading) #[] #[]), (3, .func (.func i_newHR) #[] #[]), (4, .func (.func i_newListItem) #[] #[]), (5, .func (.func i_newHTML) #[] #[]), (6, .func (.func i_newFence) #[] #[]), (7, .func (.func i_newPre) #[] #[])]).run P w = .ok (.slice r1q r1n r1c) w2 ∧
 R (.returned (.slice r1q r1n r1c)) w2

noncomputable def g_news.ac (R : Ending → World → Prop) : AC :=
  (.leaf (sel [] g_news.body))
theorem g_news.good (R : Ending → World → Prop) : Good P 2 (g_news.ac R) (QF P [.tmp 0] R) :=
  trivial
theorem g_news.eq (R : Ending → World → Prop) (w : World) : g_news R w = vcA P 2 (g_news.ac R) (QF P [.tmp 0] R) (fr0 []) w := by kernel_rfl
theorem g_news.sound {R : Ending → World → Prop} {w : World} (h : g_news R w) : callE P i_news #[] R w :=
  callE_fin (c := g_news.body) Tryz.func48 Tryz.call48 (by kernel_rfl) (by kernel_rfl) (by kernel_rfl) (by kernel_rfl) (by kernel_rfl) (g_news.good R) (g_news.eq R w) h
end Go.Proofs.YtmkfleohcnopkaaGreatDoor

set_option linter.unusedVariables false
set_option maxRecDepth 20000
namespace Go.Proofs.YtmkfleohcnopkaaGreatDoor
open Go.Proofs
/- 49 pub-paratext/pub/rscmarkdown.newPara -/
noncomputable def g_newPara.body : Code := bodyOf Tryz.f49
def g_newPara.k5 (R : Ending → World → Prop) (x4 : Nat) (x6 : Option Addr) (x8 : ByteArray) (w : World) : Prop :=
 nilP x6 fun a102 =>
 ∃ (v103q : Option Addr), ∃ (v103n : Nat), ∃ (v103c : Nat), w.cell? a102 = some (.slice v103q v103n v103c) ∧
 ∃ (r104q : Option Addr), ∃ (r104n : Nat), ∃ (r104c : Nat), ∃ w105, (Instr.buildSlice ty_S_string 1 #[(0, .string x8)]).run P w = .ok (.slice r104q r104n r104c) w105 ∧
 ∃ (r106q : Option Addr), ∃ (r106n : Nat), ∃ (r106c : Nat), ∃ w107, (Builtin.append_ #[ty_S_string, ty_S_string] ty_S_string #[.slice v103q v103n v103c, .slice r104q r104n r104c]).run P w105 = .ok (.slice r106q r106n r106c) w107 ∧
 nilP x6 fun a108 =>
 stV w107 (a108.add 0) (.slice r106q r106n r106c) fun w109 =>
 stV w109 ⟨x4, 0, none⟩ (.int .i64 0) fun w110 =>
 stV w110 ⟨x4, 1, none⟩ (.int .i64 0) fun w111 =>
 stV w111 ⟨x4, 2, none⟩ (.int .i64 0) fun w112 =>
 stV w112 ⟨x4, 3, none⟩ (.string (ByteArray.mk #[])) fun w113 =>
 stV w113 ⟨x4, 4, none⟩ (.int .u8 0) fun w114 =>
 ∃ (v115 : Int), w114.cell? ⟨x4, 0, none⟩ = some (.int .i64 v115) ∧
 ∃ (v116 : Int), w114.cell? ⟨x4, 1, none⟩ = some (.int .i64 v116) ∧
 ∃ (v117 : Int), w114.cell? ⟨x4, 2, none⟩ = some (.int .i64 v117) ∧
 ∃ (v118 : ByteArray), w114.cell? ⟨x4, 3, none⟩ = some (.string v118) ∧
 ∃ (v119 : Int), w114.cell? ⟨x4, 4, none⟩ = some (.int .u8 v119) ∧
 R (.returned (.tuple #[.agg #[.int .i64 v115, .int .i64 v116, .int .i64 v117, .string v118, .int .u8 v119], .bool true])) w114

def g_newPara.bl1 (R : Ending → World → Prop) (Xa : Option Addr → Nat → Option Addr → ByteArray → Int → World → Prop) (x0 : Option Addr) (x4 : Nat) (x6 : Option Addr) (x8 : ByteArray) (x11 : Int) (w : World) : Prop :=
 nilP x0 fun a93 =>
 ∃ (v94q : Option Addr), ∃ (v94n : Nat), ∃ (v94c : Nat), w.cell? (a93.add 4) = some (.slice v94q v94n v94c) ∧
 br (decide (x11 < (v94n : Int)))
 (tk w fun w95 =>
 nilP x0 fun a96 =>
 nilP x0 fun a97 =>
 ∃ (v98q : Option Addr), ∃ (v98n : Nat), ∃ (v98c : Nat), w95.cell? (a96.add 4) = some (.slice v98q v98n v98c) ∧
 ∃ (v99 : Int), w95.cell? (a97.add 3) = some (.int .i64 v99) ∧
 0 ≤ x11 ∧ x11 < (v98n : Int) ∧
 nilP v98q fun a100 =>
 stV w95 ((((a100.add (Int.toNat x11 * 4)).add 2).add 1).add 0) (.int .i64 v99) fun w101 =>
 Xa x0 x4 x6 x8 (IntKind.i64.wrap (x11 + 1)) w101)
 (g_newPara.k5 R x4 x6 x8 w)
def g_newPara.l1 (R : Ending → World → Prop) (x0 : Option Addr) (x4 : Nat) (x6 : Option Addr) (x8 : ByteArray) (x11 : Int) (w : World) : Prop :=
  ∀ X : Option Addr → Nat → Option Addr → ByteArray → Int → World → Prop, (∀ x0 x4 x6 x8 x11 w, g_newPara.bl1 R X x0 x4 x6 x8 x11 w → X x0 x4 x6 x8 x11 w) → X x0 x4 x6 x8 x11 w

noncomputable def g_newPara.al1 (R : Ending → World → Prop) (Xa : Option Addr → Nat → Option Addr → ByteArray → Int → World → Prop) : AC :=
  (.seq (.leaf (sel [1, 1, 1, 1, 1, 1, 0, 1, 0, 1, 0, 0, 0] g_newPara.body)) (.seq (.block 1 (.draw (.pure 0 (.pure 1 (.pure 2 (.pure 4 (.pure 5 (.pure 6 (.pure 7 (.load 3 (.load 8 (.pure 9 (.pure 10 (.pure 11 (.one 12 .done))))))))))))) (sel [1, 1, 1, 1, 1, 1, 0, 1, 0, 1, 0, 0, 1, 0, 0] g_newPara.body))) (.leaf (sel [1, 1, 1, 1, 1, 1, 0, 1, 0, 1, 0, 0, 1, 1] g_newPara.body))))
def g_newPara.k4 (R : Ending → World → Prop) (x0 : Option Addr) (x4 : Nat) (x6 : Option Addr) (x8 : ByteArray) (x88 : Bool) (w : World) : Prop :=
 br x88
 (tk w fun w50 =>
 nilP x6 fun a51 =>
 nilP x6 fun a52 =>
 ∃ (v53q : Option Addr), ∃ (v53n : Nat), ∃ (v53c : Nat), w50.cell? a51 = some (.slice v53q v53n v53c) ∧
 ∃ (v54q : Option Addr), ∃ (v54n : Nat), ∃ (v54c : Nat), w50.cell? a52 = some (.slice v54q v54n v54c) ∧
 0 ≤ (IntKind.i64.wrap ((v54n : Int) - 1)) ∧ (IntKind.i64.wrap ((v54n : Int) - 1)) < (v53n : Int) ∧
 nilP v53q fun a55 =>
 ∃ (v56 : ByteArray), w50.cell? (a55.add (Int.toNat (IntKind.i64.wrap ((v54n : Int) - 1)) * 1)) = some (.string v56) ∧
 tk w50 fun w57 =>
 nilP x6 fun a58 =>
 nilP x6 fun a59 =>
 ∃ (v60q : Option Addr), ∃ (v60n : Nat), ∃ (v60c : Nat), w57.cell? a58 = some (.slice v60q v60n v60c) ∧
 ∃ (v61q : Option Addr), ∃ (v61n : Nat), ∃ (v61c : Nat), w57.cell? a59 = some (.slice v61q v61n v61c) ∧
 ∃ (r62q : Option Addr), ∃ (r62n : Nat), ∃ (r62c : Nat), (∀ w, (Instr.sliceAt ty_S_string (.slice v60q v60n v60c) none (some (.int .i64 (IntKind.i64.wrap ((v61n : Int) - 1)))) none).run P w = .ok (.slice r62q r62n r62c) w) ∧
 nilP x6 fun a63 =>
 stV w57 (a63.add 0) (.slice r62q r62n r62c) fun w64 =>
 box w64 #[.slice none 0 0, .pointer none] ty_paraBuilder fun b65 w66 =>
 callE P i_parseState_addBlock #[.pointer x0, .iface ty_P_paraBuilder (.pointer (some ⟨b65, 0, none⟩))] (fun e w68 => e = .returned (.tuple #[]) ∧
 box w68 #[.string (ByteArray.mk #[]), .string (ByteArray.mk #[]), .slice none 0 0] ty_tableBuilder fun b69 w70 =>
 stV w70 ⟨b65, 1, none⟩ (.pointer (some ⟨b69, 0, none⟩)) fun w71 =>
 ∃ (v72 : Option Addr), w71.cell? ⟨b65, 1, none⟩ = some (.pointer v72) ∧
 callE P i_tableBuilder_start #[.pointer v72, .string v56, .string x8] (fun e w74 => e = .returned (.tuple #[]) ∧
 stV w74 ⟨x4, 0, none⟩ (.int .i64 0) fun w75 =>
 stV w75 ⟨x4, 1, none⟩ (.int .i64 0) fun w76 =>
 stV w76 ⟨x4, 2, none⟩ (.int .i64 0) fun w77 =>
 stV w77 ⟨x4, 3, none⟩ (.string (ByteArray.mk #[])) fun w78 =>
 stV w78 ⟨x4, 4, none⟩ (.int .u8 0) fun w79 =>
 ∃ (v80 : Int), w79.cell? ⟨x4, 0, none⟩ = some (.int .i64 v80) ∧
 ∃ (v81 : Int), w79.cell? ⟨x4, 1, none⟩ = some (.int .i64 v81) ∧
 ∃ (v82 : Int), w79.cell? ⟨x4, 2, none⟩ = some (.int .i64 v82) ∧
 ∃ (v83 : ByteArray), w79.cell? ⟨x4, 3, none⟩ = some (.string v83) ∧
 ∃ (v84 : Int), w79.cell? ⟨x4, 4, none⟩ = some (.int .u8 v84) ∧
 R (.returned (.tuple #[.agg #[.int .i64 v80, .int .i64 v81, .int .i64 v82, .string v83, .int .u8 v84], .bool true])) w79) w71) w66)
 (∃ (r85 : Bool), ∃ w86, (do eqGuard .neq ty_P_paraBuilder (.tmp 132) (.const (.pointer none)) (.pointer x6) (.pointer none); binOp .neq ty_P_paraBuilder (.pointer x6) (.pointer none)).run P w = .ok (.bool r85) w86 ∧
 br r85
 (nilP x0 fun a87 =>
 ∃ (v88 : Int), w86.cell? (a87.add 5) = some (.int .i64 v88) ∧
 g_newPara.l1 R x0 x4 x6 x8 v88 w86)
 (box w86 #[.slice none 0 0, .pointer none] ty_paraBuilder fun b89 w90 =>
 callE P i_parseState_addBlock #[.pointer x0, .iface ty_P_paraBuilder (.pointer (some ⟨b89, 0, none⟩))] (fun e w92 => e = .returned (.tuple #[]) ∧
 g_newPara.k5 R x4 (some ⟨b89, 0, none⟩) x8 w92) w90))

def g_newPara.k3 (R : Ending → World → Prop) (x0 : Option Addr) (x4 : Nat) (x6 : Option Addr) (x7 : Bool) (x8 : ByteArray) (w : World) : Prop :=
 tk w fun w34 =>
 nilP x0 fun a35 =>
 ∃ (v36 : Option Addr), w34.cell? a35 = some (.pointer v36) ∧
 nilP v36 fun a37 =>
 ∃ (v38 : Bool), w34.cell? (a37.add 5) = some (.bool v38) ∧
 br v38
 (∃ (r39 : Bool), (∀ w, (do eqGuard .neq ty_P_paraBuilder (.tmp 59) (.const (.pointer none)) (.pointer x6) (.pointer none); binOp .neq ty_P_paraBuilder (.pointer x6) (.pointer none)).run P w = .ok (.bool r39) w) ∧
 br r39
 (br x7
 (nilP x6 fun a40 =>
 ∃ (v41q : Option Addr), ∃ (v41n : Nat), ∃ (v41c : Nat), w34.cell? a40 = some (.slice v41q v41n v41c) ∧
 br (decide ((v41n : Int) > 0))
 (nilP x6 fun a42 =>
 nilP x6 fun a43 =>
 ∃ (v44q : Option Addr), ∃ (v44n : Nat), ∃ (v44c : Nat), w34.cell? a42 = some (.slice v44q v44n v44c) ∧
 ∃ (v45q : Option Addr), ∃ (v45n : Nat), ∃ (v45c : Nat), w34.cell? a43 = some (.slice v45q v45n v45c) ∧
 0 ≤ (IntKind.i64.wrap ((v45n : Int) - 1)) ∧ (IntKind.i64.wrap ((v45n : Int) - 1)) < (v44n : Int) ∧
 nilP v44q fun a46 =>
 ∃ (v47 : ByteArray), w34.cell? (a46.add (Int.toNat (IntKind.i64.wrap ((v45n : Int) - 1)) * 1)) = some (.string v47) ∧
 callE P i_isTableStart #[.string v47, .string x8] (fun e w49 => ∃ (r48 : Bool), e = .returned (.bool r48) ∧
 g_newPara.k4 R x0 x4 x6 x8 r48 w49) w34)
 (g_newPara.k4 R x0 x4 x6 x8 false w34))
 (g_newPara.k4 R x0 x4 x6 x8 false w34))
 (g_newPara.k4 R x0 x4 x6 x8 false w34))
 (g_newPara.k4 R x0 x4 x6 x8 false w34)

def g_newPara.k2 (R : Ending → World → Prop) (x0 : Option Addr) (x4 : Nat) (x6 : Option Addr) (x7 : Bool) (x8 : ByteArray) (x43 : Bool) (w : World) : Prop :=
 br x43
 (nilP x6 fun a20 =>
 ∃ (v21 : Option Addr), w.cell? (a20.add 1) = some (.pointer v21) ∧
 callE P i_tableBuilder_addRow #[.pointer v21, .string x8] (fun e w23 => e = .returned (.tuple #[]) ∧
 stV w23 ⟨x4, 0, none⟩ (.int .i64 0) fun w24 =>
 stV w24 ⟨x4, 1, none⟩ (.int .i64 0) fun w25 =>
 stV w25 ⟨x4, 2, none⟩ (.int .i64 0) fun w26 =>
 stV w26 ⟨x4, 3, none⟩ (.string (ByteArray.mk #[])) fun w27 =>
 stV w27 ⟨x4, 4, none⟩ (.int .u8 0) fun w28 =>
 ∃ (v29 : Int), w28.cell? ⟨x4, 0, none⟩ = some (.int .i64 v29) ∧
 ∃ (v30 : Int), w28.cell? ⟨x4, 1, none⟩ = some (.int .i64 v30) ∧
 ∃ (v31 : Int), w28.cell? ⟨x4, 2, none⟩ = some (.int .i64 v31) ∧
 ∃ (v32 : ByteArray), w28.cell? ⟨x4, 3, none⟩ = some (.string v32) ∧
 ∃ (v33 : Int), w28.cell? ⟨x4, 4, none⟩ = some (.int .u8 v33) ∧
 R (.returned (.tuple #[.agg #[.int .i64 v29, .int .i64 v30, .int .i64 v31, .string v32, .int .u8 v33], .bool true])) w28) w)
 (g_newPara.k3 R x0 x4 none x7 x8 w)

def g_newPara.k1 (R : Ending → World → Prop) (x0 : Option Addr) (x4 : Nat) (x6 : Option Addr) (x7 : Bool) (x8 : ByteArray) (x34 : Bool) (w : World) : Prop :=
 br x34
 (g_newPara.k2 R x0 x4 x6 x7 x8 ((x7 && (!(x8.toList == (ByteArray.mk #[]).toList))) && (!(x8.toList == (ByteArray.mk #[124]).toList))) w)
 (g_newPara.k3 R x0 x4 x6 x7 x8 w)

def g_newPara (R : Ending → World → Prop) (x0 : Option Addr) (x1_0 : Int) (x1_1 : Int) (x1_2 : Int) (x1_3 : ByteArray) (x1_4 : Int) (w : World) : Prop :=
 box w #[.int .i64 x1_0, .int .i64 x1_1, .int .i64 x1_2, .string x1_3, .int .u8 x1_4] ty_line fun b1 w2 =>
 box w2 #[.int .i64 0, .int .i64 0, .int .i64 0, .string (ByteArray.mk #[]), .int .u8 0] ty_line fun b3 w4 =>
 callE P i_parseState_para #[.pointer x0] (fun e w6 => ∃ (r5 : Option Addr), e = .returned (.pointer r5) ∧
 tk w6 fun w7 =>
 nilP x0 fun a8 =>
 nilP x0 fun a9 =>
 ∃ (v10 : Int), w7.cell? (a8.add 5) = some (.int .i64 v10) ∧
 ∃ (v11q : Option Addr), ∃ (v11n : Nat), ∃ (v11c : Nat), w7.cell? (a9.add 4) = some (.slice v11q v11n v11c) ∧
 callE P i_line_trimSpaceString #[.pointer (some ⟨b1, 0, none⟩)] (fun e w13 => ∃ (r12 : ByteArray), e = .returned (.string r12) ∧
 ∃ (r14 : Bool), ∃ w15, (do eqGuard .neq ty_P_paraBuilder (.tmp 26) (.const (.pointer none)) (.pointer r5) (.pointer none); binOp .neq ty_P_paraBuilder (.pointer r5) (.pointer none)).run P w13 = .ok (.bool r14) w15 ∧
 br r14
 (nilP r5 fun a16 =>
 ∃ (v17 : Option Addr), w15.cell? (a16.add 1) = some (.pointer v17) ∧
 ∃ (r18 : Bool), ∃ w19, (do eqGuard .neq ty_P_tableBuilder (.tmp 32) (.const (.pointer none)) (.pointer v17) (.pointer none); binOp .neq ty_P_tableBuilder (.pointer v17) (.pointer none)).run P w15 = .ok (.bool r18) w19 ∧
 g_newPara.k1 R x0 b3 r5 (v10 == (IntKind.i64.wrap ((v11n : Int) - 2))) r12 r18 w19)
 (g_newPara.k1 R x0 b3 r5 (v10 == (IntKind.i64.wrap ((v11n : Int) - 2))) r12 false w15)) w7) w4

noncomputable def g_newPara.ac (R : Ending → World → Prop) : AC :=
  (.seq (.leaf (sel [0] g_newPara.body)) (.seq (.leaf (sel [1, 0] g_newPara.body)) (.seq (.draw (.pure 0 (.pure 1 (.pure 2 (.pure 4 (.pure 5 (.pure 6 (.load 3 (.load 7 (.pure 8 (.pure 9 (.pure 10 (.pure 11 .done)))))))))))) (sel [1, 1, 0] g_newPara.body)) (.seq (.leaf (sel [1, 1, 1, 0] g_newPara.body)) (.seq (.seq (.leaf (sel [1, 1, 1, 1, 0, 0] g_newPara.body)) (.mark (leaf [(0, .s .ptr), (4, .s .loc), (6, .s .ptr), (7, .s .bool), (8, .s .str), (34, .s .bool)] (g_newPara.k1 R)) (.cond 34 (.seq (.seq (.leaf (sel [1, 1, 1, 1, 0, 1, 0, 0, 0] g_newPara.body)) (.mark (leaf [(0, .s .ptr), (4, .s .loc), (6, .s .ptr), (7, .s .bool), (8, .s .str), (43, .s .bool)] (g_newPara.k2 R)) (.leaf (sel [1, 1, 1, 1, 0, 1, 0, 0, 1] g_newPara.body)))) (.leaf (sel [1, 1, 1, 1, 0, 1, 0, 1] g_newPara.body))) (.leaf (sel [1, 1, 1, 1, 0, 1, 1] g_newPara.body))))) (.mark (leaf [(0, .s .ptr), (4, .s .loc), (6, .s .ptr), (7, .s .bool), (8, .s .str)] (g_newPara.k3 R)) (.seq (.seq (.draw (.pure 0 (.pure 1 (.pure 2 (.load 3 (.pure 4 (.pure 5 (.load 6 (.pure 7 (.pure 8 (.pure 9 (.pure 10 (.pure 11 (.pure 12 (.pure 13 (.pure 14 (.pure 15 (.pure 16 (.pure 17 (.load 18 (.pure 19 (.pure 20 (.pure 21 (.pure 22 (.pure 23 (.pure 24 (.pure 25 (.pure 27 (.pure 28 (.pure 29 (.pure 35 (.load 26 (.load 30 (.pure 31 (.pure 32 (.pure 33 (.load 34 (.one 36 (.pure 37 .done)))))))))))))))))))))))))))))))))))))) (sel [1, 1, 1, 1, 1, 0, 0] g_newPara.body)) (.mark (leaf [(0, .s .ptr), (4, .s .loc), (6, .s .ptr), (8, .s .str), (88, .s .bool)] (g_newPara.k4 R)) (.cond 88 (.seq (.draw (.pure 0 (.pure 1 (.pure 2 (.pure 4 (.pure 5 (.pure 6 (.load 3 (.load 7 (.pure 8 (.pure 9 (.pure 10 (.load 11 (.pure 12 .done))))))))))))) (sel [1, 1, 1, 1, 1, 0, 1, 0, 0] g_newPara.body)) (.seq (.draw (.pure 0 (.pure 1 (.pure 2 (.pure 3 (.pure 5 (.pure 6 (.pure 7 (.load 4 (.load 8 (.pure 9 (.pure 10 (.pure 11 (.pure 12 (.pure 13 (.one 14 .done))))))))))))))) (sel [1, 1, 1, 1, 1, 0, 1, 0, 1, 0] g_newPara.body)) (.leaf (sel [1, 1, 1, 1, 1, 0, 1, 0, 1, 1] g_newPara.body)))) (.leaf (sel [1, 1, 1, 1, 1, 0, 1, 1] g_newPara.body))))) (.seq (.seq (.leaf (sel [1, 1, 1, 1, 1, 1, 0, 0] g_newPara.body)) (.cond 133 (.seq (.leaf (sel [1, 1, 1, 1, 1, 1, 0, 1, 0, 0] g_newPara.body)) (.block 0 (.loop (leaf [(0, .s .ptr), (4, .s .loc), (6, .s .ptr), (8, .s .str), (11, .s (.int .i64))] (g_newPara.l1 R)) (sel [1, 1, 1, 1, 1, 1, 0, 1, 0, 1, 0, 0] g_newPara.body)))) (.leaf (sel [1, 1, 1, 1, 1, 1, 0, 1, 1] g_newPara.body)))) (.mark (leaf [(4, .s .loc), (6, .s .ptr), (8, .s .str)] (g_newPara.k5 R)) (.leaf (sel [1, 1, 1, 1, 1, 1, 1] g_newPara.body)))))))))))
theorem g_newPara.good (R : Ending → World → Prop) : Good P 175 (g_newPara.ac R) (QF P [.cell 4 94, .tmp 5] R) :=
  ⟨trivial, ⟨trivial, ⟨⟨by kernel_rfl, by kernel_rfl, fun _ _ _ h => h⟩, ⟨trivial, ⟨⟨trivial, ⟨⟨⟨⟨trivial, ⟨trivial, cutE (by intro x0 x4 x6 x7 x8 x43 ρ w; kernel_rfl)⟩⟩, trivial⟩, trivial⟩, cutE (by intro x0 x4 x6 x7 x8 x34 ρ w; kernel_rfl)⟩⟩, ⟨⟨⟨⟨by kernel_rfl, by kernel_rfl, fun _ _ _ h => h⟩, ⟨⟨⟨⟨by kernel_rfl, by kernel_rfl, fun _ _ _ h => h⟩, ⟨⟨by kernel_rfl, by kernel_rfl, fun _ _ _ h => h⟩, trivial⟩⟩, trivial⟩, cutE (by intro x0 x4 x6 x8 x88 ρ w; kernel_rfl)⟩⟩, ⟨⟨trivial, ⟨⟨trivial, (loopG (g_newPara.al1 R) (g_newPara.bl1 R) (fun _ => by kernel_rfl) (fun Xa => ⟨trivial, ⟨⟨by kernel_rfl, by kernel_rfl, fun _ _ _ h => h⟩, trivial⟩⟩) (fun Xa => by intro x0 x4 x6 x8 x11 ρ w; kernel_rfl) (fun X h _ _ _ _ _ _ g => g X h))⟩, trivial⟩⟩, ⟨trivial, cutE (by intro x4 x6 x8 ρ w; kernel_rfl)⟩⟩⟩, cutE (by intro x0 x4 x6 x7 x8 ρ w; kernel_rfl)⟩⟩⟩⟩⟩⟩
theorem g_newPara.eq (R : Ending → World → Prop) (x0 : Option Addr) (x1_0 : Int) (x1_1 : Int) (x1_2 : Int) (x1_3 : ByteArray) (x1_4 : Int) (w : World) : g_newPara R x0 x1_0 x1_1 x1_2 x1_3 x1_4 w = vcA P 175 (g_newPara.ac R) (QF P [.cell 4 94, .tmp 5] R) (fr0 [.pointer x0, .agg #[.int .i64 x1_0, .int .i64 x1_1, .int .i64 x1_2, .string x1_3, .int .u8 x1_4]]) w := by kernel_rfl
theorem g_newPara.sound {R : Ending → World → Prop} {x0 : Option Addr} {x1_0 : Int} {x1_1 : Int} {x1_2 : Int} {x1_3 : ByteArray} {x1_4 : Int} {w : World} (h : g_newPara R x0 x1_0 x1_1 x1_2 x1_3 x1_4 w) : callE P i_newPara #[.pointer x0, .agg #[.int .i64 x1_0, .int .i64 x1_1, .int .i64 x1_2, .string x1_3, .int .u8 x1_4]] R w :=
  callE_fin (c := g_newPara.body) Tryz.func49 Tryz.call49 (by kernel_rfl) (by kernel_rfl) (by kernel_rfl) (by kernel_rfl) (by kernel_rfl) (g_newPara.good R) (g_newPara.eq R x0 x1_0 x1_1 x1_2 x1_3 x1_4 w) h
end Go.Proofs.YtmkfleohcnopkaaGreatDoor

set_option linter.unusedVariables false
set_option maxRecDepth 20000
namespace Go.Proofs.YtmkfleohcnopkaaGreatDoor
open Go.Proofs
/- 79 pub-paratext/pub/rscmarkdown.newPre -/
noncomputable def g_newPre.body : Code := bodyOf Tryz.f79
def g_newPre.k2 (R : Ending → World → Prop) (x4 : Nat) (x6 : Nat) (x7 : Option Addr) (w : World) : Prop :=
 tk w fun w51 =>
 nilP x7 fun a52 =>
 ∃ (v53q : Option Addr), ∃ (v53n : Nat), ∃ (v53c : Nat), w51.cell? (a52.add 1) = some (.slice v53q v53n v53c) ∧
 callE P i_line_string #[.pointer (some ⟨x6, 0, none⟩)] (fun e w55 => ∃ (r54 : ByteArray), e = .returned (.string r54) ∧
 SameC w51 w55 (a52.add 1) 1 ∧
 ∃ (r56q : Option Addr), ∃ (r56n : Nat), ∃ (r56c : Nat), ∃ w57, (Instr.buildSlice ty_S_string 1 #[(0, .string r54)]).run P w55 = .ok (.slice r56q r56n r56c) w57 ∧
 SameC w55 w57 (a52.add 1) 1 ∧
 ∃ (r58q : Option Addr), ∃ (r58n : Nat), ∃ (r58c : Nat), ∃ w59, (Builtin.append_ #[ty_S_string, ty_S_string] ty_S_string #[.slice v53q v53n v53c, .slice r56q r56n r56c]).run P w57 = .ok (.slice r58q r58n r58c) w59 ∧
 nilP x7 fun a60 =>
 stV w59 ((a60.add 1).add 0) (.slice r58q r58n r58c) fun w61 =>
 stV w61 ⟨x4, 0, none⟩ (.int .i64 0) fun w62 =>
 stV w62 ⟨x4, 1, none⟩ (.int .i64 0) fun w63 =>
 stV w63 ⟨x4, 2, none⟩ (.int .i64 0) fun w64 =>
 stV w64 ⟨x4, 3, none⟩ (.string (ByteArray.mk #[])) fun w65 =>
 stV w65 ⟨x4, 4, none⟩ (.int .u8 0) fun w66 =>
 ∃ (v67 : Int), w66.cell? ⟨x4, 0, none⟩ = some (.int .i64 v67) ∧
 ∃ (v68 : Int), w66.cell? ⟨x4, 1, none⟩ = some (.int .i64 v68) ∧
 ∃ (v69 : Int), w66.cell? ⟨x4, 2, none⟩ = some (.int .i64 v69) ∧
 ∃ (v70 : ByteArray), w66.cell? ⟨x4, 3, none⟩ = some (.string v70) ∧
 ∃ (v71 : Int), w66.cell? ⟨x4, 4, none⟩ = some (.int .u8 v71) ∧
 R (.returned (.tuple #[.agg #[.int .i64 v67, .int .i64 v68, .int .i64 v69, .string v70, .int .u8 v71], .bool true])) w66) w51

def g_newPre.k1 (R : Ending → World → Prop) (x0 : Option Addr) (x3 : Nat) (x4 : Nat) (x6 : Nat) (x18 : Bool) (w : World) : Prop :=
 br x18
 (box w #[.string (ByteArray.mk #[]), .slice none 0 0] ty_preBuilder fun b25 w26 =>
 callE P i_parseState_addBlock #[.pointer x0, .iface ty_P_preBuilder (.pointer (some ⟨b25, 0, none⟩))] (fun e w28 => e = .returned (.tuple #[]) ∧
 nilP x0 fun a29 =>
 ∃ (v30 : Bool), w28.cell? (a29.add 6) = some (.bool v30) ∧
 br v30
 (nilP x0 fun a31 =>
 stV w28 ((a31.add 6).add 0) (.bool true) fun w32 =>
 g_newPre.k2 R x4 x6 (some ⟨b25, 0, none⟩) w32)
 (∃ (v33 : Int), w28.cell? ⟨x6, 4, none⟩ = some (.int .u8 v33) ∧
 nilP x0 fun a34 =>
 stV w28 ((a34.add 6).add 0) (.bool (v33 != 10)) fun w35 =>
 g_newPre.k2 R x4 x6 (some ⟨b25, 0, none⟩) w35)) w26)
 (∃ (v36 : Int), w.cell? ⟨x3, 0, none⟩ = some (.int .i64 v36) ∧
 ∃ (v37 : Int), w.cell? ⟨x3, 1, none⟩ = some (.int .i64 v37) ∧
 ∃ (v38 : Int), w.cell? ⟨x3, 2, none⟩ = some (.int .i64 v38) ∧
 ∃ (v39 : ByteArray), w.cell? ⟨x3, 3, none⟩ = some (.string v39) ∧
 ∃ (v40 : Int), w.cell? ⟨x3, 4, none⟩ = some (.int .u8 v40) ∧
 stV w ⟨x4, 0, none⟩ (.int .i64 v36) fun w41 =>
 stV w41 ⟨x4, 1, none⟩ (.int .i64 v37) fun w42 =>
 stV w42 ⟨x4, 2, none⟩ (.int .i64 v38) fun w43 =>
 stV w43 ⟨x4, 3, none⟩ (.string v39) fun w44 =>
 stV w44 ⟨x4, 4, none⟩ (.int .u8 v40) fun w45 =>
 ∃ (v46 : Int), w45.cell? ⟨x4, 0, none⟩ = some (.int .i64 v46) ∧
 ∃ (v47 : Int), w45.cell? ⟨x4, 1, none⟩ = some (.int .i64 v47) ∧
 ∃ (v48 : Int), w45.cell? ⟨x4, 2, none⟩ = some (.int .i64 v48) ∧
 ∃ (v49 : ByteArray), w45.cell? ⟨x4, 3, none⟩ = some (.string v49) ∧
 ∃ (v50 : Int), w45.cell? ⟨x4, 4, none⟩ = some (.int .u8 v50) ∧
 R (.returned (.tuple #[.agg #[.int .i64 v46, .int .i64 v47, .int .i64 v48, .string v49, .int .u8 v50], .bool false])) w45)

def g_newPre (R : Ending → World → Prop) (x0 : Option Addr) (x1_0 : Int) (x1_1 : Int) (x1_2 : Int) (x1_3 : ByteArray) (x1_4 : Int) (w : World) : Prop :=
 box w #[.int .i64 x1_0, .int .i64 x1_1, .int .i64 x1_2, .string x1_3, .int .u8 x1_4] ty_line fun b1 w2 =>
 box w2 #[.int .i64 0, .int .i64 0, .int .i64 0, .string (ByteArray.mk #[]), .int .u8 0] ty_line fun b3 w4 =>
 ∃ (v5 : Int), w4.cell? ⟨b1, 0, none⟩ = some (.int .i64 v5) ∧
 ∃ (v6 : Int), w4.cell? ⟨b1, 1, none⟩ = some (.int .i64 v6) ∧
 ∃ (v7 : Int), w4.cell? ⟨b1, 2, none⟩ = some (.int .i64 v7) ∧
 ∃ (v8 : ByteArray), w4.cell? ⟨b1, 3, none⟩ = some (.string v8) ∧
 ∃ (v9 : Int), w4.cell? ⟨b1, 4, none⟩ = some (.int .u8 v9) ∧
 box w4 #[.int .i64 0, .int .i64 0, .int .i64 0, .string (ByteArray.mk #[]), .int .u8 0] ty_line fun b10 w11 =>
 stV w11 ⟨b10, 0, none⟩ (.int .i64 v5) fun w12 =>
 stV w12 ⟨b10, 1, none⟩ (.int .i64 v6) fun w13 =>
 stV w13 ⟨b10, 2, none⟩ (.int .i64 v7) fun w14 =>
 stV w14 ⟨b10, 3, none⟩ (.string v8) fun w15 =>
 stV w15 ⟨b10, 4, none⟩ (.int .u8 v9) fun w16 =>
 callE P i_parseState_para #[.pointer x0] (fun e w18 => ∃ (r17 : Option Addr), e = .returned (.pointer r17) ∧
 ∃ (r19 : Bool), ∃ w20, (do eqGuard .eql ty_P_paraBuilder (.tmp 10) (.const (.pointer none)) (.pointer r17) (.pointer none); binOp .eql ty_P_paraBuilder (.pointer r17) (.pointer none)).run P w18 = .ok (.bool r19) w20 ∧
 br r19
 (callE P i_line_trimSpace #[.pointer (some ⟨b10, 0, none⟩), .int .i64 4, .int .i64 4, .bool false] (fun e w22 => ∃ (r21 : Bool), e = .returned (.bool r21) ∧
 br r21
 (callE P i_line_isBlank #[.pointer (some ⟨b10, 0, none⟩)] (fun e w24 => ∃ (r23 : Bool), e = .returned (.bool r23) ∧
 g_newPre.k1 R x0 b1 b3 b10 (!r23) w24) w22)
 (g_newPre.k1 R x0 b1 b3 b10 false w22)) w20)
 (g_newPre.k1 R x0 b1 b3 b10 false w20)) w16

noncomputable def g_newPre.ac (R : Ending → World → Prop) : AC :=
  (.seq (.leaf (sel [0] g_newPre.body)) (.seq (.leaf (sel [1, 0] g_newPre.body)) (.seq (.seq (.leaf (sel [1, 1, 0, 0] g_newPre.body)) (.mark (leaf [(0, .s .ptr), (3, .s .loc), (4, .s .loc), (6, .s .loc), (18, .s .bool)] (g_newPre.k1 R)) (.cond 18 (.seq (.leaf (sel [1, 1, 0, 1, 0, 0] g_newPre.body)) (.seq (.leaf (sel [1, 1, 0, 1, 0, 1, 0] g_newPre.body)) (.seq (.leaf (sel [1, 1, 0, 1, 0, 1, 1, 0] g_newPre.body)) (.mark (leaf [(4, .s .loc), (6, .s .loc), (7, .s .ptr)] (g_newPre.k2 R)) (.seq (.draw (.pure 0 (.pure 1 (.pure 2 (.pure 3 (.load 4 (.one 5 (.one 6 (.one 7 (.pure 8 (.pure 9 (.one 10 .done))))))))))) (sel [1, 1, 0, 1, 0, 1, 1, 1, 0] g_newPre.body)) (.leaf (sel [1, 1, 0, 1, 0, 1, 1, 1, 1] g_newPre.body))))))) (.leaf (sel [1, 1, 0, 1, 1] g_newPre.body))))) (.leaf (sel [1, 1, 1] g_newPre.body)))))
theorem g_newPre.good (R : Ending → World → Prop) : Good P 49 (g_newPre.ac R) (QF P [.cell 4 94, .tmp 5] R) :=
  ⟨trivial, ⟨trivial, ⟨⟨trivial, ⟨⟨⟨trivial, ⟨trivial, ⟨trivial, ⟨⟨⟨by kernel_rfl, by kernel_rfl, fun _ _ _ h => h⟩, trivial⟩, cutE (by intro x4 x6 x7 ρ w; kernel_rfl)⟩⟩⟩⟩, trivial⟩, cutE (by intro x0 x3 x4 x6 x18 ρ w; kernel_rfl)⟩⟩, trivial⟩⟩⟩
theorem g_newPre.eq (R : Ending → World → Prop) (x0 : Option Addr) (x1_0 : Int) (x1_1 : Int) (x1_2 : Int) (x1_3 : ByteArray) (x1_4 : Int) (w : World) : g_newPre R x0 x1_0 x1_1 x1_2 x1_3 x1_4 w = vcA P 49 (g_newPre.ac R) (QF P [.cell 4 94, .tmp 5] R) (fr0 [.pointer x0, .agg #[.int .i64 x1_0, .int .i64 x1_1, .int .i64 x1_2, .string x1_3, .int .u8 x1_4]]) w := by kernel_rfl
theorem g_newPre.sound {R : Ending → World → Prop} {x0 : Option Addr} {x1_0 : Int} {x1_1 : Int} {x1_2 : Int} {x1_3 : ByteArray} {x1_4 : Int} {w : World} (h : g_newPre R x0 x1_0 x1_1 x1_2 x1_3 x1_4 w) : callE P i_newPre #[.pointer x0, .agg #[.int .i64 x1_0, .int .i64 x1_1, .int .i64 x1_2, .string x1_3, .int .u8 x1_4]] R w :=
  callE_fin (c := g_newPre.body) Tryz.func79 Tryz.call79 (by kernel_rfl) (by kernel_rfl) (by kernel_rfl) (by kernel_rfl) (by kernel_rfl) (g_newPre.good R) (g_newPre.eq R x0 x1_0 x1_1 x1_2 x1_3 x1_4 w) h
end Go.Proofs.YtmkfleohcnopkaaGreatDoor
