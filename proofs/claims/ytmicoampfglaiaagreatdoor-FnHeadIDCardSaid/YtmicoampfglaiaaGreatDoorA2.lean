/- Part 2 of the proof of the law FnHeadID: for every input the law returns true, the inputs read as they did, and memory that was there is as it was; under the conditions of the given row alone. Holds: G_zzTrimRight G_zzTrimSpace G_internal_bytealg_LastIndexByteString G_internal_strconv_FormatInt G_internal_strconv_Itoa G_internal_strconv_small G_laws_word G_strconv_Itoa G_strings_LastIndexByte G_trimRightSpaceTab G_isDigit G_isHexDigit G_laws_digits G_parseHTMLEntity G_internal_strconv_Atoi G_internal_strconv_ParseInt G_internal_strconv_ParseUint G_internal_strconv_lower G_strconv_Atoi G_strconv_ParseInt G_isPunct G_isUnicodePunct G_isUnicodeSpace G_parseEmph G_unicode_utf8_DecodeLastRuneInString G_unicode_utf8_DecodeRuneInString G_parseState_inline G_parseState_mergePlain G_mergePlain1 G_toPlain G_parseState_emph G_parseState_emit G_parseState_skip G_parseState_closeBlock G_rootBuilder_build G_paraBuilder_build G_parseState_newText G_parseState_pos G_parseLinkLabel G_parseLinkRefDef G_skipSpace. -/
import Derived.Test.YtmicoampfglaiaaGreatDoorA1
set_option linter.all false
set_option linter.unusedVariables false
set_option maxRecDepth 20000
namespace Go.Proofs.YtmicoampfglaiaaGreatDoor
open Go.Proofs
/- 128 pub-paratext/pub/rscmarkdown.zzTrimRight -/
namespace g_zzTrimRight
noncomputable def body : Code := bodyOf Tryz.f128
def k1 (R : EP) (x0 : BA) (x5 : Int) (w : World) : Prop :=
 0 ≤ x5 ∧ x5 ≤ (x0.size : Int) ∧
 R (.returned (.string (x0.extract 0 (Int.toNat x5)))) w

def bl2 (R : EP) (Xa : BA → BA → Int → WP) (Xb : BA → BA → Int → Bool → Int → WP) (x0 : BA) (x1 : BA) (x5 : Int) (x6 : Bool) (x7 : Int) (w : World) : Prop :=
 br (decide (x7 < (x1.size : Int)))
 (tk w fun w1 =>
 0 ≤ x7 ∧ x7 < (x1.size : Int) ∧
 0 ≤ (IntKind.i64.wrap (x5 - 1)) ∧ (IntKind.i64.wrap (x5 - 1)) < (x0.size : Int) ∧
 br ((bt x1 x7) == (bt x0 (IntKind.i64.wrap (x5 - 1))))
 (Xb x0 x1 x5 true (IntKind.i64.wrap (x7 + 1)) w1)
 (Xb x0 x1 x5 x6 (IntKind.i64.wrap (x7 + 1)) w1))
 (br (!x6)
 (k1 R x0 x5 w)
 (Xa x0 x1 (IntKind.i64.wrap (x5 - 1)) w))
def l2 (R : EP) (Xa : BA → BA → Int → WP) (x0 : BA) (x1 : BA) (x5 : Int) (x6 : Bool) (x7 : Int) (w : World) : Prop :=
  ∀ X : BA → BA → Int → Bool → Int → WP, (∀ x0 x1 x5 x6 x7 w, bl2 R Xa X x0 x1 x5 x6 x7 w → X x0 x1 x5 x6 x7 w) → X x0 x1 x5 x6 x7 w

noncomputable def al2 (R : EP) (Xa : BA → BA → Int → WP) (Xb : BA → BA → Int → Bool → Int → WP) : AC :=
  (.seq (.leaf (sel [1, 1, 0, 0, 0, 1, 0, 1, 0, 1, 0, 0, 0] body)) (.seq (.block 3 (.seq (.draw (.pure 0 (.pure 1 (.pure 2 (.pure 3 (.pure 4 (.pure 5 (.pure 6 (.pure 7 .done)))))))) (sel [1, 1, 0, 0, 0, 1, 0, 1, 0, 1, 0, 0, 1, 0, 0, 0] body)) (.leaf (sel [1, 1, 0, 0, 0, 1, 0, 1, 0, 1, 0, 0, 1, 0, 0, 1] body)))) (.leaf (sel [1, 1, 0, 0, 0, 1, 0, 1, 0, 1, 0, 0, 1, 1] body))))
def bl1 (R : EP) (Xa : BA → BA → Int → WP) (x0 : BA) (x1 : BA) (x5 : Int) (w : World) : Prop :=
 br (decide (x5 > 0))
 (l2 R Xa x0 x1 x5 false 0 w)
 (k1 R x0 x5 w)
def l1 (R : EP) (x0 : BA) (x1 : BA) (x5 : Int) (w : World) : Prop :=
  ∀ X : BA → BA → Int → WP, (∀ x0 x1 x5 w, bl1 R X x0 x1 x5 w → X x0 x1 x5 w) → X x0 x1 x5 w

noncomputable def al1 (R : EP) (Xa : BA → BA → Int → WP) : AC :=
  (.seq (.leaf (sel [1, 1, 0, 0, 0, 0] body)) (.block 1 (.seq (.leaf (sel [1, 1, 0, 0, 0, 1, 0, 0] body)) (.seq (.seq (.leaf (sel [1, 1, 0, 0, 0, 1, 0, 1, 0, 0] body)) (.block 2 (.loop (leaf [(0, .s .str), (1, .s .str), (5, .s (.int .i64)), (6, .s .bool), (7, .s (.int .i64))] (l2 R Xa)) (sel [1, 1, 0, 0, 0, 1, 0, 1, 0, 1, 0, 0] body)))) (.leaf (sel [1, 1, 0, 0, 0, 1, 0, 1, 1] body))))))
end g_zzTrimRight
def g_zzTrimRight (R : EP) (x0 : BA) (x1 : BA) (w : World) : Prop :=
 g_zzTrimRight.l1 R x0 x1 (x0.size : Int) w

noncomputable def g_zzTrimRight.ac (R : EP) : AC :=
  (.seq (.leaf (sel [0] g_zzTrimRight.body)) (.seq (.leaf (sel [1, 0] g_zzTrimRight.body)) (.seq (.block 0 (.loop (leaf [(0, .s .str), (1, .s .str), (5, .s (.int .i64))] (g_zzTrimRight.l1 R)) (sel [1, 1, 0, 0, 0] g_zzTrimRight.body))) (.mark (leaf [(0, .s .str), (5, .s (.int .i64))] (g_zzTrimRight.k1 R)) (.leaf (sel [1, 1, 1] g_zzTrimRight.body))))))
theorem g_zzTrimRight.good (R : EP) : Good P 33 (g_zzTrimRight.ac R) (QF P [.tmp 4] R) :=
  ⟨trivial, ⟨trivial, ⟨(loopG (g_zzTrimRight.al1 R) (g_zzTrimRight.bl1 R) (fun _ => by kernel_rfl) (fun Xa => ⟨trivial, ⟨trivial, ⟨⟨trivial, (loopG (g_zzTrimRight.al2 R Xa) (g_zzTrimRight.bl2 R Xa) (fun _ => by kernel_rfl) (fun Xb => ⟨trivial, ⟨⟨⟨by kernel_rfl, by kernel_rfl, fun _ _ _ h => h⟩, trivial⟩, trivial⟩⟩) (fun Xb => by intro x0 x1 x5 x6 x7 ρ w; kernel_rfl) (fun X h _ _ _ _ _ _ g => g X h))⟩, trivial⟩⟩⟩) (fun Xa => by intro x0 x1 x5 ρ w; kernel_rfl) (fun X h _ _ _ _ g => g X h)), ⟨trivial, cutE (by intro x0 x5 ρ w; kernel_rfl)⟩⟩⟩⟩
theorem g_zzTrimRight.eq (R : EP) (x0 : BA) (x1 : BA) (w : World) : g_zzTrimRight R x0 x1 w = vcA P 33 (g_zzTrimRight.ac R) (QF P [.tmp 4] R) (fr0 [.string x0, .string x1]) w := by kernel_rfl
theorem g_zzTrimRight.sound {R : EP} {x0 : ByteArray} {x1 : ByteArray} {w : World} (h : g_zzTrimRight R x0 x1 w) : callE P i_zzTrimRight #[.string x0, .string x1] R w :=
  callE_fin (c := g_zzTrimRight.body) Tryz.func128 Tryz.call128 (by kernel_rfl) (by kernel_rfl) (by kernel_rfl) (by kernel_rfl) (by kernel_rfl) (g_zzTrimRight.good R) (g_zzTrimRight.eq R x0 x1 w) h
/- 146 pub-paratext/pub/rscmarkdown.zzTrimSpace -/
namespace g_zzTrimSpace
noncomputable def body : Code := bodyOf Tryz.f146
def bl2 (R : EP) (Xa : BA → WP) (x0 : BA) (w : World) : Prop :=
 br (decide ((x0.size : Int) > 0))
 (callE P i_unicode_utf8_DecodeLastRuneInString #[.string x0] (fun e w6 => ∃ (r5_0 : Int), ∃ (r5_1 : Int), e = .returned (.tuple #[.int .i32 r5_0, .int .i64 r5_1]) ∧
 callE P i_zzSpace #[.int .i32 r5_0] (fun e w8 => ∃ (r7 : Bool), e = .returned (.bool r7) ∧
 br (!r7)
 (R (.returned (.string x0)) w8)
 (0 ≤ (IntKind.i64.wrap ((x0.size : Int) - r5_1)) ∧ (IntKind.i64.wrap ((x0.size : Int) - r5_1)) ≤ (x0.size : Int) ∧
 Xa (x0.extract 0 (Int.toNat (IntKind.i64.wrap ((x0.size : Int) - r5_1)))) w8)) w6) w)
 (R (.returned (.string x0)) w)
def l2 (R : EP) (x0 : BA) (w : World) : Prop :=
  ∀ X : BA → WP, (∀ x0 w, bl2 R X x0 w → X x0 w) → X x0 w

noncomputable def al2 (R : EP) (Xa : BA → WP) : AC :=
  (.leaf (sel [1, 1, 0, 0, 0] body))
def k1 (R : EP) (x0 : BA) (w : World) : Prop :=
 l2 R x0 w

def bl1 (R : EP) (Xb : BA → WP) (x0 : BA) (w : World) : Prop :=
 br (decide ((x0.size : Int) > 0))
 (callE P i_unicode_utf8_DecodeRuneInString #[.string x0] (fun e w2 => ∃ (r1_0 : Int), ∃ (r1_1 : Int), e = .returned (.tuple #[.int .i32 r1_0, .int .i64 r1_1]) ∧
 callE P i_zzSpace #[.int .i32 r1_0] (fun e w4 => ∃ (r3 : Bool), e = .returned (.bool r3) ∧
 br (!r3)
 (k1 R x0 w4)
 (0 ≤ r1_1 ∧ r1_1 ≤ (x0.size : Int) ∧
 Xb (x0.extract (Int.toNat r1_1) x0.size) w4)) w2) w)
 (k1 R x0 w)
def l1 (R : EP) (x0 : BA) (w : World) : Prop :=
  ∀ X : BA → WP, (∀ x0 w, bl1 R X x0 w → X x0 w) → X x0 w

noncomputable def al1 (R : EP) (Xb : BA → WP) : AC :=
  (.leaf (sel [1, 0, 0, 0] body))
end g_zzTrimSpace
def g_zzTrimSpace (R : EP) (x0 : BA) (w : World) : Prop :=
 g_zzTrimSpace.l1 R x0 w

noncomputable def g_zzTrimSpace.ac (R : EP) : AC :=
  (.seq (.leaf (sel [0] g_zzTrimSpace.body)) (.seq (.block 0 (.loop (leaf [(0, .s .str)] (g_zzTrimSpace.l1 R)) (sel [1, 0, 0, 0] g_zzTrimSpace.body))) (.mark (leaf [(0, .s .str)] (g_zzTrimSpace.k1 R)) (.seq (.block 2 (.loop (leaf [(0, .s .str)] (g_zzTrimSpace.l2 R)) (sel [1, 1, 0, 0, 0] g_zzTrimSpace.body))) (.leaf (sel [1, 1, 1] g_zzTrimSpace.body))))))
theorem g_zzTrimSpace.good (R : EP) : Good P 39 (g_zzTrimSpace.ac R) (QF P [.tmp 2] R) :=
  ⟨trivial, ⟨(loopG (g_zzTrimSpace.al1 R) (g_zzTrimSpace.bl1 R) (fun _ => by kernel_rfl) (fun Xb => trivial) (fun Xb => by intro x0 ρ w; kernel_rfl) (fun X h _ _ g => g X h)), ⟨⟨(loopG (g_zzTrimSpace.al2 R) (g_zzTrimSpace.bl2 R) (fun _ => by kernel_rfl) (fun Xa => trivial) (fun Xa => by intro x0 ρ w; kernel_rfl) (fun X h _ _ g => g X h)), trivial⟩, cutE (by intro x0 ρ w; kernel_rfl)⟩⟩⟩
theorem g_zzTrimSpace.eq (R : EP) (x0 : BA) (w : World) : g_zzTrimSpace R x0 w = vcA P 39 (g_zzTrimSpace.ac R) (QF P [.tmp 2] R) (fr0 [.string x0]) w := by kernel_rfl
theorem g_zzTrimSpace.sound {R : EP} {x0 : ByteArray} {w : World} (h : g_zzTrimSpace R x0 w) : callE P i_zzTrimSpace #[.string x0] R w :=
  callE_fin (c := g_zzTrimSpace.body) Tryz.func146 Tryz.call146 (by kernel_rfl) (by kernel_rfl) (by kernel_rfl) (by kernel_rfl) (by kernel_rfl) (g_zzTrimSpace.good R) (g_zzTrimSpace.eq R x0 w) h
/- 196 internal/bytealg.LastIndexByteString -/
namespace g_internal_bytealg_LastIndexByteString
noncomputable def body : Code := bodyOf Tryz.f196
def bl1 (R : EP) (Xa : BA → Int → Int → WP) (x0 : BA) (x1 : Int) (x5 : Int) (w : World) : Prop :=
 br (decide (x5 ≥ 0))
 (0 ≤ x5 ∧ x5 < (x0.size : Int) ∧
 br ((bt x0 x5) == x1)
 (R (.returned (.int .i64 x5)) w)
 (Xa x0 x1 (IntKind.i64.wrap (x5 - 1)) w))
 (R (.returned (.int .i64 (-1))) w)
def l1 (R : EP) (x0 : BA) (x1 : Int) (x5 : Int) (w : World) : Prop :=
  ∀ X : BA → Int → Int → WP, (∀ x0 x1 x5 w, bl1 R X x0 x1 x5 w → X x0 x1 x5 w) → X x0 x1 x5 w

noncomputable def al1 (R : EP) (Xa : BA → Int → Int → WP) : AC :=
  (.leaf (sel [1, 0, 1, 0, 0] body))
end g_internal_bytealg_LastIndexByteString
def g_internal_bytealg_LastIndexByteString (R : EP) (x0 : BA) (x1 : Int) (w : World) : Prop :=
 g_internal_bytealg_LastIndexByteString.l1 R x0 x1 (IntKind.i64.wrap ((x0.size : Int) - 1)) w

noncomputable def g_internal_bytealg_LastIndexByteString.ac (R : EP) : AC :=
  (.seq (.leaf (sel [0] g_internal_bytealg_LastIndexByteString.body)) (.seq (.seq (.leaf (sel [1, 0, 0] g_internal_bytealg_LastIndexByteString.body)) (.block 0 (.loop (leaf [(0, .s .str), (1, .s (.int .u8)), (5, .s (.int .i64))] (g_internal_bytealg_LastIndexByteString.l1 R)) (sel [1, 0, 1, 0, 0] g_internal_bytealg_LastIndexByteString.body)))) (.leaf (sel [1, 1] g_internal_bytealg_LastIndexByteString.body))))
theorem g_internal_bytealg_LastIndexByteString.good (R : EP) : Good P 19 (g_internal_bytealg_LastIndexByteString.ac R) (QF P [.tmp 4] R) :=
  ⟨trivial, ⟨⟨trivial, (loopG (g_internal_bytealg_LastIndexByteString.al1 R) (g_internal_bytealg_LastIndexByteString.bl1 R) (fun _ => by kernel_rfl) (fun Xa => trivial) (fun Xa => by intro x0 x1 x5 ρ w; kernel_rfl) (fun X h _ _ _ _ g => g X h))⟩, trivial⟩⟩
theorem g_internal_bytealg_LastIndexByteString.eq (R : EP) (x0 : BA) (x1 : Int) (w : World) : g_internal_bytealg_LastIndexByteString R x0 x1 w = vcA P 19 (g_internal_bytealg_LastIndexByteString.ac R) (QF P [.tmp 4] R) (fr0 [.string x0, .int .u8 x1]) w := by kernel_rfl
theorem g_internal_bytealg_LastIndexByteString.sound {R : EP} {x0 : ByteArray} {x1 : Int} {w : World} (h : g_internal_bytealg_LastIndexByteString R x0 x1 w) : callE P i_internal_bytealg_LastIndexByteString #[.string x0, .int .u8 x1] R w :=
  callE_fin (c := g_internal_bytealg_LastIndexByteString.body) Tryz.func196 Tryz.call196 (by kernel_rfl) (by kernel_rfl) (by kernel_rfl) (by kernel_rfl) (by kernel_rfl) (g_internal_bytealg_LastIndexByteString.good R) (g_internal_bytealg_LastIndexByteString.eq R x0 x1 w) h
/- 207 internal/strconv.FormatInt -/
namespace g_internal_strconv_FormatInt
noncomputable def body : Code := bodyOf Tryz.f207
def k2 (R : EP) (x0 : Int) (x5 : Nat) (x6 : Int) (w : World) : Prop :=
 callE P i_internal_strconv_numDigits #[.int .u64 x6] (fun e w8 => ∃ (r7 : Int), e = .returned (.int .i64 r7) ∧
 ∃ (r9q : OA), ∃ (r9n : Nat), ∃ (r9c : Nat), ∃ w10, (Instr.sliceAt ty_24_uint8 (.pointer (some ⟨x5, 0, none⟩)) (some (.int .i64 1)) (some (.int .i64 (IntKind.i64.wrap (1 + r7)))) none).run P w8 = .ok (.slice r9q r9n r9c) w10 ∧
 callE P i_internal_strconv_formatBase10 #[.slice r9q r9n r9c, .int .u64 x6] (fun e w12 => e = .returned (.tuple #[]) ∧
 br (decide (x0 < 0))
 (0 ≤ (0 : Int) ∧ 0 < (24 : Int) ∧
 stV w12 ⟨x5, 0, none⟩ (.int .u8 45) fun w13 =>
 ∃ (r14q : OA), ∃ (r14n : Nat), ∃ (r14c : Nat), ∃ w15, (Instr.sliceAt ty_24_uint8 (.pointer (some ⟨x5, 0, none⟩)) none (some (.int .i64 (IntKind.i64.wrap (1 + r7)))) none).run P w13 = .ok (.slice r14q r14n r14c) w15 ∧
 ∃ (r16 : BA), ∃ w17, (convert ty_S_uint8 ty_string (.slice r14q r14n r14c)).run P w15 = .ok (.string r16) w17 ∧
 R (.returned (.string r16)) w17)
 (∃ (r18q : OA), ∃ (r18n : Nat), ∃ (r18c : Nat), ∃ w19, (Instr.sliceAt ty_24_uint8 (.pointer (some ⟨x5, 0, none⟩)) (some (.int .i64 1)) (some (.int .i64 (IntKind.i64.wrap (1 + r7)))) none).run P w12 = .ok (.slice r18q r18n r18c) w19 ∧
 ∃ (r20 : BA), ∃ w21, (convert ty_S_uint8 ty_string (.slice r18q r18n r18c)).run P w19 = .ok (.string r20) w21 ∧
 R (.returned (.string r20)) w21)) w10) w

def k1 (R : EP) (x0 : Int) (w : World) : Prop :=
 box w #[.int .u8 0, .int .u8 0, .int .u8 0, .int .u8 0, .int .u8 0, .int .u8 0, .int .u8 0, .int .u8 0, .int .u8 0, .int .u8 0, .int .u8 0, .int .u8 0, .int .u8 0, .int .u8 0, .int .u8 0, .int .u8 0, .int .u8 0, .int .u8 0, .int .u8 0, .int .u8 0, .int .u8 0, .int .u8 0, .int .u8 0, .int .u8 0] ty_24_uint8 fun b5 w6 =>
 br (decide (x0 < 0))
 (k2 R x0 b5 (IntKind.u64.wrap (0 - (IntKind.u64.wrap x0))) w6)
 (k2 R x0 b5 (IntKind.u64.wrap x0) w6)

end g_internal_strconv_FormatInt
def g_internal_strconv_FormatInt (R : EP) (x0 : Int) (x1 : Int) (w : World) : Prop :=
 br (x1 == 10)
 (br ((decide (0 ≤ x0)) && (decide (x0 < 100)))
 (callE P i_internal_strconv_small #[.int .i64 x0] (fun e w2 => ∃ (r1 : BA), e = .returned (.string r1) ∧
 R (.returned (.string r1)) w2) w)
 (g_internal_strconv_FormatInt.k1 R x0 w))
 (callE P i_internal_strconv_formatBits #[.slice none 0 0, .int .u64 (IntKind.u64.wrap x0), .int .i64 x1, .bool (decide (x0 < 0)), .bool false] (fun e w4 => ∃ (r3_0q : OA), ∃ (r3_0n : Nat), ∃ (r3_0c : Nat), ∃ (r3_1 : BA), e = .returned (.tuple #[.slice r3_0q r3_0n r3_0c, .string r3_1]) ∧
 R (.returned (.string r3_1)) w4) w)

noncomputable def g_internal_strconv_FormatInt.ac (R : EP) : AC :=
  (.seq (.leaf (sel [0] g_internal_strconv_FormatInt.body)) (.seq (.seq (.leaf (sel [1, 0, 0] g_internal_strconv_FormatInt.body)) (.cond 11 (.seq (.leaf (sel [1, 0, 1, 0, 0] g_internal_strconv_FormatInt.body)) (.mark (leaf [(0, .s (.int .i64))] (g_internal_strconv_FormatInt.k1 R)) (.seq (.leaf (sel [1, 0, 1, 0, 1, 0] g_internal_strconv_FormatInt.body)) (.seq (.leaf (sel [1, 0, 1, 0, 1, 1, 0] g_internal_strconv_FormatInt.body)) (.seq (.leaf (sel [1, 0, 1, 0, 1, 1, 1, 0] g_internal_strconv_FormatInt.body)) (.mark (leaf [(0, .s (.int .i64)), (5, .s .loc), (6, .s (.int .u64))] (g_internal_strconv_FormatInt.k2 R)) (.leaf (sel [1, 0, 1, 0, 1, 1, 1, 1] g_internal_strconv_FormatInt.body)))))))) (.leaf (sel [1, 0, 1, 1] g_internal_strconv_FormatInt.body)))) (.leaf (sel [1, 1] g_internal_strconv_FormatInt.body))))
theorem g_internal_strconv_FormatInt.good (R : EP) : Good P 54 (g_internal_strconv_FormatInt.ac R) (QF P [.tmp 4] R) :=
  ⟨trivial, ⟨⟨trivial, ⟨⟨trivial, ⟨⟨trivial, ⟨trivial, ⟨trivial, ⟨trivial, cutE (by intro x0 x5 x6 ρ w; kernel_rfl)⟩⟩⟩⟩, cutE (by intro x0 ρ w; kernel_rfl)⟩⟩, trivial⟩⟩, trivial⟩⟩
theorem g_internal_strconv_FormatInt.eq (R : EP) (x0 : Int) (x1 : Int) (w : World) : g_internal_strconv_FormatInt R x0 x1 w = vcA P 54 (g_internal_strconv_FormatInt.ac R) (QF P [.tmp 4] R) (fr0 [.int .i64 x0, .int .i64 x1]) w := by kernel_rfl
theorem g_internal_strconv_FormatInt.sound {R : EP} {x0 : Int} {x1 : Int} {w : World} (h : g_internal_strconv_FormatInt R x0 x1 w) : callE P i_internal_strconv_FormatInt #[.int .i64 x0, .int .i64 x1] R w :=
  callE_fin (c := g_internal_strconv_FormatInt.body) Tryz.func207 Tryz.call207 (by kernel_rfl) (by kernel_rfl) (by kernel_rfl) (by kernel_rfl) (by kernel_rfl) (g_internal_strconv_FormatInt.good R) (g_internal_strconv_FormatInt.eq R x0 x1 w) h
/- 206 internal/strconv.Itoa -/
namespace g_internal_strconv_Itoa
noncomputable def body : Code := bodyOf Tryz.f206
end g_internal_strconv_Itoa
def g_internal_strconv_Itoa (R : EP) (x0 : Int) (w : World) : Prop :=
 callE P i_internal_strconv_FormatInt #[.int .i64 x0, .int .i64 10] (fun e w2 => ∃ (r1 : BA), e = .returned (.string r1) ∧
 R (.returned (.string r1)) w2) w

noncomputable def g_internal_strconv_Itoa.ac (R : EP) : AC :=
  (.leaf (sel [] g_internal_strconv_Itoa.body))
theorem g_internal_strconv_Itoa.good (R : EP) : Good P 5 (g_internal_strconv_Itoa.ac R) (QF P [.tmp 2] R) :=
  trivial
theorem g_internal_strconv_Itoa.eq (R : EP) (x0 : Int) (w : World) : g_internal_strconv_Itoa R x0 w = vcA P 5 (g_internal_strconv_Itoa.ac R) (QF P [.tmp 2] R) (fr0 [.int .i64 x0]) w := by kernel_rfl
theorem g_internal_strconv_Itoa.sound {R : EP} {x0 : Int} {w : World} (h : g_internal_strconv_Itoa R x0 w) : callE P i_internal_strconv_Itoa #[.int .i64 x0] R w :=
  callE_fin (c := g_internal_strconv_Itoa.body) Tryz.func206 Tryz.call206 (by kernel_rfl) (by kernel_rfl) (by kernel_rfl) (by kernel_rfl) (by kernel_rfl) (g_internal_strconv_Itoa.good R) (g_internal_strconv_Itoa.eq R x0 w) h
/- 208 internal/strconv.small -/
namespace g_internal_strconv_small
noncomputable def body : Code := bodyOf Tryz.f208
end g_internal_strconv_small
def g_internal_strconv_small (R : EP) (x0 : Int) (w : World) : Prop :=
 br (decide (x0 < 10))
 (0 ≤ x0 ∧ x0 ≤ (IntKind.i64.wrap (x0 + 1)) ∧ (IntKind.i64.wrap (x0 + 1)) ≤ ((ByteArray.mk #[48, 49, 50, 51, 52, 53, 54, 55, 56, 57, 97, 98, 99, 100, 101, 102, 103, 104, 105, 106, 107, 108, 109, 110, 111, 112, 113, 114, 115, 116, 117, 118, 119, 120, 121, 122]).size : Int) ∧
 R (.returned (.string ((ByteArray.mk #[48, 49, 50, 51, 52, 53, 54, 55, 56, 57, 97, 98, 99, 100, 101, 102, 103, 104, 105, 106, 107, 108, 109, 110, 111, 112, 113, 114, 115, 116, 117, 118, 119, 120, 121, 122]).extract (Int.toNat x0) (Int.toNat (IntKind.i64.wrap (x0 + 1)))))) w)
 (0 ≤ (IntKind.i64.wrap (x0 * 2)) ∧ (IntKind.i64.wrap (x0 * 2)) ≤ (IntKind.i64.wrap ((IntKind.i64.wrap (x0 * 2)) + 2)) ∧ (IntKind.i64.wrap ((IntKind.i64.wrap (x0 * 2)) + 2)) ≤ ((ByteArray.mk #[48, 48, 48, 49, 48, 50, 48, 51, 48, 52, 48, 53, 48, 54, 48, 55, 48, 56, 48, 57, 49, 48, 49, 49, 49, 50, 49, 51, 49, 52, 49, 53, 49, 54, 49, 55, 49, 56, 49, 57, 50, 48, 50, 49, 50, 50, 50, 51, 50, 52, 50, 53, 50, 54, 50, 55, 50, 56, 50, 57, 51, 48, 51, 49, 51, 50, 51, 51, 51, 52, 51, 53, 51, 54, 51, 55, 51, 56, 51, 57, 52, 48, 52, 49, 52, 50, 52, 51, 52, 52, 52, 53, 52, 54, 52, 55, 52, 56, 52, 57, 53, 48, 53, 49, 53, 50, 53, 51, 53, 52, 53, 53, 53, 54, 53, 55, 53, 56, 53, 57, 54, 48, 54, 49, 54, 50, 54, 51, 54, 52, 54, 53, 54, 54, 54, 55, 54, 56, 54, 57, 55, 48, 55, 49, 55, 50, 55, 51, 55, 52, 55, 53, 55, 54, 55, 55, 55, 56, 55, 57, 56, 48, 56, 49, 56, 50, 56, 51, 56, 52, 56, 53, 56, 54, 56, 55, 56, 56, 56, 57, 57, 48, 57, 49, 57, 50, 57, 51, 57, 52, 57, 53, 57, 54, 57, 55, 57, 56, 57, 57]).size : Int) ∧
 R (.returned (.string ((ByteArray.mk #[48, 48, 48, 49, 48, 50, 48, 51, 48, 52, 48, 53, 48, 54, 48, 55, 48, 56, 48, 57, 49, 48, 49, 49, 49, 50, 49, 51, 49, 52, 49, 53, 49, 54, 49, 55, 49, 56, 49, 57, 50, 48, 50, 49, 50, 50, 50, 51, 50, 52, 50, 53, 50, 54, 50, 55, 50, 56, 50, 57, 51, 48, 51, 49, 51, 50, 51, 51, 51, 52, 51, 53, 51, 54, 51, 55, 51, 56, 51, 57, 52, 48, 52, 49, 52, 50, 52, 51, 52, 52, 52, 53, 52, 54, 52, 55, 52, 56, 52, 57, 53, 48, 53, 49, 53, 50, 53, 51, 53, 52, 53, 53, 53, 54, 53, 55, 53, 56, 53, 57, 54, 48, 54, 49, 54, 50, 54, 51, 54, 52, 54, 53, 54, 54, 54, 55, 54, 56, 54, 57, 55, 48, 55, 49, 55, 50, 55, 51, 55, 52, 55, 53, 55, 54, 55, 55, 55, 56, 55, 57, 56, 48, 56, 49, 56, 50, 56, 51, 56, 52, 56, 53, 56, 54, 56, 55, 56, 56, 56, 57, 57, 48, 57, 49, 57, 50, 57, 51, 57, 52, 57, 53, 57, 54, 57, 55, 57, 56, 57, 57]).extract (Int.toNat (IntKind.i64.wrap (x0 * 2))) (Int.toNat (IntKind.i64.wrap ((IntKind.i64.wrap (x0 * 2)) + 2)))))) w)

noncomputable def g_internal_strconv_small.ac (R : EP) : AC :=
  (.leaf (sel [] g_internal_strconv_small.body))
theorem g_internal_strconv_small.good (R : EP) : Good P 15 (g_internal_strconv_small.ac R) (QF P [.tmp 2] R) :=
  trivial
theorem g_internal_strconv_small.eq (R : EP) (x0 : Int) (w : World) : g_internal_strconv_small R x0 w = vcA P 15 (g_internal_strconv_small.ac R) (QF P [.tmp 2] R) (fr0 [.int .i64 x0]) w := by kernel_rfl
theorem g_internal_strconv_small.sound {R : EP} {x0 : Int} {w : World} (h : g_internal_strconv_small R x0 w) : callE P i_internal_strconv_small #[.int .i64 x0] R w :=
  callE_fin (c := g_internal_strconv_small.body) Tryz.func208 Tryz.call208 (by kernel_rfl) (by kernel_rfl) (by kernel_rfl) (by kernel_rfl) (by kernel_rfl) (g_internal_strconv_small.good R) (g_internal_strconv_small.eq R x0 w) h
/- 10 pub-paratext/laws.word -/
namespace g_laws_word
noncomputable def body : Code := bodyOf Tryz.f10
end g_laws_word
def g_laws_word (R : EP) (x0 : BA) (w : World) : Prop :=
 br (!(x0.toList == (ByteArray.mk #[]).toList))
 (callE P i_laws_only #[.string x0, .string (ByteArray.mk #[97, 98, 122, 48, 49, 57]), .int .i64 20] (fun e w2 => ∃ (r1 : Bool), e = .returned (.bool r1) ∧
 R (.returned (.bool r1)) w2) w)
 (R (.returned (.bool false)) w)

noncomputable def g_laws_word.ac (R : EP) : AC :=
  (.leaf (sel [] g_laws_word.body))
theorem g_laws_word.good (R : EP) : Good P 9 (g_laws_word.ac R) (QF P [.tmp 2] R) :=
  trivial
theorem g_laws_word.eq (R : EP) (x0 : BA) (w : World) : g_laws_word R x0 w = vcA P 9 (g_laws_word.ac R) (QF P [.tmp 2] R) (fr0 [.string x0]) w := by kernel_rfl
theorem g_laws_word.sound {R : EP} {x0 : ByteArray} {w : World} (h : g_laws_word R x0 w) : callE P i_laws_word #[.string x0] R w :=
  callE_fin (c := g_laws_word.body) Tryz.func10 Tryz.call10 (by kernel_rfl) (by kernel_rfl) (by kernel_rfl) (by kernel_rfl) (by kernel_rfl) (g_laws_word.good R) (g_laws_word.eq R x0 w) h
/- 203 strconv.Itoa -/
namespace g_strconv_Itoa
noncomputable def body : Code := bodyOf Tryz.f203
end g_strconv_Itoa
def g_strconv_Itoa (R : EP) (x0 : Int) (w : World) : Prop :=
 callE P i_internal_strconv_Itoa #[.int .i64 x0] (fun e w2 => ∃ (r1 : BA), e = .returned (.string r1) ∧
 R (.returned (.string r1)) w2) w

noncomputable def g_strconv_Itoa.ac (R : EP) : AC :=
  (.leaf (sel [] g_strconv_Itoa.body))
theorem g_strconv_Itoa.good (R : EP) : Good P 5 (g_strconv_Itoa.ac R) (QF P [.tmp 2] R) :=
  trivial
theorem g_strconv_Itoa.eq (R : EP) (x0 : Int) (w : World) : g_strconv_Itoa R x0 w = vcA P 5 (g_strconv_Itoa.ac R) (QF P [.tmp 2] R) (fr0 [.int .i64 x0]) w := by kernel_rfl
theorem g_strconv_Itoa.sound {R : EP} {x0 : Int} {w : World} (h : g_strconv_Itoa R x0 w) : callE P i_strconv_Itoa #[.int .i64 x0] R w :=
  callE_fin (c := g_strconv_Itoa.body) Tryz.func203 Tryz.call203 (by kernel_rfl) (by kernel_rfl) (by kernel_rfl) (by kernel_rfl) (by kernel_rfl) (g_strconv_Itoa.good R) (g_strconv_Itoa.eq R x0 w) h
/- 173 strings.LastIndexByte -/
namespace g_strings_LastIndexByte
noncomputable def body : Code := bodyOf Tryz.f173
end g_strings_LastIndexByte
def g_strings_LastIndexByte (R : EP) (x0 : BA) (x1 : Int) (w : World) : Prop :=
 callE P i_internal_bytealg_LastIndexByteString #[.string x0, .int .u8 x1] (fun e w2 => ∃ (r1 : Int), e = .returned (.int .i64 r1) ∧
 R (.returned (.int .i64 r1)) w2) w

noncomputable def g_strings_LastIndexByte.ac (R : EP) : AC :=
  (.leaf (sel [] g_strings_LastIndexByte.body))
theorem g_strings_LastIndexByte.good (R : EP) : Good P 8 (g_strings_LastIndexByte.ac R) (QF P [.tmp 4] R) :=
  trivial
theorem g_strings_LastIndexByte.eq (R : EP) (x0 : BA) (x1 : Int) (w : World) : g_strings_LastIndexByte R x0 x1 w = vcA P 8 (g_strings_LastIndexByte.ac R) (QF P [.tmp 4] R) (fr0 [.string x0, .int .u8 x1]) w := by kernel_rfl
theorem g_strings_LastIndexByte.sound {R : EP} {x0 : ByteArray} {x1 : Int} {w : World} (h : g_strings_LastIndexByte R x0 x1 w) : callE P i_strings_LastIndexByte #[.string x0, .int .u8 x1] R w :=
  callE_fin (c := g_strings_LastIndexByte.body) Tryz.func173 Tryz.call173 (by kernel_rfl) (by kernel_rfl) (by kernel_rfl) (by kernel_rfl) (by kernel_rfl) (g_strings_LastIndexByte.good R) (g_strings_LastIndexByte.eq R x0 x1 w) h
/- 127 pub-paratext/pub/rscmarkdown.trimRightSpaceTab -/
namespace g_trimRightSpaceTab
noncomputable def body : Code := bodyOf Tryz.f127
def k1 (R : EP) (x0 : BA) (x3 : Int) (w : World) : Prop :=
 0 ≤ x3 ∧ x3 ≤ (x0.size : Int) ∧
 R (.returned (.string (x0.extract 0 (Int.toNat x3)))) w

def bl1 (R : EP) (Xa : BA → Int → WP) (x0 : BA) (x3 : Int) (w : World) : Prop :=
 ((decide (x3 > 0)) = true → 0 ≤ (IntKind.i64.wrap (x3 - 1)) ∧ (IntKind.i64.wrap (x3 - 1)) < (x0.size : Int)) ∧
 (((decide (x3 > 0)) && (!((bt x0 (IntKind.i64.wrap (x3 - 1))) == 32))) = true → 0 ≤ (IntKind.i64.wrap (x3 - 1)) ∧ (IntKind.i64.wrap (x3 - 1)) < (x0.size : Int)) ∧
 br ((decide (x3 > 0)) && (((bt x0 (IntKind.i64.wrap (x3 - 1))) == 32) || ((bt x0 (IntKind.i64.wrap (x3 - 1))) == 9)))
 (Xa x0 (IntKind.i64.wrap (x3 - 1)) w)
 (k1 R x0 x3 w)
def l1 (R : EP) (x0 : BA) (x3 : Int) (w : World) : Prop :=
  ∀ X : BA → Int → WP, (∀ x0 x3 w, bl1 R X x0 x3 w → X x0 x3 w) → X x0 x3 w

noncomputable def al1 (R : EP) (Xa : BA → Int → WP) : AC :=
  (.leaf (sel [1, 1, 0, 0, 0] body))
end g_trimRightSpaceTab
def g_trimRightSpaceTab (R : EP) (x0 : BA) (w : World) : Prop :=
 g_trimRightSpaceTab.l1 R x0 (x0.size : Int) w

noncomputable def g_trimRightSpaceTab.ac (R : EP) : AC :=
  (.seq (.leaf (sel [0] g_trimRightSpaceTab.body)) (.seq (.leaf (sel [1, 0] g_trimRightSpaceTab.body)) (.seq (.block 0 (.loop (leaf [(0, .s .str), (3, .s (.int .i64))] (g_trimRightSpaceTab.l1 R)) (sel [1, 1, 0, 0, 0] g_trimRightSpaceTab.body))) (.mark (leaf [(0, .s .str), (3, .s (.int .i64))] (g_trimRightSpaceTab.k1 R)) (.leaf (sel [1, 1, 1] g_trimRightSpaceTab.body))))))
theorem g_trimRightSpaceTab.good (R : EP) : Good P 27 (g_trimRightSpaceTab.ac R) (QF P [.tmp 2] R) :=
  ⟨trivial, ⟨trivial, ⟨(loopG (g_trimRightSpaceTab.al1 R) (g_trimRightSpaceTab.bl1 R) (fun _ => by kernel_rfl) (fun Xa => trivial) (fun Xa => by intro x0 x3 ρ w; kernel_rfl) (fun X h _ _ _ g => g X h)), ⟨trivial, cutE (by intro x0 x3 ρ w; kernel_rfl)⟩⟩⟩⟩
theorem g_trimRightSpaceTab.eq (R : EP) (x0 : BA) (w : World) : g_trimRightSpaceTab R x0 w = vcA P 27 (g_trimRightSpaceTab.ac R) (QF P [.tmp 2] R) (fr0 [.string x0]) w := by kernel_rfl
theorem g_trimRightSpaceTab.sound {R : EP} {x0 : ByteArray} {w : World} (h : g_trimRightSpaceTab R x0 w) : callE P i_trimRightSpaceTab #[.string x0] R w :=
  callE_fin (c := g_trimRightSpaceTab.body) Tryz.func127 Tryz.call127 (by kernel_rfl) (by kernel_rfl) (by kernel_rfl) (by kernel_rfl) (by kernel_rfl) (g_trimRightSpaceTab.good R) (g_trimRightSpaceTab.eq R x0 w) h
/- 110 pub-paratext/pub/rscmarkdown.isDigit -/
namespace g_isDigit
noncomputable def body : Code := bodyOf Tryz.f110
end g_isDigit
def g_isDigit (R : EP) (x0 : Int) (w : World) : Prop :=
 R (.returned (.bool ((decide (48 ≤ x0)) && (decide (x0 ≤ 57))))) w

noncomputable def g_isDigit.ac (R : EP) : AC :=
  (.leaf (sel [] g_isDigit.body))
theorem g_isDigit.good (R : EP) : Good P 9 (g_isDigit.ac R) (QF P [.tmp 2] R) :=
  trivial
theorem g_isDigit.eq (R : EP) (x0 : Int) (w : World) : g_isDigit R x0 w = vcA P 9 (g_isDigit.ac R) (QF P [.tmp 2] R) (fr0 [.int .u8 x0]) w := by kernel_rfl
theorem g_isDigit.sound {R : EP} {x0 : Int} {w : World} (h : g_isDigit R x0 w) : callE P i_isDigit #[.int .u8 x0] R w :=
  callE_fin (c := g_isDigit.body) Tryz.func110 Tryz.call110 (by kernel_rfl) (by kernel_rfl) (by kernel_rfl) (by kernel_rfl) (by kernel_rfl) (g_isDigit.good R) (g_isDigit.eq R x0 w) h
/- 108 pub-paratext/pub/rscmarkdown.isHexDigit -/
namespace g_isHexDigit
noncomputable def body : Code := bodyOf Tryz.f108
end g_isHexDigit
def g_isHexDigit (R : EP) (x0 : Int) (w : World) : Prop :=
 R (.returned (.bool ((((decide (65 ≤ x0)) && (decide (x0 ≤ 70))) || ((decide (97 ≤ x0)) && (decide (x0 ≤ 102)))) || ((decide (48 ≤ x0)) && (decide (x0 ≤ 57)))))) w

noncomputable def g_isHexDigit.ac (R : EP) : AC :=
  (.leaf (sel [] g_isHexDigit.body))
theorem g_isHexDigit.good (R : EP) : Good P 25 (g_isHexDigit.ac R) (QF P [.tmp 2] R) :=
  trivial
theorem g_isHexDigit.eq (R : EP) (x0 : Int) (w : World) : g_isHexDigit R x0 w = vcA P 25 (g_isHexDigit.ac R) (QF P [.tmp 2] R) (fr0 [.int .u8 x0]) w := by kernel_rfl
theorem g_isHexDigit.sound {R : EP} {x0 : Int} {w : World} (h : g_isHexDigit R x0 w) : callE P i_isHexDigit #[.int .u8 x0] R w :=
  callE_fin (c := g_isHexDigit.body) Tryz.func108 Tryz.call108 (by kernel_rfl) (by kernel_rfl) (by kernel_rfl) (by kernel_rfl) (by kernel_rfl) (g_isHexDigit.good R) (g_isHexDigit.eq R x0 w) h
/- 12 pub-paratext/laws.digits -/
namespace g_laws_digits
noncomputable def body : Code := bodyOf Tryz.f12
end g_laws_digits
def g_laws_digits (R : EP) (x0 : Int) (x1 : Int) (w : World) : Prop :=
 br (decide (x0 < x1))
 (0 ≤ x0 ∧ x0 ≤ (IntKind.i64.wrap (x0 + 1)) ∧ (IntKind.i64.wrap (x0 + 1)) ≤ ((ByteArray.mk #[48, 49, 50, 51, 52, 53, 54, 55, 56, 57, 97, 98, 99, 100, 101, 102]).size : Int) ∧
 R (.returned (.string ((ByteArray.mk #[48, 49, 50, 51, 52, 53, 54, 55, 56, 57, 97, 98, 99, 100, 101, 102]).extract (Int.toNat x0) (Int.toNat (IntKind.i64.wrap (x0 + 1)))))) w)
 (tk w fun w1 =>
 x1 ≠ 0 ∧
 x1 ≠ 0 ∧
 x1 ≠ 0 ∧
 0 ≤ (Int.tmod x0 x1) ∧ (Int.tmod x0 x1) ≤ (IntKind.i64.wrap ((Int.tmod x0 x1) + 1)) ∧ (IntKind.i64.wrap ((Int.tmod x0 x1) + 1)) ≤ ((ByteArray.mk #[48, 49, 50, 51, 52, 53, 54, 55, 56, 57, 97, 98, 99, 100, 101, 102]).size : Int) ∧
 callE P i_laws_digits #[.int .i64 (IntKind.i64.wrap (Int.tdiv x0 x1)), .int .i64 x1] (fun e w3 => ∃ (r2 : BA), e = .returned (.string r2) ∧
 ((r2.size + ((ByteArray.mk #[48, 49, 50, 51, 52, 53, 54, 55, 56, 57, 97, 98, 99, 100, 101, 102]).extract (Int.toNat (Int.tmod x0 x1)) (Int.toNat (IntKind.i64.wrap ((Int.tmod x0 x1) + 1)))).size : Nat) : Int) ≤ IntKind.i64.max ∧
 R (.returned (.string (r2 ++ ((ByteArray.mk #[48, 49, 50, 51, 52, 53, 54, 55, 56, 57, 97, 98, 99, 100, 101, 102]).extract (Int.toNat (Int.tmod x0 x1)) (Int.toNat (IntKind.i64.wrap ((Int.tmod x0 x1) + 1))))))) w3) w1)

noncomputable def g_laws_digits.ac (R : EP) : AC :=
  (.seq (.leaf (sel [0] g_laws_digits.body)) (.seq (.leaf (sel [1, 0] g_laws_digits.body)) (.seq (.draw (.pure 0 (.pure 1 (.pure 2 (.pure 3 (.pure 5 (.pure 6 (.pure 7 (.pure 8 (.pure 9 (.pure 10 (.pure 11 (.pure 12 (.one 4 (.pure 13 (.pure 14 .done))))))))))))))) (sel [1, 1, 0] g_laws_digits.body)) (.leaf (sel [1, 1, 1] g_laws_digits.body)))))
theorem g_laws_digits.good (R : EP) : Good P 26 (g_laws_digits.ac R) (QF P [.tmp 4] R) :=
  ⟨trivial, ⟨trivial, ⟨⟨by kernel_rfl, by kernel_rfl, fun _ _ _ h => h⟩, trivial⟩⟩⟩
theorem g_laws_digits.eq (R : EP) (x0 : Int) (x1 : Int) (w : World) : g_laws_digits R x0 x1 w = vcA P 26 (g_laws_digits.ac R) (QF P [.tmp 4] R) (fr0 [.int .i64 x0, .int .i64 x1]) w := by kernel_rfl
theorem g_laws_digits.sound {R : EP} {x0 : Int} {x1 : Int} {w : World} (h : g_laws_digits R x0 x1 w) : callE P i_laws_digits #[.int .i64 x0, .int .i64 x1] R w :=
  callE_fin (c := g_laws_digits.body) Tryz.func12 Tryz.call12 (by kernel_rfl) (by kernel_rfl) (by kernel_rfl) (by kernel_rfl) (by kernel_rfl) (g_laws_digits.good R) (g_laws_digits.eq R x0 x1 w) h
/- 75 pub-paratext/pub/rscmarkdown.parseHTMLEntity -/
namespace g_parseHTMLEntity
noncomputable def body : Code := bodyOf Tryz.f75
def k4 (R : EP) (w : World) : Prop :=
 R (.returned (.tuple #[.nilIface, .int .i64 0, .int .i64 0, .bool false])) w

def k10 (R : EP) (x10 : Int) (x11 : Int) (x12 : Int) (w : World) : Prop :=
 box w #[.string (Utf8.encode (IntKind.i32.wrap x11))] ty_Plain fun b13 w14 =>
 R (.returned (.tuple #[.iface ty_P_Plain (.pointer (some ⟨b13, 0, none⟩)), .int .i64 x10, .int .i64 x12, .bool true])) w14

def k3 (R : EP) (Xa : BA → Int → Int → Int → WP) (x1 : BA) (x2 : Int) (x10 : Int) (x17 : Int) (w : World) : Prop :=
 0 ≤ x17 ∧ x17 < (x1.size : Int) ∧
 br ((bt x1 x17) == 38)
 (k4 R w)
 (0 ≤ x17 ∧ x17 < (x1.size : Int) ∧
 br ((bt x1 x17) == 59)
 (0 ≤ x2 ∧ x2 ≤ (IntKind.i64.wrap (x17 + 1)) ∧ (IntKind.i64.wrap (x17 + 1)) ≤ (x1.size : Int) ∧
 callE P i_htmlEntity #[.string (x1.extract (Int.toNat x2) (Int.toNat (IntKind.i64.wrap (x17 + 1))))] (fun e w6 => ∃ (r5_0 : BA), ∃ (r5_1 : Bool), e = .returned (.tuple #[.string r5_0, .bool r5_1]) ∧
 br r5_1
 (box w6 #[.string r5_0] ty_Plain fun b7 w8 =>
 R (.returned (.tuple #[.iface ty_P_Plain (.pointer (some ⟨b7, 0, none⟩)), .int .i64 x10, .int .i64 (IntKind.i64.wrap (x17 + 1)), .bool true])) w8)
 (k4 R w6)) w)
 (Xa x1 x2 x10 (IntKind.i64.wrap (x17 + 1)) w))

def k9 (R : EP) (x10 : Int) (x11 : Int) (x12 : Int) (w : World) : Prop :=
 br ((decide (x11 > 1114111)) || (x11 == 0))
 (k10 R x10 65533 x12 w)
 (k10 R x10 x11 x12 w)

def bl1 (R : EP) (Xa : BA → Int → Int → Int → WP) (x1 : BA) (x2 : Int) (x10 : Int) (x17 : Int) (w : World) : Prop :=
 br ((decide (x17 < (x1.size : Int))) && (decide ((IntKind.i64.wrap (x17 - x2)) < 64)))
 (k3 R Xa x1 x2 x10 x17 w)
 (k4 R w)
def l1 (R : EP) (x1 : BA) (x2 : Int) (x10 : Int) (x17 : Int) (w : World) : Prop :=
  ∀ X : BA → Int → Int → Int → WP, (∀ x1 x2 x10 x17 w, bl1 R X x1 x2 x10 x17 w → X x1 x2 x10 x17 w) → X x1 x2 x10 x17 w

noncomputable def al1 (R : EP) (Xa : BA → Int → Int → Int → WP) : AC :=
  (.seq (.leaf (sel [1, 1, 1, 0, 1, 0, 0, 0] body)) (.mark (leaf [(1, .s .str), (2, .s (.int .i64)), (10, .s (.int .i64)), (17, .s (.int .i64))] (k3 R Xa)) (.leaf (sel [1, 1, 1, 0, 1, 0, 0, 1] body))))
def k7 (R : EP) (x1 : BA) (x2 : Int) (x10 : Int) (x13 : Int) (x87 : Bool) (w : World) : Prop :=
 br x87
 (R (.returned (.tuple #[.nilIface, .int .i64 0, .int .i64 0, .bool false])) w)
 (0 ≤ x2 ∧ x2 ≤ x13 ∧ x13 ≤ (x1.size : Int) ∧
 callE P i_strconv_ParseInt #[.string (x1.extract (Int.toNat x2) (Int.toNat x13)), .int .i64 16, .int .i64 0] (fun e w10 => ∃ (r9_0 : Int), ∃ (r9_1 : Value), e = .returned (.tuple #[.int .i64 r9_0, r9_1]) ∧
 k9 R x10 r9_0 (IntKind.i64.wrap (x13 + 1)) w10) w)

def k8 (R : EP) (x1 : BA) (x2 : Int) (x10 : Int) (x16 : Int) (x133 : Bool) (w : World) : Prop :=
 br x133
 (R (.returned (.tuple #[.nilIface, .int .i64 0, .int .i64 0, .bool false])) w)
 (0 ≤ x2 ∧ x2 ≤ x16 ∧ x16 ≤ (x1.size : Int) ∧
 callE P i_strconv_Atoi #[.string (x1.extract (Int.toNat x2) (Int.toNat x16))] (fun e w12 => ∃ (r11_0 : Int), ∃ (r11_1 : Value), e = .returned (.tuple #[.int .i64 r11_0, r11_1]) ∧
 k9 R x10 r11_0 (IntKind.i64.wrap (x16 + 1)) w12) w)

def k5 (R : EP) (x1 : BA) (x2 : Int) (x10 : Int) (x13 : Int) (w : World) : Prop :=
 ((!(((decide ((IntKind.i64.wrap (x13 - x2)) < 1)) || (decide ((IntKind.i64.wrap (x13 - x2)) > 6))) || (decide (x13 ≥ (x1.size : Int))))) = true → 0 ≤ x13 ∧ x13 < (x1.size : Int)) ∧
 k7 R x1 x2 x10 x13 ((((decide ((IntKind.i64.wrap (x13 - x2)) < 1)) || (decide ((IntKind.i64.wrap (x13 - x2)) > 6))) || (decide (x13 ≥ (x1.size : Int)))) || ((bt x1 x13) != 59)) w

def k6 (R : EP) (x1 : BA) (x2 : Int) (x10 : Int) (x16 : Int) (w : World) : Prop :=
 ((!(((decide ((IntKind.i64.wrap (x16 - x2)) < 1)) || (decide ((IntKind.i64.wrap (x16 - x2)) > 7))) || (decide (x16 ≥ (x1.size : Int))))) = true → 0 ≤ x16 ∧ x16 < (x1.size : Int)) ∧
 k8 R x1 x2 x10 x16 ((((decide ((IntKind.i64.wrap (x16 - x2)) < 1)) || (decide ((IntKind.i64.wrap (x16 - x2)) > 7))) || (decide (x16 ≥ (x1.size : Int)))) || ((bt x1 x16) != 59)) w

def bl2 (R : EP) (Xb : BA → Int → Int → Int → WP) (x1 : BA) (x2 : Int) (x10 : Int) (x13 : Int) (w : World) : Prop :=
 ((decide (x13 < (x1.size : Int))) = true → 0 ≤ x13 ∧ x13 < (x1.size : Int)) ∧
 br (decide (x13 < (x1.size : Int)))
 (callE P i_isHexDigit #[.int .u8 (bt x1 x13)] (fun e w2 => ∃ (r1 : Bool), e = .returned (.bool r1) ∧
 br r1
 (Xb x1 x2 x10 (IntKind.i64.wrap (x13 + 1)) w2)
 (k5 R x1 x2 x10 x13 w2)) w)
 (k5 R x1 x2 x10 x13 w)
def l2 (R : EP) (x1 : BA) (x2 : Int) (x10 : Int) (x13 : Int) (w : World) : Prop :=
  ∀ X : BA → Int → Int → Int → WP, (∀ x1 x2 x10 x13 w, bl2 R X x1 x2 x10 x13 w → X x1 x2 x10 x13 w) → X x1 x2 x10 x13 w

noncomputable def al2 (R : EP) (Xb : BA → Int → Int → Int → WP) : AC :=
  (.leaf (sel [1, 1, 0, 1, 0, 1, 1, 0, 1, 0, 1, 1, 0, 0, 0] body))
def bl3 (R : EP) (Xc : BA → Int → Int → Int → WP) (x1 : BA) (x2 : Int) (x10 : Int) (x16 : Int) (w : World) : Prop :=
 ((decide (x16 < (x1.size : Int))) = true → 0 ≤ x16 ∧ x16 < (x1.size : Int)) ∧
 br (decide (x16 < (x1.size : Int)))
 (callE P i_isDigit #[.int .u8 (bt x1 x16)] (fun e w4 => ∃ (r3 : Bool), e = .returned (.bool r3) ∧
 br r3
 (Xc x1 x2 x10 (IntKind.i64.wrap (x16 + 1)) w4)
 (k6 R x1 x2 x10 x16 w4)) w)
 (k6 R x1 x2 x10 x16 w)
def l3 (R : EP) (x1 : BA) (x2 : Int) (x10 : Int) (x16 : Int) (w : World) : Prop :=
  ∀ X : BA → Int → Int → Int → WP, (∀ x1 x2 x10 x16 w, bl3 R X x1 x2 x10 x16 w → X x1 x2 x10 x16 w) → X x1 x2 x10 x16 w

noncomputable def al3 (R : EP) (Xc : BA → Int → Int → Int → WP) : AC :=
  (.leaf (sel [1, 1, 0, 1, 0, 1, 1, 0, 1, 1, 1, 0, 0, 0] body))
def k2 (R : EP) (x1 : BA) (x2 : Int) (x10 : Int) (x50 : Bool) (w : World) : Prop :=
 br x50
 (l2 R x1 (IntKind.i64.wrap (x2 + 1)) x10 (IntKind.i64.wrap (x2 + 1)) w)
 (l3 R x1 x2 x10 x2 w)

def k1 (R : EP) (x1 : BA) (x2 : Int) (x10 : Int) (x32 : Bool) (w : World) : Prop :=
 br x32
 (((decide ((IntKind.i64.wrap (x2 + 2)) < (x1.size : Int))) = true → 0 ≤ (IntKind.i64.wrap (x2 + 2)) ∧ (IntKind.i64.wrap (x2 + 2)) < (x1.size : Int)) ∧
 (((decide ((IntKind.i64.wrap (x2 + 2)) < (x1.size : Int))) && (!((bt x1 (IntKind.i64.wrap (x2 + 2))) == 120))) = true → 0 ≤ (IntKind.i64.wrap (x2 + 2)) ∧ (IntKind.i64.wrap (x2 + 2)) < (x1.size : Int)) ∧
 k2 R x1 (IntKind.i64.wrap (x2 + 2)) x10 ((decide ((IntKind.i64.wrap (x2 + 2)) < (x1.size : Int))) && (((bt x1 (IntKind.i64.wrap (x2 + 2))) == 120) || ((bt x1 (IntKind.i64.wrap (x2 + 2))) == 88))) w)
 (l1 R x1 x2 x10 (IntKind.i64.wrap (x2 + 1)) w)

end g_parseHTMLEntity
def g_parseHTMLEntity (R : EP) (x0 : OA) (x1 : BA) (x2 : Int) (w : World) : Prop :=
 ((decide ((IntKind.i64.wrap (x2 + 1)) < (x1.size : Int))) = true → 0 ≤ (IntKind.i64.wrap (x2 + 1)) ∧ (IntKind.i64.wrap (x2 + 1)) < (x1.size : Int)) ∧
 g_parseHTMLEntity.k1 R x1 x2 x2 ((decide ((IntKind.i64.wrap (x2 + 1)) < (x1.size : Int))) && ((bt x1 (IntKind.i64.wrap (x2 + 1))) == 35)) w

noncomputable def g_parseHTMLEntity.ac (R : EP) : AC :=
  (.seq (.leaf (sel [0] g_parseHTMLEntity.body)) (.seq (.leaf (sel [1, 0] g_parseHTMLEntity.body)) (.seq (.seq (.leaf (sel [1, 1, 0, 0] g_parseHTMLEntity.body)) (.mark (leaf [(1, .s .str), (2, .s (.int .i64)), (10, .s (.int .i64)), (32, .s .bool)] (g_parseHTMLEntity.k1 R)) (.cond 32 (.seq (.leaf (sel [1, 1, 0, 1, 0, 0] g_parseHTMLEntity.body)) (.seq (.leaf (sel [1, 1, 0, 1, 0, 1, 0] g_parseHTMLEntity.body)) (.seq (.seq (.leaf (sel [1, 1, 0, 1, 0, 1, 1, 0, 0] g_parseHTMLEntity.body)) (.mark (leaf [(1, .s .str), (2, .s (.int .i64)), (10, .s (.int .i64)), (50, .s .bool)] (g_parseHTMLEntity.k2 R)) (.cond 50 (.seq (.leaf (sel [1, 1, 0, 1, 0, 1, 1, 0, 1, 0, 0] g_parseHTMLEntity.body)) (.seq (.leaf (sel [1, 1, 0, 1, 0, 1, 1, 0, 1, 0, 1, 0] g_parseHTMLEntity.body)) (.seq (.block 0 (.loop (leaf [(1, .s .str), (2, .s (.int .i64)), (10, .s (.int .i64)), (13, .s (.int .i64))] (g_parseHTMLEntity.l2 R)) (sel [1, 1, 0, 1, 0, 1, 1, 0, 1, 0, 1, 1, 0, 0, 0] g_parseHTMLEntity.body))) (.mark (leaf [(1, .s .str), (2, .s (.int .i64)), (10, .s (.int .i64)), (13, .s (.int .i64))] (g_parseHTMLEntity.k5 R)) (.seq (.seq (.leaf (sel [1, 1, 0, 1, 0, 1, 1, 0, 1, 0, 1, 1, 1, 0, 0] g_parseHTMLEntity.body)) (.mark (leaf [(1, .s .str), (2, .s (.int .i64)), (10, .s (.int .i64)), (13, .s (.int .i64)), (87, .s .bool)] (g_parseHTMLEntity.k7 R)) (.leaf (sel [1, 1, 0, 1, 0, 1, 1, 0, 1, 0, 1, 1, 1, 0, 1] g_parseHTMLEntity.body)))) (.leaf (sel [1, 1, 0, 1, 0, 1, 1, 0, 1, 0, 1, 1, 1, 1] g_parseHTMLEntity.body))))))) (.seq (.leaf (sel [1, 1, 0, 1, 0, 1, 1, 0, 1, 1, 0] g_parseHTMLEntity.body)) (.seq (.block 2 (.loop (leaf [(1, .s .str), (2, .s (.int .i64)), (10, .s (.int .i64)), (16, .s (.int .i64))] (g_parseHTMLEntity.l3 R)) (sel [1, 1, 0, 1, 0, 1, 1, 0, 1, 1, 1, 0, 0, 0] g_parseHTMLEntity.body))) (.mark (leaf [(1, .s .str), (2, .s (.int .i64)), (10, .s (.int .i64)), (16, .s (.int .i64))] (g_parseHTMLEntity.k6 R)) (.seq (.seq (.leaf (sel [1, 1, 0, 1, 0, 1, 1, 0, 1, 1, 1, 1, 0, 0] g_parseHTMLEntity.body)) (.mark (leaf [(1, .s .str), (2, .s (.int .i64)), (10, .s (.int .i64)), (16, .s (.int .i64)), (133, .s .bool)] (g_parseHTMLEntity.k8 R)) (.leaf (sel [1, 1, 0, 1, 0, 1, 1, 0, 1, 1, 1, 1, 0, 1] g_parseHTMLEntity.body)))) (.leaf (sel [1, 1, 0, 1, 0, 1, 1, 0, 1, 1, 1, 1, 1] g_parseHTMLEntity.body))))))))) (.mark (leaf [(10, .s (.int .i64)), (11, .s (.int .i64)), (12, .s (.int .i64))] (g_parseHTMLEntity.k9 R)) (.seq (.leaf (sel [1, 1, 0, 1, 0, 1, 1, 1, 0] g_parseHTMLEntity.body)) (.mark (leaf [(10, .s (.int .i64)), (11, .s (.int .i64)), (12, .s (.int .i64))] (g_parseHTMLEntity.k10 R)) (.leaf (sel [1, 1, 0, 1, 0, 1, 1, 1, 1] g_parseHTMLEntity.body)))))))) (.leaf (sel [1, 1, 0, 1, 1] g_parseHTMLEntity.body))))) (.seq (.seq (.leaf (sel [1, 1, 1, 0, 0] g_parseHTMLEntity.body)) (.block 4 (.loop (leaf [(1, .s .str), (2, .s (.int .i64)), (10, .s (.int .i64)), (17, .s (.int .i64))] (g_parseHTMLEntity.l1 R)) (sel [1, 1, 1, 0, 1, 0, 0] g_parseHTMLEntity.body)))) (.mark (leaf [] (g_parseHTMLEntity.k4 R)) (.leaf (sel [1, 1, 1, 1] g_parseHTMLEntity.body)))))))
theorem g_parseHTMLEntity.good (R : EP) : Good P 197 (g_parseHTMLEntity.ac R) (QF P [.tmp 6, .tmp 7, .tmp 8, .tmp 9] R) :=
  ⟨trivial, ⟨trivial, ⟨⟨trivial, ⟨⟨⟨trivial, ⟨trivial, ⟨⟨trivial, ⟨⟨⟨trivial, ⟨trivial, ⟨(loopG (g_parseHTMLEntity.al2 R) (g_parseHTMLEntity.bl2 R) (fun _ => by kernel_rfl) (fun Xb => trivial) (fun Xb => by intro x1 x2 x10 x13 ρ w; kernel_rfl) (fun X h _ _ _ _ _ g => g X h)), ⟨⟨⟨trivial, ⟨trivial, cutE (by intro x1 x2 x10 x13 x87 ρ w; kernel_rfl)⟩⟩, trivial⟩, cutE (by intro x1 x2 x10 x13 ρ w; kernel_rfl)⟩⟩⟩⟩, ⟨trivial, ⟨(loopG (g_parseHTMLEntity.al3 R) (g_parseHTMLEntity.bl3 R) (fun _ => by kernel_rfl) (fun Xc => trivial) (fun Xc => by intro x1 x2 x10 x16 ρ w; kernel_rfl) (fun X h _ _ _ _ _ g => g X h)), ⟨⟨⟨trivial, ⟨trivial, cutE (by intro x1 x2 x10 x16 x133 ρ w; kernel_rfl)⟩⟩, trivial⟩, cutE (by intro x1 x2 x10 x16 ρ w; kernel_rfl)⟩⟩⟩⟩, cutE (by intro x1 x2 x10 x50 ρ w; kernel_rfl)⟩⟩, ⟨⟨trivial, ⟨trivial, cutE (by intro x10 x11 x12 ρ w; kernel_rfl)⟩⟩, cutE (by intro x10 x11 x12 ρ w; kernel_rfl)⟩⟩⟩⟩, trivial⟩, cutE (by intro x1 x2 x10 x32 ρ w; kernel_rfl)⟩⟩, ⟨⟨trivial, (loopG (g_parseHTMLEntity.al1 R) (g_parseHTMLEntity.bl1 R) (fun _ => by kernel_rfl) (fun Xa => ⟨trivial, ⟨trivial, cutE (by intro x1 x2 x10 x17 ρ w; kernel_rfl)⟩⟩) (fun Xa => by intro x1 x2 x10 x17 ρ w; kernel_rfl) (fun X h _ _ _ _ _ g => g X h))⟩, ⟨trivial, cutE (by intro ρ w; kernel_rfl)⟩⟩⟩⟩⟩
theorem g_parseHTMLEntity.eq (R : EP) (x0 : OA) (x1 : BA) (x2 : Int) (w : World) : g_parseHTMLEntity R x0 x1 x2 w = vcA P 197 (g_parseHTMLEntity.ac R) (QF P [.tmp 6, .tmp 7, .tmp 8, .tmp 9] R) (fr0 [.pointer x0, .string x1, .int .i64 x2]) w := by kernel_rfl
theorem g_parseHTMLEntity.sound {R : EP} {x0 : OA} {x1 : ByteArray} {x2 : Int} {w : World} (h : g_parseHTMLEntity R x0 x1 x2 w) : callE P i_parseHTMLEntity #[.pointer x0, .string x1, .int .i64 x2] R w :=
  callE_fin (c := g_parseHTMLEntity.body) Tryz.func75 Tryz.call75 (by kernel_rfl) (by kernel_rfl) (by kernel_rfl) (by kernel_rfl) (by kernel_rfl) (g_parseHTMLEntity.good R) (g_parseHTMLEntity.eq R x0 x1 x2 w) h
/- 164 internal/strconv.Atoi -/
namespace g_internal_strconv_Atoi
noncomputable def body : Code := bodyOf Tryz.f164
def bl1 (R : EP) (Xa : BA → Int → OA → Nat → Nat → Int → Int → WP) (x5 : BA) (x6 : Int) (x47q : OA) (x47n : Nat) (x47c : Nat) (x48 : Int) (x49 : Int) (w : World) : Prop :=
 br (decide (x49 < x48))
 (0 ≤ x49 ∧ x49 < (x47n : Int) ∧
 nilP x47q fun a5 =>
 ∃ (v6 : Int), w.cell? (a5.add (Int.toNat x49 * 1)) = some (.int .u8 v6) ∧
 br (decide ((IntKind.u8.wrap (v6 - 48)) > 9))
 (R (.returned (.tuple #[.int .i64 0, .iface ty_strconv_Error (.int .i64 2)])) w)
 (Xa x5 (IntKind.i64.wrap ((IntKind.i64.wrap (x6 * 10)) + (IntKind.i64.wrap (IntKind.u8.wrap (v6 - 48))))) x47q x47n x47c x48 (IntKind.i64.wrap (x49 + 1)) w))
 (0 ≤ (0 : Int) ∧ 0 < (x5.size : Int) ∧
 br ((bt x5 0) == 45)
 (R (.returned (.tuple #[.int .i64 (IntKind.i64.wrap (0 - x6)), .nilIface])) w)
 (R (.returned (.tuple #[.int .i64 x6, .nilIface])) w))
def l1 (R : EP) (x5 : BA) (x6 : Int) (x47q : OA) (x47n : Nat) (x47c : Nat) (x48 : Int) (x49 : Int) (w : World) : Prop :=
  ∀ X : BA → Int → OA → Nat → Nat → Int → Int → WP, (∀ x5 x6 x47q x47n x47c x48 x49 w, bl1 R X x5 x6 x47q x47n x47c x48 x49 w → X x5 x6 x47q x47n x47c x48 x49 w) → X x5 x6 x47q x47n x47c x48 x49 w

noncomputable def al1 (R : EP) (Xa : BA → Int → OA → Nat → Nat → Int → Int → WP) : AC :=
  (.leaf (sel [1, 1, 0, 1, 0, 1, 1, 1, 0, 1, 0, 0] body))
def k3 (R : EP) (x0 : BA) (x5 : BA) (w : World) : Prop :=
 ∃ (r3q : OA), ∃ (r3n : Nat), ∃ (r3c : Nat), ∃ w4, (convert ty_string ty_S_uint8 (.string x0)).run P w = .ok (.slice r3q r3n r3c) w4 ∧
 l1 R x5 0 r3q r3n r3c (r3n : Int) 0 w4

def k2 (R : EP) (x0 : BA) (x5 : BA) (x39 : Bool) (w : World) : Prop :=
 br x39
 (0 ≤ (1 : Int) ∧ 1 ≤ (x0.size : Int) ∧
 br (decide (((x0.extract (Int.toNat 1) x0.size).size : Int) < 1))
 (R (.returned (.tuple #[.int .i64 0, .iface ty_strconv_Error (.int .i64 2)])) w)
 (k3 R (x0.extract (Int.toNat 1) x0.size) x5 w))
 (k3 R x0 x5 w)

def k1 (R : EP) (x0 : BA) (x30 : Bool) (w : World) : Prop :=
 br x30
 (0 ≤ (0 : Int) ∧ 0 < (x0.size : Int) ∧
 ((!((bt x0 0) == 45)) = true → 0 ≤ (0 : Int) ∧ 0 < (x0.size : Int)) ∧
 k2 R x0 x0 (((bt x0 0) == 45) || ((bt x0 0) == 43)) w)
 (callE P i_internal_strconv_ParseInt #[.string x0, .int .i64 10, .int .i64 0] (fun e w2 => ∃ (r1_0 : Int), ∃ (r1_1 : Value), e = .returned (.tuple #[.int .i64 r1_0, r1_1]) ∧
 R (.returned (.tuple #[.int .i64 r1_0, r1_1])) w2) w)

end g_internal_strconv_Atoi
def g_internal_strconv_Atoi (R : EP) (x0 : BA) (w : World) : Prop :=
 g_internal_strconv_Atoi.k1 R x0 ((decide (0 < (x0.size : Int))) && (decide ((x0.size : Int) < 19))) w

noncomputable def g_internal_strconv_Atoi.ac (R : EP) : AC :=
  (.seq (.leaf (sel [0] g_internal_strconv_Atoi.body)) (.seq (.leaf (sel [1, 0] g_internal_strconv_Atoi.body)) (.seq (.seq (.leaf (sel [1, 1, 0, 0] g_internal_strconv_Atoi.body)) (.mark (leaf [(0, .s .str), (30, .s .bool)] (g_internal_strconv_Atoi.k1 R)) (.cond 30 (.seq (.leaf (sel [1, 1, 0, 1, 0, 0] g_internal_strconv_Atoi.body)) (.seq (.seq (.leaf (sel [1, 1, 0, 1, 0, 1, 0, 0] g_internal_strconv_Atoi.body)) (.mark (leaf [(0, .s .str), (5, .s .str), (39, .s .bool)] (g_internal_strconv_Atoi.k2 R)) (.leaf (sel [1, 1, 0, 1, 0, 1, 0, 1] g_internal_strconv_Atoi.body)))) (.mark (leaf [(0, .s .str), (5, .s .str)] (g_internal_strconv_Atoi.k3 R)) (.seq (.leaf (sel [1, 1, 0, 1, 0, 1, 1, 0] g_internal_strconv_Atoi.body)) (.seq (.seq (.leaf (sel [1, 1, 0, 1, 0, 1, 1, 1, 0, 0] g_internal_strconv_Atoi.body)) (.block 0 (.loop (leaf [(5, .s .str), (6, .s (.int .i64)), (47, .s .slice), (48, .s (.int .i64)), (49, .s (.int .i64))] (g_internal_strconv_Atoi.l1 R)) (sel [1, 1, 0, 1, 0, 1, 1, 1, 0, 1, 0, 0] g_internal_strconv_Atoi.body)))) (.leaf (sel [1, 1, 0, 1, 0, 1, 1, 1, 1] g_internal_strconv_Atoi.body))))))) (.leaf (sel [1, 1, 0, 1, 1] g_internal_strconv_Atoi.body))))) (.leaf (sel [1, 1, 1] g_internal_strconv_Atoi.body)))))
theorem g_internal_strconv_Atoi.good (R : EP) : Good P 77 (g_internal_strconv_Atoi.ac R) (QF P [.tmp 2, .tmp 3] R) :=
  ⟨trivial, ⟨trivial, ⟨⟨trivial, ⟨⟨⟨trivial, ⟨⟨trivial, ⟨trivial, cutE (by intro x0 x5 x39 ρ w; kernel_rfl)⟩⟩, ⟨⟨trivial, ⟨⟨trivial, (loopG (g_internal_strconv_Atoi.al1 R) (g_internal_strconv_Atoi.bl1 R) (fun _ => by kernel_rfl) (fun Xa => trivial) (fun Xa => by intro x5 x6 x47q x47n x47c x48 x49 ρ w; kernel_rfl) (fun X h _ _ _ _ _ _ _ _ g => g X h))⟩, trivial⟩⟩, cutE (by intro x0 x5 ρ w; kernel_rfl)⟩⟩⟩, trivial⟩, cutE (by intro x0 x30 ρ w; kernel_rfl)⟩⟩, trivial⟩⟩⟩
theorem g_internal_strconv_Atoi.eq (R : EP) (x0 : BA) (w : World) : g_internal_strconv_Atoi R x0 w = vcA P 77 (g_internal_strconv_Atoi.ac R) (QF P [.tmp 2, .tmp 3] R) (fr0 [.string x0]) w := by kernel_rfl
theorem g_internal_strconv_Atoi.sound {R : EP} {x0 : ByteArray} {w : World} (h : g_internal_strconv_Atoi R x0 w) : callE P i_internal_strconv_Atoi #[.string x0] R w :=
  callE_fin (c := g_internal_strconv_Atoi.body) Tryz.func164 Tryz.call164 (by kernel_rfl) (by kernel_rfl) (by kernel_rfl) (by kernel_rfl) (by kernel_rfl) (g_internal_strconv_Atoi.good R) (g_internal_strconv_Atoi.eq R x0 w) h
/- 162 internal/strconv.ParseInt -/
namespace g_internal_strconv_ParseInt
noncomputable def body : Code := bodyOf Tryz.f162
def k5 (R : EP) (x8 : Bool) (x9 : Int) (x10 : Int) (x62 : Bool) (w : World) : Prop :=
 br x62
 (R (.returned (.tuple #[.int .i64 (IntKind.i64.wrap (0 - (IntKind.i64.wrap x10))), .iface ty_strconv_Error (.int .i64 1)])) w)
 (br x8
 (R (.returned (.tuple #[.int .i64 (IntKind.i64.wrap (0 - (IntKind.i64.wrap x9))), .nilIface])) w)
 (R (.returned (.tuple #[.int .i64 (IntKind.i64.wrap x9), .nilIface])) w))

def k4 (R : EP) (x8 : Bool) (x9 : Int) (x10 : Int) (x52 : Bool) (w : World) : Prop :=
 br x52
 (R (.returned (.tuple #[.int .i64 (IntKind.i64.wrap (IntKind.u64.wrap (x10 - 1))), .iface ty_strconv_Error (.int .i64 1)])) w)
 (k5 R x8 x9 x10 (x8 && (decide (x9 > x10))) w)

def k3 (R : EP) (x2 : Int) (x8 : Bool) (x9 : Int) (w : World) : Prop :=
 0 ≤ (IntKind.u64.wrap (IntKind.i64.wrap (x2 - 1))) ∧
 k4 R x8 x9 (IntKind.u64.wrap (1 * 2 ^ (min (Int.toNat (IntKind.u64.wrap (IntKind.i64.wrap (x2 - 1)))) 64))) ((!x8) && (decide (x9 ≥ (IntKind.u64.wrap (1 * 2 ^ (min (Int.toNat (IntKind.u64.wrap (IntKind.i64.wrap (x2 - 1)))) 64)))))) w

def k2 (R : EP) (x2 : Int) (x8 : Bool) (x9 : Int) (w : World) : Prop :=
 br (x2 == 0)
 (k3 R 64 x8 x9 w)
 (k3 R x2 x8 x9 w)

def k1 (R : EP) (x0 : BA) (x1 : Int) (x2 : Int) (x8 : Bool) (w : World) : Prop :=
 callE P i_internal_strconv_ParseUint #[.string x0, .int .i64 x1, .int .i64 x2] (fun e w2 => ∃ (r1_0 : Int), ∃ (r1_1 : Value), e = .returned (.tuple #[.int .u64 r1_0, r1_1]) ∧
 ∃ (r3 : Bool), ∃ w4, (do eqGuard .neq ty_error (.tmp 32) (.const .nilIface) r1_1 .nilIface; binOp .neq ty_error r1_1 .nilIface).run P w2 = .ok (.bool r3) w4 ∧
 br r3
 (∃ (r5 : Bool), ∃ w6, (do eqGuard .neq ty_error (.tmp 35) (.tmp 36) r1_1 (.iface ty_strconv_Error (.int .i64 1)); binOp .neq ty_error r1_1 (.iface ty_strconv_Error (.int .i64 1))).run P w4 = .ok (.bool r5) w6 ∧
 br r5
 (R (.returned (.tuple #[.int .i64 0, r1_1])) w6)
 (k2 R x2 x8 r1_0 w6))
 (k2 R x2 x8 r1_0 w4)) w

end g_internal_strconv_ParseInt
def g_internal_strconv_ParseInt (R : EP) (x0 : BA) (x1 : Int) (x2 : Int) (w : World) : Prop :=
 br (x0.toList == (ByteArray.mk #[]).toList)
 (R (.returned (.tuple #[.int .i64 0, .iface ty_strconv_Error (.int .i64 2)])) w)
 (0 ≤ (0 : Int) ∧ 0 < (x0.size : Int) ∧
 br ((bt x0 0) == 43)
 (0 ≤ (1 : Int) ∧ 1 ≤ (x0.size : Int) ∧
 g_internal_strconv_ParseInt.k1 R (x0.extract (Int.toNat 1) x0.size) x1 x2 false w)
 (br ((bt x0 0) == 45)
 (0 ≤ (1 : Int) ∧ 1 ≤ (x0.size : Int) ∧
 g_internal_strconv_ParseInt.k1 R (x0.extract (Int.toNat 1) x0.size) x1 x2 true w)
 (g_internal_strconv_ParseInt.k1 R x0 x1 x2 false w)))

noncomputable def g_internal_strconv_ParseInt.ac (R : EP) : AC :=
  (.seq (.leaf (sel [0] g_internal_strconv_ParseInt.body)) (.seq (.leaf (sel [1, 0] g_internal_strconv_ParseInt.body)) (.seq (.leaf (sel [1, 1, 0] g_internal_strconv_ParseInt.body)) (.seq (.leaf (sel [1, 1, 1, 0] g_internal_strconv_ParseInt.body)) (.mark (leaf [(0, .s .str), (1, .s (.int .i64)), (2, .s (.int .i64)), (8, .s .bool)] (g_internal_strconv_ParseInt.k1 R)) (.seq (.leaf (sel [1, 1, 1, 1, 0] g_internal_strconv_ParseInt.body)) (.seq (.leaf (sel [1, 1, 1, 1, 1, 0] g_internal_strconv_ParseInt.body)) (.seq (.leaf (sel [1, 1, 1, 1, 1, 1, 0] g_internal_strconv_ParseInt.body)) (.mark (leaf [(2, .s (.int .i64)), (8, .s .bool), (9, .s (.int .u64))] (g_internal_strconv_ParseInt.k2 R)) (.seq (.leaf (sel [1, 1, 1, 1, 1, 1, 1, 0] g_internal_strconv_ParseInt.body)) (.mark (leaf [(2, .s (.int .i64)), (8, .s .bool), (9, .s (.int .u64))] (g_internal_strconv_ParseInt.k3 R)) (.seq (.leaf (sel [1, 1, 1, 1, 1, 1, 1, 1, 0] g_internal_strconv_ParseInt.body)) (.seq (.seq (.leaf (sel [1, 1, 1, 1, 1, 1, 1, 1, 1, 0, 0] g_internal_strconv_ParseInt.body)) (.mark (leaf [(8, .s .bool), (9, .s (.int .u64)), (10, .s (.int .u64)), (52, .s .bool)] (g_internal_strconv_ParseInt.k4 R)) (.leaf (sel [1, 1, 1, 1, 1, 1, 1, 1, 1, 0, 1] g_internal_strconv_ParseInt.body)))) (.seq (.seq (.leaf (sel [1, 1, 1, 1, 1, 1, 1, 1, 1, 1, 0, 0] g_internal_strconv_ParseInt.body)) (.mark (leaf [(8, .s .bool), (9, .s (.int .u64)), (10, .s (.int .u64)), (62, .s .bool)] (g_internal_strconv_ParseInt.k5 R)) (.leaf (sel [1, 1, 1, 1, 1, 1, 1, 1, 1, 1, 0, 1] g_internal_strconv_ParseInt.body)))) (.leaf (sel [1, 1, 1, 1, 1, 1, 1, 1, 1, 1, 1] g_internal_strconv_ParseInt.body))))))))))))))))
theorem g_internal_strconv_ParseInt.good (R : EP) : Good P 73 (g_internal_strconv_ParseInt.ac R) (QF P [.tmp 6, .tmp 7] R) :=
  ⟨trivial, ⟨trivial, ⟨trivial, ⟨trivial, ⟨⟨trivial, ⟨trivial, ⟨trivial, ⟨⟨trivial, ⟨⟨trivial, ⟨⟨trivial, ⟨trivial, cutE (by intro x8 x9 x10 x52 ρ w; kernel_rfl)⟩⟩, ⟨⟨trivial, ⟨trivial, cutE (by intro x8 x9 x10 x62 ρ w; kernel_rfl)⟩⟩, trivial⟩⟩⟩, cutE (by intro x2 x8 x9 ρ w; kernel_rfl)⟩⟩, cutE (by intro x2 x8 x9 ρ w; kernel_rfl)⟩⟩⟩⟩, cutE (by intro x0 x1 x2 x8 ρ w; kernel_rfl)⟩⟩⟩⟩⟩
theorem g_internal_strconv_ParseInt.eq (R : EP) (x0 : BA) (x1 : Int) (x2 : Int) (w : World) : g_internal_strconv_ParseInt R x0 x1 x2 w = vcA P 73 (g_internal_strconv_ParseInt.ac R) (QF P [.tmp 6, .tmp 7] R) (fr0 [.string x0, .int .i64 x1, .int .i64 x2]) w := by kernel_rfl
theorem g_internal_strconv_ParseInt.sound {R : EP} {x0 : ByteArray} {x1 : Int} {x2 : Int} {w : World} (h : g_internal_strconv_ParseInt R x0 x1 x2 w) : callE P i_internal_strconv_ParseInt #[.string x0, .int .i64 x1, .int .i64 x2] R w :=
  callE_fin (c := g_internal_strconv_ParseInt.body) Tryz.func162 Tryz.call162 (by kernel_rfl) (by kernel_rfl) (by kernel_rfl) (by kernel_rfl) (by kernel_rfl) (g_internal_strconv_ParseInt.good R) (g_internal_strconv_ParseInt.eq R x0 x1 x2 w) h
/- 188 internal/strconv.ParseUint -/
namespace g_internal_strconv_ParseUint
noncomputable def body : Code := bodyOf Tryz.f188
def k12 (R : EP) (Xa : Int → Bool → BA → Int → Int → Bool → Int → OA → Nat → Nat → Int → Int → WP) (x1 : Int) (x8 : Bool) (x9 : BA) (x10 : Int) (x11 : Int) (x12 : Bool) (x17 : Int) (x99q : OA) (x99n : Nat) (x99c : Nat) (x100 : Int) (x101 : Int) (x159 : Bool) (w : World) : Prop :=
 br x159
 (R (.returned (.tuple #[.int .u64 x11, .iface ty_strconv_Error (.int .i64 1)])) w)
 (Xa x1 x8 x9 x10 x11 x12 x17 x99q x99n x99c x100 (IntKind.i64.wrap (x101 + 1)) w)

def k10 (R : EP) (Xa : Int → Bool → BA → Int → Int → Bool → Int → OA → Nat → Nat → Int → Int → WP) (x1 : Int) (x8 : Bool) (x9 : BA) (x10 : Int) (x11 : Int) (x12 : Bool) (x13 : Int) (x16 : Int) (x99q : OA) (x99n : Nat) (x99c : Nat) (x100 : Int) (x101 : Int) (w : World) : Prop :=
 br (decide (x16 ≥ (IntKind.u8.wrap x1)))
 (R (.returned (.tuple #[.int .u64 0, .iface ty_strconv_Error (.int .i64 2)])) w)
 (br (decide (x13 ≥ x10))
 (R (.returned (.tuple #[.int .u64 x11, .iface ty_strconv_Error (.int .i64 1)])) w)
 (k12 R Xa x1 x8 x9 x10 x11 x12 (IntKind.u64.wrap ((IntKind.u64.wrap (x13 * (IntKind.u64.wrap x1))) + (IntKind.u64.wrap x16))) x99q x99n x99c x100 x101 ((decide ((IntKind.u64.wrap ((IntKind.u64.wrap (x13 * (IntKind.u64.wrap x1))) + (IntKind.u64.wrap x16))) < (IntKind.u64.wrap (x13 * (IntKind.u64.wrap x1))))) || (decide ((IntKind.u64.wrap ((IntKind.u64.wrap (x13 * (IntKind.u64.wrap x1))) + (IntKind.u64.wrap x16))) > x11))) w))

def k11 (R : EP) (Xa : Int → Bool → BA → Int → Int → Bool → Int → OA → Nat → Nat → Int → Int → WP) (x1 : Int) (x8 : Bool) (x9 : BA) (x10 : Int) (x11 : Int) (x12 : Bool) (x13 : Int) (x15 : Int) (x99q : OA) (x99n : Nat) (x99c : Nat) (x100 : Int) (x101 : Int) (x121 : Bool) (w : World) : Prop :=
 br x121
 (callE P i_internal_strconv_lower #[.int .u8 x15] (fun e w18 => ∃ (r17 : Int), e = .returned (.int .u8 r17) ∧
 k10 R Xa x1 x8 x9 x10 x11 x12 x13 (IntKind.u8.wrap ((IntKind.u8.wrap (r17 - 97)) + 10)) x99q x99n x99c x100 x101 w18) w)
 (R (.returned (.tuple #[.int .u64 0, .iface ty_strconv_Error (.int .i64 2)])) w)

def k9 (R : EP) (Xa : Int → Bool → BA → Int → Int → Bool → Int → OA → Nat → Nat → Int → Int → WP) (x1 : Int) (x8 : Bool) (x9 : BA) (x10 : Int) (x11 : Int) (x12 : Bool) (x13 : Int) (x15 : Int) (x99q : OA) (x99n : Nat) (x99c : Nat) (x100 : Int) (x101 : Int) (x112 : Bool) (w : World) : Prop :=
 br x112
 (k10 R Xa x1 x8 x9 x10 x11 x12 x13 (IntKind.u8.wrap (x15 - 48)) x99q x99n x99c x100 x101 w)
 (callE P i_internal_strconv_lower #[.int .u8 x15] (fun e w14 => ∃ (r13 : Int), e = .returned (.int .u8 r13) ∧
 br (decide (97 ≤ r13))
 (callE P i_internal_strconv_lower #[.int .u8 x15] (fun e w16 => ∃ (r15 : Int), e = .returned (.int .u8 r15) ∧
 k11 R Xa x1 x8 x9 x10 x11 x12 x13 x15 x99q x99n x99c x100 x101 (decide (r15 ≤ 122)) w16) w14)
 (k11 R Xa x1 x8 x9 x10 x11 x12 x13 x15 x99q x99n x99c x100 x101 false w14)) w)

def k8 (R : EP) (Xa : Int → Bool → BA → Int → Int → Bool → Int → OA → Nat → Nat → Int → Int → WP) (x1 : Int) (x8 : Bool) (x9 : BA) (x10 : Int) (x11 : Int) (x12 : Bool) (x13 : Int) (x15 : Int) (x99q : OA) (x99n : Nat) (x99c : Nat) (x100 : Int) (x101 : Int) (x106 : Bool) (w : World) : Prop :=
 br x106
 (Xa x1 x8 x9 x10 x11 true x13 x99q x99n x99c x100 (IntKind.i64.wrap (x101 + 1)) w)
 (k9 R Xa x1 x8 x9 x10 x11 x12 x13 x15 x99q x99n x99c x100 x101 ((decide (48 ≤ x15)) && (decide (x15 ≤ 57))) w)

def bl1 (R : EP) (Xa : Int → Bool → BA → Int → Int → Bool → Int → OA → Nat → Nat → Int → Int → WP) (x1 : Int) (x8 : Bool) (x9 : BA) (x10 : Int) (x11 : Int) (x12 : Bool) (x13 : Int) (x99q : OA) (x99n : Nat) (x99c : Nat) (x100 : Int) (x101 : Int) (w : World) : Prop :=
 br (decide (x101 < x100))
 (0 ≤ x101 ∧ x101 < (x99n : Int) ∧
 nilP x99q fun a9 =>
 ∃ (v10 : Int), w.cell? (a9.add (Int.toNat x101 * 1)) = some (.int .u8 v10) ∧
 k8 R Xa x1 x8 x9 x10 x11 x12 x13 v10 x99q x99n x99c x100 x101 ((v10 == 95) && x8) w)
 (br x12
 (callE P i_internal_strconv_underscoreOK #[.string x9] (fun e w12 => ∃ (r11 : Bool), e = .returned (.bool r11) ∧
 br (!r11)
 (R (.returned (.tuple #[.int .u64 0, .iface ty_strconv_Error (.int .i64 2)])) w12)
 (R (.returned (.tuple #[.int .u64 x13, .nilIface])) w12)) w)
 (R (.returned (.tuple #[.int .u64 x13, .nilIface])) w))
def l1 (R : EP) (x1 : Int) (x8 : Bool) (x9 : BA) (x10 : Int) (x11 : Int) (x12 : Bool) (x13 : Int) (x99q : OA) (x99n : Nat) (x99c : Nat) (x100 : Int) (x101 : Int) (w : World) : Prop :=
  ∀ X : Int → Bool → BA → Int → Int → Bool → Int → OA → Nat → Nat → Int → Int → WP, (∀ x1 x8 x9 x10 x11 x12 x13 x99q x99n x99c x100 x101 w, bl1 R X x1 x8 x9 x10 x11 x12 x13 x99q x99n x99c x100 x101 w → X x1 x8 x9 x10 x11 x12 x13 x99q x99n x99c x100 x101 w) → X x1 x8 x9 x10 x11 x12 x13 x99q x99n x99c x100 x101 w

noncomputable def al1 (R : EP) (Xa : Int → Bool → BA → Int → Int → Bool → Int → OA → Nat → Nat → Int → Int → WP) : AC :=
  (.seq (.leaf (sel [1, 1, 1, 1, 1, 1, 1, 1, 1, 1, 1, 0, 1, 0, 0, 0] body)) (.seq (.leaf (sel [1, 1, 1, 1, 1, 1, 1, 1, 1, 1, 1, 0, 1, 0, 0, 1, 0] body)) (.seq (.block 4 (.seq (.leaf (sel [1, 1, 1, 1, 1, 1, 1, 1, 1, 1, 1, 0, 1, 0, 0, 1, 1, 0, 0, 0] body)) (.seq (.leaf (sel [1, 1, 1, 1, 1, 1, 1, 1, 1, 1, 1, 0, 1, 0, 0, 1, 1, 0, 0, 1, 0] body)) (.seq (.block 5 (.seq (.leaf (sel [1, 1, 1, 1, 1, 1, 1, 1, 1, 1, 1, 0, 1, 0, 0, 1, 1, 0, 0, 1, 1, 0, 0, 0] body)) (.mark (leaf [(1, .s (.int .i64)), (8, .s .bool), (9, .s .str), (10, .s (.int .u64)), (11, .s (.int .u64)), (12, .s .bool), (13, .s (.int .u64)), (15, .s (.int .u8)), (99, .s .slice), (100, .s (.int .i64)), (101, .s (.int .i64)), (106, .s .bool)] (k8 R Xa)) (.cond 106 (.leaf (sel [1, 1, 1, 1, 1, 1, 1, 1, 1, 1, 1, 0, 1, 0, 0, 1, 1, 0, 0, 1, 1, 0, 0, 1, 0] body)) (.seq (.leaf (sel [1, 1, 1, 1, 1, 1, 1, 1, 1, 1, 1, 0, 1, 0, 0, 1, 1, 0, 0, 1, 1, 0, 0, 1, 1, 0] body)) (.mark (leaf [(1, .s (.int .i64)), (8, .s .bool), (9, .s .str), (10, .s (.int .u64)), (11, .s (.int .u64)), (12, .s .bool), (13, .s (.int .u64)), (15, .s (.int .u8)), (99, .s .slice), (100, .s (.int .i64)), (101, .s (.int .i64)), (112, .s .bool)] (k9 R Xa)) (.cond 112 (.leaf (sel [1, 1, 1, 1, 1, 1, 1, 1, 1, 1, 1, 0, 1, 0, 0, 1, 1, 0, 0, 1, 1, 0, 0, 1, 1, 1, 0] body)) (.seq (.leaf (sel [1, 1, 1, 1, 1, 1, 1, 1, 1, 1, 1, 0, 1, 0, 0, 1, 1, 0, 0, 1, 1, 0, 0, 1, 1, 1, 1, 0] body)) (.mark (leaf [(1, .s (.int .i64)), (8, .s .bool), (9, .s .str), (10, .s (.int .u64)), (11, .s (.int .u64)), (12, .s .bool), (13, .s (.int .u64)), (15, .s (.int .u8)), (99, .s .slice), (100, .s (.int .i64)), (101, .s (.int .i64)), (121, .s .bool)] (k11 R Xa)) (.leaf (sel [1, 1, 1, 1, 1, 1, 1, 1, 1, 1, 1, 0, 1, 0, 0, 1, 1, 0, 0, 1, 1, 0, 0, 1, 1, 1, 1, 1] body))))))))))) (.mark (leaf [(1, .s (.int .i64)), (8, .s .bool), (9, .s .str), (10, .s (.int .u64)), (11, .s (.int .u64)), (12, .s .bool), (13, .s (.int .u64)), (16, .s (.int .u8)), (99, .s .slice), (100, .s (.int .i64)), (101, .s (.int .i64))] (k10 R Xa)) (.seq (.leaf (sel [1, 1, 1, 1, 1, 1, 1, 1, 1, 1, 1, 0, 1, 0, 0, 1, 1, 0, 0, 1, 1, 1, 0] body)) (.seq (.leaf (sel [1, 1, 1, 1, 1, 1, 1, 1, 1, 1, 1, 0, 1, 0, 0, 1, 1, 0, 0, 1, 1, 1, 1, 0] body)) (.seq (.leaf (sel [1, 1, 1, 1, 1, 1, 1, 1, 1, 1, 1, 0, 1, 0, 0, 1, 1, 0, 0, 1, 1, 1, 1, 1, 0] body)) (.seq (.leaf (sel [1, 1, 1, 1, 1, 1, 1, 1, 1, 1, 1, 0, 1, 0, 0, 1, 1, 0, 0, 1, 1, 1, 1, 1, 1, 0] body)) (.seq (.seq (.leaf (sel [1, 1, 1, 1, 1, 1, 1, 1, 1, 1, 1, 0, 1, 0, 0, 1, 1, 0, 0, 1, 1, 1, 1, 1, 1, 1, 0, 0] body)) (.mark (leaf [(1, .s (.int .i64)), (8, .s .bool), (9, .s .str), (10, .s (.int .u64)), (11, .s (.int .u64)), (12, .s .bool), (17, .s (.int .u64)), (99, .s .slice), (100, .s (.int .i64)), (101, .s (.int .i64)), (159, .s .bool)] (k12 R Xa)) (.leaf (sel [1, 1, 1, 1, 1, 1, 1, 1, 1, 1, 1, 0, 1, 0, 0, 1, 1, 0, 0, 1, 1, 1, 1, 1, 1, 1, 0, 1] body)))) (.leaf (sel [1, 1, 1, 1, 1, 1, 1, 1, 1, 1, 1, 0, 1, 0, 0, 1, 1, 0, 0, 1, 1, 1, 1, 1, 1, 1, 1] body)))))))))))) (.leaf (sel [1, 1, 1, 1, 1, 1, 1, 1, 1, 1, 1, 0, 1, 0, 0, 1, 1, 1] body)))))
def k6 (R : EP) (x0 : BA) (x1 : Int) (x2 : Int) (x8 : Bool) (x9 : BA) (x10 : Int) (w : World) : Prop :=
 0 ≤ (IntKind.u64.wrap x2) ∧
 ∃ (r7q : OA), ∃ (r7n : Nat), ∃ (r7c : Nat), ∃ w8, (convert ty_string ty_S_uint8 (.string x0)).run P w = .ok (.slice r7q r7n r7c) w8 ∧
 l1 R x1 x8 x9 x10 (IntKind.u64.wrap ((IntKind.u64.wrap (1 * 2 ^ (min (Int.toNat (IntKind.u64.wrap x2)) 64))) - 1)) false 0 r7q r7n r7c (r7n : Int) 0 w8

def k4 (R : EP) (x0 : BA) (x1 : Int) (x2 : Int) (x8 : Bool) (x9 : BA) (w : World) : Prop :=
 br (x1 == 10)
 (k6 R x0 x1 x2 x8 x9 1844674407370955162 w)
 (br (x1 == 16)
 (k6 R x0 x1 x2 x8 x9 1152921504606846976 w)
 ((IntKind.u64.wrap x1) ≠ 0 ∧
 k6 R x0 x1 x2 x8 x9 (IntKind.u64.wrap ((IntKind.u64.wrap (Int.tdiv 18446744073709551615 (IntKind.u64.wrap x1))) + 1)) w))

def k2 (R : EP) (x0 : BA) (x1 : Int) (x2 : Int) (x8 : Bool) (x9 : BA) (w : World) : Prop :=
 br (x2 == 0)
 (k4 R x0 x1 64 x8 x9 w)
 (br ((decide (x2 < 0)) || (decide (x2 > 64)))
 (R (.returned (.tuple #[.int .u64 0, .iface ty_strconv_Error (.int .i64 4)])) w)
 (k4 R x0 x1 x2 x8 x9 w))

def k7 (R : EP) (x0 : BA) (x2 : Int) (x8 : Bool) (x9 : BA) (x64 : Bool) (w : World) : Prop :=
 br x64
 (0 ≤ (2 : Int) ∧ 2 ≤ (x0.size : Int) ∧
 k2 R (x0.extract (Int.toNat 2) x0.size) 16 x2 x8 x9 w)
 (0 ≤ (1 : Int) ∧ 1 ≤ (x0.size : Int) ∧
 k2 R (x0.extract (Int.toNat 1) x0.size) 8 x2 x8 x9 w)

def k5 (R : EP) (x0 : BA) (x2 : Int) (x8 : Bool) (x9 : BA) (x52 : Bool) (w : World) : Prop :=
 br x52
 (0 ≤ (2 : Int) ∧ 2 ≤ (x0.size : Int) ∧
 k2 R (x0.extract (Int.toNat 2) x0.size) 8 x2 x8 x9 w)
 (((decide ((x0.size : Int) ≥ 3)) = true → 0 ≤ (1 : Int) ∧ 1 < (x0.size : Int)) ∧
 br (decide ((x0.size : Int) ≥ 3))
 (callE P i_internal_strconv_lower #[.int .u8 (bt x0 1)] (fun e w6 => ∃ (r5 : Int), e = .returned (.int .u8 r5) ∧
 k7 R x0 x2 x8 x9 (r5 == 120) w6) w)
 (k7 R x0 x2 x8 x9 false w))

def k3 (R : EP) (x0 : BA) (x2 : Int) (x8 : Bool) (x9 : BA) (x40 : Bool) (w : World) : Prop :=
 br x40
 (0 ≤ (2 : Int) ∧ 2 ≤ (x0.size : Int) ∧
 k2 R (x0.extract (Int.toNat 2) x0.size) 2 x2 x8 x9 w)
 (((decide ((x0.size : Int) ≥ 3)) = true → 0 ≤ (1 : Int) ∧ 1 < (x0.size : Int)) ∧
 br (decide ((x0.size : Int) ≥ 3))
 (callE P i_internal_strconv_lower #[.int .u8 (bt x0 1)] (fun e w4 => ∃ (r3 : Int), e = .returned (.int .u8 r3) ∧
 k5 R x0 x2 x8 x9 (r3 == 111) w4) w)
 (k5 R x0 x2 x8 x9 false w))

def k1 (R : EP) (x0 : BA) (x1 : Int) (x2 : Int) (x8 : Bool) (x9 : BA) (x25 : Bool) (w : World) : Prop :=
 br x25
 (k2 R x0 x1 x2 x8 x9 w)
 (br (x1 == 0)
 (0 ≤ (0 : Int) ∧ 0 < (x0.size : Int) ∧
 br ((bt x0 0) == 48)
 (((decide ((x0.size : Int) ≥ 3)) = true → 0 ≤ (1 : Int) ∧ 1 < (x0.size : Int)) ∧
 br (decide ((x0.size : Int) ≥ 3))
 (callE P i_internal_strconv_lower #[.int .u8 (bt x0 1)] (fun e w2 => ∃ (r1 : Int), e = .returned (.int .u8 r1) ∧
 k3 R x0 x2 x8 x9 (r1 == 98) w2) w)
 (k3 R x0 x2 x8 x9 false w))
 (k2 R x0 10 x2 x8 x9 w))
 (R (.returned (.tuple #[.int .u64 0, .iface ty_strconv_Error (.int .i64 3)])) w))

end g_internal_strconv_ParseUint
def g_internal_strconv_ParseUint (R : EP) (x0 : BA) (x1 : Int) (x2 : Int) (w : World) : Prop :=
 br (x0.toList == (ByteArray.mk #[]).toList)
 (R (.returned (.tuple #[.int .u64 0, .iface ty_strconv_Error (.int .i64 2)])) w)
 (g_internal_strconv_ParseUint.k1 R x0 x1 x2 (x1 == 0) x0 ((decide (2 ≤ x1)) && (decide (x1 ≤ 36))) w)

noncomputable def g_internal_strconv_ParseUint.ac (R : EP) : AC :=
  (.seq (.leaf (sel [0] g_internal_strconv_ParseUint.body)) (.seq (.leaf (sel [1, 0] g_internal_strconv_ParseUint.body)) (.seq (.leaf (sel [1, 1, 0] g_internal_strconv_ParseUint.body)) (.seq (.leaf (sel [1, 1, 1, 0] g_internal_strconv_ParseUint.body)) (.seq (.block 0 (.seq (.leaf (sel [1, 1, 1, 1, 0, 0, 0] g_internal_strconv_ParseUint.body)) (.mark (leaf [(0, .s .str), (1, .s (.int .i64)), (2, .s (.int .i64)), (8, .s .bool), (9, .s .str), (25, .s .bool)] (g_internal_strconv_ParseUint.k1 R)) (.cond 25 (.leaf (sel [1, 1, 1, 1, 0, 0, 1, 0] g_internal_strconv_ParseUint.body)) (.seq (.leaf (sel [1, 1, 1, 1, 0, 0, 1, 1, 0] g_internal_strconv_ParseUint.body)) (.cond 32 (.seq (.leaf (sel [1, 1, 1, 1, 0, 0, 1, 1, 1, 0, 0] g_internal_strconv_ParseUint.body)) (.seq (.leaf (sel [1, 1, 1, 1, 0, 0, 1, 1, 1, 0, 1, 0] g_internal_strconv_ParseUint.body)) (.cond 37 (.block 1 (.seq (.leaf (sel [1, 1, 1, 1, 0, 0, 1, 1, 1, 0, 1, 1, 0, 0, 0] g_internal_strconv_ParseUint.body)) (.mark (leaf [(0, .s .str), (2, .s (.int .i64)), (8, .s .bool), (9, .s .str), (40, .s .bool)] (g_internal_strconv_ParseUint.k3 R)) (.cond 40 (.leaf (sel [1, 1, 1, 1, 0, 0, 1, 1, 1, 0, 1, 1, 0, 0, 1, 0] g_internal_strconv_ParseUint.body)) (.seq (.leaf (sel [1, 1, 1, 1, 0, 0, 1, 1, 1, 0, 1, 1, 0, 0, 1, 1, 0] g_internal_strconv_ParseUint.body)) (.mark (leaf [(0, .s .str), (2, .s (.int .i64)), (8, .s .bool), (9, .s .str), (52, .s .bool)] (g_internal_strconv_ParseUint.k5 R)) (.cond 52 (.leaf (sel [1, 1, 1, 1, 0, 0, 1, 1, 1, 0, 1, 1, 0, 0, 1, 1, 1, 0] g_internal_strconv_ParseUint.body)) (.seq (.leaf (sel [1, 1, 1, 1, 0, 0, 1, 1, 1, 0, 1, 1, 0, 0, 1, 1, 1, 1, 0] g_internal_strconv_ParseUint.body)) (.mark (leaf [(0, .s .str), (2, .s (.int .i64)), (8, .s .bool), (9, .s .str), (64, .s .bool)] (g_internal_strconv_ParseUint.k7 R)) (.leaf (sel [1, 1, 1, 1, 0, 0, 1, 1, 1, 0, 1, 1, 0, 0, 1, 1, 1, 1, 1] g_internal_strconv_ParseUint.body))))))))))) (.leaf (sel [1, 1, 1, 1, 0, 0, 1, 1, 1, 0, 1, 1, 1] g_internal_strconv_ParseUint.body))))) (.leaf (sel [1, 1, 1, 1, 0, 0, 1, 1, 1, 1] g_internal_strconv_ParseUint.body)))))))) (.mark (leaf [(0, .s .str), (1, .s (.int .i64)), (2, .s (.int .i64)), (8, .s .bool), (9, .s .str)] (g_internal_strconv_ParseUint.k2 R)) (.seq (.leaf (sel [1, 1, 1, 1, 1, 0] g_internal_strconv_ParseUint.body)) (.mark (leaf [(0, .s .str), (1, .s (.int .i64)), (2, .s (.int .i64)), (8, .s .bool), (9, .s .str)] (g_internal_strconv_ParseUint.k4 R)) (.seq (.leaf (sel [1, 1, 1, 1, 1, 1, 0] g_internal_strconv_ParseUint.body)) (.seq (.leaf (sel [1, 1, 1, 1, 1, 1, 1, 0] g_internal_strconv_ParseUint.body)) (.mark (leaf [(0, .s .str), (1, .s (.int .i64)), (2, .s (.int .i64)), (8, .s .bool), (9, .s .str), (10, .s (.int .u64))] (g_internal_strconv_ParseUint.k6 R)) (.seq (.leaf (sel [1, 1, 1, 1, 1, 1, 1, 1, 0] g_internal_strconv_ParseUint.body)) (.seq (.leaf (sel [1, 1, 1, 1, 1, 1, 1, 1, 1, 0] g_internal_strconv_ParseUint.body)) (.seq (.leaf (sel [1, 1, 1, 1, 1, 1, 1, 1, 1, 1, 0] g_internal_strconv_ParseUint.body)) (.seq (.seq (.leaf (sel [1, 1, 1, 1, 1, 1, 1, 1, 1, 1, 1, 0, 0] g_internal_strconv_ParseUint.body)) (.block 3 (.loop (leaf [(1, .s (.int .i64)), (8, .s .bool), (9, .s .str), (10, .s (.int .u64)), (11, .s (.int .u64)), (12, .s .bool), (13, .s (.int .u64)), (99, .s .slice), (100, .s (.int .i64)), (101, .s (.int .i64))] (g_internal_strconv_ParseUint.l1 R)) (sel [1, 1, 1, 1, 1, 1, 1, 1, 1, 1, 1, 0, 1, 0, 0] g_internal_strconv_ParseUint.body)))) (.leaf (sel [1, 1, 1, 1, 1, 1, 1, 1, 1, 1, 1, 1] g_internal_strconv_ParseUint.body)))))))))))))))))
theorem g_internal_strconv_ParseUint.good (R : EP) : Good P 172 (g_internal_strconv_ParseUint.ac R) (QF P [.tmp 6, .tmp 7] R) :=
  ⟨trivial, ⟨trivial, ⟨trivial, ⟨trivial, ⟨⟨trivial, ⟨⟨trivial, ⟨trivial, ⟨⟨trivial, ⟨trivial, ⟨⟨trivial, ⟨⟨trivial, ⟨trivial, ⟨⟨trivial, ⟨trivial, ⟨trivial, cutE (by intro x0 x2 x8 x9 x64 ρ w; kernel_rfl)⟩⟩⟩, cutE (by intro x0 x2 x8 x9 x52 ρ w; kernel_rfl)⟩⟩⟩, cutE (by intro x0 x2 x8 x9 x40 ρ w; kernel_rfl)⟩⟩, trivial⟩⟩⟩, trivial⟩⟩⟩, cutE (by intro x0 x1 x2 x8 x9 x25 ρ w; kernel_rfl)⟩⟩, ⟨⟨trivial, ⟨⟨trivial, ⟨trivial, ⟨⟨trivial, ⟨trivial, ⟨trivial, ⟨⟨trivial, (loopG (g_internal_strconv_ParseUint.al1 R) (g_internal_strconv_ParseUint.bl1 R) (fun _ => by kernel_rfl) (fun Xa => ⟨trivial, ⟨trivial, ⟨⟨trivial, ⟨trivial, ⟨⟨trivial, ⟨⟨trivial, ⟨trivial, ⟨⟨trivial, ⟨trivial, ⟨trivial, cutE (by intro x1 x8 x9 x10 x11 x12 x13 x15 x99q x99n x99c x100 x101 x121 ρ w; kernel_rfl)⟩⟩⟩, cutE (by intro x1 x8 x9 x10 x11 x12 x13 x15 x99q x99n x99c x100 x101 x112 ρ w; kernel_rfl)⟩⟩⟩, cutE (by intro x1 x8 x9 x10 x11 x12 x13 x15 x99q x99n x99c x100 x101 x106 ρ w; kernel_rfl)⟩⟩, ⟨⟨trivial, ⟨trivial, ⟨trivial, ⟨trivial, ⟨⟨trivial, ⟨trivial, cutE (by intro x1 x8 x9 x10 x11 x12 x17 x99q x99n x99c x100 x101 x159 ρ w; kernel_rfl)⟩⟩, trivial⟩⟩⟩⟩⟩, cutE (by intro x1 x8 x9 x10 x11 x12 x13 x16 x99q x99n x99c x100 x101 ρ w; kernel_rfl)⟩⟩⟩⟩, trivial⟩⟩⟩) (fun Xa => by intro x1 x8 x9 x10 x11 x12 x13 x99q x99n x99c x100 x101 ρ w; kernel_rfl) (fun X h _ _ _ _ _ _ _ _ _ _ _ _ _ g => g X h))⟩, trivial⟩⟩⟩⟩, cutE (by intro x0 x1 x2 x8 x9 x10 ρ w; kernel_rfl)⟩⟩⟩, cutE (by intro x0 x1 x2 x8 x9 ρ w; kernel_rfl)⟩⟩, cutE (by intro x0 x1 x2 x8 x9 ρ w; kernel_rfl)⟩⟩⟩⟩⟩⟩
theorem g_internal_strconv_ParseUint.eq (R : EP) (x0 : BA) (x1 : Int) (x2 : Int) (w : World) : g_internal_strconv_ParseUint R x0 x1 x2 w = vcA P 172 (g_internal_strconv_ParseUint.ac R) (QF P [.tmp 6, .tmp 7] R) (fr0 [.string x0, .int .i64 x1, .int .i64 x2]) w := by kernel_rfl
theorem g_internal_strconv_ParseUint.sound {R : EP} {x0 : ByteArray} {x1 : Int} {x2 : Int} {w : World} (h : g_internal_strconv_ParseUint R x0 x1 x2 w) : callE P i_internal_strconv_ParseUint #[.string x0, .int .i64 x1, .int .i64 x2] R w :=
  callE_fin (c := g_internal_strconv_ParseUint.body) Tryz.func188 Tryz.call188 (by kernel_rfl) (by kernel_rfl) (by kernel_rfl) (by kernel_rfl) (by kernel_rfl) (g_internal_strconv_ParseUint.good R) (g_internal_strconv_ParseUint.eq R x0 x1 x2 w) h
/- 199 internal/strconv.lower -/
namespace g_internal_strconv_lower
noncomputable def body : Code := bodyOf Tryz.f199
end g_internal_strconv_lower
def g_internal_strconv_lower (R : EP) (x0 : Int) (w : World) : Prop :=
 R (.returned (.int .u8 (bitOr .u8 x0 32))) w

noncomputable def g_internal_strconv_lower.ac (R : EP) : AC :=
  (.leaf (sel [] g_internal_strconv_lower.body))
theorem g_internal_strconv_lower.good (R : EP) : Good P 5 (g_internal_strconv_lower.ac R) (QF P [.tmp 2] R) :=
  trivial
theorem g_internal_strconv_lower.eq (R : EP) (x0 : Int) (w : World) : g_internal_strconv_lower R x0 w = vcA P 5 (g_internal_strconv_lower.ac R) (QF P [.tmp 2] R) (fr0 [.int .u8 x0]) w := by kernel_rfl
theorem g_internal_strconv_lower.sound {R : EP} {x0 : Int} {w : World} (h : g_internal_strconv_lower R x0 w) : callE P i_internal_strconv_lower #[.int .u8 x0] R w :=
  callE_fin (c := g_internal_strconv_lower.body) Tryz.func199 Tryz.call199 (by kernel_rfl) (by kernel_rfl) (by kernel_rfl) (by kernel_rfl) (by kernel_rfl) (g_internal_strconv_lower.good R) (g_internal_strconv_lower.eq R x0 w) h
/- 111 strconv.Atoi -/
namespace g_strconv_Atoi
noncomputable def body : Code := bodyOf Tryz.f111
end g_strconv_Atoi
def g_strconv_Atoi (R : EP) (x0 : BA) (w : World) : Prop :=
 callE P i_internal_strconv_Atoi #[.string x0] (fun e w2 => ∃ (r1_0 : Int), ∃ (r1_1 : Value), e = .returned (.tuple #[.int .i64 r1_0, r1_1]) ∧
 ∃ (r3 : Bool), ∃ w4, (do eqGuard .neq ty_error (.tmp 11) (.const .nilIface) r1_1 .nilIface; binOp .neq ty_error r1_1 .nilIface).run P w2 = .ok (.bool r3) w4 ∧
 br r3
 (callE P i_strconv_toError #[.string (ByteArray.mk #[65, 116, 111, 105]), .string x0, .int .i64 0, .int .i64 0, r1_1] (fun e w6 => ∃ (r5 : Value), e = .returned r5 ∧
 R (.returned (.tuple #[.int .i64 r1_0, r5])) w6) w4)
 (R (.returned (.tuple #[.int .i64 r1_0, .nilIface])) w4)) w

noncomputable def g_strconv_Atoi.ac (R : EP) : AC :=
  (.leaf (sel [] g_strconv_Atoi.body))
theorem g_strconv_Atoi.good (R : EP) : Good P 18 (g_strconv_Atoi.ac R) (QF P [.tmp 2, .tmp 3] R) :=
  trivial
theorem g_strconv_Atoi.eq (R : EP) (x0 : BA) (w : World) : g_strconv_Atoi R x0 w = vcA P 18 (g_strconv_Atoi.ac R) (QF P [.tmp 2, .tmp 3] R) (fr0 [.string x0]) w := by kernel_rfl
theorem g_strconv_Atoi.sound {R : EP} {x0 : ByteArray} {w : World} (h : g_strconv_Atoi R x0 w) : callE P i_strconv_Atoi #[.string x0] R w :=
  callE_fin (c := g_strconv_Atoi.body) Tryz.func111 Tryz.call111 (by kernel_rfl) (by kernel_rfl) (by kernel_rfl) (by kernel_rfl) (by kernel_rfl) (g_strconv_Atoi.good R) (g_strconv_Atoi.eq R x0 w) h
/- 109 strconv.ParseInt -/
namespace g_strconv_ParseInt
noncomputable def body : Code := bodyOf Tryz.f109
end g_strconv_ParseInt
def g_strconv_ParseInt (R : EP) (x0 : BA) (x1 : Int) (x2 : Int) (w : World) : Prop :=
 callE P i_internal_strconv_ParseInt #[.string x0, .int .i64 x1, .int .i64 x2] (fun e w2 => ∃ (r1_0 : Int), ∃ (r1_1 : Value), e = .returned (.tuple #[.int .i64 r1_0, r1_1]) ∧
 ∃ (r3 : Bool), ∃ w4, (do eqGuard .neq ty_error (.tmp 16) (.const .nilIface) r1_1 .nilIface; binOp .neq ty_error r1_1 .nilIface).run P w2 = .ok (.bool r3) w4 ∧
 br r3
 (callE P i_strconv_toError #[.string (ByteArray.mk #[80, 97, 114, 115, 101, 73, 110, 116]), .string x0, .int .i64 x1, .int .i64 x2, r1_1] (fun e w6 => ∃ (r5 : Value), e = .returned r5 ∧
 R (.returned (.tuple #[.int .i64 r1_0, r5])) w6) w4)
 (R (.returned (.tuple #[.int .i64 r1_0, .nilIface])) w4)) w

noncomputable def g_strconv_ParseInt.ac (R : EP) : AC :=
  (.leaf (sel [] g_strconv_ParseInt.body))
theorem g_strconv_ParseInt.good (R : EP) : Good P 25 (g_strconv_ParseInt.ac R) (QF P [.tmp 6, .tmp 7] R) :=
  trivial
theorem g_strconv_ParseInt.eq (R : EP) (x0 : BA) (x1 : Int) (x2 : Int) (w : World) : g_strconv_ParseInt R x0 x1 x2 w = vcA P 25 (g_strconv_ParseInt.ac R) (QF P [.tmp 6, .tmp 7] R) (fr0 [.string x0, .int .i64 x1, .int .i64 x2]) w := by kernel_rfl
theorem g_strconv_ParseInt.sound {R : EP} {x0 : ByteArray} {x1 : Int} {x2 : Int} {w : World} (h : g_strconv_ParseInt R x0 x1 x2 w) : callE P i_strconv_ParseInt #[.string x0, .int .i64 x1, .int .i64 x2] R w :=
  callE_fin (c := g_strconv_ParseInt.body) Tryz.func109 Tryz.call109 (by kernel_rfl) (by kernel_rfl) (by kernel_rfl) (by kernel_rfl) (by kernel_rfl) (g_strconv_ParseInt.good R) (g_strconv_ParseInt.eq R x0 x1 x2 w) h
/- 99 pub-paratext/pub/rscmarkdown.isPunct -/
namespace g_isPunct
noncomputable def body : Code := bodyOf Tryz.f99
end g_isPunct
def g_isPunct (R : EP) (x0 : Int) (w : World) : Prop :=
 R (.returned (.bool (((((decide (33 ≤ x0)) && (decide (x0 ≤ 47))) || ((decide (58 ≤ x0)) && (decide (x0 ≤ 64)))) || ((decide (91 ≤ x0)) && (decide (x0 ≤ 96)))) || ((decide (123 ≤ x0)) && (decide (x0 ≤ 126)))))) w

noncomputable def g_isPunct.ac (R : EP) : AC :=
  (.leaf (sel [] g_isPunct.body))
theorem g_isPunct.good (R : EP) : Good P 33 (g_isPunct.ac R) (QF P [.tmp 2] R) :=
  trivial
theorem g_isPunct.eq (R : EP) (x0 : Int) (w : World) : g_isPunct R x0 w = vcA P 33 (g_isPunct.ac R) (QF P [.tmp 2] R) (fr0 [.int .u8 x0]) w := by kernel_rfl
theorem g_isPunct.sound {R : EP} {x0 : Int} {w : World} (h : g_isPunct R x0 w) : callE P i_isPunct #[.int .u8 x0] R w :=
  callE_fin (c := g_isPunct.body) Tryz.func99 Tryz.call99 (by kernel_rfl) (by kernel_rfl) (by kernel_rfl) (by kernel_rfl) (by kernel_rfl) (g_isPunct.good R) (g_isPunct.eq R x0 w) h
/- 107 pub-paratext/pub/rscmarkdown.isUnicodePunct -/
namespace g_isUnicodePunct
noncomputable def body : Code := bodyOf Tryz.f107
end g_isUnicodePunct
def g_isUnicodePunct (R : EP) (x0 : Int) (w : World) : Prop :=
 br (decide (x0 < 128))
 (callE P i_isPunct #[.int .u8 (IntKind.u8.wrap x0)] (fun e w2 => ∃ (r1 : Bool), e = .returned (.bool r1) ∧
 R (.returned (.bool r1)) w2) w)
 (callE P i_zzPunct #[.int .i32 x0] (fun e w4 => ∃ (r3 : Bool), e = .returned (.bool r3) ∧
 R (.returned (.bool r3)) w4) w)

noncomputable def g_isUnicodePunct.ac (R : EP) : AC :=
  (.leaf (sel [] g_isUnicodePunct.body))
theorem g_isUnicodePunct.good (R : EP) : Good P 10 (g_isUnicodePunct.ac R) (QF P [.tmp 2] R) :=
  trivial
theorem g_isUnicodePunct.eq (R : EP) (x0 : Int) (w : World) : g_isUnicodePunct R x0 w = vcA P 10 (g_isUnicodePunct.ac R) (QF P [.tmp 2] R) (fr0 [.int .i32 x0]) w := by kernel_rfl
theorem g_isUnicodePunct.sound {R : EP} {x0 : Int} {w : World} (h : g_isUnicodePunct R x0 w) : callE P i_isUnicodePunct #[.int .i32 x0] R w :=
  callE_fin (c := g_isUnicodePunct.body) Tryz.func107 Tryz.call107 (by kernel_rfl) (by kernel_rfl) (by kernel_rfl) (by kernel_rfl) (by kernel_rfl) (g_isUnicodePunct.good R) (g_isUnicodePunct.eq R x0 w) h
/- 106 pub-paratext/pub/rscmarkdown.isUnicodeSpace -/
namespace g_isUnicodeSpace
noncomputable def body : Code := bodyOf Tryz.f106
end g_isUnicodeSpace
def g_isUnicodeSpace (R : EP) (x0 : Int) (w : World) : Prop :=
 br (decide (x0 < 128))
 (R (.returned (.bool ((((x0 == 32) || (x0 == 9)) || (x0 == 12)) || (x0 == 10)))) w)
 (callE P i_zzZs #[.int .i32 x0] (fun e w2 => ∃ (r1 : Bool), e = .returned (.bool r1) ∧
 R (.returned (.bool r1)) w2) w)

noncomputable def g_isUnicodeSpace.ac (R : EP) : AC :=
  (.leaf (sel [] g_isUnicodeSpace.body))
theorem g_isUnicodeSpace.good (R : EP) : Good P 21 (g_isUnicodeSpace.ac R) (QF P [.tmp 2] R) :=
  trivial
theorem g_isUnicodeSpace.eq (R : EP) (x0 : Int) (w : World) : g_isUnicodeSpace R x0 w = vcA P 21 (g_isUnicodeSpace.ac R) (QF P [.tmp 2] R) (fr0 [.int .i32 x0]) w := by kernel_rfl
theorem g_isUnicodeSpace.sound {R : EP} {x0 : Int} {w : World} (h : g_isUnicodeSpace R x0 w) : callE P i_isUnicodeSpace #[.int .i32 x0] R w :=
  callE_fin (c := g_isUnicodeSpace.body) Tryz.func106 Tryz.call106 (by kernel_rfl) (by kernel_rfl) (by kernel_rfl) (by kernel_rfl) (by kernel_rfl) (g_isUnicodeSpace.good R) (g_isUnicodeSpace.eq R x0 w) h
/- 71 pub-paratext/pub/rscmarkdown.parseEmph -/
namespace g_parseEmph
noncomputable def body : Code := bodyOf Tryz.f71
def k11 (R : EP) (x1 : BA) (x2 : Int) (x11 : Int) (x16 : Bool) (x17 : Bool) (w : World) : Prop :=
 0 ≤ x2 ∧ x2 ≤ x11 ∧ x11 ≤ (x1.size : Int) ∧
 box w #[.string (x1.extract (Int.toNat x2) (Int.toNat x11)), .bool x16, .bool x17, .int .i64 0, .int .i64 (IntKind.i64.wrap (x11 - x2))] ty_emphPlain fun b25 w26 =>
 R (.returned (.tuple #[.iface ty_P_emphPlain (.pointer (some ⟨b25, 0, none⟩)), .int .i64 x2, .int .i64 x11, .bool true])) w26

def k13 (R : EP) (x1 : BA) (x2 : Int) (x11 : Int) (x13 : Int) (x14 : Bool) (x15 : Bool) (x16 : Bool) (w : World) : Prop :=
 br x15
 (br (!x14)
 (k11 R x1 x2 x11 x16 true w)
 (callE P i_isUnicodePunct #[.int .i32 x13] (fun e w30 => ∃ (r29 : Bool), e = .returned (.bool r29) ∧
 k11 R x1 x2 x11 x16 r29 w30) w))
 (k11 R x1 x2 x11 x16 false w)

def k12 (R : EP) (x1 : BA) (x2 : Int) (x11 : Int) (x12 : Int) (x13 : Int) (x14 : Bool) (x15 : Bool) (x16 : Bool) (x17 : Bool) (x126 : Int) (x144 : Bool) (w : World) : Prop :=
 br x144
 (k11 R x1 x2 x11 x14 x15 w)
 (br (x126 == 95)
 (br x14
 (br (!x15)
 (k13 R x1 x2 x11 x13 x14 x15 true w)
 (callE P i_isUnicodePunct #[.int .i32 x12] (fun e w28 => ∃ (r27 : Bool), e = .returned (.bool r27) ∧
 k13 R x1 x2 x11 x13 x14 x15 r27 w28) w))
 (k13 R x1 x2 x11 x13 x14 x15 false w))
 (k11 R x1 x2 x11 x16 x17 w))

def k10 (R : EP) (x1 : BA) (x2 : Int) (x11 : Int) (x12 : Int) (x13 : Int) (x14 : Bool) (x15 : Bool) (x16 : Bool) (x17 : Bool) (x126 : Int) (x127 : Bool) (w : World) : Prop :=
 br x127
 (k11 R x1 x2 x11 (((x14 && (!x15)) && (x12 != 93)) && (x12 != 41)) x15 w)
 (br (x126 == 42)
 (k12 R x1 x2 x11 x12 x13 x14 x15 x16 x17 x126 true w)
 (k12 R x1 x2 x11 x12 x13 x14 x15 x16 x17 x126 (x126 == 126) w))

def k9 (R : EP) (x1 : BA) (x2 : Int) (x10 : Int) (x11 : Int) (x12 : Int) (x13 : Int) (x14 : Bool) (x15 : Bool) (w : World) : Prop :=
 br (x10 == 39)
 (k10 R x1 x2 x11 x12 x13 x14 x15 false false x10 true w)
 (k10 R x1 x2 x11 x12 x13 x14 x15 false false x10 (x10 == 34) w)

def k8 (R : EP) (x1 : BA) (x2 : Int) (x10 : Int) (x11 : Int) (x12 : Int) (x13 : Int) (x14 : Bool) (w : World) : Prop :=
 callE P i_isUnicodeSpace #[.int .i32 x12] (fun e w18 => ∃ (r17 : Bool), e = .returned (.bool r17) ∧
 br (!r17)
 (callE P i_isUnicodePunct #[.int .i32 x12] (fun e w20 => ∃ (r19 : Bool), e = .returned (.bool r19) ∧
 br (!r19)
 (k9 R x1 x2 x10 x11 x12 x13 x14 true w20)
 (callE P i_isUnicodeSpace #[.int .i32 x13] (fun e w22 => ∃ (r21 : Bool), e = .returned (.bool r21) ∧
 br r21
 (k9 R x1 x2 x10 x11 x12 x13 x14 true w22)
 (callE P i_isUnicodePunct #[.int .i32 x13] (fun e w24 => ∃ (r23 : Bool), e = .returned (.bool r23) ∧
 k9 R x1 x2 x10 x11 x12 x13 x14 r23 w24) w22)) w20)) w18)
 (k9 R x1 x2 x10 x11 x12 x13 x14 false w18)) w

def k7 (R : EP) (x1 : BA) (x2 : Int) (x10 : Int) (x11 : Int) (x12 : Int) (x13 : Int) (w : World) : Prop :=
 callE P i_isUnicodeSpace #[.int .i32 x13] (fun e w10 => ∃ (r9 : Bool), e = .returned (.bool r9) ∧
 br (!r9)
 (callE P i_isUnicodePunct #[.int .i32 x13] (fun e w12 => ∃ (r11 : Bool), e = .returned (.bool r11) ∧
 br (!r11)
 (k8 R x1 x2 x10 x11 x12 x13 true w12)
 (callE P i_isUnicodeSpace #[.int .i32 x12] (fun e w14 => ∃ (r13 : Bool), e = .returned (.bool r13) ∧
 br r13
 (k8 R x1 x2 x10 x11 x12 x13 true w14)
 (callE P i_isUnicodePunct #[.int .i32 x12] (fun e w16 => ∃ (r15 : Bool), e = .returned (.bool r15) ∧
 k8 R x1 x2 x10 x11 x12 x13 r15 w16) w14)) w12)) w10)
 (k8 R x1 x2 x10 x11 x12 x13 false w10)) w

def k6 (R : EP) (x1 : BA) (x2 : Int) (x10 : Int) (x11 : Int) (x12 : Int) (w : World) : Prop :=
 br (decide (x11 ≥ (x1.size : Int)))
 (k7 R x1 x2 x10 x11 x12 32 w)
 (0 ≤ x11 ∧ x11 ≤ (x1.size : Int) ∧
 callE P i_unicode_utf8_DecodeRuneInString #[.string (x1.extract (Int.toNat x11) x1.size)] (fun e w8 => ∃ (r7_0 : Int), ∃ (r7_1 : Int), e = .returned (.tuple #[.int .i32 r7_0, .int .i64 r7_1]) ∧
 k7 R x1 x2 x10 x11 x12 r7_0 w8) w)

def k5 (R : EP) (x1 : BA) (x2 : Int) (x10 : Int) (x11 : Int) (x64 : Bool) (w : World) : Prop :=
 br x64
 (0 ≤ x2 ∧ x2 ≤ x11 ∧ x11 ≤ (x1.size : Int) ∧
 box w #[.string (x1.extract (Int.toNat x2) (Int.toNat x11))] ty_Plain fun b3 w4 =>
 R (.returned (.tuple #[.iface ty_P_Plain (.pointer (some ⟨b3, 0, none⟩)), .int .i64 x2, .int .i64 x11, .bool true])) w4)
 (br (x2 == 0)
 (k6 R x1 x2 x10 x11 32 w)
 (0 ≤ x2 ∧ x2 ≤ (x1.size : Int) ∧
 callE P i_unicode_utf8_DecodeLastRuneInString #[.string (x1.extract 0 (Int.toNat x2))] (fun e w6 => ∃ (r5_0 : Int), ∃ (r5_1 : Int), e = .returned (.tuple #[.int .i32 r5_0, .int .i64 r5_1]) ∧
 k6 R x1 x2 x10 x11 r5_0 w6) w))

def k4 (R : EP) (x1 : BA) (x2 : Int) (x10 : Int) (x11 : Int) (w : World) : Prop :=
 k5 R x1 x2 x10 x11 ((x10 == 126) && (decide ((IntKind.i64.wrap (x11 - x2)) > 2))) w

def k3 (R : EP) (x0 : OA) (x1 : BA) (x2 : Int) (x10 : Int) (x11 : Int) (x53 : Bool) (w : World) : Prop :=
 br x53
 (nilP x0 fun a1 =>
 stV w ((a1.add 6).add 0) (.bool true) fun w2 =>
 k4 R x1 x2 x10 x11 w2)
 (k4 R x1 x2 x10 x11 w)

def k2 (R : EP) (x0 : OA) (x1 : BA) (x2 : Int) (x10 : Int) (x11 : Int) (w : World) : Prop :=
 k3 R x0 x1 x2 x10 x11 ((x10 == 126) && ((IntKind.i64.wrap (x11 - x2)) != 2)) w

def bl1 (R : EP) (Xa : OA → BA → Int → Int → Int → WP) (x0 : OA) (x1 : BA) (x2 : Int) (x10 : Int) (x11 : Int) (w : World) : Prop :=
 ((decide (x11 < (x1.size : Int))) = true → 0 ≤ x11 ∧ x11 < (x1.size : Int)) ∧
 br ((decide (x11 < (x1.size : Int))) && ((bt x1 x11) == x10))
 (Xa x0 x1 x2 x10 (IntKind.i64.wrap (x11 + 1)) w)
 (k2 R x0 x1 x2 x10 x11 w)
def l1 (R : EP) (x0 : OA) (x1 : BA) (x2 : Int) (x10 : Int) (x11 : Int) (w : World) : Prop :=
  ∀ X : OA → BA → Int → Int → Int → WP, (∀ x0 x1 x2 x10 x11 w, bl1 R X x0 x1 x2 x10 x11 w → X x0 x1 x2 x10 x11 w) → X x0 x1 x2 x10 x11 w

noncomputable def al1 (R : EP) (Xa : OA → BA → Int → Int → Int → WP) : AC :=
  (.leaf (sel [1, 1, 1, 0, 1, 0, 0, 0] body))
def k1 (R : EP) (x0 : OA) (x1 : BA) (x2 : Int) (x10 : Int) (x11 : Int) (x32 : Bool) (w : World) : Prop :=
 br x32
 (l1 R x0 x1 x2 x10 x11 w)
 (k2 R x0 x1 x2 x10 x11 w)

end g_parseEmph
def g_parseEmph (R : EP) (x0 : OA) (x1 : BA) (x2 : Int) (w : World) : Prop :=
 0 ≤ x2 ∧ x2 < (x1.size : Int) ∧
 g_parseEmph.k1 R x0 x1 x2 (bt x1 x2) (IntKind.i64.wrap (x2 + 1)) ((((bt x1 x2) == 42) || ((bt x1 x2) == 126)) || ((bt x1 x2) == 95)) w

noncomputable def g_parseEmph.ac (R : EP) : AC :=
  (.seq (.leaf (sel [0] g_parseEmph.body)) (.seq (.leaf (sel [1, 0] g_parseEmph.body)) (.seq (.leaf (sel [1, 1, 0] g_parseEmph.body)) (.seq (.seq (.leaf (sel [1, 1, 1, 0, 0] g_parseEmph.body)) (.mark (leaf [(0, .s .ptr), (1, .s .str), (2, .s (.int .i64)), (10, .s (.int .u8)), (11, .s (.int .i64)), (32, .s .bool)] (g_parseEmph.k1 R)) (.cond 32 (.block 0 (.loop (leaf [(0, .s .ptr), (1, .s .str), (2, .s (.int .i64)), (10, .s (.int .u8)), (11, .s (.int .i64))] (g_parseEmph.l1 R)) (sel [1, 1, 1, 0, 1, 0, 0, 0] g_parseEmph.body))) (.leaf (sel [1, 1, 1, 0, 1, 1] g_parseEmph.body))))) (.mark (leaf [(0, .s .ptr), (1, .s .str), (2, .s (.int .i64)), (10, .s (.int .u8)), (11, .s (.int .i64))] (g_parseEmph.k2 R)) (.seq (.seq (.leaf (sel [1, 1, 1, 1, 0, 0] g_parseEmph.body)) (.mark (leaf [(0, .s .ptr), (1, .s .str), (2, .s (.int .i64)), (10, .s (.int .u8)), (11, .s (.int .i64)), (53, .s .bool)] (g_parseEmph.k3 R)) (.leaf (sel [1, 1, 1, 1, 0, 1] g_parseEmph.body)))) (.mark (leaf [(1, .s .str), (2, .s (.int .i64)), (10, .s (.int .u8)), (11, .s (.int .i64))] (g_parseEmph.k4 R)) (.seq (.seq (.leaf (sel [1, 1, 1, 1, 1, 0, 0] g_parseEmph.body)) (.mark (leaf [(1, .s .str), (2, .s (.int .i64)), (10, .s (.int .u8)), (11, .s (.int .i64)), (64, .s .bool)] (g_parseEmph.k5 R)) (.leaf (sel [1, 1, 1, 1, 1, 0, 1] g_parseEmph.body)))) (.seq (.leaf (sel [1, 1, 1, 1, 1, 1, 0] g_parseEmph.body)) (.seq (.leaf (sel [1, 1, 1, 1, 1, 1, 1, 0] g_parseEmph.body)) (.mark (leaf [(1, .s .str), (2, .s (.int .i64)), (10, .s (.int .u8)), (11, .s (.int .i64)), (12, .s (.int .i32))] (g_parseEmph.k6 R)) (.seq (.leaf (sel [1, 1, 1, 1, 1, 1, 1, 1, 0] g_parseEmph.body)) (.mark (leaf [(1, .s .str), (2, .s (.int .i64)), (10, .s (.int .u8)), (11, .s (.int .i64)), (12, .s (.int .i32)), (13, .s (.int .i32))] (g_parseEmph.k7 R)) (.seq (.leaf (sel [1, 1, 1, 1, 1, 1, 1, 1, 1, 0] g_parseEmph.body)) (.mark (leaf [(1, .s .str), (2, .s (.int .i64)), (10, .s (.int .u8)), (11, .s (.int .i64)), (12, .s (.int .i32)), (13, .s (.int .i32)), (14, .s .bool)] (g_parseEmph.k8 R)) (.seq (.leaf (sel [1, 1, 1, 1, 1, 1, 1, 1, 1, 1, 0] g_parseEmph.body)) (.mark (leaf [(1, .s .str), (2, .s (.int .i64)), (10, .s (.int .u8)), (11, .s (.int .i64)), (12, .s (.int .i32)), (13, .s (.int .i32)), (14, .s .bool), (15, .s .bool)] (g_parseEmph.k9 R)) (.seq (.leaf (sel [1, 1, 1, 1, 1, 1, 1, 1, 1, 1, 1, 0] g_parseEmph.body)) (.seq (.seq (.leaf (sel [1, 1, 1, 1, 1, 1, 1, 1, 1, 1, 1, 1, 0, 0] g_parseEmph.body)) (.block 2 (.seq (.leaf (sel [1, 1, 1, 1, 1, 1, 1, 1, 1, 1, 1, 1, 0, 1, 0, 0] g_parseEmph.body)) (.mark (leaf [(1, .s .str), (2, .s (.int .i64)), (11, .s (.int .i64)), (12, .s (.int .i32)), (13, .s (.int .i32)), (14, .s .bool), (15, .s .bool), (16, .s .bool), (17, .s .bool), (126, .s (.int .u8)), (127, .s .bool)] (g_parseEmph.k10 R)) (.cond 127 (.leaf (sel [1, 1, 1, 1, 1, 1, 1, 1, 1, 1, 1, 1, 0, 1, 0, 1, 0] g_parseEmph.body)) (.seq (.leaf (sel [1, 1, 1, 1, 1, 1, 1, 1, 1, 1, 1, 1, 0, 1, 0, 1, 1, 0] g_parseEmph.body)) (.mark (leaf [(1, .s .str), (2, .s (.int .i64)), (11, .s (.int .i64)), (12, .s (.int .i32)), (13, .s (.int .i32)), (14, .s .bool), (15, .s .bool), (16, .s .bool), (17, .s .bool), (126, .s (.int .u8)), (144, .s .bool)] (g_parseEmph.k12 R)) (.cond 144 (.leaf (sel [1, 1, 1, 1, 1, 1, 1, 1, 1, 1, 1, 1, 0, 1, 0, 1, 1, 1, 0] g_parseEmph.body)) (.seq (.leaf (sel [1, 1, 1, 1, 1, 1, 1, 1, 1, 1, 1, 1, 0, 1, 0, 1, 1, 1, 1, 0] g_parseEmph.body)) (.cond 149 (.seq (.leaf (sel [1, 1, 1, 1, 1, 1, 1, 1, 1, 1, 1, 1, 0, 1, 0, 1, 1, 1, 1, 1, 0, 0] g_parseEmph.body)) (.mark (leaf [(1, .s .str), (2, .s (.int .i64)), (11, .s (.int .i64)), (13, .s (.int .i32)), (14, .s .bool), (15, .s .bool), (16, .s .bool)] (g_parseEmph.k13 R)) (.leaf (sel [1, 1, 1, 1, 1, 1, 1, 1, 1, 1, 1, 1, 0, 1, 0, 1, 1, 1, 1, 1, 0, 1] g_parseEmph.body)))) (.leaf (sel [1, 1, 1, 1, 1, 1, 1, 1, 1, 1, 1, 1, 0, 1, 0, 1, 1, 1, 1, 1, 1] g_parseEmph.body)))))))))))) (.mark (leaf [(1, .s .str), (2, .s (.int .i64)), (11, .s (.int .i64)), (16, .s .bool), (17, .s .bool)] (g_parseEmph.k11 R)) (.leaf (sel [1, 1, 1, 1, 1, 1, 1, 1, 1, 1, 1, 1, 1] g_parseEmph.body))))))))))))))))))))))
theorem g_parseEmph.good (R : EP) : Good P 184 (g_parseEmph.ac R) (QF P [.tmp 6, .tmp 7, .tmp 8, .tmp 9] R) :=
  ⟨trivial, ⟨trivial, ⟨trivial, ⟨⟨trivial, ⟨⟨(loopG (g_parseEmph.al1 R) (g_parseEmph.bl1 R) (fun _ => by kernel_rfl) (fun Xa => trivial) (fun Xa => by intro x0 x1 x2 x10 x11 ρ w; kernel_rfl) (fun X h _ _ _ _ _ _ g => g X h)), trivial⟩, cutE (by intro x0 x1 x2 x10 x11 x32 ρ w; kernel_rfl)⟩⟩, ⟨⟨⟨trivial, ⟨trivial, cutE (by intro x0 x1 x2 x10 x11 x53 ρ w; kernel_rfl)⟩⟩, ⟨⟨⟨trivial, ⟨trivial, cutE (by intro x1 x2 x10 x11 x64 ρ w; kernel_rfl)⟩⟩, ⟨trivial, ⟨trivial, ⟨⟨trivial, ⟨⟨trivial, ⟨⟨trivial, ⟨⟨trivial, ⟨⟨trivial, ⟨trivial, ⟨⟨trivial, ⟨trivial, ⟨⟨trivial, ⟨trivial, ⟨⟨trivial, ⟨trivial, cutE (by intro x1 x2 x11 x13 x14 x15 x16 ρ w; kernel_rfl)⟩⟩, trivial⟩⟩⟩, cutE (by intro x1 x2 x11 x12 x13 x14 x15 x16 x17 x126 x144 ρ w; kernel_rfl)⟩⟩⟩, cutE (by intro x1 x2 x11 x12 x13 x14 x15 x16 x17 x126 x127 ρ w; kernel_rfl)⟩⟩⟩, ⟨trivial, cutE (by intro x1 x2 x11 x16 x17 ρ w; kernel_rfl)⟩⟩⟩, cutE (by intro x1 x2 x10 x11 x12 x13 x14 x15 ρ w; kernel_rfl)⟩⟩, cutE (by intro x1 x2 x10 x11 x12 x13 x14 ρ w; kernel_rfl)⟩⟩, cutE (by intro x1 x2 x10 x11 x12 x13 ρ w; kernel_rfl)⟩⟩, cutE (by intro x1 x2 x10 x11 x12 ρ w; kernel_rfl)⟩⟩⟩⟩, cutE (by intro x1 x2 x10 x11 ρ w; kernel_rfl)⟩⟩, cutE (by intro x0 x1 x2 x10 x11 ρ w; kernel_rfl)⟩⟩⟩⟩⟩
theorem g_parseEmph.eq (R : EP) (x0 : OA) (x1 : BA) (x2 : Int) (w : World) : g_parseEmph R x0 x1 x2 w = vcA P 184 (g_parseEmph.ac R) (QF P [.tmp 6, .tmp 7, .tmp 8, .tmp 9] R) (fr0 [.pointer x0, .string x1, .int .i64 x2]) w := by kernel_rfl
theorem g_parseEmph.sound {R : EP} {x0 : OA} {x1 : ByteArray} {x2 : Int} {w : World} (h : g_parseEmph R x0 x1 x2 w) : callE P i_parseEmph #[.pointer x0, .string x1, .int .i64 x2] R w :=
  callE_fin (c := g_parseEmph.body) Tryz.func71 Tryz.call71 (by kernel_rfl) (by kernel_rfl) (by kernel_rfl) (by kernel_rfl) (by kernel_rfl) (g_parseEmph.good R) (g_parseEmph.eq R x0 x1 x2 w) h
/- 104 unicode/utf8.DecodeLastRuneInString -/
namespace g_unicode_utf8_DecodeLastRuneInString
noncomputable def body : Code := bodyOf Tryz.f104
def k2 (R : EP) (x0 : BA) (x4 : Int) (x5 : Int) (w : World) : Prop :=
 0 ≤ x5 ∧ x5 ≤ x4 ∧ x4 ≤ (x0.size : Int) ∧
 callE P i_unicode_utf8_DecodeRuneInString #[.string (x0.extract (Int.toNat x5) (Int.toNat x4))] (fun e w6 => ∃ (r5_0 : Int), ∃ (r5_1 : Int), e = .returned (.tuple #[.int .i32 r5_0, .int .i64 r5_1]) ∧
 br ((IntKind.i64.wrap (x5 + r5_1)) != x4)
 (R (.returned (.tuple #[.int .i32 65533, .int .i64 1])) w6)
 (R (.returned (.tuple #[.int .i32 r5_0, .int .i64 r5_1])) w6)) w

def k1 (R : EP) (x0 : BA) (x4 : Int) (x5 : Int) (w : World) : Prop :=
 br (decide (x5 < 0))
 (k2 R x0 x4 0 w)
 (k2 R x0 x4 x5 w)

def bl1 (R : EP) (Xa : BA → Int → Int → Int → WP) (x0 : BA) (x4 : Int) (x5 : Int) (x6 : Int) (w : World) : Prop :=
 br (decide (x5 ≥ x6))
 (0 ≤ x5 ∧ x5 < (x0.size : Int) ∧
 callE P i_unicode_utf8_RuneStart #[.int .u8 (bt x0 x5)] (fun e w4 => ∃ (r3 : Bool), e = .returned (.bool r3) ∧
 br r3
 (k1 R x0 x4 x5 w4)
 (Xa x0 x4 (IntKind.i64.wrap (x5 - 1)) x6 w4)) w)
 (k1 R x0 x4 x5 w)
def l1 (R : EP) (x0 : BA) (x4 : Int) (x5 : Int) (x6 : Int) (w : World) : Prop :=
  ∀ X : BA → Int → Int → Int → WP, (∀ x0 x4 x5 x6 w, bl1 R X x0 x4 x5 x6 w → X x0 x4 x5 x6 w) → X x0 x4 x5 x6 w

noncomputable def al1 (R : EP) (Xa : BA → Int → Int → Int → WP) : AC :=
  (.leaf (sel [1, 1, 1, 1, 1, 1, 1, 0, 1, 0, 0] body))
end g_unicode_utf8_DecodeLastRuneInString
def g_unicode_utf8_DecodeLastRuneInString (R : EP) (x0 : BA) (w : World) : Prop :=
 br ((x0.size : Int) == 0)
 (R (.returned (.tuple #[.int .i32 65533, .int .i64 0])) w)
 (0 ≤ (IntKind.i64.wrap ((x0.size : Int) - 1)) ∧ (IntKind.i64.wrap ((x0.size : Int) - 1)) < (x0.size : Int) ∧
 br (decide ((IntKind.i32.wrap (bt x0 (IntKind.i64.wrap ((x0.size : Int) - 1)))) < 128))
 (R (.returned (.tuple #[.int .i32 (IntKind.i32.wrap (bt x0 (IntKind.i64.wrap ((x0.size : Int) - 1)))), .int .i64 1])) w)
 (∃ (r1 : Int), ∃ w2, (Builtin.max_ #[ty_int, ty_int] ty_int #[.int .i64 (IntKind.i64.wrap ((x0.size : Int) - 4)), .int .i64 0]).run P w = .ok (.int .i64 r1) w2 ∧
 g_unicode_utf8_DecodeLastRuneInString.l1 R x0 (x0.size : Int) (IntKind.i64.wrap ((IntKind.i64.wrap ((x0.size : Int) - 1)) - 1)) r1 w2))

noncomputable def g_unicode_utf8_DecodeLastRuneInString.ac (R : EP) : AC :=
  (.seq (.leaf (sel [0] g_unicode_utf8_DecodeLastRuneInString.body)) (.seq (.leaf (sel [1, 0] g_unicode_utf8_DecodeLastRuneInString.body)) (.seq (.leaf (sel [1, 1, 0] g_unicode_utf8_DecodeLastRuneInString.body)) (.seq (.leaf (sel [1, 1, 1, 0] g_unicode_utf8_DecodeLastRuneInString.body)) (.seq (.leaf (sel [1, 1, 1, 1, 0] g_unicode_utf8_DecodeLastRuneInString.body)) (.seq (.leaf (sel [1, 1, 1, 1, 1, 0] g_unicode_utf8_DecodeLastRuneInString.body)) (.seq (.leaf (sel [1, 1, 1, 1, 1, 1, 0] g_unicode_utf8_DecodeLastRuneInString.body)) (.seq (.seq (.leaf (sel [1, 1, 1, 1, 1, 1, 1, 0, 0] g_unicode_utf8_DecodeLastRuneInString.body)) (.block 0 (.loop (leaf [(0, .s .str), (4, .s (.int .i64)), (5, .s (.int .i64)), (6, .s (.int .i64))] (g_unicode_utf8_DecodeLastRuneInString.l1 R)) (sel [1, 1, 1, 1, 1, 1, 1, 0, 1, 0, 0] g_unicode_utf8_DecodeLastRuneInString.body)))) (.mark (leaf [(0, .s .str), (4, .s (.int .i64)), (5, .s (.int .i64))] (g_unicode_utf8_DecodeLastRuneInString.k1 R)) (.seq (.leaf (sel [1, 1, 1, 1, 1, 1, 1, 1, 0] g_unicode_utf8_DecodeLastRuneInString.body)) (.mark (leaf [(0, .s .str), (4, .s (.int .i64)), (5, .s (.int .i64))] (g_unicode_utf8_DecodeLastRuneInString.k2 R)) (.leaf (sel [1, 1, 1, 1, 1, 1, 1, 1, 1] g_unicode_utf8_DecodeLastRuneInString.body)))))))))))))
theorem g_unicode_utf8_DecodeLastRuneInString.good (R : EP) : Good P 51 (g_unicode_utf8_DecodeLastRuneInString.ac R) (QF P [.tmp 2, .tmp 3] R) :=
  ⟨trivial, ⟨trivial, ⟨trivial, ⟨trivial, ⟨trivial, ⟨trivial, ⟨trivial, ⟨⟨trivial, (loopG (g_unicode_utf8_DecodeLastRuneInString.al1 R) (g_unicode_utf8_DecodeLastRuneInString.bl1 R) (fun _ => by kernel_rfl) (fun Xa => trivial) (fun Xa => by intro x0 x4 x5 x6 ρ w; kernel_rfl) (fun X h _ _ _ _ _ g => g X h))⟩, ⟨⟨trivial, ⟨trivial, cutE (by intro x0 x4 x5 ρ w; kernel_rfl)⟩⟩, cutE (by intro x0 x4 x5 ρ w; kernel_rfl)⟩⟩⟩⟩⟩⟩⟩⟩⟩
theorem g_unicode_utf8_DecodeLastRuneInString.eq (R : EP) (x0 : BA) (w : World) : g_unicode_utf8_DecodeLastRuneInString R x0 w = vcA P 51 (g_unicode_utf8_DecodeLastRuneInString.ac R) (QF P [.tmp 2, .tmp 3] R) (fr0 [.string x0]) w := by kernel_rfl
theorem g_unicode_utf8_DecodeLastRuneInString.sound {R : EP} {x0 : ByteArray} {w : World} (h : g_unicode_utf8_DecodeLastRuneInString R x0 w) : callE P i_unicode_utf8_DecodeLastRuneInString #[.string x0] R w :=
  callE_fin (c := g_unicode_utf8_DecodeLastRuneInString.body) Tryz.func104 Tryz.call104 (by kernel_rfl) (by kernel_rfl) (by kernel_rfl) (by kernel_rfl) (by kernel_rfl) (g_unicode_utf8_DecodeLastRuneInString.good R) (g_unicode_utf8_DecodeLastRuneInString.eq R x0 w) h
/- 105 unicode/utf8.DecodeRuneInString -/
namespace g_unicode_utf8_DecodeRuneInString
noncomputable def body : Code := bodyOf Tryz.f105
def k1 (R : EP) (x0 : BA) (x10 : Bool) (w : World) : Prop :=
 br x10
 (0 ≤ (0 : Int) ∧ 0 < (x0.size : Int) ∧
 R (.returned (.tuple #[.int .i32 (IntKind.i32.wrap (bt x0 0)), .int .i64 1])) w)
 (callE P i_unicode_utf8_decodeRuneInStringSlow #[.string x0] (fun e w2 => ∃ (r1_0 : Int), ∃ (r1_1 : Int), e = .returned (.tuple #[.int .i32 r1_0, .int .i64 r1_1]) ∧
 R (.returned (.tuple #[.int .i32 r1_0, .int .i64 r1_1])) w2) w)

end g_unicode_utf8_DecodeRuneInString
def g_unicode_utf8_DecodeRuneInString (R : EP) (x0 : BA) (w : World) : Prop :=
 ((!(x0.toList == (ByteArray.mk #[]).toList)) = true → 0 ≤ (0 : Int) ∧ 0 < (x0.size : Int)) ∧
 g_unicode_utf8_DecodeRuneInString.k1 R x0 ((!(x0.toList == (ByteArray.mk #[]).toList)) && (decide ((bt x0 0) < 128))) w

noncomputable def g_unicode_utf8_DecodeRuneInString.ac (R : EP) : AC :=
  (.seq (.leaf (sel [0] g_unicode_utf8_DecodeRuneInString.body)) (.seq (.seq (.leaf (sel [1, 0, 0] g_unicode_utf8_DecodeRuneInString.body)) (.mark (leaf [(0, .s .str), (10, .s .bool)] (g_unicode_utf8_DecodeRuneInString.k1 R)) (.leaf (sel [1, 0, 1] g_unicode_utf8_DecodeRuneInString.body)))) (.leaf (sel [1, 1] g_unicode_utf8_DecodeRuneInString.body))))
theorem g_unicode_utf8_DecodeRuneInString.good (R : EP) : Good P 19 (g_unicode_utf8_DecodeRuneInString.ac R) (QF P [.tmp 2, .tmp 3] R) :=
  ⟨trivial, ⟨⟨trivial, ⟨trivial, cutE (by intro x0 x10 ρ w; kernel_rfl)⟩⟩, trivial⟩⟩
theorem g_unicode_utf8_DecodeRuneInString.eq (R : EP) (x0 : BA) (w : World) : g_unicode_utf8_DecodeRuneInString R x0 w = vcA P 19 (g_unicode_utf8_DecodeRuneInString.ac R) (QF P [.tmp 2, .tmp 3] R) (fr0 [.string x0]) w := by kernel_rfl
theorem g_unicode_utf8_DecodeRuneInString.sound {R : EP} {x0 : ByteArray} {w : World} (h : g_unicode_utf8_DecodeRuneInString R x0 w) : callE P i_unicode_utf8_DecodeRuneInString #[.string x0] R w :=
  callE_fin (c := g_unicode_utf8_DecodeRuneInString.body) Tryz.func105 Tryz.call105 (by kernel_rfl) (by kernel_rfl) (by kernel_rfl) (by kernel_rfl) (by kernel_rfl) (g_unicode_utf8_DecodeRuneInString.good R) (g_unicode_utf8_DecodeRuneInString.eq R x0 w) h
/- 57 (*pub-paratext/pub/rscmarkdown.parseState).inline -/
namespace g_parseState_inline
noncomputable def body : Code := bodyOf Tryz.f57
def k4 (R : EP) (Xa : OA → BA → OA → Nat → Nat → Int → Bool → Int → WP) (x0 : OA) (x1 : BA) (x5q : OA) (x5n : Nat) (x5c : Nat) (x6 : Int) (x7 : Bool) (x10 : Value) (x12 : Int) (w : World) : Prop :=
 nilP x0 fun a61 =>
 ∃ (v62q : OA), ∃ (v62n : Nat), ∃ (v62c : Nat), w.cell? (a61.add 9) = some (.slice v62q v62n v62c) ∧
 ∃ (r63q : OA), ∃ (r63n : Nat), ∃ (r63c : Nat), ∃ w64, (Instr.buildSlice ty_S_Inline 1 #[(0, x10)]).run P w = .ok (.slice r63q r63n r63c) w64 ∧
 ∃ (r65q : OA), ∃ (r65n : Nat), ∃ (r65c : Nat), ∃ w66, (Builtin.append_ #[ty_S_Inline, ty_S_Inline] ty_S_Inline #[.slice v62q v62n v62c, .slice r63q r63n r63c]).run P w64 = .ok (.slice r65q r65n r65c) w66 ∧
 nilP x0 fun a67 =>
 stV w66 ((a67.add 9).add 0) (.slice r65q r65n r65c) fun w68 =>
 callE P i_parseState_skip #[.pointer x0, .int .i64 x12] (fun e w70 => e = .returned (.tuple #[]) ∧
 Xa x0 x1 x5q x5n x5c x6 x7 x12 w70) w68

def k10 (R : EP) (Xa : OA → BA → OA → Nat → Nat → Int → Bool → Int → WP) (x0 : OA) (x1 : BA) (x5q : OA) (x5n : Nat) (x5c : Nat) (x6 : Int) (x7 : Bool) (x16 : Int) (x17 : OA) (x19 : Int) (w : World) : Prop :=
 nilP x0 fun a133 =>
 ∃ (v134q : OA), ∃ (v134n : Nat), ∃ (v134c : Nat), w.cell? (a133.add 9) = some (.slice v134q v134n v134c) ∧
 ∃ (r135q : OA), ∃ (r135n : Nat), ∃ (r135c : Nat), ∃ w136, (Instr.sliceAt ty_S_Inline (.slice v134q v134n v134c) none (some (.int .i64 (IntKind.i64.wrap (x16 + 1)))) none).run P w = .ok (.slice r135q r135n r135c) w136 ∧
 nilP x0 fun a137 =>
 stV w136 ((a137.add 9).add 0) (.slice r135q r135n r135c) fun w138 =>
 callE P i_parseState_skip #[.pointer x0, .int .i64 x19] (fun e w140 => e = .returned (.tuple #[]) ∧
 nilP x17 fun a141 =>
 ∃ (v142 : BA), w140.cell? a141 = some (.string v142) ∧
 0 ≤ (0 : Int) ∧ 0 < (v142.size : Int) ∧
 br ((bt v142 0) == 91)
 (nilP x17 fun a143 =>
 ∃ (v144 : Int), w140.cell? (a143.add 1) = some (.int .i64 v144) ∧
 Xa x0 x1 x5q x5n x5c v144 x7 x19 w140)
 (Xa x0 x1 x5q x5n x5c x6 x7 x19 w140)) w138

def k9 (R : EP) (Xa : OA → BA → OA → Nat → Nat → Int → Bool → Int → WP) (x0 : OA) (x1 : BA) (x5q : OA) (x5n : Nat) (x5c : Nat) (x6 : Int) (x7 : Bool) (x8 : Int) (x16 : Int) (x17 : OA) (x18 : OA) (x19 : Int) (w : World) : Prop :=
 callE P i_parseState_emit #[.pointer x0, .int .i64 x8] (fun e w114 => e = .returned (.tuple #[]) ∧
 nilP x0 fun a115 =>
 ∃ (v116q : OA), ∃ (v116n : Nat), ∃ (v116c : Nat), w114.cell? (a115.add 9) = some (.slice v116q v116n v116c) ∧
 ∃ (r117q : OA), ∃ (r117n : Nat), ∃ (r117c : Nat), ∃ w118, (Instr.sliceAt ty_S_Inline (.slice v116q v116n v116c) (some (.int .i64 (IntKind.i64.wrap (x16 + 1)))) none none).run P w114 = .ok (.slice r117q r117n r117c) w118 ∧
 callE P i_parseState_emph #[.pointer x0, .slice none 0 0, .slice r117q r117n r117c] (fun e w120 => ∃ (r119q : OA), ∃ (r119n : Nat), ∃ (r119c : Nat), e = .returned (.slice r119q r119n r119c) ∧
 nilP x18 fun a121 =>
 stV w120 (a121.add 0) (.slice r119q r119n r119c) fun w122 =>
 nilP x17 fun a123 =>
 ∃ (v124 : BA), w122.cell? a123 = some (.string v124) ∧
 0 ≤ (0 : Int) ∧ 0 < (v124.size : Int) ∧
 br ((bt v124 0) == 33)
 (nilP x0 fun a125 =>
 ∃ (v126q : OA), ∃ (v126n : Nat), ∃ (v126c : Nat), w122.cell? (a125.add 9) = some (.slice v126q v126n v126c) ∧
 0 ≤ x16 ∧ x16 < (v126n : Int) ∧
 nilP v126q fun a127 =>
 stV w122 ((a127.add (Int.toNat x16 * 1)).add 0) (.iface ty_P_Image (.pointer x18)) fun w128 =>
 k10 R Xa x0 x1 x5q x5n x5c x6 x7 x16 x17 x19 w128)
 (nilP x0 fun a129 =>
 ∃ (v130q : OA), ∃ (v130n : Nat), ∃ (v130c : Nat), w122.cell? (a129.add 9) = some (.slice v130q v130n v130c) ∧
 0 ≤ x16 ∧ x16 < (v130n : Int) ∧
 nilP v130q fun a131 =>
 stV w122 ((a131.add (Int.toNat x16 * 1)).add 0) (.iface ty_P_Link (.pointer x18)) fun w132 =>
 k10 R Xa x0 x1 x5q x5n x5c x6 x7 x16 x17 x19 w132)) w118) w

def k8 (R : EP) (Xa : OA → BA → OA → Nat → Nat → Int → Bool → Int → WP) (x0 : OA) (x1 : BA) (x5q : OA) (x5n : Nat) (x5c : Nat) (x6 : Int) (x7 : Bool) (x8 : Int) (x16 : Int) (x17 : OA) (x199 : Bool) (w : World) : Prop :=
 br x199
 (callE P i_parseState_parseLinkClose #[.pointer x0, .string x1, .int .i64 x8, .pointer x17] (fun e w98 => ∃ (r97_0 : OA), ∃ (r97_1 : Int), ∃ (r97_2 : Bool), e = .returned (.tuple #[.pointer r97_0, .int .i64 r97_1, .bool r97_2]) ∧
 br r97_2
 (nilP x0 fun a99 =>
 ∃ (v100 : Bool), w98.cell? (a99.add 6) = some (.bool v100) ∧
 br v100
 (nilP x0 fun a101 =>
 stV w98 ((a101.add 6).add 0) (.bool true) fun w102 =>
 k9 R Xa x0 x1 x5q x5n x5c x6 x7 x8 x16 x17 r97_0 r97_1 w102)
 (nilP r97_0 fun a103 =>
 ∃ (v104 : Bool), w98.cell? (a103.add 4) = some (.bool v104) ∧
 br v104
 (nilP x0 fun a105 =>
 stV w98 ((a105.add 6).add 0) (.bool true) fun w106 =>
 k9 R Xa x0 x1 x5q x5n x5c x6 x7 x8 x16 x17 r97_0 r97_1 w106)
 (nilP r97_0 fun a107 =>
 ∃ (v108 : BA), w98.cell? (a107.add 1) = some (.string v108) ∧
 callE P i_linkCorner #[.string v108] (fun e w110 => ∃ (r109 : Bool), e = .returned (.bool r109) ∧
 nilP x0 fun a111 =>
 stV w110 ((a111.add 6).add 0) (.bool r109) fun w112 =>
 k9 R Xa x0 x1 x5q x5n x5c x6 x7 x8 x16 x17 r97_0 r97_1 w112) w98)))
 (Xa x0 x1 x5q x5n x5c x6 x7 (IntKind.i64.wrap (x8 + 1)) w98)) w)
 (Xa x0 x1 x5q x5n x5c x6 x7 (IntKind.i64.wrap (x8 + 1)) w)

def k7 (R : EP) (Xa : OA → BA → OA → Nat → Nat → Int → Bool → Int → WP) (x0 : OA) (x1 : BA) (x5q : OA) (x5n : Nat) (x5c : Nat) (x6 : Int) (x7 : Bool) (x8 : Int) (x165 : Bool) (w : World) : Prop :=
 br x165
 (0 ≤ (IntKind.i64.wrap ((x5n : Int) - 1)) ∧ (IntKind.i64.wrap ((x5n : Int) - 1)) < (x5n : Int) ∧
 nilP x5q fun a83 =>
 ∃ (v84 : Int), w.cell? (a83.add (Int.toNat (IntKind.i64.wrap ((x5n : Int) - 1)) * 1)) = some (.int .i64 v84) ∧
 nilP x0 fun a85 =>
 ∃ (v86q : OA), ∃ (v86n : Nat), ∃ (v86c : Nat), w.cell? (a85.add 9) = some (.slice v86q v86n v86c) ∧
 0 ≤ v84 ∧ v84 < (v86n : Int) ∧
 nilP v86q fun a87 =>
 ∃ (v88 : Value), w.cell? (a87.add (Int.toNat v84 * 1)) = some v88 ∧
 ∃ (r89 : OA), ∃ w90, (Instr.typeAssert v88 ty_Inline ty_P_openPlain false).run P w = .ok (.pointer r89) w90 ∧
 ∃ (r91q : OA), ∃ (r91n : Nat), ∃ (r91c : Nat), ∃ w92, (Instr.sliceAt ty_S_int (.slice x5q x5n x5c) none (some (.int .i64 (IntKind.i64.wrap ((x5n : Int) - 1)))) none).run P w90 = .ok (.slice r91q r91n r91c) w92 ∧
 nilP r89 fun a93 =>
 ∃ (v94 : BA), w92.cell? a93 = some (.string v94) ∧
 0 ≤ (0 : Int) ∧ 0 < (v94.size : Int) ∧
 br ((bt v94 0) == 33)
 (k8 R Xa x0 x1 r91q r91n r91c x6 x7 x8 v84 r89 true w92)
 (nilP r89 fun a95 =>
 ∃ (v96 : Int), w92.cell? (a95.add 1) = some (.int .i64 v96) ∧
 k8 R Xa x0 x1 r91q r91n r91c x6 x7 x8 v84 r89 (decide (x6 ≤ v96)) w92))
 (Xa x0 x1 x5q x5n x5c x6 x7 (IntKind.i64.wrap (x8 + 1)) w)

def k5 (R : EP) (Xa : OA → BA → OA → Nat → Nat → Int → Bool → Int → WP) (x0 : OA) (x1 : BA) (x5q : OA) (x5n : Nat) (x5c : Nat) (x6 : Int) (x7 : Bool) (x8 : Int) (w : World) : Prop :=
 0 ≤ x8 ∧ x8 < (x1.size : Int) ∧
 k7 R Xa x0 x1 x5q x5n x5c x6 x7 x8 (((bt x1 x8) == 93) && (decide ((x5n : Int) > 0))) w

def k1 (R : EP) (Xa : OA → BA → OA → Nat → Nat → Int → Bool → Int → WP) (x0 : OA) (x1 : BA) (x5q : OA) (x5n : Nat) (x5c : Nat) (x6 : Int) (x7 : Bool) (x8 : Int) (x9 : Value) (w : World) : Prop :=
 ∃ (r38 : Bool), ∃ w39, (do eqGuard .neq ty_func_P_parseState_string_int_I_18a27a (.tmp 113) (.const .nilFunc) x9 .nilFunc; binOp .neq ty_func_P_parseState_string_int_I_18a27a x9 .nilFunc).run P w = .ok (.bool r38) w39 ∧
 br r38
 (enterE P (do let d ← Deferred.ofValue x9 #[.pointer x0, .string x1, .int .i64 x8]; invoke d.target d.args) (fun e w41 => ∃ (r40_0 : Value), ∃ (r40_1 : Int), ∃ (r40_2 : Int), ∃ (r40_3 : Bool), e = .returned (.tuple #[r40_0, .int .i64 r40_1, .int .i64 r40_2, .bool r40_3]) ∧
 br r40_3
 (callE P i_parseState_emit #[.pointer x0, .int .i64 r40_1] (fun e w43 => e = .returned (.tuple #[]) ∧
 ∃ (r44_0 : OA), ∃ (r44_1 : Bool), ∃ w45, (Instr.typeAssert r40_0 ty_Inline ty_P_openPlain true).run P w43 = .ok (.tuple #[.pointer r44_0, .bool r44_1]) w45 ∧
 br r44_1
 (nilP x0 fun a46 =>
 ∃ (v47q : OA), ∃ (v47n : Nat), ∃ (v47c : Nat), w45.cell? (a46.add 9) = some (.slice v47q v47n v47c) ∧
 ∃ (r48q : OA), ∃ (r48n : Nat), ∃ (r48c : Nat), ∃ w49, (Instr.buildSlice ty_S_int 1 #[(0, .int .i64 (v47n : Int))]).run P w45 = .ok (.slice r48q r48n r48c) w49 ∧
 ∃ (r50q : OA), ∃ (r50n : Nat), ∃ (r50c : Nat), ∃ w51, (Builtin.append_ #[ty_S_int, ty_S_int] ty_S_int #[.slice x5q x5n x5c, .slice r48q r48n r48c]).run P w49 = .ok (.slice r50q r50n r50c) w51 ∧
 k4 R Xa x0 x1 r50q r50n r50c x6 x7 r40_0 r40_2 w51)
 (k4 R Xa x0 x1 x5q x5n x5c x6 x7 r40_0 r40_2 w45)) w41)
 (k5 R Xa x0 x1 x5q x5n x5c x6 x7 x8 w41)) w39)
 (k5 R Xa x0 x1 x5q x5n x5c x6 x7 x8 w39)

def k2 (R : EP) (Xa : OA → BA → OA → Nat → Nat → Int → Bool → Int → WP) (x0 : OA) (x1 : BA) (x5q : OA) (x5n : Nat) (x5c : Nat) (x6 : Int) (x7 : Bool) (x8 : Int) (w : World) : Prop :=
 nilP x0 fun a52 =>
 k1 R Xa x0 x1 x5q x5n x5c x6 x7 x8 (.func (.func i_backtickParser_parseCodeSpan) #[.pointer (some (a52.add 12))] #[]) w

def k6 (R : EP) (Xa : OA → BA → OA → Nat → Nat → Int → Bool → Int → WP) (x0 : OA) (x1 : BA) (x5q : OA) (x5n : Nat) (x5c : Nat) (x6 : Int) (x7 : Bool) (x8 : Int) (x9 : Value) (x39 : Int) (x81 : Bool) (w : World) : Prop :=
 br x81
 (nilP x0 fun a71 =>
 ∃ (v72 : OA), w.cell? a71 = some (.pointer v72) ∧
 nilP v72 fun a73 =>
 ∃ (v74 : Bool), w.cell? (a73.add 9) = some (.bool v74) ∧
 br v74
 (k1 R Xa x0 x1 x5q x5n x5c x6 x7 x8 (.func (.func i_parseEmph) #[] #[]) w)
 (k1 R Xa x0 x1 x5q x5n x5c x6 x7 x8 x9 w))
 (br (x39 == 126)
 (nilP x0 fun a75 =>
 ∃ (v76 : OA), w.cell? a75 = some (.pointer v76) ∧
 nilP v76 fun a77 =>
 ∃ (v78 : Bool), w.cell? (a77.add 1) = some (.bool v78) ∧
 br v78
 (k1 R Xa x0 x1 x5q x5n x5c x6 x7 x8 (.func (.func i_parseEmph) #[] #[]) w)
 (k1 R Xa x0 x1 x5q x5n x5c x6 x7 x8 x9 w))
 (br (x39 == 10)
 (k1 R Xa x0 x1 x5q x5n x5c x6 x7 x8 (.func (.func i_parseBreak) #[] #[]) w)
 (br (x39 == 38)
 (k1 R Xa x0 x1 x5q x5n x5c x6 x7 x8 (.func (.func i_parseHTMLEntity) #[] #[]) w)
 (br (x39 == 58)
 (nilP x0 fun a79 =>
 ∃ (v80 : OA), w.cell? a79 = some (.pointer v80) ∧
 nilP v80 fun a81 =>
 ∃ (v82 : Bool), w.cell? (a81.add 6) = some (.bool v82) ∧
 br v82
 (k1 R Xa x0 x1 x5q x5n x5c x6 x7 x8 (.func (.func i_parseEmoji) #[] #[]) w)
 (k1 R Xa x0 x1 x5q x5n x5c x6 x7 x8 x9 w))
 (k1 R Xa x0 x1 x5q x5n x5c x6 x7 x8 x9 w)))))

def k3 (R : EP) (Xa : OA → BA → OA → Nat → Nat → Int → Bool → Int → WP) (x0 : OA) (x1 : BA) (x5q : OA) (x5n : Nat) (x5c : Nat) (x6 : Int) (x7 : Bool) (x8 : Int) (x9 : Value) (x39 : Int) (x60 : Bool) (w : World) : Prop :=
 br x60
 (k1 R Xa x0 x1 x5q x5n x5c x6 x7 x8 (.func (.func i_parseEmph) #[] #[]) w)
 (br (x39 == 46)
 (nilP x0 fun a53 =>
 ∃ (v54 : OA), w.cell? a53 = some (.pointer v54) ∧
 nilP v54 fun a55 =>
 ∃ (v56 : Bool), w.cell? (a55.add 7) = some (.bool v56) ∧
 br v56
 (k1 R Xa x0 x1 x5q x5n x5c x6 x7 x8 (.func (.func i_parseDot) #[] #[]) w)
 (k1 R Xa x0 x1 x5q x5n x5c x6 x7 x8 x9 w))
 (br (x39 == 45)
 (nilP x0 fun a57 =>
 ∃ (v58 : OA), w.cell? a57 = some (.pointer v58) ∧
 nilP v58 fun a59 =>
 ∃ (v60 : Bool), w.cell? (a59.add 8) = some (.bool v60) ∧
 br v60
 (k1 R Xa x0 x1 x5q x5n x5c x6 x7 x8 (.func (.func i_parseDash) #[] #[]) w)
 (k1 R Xa x0 x1 x5q x5n x5c x6 x7 x8 x9 w))
 (br (x39 == 34)
 (k6 R Xa x0 x1 x5q x5n x5c x6 x7 x8 x9 x39 true w)
 (k6 R Xa x0 x1 x5q x5n x5c x6 x7 x8 x9 x39 (x39 == 39) w))))

def bl1 (R : EP) (Xa : OA → BA → OA → Nat → Nat → Int → Bool → Int → WP) (x0 : OA) (x1 : BA) (x5q : OA) (x5n : Nat) (x5c : Nat) (x6 : Int) (x7 : Bool) (x8 : Int) (w : World) : Prop :=
 br (decide (x8 < (x1.size : Int)))
 (0 ≤ x8 ∧ x8 < (x1.size : Int) ∧
 br ((bt x1 x8) == 92)
 (k1 R Xa x0 x1 x5q x5n x5c x6 x7 x8 (.func (.func i_parseEscape) #[] #[]) w)
 (br ((bt x1 x8) == 96)
 (br (!x7)
 (nilP x0 fun a9 =>
 callE P i_backtickParser_reset #[.pointer (some (a9.add 12))] (fun e w11 => e = .returned (.tuple #[]) ∧
 k2 R Xa x0 x1 x5q x5n x5c x6 true x8 w11) w)
 (k2 R Xa x0 x1 x5q x5n x5c x6 x7 x8 w))
 (br ((bt x1 x8) == 60)
 (k1 R Xa x0 x1 x5q x5n x5c x6 x7 x8 (.func (.func i_parseAutoLinkOrHTML) #[] #[]) w)
 (br ((bt x1 x8) == 91)
 (k1 R Xa x0 x1 x5q x5n x5c x6 x7 x8 (.func (.func i_parseLinkOpen) #[] #[]) w)
 (br ((bt x1 x8) == 33)
 (k1 R Xa x0 x1 x5q x5n x5c x6 x7 x8 (.func (.func i_parseImageOpen) #[] #[]) w)
 (br ((bt x1 x8) == 95)
 (k3 R Xa x0 x1 x5q x5n x5c x6 x7 x8 .nilFunc (bt x1 x8) true w)
 (k3 R Xa x0 x1 x5q x5n x5c x6 x7 x8 .nilFunc (bt x1 x8) ((bt x1 x8) == 42) w)))))))
 (callE P i_parseState_emit #[.pointer x0, .int .i64 (x1.size : Int)] (fun e w13 => e = .returned (.tuple #[]) ∧
 tk w13 fun w14 =>
 nilP x0 fun a15 =>
 nilP x0 fun a16 =>
 ∃ (v17q : OA), ∃ (v17n : Nat), ∃ (v17c : Nat), w14.cell? (a15.add 9) = some (.slice v17q v17n v17c) ∧
 ∃ (r18q : OA), ∃ (r18n : Nat), ∃ (r18c : Nat), (∀ w, (Instr.sliceAt ty_S_Inline (.slice v17q v17n v17c) none (some (.int .i64 0)) none).run P w = .ok (.slice r18q r18n r18c) w) ∧
 ∃ (v19q : OA), ∃ (v19n : Nat), ∃ (v19c : Nat), w14.cell? (a16.add 9) = some (.slice v19q v19n v19c) ∧
 callE P i_parseState_emph #[.pointer x0, .slice r18q r18n r18c, .slice v19q v19n v19c] (fun e w21 => ∃ (r20q : OA), ∃ (r20n : Nat), ∃ (r20c : Nat), e = .returned (.slice r20q r20n r20c) ∧
 nilP x0 fun a22 =>
 stV w21 ((a22.add 9).add 0) (.slice r20q r20n r20c) fun w23 =>
 nilP x0 fun a24 =>
 ∃ (v25q : OA), ∃ (v25n : Nat), ∃ (v25c : Nat), w23.cell? (a24.add 9) = some (.slice v25q v25n v25c) ∧
 callE P i_parseState_mergePlain #[.pointer x0, .slice v25q v25n v25c] (fun e w27 => ∃ (r26q : OA), ∃ (r26n : Nat), ∃ (r26c : Nat), e = .returned (.slice r26q r26n r26c) ∧
 nilP x0 fun a28 =>
 stV w27 ((a28.add 9).add 0) (.slice r26q r26n r26c) fun w29 =>
 nilP x0 fun a30 =>
 ∃ (v31q : OA), ∃ (v31n : Nat), ∃ (v31c : Nat), w29.cell? (a30.add 9) = some (.slice v31q v31n v31c) ∧
 callE P i_parseState_autoLinkText #[.pointer x0, .slice v31q v31n v31c] (fun e w33 => ∃ (r32q : OA), ∃ (r32n : Nat), ∃ (r32c : Nat), e = .returned (.slice r32q r32n r32c) ∧
 nilP x0 fun a34 =>
 stV w33 ((a34.add 9).add 0) (.slice r32q r32n r32c) fun w35 =>
 nilP x0 fun a36 =>
 ∃ (v37q : OA), ∃ (v37n : Nat), ∃ (v37c : Nat), w35.cell? (a36.add 9) = some (.slice v37q v37n v37c) ∧
 R (.returned (.slice v37q v37n v37c)) w35) w29) w23) w14) w)
def l1 (R : EP) (x0 : OA) (x1 : BA) (x5q : OA) (x5n : Nat) (x5c : Nat) (x6 : Int) (x7 : Bool) (x8 : Int) (w : World) : Prop :=
  ∀ X : OA → BA → OA → Nat → Nat → Int → Bool → Int → WP, (∀ x0 x1 x5q x5n x5c x6 x7 x8 w, bl1 R X x0 x1 x5q x5n x5c x6 x7 x8 w → X x0 x1 x5q x5n x5c x6 x7 x8 w) → X x0 x1 x5q x5n x5c x6 x7 x8 w

noncomputable def al1 (R : EP) (Xa : OA → BA → OA → Nat → Nat → Int → Bool → Int → WP) : AC :=
  (.seq (.leaf (sel [1, 1, 1, 1, 1, 1, 1, 1, 1, 0, 0, 0, 0] body)) (.block 1 (.seq (.leaf (sel [1, 1, 1, 1, 1, 1, 1, 1, 1, 0, 0, 0, 1, 0, 0] body)) (.seq (.seq (.leaf (sel [1, 1, 1, 1, 1, 1, 1, 1, 1, 0, 0, 0, 1, 0, 1, 0, 0] body)) (.block 2 (.seq (.leaf (sel [1, 1, 1, 1, 1, 1, 1, 1, 1, 0, 0, 0, 1, 0, 1, 0, 1, 0, 0] body)) (.cond 40 (.leaf (sel [1, 1, 1, 1, 1, 1, 1, 1, 1, 0, 0, 0, 1, 0, 1, 0, 1, 0, 1, 0] body)) (.seq (.leaf (sel [1, 1, 1, 1, 1, 1, 1, 1, 1, 0, 0, 0, 1, 0, 1, 0, 1, 0, 1, 1, 0] body)) (.cond 42 (.seq (.leaf (sel [1, 1, 1, 1, 1, 1, 1, 1, 1, 0, 0, 0, 1, 0, 1, 0, 1, 0, 1, 1, 1, 0, 0] body)) (.mark (leaf [(0, .s .ptr), (1, .s .str), (5, .s .slice), (6, .s (.int .i64)), (7, .s .bool), (8, .s (.int .i64))] (k2 R Xa)) (.leaf (sel [1, 1, 1, 1, 1, 1, 1, 1, 1, 0, 0, 0, 1, 0, 1, 0, 1, 0, 1, 1, 1, 0, 1] body)))) (.seq (.leaf (sel [1, 1, 1, 1, 1, 1, 1, 1, 1, 0, 0, 0, 1, 0, 1, 0, 1, 0, 1, 1, 1, 1, 0] body)) (.cond 54 (.leaf (sel [1, 1, 1, 1, 1, 1, 1, 1, 1, 0, 0, 0, 1, 0, 1, 0, 1, 0, 1, 1, 1, 1, 1, 0] body)) (.seq (.leaf (sel [1, 1, 1, 1, 1, 1, 1, 1, 1, 0, 0, 0, 1, 0, 1, 0, 1, 0, 1, 1, 1, 1, 1, 1, 0] body)) (.cond 56 (.leaf (sel [1, 1, 1, 1, 1, 1, 1, 1, 1, 0, 0, 0, 1, 0, 1, 0, 1, 0, 1, 1, 1, 1, 1, 1, 1, 0] body)) (.seq (.leaf (sel [1, 1, 1, 1, 1, 1, 1, 1, 1, 0, 0, 0, 1, 0, 1, 0, 1, 0, 1, 1, 1, 1, 1, 1, 1, 1, 0] body)) (.cond 58 (.leaf (sel [1, 1, 1, 1, 1, 1, 1, 1, 1, 0, 0, 0, 1, 0, 1, 0, 1, 0, 1, 1, 1, 1, 1, 1, 1, 1, 1, 0] body)) (.seq (.leaf (sel [1, 1, 1, 1, 1, 1, 1, 1, 1, 0, 0, 0, 1, 0, 1, 0, 1, 0, 1, 1, 1, 1, 1, 1, 1, 1, 1, 1, 0] body)) (.mark (leaf [(0, .s .ptr), (1, .s .str), (5, .s .slice), (6, .s (.int .i64)), (7, .s .bool), (8, .s (.int .i64)), (9, .s .any), (39, .s (.int .u8)), (60, .s .bool)] (k3 R Xa)) (.cond 60 (.leaf (sel [1, 1, 1, 1, 1, 1, 1, 1, 1, 0, 0, 0, 1, 0, 1, 0, 1, 0, 1, 1, 1, 1, 1, 1, 1, 1, 1, 1, 1, 0] body)) (.seq (.leaf (sel [1, 1, 1, 1, 1, 1, 1, 1, 1, 0, 0, 0, 1, 0, 1, 0, 1, 0, 1, 1, 1, 1, 1, 1, 1, 1, 1, 1, 1, 1, 0] body)) (.cond 63 (.leaf (sel [1, 1, 1, 1, 1, 1, 1, 1, 1, 0, 0, 0, 1, 0, 1, 0, 1, 0, 1, 1, 1, 1, 1, 1, 1, 1, 1, 1, 1, 1, 1, 0] body)) (.seq (.leaf (sel [1, 1, 1, 1, 1, 1, 1, 1, 1, 0, 0, 0, 1, 0, 1, 0, 1, 0, 1, 1, 1, 1, 1, 1, 1, 1, 1, 1, 1, 1, 1, 1, 0] body)) (.cond 72 (.leaf (sel [1, 1, 1, 1, 1, 1, 1, 1, 1, 0, 0, 0, 1, 0, 1, 0, 1, 0, 1, 1, 1, 1, 1, 1, 1, 1, 1, 1, 1, 1, 1, 1, 1, 0] body)) (.seq (.leaf (sel [1, 1, 1, 1, 1, 1, 1, 1, 1, 0, 0, 0, 1, 0, 1, 0, 1, 0, 1, 1, 1, 1, 1, 1, 1, 1, 1, 1, 1, 1, 1, 1, 1, 1, 0] body)) (.mark (leaf [(0, .s .ptr), (1, .s .str), (5, .s .slice), (6, .s (.int .i64)), (7, .s .bool), (8, .s (.int .i64)), (9, .s .any), (39, .s (.int .u8)), (81, .s .bool)] (k6 R Xa)) (.leaf (sel [1, 1, 1, 1, 1, 1, 1, 1, 1, 0, 0, 0, 1, 0, 1, 0, 1, 0, 1, 1, 1, 1, 1, 1, 1, 1, 1, 1, 1, 1, 1, 1, 1, 1, 1] body))))))))))))))))))))))) (.mark (leaf [(0, .s .ptr), (1, .s .str), (5, .s .slice), (6, .s (.int .i64)), (7, .s .bool), (8, .s (.int .i64)), (9, .s .any)] (k1 R Xa)) (.seq (.seq (.leaf (sel [1, 1, 1, 1, 1, 1, 1, 1, 1, 0, 0, 0, 1, 0, 1, 1, 0, 0] body)) (.cond 114 (.seq (.leaf (sel [1, 1, 1, 1, 1, 1, 1, 1, 1, 0, 0, 0, 1, 0, 1, 1, 0, 1, 0, 0] body)) (.seq (.leaf (sel [1, 1, 1, 1, 1, 1, 1, 1, 1, 0, 0, 0, 1, 0, 1, 1, 0, 1, 0, 1, 0] body)) (.cond 125 (.seq (.leaf (sel [1, 1, 1, 1, 1, 1, 1, 1, 1, 0, 0, 0, 1, 0, 1, 1, 0, 1, 0, 1, 1, 0, 0] body)) (.seq (.leaf (sel [1, 1, 1, 1, 1, 1, 1, 1, 1, 0, 0, 0, 1, 0, 1, 1, 0, 1, 0, 1, 1, 0, 1, 0] body)) (.mark (leaf [(0, .s .ptr), (1, .s .str), (5, .s .slice), (6, .s (.int .i64)), (7, .s .bool), (10, .s .any), (12, .s (.int .i64))] (k4 R Xa)) (.leaf (sel [1, 1, 1, 1, 1, 1, 1, 1, 1, 0, 0, 0, 1, 0, 1, 1, 0, 1, 0, 1, 1, 0, 1, 1] body))))) (.leaf (sel [1, 1, 1, 1, 1, 1, 1, 1, 1, 0, 0, 0, 1, 0, 1, 1, 0, 1, 0, 1, 1, 1] body))))) (.leaf (sel [1, 1, 1, 1, 1, 1, 1, 1, 1, 0, 0, 0, 1, 0, 1, 1, 0, 1, 1] body)))) (.mark (leaf [(0, .s .ptr), (1, .s .str), (5, .s .slice), (6, .s (.int .i64)), (7, .s .bool), (8, .s (.int .i64))] (k5 R Xa)) (.seq (.seq (.leaf (sel [1, 1, 1, 1, 1, 1, 1, 1, 1, 0, 0, 0, 1, 0, 1, 1, 1, 0, 0] body)) (.mark (leaf [(0, .s .ptr), (1, .s .str), (5, .s .slice), (6, .s (.int .i64)), (7, .s .bool), (8, .s (.int .i64)), (165, .s .bool)] (k7 R Xa)) (.cond 165 (.seq (.leaf (sel [1, 1, 1, 1, 1, 1, 1, 1, 1, 0, 0, 0, 1, 0, 1, 1, 1, 0, 1, 0, 0] body)) (.seq (.leaf (sel [1, 1, 1, 1, 1, 1, 1, 1, 1, 0, 0, 0, 1, 0, 1, 1, 1, 0, 1, 0, 1, 0] body)) (.seq (.leaf (sel [1, 1, 1, 1, 1, 1, 1, 1, 1, 0, 0, 0, 1, 0, 1, 1, 1, 0, 1, 0, 1, 1, 0] body)) (.seq (.leaf (sel [1, 1, 1, 1, 1, 1, 1, 1, 1, 0, 0, 0, 1, 0, 1, 1, 1, 0, 1, 0, 1, 1, 1, 0] body)) (.mark (leaf [(0, .s .ptr), (1, .s .str), (5, .s .slice), (6, .s (.int .i64)), (7, .s .bool), (8, .s (.int .i64)), (16, .s (.int .i64)), (17, .s .ptr), (199, .s .bool)] (k8 R Xa)) (.cond 199 (.seq (.leaf (sel [1, 1, 1, 1, 1, 1, 1, 1, 1, 0, 0, 0, 1, 0, 1, 1, 1, 0, 1, 0, 1, 1, 1, 1, 0, 0] body)) (.seq (.leaf (sel [1, 1, 1, 1, 1, 1, 1, 1, 1, 0, 0, 0, 1, 0, 1, 1, 1, 0, 1, 0, 1, 1, 1, 1, 0, 1, 0] body)) (.cond 209 (.seq (.leaf (sel [1, 1, 1, 1, 1, 1, 1, 1, 1, 0, 0, 0, 1, 0, 1, 1, 1, 0, 1, 0, 1, 1, 1, 1, 0, 1, 1, 0, 0] body)) (.mark (leaf [(0, .s .ptr), (1, .s .str), (5, .s .slice), (6, .s (.int .i64)), (7, .s .bool), (8, .s (.int .i64)), (16, .s (.int .i64)), (17, .s .ptr), (18, .s .ptr), (19, .s (.int .i64))] (k9 R Xa)) (.seq (.leaf (sel [1, 1, 1, 1, 1, 1, 1, 1, 1, 0, 0, 0, 1, 0, 1, 1, 1, 0, 1, 0, 1, 1, 1, 1, 0, 1, 1, 0, 1, 0] body)) (.seq (.leaf (sel [1, 1, 1, 1, 1, 1, 1, 1, 1, 0, 0, 0, 1, 0, 1, 1, 1, 0, 1, 0, 1, 1, 1, 1, 0, 1, 1, 0, 1, 1, 0] body)) (.seq (.leaf (sel [1, 1, 1, 1, 1, 1, 1, 1, 1, 0, 0, 0, 1, 0, 1, 1, 1, 0, 1, 0, 1, 1, 1, 1, 0, 1, 1, 0, 1, 1, 1, 0] body)) (.mark (leaf [(0, .s .ptr), (1, .s .str), (5, .s .slice), (6, .s (.int .i64)), (7, .s .bool), (16, .s (.int .i64)), (17, .s .ptr), (19, .s (.int .i64))] (k10 R Xa)) (.leaf (sel [1, 1, 1, 1, 1, 1, 1, 1, 1, 0, 0, 0, 1, 0, 1, 1, 1, 0, 1, 0, 1, 1, 1, 1, 0, 1, 1, 0, 1, 1, 1, 1] body)))))))) (.leaf (sel [1, 1, 1, 1, 1, 1, 1, 1, 1, 0, 0, 0, 1, 0, 1, 1, 1, 0, 1, 0, 1, 1, 1, 1, 0, 1, 1, 1] body))))) (.leaf (sel [1, 1, 1, 1, 1, 1, 1, 1, 1, 0, 0, 0, 1, 0, 1, 1, 1, 0, 1, 0, 1, 1, 1, 1, 1] body)))))))) (.leaf (sel [1, 1, 1, 1, 1, 1, 1, 1, 1, 0, 0, 0, 1, 0, 1, 1, 1, 0, 1, 1] body))))) (.leaf (sel [1, 1, 1, 1, 1, 1, 1, 1, 1, 0, 0, 0, 1, 0, 1, 1, 1, 1] body))))))))))
end g_parseState_inline
def g_parseState_inline (R : EP) (x0 : OA) (x1 : BA) (w : World) : Prop :=
 callE P i_trimSpaceTab #[.string x1] (fun e w2 => ∃ (r1 : BA), e = .returned (.string r1) ∧
 nilP x0 fun a3 =>
 stV w2 ((a3.add 7).add 0) (.string r1) fun w4 =>
 nilP x0 fun a5 =>
 stV w4 ((a5.add 9).add 0) (.slice none 0 0) fun w6 =>
 nilP x0 fun a7 =>
 stV w6 ((a7.add 8).add 0) (.int .i64 0) fun w8 =>
 g_parseState_inline.l1 R x0 r1 none 0 0 0 false 0 w8) w

noncomputable def g_parseState_inline.ac (R : EP) : AC :=
  (.seq (.leaf (sel [0] g_parseState_inline.body)) (.seq (.leaf (sel [1, 0] g_parseState_inline.body)) (.seq (.leaf (sel [1, 1, 0] g_parseState_inline.body)) (.seq (.leaf (sel [1, 1, 1, 0] g_parseState_inline.body)) (.seq (.leaf (sel [1, 1, 1, 1, 0] g_parseState_inline.body)) (.seq (.leaf (sel [1, 1, 1, 1, 1, 0] g_parseState_inline.body)) (.seq (.leaf (sel [1, 1, 1, 1, 1, 1, 0] g_parseState_inline.body)) (.seq (.leaf (sel [1, 1, 1, 1, 1, 1, 1, 0] g_parseState_inline.body)) (.seq (.leaf (sel [1, 1, 1, 1, 1, 1, 1, 1, 0] g_parseState_inline.body)) (.seq (.block 0 (.loop (leaf [(0, .s .ptr), (1, .s .str), (5, .s .slice), (6, .s (.int .i64)), (7, .s .bool), (8, .s (.int .i64))] (g_parseState_inline.l1 R)) (sel [1, 1, 1, 1, 1, 1, 1, 1, 1, 0, 0, 0] g_parseState_inline.body))) (.seq (.leaf (sel [1, 1, 1, 1, 1, 1, 1, 1, 1, 1, 0] g_parseState_inline.body)) (.seq (.draw (.pure 0 (.pure 1 (.pure 2 (.pure 3 (.pure 4 (.pure 7 (.pure 8 (.pure 9 (.load 5 (.pure 6 (.load 10 (.one 11 (.pure 12 (.pure 13 (.one 14 .done))))))))))))))) (sel [1, 1, 1, 1, 1, 1, 1, 1, 1, 1, 1, 0] g_parseState_inline.body)) (.leaf (sel [1, 1, 1, 1, 1, 1, 1, 1, 1, 1, 1, 1] g_parseState_inline.body))))))))))))))
theorem g_parseState_inline.good (R : EP) : Good P 335 (g_parseState_inline.ac R) (QF P [.tmp 4] R) :=
  ⟨trivial, ⟨trivial, ⟨trivial, ⟨trivial, ⟨trivial, ⟨trivial, ⟨trivial, ⟨trivial, ⟨trivial, ⟨(loopG (g_parseState_inline.al1 R) (g_parseState_inline.bl1 R) (fun _ => by kernel_rfl) (fun Xa => ⟨trivial, ⟨trivial, ⟨⟨trivial, ⟨trivial, ⟨trivial, ⟨trivial, ⟨⟨trivial, ⟨trivial, cutE (by intro x0 x1 x5q x5n x5c x6 x7 x8 ρ w; kernel_rfl)⟩⟩, ⟨trivial, ⟨trivial, ⟨trivial, ⟨trivial, ⟨trivial, ⟨trivial, ⟨trivial, ⟨⟨trivial, ⟨trivial, ⟨trivial, ⟨trivial, ⟨trivial, ⟨trivial, ⟨trivial, cutE (by intro x0 x1 x5q x5n x5c x6 x7 x8 x9 x39 x81 ρ w; kernel_rfl)⟩⟩⟩⟩⟩⟩⟩, cutE (by intro x0 x1 x5q x5n x5c x6 x7 x8 x9 x39 x60 ρ w; kernel_rfl)⟩⟩⟩⟩⟩⟩⟩⟩⟩⟩⟩⟩⟩, ⟨⟨⟨trivial, ⟨⟨trivial, ⟨trivial, ⟨⟨trivial, ⟨trivial, ⟨trivial, cutE (by intro x0 x1 x5q x5n x5c x6 x7 x10 x12 ρ w; kernel_rfl)⟩⟩⟩, trivial⟩⟩⟩, trivial⟩⟩, ⟨⟨⟨trivial, ⟨⟨⟨trivial, ⟨trivial, ⟨trivial, ⟨trivial, ⟨⟨⟨trivial, ⟨trivial, ⟨⟨trivial, ⟨⟨trivial, ⟨trivial, ⟨trivial, ⟨trivial, cutE (by intro x0 x1 x5q x5n x5c x6 x7 x16 x17 x19 ρ w; kernel_rfl)⟩⟩⟩⟩, cutE (by intro x0 x1 x5q x5n x5c x6 x7 x8 x16 x17 x18 x19 ρ w; kernel_rfl)⟩⟩, trivial⟩⟩⟩, trivial⟩, cutE (by intro x0 x1 x5q x5n x5c x6 x7 x8 x16 x17 x199 ρ w; kernel_rfl)⟩⟩⟩⟩⟩, trivial⟩, cutE (by intro x0 x1 x5q x5n x5c x6 x7 x8 x165 ρ w; kernel_rfl)⟩⟩, trivial⟩, cutE (by intro x0 x1 x5q x5n x5c x6 x7 x8 ρ w; kernel_rfl)⟩⟩, cutE (by intro x0 x1 x5q x5n x5c x6 x7 x8 x9 ρ w; kernel_rfl)⟩⟩⟩⟩) (fun Xa => by intro x0 x1 x5q x5n x5c x6 x7 x8 ρ w; kernel_rfl) (fun X h _ _ _ _ _ _ _ _ _ g => g X h)), ⟨trivial, ⟨⟨by kernel_rfl, by kernel_rfl, fun _ _ _ h => h⟩, trivial⟩⟩⟩⟩⟩⟩⟩⟩⟩⟩⟩⟩
theorem g_parseState_inline.eq (R : EP) (x0 : OA) (x1 : BA) (w : World) : g_parseState_inline R x0 x1 w = vcA P 335 (g_parseState_inline.ac R) (QF P [.tmp 4] R) (fr0 [.pointer x0, .string x1]) w := by kernel_rfl
theorem g_parseState_inline.sound {R : EP} {x0 : OA} {x1 : ByteArray} {w : World} (h : g_parseState_inline R x0 x1 w) : callE P i_parseState_inline #[.pointer x0, .string x1] R w :=
  callE_fin (c := g_parseState_inline.body) Tryz.func57 Tryz.call57 (by kernel_rfl) (by kernel_rfl) (by kernel_rfl) (by kernel_rfl) (by kernel_rfl) (g_parseState_inline.good R) (g_parseState_inline.eq R x0 x1 w) h
/- 82 (*pub-paratext/pub/rscmarkdown.parseState).mergePlain -/
namespace g_parseState_mergePlain
noncomputable def body : Code := bodyOf Tryz.f82
def k2 (R : EP) (Xa : OA → Nat → Nat → OA → Nat → Nat → Int → Int → WP) (x1q : OA) (x1n : Nat) (x1c : Nat) (x5q : OA) (x5n : Nat) (x5c : Nat) (x7 : Int) (w : World) : Prop :=
 br (decide (x7 ≥ (x1n : Int)))
 (R (.returned (.slice x5q x5n x5c)) w)
 (0 ≤ x7 ∧ x7 < (x1n : Int) ∧
 nilP x1q fun a17 =>
 ∃ (v18 : Value), w.cell? (a17.add (Int.toNat x7 * 1)) = some v18 ∧
 ∃ (r19q : OA), ∃ (r19n : Nat), ∃ (r19c : Nat), ∃ w20, (Instr.buildSlice ty_S_Inline 1 #[(0, v18)]).run P w = .ok (.slice r19q r19n r19c) w20 ∧
 ∃ (r21q : OA), ∃ (r21n : Nat), ∃ (r21c : Nat), ∃ w22, (Builtin.append_ #[ty_S_Inline, ty_S_Inline] ty_S_Inline #[.slice x5q x5n x5c, .slice r19q r19n r19c]).run P w20 = .ok (.slice r21q r21n r21c) w22 ∧
 Xa x1q x1n x1c r21q r21n r21c (IntKind.i64.wrap (x7 + 1)) (IntKind.i64.wrap (x7 + 1)) w22)

def k1 (R : EP) (Xa : OA → Nat → Nat → OA → Nat → Nat → Int → Int → WP) (x1q : OA) (x1n : Nat) (x1c : Nat) (x5q : OA) (x5n : Nat) (x5c : Nat) (x6 : Int) (x7 : Int) (w : World) : Prop :=
 br (decide (x6 < x7))
 (∃ (r9q : OA), ∃ (r9n : Nat), ∃ (r9c : Nat), ∃ w10, (Instr.sliceAt ty_S_Inline (.slice x1q x1n x1c) (some (.int .i64 x6)) (some (.int .i64 x7)) none).run P w = .ok (.slice r9q r9n r9c) w10 ∧
 callE P i_mergePlain1 #[.slice r9q r9n r9c] (fun e w12 => ∃ (r11 : OA), e = .returned (.pointer r11) ∧
 ∃ (r13q : OA), ∃ (r13n : Nat), ∃ (r13c : Nat), ∃ w14, (Instr.buildSlice ty_S_Inline 1 #[(0, .iface ty_P_Plain (.pointer r11))]).run P w12 = .ok (.slice r13q r13n r13c) w14 ∧
 ∃ (r15q : OA), ∃ (r15n : Nat), ∃ (r15c : Nat), ∃ w16, (Builtin.append_ #[ty_S_Inline, ty_S_Inline] ty_S_Inline #[.slice x5q x5n x5c, .slice r13q r13n r13c]).run P w14 = .ok (.slice r15q r15n r15c) w16 ∧
 k2 R Xa x1q x1n x1c r15q r15n r15c x7 w16) w10)
 (k2 R Xa x1q x1n x1c x5q x5n x5c x7 w)

def bl1 (R : EP) (Xa : OA → Nat → Nat → OA → Nat → Nat → Int → Int → WP) (x1q : OA) (x1n : Nat) (x1c : Nat) (x5q : OA) (x5n : Nat) (x5c : Nat) (x6 : Int) (x7 : Int) (w : World) : Prop :=
 br (decide (x7 < (x1n : Int)))
 (0 ≤ x7 ∧ x7 < (x1n : Int) ∧
 nilP x1q fun a3 =>
 ∃ (v4 : Value), w.cell? (a3.add (Int.toNat x7 * 1)) = some v4 ∧
 callE P i_toPlain #[v4] (fun e w6 => ∃ (r5 : OA), e = .returned (.pointer r5) ∧
 ∃ (r7 : Bool), ∃ w8, (do eqGuard .neq ty_P_Plain (.tmp 21) (.const (.pointer none)) (.pointer r5) (.pointer none); binOp .neq ty_P_Plain (.pointer r5) (.pointer none)).run P w6 = .ok (.bool r7) w8 ∧
 br r7
 (Xa x1q x1n x1c x5q x5n x5c x6 (IntKind.i64.wrap (x7 + 1)) w8)
 (k1 R Xa x1q x1n x1c x5q x5n x5c x6 x7 w8)) w)
 (k1 R Xa x1q x1n x1c x5q x5n x5c x6 x7 w)
def l1 (R : EP) (x1q : OA) (x1n : Nat) (x1c : Nat) (x5q : OA) (x5n : Nat) (x5c : Nat) (x6 : Int) (x7 : Int) (w : World) : Prop :=
  ∀ X : OA → Nat → Nat → OA → Nat → Nat → Int → Int → WP, (∀ x1q x1n x1c x5q x5n x5c x6 x7 w, bl1 R X x1q x1n x1c x5q x5n x5c x6 x7 w → X x1q x1n x1c x5q x5n x5c x6 x7 w) → X x1q x1n x1c x5q x5n x5c x6 x7 w

noncomputable def al1 (R : EP) (Xa : OA → Nat → Nat → OA → Nat → Nat → Int → Int → WP) : AC :=
  (.seq (.block 1 (.seq (.leaf (sel [1, 1, 1, 0, 1, 0, 0, 0, 0, 0] body)) (.mark (leaf [(1, .s .slice), (5, .s .slice), (6, .s (.int .i64)), (7, .s (.int .i64))] (k1 R Xa)) (.seq (.leaf (sel [1, 1, 1, 0, 1, 0, 0, 0, 0, 1, 0] body)) (.mark (leaf [(1, .s .slice), (5, .s .slice), (7, .s (.int .i64))] (k2 R Xa)) (.leaf (sel [1, 1, 1, 0, 1, 0, 0, 0, 0, 1, 1] body))))))) (.leaf (sel [1, 1, 1, 0, 1, 0, 0, 1] body)))
end g_parseState_mergePlain
def g_parseState_mergePlain (R : EP) (x0 : OA) (x1q : OA) (x1n : Nat) (x1c : Nat) (w : World) : Prop :=
 ∃ (r1q : OA), ∃ (r1n : Nat), ∃ (r1c : Nat), ∃ w2, (Instr.sliceAt ty_S_Inline (.slice x1q x1n x1c) none (some (.int .i64 0)) none).run P w = .ok (.slice r1q r1n r1c) w2 ∧
 g_parseState_mergePlain.l1 R x1q x1n x1c r1q r1n r1c 0 0 w2

noncomputable def g_parseState_mergePlain.ac (R : EP) : AC :=
  (.seq (.leaf (sel [0] g_parseState_mergePlain.body)) (.seq (.leaf (sel [1, 0] g_parseState_mergePlain.body)) (.seq (.leaf (sel [1, 1, 0] g_parseState_mergePlain.body)) (.seq (.seq (.leaf (sel [1, 1, 1, 0, 0] g_parseState_mergePlain.body)) (.block 0 (.loop (leaf [(1, .s .slice), (5, .s .slice), (6, .s (.int .i64)), (7, .s (.int .i64))] (g_parseState_mergePlain.l1 R)) (sel [1, 1, 1, 0, 1, 0, 0] g_parseState_mergePlain.body)))) (.leaf (sel [1, 1, 1, 1] g_parseState_mergePlain.body))))))
theorem g_parseState_mergePlain.good (R : EP) : Good P 50 (g_parseState_mergePlain.ac R) (QF P [.tmp 4] R) :=
  ⟨trivial, ⟨trivial, ⟨trivial, ⟨⟨trivial, (loopG (g_parseState_mergePlain.al1 R) (g_parseState_mergePlain.bl1 R) (fun _ => by kernel_rfl) (fun Xa => ⟨⟨trivial, ⟨⟨trivial, ⟨trivial, cutE (by intro x1q x1n x1c x5q x5n x5c x7 ρ w; kernel_rfl)⟩⟩, cutE (by intro x1q x1n x1c x5q x5n x5c x6 x7 ρ w; kernel_rfl)⟩⟩, trivial⟩) (fun Xa => by intro x1q x1n x1c x5q x5n x5c x6 x7 ρ w; kernel_rfl) (fun X h _ _ _ _ _ _ _ _ _ g => g X h))⟩, trivial⟩⟩⟩⟩
theorem g_parseState_mergePlain.eq (R : EP) (x0 : OA) (x1q : OA) (x1n : Nat) (x1c : Nat) (w : World) : g_parseState_mergePlain R x0 x1q x1n x1c w = vcA P 50 (g_parseState_mergePlain.ac R) (QF P [.tmp 4] R) (fr0 [.pointer x0, .slice x1q x1n x1c]) w := by kernel_rfl
theorem g_parseState_mergePlain.sound {R : EP} {x0 : OA} {x1q : OA} {x1n : Nat} {x1c : Nat} {w : World} (h : g_parseState_mergePlain R x0 x1q x1n x1c w) : callE P i_parseState_mergePlain #[.pointer x0, .slice x1q x1n x1c] R w :=
  callE_fin (c := g_parseState_mergePlain.body) Tryz.func82 Tryz.call82 (by kernel_rfl) (by kernel_rfl) (by kernel_rfl) (by kernel_rfl) (by kernel_rfl) (g_parseState_mergePlain.good R) (g_parseState_mergePlain.eq R x0 x1q x1n x1c w) h
/- 122 pub-paratext/pub/rscmarkdown.mergePlain1 -/
namespace g_mergePlain1
noncomputable def body : Code := bodyOf Tryz.f122
def bl1 (R : EP) (Xa : OA → Nat → Nat → OA → Nat → Nat → Int → Int → WP) (x3q : OA) (x3n : Nat) (x3c : Nat) (x13q : OA) (x13n : Nat) (x13c : Nat) (x14 : Int) (x15 : Int) (w : World) : Prop :=
 br (decide (x15 < x14))
 (0 ≤ x15 ∧ x15 < (x13n : Int) ∧
 nilP x13q fun a5 =>
 ∃ (v6 : Value), w.cell? (a5.add (Int.toNat x15 * 1)) = some v6 ∧
 callE P i_toPlain #[v6] (fun e w8 => ∃ (r7 : OA), e = .returned (.pointer r7) ∧
 nilP r7 fun a9 =>
 ∃ (v10 : BA), w8.cell? a9 = some (.string v10) ∧
 ∃ (r11q : OA), ∃ (r11n : Nat), ∃ (r11c : Nat), ∃ w12, (Instr.buildSlice ty_S_string 1 #[(0, .string v10)]).run P w8 = .ok (.slice r11q r11n r11c) w12 ∧
 ∃ (r13q : OA), ∃ (r13n : Nat), ∃ (r13c : Nat), ∃ w14, (Builtin.append_ #[ty_S_string, ty_S_string] ty_S_string #[.slice x3q x3n x3c, .slice r11q r11n r11c]).run P w12 = .ok (.slice r13q r13n r13c) w14 ∧
 Xa r13q r13n r13c x13q x13n x13c x14 (IntKind.i64.wrap (x15 + 1)) w14) w)
 (callE P i_strings_Join #[.slice x3q x3n x3c, .string (ByteArray.mk #[])] (fun e w16 => ∃ (r15 : BA), e = .returned (.string r15) ∧
 box w16 #[.string r15] ty_Plain fun b17 w18 =>
 R (.returned (.pointer (some ⟨b17, 0, none⟩))) w18) w)
def l1 (R : EP) (x3q : OA) (x3n : Nat) (x3c : Nat) (x13q : OA) (x13n : Nat) (x13c : Nat) (x14 : Int) (x15 : Int) (w : World) : Prop :=
  ∀ X : OA → Nat → Nat → OA → Nat → Nat → Int → Int → WP, (∀ x3q x3n x3c x13q x13n x13c x14 x15 w, bl1 R X x3q x3n x3c x13q x13n x13c x14 x15 w → X x3q x3n x3c x13q x13n x13c x14 x15 w) → X x3q x3n x3c x13q x13n x13c x14 x15 w

noncomputable def al1 (R : EP) (Xa : OA → Nat → Nat → OA → Nat → Nat → Int → Int → WP) : AC :=
  (.leaf (sel [1, 1, 1, 0, 1, 0, 0] body))
end g_mergePlain1
def g_mergePlain1 (R : EP) (x0q : OA) (x0n : Nat) (x0c : Nat) (w : World) : Prop :=
 br ((x0n : Int) == 1)
 (0 ≤ (0 : Int) ∧ 0 < (x0n : Int) ∧
 nilP x0q fun a1 =>
 ∃ (v2 : Value), w.cell? (a1.add (Int.toNat 0 * 1)) = some v2 ∧
 callE P i_toPlain #[v2] (fun e w4 => ∃ (r3 : OA), e = .returned (.pointer r3) ∧
 R (.returned (.pointer r3)) w4) w)
 (g_mergePlain1.l1 R none 0 0 x0q x0n x0c (x0n : Int) 0 w)

noncomputable def g_mergePlain1.ac (R : EP) : AC :=
  (.seq (.leaf (sel [0] g_mergePlain1.body)) (.seq (.leaf (sel [1, 0] g_mergePlain1.body)) (.seq (.leaf (sel [1, 1, 0] g_mergePlain1.body)) (.seq (.seq (.leaf (sel [1, 1, 1, 0, 0] g_mergePlain1.body)) (.block 0 (.loop (leaf [(3, .s .slice), (13, .s .slice), (14, .s (.int .i64)), (15, .s (.int .i64))] (g_mergePlain1.l1 R)) (sel [1, 1, 1, 0, 1, 0, 0] g_mergePlain1.body)))) (.leaf (sel [1, 1, 1, 1] g_mergePlain1.body))))))
theorem g_mergePlain1.good (R : EP) : Good P 32 (g_mergePlain1.ac R) (QF P [.tmp 2] R) :=
  ⟨trivial, ⟨trivial, ⟨trivial, ⟨⟨trivial, (loopG (g_mergePlain1.al1 R) (g_mergePlain1.bl1 R) (fun _ => by kernel_rfl) (fun Xa => trivial) (fun Xa => by intro x3q x3n x3c x13q x13n x13c x14 x15 ρ w; kernel_rfl) (fun X h _ _ _ _ _ _ _ _ _ g => g X h))⟩, trivial⟩⟩⟩⟩
theorem g_mergePlain1.eq (R : EP) (x0q : OA) (x0n : Nat) (x0c : Nat) (w : World) : g_mergePlain1 R x0q x0n x0c w = vcA P 32 (g_mergePlain1.ac R) (QF P [.tmp 2] R) (fr0 [.slice x0q x0n x0c]) w := by kernel_rfl
theorem g_mergePlain1.sound {R : EP} {x0q : OA} {x0n : Nat} {x0c : Nat} {w : World} (h : g_mergePlain1 R x0q x0n x0c w) : callE P i_mergePlain1 #[.slice x0q x0n x0c] R w :=
  callE_fin (c := g_mergePlain1.body) Tryz.func122 Tryz.call122 (by kernel_rfl) (by kernel_rfl) (by kernel_rfl) (by kernel_rfl) (by kernel_rfl) (g_mergePlain1.good R) (g_mergePlain1.eq R x0q x0n x0c w) h
/- 121 pub-paratext/pub/rscmarkdown.toPlain -/
namespace g_toPlain
noncomputable def body : Code := bodyOf Tryz.f121
end g_toPlain
def g_toPlain (R : EP) (x0 : Value) (w : World) : Prop :=
 ∃ (r1_0 : OA), ∃ (r1_1 : Bool), ∃ w2, (Instr.typeAssert x0 ty_Inline ty_P_Plain true).run P w = .ok (.tuple #[.pointer r1_0, .bool r1_1]) w2 ∧
 br r1_1
 (R (.returned (.pointer r1_0)) w2)
 (∃ (r3_0 : OA), ∃ (r3_1 : Bool), ∃ w4, (Instr.typeAssert x0 ty_Inline ty_P_emphPlain true).run P w2 = .ok (.tuple #[.pointer r3_0, .bool r3_1]) w4 ∧
 br r3_1
 (nilP r3_0 fun a5 =>
 R (.returned (.pointer (some a5))) w4)
 (∃ (r6_0 : OA), ∃ (r6_1 : Bool), ∃ w7, (Instr.typeAssert x0 ty_Inline ty_P_openPlain true).run P w4 = .ok (.tuple #[.pointer r6_0, .bool r6_1]) w7 ∧
 br r6_1
 (nilP r6_0 fun a8 =>
 R (.returned (.pointer (some a8))) w7)
 (R (.returned (.pointer none)) w7)))

noncomputable def g_toPlain.ac (R : EP) : AC :=
  (.leaf (sel [] g_toPlain.body))
theorem g_toPlain.good (R : EP) : Good P 23 (g_toPlain.ac R) (QF P [.tmp 2] R) :=
  trivial
theorem g_toPlain.eq (R : EP) (x0 : Value) (w : World) : g_toPlain R x0 w = vcA P 23 (g_toPlain.ac R) (QF P [.tmp 2] R) (fr0 [x0]) w := by kernel_rfl
theorem g_toPlain.sound {R : EP} {x0 : Value} {w : World} (h : g_toPlain R x0 w) : callE P i_toPlain #[x0] R w :=
  callE_fin (c := g_toPlain.body) Tryz.func121 Tryz.call121 (by kernel_rfl) (by kernel_rfl) (by kernel_rfl) (by kernel_rfl) (by kernel_rfl) (g_toPlain.good R) (g_toPlain.eq R x0 w) h
/- 81 (*pub-paratext/pub/rscmarkdown.parseState).emph -/
namespace g_parseState_emph
noncomputable def body : Code := bodyOf Tryz.f81
def k4 (R : EP) (Xa : OA → Nat → Nat → Nat → Nat → Value → Value → Int → WP) (x2q : OA) (x2n : Nat) (x2c : Nat) (x4 : Nat) (x7 : Nat) (x8 : Value) (x9 : Value) (x10 : Int) (x13 : OA) (x21 : OA) (w : World) : Prop :=
 nilP x13 fun a147 =>
 ∃ (v148 : Bool), w.cell? (a147.add 1) = some (.bool v148) ∧
 br v148
 (∃ (v149q : OA), ∃ (v149n : Nat), ∃ (v149c : Nat), w.cell? ⟨x4, 0, none⟩ = some (.slice v149q v149n v149c) ∧
 nilP x13 fun a150 =>
 stV w ((a150.add 3).add 0) (.int .i64 (v149n : Int)) fun w151 =>
 ∃ (v152q : OA), ∃ (v152n : Nat), ∃ (v152c : Nat), w151.cell? ⟨x4, 0, none⟩ = some (.slice v152q v152n v152c) ∧
 ∃ (r153q : OA), ∃ (r153n : Nat), ∃ (r153c : Nat), ∃ w154, (Instr.buildSlice ty_S_Inline 1 #[(0, .iface ty_P_emphPlain (.pointer x13))]).run P w151 = .ok (.slice r153q r153n r153c) w154 ∧
 ∃ (r155q : OA), ∃ (r155n : Nat), ∃ (r155c : Nat), ∃ w156, (Builtin.append_ #[ty_S_Inline, ty_S_Inline] ty_S_Inline #[.slice v152q v152n v152c, .slice r153q r153n r153c]).run P w154 = .ok (.slice r155q r155n r155c) w156 ∧
 stV w156 ⟨x4, 0, none⟩ (.slice r155q r155n r155c) fun w157 =>
 nilP x21 fun a158 =>
 ∃ (v159q : OA), ∃ (v159n : Nat), ∃ (v159c : Nat), w157.cell? a158 = some (.slice v159q v159n v159c) ∧
 ∃ (r160q : OA), ∃ (r160n : Nat), ∃ (r160c : Nat), ∃ w161, (Instr.buildSlice ty_S_P_emphPlain 1 #[(0, .pointer x13)]).run P w157 = .ok (.slice r160q r160n r160c) w161 ∧
 ∃ (r162q : OA), ∃ (r162n : Nat), ∃ (r162c : Nat), ∃ w163, (Builtin.append_ #[ty_S_P_emphPlain, ty_S_P_emphPlain] ty_S_P_emphPlain #[.slice v159q v159n v159c, .slice r160q r160n r160c]).run P w161 = .ok (.slice r162q r162n r162c) w163 ∧
 nilP x21 fun a164 =>
 stV w163 (a164.add 0) (.slice r162q r162n r162c) fun w165 =>
 Xa x2q x2n x2c x4 x7 x8 x9 (IntKind.i64.wrap (x10 + 1)) w165)
 (tk w fun w166 =>
 nilP x13 fun a167 =>
 ∃ (v168q : OA), ∃ (v168n : Nat), ∃ (v168c : Nat), w166.cell? ⟨x4, 0, none⟩ = some (.slice v168q v168n v168c) ∧
 ∃ (r169q : OA), ∃ (r169n : Nat), ∃ (r169c : Nat), ∃ w170, (Instr.buildSlice ty_S_Inline 1 #[(0, .iface ty_P_Plain (.pointer (some a167)))]).run P w166 = .ok (.slice r169q r169n r169c) w170 ∧
 SameC w166 w170 ⟨x4, 0, none⟩ 1 ∧
 ∃ (r171q : OA), ∃ (r171n : Nat), ∃ (r171c : Nat), ∃ w172, (Builtin.append_ #[ty_S_Inline, ty_S_Inline] ty_S_Inline #[.slice v168q v168n v168c, .slice r169q r169n r169c]).run P w170 = .ok (.slice r171q r171n r171c) w172 ∧
 stV w172 ⟨x4, 0, none⟩ (.slice r171q r171n r171c) fun w173 =>
 Xa x2q x2n x2c x4 x7 x8 x9 (IntKind.i64.wrap (x10 + 1)) w173)

def k7 (R : EP) (Xa : OA → Nat → Nat → Nat → Nat → Value → Value → Int → WP) (Xb : OA → Nat → Nat → Nat → Nat → Value → Value → Int → OA → OA → WP) (Xc : OA → Nat → Nat → Nat → Nat → Value → Value → Int → OA → OA → Int → WP) (x2q : OA) (x2n : Nat) (x2c : Nat) (x4 : Nat) (x7 : Nat) (x8 : Value) (x9 : Value) (x10 : Int) (x13 : OA) (x15 : OA) (x18 : Int) (x19 : Bool) (x20 : OA) (w : World) : Prop :=
 enterE P (do let d ← Deferred.ofValue x9 #[]; invoke d.target d.args) (fun e w267 => e = .returned (.tuple #[]) ∧
 br x19
 (∃ (v268q : OA), ∃ (v268n : Nat), ∃ (v268c : Nat), w267.cell? ⟨x4, 0, none⟩ = some (.slice v268q v268n v268c) ∧
 ∃ (r269q : OA), ∃ (r269n : Nat), ∃ (r269c : Nat), ∃ w270, (Instr.buildSlice ty_S_Inline 1 #[(0, .iface ty_P_Del (.pointer x20))]).run P w267 = .ok (.slice r269q r269n r269c) w270 ∧
 ∃ (r271q : OA), ∃ (r271n : Nat), ∃ (r271c : Nat), ∃ w272, (Builtin.append_ #[ty_S_Inline, ty_S_Inline] ty_S_Inline #[.slice v268q v268n v268c, .slice r269q r269n r269c]).run P w270 = .ok (.slice r271q r271n r271c) w272 ∧
 stV w272 ⟨x4, 0, none⟩ (.slice r271q r271n r271c) fun w273 =>
 Xb x2q x2n x2c x4 x7 x8 x9 x10 x13 x15 w273)
 (br (x18 == 2)
 (∃ (v274q : OA), ∃ (v274n : Nat), ∃ (v274c : Nat), w267.cell? ⟨x4, 0, none⟩ = some (.slice v274q v274n v274c) ∧
 ∃ (r275q : OA), ∃ (r275n : Nat), ∃ (r275c : Nat), ∃ w276, (Instr.buildSlice ty_S_Inline 1 #[(0, .iface ty_P_Strong (.pointer x20))]).run P w267 = .ok (.slice r275q r275n r275c) w276 ∧
 ∃ (r277q : OA), ∃ (r277n : Nat), ∃ (r277c : Nat), ∃ w278, (Builtin.append_ #[ty_S_Inline, ty_S_Inline] ty_S_Inline #[.slice v274q v274n v274c, .slice r275q r275n r275c]).run P w276 = .ok (.slice r277q r277n r277c) w278 ∧
 stV w278 ⟨x4, 0, none⟩ (.slice r277q r277n r277c) fun w279 =>
 Xb x2q x2n x2c x4 x7 x8 x9 x10 x13 x15 w279)
 (∃ (v280q : OA), ∃ (v280n : Nat), ∃ (v280c : Nat), w267.cell? ⟨x4, 0, none⟩ = some (.slice v280q v280n v280c) ∧
 ∃ (r281q : OA), ∃ (r281n : Nat), ∃ (r281c : Nat), ∃ w282, (Instr.buildSlice ty_S_Inline 1 #[(0, .iface ty_P_Emph (.pointer x20))]).run P w267 = .ok (.slice r281q r281n r281c) w282 ∧
 ∃ (r283q : OA), ∃ (r283n : Nat), ∃ (r283c : Nat), ∃ w284, (Builtin.append_ #[ty_S_Inline, ty_S_Inline] ty_S_Inline #[.slice v280q v280n v280c, .slice r281q r281n r281c]).run P w282 = .ok (.slice r283q r283n r283c) w284 ∧
 stV w284 ⟨x4, 0, none⟩ (.slice r283q r283n r283c) fun w285 =>
 Xb x2q x2n x2c x4 x7 x8 x9 x10 x13 x15 w285))) w

def k2 (R : EP) (Xa : OA → Nat → Nat → Nat → Nat → Value → Value → Int → WP) (x2q : OA) (x2n : Nat) (x2c : Nat) (x4 : Nat) (x7 : Nat) (x8 : Value) (x9 : Value) (x10 : Int) (x13 : OA) (x21 : OA) (w : World) : Prop :=
 nilP x13 fun a132 =>
 ∃ (v133 : BA), w.cell? a132 = some (.string v133) ∧
 br (v133.toList == (ByteArray.mk #[34]).toList)
 (nilP x13 fun a134 =>
 ∃ (v135 : Bool), w.cell? (a134.add 2) = some (.bool v135) ∧
 br v135
 (nilP x13 fun a136 =>
 stV w (a136.add 0) (.string (ByteArray.mk #[226, 128, 157])) fun w137 =>
 k4 R Xa x2q x2n x2c x4 x7 x8 x9 x10 x13 x21 w137)
 (nilP x13 fun a138 =>
 stV w (a138.add 0) (.string (ByteArray.mk #[226, 128, 156])) fun w139 =>
 k4 R Xa x2q x2n x2c x4 x7 x8 x9 x10 x13 x21 w139))
 (k4 R Xa x2q x2n x2c x4 x7 x8 x9 x10 x13 x21 w)

def k6 (R : EP) (Xa : OA → Nat → Nat → Nat → Nat → Value → Value → Int → WP) (Xb : OA → Nat → Nat → Nat → Nat → Value → Value → Int → OA → OA → WP) (Xc : OA → Nat → Nat → Nat → Nat → Value → Value → Int → OA → OA → Int → WP) (x2q : OA) (x2n : Nat) (x2c : Nat) (x4 : Nat) (x7 : Nat) (x8 : Value) (x9 : Value) (x10 : Int) (x13 : OA) (x15 : OA) (x17 : OA) (x18 : Int) (w : World) : Prop :=
 nilP x13 fun a228 =>
 ∃ (v229 : BA), w.cell? a228 = some (.string v229) ∧
 0 ≤ (0 : Int) ∧ 0 < (v229.size : Int) ∧
 tk w fun w230 =>
 nilP x13 fun a231 =>
 nilP x17 fun a232 =>
 ∃ (v233 : BA), w230.cell? a231 = some (.string v233) ∧
 0 ≤ x18 ∧ x18 ≤ (v233.size : Int) ∧
 ∃ (v234q : OA), ∃ (v234n : Nat), ∃ (v234c : Nat), w230.cell? ⟨x4, 0, none⟩ = some (.slice v234q v234n v234c) ∧
 ∃ (v235 : Int), w230.cell? (a232.add 3) = some (.int .i64 v235) ∧
 ∃ (r236q : OA), ∃ (r236n : Nat), ∃ (r236c : Nat), (∀ w, (Instr.sliceAt ty_S_Inline (.slice v234q v234n v234c) (some (.int .i64 (IntKind.i64.wrap (v235 + 1)))) none none).run P w = .ok (.slice r236q r236n r236c) w) ∧
 ∃ (r237q : OA), ∃ (r237n : Nat), ∃ (r237c : Nat), ∃ w238, (Builtin.append_ #[ty_S_Inline, ty_S_Inline] ty_S_Inline #[.slice none 0 0, .slice r236q r236n r236c]).run P w230 = .ok (.slice r237q r237n r237c) w238 ∧
 SameC w230 w238 (a231) 1 ∧
 box w238 #[.string (v233.extract 0 (Int.toNat x18)), .slice r237q r237n r237c] ty_Emph fun b239 w240 =>
 tk w240 fun w241 =>
 nilP x17 fun a242 =>
 nilP x17 fun a243 =>
 ∃ (v244 : BA), w241.cell? a242 = some (.string v244) ∧
 ∃ (v245 : BA), w241.cell? a243 = some (.string v245) ∧
 0 ≤ (IntKind.i64.wrap ((v245.size : Int) - x18)) ∧ (IntKind.i64.wrap ((v245.size : Int) - x18)) ≤ (v244.size : Int) ∧
 nilP x17 fun a246 =>
 stV w241 (a246.add 0) (.string (v244.extract 0 (Int.toNat (IntKind.i64.wrap ((v245.size : Int) - x18))))) fun w247 =>
 nilP x13 fun a248 =>
 ∃ (v249 : BA), w247.cell? a248 = some (.string v249) ∧
 0 ≤ x18 ∧ x18 ≤ (v249.size : Int) ∧
 nilP x13 fun a250 =>
 stV w247 (a250.add 0) (.string (v249.extract (Int.toNat x18) v249.size)) fun w251 =>
 nilP x17 fun a252 =>
 ∃ (v253 : BA), w251.cell? a252 = some (.string v253) ∧
 br (v253.toList == (ByteArray.mk #[]).toList)
 (tk w251 fun w254 =>
 nilP x17 fun a255 =>
 ∃ (v256q : OA), ∃ (v256n : Nat), ∃ (v256c : Nat), w254.cell? ⟨x4, 0, none⟩ = some (.slice v256q v256n v256c) ∧
 ∃ (v257 : Int), w254.cell? (a255.add 3) = some (.int .i64 v257) ∧
 ∃ (r258q : OA), ∃ (r258n : Nat), ∃ (r258c : Nat), (∀ w, (Instr.sliceAt ty_S_Inline (.slice v256q v256n v256c) none (some (.int .i64 v257)) none).run P w = .ok (.slice r258q r258n r258c) w) ∧
 stV w254 ⟨x4, 0, none⟩ (.slice r258q r258n r258c) fun w259 =>
 k7 R Xa Xb Xc x2q x2n x2c x4 x7 x8 x9 x10 x13 x15 x18 ((bt v229 0) == 126) (some ⟨b239, 0, none⟩) w259)
 (tk w251 fun w260 =>
 nilP x17 fun a261 =>
 ∃ (v262q : OA), ∃ (v262n : Nat), ∃ (v262c : Nat), w260.cell? ⟨x4, 0, none⟩ = some (.slice v262q v262n v262c) ∧
 ∃ (v263 : Int), w260.cell? (a261.add 3) = some (.int .i64 v263) ∧
 ∃ (r264q : OA), ∃ (r264n : Nat), ∃ (r264c : Nat), (∀ w, (Instr.sliceAt ty_S_Inline (.slice v262q v262n v262c) none (some (.int .i64 (IntKind.i64.wrap (v263 + 1)))) none).run P w = .ok (.slice r264q r264n r264c) w) ∧
 stV w260 ⟨x4, 0, none⟩ (.slice r264q r264n r264c) fun w265 =>
 k7 R Xa Xb Xc x2q x2n x2c x4 x7 x8 x9 x10 x13 x15 x18 ((bt v229 0) == 126) (some ⟨b239, 0, none⟩) w265)

def k1 (R : EP) (Xa : OA → Nat → Nat → Nat → Nat → Value → Value → Int → WP) (x2q : OA) (x2n : Nat) (x2c : Nat) (x4 : Nat) (x7 : Nat) (x8 : Value) (x9 : Value) (x10 : Int) (x13 : OA) (w : World) : Prop :=
 nilP x13 fun a41 =>
 ∃ (v42 : BA), w.cell? a41 = some (.string v42) ∧
 br (!(v42.toList == (ByteArray.mk #[]).toList))
 (nilP x13 fun a43 =>
 ∃ (v44 : BA), w.cell? a43 = some (.string v44) ∧
 0 ≤ (0 : Int) ∧ 0 < (v44.size : Int) ∧
 enterE P (do let d ← Deferred.ofValue x8 #[.int .u8 (bt v44 0)]; invoke d.target d.args) (fun e w46 => ∃ (r45 : Int), e = .returned (.int .i64 r45) ∧
 0 ≤ r45 ∧ r45 < (5 : Int) ∧
 nilP x13 fun a47 =>
 ∃ (v48 : BA), w46.cell? a47 = some (.string v48) ∧
 br (v48.toList == (ByteArray.mk #[39]).toList)
 (nilP x13 fun a49 =>
 stV w46 (a49.add 0) (.string (ByteArray.mk #[226, 128, 153])) fun w50 =>
 k2 R Xa x2q x2n x2c x4 x7 x8 x9 x10 x13 (some ((⟨x7, 0, none⟩ : Addr).add (Int.toNat r45 * 1))) w50)
 (k2 R Xa x2q x2n x2c x4 x7 x8 x9 x10 x13 (some ((⟨x7, 0, none⟩ : Addr).add (Int.toNat r45 * 1))) w46)) w)
 (Xa x2q x2n x2c x4 x7 x8 x9 (IntKind.i64.wrap (x10 + 1)) w)

def k5 (R : EP) (Xa : OA → Nat → Nat → Nat → Nat → Value → Value → Int → WP) (Xb : OA → Nat → Nat → Nat → Nat → Value → Value → Int → OA → OA → WP) (Xc : OA → Nat → Nat → Nat → Nat → Value → Value → Int → OA → OA → Int → WP) (x2q : OA) (x2n : Nat) (x2c : Nat) (x4 : Nat) (x7 : Nat) (x8 : Value) (x9 : Value) (x10 : Int) (x13 : OA) (x15 : OA) (x16 : Int) (x17 : OA) (w : World) : Prop :=
 nilP x13 fun a174 =>
 ∃ (v175 : BA), w.cell? a174 = some (.string v175) ∧
 0 ≤ (0 : Int) ∧ 0 < (v175.size : Int) ∧
 br ((bt v175 0) == 34)
 (tk w fun w176 =>
 nilP x17 fun a177 =>
 ∃ (v178q : OA), ∃ (v178n : Nat), ∃ (v178c : Nat), w176.cell? ⟨x4, 0, none⟩ = some (.slice v178q v178n v178c) ∧
 ∃ (v179 : Int), w176.cell? (a177.add 3) = some (.int .i64 v179) ∧
 0 ≤ v179 ∧ v179 < (v178n : Int) ∧
 nilP v178q fun a180 =>
 ∃ (v181 : Value), w176.cell? (a180.add (Int.toNat v179 * 1)) = some v181 ∧
 ∃ (r182 : OA), (∀ w, (Instr.typeAssert v181 ty_Inline ty_P_emphPlain false).run P w = .ok (.pointer r182) w) ∧
 nilP r182 fun a183 =>
 stV w176 (a183.add 0) (.string (ByteArray.mk #[226, 128, 156])) fun w184 =>
 nilP x13 fun a185 =>
 stV w184 (a185.add 0) (.string (ByteArray.mk #[226, 128, 157])) fun w186 =>
 ∃ (v187q : OA), ∃ (v187n : Nat), ∃ (v187c : Nat), w186.cell? ⟨x4, 0, none⟩ = some (.slice v187q v187n v187c) ∧
 ∃ (r188q : OA), ∃ (r188n : Nat), ∃ (r188c : Nat), ∃ w189, (Instr.buildSlice ty_S_Inline 1 #[(0, .iface ty_P_emphPlain (.pointer x13))]).run P w186 = .ok (.slice r188q r188n r188c) w189 ∧
 ∃ (r190q : OA), ∃ (r190n : Nat), ∃ (r190c : Nat), ∃ w191, (Builtin.append_ #[ty_S_Inline, ty_S_Inline] ty_S_Inline #[.slice v187q v187n v187c, .slice r188q r188n r188c]).run P w189 = .ok (.slice r190q r190n r190c) w191 ∧
 stV w191 ⟨x4, 0, none⟩ (.slice r190q r190n r190c) fun w192 =>
 nilP x15 fun a193 =>
 ∃ (v194q : OA), ∃ (v194n : Nat), ∃ (v194c : Nat), w192.cell? a193 = some (.slice v194q v194n v194c) ∧
 ∃ (r195q : OA), ∃ (r195n : Nat), ∃ (r195c : Nat), ∃ w196, (Instr.sliceAt ty_S_P_emphPlain (.slice v194q v194n v194c) none (some (.int .i64 x16)) none).run P w192 = .ok (.slice r195q r195n r195c) w196 ∧
 nilP x15 fun a197 =>
 stV w196 (a197.add 0) (.slice r195q r195n r195c) fun w198 =>
 Xa x2q x2n x2c x4 x7 x8 x9 (IntKind.i64.wrap (x10 + 1)) w198)
 (nilP x13 fun a199 =>
 ∃ (v200 : BA), w.cell? a199 = some (.string v200) ∧
 0 ≤ (0 : Int) ∧ 0 < (v200.size : Int) ∧
 br ((bt v200 0) == 39)
 (tk w fun w201 =>
 nilP x17 fun a202 =>
 ∃ (v203q : OA), ∃ (v203n : Nat), ∃ (v203c : Nat), w201.cell? ⟨x4, 0, none⟩ = some (.slice v203q v203n v203c) ∧
 ∃ (v204 : Int), w201.cell? (a202.add 3) = some (.int .i64 v204) ∧
 0 ≤ v204 ∧ v204 < (v203n : Int) ∧
 nilP v203q fun a205 =>
 ∃ (v206 : Value), w201.cell? (a205.add (Int.toNat v204 * 1)) = some v206 ∧
 ∃ (r207 : OA), (∀ w, (Instr.typeAssert v206 ty_Inline ty_P_emphPlain false).run P w = .ok (.pointer r207) w) ∧
 nilP r207 fun a208 =>
 stV w201 (a208.add 0) (.string (ByteArray.mk #[226, 128, 152])) fun w209 =>
 nilP x13 fun a210 =>
 stV w209 (a210.add 0) (.string (ByteArray.mk #[226, 128, 153])) fun w211 =>
 ∃ (v212q : OA), ∃ (v212n : Nat), ∃ (v212c : Nat), w211.cell? ⟨x4, 0, none⟩ = some (.slice v212q v212n v212c) ∧
 ∃ (r213q : OA), ∃ (r213n : Nat), ∃ (r213c : Nat), ∃ w214, (Instr.buildSlice ty_S_Inline 1 #[(0, .iface ty_P_emphPlain (.pointer x13))]).run P w211 = .ok (.slice r213q r213n r213c) w214 ∧
 ∃ (r215q : OA), ∃ (r215n : Nat), ∃ (r215c : Nat), ∃ w216, (Builtin.append_ #[ty_S_Inline, ty_S_Inline] ty_S_Inline #[.slice v212q v212n v212c, .slice r213q r213n r213c]).run P w214 = .ok (.slice r215q r215n r215c) w216 ∧
 stV w216 ⟨x4, 0, none⟩ (.slice r215q r215n r215c) fun w217 =>
 nilP x15 fun a218 =>
 ∃ (v219q : OA), ∃ (v219n : Nat), ∃ (v219c : Nat), w217.cell? a218 = some (.slice v219q v219n v219c) ∧
 ∃ (r220q : OA), ∃ (r220n : Nat), ∃ (r220c : Nat), ∃ w221, (Instr.sliceAt ty_S_P_emphPlain (.slice v219q v219n v219c) none (some (.int .i64 x16)) none).run P w217 = .ok (.slice r220q r220n r220c) w221 ∧
 nilP x15 fun a222 =>
 stV w221 (a222.add 0) (.slice r220q r220n r220c) fun w223 =>
 Xa x2q x2n x2c x4 x7 x8 x9 (IntKind.i64.wrap (x10 + 1)) w223)
 (nilP x13 fun a224 =>
 ∃ (v225 : BA), w.cell? a224 = some (.string v225) ∧
 br (decide ((v225.size : Int) ≥ 2))
 (nilP x17 fun a226 =>
 ∃ (v227 : BA), w.cell? a226 = some (.string v227) ∧
 br (decide ((v227.size : Int) ≥ 2))
 (k6 R Xa Xb Xc x2q x2n x2c x4 x7 x8 x9 x10 x13 x15 x17 2 w)
 (k6 R Xa Xb Xc x2q x2n x2c x4 x7 x8 x9 x10 x13 x15 x17 1 w))
 (k6 R Xa Xb Xc x2q x2n x2c x4 x7 x8 x9 x10 x13 x15 x17 1 w)))

def k3 (R : EP) (Xa : OA → Nat → Nat → Nat → Nat → Value → Value → Int → WP) (Xb : OA → Nat → Nat → Nat → Nat → Value → Value → Int → OA → OA → WP) (Xc : OA → Nat → Nat → Nat → Nat → Value → Value → Int → OA → OA → Int → WP) (x2q : OA) (x2n : Nat) (x2c : Nat) (x4 : Nat) (x7 : Nat) (x8 : Value) (x9 : Value) (x10 : Int) (x13 : OA) (x15 : OA) (x16 : Int) (x17 : OA) (w : World) : Prop :=
 tk w fun w140 =>
 nilP x13 fun a141 =>
 ∃ (v142 : BA), w140.cell? a141 = some (.string v142) ∧
 0 ≤ (0 : Int) ∧ 0 < (v142.size : Int) ∧
 br ((bt v142 0) == 126)
 (nilP x13 fun a143 =>
 nilP x17 fun a144 =>
 ∃ (v145 : BA), w140.cell? a143 = some (.string v145) ∧
 ∃ (v146 : BA), w140.cell? a144 = some (.string v146) ∧
 br ((v145.size : Int) != (v146.size : Int))
 (Xc x2q x2n x2c x4 x7 x8 x9 x10 x13 x15 (IntKind.i64.wrap (x16 - 1)) w140)
 (k5 R Xa Xb Xc x2q x2n x2c x4 x7 x8 x9 x10 x13 x15 x16 x17 w140))
 (k5 R Xa Xb Xc x2q x2n x2c x4 x7 x8 x9 x10 x13 x15 x16 x17 w140)

def bl3 (R : EP) (Xa : OA → Nat → Nat → Nat → Nat → Value → Value → Int → WP) (Xb : OA → Nat → Nat → Nat → Nat → Value → Value → Int → OA → OA → WP) (Xc : OA → Nat → Nat → Nat → Nat → Value → Value → Int → OA → OA → Int → WP) (x2q : OA) (x2n : Nat) (x2c : Nat) (x4 : Nat) (x7 : Nat) (x8 : Value) (x9 : Value) (x10 : Int) (x13 : OA) (x15 : OA) (x16 : Int) (w : World) : Prop :=
 br (decide (x16 ≥ 0))
 (nilP x15 fun a51 =>
 ∃ (v52q : OA), ∃ (v52n : Nat), ∃ (v52c : Nat), w.cell? a51 = some (.slice v52q v52n v52c) ∧
 0 ≤ x16 ∧ x16 < (v52n : Int) ∧
 nilP v52q fun a53 =>
 ∃ (v54 : OA), w.cell? (a53.add (Int.toNat x16 * 1)) = some (.pointer v54) ∧
 tk w fun w55 =>
 nilP x13 fun a56 =>
 ∃ (v57 : BA), w55.cell? a56 = some (.string v57) ∧
 0 ≤ (0 : Int) ∧ 0 < (v57.size : Int) ∧
 br ((bt v57 0) == 42)
 (nilP x13 fun a58 =>
 ∃ (v59 : Bool), w55.cell? (a58.add 1) = some (.bool v59) ∧
 br v59
 (nilP x13 fun a60 =>
 ∃ (v61 : Bool), w55.cell? (a60.add 2) = some (.bool v61) ∧
 br v61
 (nilP x13 fun a62 =>
 nilP v54 fun a63 =>
 ∃ (v64 : Int), w55.cell? (a62.add 4) = some (.int .i64 v64) ∧
 ∃ (v65 : Int), w55.cell? (a63.add 4) = some (.int .i64 v65) ∧
 (3 : Int) ≠ 0 ∧
 br ((Int.tmod (IntKind.i64.wrap (v64 + v65)) 3) == 0)
 (nilP x13 fun a66 =>
 ∃ (v67 : Int), w55.cell? (a66.add 4) = some (.int .i64 v67) ∧
 (3 : Int) ≠ 0 ∧
 br ((Int.tmod v67 3) != 0)
 (Xc x2q x2n x2c x4 x7 x8 x9 x10 x13 x15 (IntKind.i64.wrap (x16 - 1)) w55)
 (nilP v54 fun a68 =>
 ∃ (v69 : Int), w55.cell? (a68.add 4) = some (.int .i64 v69) ∧
 (3 : Int) ≠ 0 ∧
 br ((Int.tmod v69 3) != 0)
 (Xc x2q x2n x2c x4 x7 x8 x9 x10 x13 x15 (IntKind.i64.wrap (x16 - 1)) w55)
 (k3 R Xa Xb Xc x2q x2n x2c x4 x7 x8 x9 x10 x13 x15 x16 v54 w55)))
 (k3 R Xa Xb Xc x2q x2n x2c x4 x7 x8 x9 x10 x13 x15 x16 v54 w55))
 (nilP v54 fun a70 =>
 ∃ (v71 : Bool), w55.cell? (a70.add 1) = some (.bool v71) ∧
 br v71
 (nilP v54 fun a72 =>
 ∃ (v73 : Bool), w55.cell? (a72.add 2) = some (.bool v73) ∧
 br v73
 (nilP x13 fun a74 =>
 nilP v54 fun a75 =>
 ∃ (v76 : Int), w55.cell? (a74.add 4) = some (.int .i64 v76) ∧
 ∃ (v77 : Int), w55.cell? (a75.add 4) = some (.int .i64 v77) ∧
 (3 : Int) ≠ 0 ∧
 br ((Int.tmod (IntKind.i64.wrap (v76 + v77)) 3) == 0)
 (nilP x13 fun a78 =>
 ∃ (v79 : Int), w55.cell? (a78.add 4) = some (.int .i64 v79) ∧
 (3 : Int) ≠ 0 ∧
 br ((Int.tmod v79 3) != 0)
 (Xc x2q x2n x2c x4 x7 x8 x9 x10 x13 x15 (IntKind.i64.wrap (x16 - 1)) w55)
 (nilP v54 fun a80 =>
 ∃ (v81 : Int), w55.cell? (a80.add 4) = some (.int .i64 v81) ∧
 (3 : Int) ≠ 0 ∧
 br ((Int.tmod v81 3) != 0)
 (Xc x2q x2n x2c x4 x7 x8 x9 x10 x13 x15 (IntKind.i64.wrap (x16 - 1)) w55)
 (k3 R Xa Xb Xc x2q x2n x2c x4 x7 x8 x9 x10 x13 x15 x16 v54 w55)))
 (k3 R Xa Xb Xc x2q x2n x2c x4 x7 x8 x9 x10 x13 x15 x16 v54 w55))
 (k3 R Xa Xb Xc x2q x2n x2c x4 x7 x8 x9 x10 x13 x15 x16 v54 w55))
 (k3 R Xa Xb Xc x2q x2n x2c x4 x7 x8 x9 x10 x13 x15 x16 v54 w55)))
 (nilP v54 fun a82 =>
 ∃ (v83 : Bool), w55.cell? (a82.add 1) = some (.bool v83) ∧
 br v83
 (nilP v54 fun a84 =>
 ∃ (v85 : Bool), w55.cell? (a84.add 2) = some (.bool v85) ∧
 br v85
 (nilP x13 fun a86 =>
 nilP v54 fun a87 =>
 ∃ (v88 : Int), w55.cell? (a86.add 4) = some (.int .i64 v88) ∧
 ∃ (v89 : Int), w55.cell? (a87.add 4) = some (.int .i64 v89) ∧
 (3 : Int) ≠ 0 ∧
 br ((Int.tmod (IntKind.i64.wrap (v88 + v89)) 3) == 0)
 (nilP x13 fun a90 =>
 ∃ (v91 : Int), w55.cell? (a90.add 4) = some (.int .i64 v91) ∧
 (3 : Int) ≠ 0 ∧
 br ((Int.tmod v91 3) != 0)
 (Xc x2q x2n x2c x4 x7 x8 x9 x10 x13 x15 (IntKind.i64.wrap (x16 - 1)) w55)
 (nilP v54 fun a92 =>
 ∃ (v93 : Int), w55.cell? (a92.add 4) = some (.int .i64 v93) ∧
 (3 : Int) ≠ 0 ∧
 br ((Int.tmod v93 3) != 0)
 (Xc x2q x2n x2c x4 x7 x8 x9 x10 x13 x15 (IntKind.i64.wrap (x16 - 1)) w55)
 (k3 R Xa Xb Xc x2q x2n x2c x4 x7 x8 x9 x10 x13 x15 x16 v54 w55)))
 (k3 R Xa Xb Xc x2q x2n x2c x4 x7 x8 x9 x10 x13 x15 x16 v54 w55))
 (k3 R Xa Xb Xc x2q x2n x2c x4 x7 x8 x9 x10 x13 x15 x16 v54 w55))
 (k3 R Xa Xb Xc x2q x2n x2c x4 x7 x8 x9 x10 x13 x15 x16 v54 w55)))
 (nilP x13 fun a94 =>
 ∃ (v95 : BA), w55.cell? a94 = some (.string v95) ∧
 0 ≤ (0 : Int) ∧ 0 < (v95.size : Int) ∧
 br ((bt v95 0) == 95)
 (nilP x13 fun a96 =>
 ∃ (v97 : Bool), w55.cell? (a96.add 1) = some (.bool v97) ∧
 br v97
 (nilP x13 fun a98 =>
 ∃ (v99 : Bool), w55.cell? (a98.add 2) = some (.bool v99) ∧
 br v99
 (nilP x13 fun a100 =>
 nilP v54 fun a101 =>
 ∃ (v102 : Int), w55.cell? (a100.add 4) = some (.int .i64 v102) ∧
 ∃ (v103 : Int), w55.cell? (a101.add 4) = some (.int .i64 v103) ∧
 (3 : Int) ≠ 0 ∧
 br ((Int.tmod (IntKind.i64.wrap (v102 + v103)) 3) == 0)
 (nilP x13 fun a104 =>
 ∃ (v105 : Int), w55.cell? (a104.add 4) = some (.int .i64 v105) ∧
 (3 : Int) ≠ 0 ∧
 br ((Int.tmod v105 3) != 0)
 (Xc x2q x2n x2c x4 x7 x8 x9 x10 x13 x15 (IntKind.i64.wrap (x16 - 1)) w55)
 (nilP v54 fun a106 =>
 ∃ (v107 : Int), w55.cell? (a106.add 4) = some (.int .i64 v107) ∧
 (3 : Int) ≠ 0 ∧
 br ((Int.tmod v107 3) != 0)
 (Xc x2q x2n x2c x4 x7 x8 x9 x10 x13 x15 (IntKind.i64.wrap (x16 - 1)) w55)
 (k3 R Xa Xb Xc x2q x2n x2c x4 x7 x8 x9 x10 x13 x15 x16 v54 w55)))
 (k3 R Xa Xb Xc x2q x2n x2c x4 x7 x8 x9 x10 x13 x15 x16 v54 w55))
 (nilP v54 fun a108 =>
 ∃ (v109 : Bool), w55.cell? (a108.add 1) = some (.bool v109) ∧
 br v109
 (nilP v54 fun a110 =>
 ∃ (v111 : Bool), w55.cell? (a110.add 2) = some (.bool v111) ∧
 br v111
 (nilP x13 fun a112 =>
 nilP v54 fun a113 =>
 ∃ (v114 : Int), w55.cell? (a112.add 4) = some (.int .i64 v114) ∧
 ∃ (v115 : Int), w55.cell? (a113.add 4) = some (.int .i64 v115) ∧
 (3 : Int) ≠ 0 ∧
 br ((Int.tmod (IntKind.i64.wrap (v114 + v115)) 3) == 0)
 (nilP x13 fun a116 =>
 ∃ (v117 : Int), w55.cell? (a116.add 4) = some (.int .i64 v117) ∧
 (3 : Int) ≠ 0 ∧
 br ((Int.tmod v117 3) != 0)
 (Xc x2q x2n x2c x4 x7 x8 x9 x10 x13 x15 (IntKind.i64.wrap (x16 - 1)) w55)
 (nilP v54 fun a118 =>
 ∃ (v119 : Int), w55.cell? (a118.add 4) = some (.int .i64 v119) ∧
 (3 : Int) ≠ 0 ∧
 br ((Int.tmod v119 3) != 0)
 (Xc x2q x2n x2c x4 x7 x8 x9 x10 x13 x15 (IntKind.i64.wrap (x16 - 1)) w55)
 (k3 R Xa Xb Xc x2q x2n x2c x4 x7 x8 x9 x10 x13 x15 x16 v54 w55)))
 (k3 R Xa Xb Xc x2q x2n x2c x4 x7 x8 x9 x10 x13 x15 x16 v54 w55))
 (k3 R Xa Xb Xc x2q x2n x2c x4 x7 x8 x9 x10 x13 x15 x16 v54 w55))
 (k3 R Xa Xb Xc x2q x2n x2c x4 x7 x8 x9 x10 x13 x15 x16 v54 w55)))
 (nilP v54 fun a120 =>
 ∃ (v121 : Bool), w55.cell? (a120.add 1) = some (.bool v121) ∧
 br v121
 (nilP v54 fun a122 =>
 ∃ (v123 : Bool), w55.cell? (a122.add 2) = some (.bool v123) ∧
 br v123
 (nilP x13 fun a124 =>
 nilP v54 fun a125 =>
 ∃ (v126 : Int), w55.cell? (a124.add 4) = some (.int .i64 v126) ∧
 ∃ (v127 : Int), w55.cell? (a125.add 4) = some (.int .i64 v127) ∧
 (3 : Int) ≠ 0 ∧
 br ((Int.tmod (IntKind.i64.wrap (v126 + v127)) 3) == 0)
 (nilP x13 fun a128 =>
 ∃ (v129 : Int), w55.cell? (a128.add 4) = some (.int .i64 v129) ∧
 (3 : Int) ≠ 0 ∧
 br ((Int.tmod v129 3) != 0)
 (Xc x2q x2n x2c x4 x7 x8 x9 x10 x13 x15 (IntKind.i64.wrap (x16 - 1)) w55)
 (nilP v54 fun a130 =>
 ∃ (v131 : Int), w55.cell? (a130.add 4) = some (.int .i64 v131) ∧
 (3 : Int) ≠ 0 ∧
 br ((Int.tmod v131 3) != 0)
 (Xc x2q x2n x2c x4 x7 x8 x9 x10 x13 x15 (IntKind.i64.wrap (x16 - 1)) w55)
 (k3 R Xa Xb Xc x2q x2n x2c x4 x7 x8 x9 x10 x13 x15 x16 v54 w55)))
 (k3 R Xa Xb Xc x2q x2n x2c x4 x7 x8 x9 x10 x13 x15 x16 v54 w55))
 (k3 R Xa Xb Xc x2q x2n x2c x4 x7 x8 x9 x10 x13 x15 x16 v54 w55))
 (k3 R Xa Xb Xc x2q x2n x2c x4 x7 x8 x9 x10 x13 x15 x16 v54 w55)))
 (k3 R Xa Xb Xc x2q x2n x2c x4 x7 x8 x9 x10 x13 x15 x16 v54 w55)))
 (k1 R Xa x2q x2n x2c x4 x7 x8 x9 x10 x13 w)
def l3 (R : EP) (Xa : OA → Nat → Nat → Nat → Nat → Value → Value → Int → WP) (Xb : OA → Nat → Nat → Nat → Nat → Value → Value → Int → OA → OA → WP) (x2q : OA) (x2n : Nat) (x2c : Nat) (x4 : Nat) (x7 : Nat) (x8 : Value) (x9 : Value) (x10 : Int) (x13 : OA) (x15 : OA) (x16 : Int) (w : World) : Prop :=
  ∀ X : OA → Nat → Nat → Nat → Nat → Value → Value → Int → OA → OA → Int → WP, (∀ x2q x2n x2c x4 x7 x8 x9 x10 x13 x15 x16 w, bl3 R Xa Xb X x2q x2n x2c x4 x7 x8 x9 x10 x13 x15 x16 w → X x2q x2n x2c x4 x7 x8 x9 x10 x13 x15 x16 w) → X x2q x2n x2c x4 x7 x8 x9 x10 x13 x15 x16 w

noncomputable def al3 (R : EP) (Xa : OA → Nat → Nat → Nat → Nat → Value → Value → Int → WP) (Xb : OA → Nat → Nat → Nat → Nat → Value → Value → Int → OA → OA → WP) (Xc : OA → Nat → Nat → Nat → Nat → Value → Value → Int → OA → OA → Int → WP) : AC :=
  (.seq (.leaf (sel [1, 0, 1, 1, 1, 1, 0, 1, 0, 0, 1, 0, 0, 1, 1, 1, 0, 1, 0, 0, 1, 1, 0, 0, 1, 0, 0, 1, 0, 0, 0] body)) (.seq (.block 5 (.seq (.leaf (sel [1, 0, 1, 1, 1, 1, 0, 1, 0, 0, 1, 0, 0, 1, 1, 1, 0, 1, 0, 0, 1, 1, 0, 0, 1, 0, 0, 1, 0, 0, 1, 0, 0, 0] body)) (.seq (.seq (.draw (.pure 0 (.pure 1 (.pure 2 (.pure 3 (.load 4 (.pure 5 (.pure 6 (.pure 7 (.pure 8 (.pure 9 (.pure 10 (.pure 11 (.load 12 (.pure 13 (.pure 14 (.pure 15 (.pure 16 (.pure 17 (.pure 18 (.pure 19 (.load 20 (.pure 21 (.pure 22 (.pure 23 (.pure 24 (.load 25 (.pure 26 (.pure 27 (.pure 28 (.pure 29 (.pure 30 (.load 31 (.pure 32 (.pure 33 (.pure 34 (.pure 35 (.load 36 (.pure 37 (.pure 38 (.pure 39 (.pure 40 (.pure 41 (.pure 42 (.pure 43 (.pure 45 (.pure 46 (.pure 47 (.load 44 (.load 48 (.pure 49 (.pure 50 (.pure 51 (.pure 52 (.pure 53 (.pure 54 (.pure 55 (.pure 56 (.load 57 (.pure 58 (.pure 59 (.pure 60 (.pure 61 (.pure 62 (.pure 63 (.load 64 (.pure 65 (.pure 66 (.pure 67 (.pure 68 .done))))))))))))))))))))))))))))))))))))))))))))))))))))))))))))))))))))) (sel [1, 0, 1, 1, 1, 1, 0, 1, 0, 0, 1, 0, 0, 1, 1, 1, 0, 1, 0, 0, 1, 1, 0, 0, 1, 0, 0, 1, 0, 0, 1, 0, 0, 1, 0, 0] body)) (.leaf (sel [1, 0, 1, 1, 1, 1, 0, 1, 0, 0, 1, 0, 0, 1, 1, 1, 0, 1, 0, 0, 1, 1, 0, 0, 1, 0, 0, 1, 0, 0, 1, 0, 0, 1, 0, 1] body))) (.mark (leaf [(2, .s .slice), (4, .s .loc), (7, .s .loc), (8, .s .any), (9, .s .any), (10, .s (.int .i64)), (13, .s .ptr), (15, .s .ptr), (16, .s (.int .i64)), (17, .s .ptr)] (k3 R Xa Xb Xc)) (.seq (.seq (.draw (.pure 0 (.pure 1 (.pure 2 (.pure 3 (.load 4 (.pure 5 (.pure 6 (.pure 7 (.pure 8 (.pure 9 (.pure 10 (.pure 11 (.pure 14 (.pure 15 (.pure 16 (.pure 17 (.load 12 (.pure 13 (.load 18 (.pure 19 (.pure 20 (.pure 21 .done)))))))))))))))))))))) (sel [1, 0, 1, 1, 1, 1, 0, 1, 0, 0, 1, 0, 0, 1, 1, 1, 0, 1, 0, 0, 1, 1, 0, 0, 1, 0, 0, 1, 0, 0, 1, 0, 0, 1, 1, 0, 0] body)) (.leaf (sel [1, 0, 1, 1, 1, 1, 0, 1, 0, 0, 1, 0, 0, 1, 1, 1, 0, 1, 0, 0, 1, 1, 0, 0, 1, 0, 0, 1, 0, 0, 1, 0, 0, 1, 1, 0, 1] body))) (.mark (leaf [(2, .s .slice), (4, .s .loc), (7, .s .loc), (8, .s .any), (9, .s .any), (10, .s (.int .i64)), (13, .s .ptr), (15, .s .ptr), (16, .s (.int .i64)), (17, .s .ptr)] (k5 R Xa Xb Xc)) (.seq (.seq (.leaf (sel [1, 0, 1, 1, 1, 1, 0, 1, 0, 0, 1, 0, 0, 1, 1, 1, 0, 1, 0, 0, 1, 1, 0, 0, 1, 0, 0, 1, 0, 0, 1, 0, 0, 1, 1, 1, 0, 0] body)) (.cond 193 (.seq (.draw (.pure 1 (.pure 2 (.pure 3 (.load 0 (.load 4 (.pure 5 (.load 6 (.pure 7 (.pure 8 (.pure 9 (.pure 10 (.one 11 .done)))))))))))) (sel [1, 0, 1, 1, 1, 1, 0, 1, 0, 0, 1, 0, 0, 1, 1, 1, 0, 1, 0, 0, 1, 1, 0, 0, 1, 0, 0, 1, 0, 0, 1, 0, 0, 1, 1, 1, 0, 1, 0, 0] body)) (.leaf (sel [1, 0, 1, 1, 1, 1, 0, 1, 0, 0, 1, 0, 0, 1, 1, 1, 0, 1, 0, 0, 1, 1, 0, 0, 1, 0, 0, 1, 0, 0, 1, 0, 0, 1, 1, 1, 0, 1, 0, 1] body))) (.leaf (sel [1, 0, 1, 1, 1, 1, 0, 1, 0, 0, 1, 0, 0, 1, 1, 1, 0, 1, 0, 0, 1, 1, 0, 0, 1, 0, 0, 1, 0, 0, 1, 0, 0, 1, 1, 1, 0, 1, 1] body)))) (.seq (.seq (.leaf (sel [1, 0, 1, 1, 1, 1, 0, 1, 0, 0, 1, 0, 0, 1, 1, 1, 0, 1, 0, 0, 1, 1, 0, 0, 1, 0, 0, 1, 0, 0, 1, 0, 0, 1, 1, 1, 1, 0, 0] body)) (.cond 227 (.seq (.draw (.pure 1 (.pure 2 (.pure 3 (.load 0 (.load 4 (.pure 5 (.load 6 (.pure 7 (.pure 8 (.pure 9 (.pure 10 (.one 11 .done)))))))))))) (sel [1, 0, 1, 1, 1, 1, 0, 1, 0, 0, 1, 0, 0, 1, 1, 1, 0, 1, 0, 0, 1, 1, 0, 0, 1, 0, 0, 1, 0, 0, 1, 0, 0, 1, 1, 1, 1, 0, 1, 0, 0] body)) (.leaf (sel [1, 0, 1, 1, 1, 1, 0, 1, 0, 0, 1, 0, 0, 1, 1, 1, 0, 1, 0, 0, 1, 1, 0, 0, 1, 0, 0, 1, 0, 0, 1, 0, 0, 1, 1, 1, 1, 0, 1, 0, 1] body))) (.leaf (sel [1, 0, 1, 1, 1, 1, 0, 1, 0, 0, 1, 0, 0, 1, 1, 1, 0, 1, 0, 0, 1, 1, 0, 0, 1, 0, 0, 1, 0, 0, 1, 0, 0, 1, 1, 1, 1, 0, 1, 1] body)))) (.seq (.leaf (sel [1, 0, 1, 1, 1, 1, 0, 1, 0, 0, 1, 0, 0, 1, 1, 1, 0, 1, 0, 0, 1, 1, 0, 0, 1, 0, 0, 1, 0, 0, 1, 0, 0, 1, 1, 1, 1, 1, 0] body)) (.seq (.leaf (sel [1, 0, 1, 1, 1, 1, 0, 1, 0, 0, 1, 0, 0, 1, 1, 1, 0, 1, 0, 0, 1, 1, 0, 0, 1, 0, 0, 1, 0, 0, 1, 0, 0, 1, 1, 1, 1, 1, 1, 0] body)) (.mark (leaf [(2, .s .slice), (4, .s .loc), (7, .s .loc), (8, .s .any), (9, .s .any), (10, .s (.int .i64)), (13, .s .ptr), (15, .s .ptr), (17, .s .ptr), (18, .s (.int .i64))] (k6 R Xa Xb Xc)) (.seq (.leaf (sel [1, 0, 1, 1, 1, 1, 0, 1, 0, 0, 1, 0, 0, 1, 1, 1, 0, 1, 0, 0, 1, 1, 0, 0, 1, 0, 0, 1, 0, 0, 1, 0, 0, 1, 1, 1, 1, 1, 1, 1, 0] body)) (.seq (.draw (.pure 0 (.pure 1 (.pure 2 (.pure 3 (.pure 5 (.pure 8 (.pure 9 (.pure 10 (.load 4 (.pure 6 (.load 7 (.load 11 (.pure 12 (.pure 13 (.one 14 (.pure 15 (.one 16 (.pure 17 .done)))))))))))))))))) (sel [1, 0, 1, 1, 1, 1, 0, 1, 0, 0, 1, 0, 0, 1, 1, 1, 0, 1, 0, 0, 1, 1, 0, 0, 1, 0, 0, 1, 0, 0, 1, 0, 0, 1, 1, 1, 1, 1, 1, 1, 1, 0] body)) (.seq (.draw (.pure 0 (.pure 1 (.pure 2 (.pure 3 (.pure 4 (.pure 6 (.pure 7 (.pure 8 (.pure 9 (.pure 12 (.load 5 (.load 10 (.pure 11 (.pure 13 (.pure 14 (.pure 15 (.pure 16 (.pure 17 (.one 18 .done))))))))))))))))))) (sel [1, 0, 1, 1, 1, 1, 0, 1, 0, 0, 1, 0, 0, 1, 1, 1, 0, 1, 0, 0, 1, 1, 0, 0, 1, 0, 0, 1, 0, 0, 1, 0, 0, 1, 1, 1, 1, 1, 1, 1, 1, 1, 0] body)) (.seq (.leaf (sel [1, 0, 1, 1, 1, 1, 0, 1, 0, 0, 1, 0, 0, 1, 1, 1, 0, 1, 0, 0, 1, 1, 0, 0, 1, 0, 0, 1, 0, 0, 1, 0, 0, 1, 1, 1, 1, 1, 1, 1, 1, 1, 1, 0] body)) (.seq (.seq (.leaf (sel [1, 0, 1, 1, 1, 1, 0, 1, 0, 0, 1, 0, 0, 1, 1, 1, 0, 1, 0, 0, 1, 1, 0, 0, 1, 0, 0, 1, 0, 0, 1, 0, 0, 1, 1, 1, 1, 1, 1, 1, 1, 1, 1, 1, 0, 0] body)) (.cond 329 (.draw (.pure 1 (.pure 2 (.pure 3 (.load 0 (.load 4 (.pure 5 (.one 6 .done))))))) (sel [1, 0, 1, 1, 1, 1, 0, 1, 0, 0, 1, 0, 0, 1, 1, 1, 0, 1, 0, 0, 1, 1, 0, 0, 1, 0, 0, 1, 0, 0, 1, 0, 0, 1, 1, 1, 1, 1, 1, 1, 1, 1, 1, 1, 0, 1, 0] body)) (.draw (.pure 1 (.pure 2 (.pure 3 (.load 0 (.load 4 (.pure 5 (.pure 6 (.one 7 .done)))))))) (sel [1, 0, 1, 1, 1, 1, 0, 1, 0, 0, 1, 0, 0, 1, 1, 1, 0, 1, 0, 0, 1, 1, 0, 0, 1, 0, 0, 1, 0, 0, 1, 0, 0, 1, 1, 1, 1, 1, 1, 1, 1, 1, 1, 1, 0, 1, 1] body)))) (.mark (leaf [(2, .s .slice), (4, .s .loc), (7, .s .loc), (8, .s .any), (9, .s .any), (10, .s (.int .i64)), (13, .s .ptr), (15, .s .ptr), (18, .s (.int .i64)), (19, .s .bool), (20, .s .ptr)] (k7 R Xa Xb Xc)) (.leaf (sel [1, 0, 1, 1, 1, 1, 0, 1, 0, 0, 1, 0, 0, 1, 1, 1, 0, 1, 0, 0, 1, 1, 0, 0, 1, 0, 0, 1, 0, 0, 1, 0, 0, 1, 1, 1, 1, 1, 1, 1, 1, 1, 1, 1, 1] body))))))))))))))))))) (.leaf (sel [1, 0, 1, 1, 1, 1, 0, 1, 0, 0, 1, 0, 0, 1, 1, 1, 0, 1, 0, 0, 1, 1, 0, 0, 1, 0, 0, 1, 0, 0, 1, 1] body))))
def bl2 (R : EP) (Xa : OA → Nat → Nat → Nat → Nat → Value → Value → Int → WP) (Xb : OA → Nat → Nat → Nat → Nat → Value → Value → Int → OA → OA → WP) (x2q : OA) (x2n : Nat) (x2c : Nat) (x4 : Nat) (x7 : Nat) (x8 : Value) (x9 : Value) (x10 : Int) (x13 : OA) (x15 : OA) (w : World) : Prop :=
 nilP x13 fun a37 =>
 ∃ (v38 : BA), w.cell? a37 = some (.string v38) ∧
 br (!(v38.toList == (ByteArray.mk #[]).toList))
 (nilP x15 fun a39 =>
 ∃ (v40q : OA), ∃ (v40n : Nat), ∃ (v40c : Nat), w.cell? a39 = some (.slice v40q v40n v40c) ∧
 l3 R Xa Xb x2q x2n x2c x4 x7 x8 x9 x10 x13 x15 (IntKind.i64.wrap ((v40n : Int) - 1)) w)
 (k1 R Xa x2q x2n x2c x4 x7 x8 x9 x10 x13 w)
def l2 (R : EP) (Xa : OA → Nat → Nat → Nat → Nat → Value → Value → Int → WP) (x2q : OA) (x2n : Nat) (x2c : Nat) (x4 : Nat) (x7 : Nat) (x8 : Value) (x9 : Value) (x10 : Int) (x13 : OA) (x15 : OA) (w : World) : Prop :=
  ∀ X : OA → Nat → Nat → Nat → Nat → Value → Value → Int → OA → OA → WP, (∀ x2q x2n x2c x4 x7 x8 x9 x10 x13 x15 w, bl2 R Xa X x2q x2n x2c x4 x7 x8 x9 x10 x13 x15 w → X x2q x2n x2c x4 x7 x8 x9 x10 x13 x15 w) → X x2q x2n x2c x4 x7 x8 x9 x10 x13 x15 w

noncomputable def al2 (R : EP) (Xa : OA → Nat → Nat → Nat → Nat → Value → Value → Int → WP) (Xb : OA → Nat → Nat → Nat → Nat → Value → Value → Int → OA → OA → WP) : AC :=
  (.seq (.leaf (sel [1, 0, 1, 1, 1, 1, 0, 1, 0, 0, 1, 0, 0, 1, 1, 1, 0, 1, 0, 0, 1, 1, 0, 0, 0] body)) (.block 3 (.seq (.seq (.leaf (sel [1, 0, 1, 1, 1, 1, 0, 1, 0, 0, 1, 0, 0, 1, 1, 1, 0, 1, 0, 0, 1, 1, 0, 0, 1, 0, 0, 0] body)) (.block 4 (.loop (leaf [(2, .s .slice), (4, .s .loc), (7, .s .loc), (8, .s .any), (9, .s .any), (10, .s (.int .i64)), (13, .s .ptr), (15, .s .ptr), (16, .s (.int .i64))] (l3 R Xa Xb)) (sel [1, 0, 1, 1, 1, 1, 0, 1, 0, 0, 1, 0, 0, 1, 1, 1, 0, 1, 0, 0, 1, 1, 0, 0, 1, 0, 0, 1, 0, 0] body)))) (.leaf (sel [1, 0, 1, 1, 1, 1, 0, 1, 0, 0, 1, 0, 0, 1, 1, 1, 0, 1, 0, 0, 1, 1, 0, 0, 1, 0, 1] body)))))
def bl1 (R : EP) (Xa : OA → Nat → Nat → Nat → Nat → Value → Value → Int → WP) (x2q : OA) (x2n : Nat) (x2c : Nat) (x4 : Nat) (x7 : Nat) (x8 : Value) (x9 : Value) (x10 : Int) (w : World) : Prop :=
 br (decide (x10 < (x2n : Int)))
 (0 ≤ x10 ∧ x10 < (x2n : Int) ∧
 nilP x2q fun a5 =>
 ∃ (v6 : Value), w.cell? (a5.add (Int.toNat x10 * 1)) = some v6 ∧
 ∃ (r7_0 : OA), ∃ (r7_1 : Bool), ∃ w8, (Instr.typeAssert v6 ty_Inline ty_P_openPlain true).run P w = .ok (.tuple #[.pointer r7_0, .bool r7_1]) w8 ∧
 br r7_1
 (tk w8 fun w9 =>
 nilP r7_0 fun a10 =>
 ∃ (v11q : OA), ∃ (v11n : Nat), ∃ (v11c : Nat), w9.cell? ⟨x4, 0, none⟩ = some (.slice v11q v11n v11c) ∧
 ∃ (r12q : OA), ∃ (r12n : Nat), ∃ (r12c : Nat), ∃ w13, (Instr.buildSlice ty_S_Inline 1 #[(0, .iface ty_P_Plain (.pointer (some a10)))]).run P w9 = .ok (.slice r12q r12n r12c) w13 ∧
 SameC w9 w13 ⟨x4, 0, none⟩ 1 ∧
 ∃ (r14q : OA), ∃ (r14n : Nat), ∃ (r14c : Nat), ∃ w15, (Builtin.append_ #[ty_S_Inline, ty_S_Inline] ty_S_Inline #[.slice v11q v11n v11c, .slice r12q r12n r12c]).run P w13 = .ok (.slice r14q r14n r14c) w15 ∧
 stV w15 ⟨x4, 0, none⟩ (.slice r14q r14n r14c) fun w16 =>
 Xa x2q x2n x2c x4 x7 x8 x9 (IntKind.i64.wrap (x10 + 1)) w16)
 (0 ≤ x10 ∧ x10 < (x2n : Int) ∧
 nilP x2q fun a17 =>
 ∃ (v18 : Value), w8.cell? (a17.add (Int.toNat x10 * 1)) = some v18 ∧
 ∃ (r19_0 : OA), ∃ (r19_1 : Bool), ∃ w20, (Instr.typeAssert v18 ty_Inline ty_P_emphPlain true).run P w8 = .ok (.tuple #[.pointer r19_0, .bool r19_1]) w20 ∧
 br (!r19_1)
 (tk w20 fun w21 =>
 0 ≤ x10 ∧ x10 < (x2n : Int) ∧
 nilP x2q fun a22 =>
 ∃ (v23q : OA), ∃ (v23n : Nat), ∃ (v23c : Nat), w21.cell? ⟨x4, 0, none⟩ = some (.slice v23q v23n v23c) ∧
 ∃ (v24 : Value), w21.cell? (a22.add (Int.toNat x10 * 1)) = some v24 ∧
 ∃ (r25q : OA), ∃ (r25n : Nat), ∃ (r25c : Nat), ∃ w26, (Instr.buildSlice ty_S_Inline 1 #[(0, v24)]).run P w21 = .ok (.slice r25q r25n r25c) w26 ∧
 SameC w21 w26 ⟨x4, 0, none⟩ 1 ∧
 ∃ (r27q : OA), ∃ (r27n : Nat), ∃ (r27c : Nat), ∃ w28, (Builtin.append_ #[ty_S_Inline, ty_S_Inline] ty_S_Inline #[.slice v23q v23n v23c, .slice r25q r25n r25c]).run P w26 = .ok (.slice r27q r27n r27c) w28 ∧
 stV w28 ⟨x4, 0, none⟩ (.slice r27q r27n r27c) fun w29 =>
 Xa x2q x2n x2c x4 x7 x8 x9 (IntKind.i64.wrap (x10 + 1)) w29)
 (nilP r19_0 fun a30 =>
 ∃ (v31 : Bool), w20.cell? (a30.add 2) = some (.bool v31) ∧
 br v31
 (nilP r19_0 fun a32 =>
 ∃ (v33 : BA), w20.cell? a32 = some (.string v33) ∧
 0 ≤ (0 : Int) ∧ 0 < (v33.size : Int) ∧
 enterE P (do let d ← Deferred.ofValue x8 #[.int .u8 (bt v33 0)]; invoke d.target d.args) (fun e w35 => ∃ (r34 : Int), e = .returned (.int .i64 r34) ∧
 0 ≤ r34 ∧ r34 < (5 : Int) ∧
 l2 R Xa x2q x2n x2c x4 x7 x8 x9 x10 r19_0 (some ((⟨x7, 0, none⟩ : Addr).add (Int.toNat r34 * 1))) w35) w20)
 (k1 R Xa x2q x2n x2c x4 x7 x8 x9 x10 r19_0 w20))))
 (∃ (v36q : OA), ∃ (v36n : Nat), ∃ (v36c : Nat), w.cell? ⟨x4, 0, none⟩ = some (.slice v36q v36n v36c) ∧
 R (.returned (.slice v36q v36n v36c)) w)
def l1 (R : EP) (x2q : OA) (x2n : Nat) (x2c : Nat) (x4 : Nat) (x7 : Nat) (x8 : Value) (x9 : Value) (x10 : Int) (w : World) : Prop :=
  ∀ X : OA → Nat → Nat → Nat → Nat → Value → Value → Int → WP, (∀ x2q x2n x2c x4 x7 x8 x9 x10 w, bl1 R X x2q x2n x2c x4 x7 x8 x9 x10 w → X x2q x2n x2c x4 x7 x8 x9 x10 w) → X x2q x2n x2c x4 x7 x8 x9 x10 w

noncomputable def al1 (R : EP) (Xa : OA → Nat → Nat → Nat → Nat → Value → Value → Int → WP) : AC :=
  (.seq (.leaf (sel [1, 0, 1, 1, 1, 1, 0, 1, 0, 0, 0] body)) (.seq (.block 1 (.seq (.seq (.leaf (sel [1, 0, 1, 1, 1, 1, 0, 1, 0, 0, 1, 0, 0, 0, 0] body)) (.seq (.leaf (sel [1, 0, 1, 1, 1, 1, 0, 1, 0, 0, 1, 0, 0, 0, 1, 0] body)) (.cond 37 (.seq (.draw (.pure 1 (.pure 2 (.pure 3 (.pure 4 (.load 0 (.one 5 (.one 6 (.one 7 .done)))))))) (sel [1, 0, 1, 1, 1, 1, 0, 1, 0, 0, 1, 0, 0, 0, 1, 1, 0, 0] body)) (.leaf (sel [1, 0, 1, 1, 1, 1, 0, 1, 0, 0, 1, 0, 0, 0, 1, 1, 0, 1] body))) (.leaf (sel [1, 0, 1, 1, 1, 1, 0, 1, 0, 0, 1, 0, 0, 0, 1, 1, 1] body))))) (.seq (.leaf (sel [1, 0, 1, 1, 1, 1, 0, 1, 0, 0, 1, 0, 0, 1, 0] body)) (.seq (.seq (.leaf (sel [1, 0, 1, 1, 1, 1, 0, 1, 0, 0, 1, 0, 0, 1, 1, 0, 0] body)) (.cond 54 (.seq (.draw (.pure 1 (.pure 2 (.pure 3 (.load 0 (.load 4 (.one 5 (.one 6 (.one 7 .done)))))))) (sel [1, 0, 1, 1, 1, 1, 0, 1, 0, 0, 1, 0, 0, 1, 1, 0, 1, 0, 0] body)) (.leaf (sel [1, 0, 1, 1, 1, 1, 0, 1, 0, 0, 1, 0, 0, 1, 1, 0, 1, 0, 1] body))) (.leaf (sel [1, 0, 1, 1, 1, 1, 0, 1, 0, 0, 1, 0, 0, 1, 1, 0, 1, 1] body)))) (.seq (.seq (.leaf (sel [1, 0, 1, 1, 1, 1, 0, 1, 0, 0, 1, 0, 0, 1, 1, 1, 0, 0] body)) (.cond 65 (.scope (.seq (.leaf (sel [1, 0, 1, 1, 1, 1, 0, 1, 0, 0, 1, 0, 0, 1, 1, 1, 0, 1, 0, 0, 0] body)) (.seq (.leaf (sel [1, 0, 1, 1, 1, 1, 0, 1, 0, 0, 1, 0, 0, 1, 1, 1, 0, 1, 0, 0, 1, 0] body)) (.block 2 (.loop (leaf [(2, .s .slice), (4, .s .loc), (7, .s .loc), (8, .s .any), (9, .s .any), (10, .s (.int .i64)), (13, .s .ptr), (15, .s .ptr)] (l2 R Xa)) (sel [1, 0, 1, 1, 1, 1, 0, 1, 0, 0, 1, 0, 0, 1, 1, 1, 0, 1, 0, 0, 1, 1, 0, 0] body)))))) (.leaf (sel [1, 0, 1, 1, 1, 1, 0, 1, 0, 0, 1, 0, 0, 1, 1, 1, 0, 1, 1] body)))) (.mark (leaf [(2, .s .slice), (4, .s .loc), (7, .s .loc), (8, .s .any), (9, .s .any), (10, .s (.int .i64)), (13, .s .ptr)] (k1 R Xa)) (.seq (.leaf (sel [1, 0, 1, 1, 1, 1, 0, 1, 0, 0, 1, 0, 0, 1, 1, 1, 1, 0] body)) (.cond 368 (.seq (.leaf (sel [1, 0, 1, 1, 1, 1, 0, 1, 0, 0, 1, 0, 0, 1, 1, 1, 1, 1, 0, 0] body)) (.seq (.leaf (sel [1, 0, 1, 1, 1, 1, 0, 1, 0, 0, 1, 0, 0, 1, 1, 1, 1, 1, 0, 1, 0] body)) (.mark (leaf [(2, .s .slice), (4, .s .loc), (7, .s .loc), (8, .s .any), (9, .s .any), (10, .s (.int .i64)), (13, .s .ptr), (21, .s .ptr)] (k2 R Xa)) (.seq (.leaf (sel [1, 0, 1, 1, 1, 1, 0, 1, 0, 0, 1, 0, 0, 1, 1, 1, 1, 1, 0, 1, 1, 0] body)) (.mark (leaf [(2, .s .slice), (4, .s .loc), (7, .s .loc), (8, .s .any), (9, .s .any), (10, .s (.int .i64)), (13, .s .ptr), (21, .s .ptr)] (k4 R Xa)) (.seq (.leaf (sel [1, 0, 1, 1, 1, 1, 0, 1, 0, 0, 1, 0, 0, 1, 1, 1, 1, 1, 0, 1, 1, 1, 0] body)) (.cond 409 (.leaf (sel [1, 0, 1, 1, 1, 1, 0, 1, 0, 0, 1, 0, 0, 1, 1, 1, 1, 1, 0, 1, 1, 1, 1, 0] body)) (.draw (.pure 1 (.pure 2 (.pure 3 (.pure 4 (.load 0 (.one 5 (.one 6 (.one 7 .done)))))))) (sel [1, 0, 1, 1, 1, 1, 0, 1, 0, 0, 1, 0, 0, 1, 1, 1, 1, 1, 0, 1, 1, 1, 1, 1] body))))))))) (.leaf (sel [1, 0, 1, 1, 1, 1, 0, 1, 0, 0, 1, 0, 0, 1, 1, 1, 1, 1, 1] body)))))))))) (.leaf (sel [1, 0, 1, 1, 1, 1, 0, 1, 0, 0, 1, 1] body))))
end g_parseState_emph
def g_parseState_emph (R : EP) (x0 : OA) (x1q : OA) (x1n : Nat) (x1c : Nat) (x2q : OA) (x2n : Nat) (x2c : Nat) (w : World) : Prop :=
 box w #[.slice x1q x1n x1c] ty_S_Inline fun b1 w2 =>
 box w2 #[.slice none 0 0, .slice none 0 0, .slice none 0 0, .slice none 0 0, .slice none 0 0] ty_5_S_P_emphPlain fun b3 w4 =>
 g_parseState_emph.l1 R x2q x2n x2c b1 b3 (.func (.func i_parseState_emph_1) #[] #[]) (.func (.func i_parseState_emph_2) #[] #[.pointer (some ⟨b3, 0, none⟩), .pointer (some ⟨b1, 0, none⟩)]) 0 w4

noncomputable def g_parseState_emph.ac (R : EP) : AC :=
  (.seq (.leaf (sel [0] g_parseState_emph.body)) (.scope (.seq (.leaf (sel [1, 0, 0] g_parseState_emph.body)) (.seq (.leaf (sel [1, 0, 1, 0] g_parseState_emph.body)) (.seq (.leaf (sel [1, 0, 1, 1, 0] g_parseState_emph.body)) (.seq (.leaf (sel [1, 0, 1, 1, 1, 0] g_parseState_emph.body)) (.seq (.seq (.leaf (sel [1, 0, 1, 1, 1, 1, 0, 0] g_parseState_emph.body)) (.block 0 (.loop (leaf [(2, .s .slice), (4, .s .loc), (7, .s .loc), (8, .s .any), (9, .s .any), (10, .s (.int .i64))] (g_parseState_emph.l1 R)) (sel [1, 0, 1, 1, 1, 1, 0, 1, 0, 0] g_parseState_emph.body)))) (.leaf (sel [1, 0, 1, 1, 1, 1, 1] g_parseState_emph.body)))))))))
theorem g_parseState_emph.good (R : EP) : Good P 436 (g_parseState_emph.ac R) (QF P [.tmp 6] R) :=
  ⟨trivial, ⟨trivial, ⟨trivial, ⟨trivial, ⟨trivial, ⟨⟨trivial, (loopG (g_parseState_emph.al1 R) (g_parseState_emph.bl1 R) (fun _ => by kernel_rfl) (fun Xa => ⟨trivial, ⟨⟨⟨trivial, ⟨trivial, ⟨⟨⟨by kernel_rfl, by kernel_rfl, fun _ _ _ h => h⟩, trivial⟩, trivial⟩⟩⟩, ⟨trivial, ⟨⟨trivial, ⟨⟨⟨by kernel_rfl, by kernel_rfl, fun _ _ _ h => h⟩, trivial⟩, trivial⟩⟩, ⟨⟨trivial, ⟨⟨trivial, ⟨trivial, (loopG (g_parseState_emph.al2 R Xa) (g_parseState_emph.bl2 R Xa) (fun _ => by kernel_rfl) (fun Xb => ⟨trivial, ⟨⟨trivial, (loopG (g_parseState_emph.al3 R Xa Xb) (g_parseState_emph.bl3 R Xa Xb) (fun _ => by kernel_rfl) (fun Xc => ⟨trivial, ⟨⟨trivial, ⟨⟨⟨by kernel_rfl, by kernel_rfl, fun _ _ _ h => h⟩, trivial⟩, ⟨⟨⟨⟨by kernel_rfl, by kernel_rfl, fun _ _ _ h => h⟩, trivial⟩, ⟨⟨⟨trivial, ⟨⟨⟨by kernel_rfl, by kernel_rfl, fun _ _ _ h => h⟩, trivial⟩, trivial⟩⟩, ⟨⟨trivial, ⟨⟨⟨by kernel_rfl, by kernel_rfl, fun _ _ _ h => h⟩, trivial⟩, trivial⟩⟩, ⟨trivial, ⟨trivial, ⟨⟨trivial, ⟨⟨by kernel_rfl, by kernel_rfl, fun _ _ _ h => h⟩, ⟨⟨by kernel_rfl, by kernel_rfl, fun _ _ _ h => h⟩, ⟨trivial, ⟨⟨trivial, ⟨⟨by kernel_rfl, by kernel_rfl, fun _ _ _ h => h⟩, ⟨by kernel_rfl, by kernel_rfl, fun _ _ _ h => h⟩⟩⟩, ⟨trivial, cutE (by intro x2q x2n x2c x4 x7 x8 x9 x10 x13 x15 x18 x19 x20 ρ w; kernel_rfl)⟩⟩⟩⟩⟩⟩, cutE (by intro x2q x2n x2c x4 x7 x8 x9 x10 x13 x15 x17 x18 ρ w; kernel_rfl)⟩⟩⟩⟩⟩, cutE (by intro x2q x2n x2c x4 x7 x8 x9 x10 x13 x15 x16 x17 ρ w; kernel_rfl)⟩⟩, cutE (by intro x2q x2n x2c x4 x7 x8 x9 x10 x13 x15 x16 x17 ρ w; kernel_rfl)⟩⟩⟩, trivial⟩⟩) (fun Xc => by intro x2q x2n x2c x4 x7 x8 x9 x10 x13 x15 x16 ρ w; kernel_rfl) (fun X h _ _ _ _ _ _ _ _ _ _ _ _ g => g X h))⟩, trivial⟩⟩) (fun Xb => by intro x2q x2n x2c x4 x7 x8 x9 x10 x13 x15 ρ w; kernel_rfl) (fun X h _ _ _ _ _ _ _ _ _ _ _ g => g X h))⟩⟩, trivial⟩⟩, ⟨⟨trivial, ⟨⟨trivial, ⟨trivial, ⟨⟨trivial, ⟨⟨trivial, ⟨trivial, ⟨by kernel_rfl, by kernel_rfl, fun _ _ _ h => h⟩⟩⟩, cutE (by intro x2q x2n x2c x4 x7 x8 x9 x10 x13 x21 ρ w; kernel_rfl)⟩⟩, cutE (by intro x2q x2n x2c x4 x7 x8 x9 x10 x13 x21 ρ w; kernel_rfl)⟩⟩⟩, trivial⟩⟩, cutE (by intro x2q x2n x2c x4 x7 x8 x9 x10 x13 ρ w; kernel_rfl)⟩⟩⟩⟩⟩, trivial⟩⟩) (fun Xa => by intro x2q x2n x2c x4 x7 x8 x9 x10 ρ w; kernel_rfl) (fun X h _ _ _ _ _ _ _ _ _ g => g X h))⟩, trivial⟩⟩⟩⟩⟩⟩
theorem g_parseState_emph.eq (R : EP) (x0 : OA) (x1q : OA) (x1n : Nat) (x1c : Nat) (x2q : OA) (x2n : Nat) (x2c : Nat) (w : World) : g_parseState_emph R x0 x1q x1n x1c x2q x2n x2c w = vcA P 436 (g_parseState_emph.ac R) (QF P [.tmp 6] R) (fr0 [.pointer x0, .slice x1q x1n x1c, .slice x2q x2n x2c]) w := by kernel_rfl
theorem g_parseState_emph.sound {R : EP} {x0 : OA} {x1q : OA} {x1n : Nat} {x1c : Nat} {x2q : OA} {x2n : Nat} {x2c : Nat} {w : World} (h : g_parseState_emph R x0 x1q x1n x1c x2q x2n x2c w) : callE P i_parseState_emph #[.pointer x0, .slice x1q x1n x1c, .slice x2q x2n x2c] R w :=
  callE_fin (c := g_parseState_emph.body) Tryz.func81 Tryz.call81 (by kernel_rfl) (by kernel_rfl) (by kernel_rfl) (by kernel_rfl) (by kernel_rfl) (g_parseState_emph.good R) (g_parseState_emph.eq R x0 x1q x1n x1c x2q x2n x2c w) h
/- 77 (*pub-paratext/pub/rscmarkdown.parseState).emit -/
namespace g_parseState_emit
noncomputable def body : Code := bodyOf Tryz.f77
end g_parseState_emit
def g_parseState_emit (R : EP) (x0 : OA) (x1 : Int) (w : World) : Prop :=
 nilP x0 fun a1 =>
 ∃ (v2 : Int), w.cell? (a1.add 8) = some (.int .i64 v2) ∧
 br (decide (v2 < x1))
 (tk w fun w3 =>
 nilP x0 fun a4 =>
 nilP x0 fun a5 =>
 nilP x0 fun a6 =>
 ∃ (v7q : OA), ∃ (v7n : Nat), ∃ (v7c : Nat), w3.cell? (a4.add 9) = some (.slice v7q v7n v7c) ∧
 ∃ (v8 : BA), w3.cell? (a5.add 7) = some (.string v8) ∧
 ∃ (v9 : Int), w3.cell? (a6.add 8) = some (.int .i64 v9) ∧
 0 ≤ v9 ∧ v9 ≤ x1 ∧ x1 ≤ (v8.size : Int) ∧
 box w3 #[.string (v8.extract (Int.toNat v9) (Int.toNat x1))] ty_Plain fun b10 w11 =>
 SameC w3 w11 (a4.add 9) 1 ∧
 ∃ (r12q : OA), ∃ (r12n : Nat), ∃ (r12c : Nat), ∃ w13, (Instr.buildSlice ty_S_Inline 1 #[(0, .iface ty_P_Plain (.pointer (some ⟨b10, 0, none⟩)))]).run P w11 = .ok (.slice r12q r12n r12c) w13 ∧
 SameC w11 w13 (a4.add 9) 1 ∧
 ∃ (r14q : OA), ∃ (r14n : Nat), ∃ (r14c : Nat), ∃ w15, (Builtin.append_ #[ty_S_Inline, ty_S_Inline] ty_S_Inline #[.slice v7q v7n v7c, .slice r12q r12n r12c]).run P w13 = .ok (.slice r14q r14n r14c) w15 ∧
 nilP x0 fun a16 =>
 stV w15 ((a16.add 9).add 0) (.slice r14q r14n r14c) fun w17 =>
 nilP x0 fun a18 =>
 stV w17 ((a18.add 8).add 0) (.int .i64 x1) fun w19 =>
 R (.returned (.tuple #[])) w19)
 (R (.returned (.tuple #[])) w)

noncomputable def g_parseState_emit.ac (R : EP) : AC :=
  (.seq (.leaf (sel [0] g_parseState_emit.body)) (.cond 9 (.seq (.draw (.pure 0 (.pure 1 (.pure 2 (.pure 3 (.pure 5 (.pure 6 (.pure 7 (.pure 9 (.pure 10 (.pure 11 (.pure 13 (.load 4 (.load 8 (.load 12 (.pure 14 (.pure 15 (.one 16 (.pure 17 (.one 18 (.one 19 (.pure 20 (.pure 21 (.one 22 .done))))))))))))))))))))))) (sel [1, 0, 0] g_parseState_emit.body)) (.leaf (sel [1, 0, 1] g_parseState_emit.body))) (.leaf (sel [1, 1] g_parseState_emit.body))))
theorem g_parseState_emit.good (R : EP) : Good P 36 (g_parseState_emit.ac R) (QF P [] R) :=
  ⟨trivial, ⟨⟨⟨by kernel_rfl, by kernel_rfl, fun _ _ _ h => h⟩, trivial⟩, trivial⟩⟩
theorem g_parseState_emit.eq (R : EP) (x0 : OA) (x1 : Int) (w : World) : g_parseState_emit R x0 x1 w = vcA P 36 (g_parseState_emit.ac R) (QF P [] R) (fr0 [.pointer x0, .int .i64 x1]) w := by kernel_rfl
theorem g_parseState_emit.sound {R : EP} {x0 : OA} {x1 : Int} {w : World} (h : g_parseState_emit R x0 x1 w) : callE P i_parseState_emit #[.pointer x0, .int .i64 x1] R w :=
  callE_fin (c := g_parseState_emit.body) Tryz.func77 Tryz.call77 (by kernel_rfl) (by kernel_rfl) (by kernel_rfl) (by kernel_rfl) (by kernel_rfl) (g_parseState_emit.good R) (g_parseState_emit.eq R x0 x1 w) h
/- 78 (*pub-paratext/pub/rscmarkdown.parseState).skip -/
namespace g_parseState_skip
noncomputable def body : Code := bodyOf Tryz.f78
end g_parseState_skip
def g_parseState_skip (R : EP) (x0 : OA) (x1 : Int) (w : World) : Prop :=
 nilP x0 fun a1 =>
 stV w ((a1.add 8).add 0) (.int .i64 x1) fun w2 =>
 R (.returned (.tuple #[])) w2

noncomputable def g_parseState_skip.ac (R : EP) : AC :=
  (.leaf (sel [] g_parseState_skip.body))
theorem g_parseState_skip.good (R : EP) : Good P 8 (g_parseState_skip.ac R) (QF P [] R) :=
  trivial
theorem g_parseState_skip.eq (R : EP) (x0 : OA) (x1 : Int) (w : World) : g_parseState_skip R x0 x1 w = vcA P 8 (g_parseState_skip.ac R) (QF P [] R) (fr0 [.pointer x0, .int .i64 x1]) w := by kernel_rfl
theorem g_parseState_skip.sound {R : EP} {x0 : OA} {x1 : Int} {w : World} (h : g_parseState_skip R x0 x1 w) : callE P i_parseState_skip #[.pointer x0, .int .i64 x1] R w :=
  callE_fin (c := g_parseState_skip.body) Tryz.func78 Tryz.call78 (by kernel_rfl) (by kernel_rfl) (by kernel_rfl) (by kernel_rfl) (by kernel_rfl) (g_parseState_skip.good R) (g_parseState_skip.eq R x0 x1 w) h
/- 63 (*pub-paratext/pub/rscmarkdown.parseState).closeBlock -/
namespace g_parseState_closeBlock
noncomputable def body : Code := bodyOf Tryz.f63
def k3 (R : EP) (x0 : OA) (x4 : Value) (w : World) : Prop :=
 tk w fun w38 =>
 nilP x0 fun a39 =>
 nilP x0 fun a40 =>
 ∃ (v41q : OA), ∃ (v41n : Nat), ∃ (v41c : Nat), w38.cell? (a39.add 4) = some (.slice v41q v41n v41c) ∧
 ∃ (v42q : OA), ∃ (v42n : Nat), ∃ (v42c : Nat), w38.cell? (a40.add 4) = some (.slice v42q v42n v42c) ∧
 ∃ (r43q : OA), ∃ (r43n : Nat), ∃ (r43c : Nat), (∀ w, (Instr.sliceAt ty_S_openBlock (.slice v41q v41n v41c) none (some (.int .i64 (IntKind.i64.wrap ((v42n : Int) - 1)))) none).run P w = .ok (.slice r43q r43n r43c) w) ∧
 nilP x0 fun a44 =>
 stV w38 ((a44.add 4).add 0) (.slice r43q r43n r43c) fun w45 =>
 nilP x0 fun a46 =>
 ∃ (v47q : OA), ∃ (v47n : Nat), ∃ (v47c : Nat), w45.cell? (a46.add 4) = some (.slice v47q v47n v47c) ∧
 br (decide ((v47n : Int) > 0))
 (tk w45 fun w48 =>
 nilP x0 fun a49 =>
 nilP x0 fun a50 =>
 ∃ (v51q : OA), ∃ (v51n : Nat), ∃ (v51c : Nat), w48.cell? (a49.add 4) = some (.slice v51q v51n v51c) ∧
 ∃ (v52q : OA), ∃ (v52n : Nat), ∃ (v52c : Nat), w48.cell? (a50.add 4) = some (.slice v52q v52n v52c) ∧
 0 ≤ (IntKind.i64.wrap ((v52n : Int) - 1)) ∧ (IntKind.i64.wrap ((v52n : Int) - 1)) < (v51n : Int) ∧
 nilP v51q fun a53 =>
 ∃ (v54q : OA), ∃ (v54n : Nat), ∃ (v54c : Nat), w48.cell? ((a53.add (Int.toNat (IntKind.i64.wrap ((v52n : Int) - 1)) * 4)).add 1) = some (.slice v54q v54n v54c) ∧
 ∃ (r55q : OA), ∃ (r55n : Nat), ∃ (r55c : Nat), ∃ w56, (Instr.buildSlice ty_S_Block 1 #[(0, x4)]).run P w48 = .ok (.slice r55q r55n r55c) w56 ∧
 ∃ (r57q : OA), ∃ (r57n : Nat), ∃ (r57c : Nat), ∃ w58, (Builtin.append_ #[ty_S_Block, ty_S_Block] ty_S_Block #[.slice v54q v54n v54c, .slice r55q r55n r55c]).run P w56 = .ok (.slice r57q r57n r57c) w58 ∧
 stV w58 (((a53.add (Int.toNat (IntKind.i64.wrap ((v52n : Int) - 1)) * 4)).add 1).add 0) (.slice r57q r57n r57c) fun w59 =>
 R (.returned x4) w59)
 (∃ (r60 : OA), ∃ w61, (Instr.typeAssert x4 ty_Block ty_P_Document false).run P w45 = .ok (.pointer r60) w61 ∧
 nilP x0 fun a62 =>
 stV w61 ((a62.add 1).add 0) (.pointer r60) fun w63 =>
 R (.returned x4) w63)

def k2 (R : EP) (x0 : OA) (x4 : Value) (x5 : OA) (w : World) : Prop :=
 nilP x0 fun a26 =>
 ∃ (v27 : OA), w.cell? a26 = some (.pointer v27) ∧
 nilP v27 fun a28 =>
 ∃ (v29 : Bool), w.cell? (a28.add 2) = some (.bool v29) ∧
 br v29
 (nilP x0 fun a30 =>
 ∃ (v31q : OA), ∃ (v31n : Nat), ∃ (v31c : Nat), w.cell? (a30.add 10) = some (.slice v31q v31n v31c) ∧
 ∃ (r32q : OA), ∃ (r32n : Nat), ∃ (r32c : Nat), ∃ w33, (Instr.buildSlice ty_S_P_List 1 #[(0, .pointer x5)]).run P w = .ok (.slice r32q r32n r32c) w33 ∧
 ∃ (r34q : OA), ∃ (r34n : Nat), ∃ (r34c : Nat), ∃ w35, (Builtin.append_ #[ty_S_P_List, ty_S_P_List] ty_S_P_List #[.slice v31q v31n v31c, .slice r32q r32n r32c]).run P w33 = .ok (.slice r34q r34n r34c) w35 ∧
 nilP x0 fun a36 =>
 stV w35 ((a36.add 10).add 0) (.slice r34q r34n r34c) fun w37 =>
 k3 R x0 x4 w37)
 (k3 R x0 x4 w)

def k1 (R : EP) (x0 : OA) (x3 : OA) (w : World) : Prop :=
 nilP x3 fun a12 =>
 ∃ (v13 : Value), w.cell? a12 = some v13 ∧
 enterE P (callMethod v13 "pub-paratext/pub/rscmarkdown.build" #[.iface ty_P_parseState (.pointer x0)]) (fun e w15 => ∃ (r14 : Value), e = .returned r14 ∧
 ∃ (r16_0 : OA), ∃ (r16_1 : Bool), ∃ w17, (Instr.typeAssert r14 ty_Block ty_P_List true).run P w15 = .ok (.tuple #[.pointer r16_0, .bool r16_1]) w17 ∧
 br r16_1
 (nilP x0 fun a18 =>
 ∃ (v19 : Bool), w17.cell? (a18.add 6) = some (.bool v19) ∧
 br v19
 (nilP x0 fun a20 =>
 stV w17 ((a20.add 6).add 0) (.bool true) fun w21 =>
 k2 R x0 r14 r16_0 w21)
 (callE P i_listCorner #[.pointer r16_0] (fun e w23 => ∃ (r22 : Bool), e = .returned (.bool r22) ∧
 nilP x0 fun a24 =>
 stV w23 ((a24.add 6).add 0) (.bool r22) fun w25 =>
 k2 R x0 r14 r16_0 w25) w17))
 (k3 R x0 r14 w17)) w

end g_parseState_closeBlock
def g_parseState_closeBlock (R : EP) (x0 : OA) (w : World) : Prop :=
 tk w fun w1 =>
 nilP x0 fun a2 =>
 nilP x0 fun a3 =>
 ∃ (v4q : OA), ∃ (v4n : Nat), ∃ (v4c : Nat), w1.cell? (a2.add 4) = some (.slice v4q v4n v4c) ∧
 ∃ (v5q : OA), ∃ (v5n : Nat), ∃ (v5c : Nat), w1.cell? (a3.add 4) = some (.slice v5q v5n v5c) ∧
 0 ≤ (IntKind.i64.wrap ((v5n : Int) - 1)) ∧ (IntKind.i64.wrap ((v5n : Int) - 1)) < (v4n : Int) ∧
 nilP v4q fun a6 =>
 ∃ (v7 : Value), w1.cell? (a6.add (Int.toNat (IntKind.i64.wrap ((v5n : Int) - 1)) * 4)) = some v7 ∧
 ∃ (r8 : Bool), ∃ w9, (do eqGuard .eql ty_blockBuilder (.tmp 22) (.const .nilIface) v7 .nilIface; binOp .eql ty_blockBuilder v7 .nilIface).run P w1 = .ok (.bool r8) w9 ∧
 br r8
 (nilP x0 fun a10 =>
 ∃ (v11q : OA), ∃ (v11n : Nat), ∃ (v11c : Nat), w9.cell? (a10.add 4) = some (.slice v11q v11n v11c) ∧
 False)
 (g_parseState_closeBlock.k1 R x0 (some (a6.add (Int.toNat (IntKind.i64.wrap ((v5n : Int) - 1)) * 4))) w9)

noncomputable def g_parseState_closeBlock.ac (R : EP) : AC :=
  (.seq (.leaf (sel [0] g_parseState_closeBlock.body)) (.seq (.draw (.pure 0 (.pure 1 (.pure 2 (.pure 4 (.pure 5 (.pure 6 (.load 3 (.load 7 (.pure 8 (.pure 9 (.pure 10 (.pure 11 .done)))))))))))) (sel [1, 0] g_parseState_closeBlock.body)) (.seq (.leaf (sel [1, 1, 0] g_parseState_closeBlock.body)) (.mark (leaf [(0, .s .ptr), (3, .s .ptr)] (g_parseState_closeBlock.k1 R)) (.seq (.leaf (sel [1, 1, 1, 0] g_parseState_closeBlock.body)) (.seq (.seq (.leaf (sel [1, 1, 1, 1, 0, 0] g_parseState_closeBlock.body)) (.seq (.leaf (sel [1, 1, 1, 1, 0, 1, 0] g_parseState_closeBlock.body)) (.cond 42 (.seq (.leaf (sel [1, 1, 1, 1, 0, 1, 1, 0, 0] g_parseState_closeBlock.body)) (.mark (leaf [(0, .s .ptr), (4, .s .any), (5, .s .ptr)] (g_parseState_closeBlock.k2 R)) (.leaf (sel [1, 1, 1, 1, 0, 1, 1, 0, 1] g_parseState_closeBlock.body)))) (.leaf (sel [1, 1, 1, 1, 0, 1, 1, 1] g_parseState_closeBlock.body))))) (.mark (leaf [(0, .s .ptr), (4, .s .any)] (g_parseState_closeBlock.k3 R)) (.seq (.draw (.pure 0 (.pure 1 (.pure 2 (.pure 3 (.pure 5 (.pure 6 (.pure 7 (.load 4 (.load 8 (.pure 9 (.pure 10 (.pure 11 (.pure 12 (.pure 13 (.one 14 .done))))))))))))))) (sel [1, 1, 1, 1, 1, 0] g_parseState_closeBlock.body)) (.seq (.seq (.leaf (sel [1, 1, 1, 1, 1, 1, 0, 0] g_parseState_closeBlock.body)) (.cond 90 (.seq (.draw (.pure 0 (.pure 1 (.pure 2 (.pure 4 (.pure 5 (.pure 6 (.load 3 (.load 7 (.pure 8 (.pure 9 (.pure 10 (.pure 11 .done)))))))))))) (sel [1, 1, 1, 1, 1, 1, 0, 1, 0, 0] g_parseState_closeBlock.body)) (.leaf (sel [1, 1, 1, 1, 1, 1, 0, 1, 0, 1] g_parseState_closeBlock.body))) (.leaf (sel [1, 1, 1, 1, 1, 1, 0, 1, 1] g_parseState_closeBlock.body)))) (.leaf (sel [1, 1, 1, 1, 1, 1, 1] g_parseState_closeBlock.body)))))))))))
theorem g_parseState_closeBlock.good (R : EP) : Good P 118 (g_parseState_closeBlock.ac R) (QF P [.tmp 2] R) :=
  ⟨trivial, ⟨⟨by kernel_rfl, by kernel_rfl, fun _ _ _ h => h⟩, ⟨trivial, ⟨⟨trivial, ⟨⟨trivial, ⟨trivial, ⟨⟨trivial, ⟨trivial, cutE (by intro x0 x4 x5 ρ w; kernel_rfl)⟩⟩, trivial⟩⟩⟩, ⟨⟨⟨by kernel_rfl, by kernel_rfl, fun _ _ _ h => h⟩, ⟨⟨trivial, ⟨⟨⟨by kernel_rfl, by kernel_rfl, fun _ _ _ h => h⟩, trivial⟩, trivial⟩⟩, trivial⟩⟩, cutE (by intro x0 x4 ρ w; kernel_rfl)⟩⟩⟩, cutE (by intro x0 x3 ρ w; kernel_rfl)⟩⟩⟩⟩
theorem g_parseState_closeBlock.eq (R : EP) (x0 : OA) (w : World) : g_parseState_closeBlock R x0 w = vcA P 118 (g_parseState_closeBlock.ac R) (QF P [.tmp 2] R) (fr0 [.pointer x0]) w := by kernel_rfl
theorem g_parseState_closeBlock.sound {R : EP} {x0 : OA} {w : World} (h : g_parseState_closeBlock R x0 w) : callE P i_parseState_closeBlock #[.pointer x0] R w :=
  callE_fin (c := g_parseState_closeBlock.body) Tryz.func63 Tryz.call63 (by kernel_rfl) (by kernel_rfl) (by kernel_rfl) (by kernel_rfl) (by kernel_rfl) (g_parseState_closeBlock.good R) (g_parseState_closeBlock.eq R x0 w) h
/- 238 (*pub-paratext/pub/rscmarkdown.rootBuilder).build -/
namespace g_rootBuilder_build
noncomputable def body : Code := bodyOf Tryz.f238
end g_rootBuilder_build
def g_rootBuilder_build (R : EP) (x0 : OA) (x1 : Value) (w : World) : Prop :=
 tk w fun w1 =>
 ∃ (r2 : OA), (∀ w, (Instr.typeAssert x1 ty_buildState ty_P_parseState false).run P w = .ok (.pointer r2) w) ∧
 nilP r2 fun a3 =>
 ∃ (v4 : Option Nat), w1.cell? (a3.add 2) = some (.map v4) ∧
 enterE P (callMethod x1 "pub-paratext/pub/rscmarkdown.pos" #[]) (fun e w6 => ∃ (r5_0 : Int), ∃ (r5_1 : Int), e = .returned (.agg #[.int .i64 r5_0, .int .i64 r5_1]) ∧
 SameC w1 w6 (a3.add 2) 1 ∧
 enterE P (callMethod x1 "pub-paratext/pub/rscmarkdown.blocks" #[]) (fun e w8 => ∃ (r7q : OA), ∃ (r7n : Nat), ∃ (r7c : Nat), e = .returned (.slice r7q r7n r7c) ∧
 SameC w6 w8 (a3.add 2) 1 ∧
 box w8 #[.int .i64 r5_0, .int .i64 r5_1, .slice r7q r7n r7c, .map v4] ty_Document fun b9 w10 =>
 R (.returned (.iface ty_P_Document (.pointer (some ⟨b9, 0, none⟩)))) w10) w6) w1

noncomputable def g_rootBuilder_build.ac (R : EP) : AC :=
  (.seq (.leaf (sel [0] g_rootBuilder_build.body)) (.seq (.draw (.pure 0 (.pure 2 (.pure 4 (.pure 5 (.pure 6 (.pure 7 (.load 8 (.one 1 (.one 3 (.pure 9 (.one 10 (.pure 11 (.pure 12 .done))))))))))))) (sel [1, 0] g_rootBuilder_build.body)) (.leaf (sel [1, 1] g_rootBuilder_build.body))))
theorem g_rootBuilder_build.good (R : EP) : Good P 17 (g_rootBuilder_build.ac R) (QF P [.tmp 4] R) :=
  ⟨trivial, ⟨⟨by kernel_rfl, by kernel_rfl, fun _ _ _ h => h⟩, trivial⟩⟩
theorem g_rootBuilder_build.eq (R : EP) (x0 : OA) (x1 : Value) (w : World) : g_rootBuilder_build R x0 x1 w = vcA P 17 (g_rootBuilder_build.ac R) (QF P [.tmp 4] R) (fr0 [.pointer x0, x1]) w := by kernel_rfl
theorem g_rootBuilder_build.sound {R : EP} {x0 : OA} {x1 : Value} {w : World} (h : g_rootBuilder_build R x0 x1 w) : callE P i_rootBuilder_build #[.pointer x0, x1] R w :=
  callE_fin (c := g_rootBuilder_build.body) Tryz.func238 Tryz.call238 (by kernel_rfl) (by kernel_rfl) (by kernel_rfl) (by kernel_rfl) (by kernel_rfl) (g_rootBuilder_build.good R) (g_rootBuilder_build.eq R x0 x1 w) h
/- 279 (*pub-paratext/pub/rscmarkdown.paraBuilder).build -/
namespace g_paraBuilder_build
noncomputable def body : Code := bodyOf Tryz.f279
def k1 (R : EP) (x0 : OA) (x1 : Value) (x5 : BA) (w : World) : Prop :=
 br (x5.toList == (ByteArray.mk #[]).toList)
 (enterE P (callMethod x1 "pub-paratext/pub/rscmarkdown.pos" #[]) (fun e w18 => ∃ (r17_0 : Int), ∃ (r17_1 : Int), e = .returned (.agg #[.int .i64 r17_0, .int .i64 r17_1]) ∧
 box w18 #[.int .i64 r17_0, .int .i64 r17_1] ty_Empty fun b19 w20 =>
 R (.returned (.iface ty_P_Empty (.pointer (some ⟨b19, 0, none⟩)))) w20) w)
 (enterE P (callMethod x1 "pub-paratext/pub/rscmarkdown.pos" #[]) (fun e w22 => ∃ (r21_0 : Int), ∃ (r21_1 : Int), e = .returned (.agg #[.int .i64 r21_0, .int .i64 r21_1]) ∧
 box w22 #[.int .i64 0, .int .i64 0] ty_Position fun b23 w24 =>
 stV w24 ⟨b23, 0, none⟩ (.int .i64 r21_0) fun w25 =>
 stV w25 ⟨b23, 1, none⟩ (.int .i64 r21_1) fun w26 =>
 tk w26 fun w27 =>
 nilP x0 fun a28 =>
 ∃ (v29 : Int), w27.cell? ⟨b23, 0, none⟩ = some (.int .i64 v29) ∧
 ∃ (v30q : OA), ∃ (v30n : Nat), ∃ (v30c : Nat), w27.cell? a28 = some (.slice v30q v30n v30c) ∧
 stV w27 ⟨b23, 1, none⟩ (.int .i64 (IntKind.i64.wrap ((IntKind.i64.wrap (v29 + (v30n : Int))) - 1))) fun w31 =>
 tk w31 fun w32 =>
 ∃ (v33 : Int), w32.cell? ⟨b23, 0, none⟩ = some (.int .i64 v33) ∧
 ∃ (v34 : Int), w32.cell? ⟨b23, 1, none⟩ = some (.int .i64 v34) ∧
 ∃ (v35 : Int), w32.cell? ⟨b23, 0, none⟩ = some (.int .i64 v35) ∧
 ∃ (v36 : Int), w32.cell? ⟨b23, 1, none⟩ = some (.int .i64 v36) ∧
 enterE P (callMethod x1 "pub-paratext/pub/rscmarkdown.newText" #[.agg #[.int .i64 v35, .int .i64 v36], .string x5]) (fun e w38 => ∃ (r37 : OA), e = .returned (.pointer r37) ∧
 SameC w32 w38 ⟨b23, 0, none⟩ 2 ∧
 box w38 #[.int .i64 v33, .int .i64 v34, .pointer r37] ty_Paragraph fun b39 w40 =>
 R (.returned (.iface ty_P_Paragraph (.pointer (some ⟨b39, 0, none⟩)))) w40) w32) w)

def bl1 (R : EP) (Xa : OA → Value → BA → WP) (x0 : OA) (x1 : Value) (x5 : BA) (w : World) : Prop :=
 br (!(x5.toList == (ByteArray.mk #[]).toList))
 (callE P i_parseLinkRefDef #[x1, .string x5] (fun e w14 => ∃ (r13_0 : Int), ∃ (r13_1 : Bool), e = .returned (.tuple #[.int .i64 r13_0, .bool r13_1]) ∧
 br (!r13_1)
 (k1 R x0 x1 x5 w14)
 (callE P i_skipSpace #[.string x5, .int .i64 r13_0] (fun e w16 => ∃ (r15 : Int), e = .returned (.int .i64 r15) ∧
 0 ≤ r15 ∧ r15 ≤ (x5.size : Int) ∧
 Xa x0 x1 (x5.extract (Int.toNat r15) x5.size) w16) w14)) w)
 (k1 R x0 x1 x5 w)
def l1 (R : EP) (x0 : OA) (x1 : Value) (x5 : BA) (w : World) : Prop :=
  ∀ X : OA → Value → BA → WP, (∀ x0 x1 x5 w, bl1 R X x0 x1 x5 w → X x0 x1 x5 w) → X x0 x1 x5 w

noncomputable def al1 (R : EP) (Xa : OA → Value → BA → WP) : AC :=
  (.leaf (sel [1, 1, 1, 0, 0, 0] body))
end g_paraBuilder_build
def g_paraBuilder_build (R : EP) (x0 : OA) (x1 : Value) (w : World) : Prop :=
 nilP x0 fun a1 =>
 ∃ (v2 : OA), w.cell? (a1.add 1) = some (.pointer v2) ∧
 ∃ (r3 : Bool), ∃ w4, (do eqGuard .neq ty_P_tableBuilder (.tmp 12) (.const (.pointer none)) (.pointer v2) (.pointer none); binOp .neq ty_P_tableBuilder (.pointer v2) (.pointer none)).run P w = .ok (.bool r3) w4 ∧
 br r3
 (nilP x0 fun a5 =>
 ∃ (v6 : OA), w4.cell? (a5.add 1) = some (.pointer v6) ∧
 callE P i_tableBuilder_build #[.pointer v6, x1] (fun e w8 => ∃ (r7 : Value), e = .returned r7 ∧
 R (.returned r7) w8) w4)
 (nilP x0 fun a9 =>
 ∃ (v10q : OA), ∃ (v10n : Nat), ∃ (v10c : Nat), w4.cell? a9 = some (.slice v10q v10n v10c) ∧
 callE P i_strings_Join #[.slice v10q v10n v10c, .string (ByteArray.mk #[10])] (fun e w12 => ∃ (r11 : BA), e = .returned (.string r11) ∧
 g_paraBuilder_build.l1 R x0 x1 r11 w12) w4)

noncomputable def g_paraBuilder_build.ac (R : EP) : AC :=
  (.seq (.leaf (sel [0] g_paraBuilder_build.body)) (.seq (.leaf (sel [1, 0] g_paraBuilder_build.body)) (.seq (.leaf (sel [1, 1, 0] g_paraBuilder_build.body)) (.seq (.block 0 (.loop (leaf [(0, .s .ptr), (1, .s .any), (5, .s .str)] (g_paraBuilder_build.l1 R)) (sel [1, 1, 1, 0, 0, 0] g_paraBuilder_build.body))) (.mark (leaf [(0, .s .ptr), (1, .s .any), (5, .s .str)] (g_paraBuilder_build.k1 R)) (.seq (.leaf (sel [1, 1, 1, 1, 0] g_paraBuilder_build.body)) (.seq (.leaf (sel [1, 1, 1, 1, 1, 0] g_paraBuilder_build.body)) (.seq (.draw (.pure 0 (.pure 2 (.pure 3 (.pure 4 (.load 1 (.load 5 (.pure 6 (.pure 7 (.pure 8 (.pure 9 (.one 10 .done))))))))))) (sel [1, 1, 1, 1, 1, 1, 0] g_paraBuilder_build.body)) (.seq (.draw (.pure 1 (.pure 3 (.load 0 (.load 2 (.one 4 (.pure 5 (.one 6 (.pure 7 (.pure 8 .done))))))))) (sel [1, 1, 1, 1, 1, 1, 1, 0] g_paraBuilder_build.body)) (.leaf (sel [1, 1, 1, 1, 1, 1, 1, 1] g_paraBuilder_build.body)))))))))))
theorem g_paraBuilder_build.good (R : EP) : Good P 67 (g_paraBuilder_build.ac R) (QF P [.tmp 4] R) :=
  ⟨trivial, ⟨trivial, ⟨trivial, ⟨(loopG (g_paraBuilder_build.al1 R) (g_paraBuilder_build.bl1 R) (fun _ => by kernel_rfl) (fun Xa => trivial) (fun Xa => by intro x0 x1 x5 ρ w; kernel_rfl) (fun X h _ _ _ _ g => g X h)), ⟨⟨trivial, ⟨trivial, ⟨⟨by kernel_rfl, by kernel_rfl, fun _ _ _ h => h⟩, ⟨⟨by kernel_rfl, by kernel_rfl, fun _ _ _ h => h⟩, trivial⟩⟩⟩⟩, cutE (by intro x0 x1 x5 ρ w; kernel_rfl)⟩⟩⟩⟩⟩
theorem g_paraBuilder_build.eq (R : EP) (x0 : OA) (x1 : Value) (w : World) : g_paraBuilder_build R x0 x1 w = vcA P 67 (g_paraBuilder_build.ac R) (QF P [.tmp 4] R) (fr0 [.pointer x0, x1]) w := by kernel_rfl
theorem g_paraBuilder_build.sound {R : EP} {x0 : OA} {x1 : Value} {w : World} (h : g_paraBuilder_build R x0 x1 w) : callE P i_paraBuilder_build #[.pointer x0, x1] R w :=
  callE_fin (c := g_paraBuilder_build.body) Tryz.func279 Tryz.call279 (by kernel_rfl) (by kernel_rfl) (by kernel_rfl) (by kernel_rfl) (by kernel_rfl) (g_paraBuilder_build.good R) (g_paraBuilder_build.eq R x0 x1 w) h
/- 132 (*pub-paratext/pub/rscmarkdown.parseState).newText -/
namespace g_parseState_newText
noncomputable def body : Code := bodyOf Tryz.f132
end g_parseState_newText
def g_parseState_newText (R : EP) (x0 : OA) (x1_0 : Int) (x1_1 : Int) (x2 : BA) (w : World) : Prop :=
 box w #[.int .i64 x1_0, .int .i64 x1_1] ty_Position fun b1 w2 =>
 ∃ (v3 : Int), w2.cell? ⟨b1, 0, none⟩ = some (.int .i64 v3) ∧
 ∃ (v4 : Int), w2.cell? ⟨b1, 1, none⟩ = some (.int .i64 v4) ∧
 box w2 #[.int .i64 v3, .int .i64 v4, .slice none 0 0, .string x2] ty_Text fun b5 w6 =>
 nilP x0 fun a7 =>
 ∃ (v8q : OA), ∃ (v8n : Nat), ∃ (v8c : Nat), w6.cell? (a7.add 11) = some (.slice v8q v8n v8c) ∧
 ∃ (r9q : OA), ∃ (r9n : Nat), ∃ (r9c : Nat), ∃ w10, (Instr.buildSlice ty_S_P_Text 1 #[(0, .pointer (some ⟨b5, 0, none⟩))]).run P w6 = .ok (.slice r9q r9n r9c) w10 ∧
 ∃ (r11q : OA), ∃ (r11n : Nat), ∃ (r11c : Nat), ∃ w12, (Builtin.append_ #[ty_S_P_Text, ty_S_P_Text] ty_S_P_Text #[.slice v8q v8n v8c, .slice r9q r9n r9c]).run P w10 = .ok (.slice r11q r11n r11c) w12 ∧
 nilP x0 fun a13 =>
 stV w12 ((a13.add 11).add 0) (.slice r11q r11n r11c) fun w14 =>
 R (.returned (.pointer (some ⟨b5, 0, none⟩))) w14

noncomputable def g_parseState_newText.ac (R : EP) : AC :=
  (.leaf (sel [] g_parseState_newText.body))
theorem g_parseState_newText.good (R : EP) : Good P 23 (g_parseState_newText.ac R) (QF P [.tmp 6] R) :=
  trivial
theorem g_parseState_newText.eq (R : EP) (x0 : OA) (x1_0 : Int) (x1_1 : Int) (x2 : BA) (w : World) : g_parseState_newText R x0 x1_0 x1_1 x2 w = vcA P 23 (g_parseState_newText.ac R) (QF P [.tmp 6] R) (fr0 [.pointer x0, .agg #[.int .i64 x1_0, .int .i64 x1_1], .string x2]) w := by kernel_rfl
theorem g_parseState_newText.sound {R : EP} {x0 : OA} {x1_0 : Int} {x1_1 : Int} {x2 : ByteArray} {w : World} (h : g_parseState_newText R x0 x1_0 x1_1 x2 w) : callE P i_parseState_newText #[.pointer x0, .agg #[.int .i64 x1_0, .int .i64 x1_1], .string x2] R w :=
  callE_fin (c := g_parseState_newText.body) Tryz.func132 Tryz.call132 (by kernel_rfl) (by kernel_rfl) (by kernel_rfl) (by kernel_rfl) (by kernel_rfl) (g_parseState_newText.good R) (g_parseState_newText.eq R x0 x1_0 x1_1 x2 w) h
/- 251 (*pub-paratext/pub/rscmarkdown.parseState).pos -/
namespace g_parseState_pos
noncomputable def body : Code := bodyOf Tryz.f251
end g_parseState_pos
def g_parseState_pos (R : EP) (x0 : OA) (w : World) : Prop :=
 box w #[.int .i64 0, .int .i64 0] ty_Position fun b1 w2 =>
 tk w2 fun w3 =>
 nilP x0 fun a4 =>
 nilP x0 fun a5 =>
 ∃ (v6q : OA), ∃ (v6n : Nat), ∃ (v6c : Nat), w3.cell? (a4.add 4) = some (.slice v6q v6n v6c) ∧
 ∃ (v7q : OA), ∃ (v7n : Nat), ∃ (v7c : Nat), w3.cell? (a5.add 4) = some (.slice v7q v7n v7c) ∧
 0 ≤ (IntKind.i64.wrap ((v7n : Int) - 1)) ∧ (IntKind.i64.wrap ((v7n : Int) - 1)) < (v6n : Int) ∧
 nilP v6q fun a8 =>
 ∃ (v9 : Int), w3.cell? (((a8.add (Int.toNat (IntKind.i64.wrap ((v7n : Int) - 1)) * 4)).add 2).add 0) = some (.int .i64 v9) ∧
 ∃ (v10 : Int), w3.cell? (((a8.add (Int.toNat (IntKind.i64.wrap ((v7n : Int) - 1)) * 4)).add 2).add 1) = some (.int .i64 v10) ∧
 stV w3 ⟨b1, 0, none⟩ (.int .i64 v9) fun w11 =>
 stV w11 ⟨b1, 1, none⟩ (.int .i64 v10) fun w12 =>
 ∃ (v13 : Int), w12.cell? ⟨b1, 0, none⟩ = some (.int .i64 v13) ∧
 ∃ (v14 : Int), w12.cell? ⟨b1, 1, none⟩ = some (.int .i64 v14) ∧
 R (.returned (.agg #[.int .i64 v13, .int .i64 v14])) w12

noncomputable def g_parseState_pos.ac (R : EP) : AC :=
  (.seq (.leaf (sel [0] g_parseState_pos.body)) (.seq (.draw (.pure 0 (.pure 1 (.pure 2 (.pure 4 (.pure 5 (.pure 6 (.load 3 (.load 7 (.pure 8 (.pure 9 (.pure 10 (.pure 11 .done)))))))))))) (sel [1, 0] g_parseState_pos.body)) (.leaf (sel [1, 1] g_parseState_pos.body))))
theorem g_parseState_pos.good (R : EP) : Good P 19 (g_parseState_pos.ac R) (QF P [.cell 2 109] R) :=
  ⟨trivial, ⟨⟨by kernel_rfl, by kernel_rfl, fun _ _ _ h => h⟩, trivial⟩⟩
theorem g_parseState_pos.eq (R : EP) (x0 : OA) (w : World) : g_parseState_pos R x0 w = vcA P 19 (g_parseState_pos.ac R) (QF P [.cell 2 109] R) (fr0 [.pointer x0]) w := by kernel_rfl
theorem g_parseState_pos.sound {R : EP} {x0 : OA} {w : World} (h : g_parseState_pos R x0 w) : callE P i_parseState_pos #[.pointer x0] R w :=
  callE_fin (c := g_parseState_pos.body) Tryz.func251 Tryz.call251 (by kernel_rfl) (by kernel_rfl) (by kernel_rfl) (by kernel_rfl) (by kernel_rfl) (g_parseState_pos.good R) (g_parseState_pos.eq R x0 w) h
/- 117 pub-paratext/pub/rscmarkdown.parseLinkLabel -/
namespace g_parseLinkLabel
noncomputable def body : Code := bodyOf Tryz.f117
def bl1 (R : EP) (Xa : OA → BA → Int → Int → WP) (x0 : OA) (x1 : BA) (x2 : Int) (x9 : Int) (w : World) : Prop :=
 br (decide (x9 < (x1.size : Int)))
 (0 ≤ x9 ∧ x9 < (x1.size : Int) ∧
 br ((bt x1 x9) == 93)
 (br (decide ((IntKind.i64.wrap (x9 - (IntKind.i64.wrap (x2 + 1)))) > 999))
 (nilP x0 fun a1 =>
 stV w ((a1.add 6).add 0) (.bool true) fun w2 =>
 R (.returned (.tuple #[.string (ByteArray.mk #[]), .int .i64 0, .bool false])) w2)
 (0 ≤ (IntKind.i64.wrap (x2 + 1)) ∧ (IntKind.i64.wrap (x2 + 1)) ≤ x9 ∧ x9 ≤ (x1.size : Int) ∧
 callE P i_trimSpaceTabNewline #[.string (x1.extract (Int.toNat (IntKind.i64.wrap (x2 + 1))) (Int.toNat x9))] (fun e w4 => ∃ (r3 : BA), e = .returned (.string r3) ∧
 br (!(r3.toList == (ByteArray.mk #[]).toList))
 (R (.returned (.tuple #[.string r3, .int .i64 (IntKind.i64.wrap (x9 + 1)), .bool true])) w4)
 (R (.returned (.tuple #[.string (ByteArray.mk #[]), .int .i64 0, .bool false])) w4)) w))
 (0 ≤ x9 ∧ x9 < (x1.size : Int) ∧
 br ((bt x1 x9) == 91)
 (R (.returned (.tuple #[.string (ByteArray.mk #[]), .int .i64 0, .bool false])) w)
 (0 ≤ x9 ∧ x9 < (x1.size : Int) ∧
 br (((bt x1 x9) == 92) && (decide ((IntKind.i64.wrap (x9 + 1)) < (x1.size : Int))))
 (Xa x0 x1 x2 (IntKind.i64.wrap ((IntKind.i64.wrap (x9 + 1)) + 1)) w)
 (Xa x0 x1 x2 (IntKind.i64.wrap (x9 + 1)) w))))
 (R (.returned (.tuple #[.string (ByteArray.mk #[]), .int .i64 0, .bool false])) w)
def l1 (R : EP) (x0 : OA) (x1 : BA) (x2 : Int) (x9 : Int) (w : World) : Prop :=
  ∀ X : OA → BA → Int → Int → WP, (∀ x0 x1 x2 x9 w, bl1 R X x0 x1 x2 x9 w → X x0 x1 x2 x9 w) → X x0 x1 x2 x9 w

noncomputable def al1 (R : EP) (Xa : OA → BA → Int → Int → WP) : AC :=
  (.leaf (sel [1, 1, 1, 0, 0, 0] body))
def k1 (R : EP) (x0 : OA) (x1 : BA) (x2 : Int) (w : World) : Prop :=
 l1 R x0 x1 x2 (IntKind.i64.wrap (x2 + 1)) w

end g_parseLinkLabel
def g_parseLinkLabel (R : EP) (x0 : OA) (x1 : BA) (x2 : Int) (w : World) : Prop :=
 ((!(decide (x2 ≥ (x1.size : Int)))) = true → 0 ≤ x2 ∧ x2 < (x1.size : Int)) ∧
 br ((decide (x2 ≥ (x1.size : Int))) || ((bt x1 x2) != 91))
 (R (.returned (.tuple #[.string (ByteArray.mk #[]), .int .i64 0, .bool false])) w)
 (g_parseLinkLabel.k1 R x0 x1 x2 w)

noncomputable def g_parseLinkLabel.ac (R : EP) : AC :=
  (.seq (.leaf (sel [0] g_parseLinkLabel.body)) (.seq (.leaf (sel [1, 0] g_parseLinkLabel.body)) (.mark (leaf [(0, .s .ptr), (1, .s .str), (2, .s (.int .i64))] (g_parseLinkLabel.k1 R)) (.seq (.leaf (sel [1, 1, 0] g_parseLinkLabel.body)) (.seq (.block 0 (.loop (leaf [(0, .s .ptr), (1, .s .str), (2, .s (.int .i64)), (9, .s (.int .i64))] (g_parseLinkLabel.l1 R)) (sel [1, 1, 1, 0, 0, 0] g_parseLinkLabel.body))) (.leaf (sel [1, 1, 1, 1] g_parseLinkLabel.body)))))))
theorem g_parseLinkLabel.good (R : EP) : Good P 69 (g_parseLinkLabel.ac R) (QF P [.tmp 6, .tmp 7, .tmp 8] R) :=
  ⟨trivial, ⟨trivial, ⟨⟨trivial, ⟨(loopG (g_parseLinkLabel.al1 R) (g_parseLinkLabel.bl1 R) (fun _ => by kernel_rfl) (fun Xa => trivial) (fun Xa => by intro x0 x1 x2 x9 ρ w; kernel_rfl) (fun X h _ _ _ _ _ g => g X h)), trivial⟩⟩, cutE (by intro x0 x1 x2 ρ w; kernel_rfl)⟩⟩⟩
theorem g_parseLinkLabel.eq (R : EP) (x0 : OA) (x1 : BA) (x2 : Int) (w : World) : g_parseLinkLabel R x0 x1 x2 w = vcA P 69 (g_parseLinkLabel.ac R) (QF P [.tmp 6, .tmp 7, .tmp 8] R) (fr0 [.pointer x0, .string x1, .int .i64 x2]) w := by kernel_rfl
theorem g_parseLinkLabel.sound {R : EP} {x0 : OA} {x1 : ByteArray} {x2 : Int} {w : World} (h : g_parseLinkLabel R x0 x1 x2 w) : callE P i_parseLinkLabel #[.pointer x0, .string x1, .int .i64 x2] R w :=
  callE_fin (c := g_parseLinkLabel.body) Tryz.func117 Tryz.call117 (by kernel_rfl) (by kernel_rfl) (by kernel_rfl) (by kernel_rfl) (by kernel_rfl) (g_parseLinkLabel.good R) (g_parseLinkLabel.eq R x0 x1 x2 w) h
/- 282 pub-paratext/pub/rscmarkdown.parseLinkRefDef -/
namespace g_parseLinkRefDef
noncomputable def body : Code := bodyOf Tryz.f282
def k2 (R : EP) (x0 : Value) (x67 : Bool) (w : World) : Prop :=
 br x67
 (∃ (r11 : OA), ∃ w12, (Instr.typeAssert x0 ty_buildState ty_P_parseState false).run P w = .ok (.pointer r11) w12 ∧
 nilP r11 fun a13 =>
 stV w12 ((a13.add 6).add 0) (.bool true) fun w14 =>
 R (.returned (.tuple #[.int .i64 0, .bool false])) w14)
 (R (.returned (.tuple #[.int .i64 0, .bool false])) w)

def k3 (R : EP) (Xa : Value → BA → Int → BA → BA → Bool → WP) (x0 : Value) (x1 : BA) (x6 : Int) (x7 : BA) (x10 : BA) (w : World) : Prop :=
 Xa x0 x1 (IntKind.i64.wrap (x6 + 1)) x7 x10 true w

def k10 (R : EP) (x0 : Value) (x6 : Int) (x7 : BA) (x10 : BA) (x13 : BA) (x14 : Int) (x15 : Bool) (w : World) : Prop :=
 callE P i_normalizeLabel #[.string x7] (fun e w18 => ∃ (r17 : BA), e = .returned (.string r17) ∧
 enterE P (callMethod x0 "pub-paratext/pub/rscmarkdown.link" #[.string r17]) (fun e w20 => ∃ (r19 : OA), e = .returned (.pointer r19) ∧
 ∃ (r21 : Bool), ∃ w22, (do eqGuard .eql ty_P_Link (.tmp 188) (.const (.pointer none)) (.pointer r19) (.pointer none); binOp .eql ty_P_Link (.pointer r19) (.pointer none)).run P w20 = .ok (.bool r21) w22 ∧
 br r21
 (box w22 #[.slice none 0 0, .string x10, .string x13, .int .u8 x14, .bool x15] ty_Link fun b23 w24 =>
 enterE P (callMethod x0 "pub-paratext/pub/rscmarkdown.defineLink" #[.string r17, .pointer (some ⟨b23, 0, none⟩)]) (fun e w26 => e = .returned (.tuple #[]) ∧
 R (.returned (.tuple #[.int .i64 x6, .bool true])) w26) w24)
 (R (.returned (.tuple #[.int .i64 x6, .bool true])) w22)) w18) w

def k9 (R : EP) (x0 : Value) (x1 : BA) (x6 : Int) (x7 : BA) (x10 : BA) (x13 : BA) (x14 : Int) (x15 : Bool) (w : World) : Prop :=
 br (decide (x6 < (x1.size : Int)))
 (k10 R x0 (IntKind.i64.wrap (x6 + 1)) x7 x10 x13 x14 x15 w)
 (k10 R x0 x6 x7 x10 x13 x14 x15 w)

def k7 (R : EP) (x0 : Value) (x1 : BA) (x6 : Int) (x7 : BA) (x10 : BA) (x13 : BA) (x14 : Int) (x15 : Bool) (w : World) : Prop :=
 ((decide (x6 < (x1.size : Int))) = true → 0 ≤ x6 ∧ x6 < (x1.size : Int)) ∧
 br ((decide (x6 < (x1.size : Int))) && ((bt x1 x6) != 10))
 (R (.returned (.tuple #[.int .i64 0, .bool false])) w)
 (k9 R x0 x1 x6 x7 x10 x13 x14 x15 w)

def k13 (R : EP) (x0 : Value) (x1 : BA) (x6 : Int) (x7 : BA) (x10 : BA) (x15 : Bool) (x16 : BA) (x17 : Int) (w : World) : Prop :=
 k7 R x0 x1 x6 x7 x10 x16 x17 x15 w

def k12 (R : EP) (x0 : Value) (x1 : BA) (x6 : Int) (x7 : BA) (x10 : BA) (x13 : BA) (x14 : Int) (x15 : Bool) (x16 : BA) (x17 : Int) (x18 : Int) (x162 : Bool) (w : World) : Prop :=
 br x162
 (br (x16.toList == (ByteArray.mk #[]).toList)
 (k13 R x0 x1 x18 x7 x10 true x16 x17 w)
 (k13 R x0 x1 x18 x7 x10 x15 x16 x17 w))
 (k7 R x0 x1 x6 x7 x10 x13 x14 x15 w)

def k11 (R : EP) (x0 : Value) (x1 : BA) (x6 : Int) (x7 : BA) (x10 : BA) (x13 : BA) (x14 : Int) (x15 : Bool) (x16 : BA) (x17 : Int) (x18 : Int) (w : World) : Prop :=
 ((!(decide (x18 ≥ (x1.size : Int)))) = true → 0 ≤ x18 ∧ x18 < (x1.size : Int)) ∧
 k12 R x0 x1 x6 x7 x10 x13 x14 x15 x16 x17 x18 ((decide (x18 ≥ (x1.size : Int))) || ((bt x1 x18) == 10)) w

def bl3 (R : EP) (Xb : Value → BA → Int → BA → BA → BA → Int → Bool → BA → Int → Int → WP) (x0 : Value) (x1 : BA) (x6 : Int) (x7 : BA) (x10 : BA) (x13 : BA) (x14 : Int) (x15 : Bool) (x16 : BA) (x17 : Int) (x18 : Int) (w : World) : Prop :=
 ((decide (x18 < (x1.size : Int))) = true → 0 ≤ x18 ∧ x18 < (x1.size : Int)) ∧
 (((decide (x18 < (x1.size : Int))) && (!((bt x1 x18) == 32))) = true → 0 ≤ x18 ∧ x18 < (x1.size : Int)) ∧
 br ((decide (x18 < (x1.size : Int))) && (((bt x1 x18) == 32) || ((bt x1 x18) == 9)))
 (Xb x0 x1 x6 x7 x10 x13 x14 x15 x16 x17 (IntKind.i64.wrap (x18 + 1)) w)
 (k11 R x0 x1 x6 x7 x10 x13 x14 x15 x16 x17 x18 w)
def l3 (R : EP) (x0 : Value) (x1 : BA) (x6 : Int) (x7 : BA) (x10 : BA) (x13 : BA) (x14 : Int) (x15 : Bool) (x16 : BA) (x17 : Int) (x18 : Int) (w : World) : Prop :=
  ∀ X : Value → BA → Int → BA → BA → BA → Int → Bool → BA → Int → Int → WP, (∀ x0 x1 x6 x7 x10 x13 x14 x15 x16 x17 x18 w, bl3 R X x0 x1 x6 x7 x10 x13 x14 x15 x16 x17 x18 w → X x0 x1 x6 x7 x10 x13 x14 x15 x16 x17 x18 w) → X x0 x1 x6 x7 x10 x13 x14 x15 x16 x17 x18 w

noncomputable def al3 (R : EP) (Xb : Value → BA → Int → BA → BA → BA → Int → Bool → BA → Int → Int → WP) : AC :=
  (.leaf (sel [1, 1, 1, 1, 1, 1, 1, 1, 1, 1, 1, 1, 1, 1, 1, 0, 1, 0, 1, 1, 1, 0, 0, 0, 0] body))
def k8 (R : EP) (x0 : Value) (x1 : BA) (x6 : Int) (x7 : BA) (x10 : BA) (x12 : Int) (x13 : BA) (x14 : Int) (x15 : Bool) (w : World) : Prop :=
 callE P i_parseLinkTitle #[.string x1, .int .i64 x12] (fun e w16 => ∃ (r15_0 : BA), ∃ (r15_1 : Int), ∃ (r15_2 : Int), ∃ (r15_3 : Bool), e = .returned (.tuple #[.string r15_0, .int .u8 r15_1, .int .i64 r15_2, .bool r15_3]) ∧
 br r15_3
 (l3 R x0 x1 x6 x7 x10 x13 x14 x15 r15_0 r15_1 r15_2 w16)
 (k7 R x0 x1 x6 x7 x10 x13 x14 x15 w16)) w

def bl2 (R : EP) (Xc : Value → BA → Int → BA → BA → Int → BA → Int → Bool → WP) (x0 : Value) (x1 : BA) (x6 : Int) (x7 : BA) (x10 : BA) (x12 : Int) (x13 : BA) (x14 : Int) (x15 : Bool) (w : World) : Prop :=
 ((decide (x12 < (x1.size : Int))) = true → 0 ≤ x12 ∧ x12 < (x1.size : Int)) ∧
 (((decide (x12 < (x1.size : Int))) && (!((bt x1 x12) == 32))) = true → 0 ≤ x12 ∧ x12 < (x1.size : Int)) ∧
 br ((decide (x12 < (x1.size : Int))) && (((bt x1 x12) == 32) || ((bt x1 x12) == 9)))
 (Xc x0 x1 x6 x7 x10 (IntKind.i64.wrap (x12 + 1)) x13 x14 x15 w)
 (k8 R x0 x1 x6 x7 x10 x12 x13 x14 x15 w)
def l2 (R : EP) (x0 : Value) (x1 : BA) (x6 : Int) (x7 : BA) (x10 : BA) (x12 : Int) (x13 : BA) (x14 : Int) (x15 : Bool) (w : World) : Prop :=
  ∀ X : Value → BA → Int → BA → BA → Int → BA → Int → Bool → WP, (∀ x0 x1 x6 x7 x10 x12 x13 x14 x15 w, bl2 R X x0 x1 x6 x7 x10 x12 x13 x14 x15 w → X x0 x1 x6 x7 x10 x12 x13 x14 x15 w) → X x0 x1 x6 x7 x10 x12 x13 x14 x15 w

noncomputable def al2 (R : EP) (Xc : Value → BA → Int → BA → BA → Int → BA → Int → Bool → WP) : AC :=
  (.leaf (sel [1, 1, 1, 1, 1, 1, 1, 1, 1, 1, 1, 1, 1, 1, 1, 0, 1, 0, 0, 0, 0] body))
def k6 (R : EP) (x0 : Value) (x1 : BA) (x6 : Int) (x7 : BA) (x10 : BA) (x11 : Bool) (x12 : Int) (w : World) : Prop :=
 br x11
 (l2 R x0 x1 x6 x7 x10 x12 (ByteArray.mk #[]) 0 false w)
 (k7 R x0 x1 x6 x7 x10 (ByteArray.mk #[]) 0 false w)

def k5 (R : EP) (x0 : Value) (x1 : BA) (x6 : Int) (x7 : BA) (x10 : BA) (x11 : Bool) (x12 : Int) (x100 : Bool) (w : World) : Prop :=
 br x100
 (br (decide (x12 < (x1.size : Int)))
 (k6 R x0 x1 x6 x7 x10 true (IntKind.i64.wrap (x12 + 1)) w)
 (k6 R x0 x1 x6 x7 x10 true x12 w))
 (k6 R x0 x1 x6 x7 x10 x11 x12 w)

def k4 (R : EP) (x0 : Value) (x1 : BA) (x6 : Int) (x7 : BA) (x10 : BA) (x11 : Bool) (w : World) : Prop :=
 ((!(decide (x6 ≥ (x1.size : Int)))) = true → 0 ≤ x6 ∧ x6 < (x1.size : Int)) ∧
 k5 R x0 x1 x6 x7 x10 x11 x6 ((decide (x6 ≥ (x1.size : Int))) || ((bt x1 x6) == 10)) w

def bl1 (R : EP) (Xa : Value → BA → Int → BA → BA → Bool → WP) (x0 : Value) (x1 : BA) (x6 : Int) (x7 : BA) (x10 : BA) (x11 : Bool) (w : World) : Prop :=
 ((decide (x6 < (x1.size : Int))) = true → 0 ≤ x6 ∧ x6 < (x1.size : Int)) ∧
 (((decide (x6 < (x1.size : Int))) && (!((bt x1 x6) == 32))) = true → 0 ≤ x6 ∧ x6 < (x1.size : Int)) ∧
 br ((decide (x6 < (x1.size : Int))) && (((bt x1 x6) == 32) || ((bt x1 x6) == 9)))
 (k3 R Xa x0 x1 x6 x7 x10 w)
 (k4 R x0 x1 x6 x7 x10 x11 w)
def l1 (R : EP) (x0 : Value) (x1 : BA) (x6 : Int) (x7 : BA) (x10 : BA) (x11 : Bool) (w : World) : Prop :=
  ∀ X : Value → BA → Int → BA → BA → Bool → WP, (∀ x0 x1 x6 x7 x10 x11 w, bl1 R X x0 x1 x6 x7 x10 x11 w → X x0 x1 x6 x7 x10 x11 w) → X x0 x1 x6 x7 x10 x11 w

noncomputable def al1 (R : EP) (Xa : Value → BA → Int → BA → BA → Bool → WP) : AC :=
  (.seq (.leaf (sel [1, 1, 1, 1, 1, 1, 1, 1, 1, 0, 0, 0, 0] body)) (.mark (leaf [(0, .s .any), (1, .s .str), (6, .s (.int .i64)), (7, .s .str), (10, .s .str)] (k3 R Xa)) (.leaf (sel [1, 1, 1, 1, 1, 1, 1, 1, 1, 0, 0, 0, 1] body))))
def k1 (R : EP) (x0 : Value) (x1 : BA) (x6 : Int) (x7 : BA) (w : World) : Prop :=
 callE P i_skipSpace #[.string x1, .int .i64 (IntKind.i64.wrap (x6 + 1))] (fun e w8 => ∃ (r7 : Int), e = .returned (.int .i64 r7) ∧
 0 ≤ r7 ∧ r7 ≤ (x1.size : Int) ∧
 callE P i_parseLinkDest #[.string x1, .int .i64 r7] (fun e w10 => ∃ (r9_0 : BA), ∃ (r9_1 : Int), ∃ (r9_2 : Bool), e = .returned (.tuple #[.string r9_0, .int .i64 r9_1, .bool r9_2]) ∧
 br (!r9_2)
 (((!((x1.extract (Int.toNat r7) x1.size).toList == (ByteArray.mk #[]).toList)) = true → 0 ≤ (0 : Int) ∧ 0 < ((x1.extract (Int.toNat r7) x1.size).size : Int)) ∧
 k2 R x0 ((!((x1.extract (Int.toNat r7) x1.size).toList == (ByteArray.mk #[]).toList)) && ((bt (x1.extract (Int.toNat r7) x1.size) 0) == 60)) w10)
 (l1 R x0 x1 r9_1 x7 r9_0 false w10)) w8) w

end g_parseLinkRefDef
def g_parseLinkRefDef (R : EP) (x0 : Value) (x1 : BA) (w : World) : Prop :=
 callE P i_skipSpace #[.string x1, .int .i64 0] (fun e w2 => ∃ (r1 : Int), e = .returned (.int .i64 r1) ∧
 ∃ (r3 : OA), ∃ w4, (Instr.typeAssert x0 ty_buildState ty_P_parseState false).run P w2 = .ok (.pointer r3) w4 ∧
 callE P i_parseLinkLabel #[.pointer r3, .string x1, .int .i64 r1] (fun e w6 => ∃ (r5_0 : BA), ∃ (r5_1 : Int), ∃ (r5_2 : Bool), e = .returned (.tuple #[.string r5_0, .int .i64 r5_1, .bool r5_2]) ∧
 ((!((!r5_2) || (decide (r5_1 ≥ (x1.size : Int))))) = true → 0 ≤ r5_1 ∧ r5_1 < (x1.size : Int)) ∧
 br (((!r5_2) || (decide (r5_1 ≥ (x1.size : Int)))) || ((bt x1 r5_1) != 58))
 (R (.returned (.tuple #[.int .i64 0, .bool false])) w6)
 (g_parseLinkRefDef.k1 R x0 x1 r5_1 r5_0 w6)) w4) w

noncomputable def g_parseLinkRefDef.ac (R : EP) : AC :=
  (.seq (.leaf (sel [0] g_parseLinkRefDef.body)) (.seq (.leaf (sel [1, 0] g_parseLinkRefDef.body)) (.seq (.leaf (sel [1, 1, 0] g_parseLinkRefDef.body)) (.seq (.leaf (sel [1, 1, 1, 0] g_parseLinkRefDef.body)) (.mark (leaf [(0, .s .any), (1, .s .str), (6, .s (.int .i64)), (7, .s .str)] (g_parseLinkRefDef.k1 R)) (.seq (.leaf (sel [1, 1, 1, 1, 0] g_parseLinkRefDef.body)) (.seq (.leaf (sel [1, 1, 1, 1, 1, 0] g_parseLinkRefDef.body)) (.seq (.leaf (sel [1, 1, 1, 1, 1, 1, 0] g_parseLinkRefDef.body)) (.seq (.seq (.leaf (sel [1, 1, 1, 1, 1, 1, 1, 0, 0] g_parseLinkRefDef.body)) (.cond 60 (.seq (.seq (.leaf (sel [1, 1, 1, 1, 1, 1, 1, 0, 1, 0, 0, 0] g_parseLinkRefDef.body)) (.mark (leaf [(0, .s .any), (67, .s .bool)] (g_parseLinkRefDef.k2 R)) (.leaf (sel [1, 1, 1, 1, 1, 1, 1, 0, 1, 0, 0, 1] g_parseLinkRefDef.body)))) (.leaf (sel [1, 1, 1, 1, 1, 1, 1, 0, 1, 0, 1] g_parseLinkRefDef.body))) (.leaf (sel [1, 1, 1, 1, 1, 1, 1, 0, 1, 1] g_parseLinkRefDef.body)))) (.seq (.leaf (sel [1, 1, 1, 1, 1, 1, 1, 1, 0] g_parseLinkRefDef.body)) (.seq (.block 0 (.loop (leaf [(0, .s .any), (1, .s .str), (6, .s (.int .i64)), (7, .s .str), (10, .s .str), (11, .s .bool)] (g_parseLinkRefDef.l1 R)) (sel [1, 1, 1, 1, 1, 1, 1, 1, 1, 0, 0, 0] g_parseLinkRefDef.body))) (.mark (leaf [(0, .s .any), (1, .s .str), (6, .s (.int .i64)), (7, .s .str), (10, .s .str), (11, .s .bool)] (g_parseLinkRefDef.k4 R)) (.seq (.leaf (sel [1, 1, 1, 1, 1, 1, 1, 1, 1, 1, 0] g_parseLinkRefDef.body)) (.seq (.seq (.leaf (sel [1, 1, 1, 1, 1, 1, 1, 1, 1, 1, 1, 0, 0] g_parseLinkRefDef.body)) (.mark (leaf [(0, .s .any), (1, .s .str), (6, .s (.int .i64)), (7, .s .str), (10, .s .str), (11, .s .bool), (12, .s (.int .i64)), (100, .s .bool)] (g_parseLinkRefDef.k5 R)) (.leaf (sel [1, 1, 1, 1, 1, 1, 1, 1, 1, 1, 1, 0, 1] g_parseLinkRefDef.body)))) (.mark (leaf [(0, .s .any), (1, .s .str), (6, .s (.int .i64)), (7, .s .str), (10, .s .str), (11, .s .bool), (12, .s (.int .i64))] (g_parseLinkRefDef.k6 R)) (.seq (.leaf (sel [1, 1, 1, 1, 1, 1, 1, 1, 1, 1, 1, 1, 0] g_parseLinkRefDef.body)) (.seq (.leaf (sel [1, 1, 1, 1, 1, 1, 1, 1, 1, 1, 1, 1, 1, 0] g_parseLinkRefDef.body)) (.seq (.leaf (sel [1, 1, 1, 1, 1, 1, 1, 1, 1, 1, 1, 1, 1, 1, 0] g_parseLinkRefDef.body)) (.seq (.seq (.leaf (sel [1, 1, 1, 1, 1, 1, 1, 1, 1, 1, 1, 1, 1, 1, 1, 0, 0] g_parseLinkRefDef.body)) (.cond 107 (.seq (.block 2 (.loop (leaf [(0, .s .any), (1, .s .str), (6, .s (.int .i64)), (7, .s .str), (10, .s .str), (12, .s (.int .i64)), (13, .s .str), (14, .s (.int .u8)), (15, .s .bool)] (g_parseLinkRefDef.l2 R)) (sel [1, 1, 1, 1, 1, 1, 1, 1, 1, 1, 1, 1, 1, 1, 1, 0, 1, 0, 0, 0, 0] g_parseLinkRefDef.body))) (.mark (leaf [(0, .s .any), (1, .s .str), (6, .s (.int .i64)), (7, .s .str), (10, .s .str), (12, .s (.int .i64)), (13, .s .str), (14, .s (.int .u8)), (15, .s .bool)] (g_parseLinkRefDef.k8 R)) (.seq (.leaf (sel [1, 1, 1, 1, 1, 1, 1, 1, 1, 1, 1, 1, 1, 1, 1, 0, 1, 0, 1, 0] g_parseLinkRefDef.body)) (.seq (.leaf (sel [1, 1, 1, 1, 1, 1, 1, 1, 1, 1, 1, 1, 1, 1, 1, 0, 1, 0, 1, 1, 0] g_parseLinkRefDef.body)) (.cond 134 (.seq (.block 4 (.loop (leaf [(0, .s .any), (1, .s .str), (6, .s (.int .i64)), (7, .s .str), (10, .s .str), (13, .s .str), (14, .s (.int .u8)), (15, .s .bool), (16, .s .str), (17, .s (.int .u8)), (18, .s (.int .i64))] (g_parseLinkRefDef.l3 R)) (sel [1, 1, 1, 1, 1, 1, 1, 1, 1, 1, 1, 1, 1, 1, 1, 0, 1, 0, 1, 1, 1, 0, 0, 0, 0] g_parseLinkRefDef.body))) (.mark (leaf [(0, .s .any), (1, .s .str), (6, .s (.int .i64)), (7, .s .str), (10, .s .str), (13, .s .str), (14, .s (.int .u8)), (15, .s .bool), (16, .s .str), (17, .s (.int .u8)), (18, .s (.int .i64))] (g_parseLinkRefDef.k11 R)) (.seq (.leaf (sel [1, 1, 1, 1, 1, 1, 1, 1, 1, 1, 1, 1, 1, 1, 1, 0, 1, 0, 1, 1, 1, 0, 1, 0] g_parseLinkRefDef.body)) (.mark (leaf [(0, .s .any), (1, .s .str), (6, .s (.int .i64)), (7, .s .str), (10, .s .str), (13, .s .str), (14, .s (.int .u8)), (15, .s .bool), (16, .s .str), (17, .s (.int .u8)), (18, .s (.int .i64)), (162, .s .bool)] (g_parseLinkRefDef.k12 R)) (.cond 162 (.seq (.leaf (sel [1, 1, 1, 1, 1, 1, 1, 1, 1, 1, 1, 1, 1, 1, 1, 0, 1, 0, 1, 1, 1, 0, 1, 1, 0, 0] g_parseLinkRefDef.body)) (.seq (.leaf (sel [1, 1, 1, 1, 1, 1, 1, 1, 1, 1, 1, 1, 1, 1, 1, 0, 1, 0, 1, 1, 1, 0, 1, 1, 0, 1, 0] g_parseLinkRefDef.body)) (.mark (leaf [(0, .s .any), (1, .s .str), (6, .s (.int .i64)), (7, .s .str), (10, .s .str), (15, .s .bool), (16, .s .str), (17, .s (.int .u8))] (g_parseLinkRefDef.k13 R)) (.leaf (sel [1, 1, 1, 1, 1, 1, 1, 1, 1, 1, 1, 1, 1, 1, 1, 0, 1, 0, 1, 1, 1, 0, 1, 1, 0, 1, 1] g_parseLinkRefDef.body))))) (.leaf (sel [1, 1, 1, 1, 1, 1, 1, 1, 1, 1, 1, 1, 1, 1, 1, 0, 1, 0, 1, 1, 1, 0, 1, 1, 1] g_parseLinkRefDef.body))))))) (.leaf (sel [1, 1, 1, 1, 1, 1, 1, 1, 1, 1, 1, 1, 1, 1, 1, 0, 1, 0, 1, 1, 1, 1] g_parseLinkRefDef.body))))))) (.leaf (sel [1, 1, 1, 1, 1, 1, 1, 1, 1, 1, 1, 1, 1, 1, 1, 0, 1, 1] g_parseLinkRefDef.body)))) (.mark (leaf [(0, .s .any), (1, .s .str), (6, .s (.int .i64)), (7, .s .str), (10, .s .str), (13, .s .str), (14, .s (.int .u8)), (15, .s .bool)] (g_parseLinkRefDef.k7 R)) (.seq (.leaf (sel [1, 1, 1, 1, 1, 1, 1, 1, 1, 1, 1, 1, 1, 1, 1, 1, 0] g_parseLinkRefDef.body)) (.mark (leaf [(0, .s .any), (1, .s .str), (6, .s (.int .i64)), (7, .s .str), (10, .s .str), (13, .s .str), (14, .s (.int .u8)), (15, .s .bool)] (g_parseLinkRefDef.k9 R)) (.seq (.leaf (sel [1, 1, 1, 1, 1, 1, 1, 1, 1, 1, 1, 1, 1, 1, 1, 1, 1, 0] g_parseLinkRefDef.body)) (.mark (leaf [(0, .s .any), (6, .s (.int .i64)), (7, .s .str), (10, .s .str), (13, .s .str), (14, .s (.int .u8)), (15, .s .bool)] (g_parseLinkRefDef.k10 R)) (.leaf (sel [1, 1, 1, 1, 1, 1, 1, 1, 1, 1, 1, 1, 1, 1, 1, 1, 1, 1] g_parseLinkRefDef.body))))))))))))))))))))))))))
theorem g_parseLinkRefDef.good (R : EP) : Good P 200 (g_parseLinkRefDef.ac R) (QF P [.tmp 4, .tmp 5] R) :=
  ⟨trivial, ⟨trivial, ⟨trivial, ⟨trivial, ⟨⟨trivial, ⟨trivial, ⟨trivial, ⟨⟨trivial, ⟨⟨⟨trivial, ⟨trivial, cutE (by intro x0 x67 ρ w; kernel_rfl)⟩⟩, trivial⟩, trivial⟩⟩, ⟨trivial, ⟨(loopG (g_parseLinkRefDef.al1 R) (g_parseLinkRefDef.bl1 R) (fun _ => by kernel_rfl) (fun Xa => ⟨trivial, ⟨trivial, cutE (by intro x0 x1 x6 x7 x10 ρ w; kernel_rfl)⟩⟩) (fun Xa => by intro x0 x1 x6 x7 x10 x11 ρ w; kernel_rfl) (fun X h _ _ _ _ _ _ _ g => g X h)), ⟨⟨trivial, ⟨⟨trivial, ⟨trivial, cutE (by intro x0 x1 x6 x7 x10 x11 x12 x100 ρ w; kernel_rfl)⟩⟩, ⟨⟨trivial, ⟨trivial, ⟨trivial, ⟨⟨trivial, ⟨⟨(loopG (g_parseLinkRefDef.al2 R) (g_parseLinkRefDef.bl2 R) (fun _ => by kernel_rfl) (fun Xc => trivial) (fun Xc => by intro x0 x1 x6 x7 x10 x12 x13 x14 x15 ρ w; kernel_rfl) (fun X h _ _ _ _ _ _ _ _ _ _ g => g X h)), ⟨⟨trivial, ⟨trivial, ⟨⟨(loopG (g_parseLinkRefDef.al3 R) (g_parseLinkRefDef.bl3 R) (fun _ => by kernel_rfl) (fun Xb => trivial) (fun Xb => by intro x0 x1 x6 x7 x10 x13 x14 x15 x16 x17 x18 ρ w; kernel_rfl) (fun X h _ _ _ _ _ _ _ _ _ _ _ _ g => g X h)), ⟨⟨trivial, ⟨⟨⟨trivial, ⟨trivial, ⟨trivial, cutE (by intro x0 x1 x6 x7 x10 x15 x16 x17 ρ w; kernel_rfl)⟩⟩⟩, trivial⟩, cutE (by intro x0 x1 x6 x7 x10 x13 x14 x15 x16 x17 x18 x162 ρ w; kernel_rfl)⟩⟩, cutE (by intro x0 x1 x6 x7 x10 x13 x14 x15 x16 x17 x18 ρ w; kernel_rfl)⟩⟩, trivial⟩⟩⟩, cutE (by intro x0 x1 x6 x7 x10 x12 x13 x14 x15 ρ w; kernel_rfl)⟩⟩, trivial⟩⟩, ⟨⟨trivial, ⟨⟨trivial, ⟨trivial, cutE (by intro x0 x6 x7 x10 x13 x14 x15 ρ w; kernel_rfl)⟩⟩, cutE (by intro x0 x1 x6 x7 x10 x13 x14 x15 ρ w; kernel_rfl)⟩⟩, cutE (by intro x0 x1 x6 x7 x10 x13 x14 x15 ρ w; kernel_rfl)⟩⟩⟩⟩⟩, cutE (by intro x0 x1 x6 x7 x10 x11 x12 ρ w; kernel_rfl)⟩⟩⟩, cutE (by intro x0 x1 x6 x7 x10 x11 ρ w; kernel_rfl)⟩⟩⟩⟩⟩⟩⟩, cutE (by intro x0 x1 x6 x7 ρ w; kernel_rfl)⟩⟩⟩⟩⟩
theorem g_parseLinkRefDef.eq (R : EP) (x0 : Value) (x1 : BA) (w : World) : g_parseLinkRefDef R x0 x1 w = vcA P 200 (g_parseLinkRefDef.ac R) (QF P [.tmp 4, .tmp 5] R) (fr0 [x0, .string x1]) w := by kernel_rfl
theorem g_parseLinkRefDef.sound {R : EP} {x0 : Value} {x1 : ByteArray} {w : World} (h : g_parseLinkRefDef R x0 x1 w) : callE P i_parseLinkRefDef #[x0, .string x1] R w :=
  callE_fin (c := g_parseLinkRefDef.body) Tryz.func282 Tryz.call282 (by kernel_rfl) (by kernel_rfl) (by kernel_rfl) (by kernel_rfl) (by kernel_rfl) (g_parseLinkRefDef.good R) (g_parseLinkRefDef.eq R x0 x1 w) h
/- 114 pub-paratext/pub/rscmarkdown.skipSpace -/
namespace g_skipSpace
noncomputable def body : Code := bodyOf Tryz.f114
def bl1 (R : EP) (Xa : BA → Int → WP) (x0 : BA) (x1 : Int) (w : World) : Prop :=
 ((decide (x1 < (x0.size : Int))) = true → 0 ≤ x1 ∧ x1 < (x0.size : Int)) ∧
 (((decide (x1 < (x0.size : Int))) && (!((bt x0 x1) == 32))) = true → 0 ≤ x1 ∧ x1 < (x0.size : Int)) ∧
 (((decide (x1 < (x0.size : Int))) && (!(((bt x0 x1) == 32) || ((bt x0 x1) == 9)))) = true → 0 ≤ x1 ∧ x1 < (x0.size : Int)) ∧
 br ((decide (x1 < (x0.size : Int))) && ((((bt x0 x1) == 32) || ((bt x0 x1) == 9)) || ((bt x0 x1) == 10)))
 (Xa x0 (IntKind.i64.wrap (x1 + 1)) w)
 (R (.returned (.int .i64 x1)) w)
def l1 (R : EP) (x0 : BA) (x1 : Int) (w : World) : Prop :=
  ∀ X : BA → Int → WP, (∀ x0 x1 w, bl1 R X x0 x1 w → X x0 x1 w) → X x0 x1 w

noncomputable def al1 (R : EP) (Xa : BA → Int → WP) : AC :=
  (.leaf (sel [1, 0, 0, 0] body))
end g_skipSpace
def g_skipSpace (R : EP) (x0 : BA) (x1 : Int) (w : World) : Prop :=
 g_skipSpace.l1 R x0 x1 w

noncomputable def g_skipSpace.ac (R : EP) : AC :=
  (.seq (.leaf (sel [0] g_skipSpace.body)) (.seq (.block 0 (.loop (leaf [(0, .s .str), (1, .s (.int .i64))] (g_skipSpace.l1 R)) (sel [1, 0, 0, 0] g_skipSpace.body))) (.leaf (sel [1, 1] g_skipSpace.body))))
theorem g_skipSpace.good (R : EP) : Good P 30 (g_skipSpace.ac R) (QF P [.tmp 4] R) :=
  ⟨trivial, ⟨(loopG (g_skipSpace.al1 R) (g_skipSpace.bl1 R) (fun _ => by kernel_rfl) (fun Xa => trivial) (fun Xa => by intro x0 x1 ρ w; kernel_rfl) (fun X h _ _ _ g => g X h)), trivial⟩⟩
theorem g_skipSpace.eq (R : EP) (x0 : BA) (x1 : Int) (w : World) : g_skipSpace R x0 x1 w = vcA P 30 (g_skipSpace.ac R) (QF P [.tmp 4] R) (fr0 [.string x0, .int .i64 x1]) w := by kernel_rfl
theorem g_skipSpace.sound {R : EP} {x0 : ByteArray} {x1 : Int} {w : World} (h : g_skipSpace R x0 x1 w) : callE P i_skipSpace #[.string x0, .int .i64 x1] R w :=
  callE_fin (c := g_skipSpace.body) Tryz.func114 Tryz.call114 (by kernel_rfl) (by kernel_rfl) (by kernel_rfl) (by kernel_rfl) (by kernel_rfl) (g_skipSpace.good R) (g_skipSpace.eq R x0 x1 w) h
end Go.Proofs.YtmicoampfglaiaaGreatDoor
