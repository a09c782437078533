/- Part 2 of the proof of the law FnFenceTicks: for every input the law returns true, the inputs read as they did, and memory that was there is as it was; under the conditions of the given row alone. -/
import Derived.Test.YtihmcipajjakgaaGreatDoorA1
set_option linter.all false
set_option linter.unusedVariables false
set_option maxRecDepth 20000
namespace Go.Proofs.YtihmcipajjakgaaGreatDoor
open Go.Proofs
namespace g_parseLinkRefDef
noncomputable def body : Code := bodyOf Tryz.f272
def k2 (R : EP) (x0 : Value) (x67 : Bool) (w : World) : Prop :=
 br x67
 (∃ (r11 : OA), ∃ w12, (Instr.typeAssert x0 ty_buildState ty_P_parseState false).run P w = .ok (.pointer r11) w12 ∧
 nilP r11 fun a13 =>
 stV w12 ((a13.add 6).add 0) (.bool true) fun w14 =>
 R (.returned (.tuple #[.int .i64 0, .bool false])) w14)
 (R (.returned (.tuple #[.int .i64 0, .bool false])) w)

def k3 (R : EP) (Xa : Value → BA → Int → BA → BA → Bool → WP) (x0 : Value) (x1 : BA) (x6 : Int) (x7 : BA) (x10 : BA) (w : World) : Prop :=
 Xa x0 x1 (IntKind.i64.wrap (x6 + 1)) x7 x10 true w

def k10 (R : EP) (x0 : Value) (x6 : Int) (x7 : BA) (x10 : BA) (x13 : BA) (x14 : Int) (x15 : Bool) (w : World) : Prop :=
 callE P i_normalizeLabel #[.string x7] (fun e w18 => ∃ (r17 : BA), e = .returned (.string r17) ∧
 enterE P (callMethod x0 "pub-paratext/pub/rscmarkdown.link" #[.string r17]) (fun e w20 => ∃ (r19 : OA), e = .returned (.pointer r19) ∧
 ∃ (r21 : Bool), ∃ w22, (do eqGuard .eql ty_P_Link (.tmp 188) (.const (.pointer none)) (.pointer r19) (.pointer none); binOp .eql ty_P_Link (.pointer r19) (.pointer none)).run P w20 = .ok (.bool r21) w22 ∧
 br r21
 (box w22 #[.slice none 0 0, .string x10, .string x13, .int .u8 x14, .bool x15] ty_Link fun b23 w24 =>
 enterE P (callMethod x0 "pub-paratext/pub/rscmarkdown.defineLink" #[.string r17, .pointer (some ⟨b23, 0, none⟩)]) (fun e w26 => e = .returned (.tuple #[]) ∧
 R (.returned (.tuple #[.int .i64 x6, .bool true])) w26) w24)
 (R (.returned (.tuple #[.int .i64 x6, .bool true])) w22)) w18) w

def k9 (R : EP) (x0 : Value) (x1 : BA) (x6 : Int) (x7 : BA) (x10 : BA) (x13 : BA) (x14 : Int) (x15 : Bool) (w : World) : Prop :=
 br (decide (x6 < (x1.size : Int)))
 (k10 R x0 (IntKind.i64.wrap (x6 + 1)) x7 x10 x13 x14 x15 w)
 (k10 R x0 x6 x7 x10 x13 x14 x15 w)

def k7 (R : EP) (x0 : Value) (x1 : BA) (x6 : Int) (x7 : BA) (x10 : BA) (x13 : BA) (x14 : Int) (x15 : Bool) (w : World) : Prop :=
 ((decide (x6 < (x1.size : Int))) = true → 0 ≤ x6 ∧ x6 < (x1.size : Int)) ∧
 br ((decide (x6 < (x1.size : Int))) && ((bt x1 x6) != 10))
 (R (.returned (.tuple #[.int .i64 0, .bool false])) w)
 (k9 R x0 x1 x6 x7 x10 x13 x14 x15 w)

def k13 (R : EP) (x0 : Value) (x1 : BA) (x6 : Int) (x7 : BA) (x10 : BA) (x15 : Bool) (x16 : BA) (x17 : Int) (w : World) : Prop :=
 k7 R x0 x1 x6 x7 x10 x16 x17 x15 w

def k12 (R : EP) (x0 : Value) (x1 : BA) (x6 : Int) (x7 : BA) (x10 : BA) (x13 : BA) (x14 : Int) (x15 : Bool) (x16 : BA) (x17 : Int) (x18 : Int) (x162 : Bool) (w : World) : Prop :=
 br x162
 (br (x16.toList == (ByteArray.mk #[]).toList)
 (k13 R x0 x1 x18 x7 x10 true x16 x17 w)
 (k13 R x0 x1 x18 x7 x10 x15 x16 x17 w))
 (k7 R x0 x1 x6 x7 x10 x13 x14 x15 w)

def k11 (R : EP) (x0 : Value) (x1 : BA) (x6 : Int) (x7 : BA) (x10 : BA) (x13 : BA) (x14 : Int) (x15 : Bool) (x16 : BA) (x17 : Int) (x18 : Int) (w : World) : Prop :=
 ((!(decide (x18 ≥ (x1.size : Int)))) = true → 0 ≤ x18 ∧ x18 < (x1.size : Int)) ∧
 k12 R x0 x1 x6 x7 x10 x13 x14 x15 x16 x17 x18 ((decide (x18 ≥ (x1.size : Int))) || ((bt x1 x18) == 10)) w

def bl3 (R : EP) (Xb : Value → BA → Int → BA → BA → BA → Int → Bool → BA → Int → Int → WP) (x0 : Value) (x1 : BA) (x6 : Int) (x7 : BA) (x10 : BA) (x13 : BA) (x14 : Int) (x15 : Bool) (x16 : BA) (x17 : Int) (x18 : Int) (w : World) : Prop :=
 ((decide (x18 < (x1.size : Int))) = true → 0 ≤ x18 ∧ x18 < (x1.size : Int)) ∧
 (((decide (x18 < (x1.size : Int))) && (!((bt x1 x18) == 32))) = true → 0 ≤ x18 ∧ x18 < (x1.size : Int)) ∧
 br ((decide (x18 < (x1.size : Int))) && (((bt x1 x18) == 32) || ((bt x1 x18) == 9)))
 (Xb x0 x1 x6 x7 x10 x13 x14 x15 x16 x17 (IntKind.i64.wrap (x18 + 1)) w)
 (k11 R x0 x1 x6 x7 x10 x13 x14 x15 x16 x17 x18 w)
def l3 (R : EP) (x0 : Value) (x1 : BA) (x6 : Int) (x7 : BA) (x10 : BA) (x13 : BA) (x14 : Int) (x15 : Bool) (x16 : BA) (x17 : Int) (x18 : Int) (w : World) : Prop :=
  ∀ X : Value → BA → Int → BA → BA → BA → Int → Bool → BA → Int → Int → WP, (∀ x0 x1 x6 x7 x10 x13 x14 x15 x16 x17 x18 w, bl3 R X x0 x1 x6 x7 x10 x13 x14 x15 x16 x17 x18 w → X x0 x1 x6 x7 x10 x13 x14 x15 x16 x17 x18 w) → X x0 x1 x6 x7 x10 x13 x14 x15 x16 x17 x18 w

noncomputable def al3 (R : EP) (Xb : Value → BA → Int → BA → BA → BA → Int → Bool → BA → Int → Int → WP) : AC :=
  (.leaf (sel [1, 1, 1, 1, 1, 1, 1, 1, 1, 1, 1, 1, 1, 1, 1, 0, 1, 0, 1, 1, 1, 0, 0, 0, 0] body))
def k8 (R : EP) (x0 : Value) (x1 : BA) (x6 : Int) (x7 : BA) (x10 : BA) (x12 : Int) (x13 : BA) (x14 : Int) (x15 : Bool) (w : World) : Prop :=
 callE P i_parseLinkTitle #[.string x1, .int .i64 x12] (fun e w16 => ∃ (r15_0 : BA), ∃ (r15_1 : Int), ∃ (r15_2 : Int), ∃ (r15_3 : Bool), e = .returned (.tuple #[.string r15_0, .int .u8 r15_1, .int .i64 r15_2, .bool r15_3]) ∧
 br r15_3
 (l3 R x0 x1 x6 x7 x10 x13 x14 x15 r15_0 r15_1 r15_2 w16)
 (k7 R x0 x1 x6 x7 x10 x13 x14 x15 w16)) w

def bl2 (R : EP) (Xc : Value → BA → Int → BA → BA → Int → BA → Int → Bool → WP) (x0 : Value) (x1 : BA) (x6 : Int) (x7 : BA) (x10 : BA) (x12 : Int) (x13 : BA) (x14 : Int) (x15 : Bool) (w : World) : Prop :=
 ((decide (x12 < (x1.size : Int))) = true → 0 ≤ x12 ∧ x12 < (x1.size : Int)) ∧
 (((decide (x12 < (x1.size : Int))) && (!((bt x1 x12) == 32))) = true → 0 ≤ x12 ∧ x12 < (x1.size : Int)) ∧
 br ((decide (x12 < (x1.size : Int))) && (((bt x1 x12) == 32) || ((bt x1 x12) == 9)))
 (Xc x0 x1 x6 x7 x10 (IntKind.i64.wrap (x12 + 1)) x13 x14 x15 w)
 (k8 R x0 x1 x6 x7 x10 x12 x13 x14 x15 w)
def l2 (R : EP) (x0 : Value) (x1 : BA) (x6 : Int) (x7 : BA) (x10 : BA) (x12 : Int) (x13 : BA) (x14 : Int) (x15 : Bool) (w : World) : Prop :=
  ∀ X : Value → BA → Int → BA → BA → Int → BA → Int → Bool → WP, (∀ x0 x1 x6 x7 x10 x12 x13 x14 x15 w, bl2 R X x0 x1 x6 x7 x10 x12 x13 x14 x15 w → X x0 x1 x6 x7 x10 x12 x13 x14 x15 w) → X x0 x1 x6 x7 x10 x12 x13 x14 x15 w

noncomputable def al2 (R : EP) (Xc : Value → BA → Int → BA → BA → Int → BA → Int → Bool → WP) : AC :=
  (.leaf (sel [1, 1, 1, 1, 1, 1, 1, 1, 1, 1, 1, 1, 1, 1, 1, 0, 1, 0, 0, 0, 0] body))
def k6 (R : EP) (x0 : Value) (x1 : BA) (x6 : Int) (x7 : BA) (x10 : BA) (x11 : Bool) (x12 : Int) (w : World) : Prop :=
 br x11
 (l2 R x0 x1 x6 x7 x10 x12 (ByteArray.mk #[]) 0 false w)
 (k7 R x0 x1 x6 x7 x10 (ByteArray.mk #[]) 0 false w)

def k5 (R : EP) (x0 : Value) (x1 : BA) (x6 : Int) (x7 : BA) (x10 : BA) (x11 : Bool) (x12 : Int) (x100 : Bool) (w : World) : Prop :=
 br x100
 (br (decide (x12 < (x1.size : Int)))
 (k6 R x0 x1 x6 x7 x10 true (IntKind.i64.wrap (x12 + 1)) w)
 (k6 R x0 x1 x6 x7 x10 true x12 w))
 (k6 R x0 x1 x6 x7 x10 x11 x12 w)

def k4 (R : EP) (x0 : Value) (x1 : BA) (x6 : Int) (x7 : BA) (x10 : BA) (x11 : Bool) (w : World) : Prop :=
 ((!(decide (x6 ≥ (x1.size : Int)))) = true → 0 ≤ x6 ∧ x6 < (x1.size : Int)) ∧
 k5 R x0 x1 x6 x7 x10 x11 x6 ((decide (x6 ≥ (x1.size : Int))) || ((bt x1 x6) == 10)) w

def bl1 (R : EP) (Xa : Value → BA → Int → BA → BA → Bool → WP) (x0 : Value) (x1 : BA) (x6 : Int) (x7 : BA) (x10 : BA) (x11 : Bool) (w : World) : Prop :=
 ((decide (x6 < (x1.size : Int))) = true → 0 ≤ x6 ∧ x6 < (x1.size : Int)) ∧
 (((decide (x6 < (x1.size : Int))) && (!((bt x1 x6) == 32))) = true → 0 ≤ x6 ∧ x6 < (x1.size : Int)) ∧
 br ((decide (x6 < (x1.size : Int))) && (((bt x1 x6) == 32) || ((bt x1 x6) == 9)))
 (k3 R Xa x0 x1 x6 x7 x10 w)
 (k4 R x0 x1 x6 x7 x10 x11 w)
def l1 (R : EP) (x0 : Value) (x1 : BA) (x6 : Int) (x7 : BA) (x10 : BA) (x11 : Bool) (w : World) : Prop :=
  ∀ X : Value → BA → Int → BA → BA → Bool → WP, (∀ x0 x1 x6 x7 x10 x11 w, bl1 R X x0 x1 x6 x7 x10 x11 w → X x0 x1 x6 x7 x10 x11 w) → X x0 x1 x6 x7 x10 x11 w

noncomputable def al1 (R : EP) (Xa : Value → BA → Int → BA → BA → Bool → WP) : AC :=
  (.seq (.leaf (sel [1, 1, 1, 1, 1, 1, 1, 1, 1, 0, 0, 0, 0] body)) (.mark (leaf [(0, .s .any), (1, .s .str), (6, .s (.int .i64)), (7, .s .str), (10, .s .str)] (k3 R Xa)) (.leaf (sel [1, 1, 1, 1, 1, 1, 1, 1, 1, 0, 0, 0, 1] body))))
def k1 (R : EP) (x0 : Value) (x1 : BA) (x6 : Int) (x7 : BA) (w : World) : Prop :=
 callE P i_skipSpace #[.string x1, .int .i64 (IntKind.i64.wrap (x6 + 1))] (fun e w8 => ∃ (r7 : Int), e = .returned (.int .i64 r7) ∧
 0 ≤ r7 ∧ r7 ≤ (x1.size : Int) ∧
 callE P i_parseLinkDest #[.string x1, .int .i64 r7] (fun e w10 => ∃ (r9_0 : BA), ∃ (r9_1 : Int), ∃ (r9_2 : Bool), e = .returned (.tuple #[.string r9_0, .int .i64 r9_1, .bool r9_2]) ∧
 br (!r9_2)
 (((!((x1.extract (Int.toNat r7) x1.size).toList == (ByteArray.mk #[]).toList)) = true → 0 ≤ (0 : Int) ∧ 0 < ((x1.extract (Int.toNat r7) x1.size).size : Int)) ∧
 k2 R x0 ((!((x1.extract (Int.toNat r7) x1.size).toList == (ByteArray.mk #[]).toList)) && ((bt (x1.extract (Int.toNat r7) x1.size) 0) == 60)) w10)
 (l1 R x0 x1 r9_1 x7 r9_0 false w10)) w8) w

end g_parseLinkRefDef
def g_parseLinkRefDef (R : EP) (x0 : Value) (x1 : BA) (w : World) : Prop :=
 callE P i_skipSpace #[.string x1, .int .i64 0] (fun e w2 => ∃ (r1 : Int), e = .returned (.int .i64 r1) ∧
 ∃ (r3 : OA), ∃ w4, (Instr.typeAssert x0 ty_buildState ty_P_parseState false).run P w2 = .ok (.pointer r3) w4 ∧
 callE P i_parseLinkLabel #[.pointer r3, .string x1, .int .i64 r1] (fun e w6 => ∃ (r5_0 : BA), ∃ (r5_1 : Int), ∃ (r5_2 : Bool), e = .returned (.tuple #[.string r5_0, .int .i64 r5_1, .bool r5_2]) ∧
 ((!((!r5_2) || (decide (r5_1 ≥ (x1.size : Int))))) = true → 0 ≤ r5_1 ∧ r5_1 < (x1.size : Int)) ∧
 br (((!r5_2) || (decide (r5_1 ≥ (x1.size : Int)))) || ((bt x1 r5_1) != 58))
 (R (.returned (.tuple #[.int .i64 0, .bool false])) w6)
 (g_parseLinkRefDef.k1 R x0 x1 r5_1 r5_0 w6)) w4) w

noncomputable def g_parseLinkRefDef.ac (R : EP) : AC :=
  (.seq (.leaf (sel [0] g_parseLinkRefDef.body)) (.seq (.leaf (sel [1, 0] g_parseLinkRefDef.body)) (.seq (.leaf (sel [1, 1, 0] g_parseLinkRefDef.body)) (.seq (.leaf (sel [1, 1, 1, 0] g_parseLinkRefDef.body)) (.mark (leaf [(0, .s .any), (1, .s .str), (6, .s (.int .i64)), (7, .s .str)] (g_parseLinkRefDef.k1 R)) (.seq (.leaf (sel [1, 1, 1, 1, 0] g_parseLinkRefDef.body)) (.seq (.leaf (sel [1, 1, 1, 1, 1, 0] g_parseLinkRefDef.body)) (.seq (.leaf (sel [1, 1, 1, 1, 1, 1, 0] g_parseLinkRefDef.body)) (.seq (.seq (.leaf (sel [1, 1, 1, 1, 1, 1, 1, 0, 0] g_parseLinkRefDef.body)) (.cond 60 (.seq (.seq (.leaf (sel [1, 1, 1, 1, 1, 1, 1, 0, 1, 0, 0, 0] g_parseLinkRefDef.body)) (.mark (leaf [(0, .s .any), (67, .s .bool)] (g_parseLinkRefDef.k2 R)) (.leaf (sel [1, 1, 1, 1, 1, 1, 1, 0, 1, 0, 0, 1] g_parseLinkRefDef.body)))) (.leaf (sel [1, 1, 1, 1, 1, 1, 1, 0, 1, 0, 1] g_parseLinkRefDef.body))) (.leaf (sel [1, 1, 1, 1, 1, 1, 1, 0, 1, 1] g_parseLinkRefDef.body)))) (.seq (.leaf (sel [1, 1, 1, 1, 1, 1, 1, 1, 0] g_parseLinkRefDef.body)) (.seq (.block 0 (.loop (leaf [(0, .s .any), (1, .s .str), (6, .s (.int .i64)), (7, .s .str), (10, .s .str), (11, .s .bool)] (g_parseLinkRefDef.l1 R)) (sel [1, 1, 1, 1, 1, 1, 1, 1, 1, 0, 0, 0] g_parseLinkRefDef.body))) (.mark (leaf [(0, .s .any), (1, .s .str), (6, .s (.int .i64)), (7, .s .str), (10, .s .str), (11, .s .bool)] (g_parseLinkRefDef.k4 R)) (.seq (.leaf (sel [1, 1, 1, 1, 1, 1, 1, 1, 1, 1, 0] g_parseLinkRefDef.body)) (.seq (.seq (.leaf (sel [1, 1, 1, 1, 1, 1, 1, 1, 1, 1, 1, 0, 0] g_parseLinkRefDef.body)) (.mark (leaf [(0, .s .any), (1, .s .str), (6, .s (.int .i64)), (7, .s .str), (10, .s .str), (11, .s .bool), (12, .s (.int .i64)), (100, .s .bool)] (g_parseLinkRefDef.k5 R)) (.leaf (sel [1, 1, 1, 1, 1, 1, 1, 1, 1, 1, 1, 0, 1] g_parseLinkRefDef.body)))) (.mark (leaf [(0, .s .any), (1, .s .str), (6, .s (.int .i64)), (7, .s .str), (10, .s .str), (11, .s .bool), (12, .s (.int .i64))] (g_parseLinkRefDef.k6 R)) (.seq (.leaf (sel [1, 1, 1, 1, 1, 1, 1, 1, 1, 1, 1, 1, 0] g_parseLinkRefDef.body)) (.seq (.leaf (sel [1, 1, 1, 1, 1, 1, 1, 1, 1, 1, 1, 1, 1, 0] g_parseLinkRefDef.body)) (.seq (.leaf (sel [1, 1, 1, 1, 1, 1, 1, 1, 1, 1, 1, 1, 1, 1, 0] g_parseLinkRefDef.body)) (.seq (.seq (.leaf (sel [1, 1, 1, 1, 1, 1, 1, 1, 1, 1, 1, 1, 1, 1, 1, 0, 0] g_parseLinkRefDef.body)) (.cond 107 (.seq (.block 2 (.loop (leaf [(0, .s .any), (1, .s .str), (6, .s (.int .i64)), (7, .s .str), (10, .s .str), (12, .s (.int .i64)), (13, .s .str), (14, .s (.int .u8)), (15, .s .bool)] (g_parseLinkRefDef.l2 R)) (sel [1, 1, 1, 1, 1, 1, 1, 1, 1, 1, 1, 1, 1, 1, 1, 0, 1, 0, 0, 0, 0] g_parseLinkRefDef.body))) (.mark (leaf [(0, .s .any), (1, .s .str), (6, .s (.int .i64)), (7, .s .str), (10, .s .str), (12, .s (.int .i64)), (13, .s .str), (14, .s (.int .u8)), (15, .s .bool)] (g_parseLinkRefDef.k8 R)) (.seq (.leaf (sel [1, 1, 1, 1, 1, 1, 1, 1, 1, 1, 1, 1, 1, 1, 1, 0, 1, 0, 1, 0] g_parseLinkRefDef.body)) (.seq (.leaf (sel [1, 1, 1, 1, 1, 1, 1, 1, 1, 1, 1, 1, 1, 1, 1, 0, 1, 0, 1, 1, 0] g_parseLinkRefDef.body)) (.cond 134 (.seq (.block 4 (.loop (leaf [(0, .s .any), (1, .s .str), (6, .s (.int .i64)), (7, .s .str), (10, .s .str), (13, .s .str), (14, .s (.int .u8)), (15, .s .bool), (16, .s .str), (17, .s (.int .u8)), (18, .s (.int .i64))] (g_parseLinkRefDef.l3 R)) (sel [1, 1, 1, 1, 1, 1, 1, 1, 1, 1, 1, 1, 1, 1, 1, 0, 1, 0, 1, 1, 1, 0, 0, 0, 0] g_parseLinkRefDef.body))) (.mark (leaf [(0, .s .any), (1, .s .str), (6, .s (.int .i64)), (7, .s .str), (10, .s .str), (13, .s .str), (14, .s (.int .u8)), (15, .s .bool), (16, .s .str), (17, .s (.int .u8)), (18, .s (.int .i64))] (g_parseLinkRefDef.k11 R)) (.seq (.leaf (sel [1, 1, 1, 1, 1, 1, 1, 1, 1, 1, 1, 1, 1, 1, 1, 0, 1, 0, 1, 1, 1, 0, 1, 0] g_parseLinkRefDef.body)) (.mark (leaf [(0, .s .any), (1, .s .str), (6, .s (.int .i64)), (7, .s .str), (10, .s .str), (13, .s .str), (14, .s (.int .u8)), (15, .s .bool), (16, .s .str), (17, .s (.int .u8)), (18, .s (.int .i64)), (162, .s .bool)] (g_parseLinkRefDef.k12 R)) (.cond 162 (.seq (.leaf (sel [1, 1, 1, 1, 1, 1, 1, 1, 1, 1, 1, 1, 1, 1, 1, 0, 1, 0, 1, 1, 1, 0, 1, 1, 0, 0] g_parseLinkRefDef.body)) (.seq (.leaf (sel [1, 1, 1, 1, 1, 1, 1, 1, 1, 1, 1, 1, 1, 1, 1, 0, 1, 0, 1, 1, 1, 0, 1, 1, 0, 1, 0] g_parseLinkRefDef.body)) (.mark (leaf [(0, .s .any), (1, .s .str), (6, .s (.int .i64)), (7, .s .str), (10, .s .str), (15, .s .bool), (16, .s .str), (17, .s (.int .u8))] (g_parseLinkRefDef.k13 R)) (.leaf (sel [1, 1, 1, 1, 1, 1, 1, 1, 1, 1, 1, 1, 1, 1, 1, 0, 1, 0, 1, 1, 1, 0, 1, 1, 0, 1, 1] g_parseLinkRefDef.body))))) (.leaf (sel [1, 1, 1, 1, 1, 1, 1, 1, 1, 1, 1, 1, 1, 1, 1, 0, 1, 0, 1, 1, 1, 0, 1, 1, 1] g_parseLinkRefDef.body))))))) (.leaf (sel [1, 1, 1, 1, 1, 1, 1, 1, 1, 1, 1, 1, 1, 1, 1, 0, 1, 0, 1, 1, 1, 1] g_parseLinkRefDef.body))))))) (.leaf (sel [1, 1, 1, 1, 1, 1, 1, 1, 1, 1, 1, 1, 1, 1, 1, 0, 1, 1] g_parseLinkRefDef.body)))) (.mark (leaf [(0, .s .any), (1, .s .str), (6, .s (.int .i64)), (7, .s .str), (10, .s .str), (13, .s .str), (14, .s (.int .u8)), (15, .s .bool)] (g_parseLinkRefDef.k7 R)) (.seq (.leaf (sel [1, 1, 1, 1, 1, 1, 1, 1, 1, 1, 1, 1, 1, 1, 1, 1, 0] g_parseLinkRefDef.body)) (.mark (leaf [(0, .s .any), (1, .s .str), (6, .s (.int .i64)), (7, .s .str), (10, .s .str), (13, .s .str), (14, .s (.int .u8)), (15, .s .bool)] (g_parseLinkRefDef.k9 R)) (.seq (.leaf (sel [1, 1, 1, 1, 1, 1, 1, 1, 1, 1, 1, 1, 1, 1, 1, 1, 1, 0] g_parseLinkRefDef.body)) (.mark (leaf [(0, .s .any), (6, .s (.int .i64)), (7, .s .str), (10, .s .str), (13, .s .str), (14, .s (.int .u8)), (15, .s .bool)] (g_parseLinkRefDef.k10 R)) (.leaf (sel [1, 1, 1, 1, 1, 1, 1, 1, 1, 1, 1, 1, 1, 1, 1, 1, 1, 1] g_parseLinkRefDef.body))))))))))))))))))))))))))
theorem g_parseLinkRefDef.good (R : EP) : Good P 200 (g_parseLinkRefDef.ac R) (QF P [.tmp 4, .tmp 5] R) :=
  ⟨trivial, ⟨trivial, ⟨trivial, ⟨trivial, ⟨⟨trivial, ⟨trivial, ⟨trivial, ⟨⟨trivial, ⟨⟨⟨trivial, ⟨trivial, cutE (by intro x0 x67 ρ w; kernel_rfl)⟩⟩, trivial⟩, trivial⟩⟩, ⟨trivial, ⟨(loopG (g_parseLinkRefDef.al1 R) (g_parseLinkRefDef.bl1 R) (fun _ => by kernel_rfl) (fun Xa => ⟨trivial, ⟨trivial, cutE (by intro x0 x1 x6 x7 x10 ρ w; kernel_rfl)⟩⟩) (fun Xa => by intro x0 x1 x6 x7 x10 x11 ρ w; kernel_rfl) (fun X h _ _ _ _ _ _ _ g => g X h)), ⟨⟨trivial, ⟨⟨trivial, ⟨trivial, cutE (by intro x0 x1 x6 x7 x10 x11 x12 x100 ρ w; kernel_rfl)⟩⟩, ⟨⟨trivial, ⟨trivial, ⟨trivial, ⟨⟨trivial, ⟨⟨(loopG (g_parseLinkRefDef.al2 R) (g_parseLinkRefDef.bl2 R) (fun _ => by kernel_rfl) (fun Xc => trivial) (fun Xc => by intro x0 x1 x6 x7 x10 x12 x13 x14 x15 ρ w; kernel_rfl) (fun X h _ _ _ _ _ _ _ _ _ _ g => g X h)), ⟨⟨trivial, ⟨trivial, ⟨⟨(loopG (g_parseLinkRefDef.al3 R) (g_parseLinkRefDef.bl3 R) (fun _ => by kernel_rfl) (fun Xb => trivial) (fun Xb => by intro x0 x1 x6 x7 x10 x13 x14 x15 x16 x17 x18 ρ w; kernel_rfl) (fun X h _ _ _ _ _ _ _ _ _ _ _ _ g => g X h)), ⟨⟨trivial, ⟨⟨⟨trivial, ⟨trivial, ⟨trivial, cutE (by intro x0 x1 x6 x7 x10 x15 x16 x17 ρ w; kernel_rfl)⟩⟩⟩, trivial⟩, cutE (by intro x0 x1 x6 x7 x10 x13 x14 x15 x16 x17 x18 x162 ρ w; kernel_rfl)⟩⟩, cutE (by intro x0 x1 x6 x7 x10 x13 x14 x15 x16 x17 x18 ρ w; kernel_rfl)⟩⟩, trivial⟩⟩⟩, cutE (by intro x0 x1 x6 x7 x10 x12 x13 x14 x15 ρ w; kernel_rfl)⟩⟩, trivial⟩⟩, ⟨⟨trivial, ⟨⟨trivial, ⟨trivial, cutE (by intro x0 x6 x7 x10 x13 x14 x15 ρ w; kernel_rfl)⟩⟩, cutE (by intro x0 x1 x6 x7 x10 x13 x14 x15 ρ w; kernel_rfl)⟩⟩, cutE (by intro x0 x1 x6 x7 x10 x13 x14 x15 ρ w; kernel_rfl)⟩⟩⟩⟩⟩, cutE (by intro x0 x1 x6 x7 x10 x11 x12 ρ w; kernel_rfl)⟩⟩⟩, cutE (by intro x0 x1 x6 x7 x10 x11 ρ w; kernel_rfl)⟩⟩⟩⟩⟩⟩⟩, cutE (by intro x0 x1 x6 x7 ρ w; kernel_rfl)⟩⟩⟩⟩⟩
theorem g_parseLinkRefDef.eq (R : EP) (x0 : Value) (x1 : BA) (w : World) : g_parseLinkRefDef R x0 x1 w = vcA P 200 (g_parseLinkRefDef.ac R) (QF P [.tmp 4, .tmp 5] R) (fr0 [x0, .string x1]) w := by kernel_rfl
theorem g_parseLinkRefDef.sound {R : EP} {x0 : Value} {x1 : ByteArray} {w : World} (h : g_parseLinkRefDef R x0 x1 w) : callE P i_parseLinkRefDef #[x0, .string x1] R w :=
  callE_fin (c := g_parseLinkRefDef.body) Tryz.func272 Tryz.call272 (by kernel_rfl) (by kernel_rfl) (by kernel_rfl) (by kernel_rfl) (by kernel_rfl) (g_parseLinkRefDef.good R) (g_parseLinkRefDef.eq R x0 x1 w) h
namespace g_parseState_inline
noncomputable def body : Code := bodyOf Tryz.f34
def k4 (R : EP) (Xa : OA → BA → OA → Nat → Nat → Int → Bool → Int → WP) (x0 : OA) (x1 : BA) (x5q : OA) (x5n : Nat) (x5c : Nat) (x6 : Int) (x7 : Bool) (x10 : Value) (x12 : Int) (w : World) : Prop :=
 nilP x0 fun a61 =>
 ∃ (v62q : OA), ∃ (v62n : Nat), ∃ (v62c : Nat), w.cell? (a61.add 9) = some (.slice v62q v62n v62c) ∧
 ∃ (r63q : OA), ∃ (r63n : Nat), ∃ (r63c : Nat), ∃ w64, (Instr.buildSlice ty_S_Inline 1 #[(0, x10)]).run P w = .ok (.slice r63q r63n r63c) w64 ∧
 ∃ (r65q : OA), ∃ (r65n : Nat), ∃ (r65c : Nat), ∃ w66, (Builtin.append_ #[ty_S_Inline, ty_S_Inline] ty_S_Inline #[.slice v62q v62n v62c, .slice r63q r63n r63c]).run P w64 = .ok (.slice r65q r65n r65c) w66 ∧
 nilP x0 fun a67 =>
 stV w66 ((a67.add 9).add 0) (.slice r65q r65n r65c) fun w68 =>
 callE P i_parseState_skip #[.pointer x0, .int .i64 x12] (fun e w70 => e = .returned (.tuple #[]) ∧
 Xa x0 x1 x5q x5n x5c x6 x7 x12 w70) w68

def k10 (R : EP) (Xa : OA → BA → OA → Nat → Nat → Int → Bool → Int → WP) (x0 : OA) (x1 : BA) (x5q : OA) (x5n : Nat) (x5c : Nat) (x6 : Int) (x7 : Bool) (x16 : Int) (x17 : OA) (x19 : Int) (w : World) : Prop :=
 nilP x0 fun a133 =>
 ∃ (v134q : OA), ∃ (v134n : Nat), ∃ (v134c : Nat), w.cell? (a133.add 9) = some (.slice v134q v134n v134c) ∧
 ∃ (r135q : OA), ∃ (r135n : Nat), ∃ (r135c : Nat), ∃ w136, (Instr.sliceAt ty_S_Inline (.slice v134q v134n v134c) none (some (.int .i64 (IntKind.i64.wrap (x16 + 1)))) none).run P w = .ok (.slice r135q r135n r135c) w136 ∧
 nilP x0 fun a137 =>
 stV w136 ((a137.add 9).add 0) (.slice r135q r135n r135c) fun w138 =>
 callE P i_parseState_skip #[.pointer x0, .int .i64 x19] (fun e w140 => e = .returned (.tuple #[]) ∧
 nilP x17 fun a141 =>
 ∃ (v142 : BA), w140.cell? a141 = some (.string v142) ∧
 0 ≤ (0 : Int) ∧ 0 < (v142.size : Int) ∧
 br ((bt v142 0) == 91)
 (nilP x17 fun a143 =>
 ∃ (v144 : Int), w140.cell? (a143.add 1) = some (.int .i64 v144) ∧
 Xa x0 x1 x5q x5n x5c v144 x7 x19 w140)
 (Xa x0 x1 x5q x5n x5c x6 x7 x19 w140)) w138

def k9 (R : EP) (Xa : OA → BA → OA → Nat → Nat → Int → Bool → Int → WP) (x0 : OA) (x1 : BA) (x5q : OA) (x5n : Nat) (x5c : Nat) (x6 : Int) (x7 : Bool) (x8 : Int) (x16 : Int) (x17 : OA) (x18 : OA) (x19 : Int) (w : World) : Prop :=
 callE P i_parseState_emit #[.pointer x0, .int .i64 x8] (fun e w114 => e = .returned (.tuple #[]) ∧
 nilP x0 fun a115 =>
 ∃ (v116q : OA), ∃ (v116n : Nat), ∃ (v116c : Nat), w114.cell? (a115.add 9) = some (.slice v116q v116n v116c) ∧
 ∃ (r117q : OA), ∃ (r117n : Nat), ∃ (r117c : Nat), ∃ w118, (Instr.sliceAt ty_S_Inline (.slice v116q v116n v116c) (some (.int .i64 (IntKind.i64.wrap (x16 + 1)))) none none).run P w114 = .ok (.slice r117q r117n r117c) w118 ∧
 callE P i_parseState_emph #[.pointer x0, .slice none 0 0, .slice r117q r117n r117c] (fun e w120 => ∃ (r119q : OA), ∃ (r119n : Nat), ∃ (r119c : Nat), e = .returned (.slice r119q r119n r119c) ∧
 nilP x18 fun a121 =>
 stV w120 (a121.add 0) (.slice r119q r119n r119c) fun w122 =>
 nilP x17 fun a123 =>
 ∃ (v124 : BA), w122.cell? a123 = some (.string v124) ∧
 0 ≤ (0 : Int) ∧ 0 < (v124.size : Int) ∧
 br ((bt v124 0) == 33)
 (nilP x0 fun a125 =>
 ∃ (v126q : OA), ∃ (v126n : Nat), ∃ (v126c : Nat), w122.cell? (a125.add 9) = some (.slice v126q v126n v126c) ∧
 0 ≤ x16 ∧ x16 < (v126n : Int) ∧
 nilP v126q fun a127 =>
 stV w122 ((a127.add (Int.toNat x16 * 1)).add 0) (.iface ty_P_Image (.pointer x18)) fun w128 =>
 k10 R Xa x0 x1 x5q x5n x5c x6 x7 x16 x17 x19 w128)
 (nilP x0 fun a129 =>
 ∃ (v130q : OA), ∃ (v130n : Nat), ∃ (v130c : Nat), w122.cell? (a129.add 9) = some (.slice v130q v130n v130c) ∧
 0 ≤ x16 ∧ x16 < (v130n : Int) ∧
 nilP v130q fun a131 =>
 stV w122 ((a131.add (Int.toNat x16 * 1)).add 0) (.iface ty_P_Link (.pointer x18)) fun w132 =>
 k10 R Xa x0 x1 x5q x5n x5c x6 x7 x16 x17 x19 w132)) w118) w

def k8 (R : EP) (Xa : OA → BA → OA → Nat → Nat → Int → Bool → Int → WP) (x0 : OA) (x1 : BA) (x5q : OA) (x5n : Nat) (x5c : Nat) (x6 : Int) (x7 : Bool) (x8 : Int) (x16 : Int) (x17 : OA) (x199 : Bool) (w : World) : Prop :=
 br x199
 (callE P i_parseState_parseLinkClose #[.pointer x0, .string x1, .int .i64 x8, .pointer x17] (fun e w98 => ∃ (r97_0 : OA), ∃ (r97_1 : Int), ∃ (r97_2 : Bool), e = .returned (.tuple #[.pointer r97_0, .int .i64 r97_1, .bool r97_2]) ∧
 br r97_2
 (nilP x0 fun a99 =>
 ∃ (v100 : Bool), w98.cell? (a99.add 6) = some (.bool v100) ∧
 br v100
 (nilP x0 fun a101 =>
 stV w98 ((a101.add 6).add 0) (.bool true) fun w102 =>
 k9 R Xa x0 x1 x5q x5n x5c x6 x7 x8 x16 x17 r97_0 r97_1 w102)
 (nilP r97_0 fun a103 =>
 ∃ (v104 : Bool), w98.cell? (a103.add 4) = some (.bool v104) ∧
 br v104
 (nilP x0 fun a105 =>
 stV w98 ((a105.add 6).add 0) (.bool true) fun w106 =>
 k9 R Xa x0 x1 x5q x5n x5c x6 x7 x8 x16 x17 r97_0 r97_1 w106)
 (nilP r97_0 fun a107 =>
 ∃ (v108 : BA), w98.cell? (a107.add 1) = some (.string v108) ∧
 callE P i_linkCorner #[.string v108] (fun e w110 => ∃ (r109 : Bool), e = .returned (.bool r109) ∧
 nilP x0 fun a111 =>
 stV w110 ((a111.add 6).add 0) (.bool r109) fun w112 =>
 k9 R Xa x0 x1 x5q x5n x5c x6 x7 x8 x16 x17 r97_0 r97_1 w112) w98)))
 (Xa x0 x1 x5q x5n x5c x6 x7 (IntKind.i64.wrap (x8 + 1)) w98)) w)
 (Xa x0 x1 x5q x5n x5c x6 x7 (IntKind.i64.wrap (x8 + 1)) w)

def k7 (R : EP) (Xa : OA → BA → OA → Nat → Nat → Int → Bool → Int → WP) (x0 : OA) (x1 : BA) (x5q : OA) (x5n : Nat) (x5c : Nat) (x6 : Int) (x7 : Bool) (x8 : Int) (x165 : Bool) (w : World) : Prop :=
 br x165
 (0 ≤ (IntKind.i64.wrap ((x5n : Int) - 1)) ∧ (IntKind.i64.wrap ((x5n : Int) - 1)) < (x5n : Int) ∧
 nilP x5q fun a83 =>
 ∃ (v84 : Int), w.cell? (a83.add (Int.toNat (IntKind.i64.wrap ((x5n : Int) - 1)) * 1)) = some (.int .i64 v84) ∧
 nilP x0 fun a85 =>
 ∃ (v86q : OA), ∃ (v86n : Nat), ∃ (v86c : Nat), w.cell? (a85.add 9) = some (.slice v86q v86n v86c) ∧
 0 ≤ v84 ∧ v84 < (v86n : Int) ∧
 nilP v86q fun a87 =>
 ∃ (v88 : Value), w.cell? (a87.add (Int.toNat v84 * 1)) = some v88 ∧
 ∃ (r89 : OA), ∃ w90, (Instr.typeAssert v88 ty_Inline ty_P_openPlain false).run P w = .ok (.pointer r89) w90 ∧
 ∃ (r91q : OA), ∃ (r91n : Nat), ∃ (r91c : Nat), ∃ w92, (Instr.sliceAt ty_S_int (.slice x5q x5n x5c) none (some (.int .i64 (IntKind.i64.wrap ((x5n : Int) - 1)))) none).run P w90 = .ok (.slice r91q r91n r91c) w92 ∧
 nilP r89 fun a93 =>
 ∃ (v94 : BA), w92.cell? a93 = some (.string v94) ∧
 0 ≤ (0 : Int) ∧ 0 < (v94.size : Int) ∧
 br ((bt v94 0) == 33)
 (k8 R Xa x0 x1 r91q r91n r91c x6 x7 x8 v84 r89 true w92)
 (nilP r89 fun a95 =>
 ∃ (v96 : Int), w92.cell? (a95.add 1) = some (.int .i64 v96) ∧
 k8 R Xa x0 x1 r91q r91n r91c x6 x7 x8 v84 r89 (decide (x6 ≤ v96)) w92))
 (Xa x0 x1 x5q x5n x5c x6 x7 (IntKind.i64.wrap (x8 + 1)) w)

def k5 (R : EP) (Xa : OA → BA → OA → Nat → Nat → Int → Bool → Int → WP) (x0 : OA) (x1 : BA) (x5q : OA) (x5n : Nat) (x5c : Nat) (x6 : Int) (x7 : Bool) (x8 : Int) (w : World) : Prop :=
 0 ≤ x8 ∧ x8 < (x1.size : Int) ∧
 k7 R Xa x0 x1 x5q x5n x5c x6 x7 x8 (((bt x1 x8) == 93) && (decide ((x5n : Int) > 0))) w

def k1 (R : EP) (Xa : OA → BA → OA → Nat → Nat → Int → Bool → Int → WP) (x0 : OA) (x1 : BA) (x5q : OA) (x5n : Nat) (x5c : Nat) (x6 : Int) (x7 : Bool) (x8 : Int) (x9 : Value) (w : World) : Prop :=
 ∃ (r38 : Bool), ∃ w39, (do eqGuard .neq ty_func_P_parseState_string_int_I_18a27a (.tmp 113) (.const .nilFunc) x9 .nilFunc; binOp .neq ty_func_P_parseState_string_int_I_18a27a x9 .nilFunc).run P w = .ok (.bool r38) w39 ∧
 br r38
 (enterE P (do let d ← Deferred.ofValue x9 #[.pointer x0, .string x1, .int .i64 x8]; invoke d.target d.args) (fun e w41 => ∃ (r40_0 : Value), ∃ (r40_1 : Int), ∃ (r40_2 : Int), ∃ (r40_3 : Bool), e = .returned (.tuple #[r40_0, .int .i64 r40_1, .int .i64 r40_2, .bool r40_3]) ∧
 br r40_3
 (callE P i_parseState_emit #[.pointer x0, .int .i64 r40_1] (fun e w43 => e = .returned (.tuple #[]) ∧
 ∃ (r44_0 : OA), ∃ (r44_1 : Bool), ∃ w45, (Instr.typeAssert r40_0 ty_Inline ty_P_openPlain true).run P w43 = .ok (.tuple #[.pointer r44_0, .bool r44_1]) w45 ∧
 br r44_1
 (nilP x0 fun a46 =>
 ∃ (v47q : OA), ∃ (v47n : Nat), ∃ (v47c : Nat), w45.cell? (a46.add 9) = some (.slice v47q v47n v47c) ∧
 ∃ (r48q : OA), ∃ (r48n : Nat), ∃ (r48c : Nat), ∃ w49, (Instr.buildSlice ty_S_int 1 #[(0, .int .i64 (v47n : Int))]).run P w45 = .ok (.slice r48q r48n r48c) w49 ∧
 ∃ (r50q : OA), ∃ (r50n : Nat), ∃ (r50c : Nat), ∃ w51, (Builtin.append_ #[ty_S_int, ty_S_int] ty_S_int #[.slice x5q x5n x5c, .slice r48q r48n r48c]).run P w49 = .ok (.slice r50q r50n r50c) w51 ∧
 k4 R Xa x0 x1 r50q r50n r50c x6 x7 r40_0 r40_2 w51)
 (k4 R Xa x0 x1 x5q x5n x5c x6 x7 r40_0 r40_2 w45)) w41)
 (k5 R Xa x0 x1 x5q x5n x5c x6 x7 x8 w41)) w39)
 (k5 R Xa x0 x1 x5q x5n x5c x6 x7 x8 w39)

def k2 (R : EP) (Xa : OA → BA → OA → Nat → Nat → Int → Bool → Int → WP) (x0 : OA) (x1 : BA) (x5q : OA) (x5n : Nat) (x5c : Nat) (x6 : Int) (x7 : Bool) (x8 : Int) (w : World) : Prop :=
 nilP x0 fun a52 =>
 k1 R Xa x0 x1 x5q x5n x5c x6 x7 x8 (.func (.func i_backtickParser_parseCodeSpan) #[.pointer (some (a52.add 12))] #[]) w

def k6 (R : EP) (Xa : OA → BA → OA → Nat → Nat → Int → Bool → Int → WP) (x0 : OA) (x1 : BA) (x5q : OA) (x5n : Nat) (x5c : Nat) (x6 : Int) (x7 : Bool) (x8 : Int) (x9 : Value) (x39 : Int) (x81 : Bool) (w : World) : Prop :=
 br x81
 (nilP x0 fun a71 =>
 ∃ (v72 : OA), w.cell? a71 = some (.pointer v72) ∧
 nilP v72 fun a73 =>
 ∃ (v74 : Bool), w.cell? (a73.add 9) = some (.bool v74) ∧
 br v74
 (k1 R Xa x0 x1 x5q x5n x5c x6 x7 x8 (.func (.func i_parseEmph) #[] #[]) w)
 (k1 R Xa x0 x1 x5q x5n x5c x6 x7 x8 x9 w))
 (br (x39 == 126)
 (nilP x0 fun a75 =>
 ∃ (v76 : OA), w.cell? a75 = some (.pointer v76) ∧
 nilP v76 fun a77 =>
 ∃ (v78 : Bool), w.cell? (a77.add 1) = some (.bool v78) ∧
 br v78
 (k1 R Xa x0 x1 x5q x5n x5c x6 x7 x8 (.func (.func i_parseEmph) #[] #[]) w)
 (k1 R Xa x0 x1 x5q x5n x5c x6 x7 x8 x9 w))
 (br (x39 == 10)
 (k1 R Xa x0 x1 x5q x5n x5c x6 x7 x8 (.func (.func i_parseBreak) #[] #[]) w)
 (br (x39 == 38)
 (k1 R Xa x0 x1 x5q x5n x5c x6 x7 x8 (.func (.func i_parseHTMLEntity) #[] #[]) w)
 (br (x39 == 58)
 (nilP x0 fun a79 =>
 ∃ (v80 : OA), w.cell? a79 = some (.pointer v80) ∧
 nilP v80 fun a81 =>
 ∃ (v82 : Bool), w.cell? (a81.add 6) = some (.bool v82) ∧
 br v82
 (k1 R Xa x0 x1 x5q x5n x5c x6 x7 x8 (.func (.func i_parseEmoji) #[] #[]) w)
 (k1 R Xa x0 x1 x5q x5n x5c x6 x7 x8 x9 w))
 (k1 R Xa x0 x1 x5q x5n x5c x6 x7 x8 x9 w)))))

def k3 (R : EP) (Xa : OA → BA → OA → Nat → Nat → Int → Bool → Int → WP) (x0 : OA) (x1 : BA) (x5q : OA) (x5n : Nat) (x5c : Nat) (x6 : Int) (x7 : Bool) (x8 : Int) (x9 : Value) (x39 : Int) (x60 : Bool) (w : World) : Prop :=
 br x60
 (k1 R Xa x0 x1 x5q x5n x5c x6 x7 x8 (.func (.func i_parseEmph) #[] #[]) w)
 (br (x39 == 46)
 (nilP x0 fun a53 =>
 ∃ (v54 : OA), w.cell? a53 = some (.pointer v54) ∧
 nilP v54 fun a55 =>
 ∃ (v56 : Bool), w.cell? (a55.add 7) = some (.bool v56) ∧
 br v56
 (k1 R Xa x0 x1 x5q x5n x5c x6 x7 x8 (.func (.func i_parseDot) #[] #[]) w)
 (k1 R Xa x0 x1 x5q x5n x5c x6 x7 x8 x9 w))
 (br (x39 == 45)
 (nilP x0 fun a57 =>
 ∃ (v58 : OA), w.cell? a57 = some (.pointer v58) ∧
 nilP v58 fun a59 =>
 ∃ (v60 : Bool), w.cell? (a59.add 8) = some (.bool v60) ∧
 br v60
 (k1 R Xa x0 x1 x5q x5n x5c x6 x7 x8 (.func (.func i_parseDash) #[] #[]) w)
 (k1 R Xa x0 x1 x5q x5n x5c x6 x7 x8 x9 w))
 (br (x39 == 34)
 (k6 R Xa x0 x1 x5q x5n x5c x6 x7 x8 x9 x39 true w)
 (k6 R Xa x0 x1 x5q x5n x5c x6 x7 x8 x9 x39 (x39 == 39) w))))

def bl1 (R : EP) (Xa : OA → BA → OA → Nat → Nat → Int → Bool → Int → WP) (x0 : OA) (x1 : BA) (x5q : OA) (x5n : Nat) (x5c : Nat) (x6 : Int) (x7 : Bool) (x8 : Int) (w : World) : Prop :=
 br (decide (x8 < (x1.size : Int)))
 (0 ≤ x8 ∧ x8 < (x1.size : Int) ∧
 br ((bt x1 x8) == 92)
 (k1 R Xa x0 x1 x5q x5n x5c x6 x7 x8 (.func (.func i_parseEscape) #[] #[]) w)
 (br ((bt x1 x8) == 96)
 (br (!x7)
 (nilP x0 fun a9 =>
 callE P i_backtickParser_reset #[.pointer (some (a9.add 12))] (fun e w11 => e = .returned (.tuple #[]) ∧
 k2 R Xa x0 x1 x5q x5n x5c x6 true x8 w11) w)
 (k2 R Xa x0 x1 x5q x5n x5c x6 x7 x8 w))
 (br ((bt x1 x8) == 60)
 (k1 R Xa x0 x1 x5q x5n x5c x6 x7 x8 (.func (.func i_parseAutoLinkOrHTML) #[] #[]) w)
 (br ((bt x1 x8) == 91)
 (k1 R Xa x0 x1 x5q x5n x5c x6 x7 x8 (.func (.func i_parseLinkOpen) #[] #[]) w)
 (br ((bt x1 x8) == 33)
 (k1 R Xa x0 x1 x5q x5n x5c x6 x7 x8 (.func (.func i_parseImageOpen) #[] #[]) w)
 (br ((bt x1 x8) == 95)
 (k3 R Xa x0 x1 x5q x5n x5c x6 x7 x8 .nilFunc (bt x1 x8) true w)
 (k3 R Xa x0 x1 x5q x5n x5c x6 x7 x8 .nilFunc (bt x1 x8) ((bt x1 x8) == 42) w)))))))
 (callE P i_parseState_emit #[.pointer x0, .int .i64 (x1.size : Int)] (fun e w13 => e = .returned (.tuple #[]) ∧
 tk w13 fun w14 =>
 nilP x0 fun a15 =>
 nilP x0 fun a16 =>
 ∃ (v17q : OA), ∃ (v17n : Nat), ∃ (v17c : Nat), w14.cell? (a15.add 9) = some (.slice v17q v17n v17c) ∧
 ∃ (r18q : OA), ∃ (r18n : Nat), ∃ (r18c : Nat), (∀ w, (Instr.sliceAt ty_S_Inline (.slice v17q v17n v17c) none (some (.int .i64 0)) none).run P w = .ok (.slice r18q r18n r18c) w) ∧
 ∃ (v19q : OA), ∃ (v19n : Nat), ∃ (v19c : Nat), w14.cell? (a16.add 9) = some (.slice v19q v19n v19c) ∧
 callE P i_parseState_emph #[.pointer x0, .slice r18q r18n r18c, .slice v19q v19n v19c] (fun e w21 => ∃ (r20q : OA), ∃ (r20n : Nat), ∃ (r20c : Nat), e = .returned (.slice r20q r20n r20c) ∧
 nilP x0 fun a22 =>
 stV w21 ((a22.add 9).add 0) (.slice r20q r20n r20c) fun w23 =>
 nilP x0 fun a24 =>
 ∃ (v25q : OA), ∃ (v25n : Nat), ∃ (v25c : Nat), w23.cell? (a24.add 9) = some (.slice v25q v25n v25c) ∧
 callE P i_parseState_mergePlain #[.pointer x0, .slice v25q v25n v25c] (fun e w27 => ∃ (r26q : OA), ∃ (r26n : Nat), ∃ (r26c : Nat), e = .returned (.slice r26q r26n r26c) ∧
 nilP x0 fun a28 =>
 stV w27 ((a28.add 9).add 0) (.slice r26q r26n r26c) fun w29 =>
 nilP x0 fun a30 =>
 ∃ (v31q : OA), ∃ (v31n : Nat), ∃ (v31c : Nat), w29.cell? (a30.add 9) = some (.slice v31q v31n v31c) ∧
 callE P i_parseState_autoLinkText #[.pointer x0, .slice v31q v31n v31c] (fun e w33 => ∃ (r32q : OA), ∃ (r32n : Nat), ∃ (r32c : Nat), e = .returned (.slice r32q r32n r32c) ∧
 nilP x0 fun a34 =>
 stV w33 ((a34.add 9).add 0) (.slice r32q r32n r32c) fun w35 =>
 nilP x0 fun a36 =>
 ∃ (v37q : OA), ∃ (v37n : Nat), ∃ (v37c : Nat), w35.cell? (a36.add 9) = some (.slice v37q v37n v37c) ∧
 R (.returned (.slice v37q v37n v37c)) w35) w29) w23) w14) w)
def l1 (R : EP) (x0 : OA) (x1 : BA) (x5q : OA) (x5n : Nat) (x5c : Nat) (x6 : Int) (x7 : Bool) (x8 : Int) (w : World) : Prop :=
  ∀ X : OA → BA → OA → Nat → Nat → Int → Bool → Int → WP, (∀ x0 x1 x5q x5n x5c x6 x7 x8 w, bl1 R X x0 x1 x5q x5n x5c x6 x7 x8 w → X x0 x1 x5q x5n x5c x6 x7 x8 w) → X x0 x1 x5q x5n x5c x6 x7 x8 w

noncomputable def al1 (R : EP) (Xa : OA → BA → OA → Nat → Nat → Int → Bool → Int → WP) : AC :=
  (.seq (.leaf (sel [1, 1, 1, 1, 1, 1, 1, 1, 1, 0, 0, 0, 0] body)) (.block 1 (.seq (.leaf (sel [1, 1, 1, 1, 1, 1, 1, 1, 1, 0, 0, 0, 1, 0, 0] body)) (.seq (.seq (.leaf (sel [1, 1, 1, 1, 1, 1, 1, 1, 1, 0, 0, 0, 1, 0, 1, 0, 0] body)) (.block 2 (.seq (.leaf (sel [1, 1, 1, 1, 1, 1, 1, 1, 1, 0, 0, 0, 1, 0, 1, 0, 1, 0, 0] body)) (.cond 40 (.leaf (sel [1, 1, 1, 1, 1, 1, 1, 1, 1, 0, 0, 0, 1, 0, 1, 0, 1, 0, 1, 0] body)) (.seq (.leaf (sel [1, 1, 1, 1, 1, 1, 1, 1, 1, 0, 0, 0, 1, 0, 1, 0, 1, 0, 1, 1, 0] body)) (.cond 42 (.seq (.leaf (sel [1, 1, 1, 1, 1, 1, 1, 1, 1, 0, 0, 0, 1, 0, 1, 0, 1, 0, 1, 1, 1, 0, 0] body)) (.mark (leaf [(0, .s .ptr), (1, .s .str), (5, .s .slice), (6, .s (.int .i64)), (7, .s .bool), (8, .s (.int .i64))] (k2 R Xa)) (.leaf (sel [1, 1, 1, 1, 1, 1, 1, 1, 1, 0, 0, 0, 1, 0, 1, 0, 1, 0, 1, 1, 1, 0, 1] body)))) (.seq (.leaf (sel [1, 1, 1, 1, 1, 1, 1, 1, 1, 0, 0, 0, 1, 0, 1, 0, 1, 0, 1, 1, 1, 1, 0] body)) (.cond 54 (.leaf (sel [1, 1, 1, 1, 1, 1, 1, 1, 1, 0, 0, 0, 1, 0, 1, 0, 1, 0, 1, 1, 1, 1, 1, 0] body)) (.seq (.leaf (sel [1, 1, 1, 1, 1, 1, 1, 1, 1, 0, 0, 0, 1, 0, 1, 0, 1, 0, 1, 1, 1, 1, 1, 1, 0] body)) (.cond 56 (.leaf (sel [1, 1, 1, 1, 1, 1, 1, 1, 1, 0, 0, 0, 1, 0, 1, 0, 1, 0, 1, 1, 1, 1, 1, 1, 1, 0] body)) (.seq (.leaf (sel [1, 1, 1, 1, 1, 1, 1, 1, 1, 0, 0, 0, 1, 0, 1, 0, 1, 0, 1, 1, 1, 1, 1, 1, 1, 1, 0] body)) (.cond 58 (.leaf (sel [1, 1, 1, 1, 1, 1, 1, 1, 1, 0, 0, 0, 1, 0, 1, 0, 1, 0, 1, 1, 1, 1, 1, 1, 1, 1, 1, 0] body)) (.seq (.leaf (sel [1, 1, 1, 1, 1, 1, 1, 1, 1, 0, 0, 0, 1, 0, 1, 0, 1, 0, 1, 1, 1, 1, 1, 1, 1, 1, 1, 1, 0] body)) (.mark (leaf [(0, .s .ptr), (1, .s .str), (5, .s .slice), (6, .s (.int .i64)), (7, .s .bool), (8, .s (.int .i64)), (9, .s .any), (39, .s (.int .u8)), (60, .s .bool)] (k3 R Xa)) (.cond 60 (.leaf (sel [1, 1, 1, 1, 1, 1, 1, 1, 1, 0, 0, 0, 1, 0, 1, 0, 1, 0, 1, 1, 1, 1, 1, 1, 1, 1, 1, 1, 1, 0] body)) (.seq (.leaf (sel [1, 1, 1, 1, 1, 1, 1, 1, 1, 0, 0, 0, 1, 0, 1, 0, 1, 0, 1, 1, 1, 1, 1, 1, 1, 1, 1, 1, 1, 1, 0] body)) (.cond 63 (.leaf (sel [1, 1, 1, 1, 1, 1, 1, 1, 1, 0, 0, 0, 1, 0, 1, 0, 1, 0, 1, 1, 1, 1, 1, 1, 1, 1, 1, 1, 1, 1, 1, 0] body)) (.seq (.leaf (sel [1, 1, 1, 1, 1, 1, 1, 1, 1, 0, 0, 0, 1, 0, 1, 0, 1, 0, 1, 1, 1, 1, 1, 1, 1, 1, 1, 1, 1, 1, 1, 1, 0] body)) (.cond 72 (.leaf (sel [1, 1, 1, 1, 1, 1, 1, 1, 1, 0, 0, 0, 1, 0, 1, 0, 1, 0, 1, 1, 1, 1, 1, 1, 1, 1, 1, 1, 1, 1, 1, 1, 1, 0] body)) (.seq (.leaf (sel [1, 1, 1, 1, 1, 1, 1, 1, 1, 0, 0, 0, 1, 0, 1, 0, 1, 0, 1, 1, 1, 1, 1, 1, 1, 1, 1, 1, 1, 1, 1, 1, 1, 1, 0] body)) (.mark (leaf [(0, .s .ptr), (1, .s .str), (5, .s .slice), (6, .s (.int .i64)), (7, .s .bool), (8, .s (.int .i64)), (9, .s .any), (39, .s (.int .u8)), (81, .s .bool)] (k6 R Xa)) (.leaf (sel [1, 1, 1, 1, 1, 1, 1, 1, 1, 0, 0, 0, 1, 0, 1, 0, 1, 0, 1, 1, 1, 1, 1, 1, 1, 1, 1, 1, 1, 1, 1, 1, 1, 1, 1] body))))))))))))))))))))))) (.mark (leaf [(0, .s .ptr), (1, .s .str), (5, .s .slice), (6, .s (.int .i64)), (7, .s .bool), (8, .s (.int .i64)), (9, .s .any)] (k1 R Xa)) (.seq (.seq (.leaf (sel [1, 1, 1, 1, 1, 1, 1, 1, 1, 0, 0, 0, 1, 0, 1, 1, 0, 0] body)) (.cond 114 (.seq (.leaf (sel [1, 1, 1, 1, 1, 1, 1, 1, 1, 0, 0, 0, 1, 0, 1, 1, 0, 1, 0, 0] body)) (.seq (.leaf (sel [1, 1, 1, 1, 1, 1, 1, 1, 1, 0, 0, 0, 1, 0, 1, 1, 0, 1, 0, 1, 0] body)) (.cond 125 (.seq (.leaf (sel [1, 1, 1, 1, 1, 1, 1, 1, 1, 0, 0, 0, 1, 0, 1, 1, 0, 1, 0, 1, 1, 0, 0] body)) (.seq (.leaf (sel [1, 1, 1, 1, 1, 1, 1, 1, 1, 0, 0, 0, 1, 0, 1, 1, 0, 1, 0, 1, 1, 0, 1, 0] body)) (.mark (leaf [(0, .s .ptr), (1, .s .str), (5, .s .slice), (6, .s (.int .i64)), (7, .s .bool), (10, .s .any), (12, .s (.int .i64))] (k4 R Xa)) (.leaf (sel [1, 1, 1, 1, 1, 1, 1, 1, 1, 0, 0, 0, 1, 0, 1, 1, 0, 1, 0, 1, 1, 0, 1, 1] body))))) (.leaf (sel [1, 1, 1, 1, 1, 1, 1, 1, 1, 0, 0, 0, 1, 0, 1, 1, 0, 1, 0, 1, 1, 1] body))))) (.leaf (sel [1, 1, 1, 1, 1, 1, 1, 1, 1, 0, 0, 0, 1, 0, 1, 1, 0, 1, 1] body)))) (.mark (leaf [(0, .s .ptr), (1, .s .str), (5, .s .slice), (6, .s (.int .i64)), (7, .s .bool), (8, .s (.int .i64))] (k5 R Xa)) (.seq (.seq (.leaf (sel [1, 1, 1, 1, 1, 1, 1, 1, 1, 0, 0, 0, 1, 0, 1, 1, 1, 0, 0] body)) (.mark (leaf [(0, .s .ptr), (1, .s .str), (5, .s .slice), (6, .s (.int .i64)), (7, .s .bool), (8, .s (.int .i64)), (165, .s .bool)] (k7 R Xa)) (.cond 165 (.seq (.leaf (sel [1, 1, 1, 1, 1, 1, 1, 1, 1, 0, 0, 0, 1, 0, 1, 1, 1, 0, 1, 0, 0] body)) (.seq (.leaf (sel [1, 1, 1, 1, 1, 1, 1, 1, 1, 0, 0, 0, 1, 0, 1, 1, 1, 0, 1, 0, 1, 0] body)) (.seq (.leaf (sel [1, 1, 1, 1, 1, 1, 1, 1, 1, 0, 0, 0, 1, 0, 1, 1, 1, 0, 1, 0, 1, 1, 0] body)) (.seq (.leaf (sel [1, 1, 1, 1, 1, 1, 1, 1, 1, 0, 0, 0, 1, 0, 1, 1, 1, 0, 1, 0, 1, 1, 1, 0] body)) (.mark (leaf [(0, .s .ptr), (1, .s .str), (5, .s .slice), (6, .s (.int .i64)), (7, .s .bool), (8, .s (.int .i64)), (16, .s (.int .i64)), (17, .s .ptr), (199, .s .bool)] (k8 R Xa)) (.cond 199 (.seq (.leaf (sel [1, 1, 1, 1, 1, 1, 1, 1, 1, 0, 0, 0, 1, 0, 1, 1, 1, 0, 1, 0, 1, 1, 1, 1, 0, 0] body)) (.seq (.leaf (sel [1, 1, 1, 1, 1, 1, 1, 1, 1, 0, 0, 0, 1, 0, 1, 1, 1, 0, 1, 0, 1, 1, 1, 1, 0, 1, 0] body)) (.cond 209 (.seq (.leaf (sel [1, 1, 1, 1, 1, 1, 1, 1, 1, 0, 0, 0, 1, 0, 1, 1, 1, 0, 1, 0, 1, 1, 1, 1, 0, 1, 1, 0, 0] body)) (.mark (leaf [(0, .s .ptr), (1, .s .str), (5, .s .slice), (6, .s (.int .i64)), (7, .s .bool), (8, .s (.int .i64)), (16, .s (.int .i64)), (17, .s .ptr), (18, .s .ptr), (19, .s (.int .i64))] (k9 R Xa)) (.seq (.leaf (sel [1, 1, 1, 1, 1, 1, 1, 1, 1, 0, 0, 0, 1, 0, 1, 1, 1, 0, 1, 0, 1, 1, 1, 1, 0, 1, 1, 0, 1, 0] body)) (.seq (.leaf (sel [1, 1, 1, 1, 1, 1, 1, 1, 1, 0, 0, 0, 1, 0, 1, 1, 1, 0, 1, 0, 1, 1, 1, 1, 0, 1, 1, 0, 1, 1, 0] body)) (.seq (.leaf (sel [1, 1, 1, 1, 1, 1, 1, 1, 1, 0, 0, 0, 1, 0, 1, 1, 1, 0, 1, 0, 1, 1, 1, 1, 0, 1, 1, 0, 1, 1, 1, 0] body)) (.mark (leaf [(0, .s .ptr), (1, .s .str), (5, .s .slice), (6, .s (.int .i64)), (7, .s .bool), (16, .s (.int .i64)), (17, .s .ptr), (19, .s (.int .i64))] (k10 R Xa)) (.leaf (sel [1, 1, 1, 1, 1, 1, 1, 1, 1, 0, 0, 0, 1, 0, 1, 1, 1, 0, 1, 0, 1, 1, 1, 1, 0, 1, 1, 0, 1, 1, 1, 1] body)))))))) (.leaf (sel [1, 1, 1, 1, 1, 1, 1, 1, 1, 0, 0, 0, 1, 0, 1, 1, 1, 0, 1, 0, 1, 1, 1, 1, 0, 1, 1, 1] body))))) (.leaf (sel [1, 1, 1, 1, 1, 1, 1, 1, 1, 0, 0, 0, 1, 0, 1, 1, 1, 0, 1, 0, 1, 1, 1, 1, 1] body)))))))) (.leaf (sel [1, 1, 1, 1, 1, 1, 1, 1, 1, 0, 0, 0, 1, 0, 1, 1, 1, 0, 1, 1] body))))) (.leaf (sel [1, 1, 1, 1, 1, 1, 1, 1, 1, 0, 0, 0, 1, 0, 1, 1, 1, 1] body))))))))))
end g_parseState_inline
def g_parseState_inline (R : EP) (x0 : OA) (x1 : BA) (w : World) : Prop :=
 callE P i_trimSpaceTab #[.string x1] (fun e w2 => ∃ (r1 : BA), e = .returned (.string r1) ∧
 nilP x0 fun a3 =>
 stV w2 ((a3.add 7).add 0) (.string r1) fun w4 =>
 nilP x0 fun a5 =>
 stV w4 ((a5.add 9).add 0) (.slice none 0 0) fun w6 =>
 nilP x0 fun a7 =>
 stV w6 ((a7.add 8).add 0) (.int .i64 0) fun w8 =>
 g_parseState_inline.l1 R x0 r1 none 0 0 0 false 0 w8) w

noncomputable def g_parseState_inline.ac (R : EP) : AC :=
  (.seq (.leaf (sel [0] g_parseState_inline.body)) (.seq (.leaf (sel [1, 0] g_parseState_inline.body)) (.seq (.leaf (sel [1, 1, 0] g_parseState_inline.body)) (.seq (.leaf (sel [1, 1, 1, 0] g_parseState_inline.body)) (.seq (.leaf (sel [1, 1, 1, 1, 0] g_parseState_inline.body)) (.seq (.leaf (sel [1, 1, 1, 1, 1, 0] g_parseState_inline.body)) (.seq (.leaf (sel [1, 1, 1, 1, 1, 1, 0] g_parseState_inline.body)) (.seq (.leaf (sel [1, 1, 1, 1, 1, 1, 1, 0] g_parseState_inline.body)) (.seq (.leaf (sel [1, 1, 1, 1, 1, 1, 1, 1, 0] g_parseState_inline.body)) (.seq (.block 0 (.loop (leaf [(0, .s .ptr), (1, .s .str), (5, .s .slice), (6, .s (.int .i64)), (7, .s .bool), (8, .s (.int .i64))] (g_parseState_inline.l1 R)) (sel [1, 1, 1, 1, 1, 1, 1, 1, 1, 0, 0, 0] g_parseState_inline.body))) (.seq (.leaf (sel [1, 1, 1, 1, 1, 1, 1, 1, 1, 1, 0] g_parseState_inline.body)) (.seq (.draw (.pure 0 (.pure 1 (.pure 2 (.pure 3 (.pure 4 (.pure 7 (.pure 8 (.pure 9 (.load 5 (.pure 6 (.load 10 (.one 11 (.pure 12 (.pure 13 (.one 14 .done))))))))))))))) (sel [1, 1, 1, 1, 1, 1, 1, 1, 1, 1, 1, 0] g_parseState_inline.body)) (.leaf (sel [1, 1, 1, 1, 1, 1, 1, 1, 1, 1, 1, 1] g_parseState_inline.body))))))))))))))
theorem g_parseState_inline.good (R : EP) : Good P 335 (g_parseState_inline.ac R) (QF P [.tmp 4] R) :=
  ⟨trivial, ⟨trivial, ⟨trivial, ⟨trivial, ⟨trivial, ⟨trivial, ⟨trivial, ⟨trivial, ⟨trivial, ⟨(loopG (g_parseState_inline.al1 R) (g_parseState_inline.bl1 R) (fun _ => by kernel_rfl) (fun Xa => ⟨trivial, ⟨trivial, ⟨⟨trivial, ⟨trivial, ⟨trivial, ⟨trivial, ⟨⟨trivial, ⟨trivial, cutE (by intro x0 x1 x5q x5n x5c x6 x7 x8 ρ w; kernel_rfl)⟩⟩, ⟨trivial, ⟨trivial, ⟨trivial, ⟨trivial, ⟨trivial, ⟨trivial, ⟨trivial, ⟨⟨trivial, ⟨trivial, ⟨trivial, ⟨trivial, ⟨trivial, ⟨trivial, ⟨trivial, cutE (by intro x0 x1 x5q x5n x5c x6 x7 x8 x9 x39 x81 ρ w; kernel_rfl)⟩⟩⟩⟩⟩⟩⟩, cutE (by intro x0 x1 x5q x5n x5c x6 x7 x8 x9 x39 x60 ρ w; kernel_rfl)⟩⟩⟩⟩⟩⟩⟩⟩⟩⟩⟩⟩⟩, ⟨⟨⟨trivial, ⟨⟨trivial, ⟨trivial, ⟨⟨trivial, ⟨trivial, ⟨trivial, cutE (by intro x0 x1 x5q x5n x5c x6 x7 x10 x12 ρ w; kernel_rfl)⟩⟩⟩, trivial⟩⟩⟩, trivial⟩⟩, ⟨⟨⟨trivial, ⟨⟨⟨trivial, ⟨trivial, ⟨trivial, ⟨trivial, ⟨⟨⟨trivial, ⟨trivial, ⟨⟨trivial, ⟨⟨trivial, ⟨trivial, ⟨trivial, ⟨trivial, cutE (by intro x0 x1 x5q x5n x5c x6 x7 x16 x17 x19 ρ w; kernel_rfl)⟩⟩⟩⟩, cutE (by intro x0 x1 x5q x5n x5c x6 x7 x8 x16 x17 x18 x19 ρ w; kernel_rfl)⟩⟩, trivial⟩⟩⟩, trivial⟩, cutE (by intro x0 x1 x5q x5n x5c x6 x7 x8 x16 x17 x199 ρ w; kernel_rfl)⟩⟩⟩⟩⟩, trivial⟩, cutE (by intro x0 x1 x5q x5n x5c x6 x7 x8 x165 ρ w; kernel_rfl)⟩⟩, trivial⟩, cutE (by intro x0 x1 x5q x5n x5c x6 x7 x8 ρ w; kernel_rfl)⟩⟩, cutE (by intro x0 x1 x5q x5n x5c x6 x7 x8 x9 ρ w; kernel_rfl)⟩⟩⟩⟩) (fun Xa => by intro x0 x1 x5q x5n x5c x6 x7 x8 ρ w; kernel_rfl) (fun X h _ _ _ _ _ _ _ _ _ g => g X h)), ⟨trivial, ⟨⟨by kernel_rfl, by kernel_rfl, fun _ _ _ h => h⟩, trivial⟩⟩⟩⟩⟩⟩⟩⟩⟩⟩⟩⟩
theorem g_parseState_inline.eq (R : EP) (x0 : OA) (x1 : BA) (w : World) : g_parseState_inline R x0 x1 w = vcA P 335 (g_parseState_inline.ac R) (QF P [.tmp 4] R) (fr0 [.pointer x0, .string x1]) w := by kernel_rfl
theorem g_parseState_inline.sound {R : EP} {x0 : OA} {x1 : ByteArray} {w : World} (h : g_parseState_inline R x0 x1 w) : callE P i_parseState_inline #[.pointer x0, .string x1] R w :=
  callE_fin (c := g_parseState_inline.body) Tryz.func34 Tryz.call34 (by kernel_rfl) (by kernel_rfl) (by kernel_rfl) (by kernel_rfl) (by kernel_rfl) (g_parseState_inline.good R) (g_parseState_inline.eq R x0 x1 w) h
namespace g_parseState_autoLinkText
noncomputable def body : Code := bodyOf Tryz.f59
def k1 (R : EP) (Xa : OA → OA → Nat → Nat → OA → Nat → Nat → OA → Nat → Nat → Int → Int → WP) (x0 : OA) (x1q : OA) (x1n : Nat) (x1c : Nat) (x5q : OA) (x5n : Nat) (x5c : Nat) (x9q : OA) (x9n : Nat) (x9c : Nat) (x22q : OA) (x22n : Nat) (x22c : Nat) (x23 : Int) (x24 : Int) (w : World) : Prop :=
 ∃ (r47q : OA), ∃ (r47n : Nat), ∃ (r47c : Nat), ∃ w48, (Builtin.append_ #[ty_S_Inline, ty_S_Inline] ty_S_Inline #[.slice x5q x5n x5c, .slice x9q x9n x9c]).run P w = .ok (.slice r47q r47n r47c) w48 ∧
 Xa x0 x1q x1n x1c r47q r47n r47c x22q x22n x22c x23 (IntKind.i64.wrap (x24 + 1)) w48

def k2 (R : EP) (Xa : OA → OA → Nat → Nat → OA → Nat → Nat → OA → Nat → Nat → Int → Int → WP) (x0 : OA) (x1q : OA) (x1n : Nat) (x1c : Nat) (x5q : OA) (x5n : Nat) (x5c : Nat) (x7 : Value) (x22q : OA) (x22n : Nat) (x22c : Nat) (x23 : Int) (x24 : Int) (w : World) : Prop :=
 ∃ (r49 : Bool), ∃ w50, (do eqGuard .neq ty_S_Inline (.tmp 87) (.const (.slice none 0 0)) (.slice x5q x5n x5c) (.slice none 0 0); binOp .neq ty_S_Inline (.slice x5q x5n x5c) (.slice none 0 0)).run P w = .ok (.bool r49) w50 ∧
 br r49
 (∃ (r51q : OA), ∃ (r51n : Nat), ∃ (r51c : Nat), ∃ w52, (Instr.buildSlice ty_S_Inline 1 #[(0, x7)]).run P w50 = .ok (.slice r51q r51n r51c) w52 ∧
 ∃ (r53q : OA), ∃ (r53n : Nat), ∃ (r53c : Nat), ∃ w54, (Builtin.append_ #[ty_S_Inline, ty_S_Inline] ty_S_Inline #[.slice x5q x5n x5c, .slice r51q r51n r51c]).run P w52 = .ok (.slice r53q r53n r53c) w54 ∧
 Xa x0 x1q x1n x1c r53q r53n r53c x22q x22n x22c x23 (IntKind.i64.wrap (x24 + 1)) w54)
 (Xa x0 x1q x1n x1c x5q x5n x5c x22q x22n x22c x23 (IntKind.i64.wrap (x24 + 1)) w50)

def bl1 (R : EP) (Xa : OA → OA → Nat → Nat → OA → Nat → Nat → OA → Nat → Nat → Int → Int → WP) (x0 : OA) (x1q : OA) (x1n : Nat) (x1c : Nat) (x5q : OA) (x5n : Nat) (x5c : Nat) (x22q : OA) (x22n : Nat) (x22c : Nat) (x23 : Int) (x24 : Int) (w : World) : Prop :=
 br (decide (x24 < x23))
 (0 ≤ x24 ∧ x24 < (x22n : Int) ∧
 nilP x22q fun a5 =>
 ∃ (v6 : Value), w.cell? (a5.add (Int.toNat x24 * 1)) = some v6 ∧
 ∃ (r7_0 : OA), ∃ (r7_1 : Bool), ∃ w8, (Instr.typeAssert v6 ty_Inline ty_P_Plain true).run P w = .ok (.tuple #[.pointer r7_0, .bool r7_1]) w8 ∧
 br r7_1
 (nilP r7_0 fun a9 =>
 ∃ (v10 : BA), w8.cell? a9 = some (.string v10) ∧
 callE P i_parseState_autoLinkPlain #[.pointer x0, .string v10] (fun e w12 => ∃ (r11q : OA), ∃ (r11n : Nat), ∃ (r11c : Nat), e = .returned (.slice r11q r11n r11c) ∧
 ∃ (r13 : Bool), ∃ w14, (do eqGuard .neq ty_S_Inline (.tmp 39) (.const (.slice none 0 0)) (.slice r11q r11n r11c) (.slice none 0 0); binOp .neq ty_S_Inline (.slice r11q r11n r11c) (.slice none 0 0)).run P w12 = .ok (.bool r13) w14 ∧
 br r13
 (∃ (r15 : Bool), ∃ w16, (do eqGuard .eql ty_S_Inline (.tmp 41) (.const (.slice none 0 0)) (.slice x5q x5n x5c) (.slice none 0 0); binOp .eql ty_S_Inline (.slice x5q x5n x5c) (.slice none 0 0)).run P w14 = .ok (.bool r15) w16 ∧
 br r15
 (∃ (r17q : OA), ∃ (r17n : Nat), ∃ (r17c : Nat), ∃ w18, (Instr.sliceAt ty_S_Inline (.slice x1q x1n x1c) none (some (.int .i64 x24)) none).run P w16 = .ok (.slice r17q r17n r17c) w18 ∧
 ∃ (r19q : OA), ∃ (r19n : Nat), ∃ (r19c : Nat), ∃ w20, (Builtin.append_ #[ty_S_Inline, ty_S_Inline] ty_S_Inline #[.slice x5q x5n x5c, .slice r17q r17n r17c]).run P w18 = .ok (.slice r19q r19n r19c) w20 ∧
 k1 R Xa x0 x1q x1n x1c r19q r19n r19c r11q r11n r11c x22q x22n x22c x23 x24 w20)
 (k1 R Xa x0 x1q x1n x1c x5q x5n x5c r11q r11n r11c x22q x22n x22c x23 x24 w16))
 (k2 R Xa x0 x1q x1n x1c x5q x5n x5c v6 x22q x22n x22c x23 x24 w14)) w8)
 (∃ (r21_0 : OA), ∃ (r21_1 : Bool), ∃ w22, (Instr.typeAssert v6 ty_Inline ty_P_Strong true).run P w8 = .ok (.tuple #[.pointer r21_0, .bool r21_1]) w22 ∧
 br r21_1
 (nilP r21_0 fun a23 =>
 ∃ (v24q : OA), ∃ (v24n : Nat), ∃ (v24c : Nat), w22.cell? (a23.add 1) = some (.slice v24q v24n v24c) ∧
 callE P i_parseState_autoLinkText #[.pointer x0, .slice v24q v24n v24c] (fun e w26 => ∃ (r25q : OA), ∃ (r25n : Nat), ∃ (r25c : Nat), e = .returned (.slice r25q r25n r25c) ∧
 nilP r21_0 fun a27 =>
 stV w26 ((a27.add 1).add 0) (.slice r25q r25n r25c) fun w28 =>
 k2 R Xa x0 x1q x1n x1c x5q x5n x5c v6 x22q x22n x22c x23 x24 w28) w22)
 (∃ (r29_0 : OA), ∃ (r29_1 : Bool), ∃ w30, (Instr.typeAssert v6 ty_Inline ty_P_Del true).run P w22 = .ok (.tuple #[.pointer r29_0, .bool r29_1]) w30 ∧
 br r29_1
 (nilP r29_0 fun a31 =>
 ∃ (v32q : OA), ∃ (v32n : Nat), ∃ (v32c : Nat), w30.cell? (a31.add 1) = some (.slice v32q v32n v32c) ∧
 callE P i_parseState_autoLinkText #[.pointer x0, .slice v32q v32n v32c] (fun e w34 => ∃ (r33q : OA), ∃ (r33n : Nat), ∃ (r33c : Nat), e = .returned (.slice r33q r33n r33c) ∧
 nilP r29_0 fun a35 =>
 stV w34 ((a35.add 1).add 0) (.slice r33q r33n r33c) fun w36 =>
 k2 R Xa x0 x1q x1n x1c x5q x5n x5c v6 x22q x22n x22c x23 x24 w36) w30)
 (∃ (r37_0 : OA), ∃ (r37_1 : Bool), ∃ w38, (Instr.typeAssert v6 ty_Inline ty_P_Emph true).run P w30 = .ok (.tuple #[.pointer r37_0, .bool r37_1]) w38 ∧
 br r37_1
 (nilP r37_0 fun a39 =>
 ∃ (v40q : OA), ∃ (v40n : Nat), ∃ (v40c : Nat), w38.cell? (a39.add 1) = some (.slice v40q v40n v40c) ∧
 callE P i_parseState_autoLinkText #[.pointer x0, .slice v40q v40n v40c] (fun e w42 => ∃ (r41q : OA), ∃ (r41n : Nat), ∃ (r41c : Nat), e = .returned (.slice r41q r41n r41c) ∧
 nilP r37_0 fun a43 =>
 stV w42 ((a43.add 1).add 0) (.slice r41q r41n r41c) fun w44 =>
 k2 R Xa x0 x1q x1n x1c x5q x5n x5c v6 x22q x22n x22c x23 x24 w44) w38)
 (k2 R Xa x0 x1q x1n x1c x5q x5n x5c v6 x22q x22n x22c x23 x24 w38)))))
 (∃ (r45 : Bool), ∃ w46, (do eqGuard .eql ty_S_Inline (.tmp 94) (.const (.slice none 0 0)) (.slice x5q x5n x5c) (.slice none 0 0); binOp .eql ty_S_Inline (.slice x5q x5n x5c) (.slice none 0 0)).run P w = .ok (.bool r45) w46 ∧
 br r45
 (R (.returned (.slice x1q x1n x1c)) w46)
 (R (.returned (.slice x5q x5n x5c)) w46))
def l1 (R : EP) (x0 : OA) (x1q : OA) (x1n : Nat) (x1c : Nat) (x5q : OA) (x5n : Nat) (x5c : Nat) (x22q : OA) (x22n : Nat) (x22c : Nat) (x23 : Int) (x24 : Int) (w : World) : Prop :=
  ∀ X : OA → OA → Nat → Nat → OA → Nat → Nat → OA → Nat → Nat → Int → Int → WP, (∀ x0 x1q x1n x1c x5q x5n x5c x22q x22n x22c x23 x24 w, bl1 R X x0 x1q x1n x1c x5q x5n x5c x22q x22n x22c x23 x24 w → X x0 x1q x1n x1c x5q x5n x5c x22q x22n x22c x23 x24 w) → X x0 x1q x1n x1c x5q x5n x5c x22q x22n x22c x23 x24 w

noncomputable def al1 (R : EP) (Xa : OA → OA → Nat → Nat → OA → Nat → Nat → OA → Nat → Nat → Int → Int → WP) : AC :=
  (.seq (.leaf (sel [1, 1, 1, 0, 1, 0, 0, 0] body)) (.seq (.leaf (sel [1, 1, 1, 0, 1, 0, 0, 1, 0] body)) (.seq (.block 1 (.seq (.leaf (sel [1, 1, 1, 0, 1, 0, 0, 1, 1, 0, 0, 0] body)) (.seq (.seq (.leaf (sel [1, 1, 1, 0, 1, 0, 0, 1, 1, 0, 0, 1, 0, 0] body)) (.block 2 (.seq (.leaf (sel [1, 1, 1, 0, 1, 0, 0, 1, 1, 0, 0, 1, 0, 1, 0, 0] body)) (.cond 31 (.seq (.leaf (sel [1, 1, 1, 0, 1, 0, 0, 1, 1, 0, 0, 1, 0, 1, 0, 1, 0, 0] body)) (.seq (.leaf (sel [1, 1, 1, 0, 1, 0, 0, 1, 1, 0, 0, 1, 0, 1, 0, 1, 0, 1, 0] body)) (.seq (.leaf (sel [1, 1, 1, 0, 1, 0, 0, 1, 1, 0, 0, 1, 0, 1, 0, 1, 0, 1, 1, 0] body)) (.cond 40 (.seq (.leaf (sel [1, 1, 1, 0, 1, 0, 0, 1, 1, 0, 0, 1, 0, 1, 0, 1, 0, 1, 1, 1, 0, 0] body)) (.mark (leaf [(0, .s .ptr), (1, .s .slice), (5, .s .slice), (9, .s .slice), (22, .s .slice), (23, .s (.int .i64)), (24, .s (.int .i64))] (k1 R Xa)) (.leaf (sel [1, 1, 1, 0, 1, 0, 0, 1, 1, 0, 0, 1, 0, 1, 0, 1, 0, 1, 1, 1, 0, 1] body)))) (.leaf (sel [1, 1, 1, 0, 1, 0, 0, 1, 1, 0, 0, 1, 0, 1, 0, 1, 0, 1, 1, 1, 1] body)))))) (.leaf (sel [1, 1, 1, 0, 1, 0, 0, 1, 1, 0, 0, 1, 0, 1, 0, 1, 1] body)))))) (.mark (leaf [(0, .s .ptr), (1, .s .slice), (5, .s .slice), (7, .s .any), (22, .s .slice), (23, .s (.int .i64)), (24, .s (.int .i64))] (k2 R Xa)) (.leaf (sel [1, 1, 1, 0, 1, 0, 0, 1, 1, 0, 0, 1, 1] body)))))) (.leaf (sel [1, 1, 1, 0, 1, 0, 0, 1, 1, 1] body)))))
end g_parseState_autoLinkText
def g_parseState_autoLinkText (R : EP) (x0 : OA) (x1q : OA) (x1n : Nat) (x1c : Nat) (w : World) : Prop :=
 nilP x0 fun a1 =>
 ∃ (v2 : OA), w.cell? a1 = some (.pointer v2) ∧
 nilP v2 fun a3 =>
 ∃ (v4 : Bool), w.cell? (a3.add 3) = some (.bool v4) ∧
 br (!v4)
 (R (.returned (.slice x1q x1n x1c)) w)
 (g_parseState_autoLinkText.l1 R x0 x1q x1n x1c none 0 0 x1q x1n x1c (x1n : Int) 0 w)

noncomputable def g_parseState_autoLinkText.ac (R : EP) : AC :=
  (.seq (.leaf (sel [0] g_parseState_autoLinkText.body)) (.seq (.leaf (sel [1, 0] g_parseState_autoLinkText.body)) (.seq (.leaf (sel [1, 1, 0] g_parseState_autoLinkText.body)) (.seq (.seq (.leaf (sel [1, 1, 1, 0, 0] g_parseState_autoLinkText.body)) (.block 0 (.loop (leaf [(0, .s .ptr), (1, .s .slice), (5, .s .slice), (22, .s .slice), (23, .s (.int .i64)), (24, .s (.int .i64))] (g_parseState_autoLinkText.l1 R)) (sel [1, 1, 1, 0, 1, 0, 0] g_parseState_autoLinkText.body)))) (.leaf (sel [1, 1, 1, 1] g_parseState_autoLinkText.body))))))
theorem g_parseState_autoLinkText.good (R : EP) : Good P 98 (g_parseState_autoLinkText.ac R) (QF P [.tmp 4] R) :=
  ⟨trivial, ⟨trivial, ⟨trivial, ⟨⟨trivial, (loopG (g_parseState_autoLinkText.al1 R) (g_parseState_autoLinkText.bl1 R) (fun _ => by kernel_rfl) (fun Xa => ⟨trivial, ⟨trivial, ⟨⟨trivial, ⟨⟨trivial, ⟨trivial, ⟨⟨trivial, ⟨trivial, ⟨trivial, ⟨⟨trivial, ⟨trivial, cutE (by intro x0 x1q x1n x1c x5q x5n x5c x9q x9n x9c x22q x22n x22c x23 x24 ρ w; kernel_rfl)⟩⟩, trivial⟩⟩⟩⟩, trivial⟩⟩⟩, ⟨trivial, cutE (by intro x0 x1q x1n x1c x5q x5n x5c x7 x22q x22n x22c x23 x24 ρ w; kernel_rfl)⟩⟩⟩, trivial⟩⟩⟩) (fun Xa => by intro x0 x1q x1n x1c x5q x5n x5c x22q x22n x22c x23 x24 ρ w; kernel_rfl) (fun X h _ _ _ _ _ _ _ _ _ _ _ _ _ g => g X h))⟩, trivial⟩⟩⟩⟩
theorem g_parseState_autoLinkText.eq (R : EP) (x0 : OA) (x1q : OA) (x1n : Nat) (x1c : Nat) (w : World) : g_parseState_autoLinkText R x0 x1q x1n x1c w = vcA P 98 (g_parseState_autoLinkText.ac R) (QF P [.tmp 4] R) (fr0 [.pointer x0, .slice x1q x1n x1c]) w := by kernel_rfl
theorem g_parseState_autoLinkText.sound {R : EP} {x0 : OA} {x1q : OA} {x1n : Nat} {x1c : Nat} {w : World} (h : g_parseState_autoLinkText R x0 x1q x1n x1c w) : callE P i_parseState_autoLinkText #[.pointer x0, .slice x1q x1n x1c] R w :=
  callE_fin (c := g_parseState_autoLinkText.body) Tryz.func59 Tryz.call59 (by kernel_rfl) (by kernel_rfl) (by kernel_rfl) (by kernel_rfl) (by kernel_rfl) (g_parseState_autoLinkText.good R) (g_parseState_autoLinkText.eq R x0 x1q x1n x1c w) h
namespace g_parseState_mergePlain
noncomputable def body : Code := bodyOf Tryz.f58
def k2 (R : EP) (Xa : OA → Nat → Nat → OA → Nat → Nat → Int → Int → WP) (x1q : OA) (x1n : Nat) (x1c : Nat) (x5q : OA) (x5n : Nat) (x5c : Nat) (x7 : Int) (w : World) : Prop :=
 br (decide (x7 ≥ (x1n : Int)))
 (R (.returned (.slice x5q x5n x5c)) w)
 (0 ≤ x7 ∧ x7 < (x1n : Int) ∧
 nilP x1q fun a17 =>
 ∃ (v18 : Value), w.cell? (a17.add (Int.toNat x7 * 1)) = some v18 ∧
 ∃ (r19q : OA), ∃ (r19n : Nat), ∃ (r19c : Nat), ∃ w20, (Instr.buildSlice ty_S_Inline 1 #[(0, v18)]).run P w = .ok (.slice r19q r19n r19c) w20 ∧
 ∃ (r21q : OA), ∃ (r21n : Nat), ∃ (r21c : Nat), ∃ w22, (Builtin.append_ #[ty_S_Inline, ty_S_Inline] ty_S_Inline #[.slice x5q x5n x5c, .slice r19q r19n r19c]).run P w20 = .ok (.slice r21q r21n r21c) w22 ∧
 Xa x1q x1n x1c r21q r21n r21c (IntKind.i64.wrap (x7 + 1)) (IntKind.i64.wrap (x7 + 1)) w22)

def k1 (R : EP) (Xa : OA → Nat → Nat → OA → Nat → Nat → Int → Int → WP) (x1q : OA) (x1n : Nat) (x1c : Nat) (x5q : OA) (x5n : Nat) (x5c : Nat) (x6 : Int) (x7 : Int) (w : World) : Prop :=
 br (decide (x6 < x7))
 (∃ (r9q : OA), ∃ (r9n : Nat), ∃ (r9c : Nat), ∃ w10, (Instr.sliceAt ty_S_Inline (.slice x1q x1n x1c) (some (.int .i64 x6)) (some (.int .i64 x7)) none).run P w = .ok (.slice r9q r9n r9c) w10 ∧
 callE P i_mergePlain1 #[.slice r9q r9n r9c] (fun e w12 => ∃ (r11 : OA), e = .returned (.pointer r11) ∧
 ∃ (r13q : OA), ∃ (r13n : Nat), ∃ (r13c : Nat), ∃ w14, (Instr.buildSlice ty_S_Inline 1 #[(0, .iface ty_P_Plain (.pointer r11))]).run P w12 = .ok (.slice r13q r13n r13c) w14 ∧
 ∃ (r15q : OA), ∃ (r15n : Nat), ∃ (r15c : Nat), ∃ w16, (Builtin.append_ #[ty_S_Inline, ty_S_Inline] ty_S_Inline #[.slice x5q x5n x5c, .slice r13q r13n r13c]).run P w14 = .ok (.slice r15q r15n r15c) w16 ∧
 k2 R Xa x1q x1n x1c r15q r15n r15c x7 w16) w10)
 (k2 R Xa x1q x1n x1c x5q x5n x5c x7 w)

def bl1 (R : EP) (Xa : OA → Nat → Nat → OA → Nat → Nat → Int → Int → WP) (x1q : OA) (x1n : Nat) (x1c : Nat) (x5q : OA) (x5n : Nat) (x5c : Nat) (x6 : Int) (x7 : Int) (w : World) : Prop :=
 br (decide (x7 < (x1n : Int)))
 (0 ≤ x7 ∧ x7 < (x1n : Int) ∧
 nilP x1q fun a3 =>
 ∃ (v4 : Value), w.cell? (a3.add (Int.toNat x7 * 1)) = some v4 ∧
 callE P i_toPlain #[v4] (fun e w6 => ∃ (r5 : OA), e = .returned (.pointer r5) ∧
 ∃ (r7 : Bool), ∃ w8, (do eqGuard .neq ty_P_Plain (.tmp 21) (.const (.pointer none)) (.pointer r5) (.pointer none); binOp .neq ty_P_Plain (.pointer r5) (.pointer none)).run P w6 = .ok (.bool r7) w8 ∧
 br r7
 (Xa x1q x1n x1c x5q x5n x5c x6 (IntKind.i64.wrap (x7 + 1)) w8)
 (k1 R Xa x1q x1n x1c x5q x5n x5c x6 x7 w8)) w)
 (k1 R Xa x1q x1n x1c x5q x5n x5c x6 x7 w)
def l1 (R : EP) (x1q : OA) (x1n : Nat) (x1c : Nat) (x5q : OA) (x5n : Nat) (x5c : Nat) (x6 : Int) (x7 : Int) (w : World) : Prop :=
  ∀ X : OA → Nat → Nat → OA → Nat → Nat → Int → Int → WP, (∀ x1q x1n x1c x5q x5n x5c x6 x7 w, bl1 R X x1q x1n x1c x5q x5n x5c x6 x7 w → X x1q x1n x1c x5q x5n x5c x6 x7 w) → X x1q x1n x1c x5q x5n x5c x6 x7 w

noncomputable def al1 (R : EP) (Xa : OA → Nat → Nat → OA → Nat → Nat → Int → Int → WP) : AC :=
  (.seq (.block 1 (.seq (.leaf (sel [1, 1, 1, 0, 1, 0, 0, 0, 0, 0] body)) (.mark (leaf [(1, .s .slice), (5, .s .slice), (6, .s (.int .i64)), (7, .s (.int .i64))] (k1 R Xa)) (.seq (.leaf (sel [1, 1, 1, 0, 1, 0, 0, 0, 0, 1, 0] body)) (.mark (leaf [(1, .s .slice), (5, .s .slice), (7, .s (.int .i64))] (k2 R Xa)) (.leaf (sel [1, 1, 1, 0, 1, 0, 0, 0, 0, 1, 1] body))))))) (.leaf (sel [1, 1, 1, 0, 1, 0, 0, 1] body)))
end g_parseState_mergePlain
def g_parseState_mergePlain (R : EP) (x0 : OA) (x1q : OA) (x1n : Nat) (x1c : Nat) (w : World) : Prop :=
 ∃ (r1q : OA), ∃ (r1n : Nat), ∃ (r1c : Nat), ∃ w2, (Instr.sliceAt ty_S_Inline (.slice x1q x1n x1c) none (some (.int .i64 0)) none).run P w = .ok (.slice r1q r1n r1c) w2 ∧
 g_parseState_mergePlain.l1 R x1q x1n x1c r1q r1n r1c 0 0 w2

noncomputable def g_parseState_mergePlain.ac (R : EP) : AC :=
  (.seq (.leaf (sel [0] g_parseState_mergePlain.body)) (.seq (.leaf (sel [1, 0] g_parseState_mergePlain.body)) (.seq (.leaf (sel [1, 1, 0] g_parseState_mergePlain.body)) (.seq (.seq (.leaf (sel [1, 1, 1, 0, 0] g_parseState_mergePlain.body)) (.block 0 (.loop (leaf [(1, .s .slice), (5, .s .slice), (6, .s (.int .i64)), (7, .s (.int .i64))] (g_parseState_mergePlain.l1 R)) (sel [1, 1, 1, 0, 1, 0, 0] g_parseState_mergePlain.body)))) (.leaf (sel [1, 1, 1, 1] g_parseState_mergePlain.body))))))
theorem g_parseState_mergePlain.good (R : EP) : Good P 50 (g_parseState_mergePlain.ac R) (QF P [.tmp 4] R) :=
  ⟨trivial, ⟨trivial, ⟨trivial, ⟨⟨trivial, (loopG (g_parseState_mergePlain.al1 R) (g_parseState_mergePlain.bl1 R) (fun _ => by kernel_rfl) (fun Xa => ⟨⟨trivial, ⟨⟨trivial, ⟨trivial, cutE (by intro x1q x1n x1c x5q x5n x5c x7 ρ w; kernel_rfl)⟩⟩, cutE (by intro x1q x1n x1c x5q x5n x5c x6 x7 ρ w; kernel_rfl)⟩⟩, trivial⟩) (fun Xa => by intro x1q x1n x1c x5q x5n x5c x6 x7 ρ w; kernel_rfl) (fun X h _ _ _ _ _ _ _ _ _ g => g X h))⟩, trivial⟩⟩⟩⟩
theorem g_parseState_mergePlain.eq (R : EP) (x0 : OA) (x1q : OA) (x1n : Nat) (x1c : Nat) (w : World) : g_parseState_mergePlain R x0 x1q x1n x1c w = vcA P 50 (g_parseState_mergePlain.ac R) (QF P [.tmp 4] R) (fr0 [.pointer x0, .slice x1q x1n x1c]) w := by kernel_rfl
theorem g_parseState_mergePlain.sound {R : EP} {x0 : OA} {x1q : OA} {x1n : Nat} {x1c : Nat} {w : World} (h : g_parseState_mergePlain R x0 x1q x1n x1c w) : callE P i_parseState_mergePlain #[.pointer x0, .slice x1q x1n x1c] R w :=
  callE_fin (c := g_parseState_mergePlain.body) Tryz.func58 Tryz.call58 (by kernel_rfl) (by kernel_rfl) (by kernel_rfl) (by kernel_rfl) (by kernel_rfl) (g_parseState_mergePlain.good R) (g_parseState_mergePlain.eq R x0 x1q x1n x1c w) h
namespace g_mergePlain1
noncomputable def body : Code := bodyOf Tryz.f100
def bl1 (R : EP) (Xa : OA → Nat → Nat → OA → Nat → Nat → Int → Int → WP) (x3q : OA) (x3n : Nat) (x3c : Nat) (x13q : OA) (x13n : Nat) (x13c : Nat) (x14 : Int) (x15 : Int) (w : World) : Prop :=
 br (decide (x15 < x14))
 (0 ≤ x15 ∧ x15 < (x13n : Int) ∧
 nilP x13q fun a5 =>
 ∃ (v6 : Value), w.cell? (a5.add (Int.toNat x15 * 1)) = some v6 ∧
 callE P i_toPlain #[v6] (fun e w8 => ∃ (r7 : OA), e = .returned (.pointer r7) ∧
 nilP r7 fun a9 =>
 ∃ (v10 : BA), w8.cell? a9 = some (.string v10) ∧
 ∃ (r11q : OA), ∃ (r11n : Nat), ∃ (r11c : Nat), ∃ w12, (Instr.buildSlice ty_S_string 1 #[(0, .string v10)]).run P w8 = .ok (.slice r11q r11n r11c) w12 ∧
 ∃ (r13q : OA), ∃ (r13n : Nat), ∃ (r13c : Nat), ∃ w14, (Builtin.append_ #[ty_S_string, ty_S_string] ty_S_string #[.slice x3q x3n x3c, .slice r11q r11n r11c]).run P w12 = .ok (.slice r13q r13n r13c) w14 ∧
 Xa r13q r13n r13c x13q x13n x13c x14 (IntKind.i64.wrap (x15 + 1)) w14) w)
 (callE P i_strings_Join #[.slice x3q x3n x3c, .string (ByteArray.mk #[])] (fun e w16 => ∃ (r15 : BA), e = .returned (.string r15) ∧
 box w16 #[.string r15] ty_Plain fun b17 w18 =>
 R (.returned (.pointer (some ⟨b17, 0, none⟩))) w18) w)
def l1 (R : EP) (x3q : OA) (x3n : Nat) (x3c : Nat) (x13q : OA) (x13n : Nat) (x13c : Nat) (x14 : Int) (x15 : Int) (w : World) : Prop :=
  ∀ X : OA → Nat → Nat → OA → Nat → Nat → Int → Int → WP, (∀ x3q x3n x3c x13q x13n x13c x14 x15 w, bl1 R X x3q x3n x3c x13q x13n x13c x14 x15 w → X x3q x3n x3c x13q x13n x13c x14 x15 w) → X x3q x3n x3c x13q x13n x13c x14 x15 w

noncomputable def al1 (R : EP) (Xa : OA → Nat → Nat → OA → Nat → Nat → Int → Int → WP) : AC :=
  (.leaf (sel [1, 1, 1, 0, 1, 0, 0] body))
end g_mergePlain1
def g_mergePlain1 (R : EP) (x0q : OA) (x0n : Nat) (x0c : Nat) (w : World) : Prop :=
 br ((x0n : Int) == 1)
 (0 ≤ (0 : Int) ∧ 0 < (x0n : Int) ∧
 nilP x0q fun a1 =>
 ∃ (v2 : Value), w.cell? (a1.add (Int.toNat 0 * 1)) = some v2 ∧
 callE P i_toPlain #[v2] (fun e w4 => ∃ (r3 : OA), e = .returned (.pointer r3) ∧
 R (.returned (.pointer r3)) w4) w)
 (g_mergePlain1.l1 R none 0 0 x0q x0n x0c (x0n : Int) 0 w)

noncomputable def g_mergePlain1.ac (R : EP) : AC :=
  (.seq (.leaf (sel [0] g_mergePlain1.body)) (.seq (.leaf (sel [1, 0] g_mergePlain1.body)) (.seq (.leaf (sel [1, 1, 0] g_mergePlain1.body)) (.seq (.seq (.leaf (sel [1, 1, 1, 0, 0] g_mergePlain1.body)) (.block 0 (.loop (leaf [(3, .s .slice), (13, .s .slice), (14, .s (.int .i64)), (15, .s (.int .i64))] (g_mergePlain1.l1 R)) (sel [1, 1, 1, 0, 1, 0, 0] g_mergePlain1.body)))) (.leaf (sel [1, 1, 1, 1] g_mergePlain1.body))))))
theorem g_mergePlain1.good (R : EP) : Good P 32 (g_mergePlain1.ac R) (QF P [.tmp 2] R) :=
  ⟨trivial, ⟨trivial, ⟨trivial, ⟨⟨trivial, (loopG (g_mergePlain1.al1 R) (g_mergePlain1.bl1 R) (fun _ => by kernel_rfl) (fun Xa => trivial) (fun Xa => by intro x3q x3n x3c x13q x13n x13c x14 x15 ρ w; kernel_rfl) (fun X h _ _ _ _ _ _ _ _ _ g => g X h))⟩, trivial⟩⟩⟩⟩
theorem g_mergePlain1.eq (R : EP) (x0q : OA) (x0n : Nat) (x0c : Nat) (w : World) : g_mergePlain1 R x0q x0n x0c w = vcA P 32 (g_mergePlain1.ac R) (QF P [.tmp 2] R) (fr0 [.slice x0q x0n x0c]) w := by kernel_rfl
theorem g_mergePlain1.sound {R : EP} {x0q : OA} {x0n : Nat} {x0c : Nat} {w : World} (h : g_mergePlain1 R x0q x0n x0c w) : callE P i_mergePlain1 #[.slice x0q x0n x0c] R w :=
  callE_fin (c := g_mergePlain1.body) Tryz.func100 Tryz.call100 (by kernel_rfl) (by kernel_rfl) (by kernel_rfl) (by kernel_rfl) (by kernel_rfl) (g_mergePlain1.good R) (g_mergePlain1.eq R x0q x0n x0c w) h
namespace g_toPlain
noncomputable def body : Code := bodyOf Tryz.f99
end g_toPlain
def g_toPlain (R : EP) (x0 : Value) (w : World) : Prop :=
 ∃ (r1_0 : OA), ∃ (r1_1 : Bool), ∃ w2, (Instr.typeAssert x0 ty_Inline ty_P_Plain true).run P w = .ok (.tuple #[.pointer r1_0, .bool r1_1]) w2 ∧
 br r1_1
 (R (.returned (.pointer r1_0)) w2)
 (∃ (r3_0 : OA), ∃ (r3_1 : Bool), ∃ w4, (Instr.typeAssert x0 ty_Inline ty_P_emphPlain true).run P w2 = .ok (.tuple #[.pointer r3_0, .bool r3_1]) w4 ∧
 br r3_1
 (nilP r3_0 fun a5 =>
 R (.returned (.pointer (some a5))) w4)
 (∃ (r6_0 : OA), ∃ (r6_1 : Bool), ∃ w7, (Instr.typeAssert x0 ty_Inline ty_P_openPlain true).run P w4 = .ok (.tuple #[.pointer r6_0, .bool r6_1]) w7 ∧
 br r6_1
 (nilP r6_0 fun a8 =>
 R (.returned (.pointer (some a8))) w7)
 (R (.returned (.pointer none)) w7)))

noncomputable def g_toPlain.ac (R : EP) : AC :=
  (.leaf (sel [] g_toPlain.body))
theorem g_toPlain.good (R : EP) : Good P 23 (g_toPlain.ac R) (QF P [.tmp 2] R) :=
  trivial
theorem g_toPlain.eq (R : EP) (x0 : Value) (w : World) : g_toPlain R x0 w = vcA P 23 (g_toPlain.ac R) (QF P [.tmp 2] R) (fr0 [x0]) w := by kernel_rfl
theorem g_toPlain.sound {R : EP} {x0 : Value} {w : World} (h : g_toPlain R x0 w) : callE P i_toPlain #[x0] R w :=
  callE_fin (c := g_toPlain.body) Tryz.func99 Tryz.call99 (by kernel_rfl) (by kernel_rfl) (by kernel_rfl) (by kernel_rfl) (by kernel_rfl) (g_toPlain.good R) (g_toPlain.eq R x0 w) h
namespace g_parseState_emit
noncomputable def body : Code := bodyOf Tryz.f53
end g_parseState_emit
def g_parseState_emit (R : EP) (x0 : OA) (x1 : Int) (w : World) : Prop :=
 nilP x0 fun a1 =>
 ∃ (v2 : Int), w.cell? (a1.add 8) = some (.int .i64 v2) ∧
 br (decide (v2 < x1))
 (tk w fun w3 =>
 nilP x0 fun a4 =>
 nilP x0 fun a5 =>
 nilP x0 fun a6 =>
 ∃ (v7q : OA), ∃ (v7n : Nat), ∃ (v7c : Nat), w3.cell? (a4.add 9) = some (.slice v7q v7n v7c) ∧
 ∃ (v8 : BA), w3.cell? (a5.add 7) = some (.string v8) ∧
 ∃ (v9 : Int), w3.cell? (a6.add 8) = some (.int .i64 v9) ∧
 0 ≤ v9 ∧ v9 ≤ x1 ∧ x1 ≤ (v8.size : Int) ∧
 box w3 #[.string (v8.extract (Int.toNat v9) (Int.toNat x1))] ty_Plain fun b10 w11 =>
 SameC w3 w11 (a4.add 9) 1 ∧
 ∃ (r12q : OA), ∃ (r12n : Nat), ∃ (r12c : Nat), ∃ w13, (Instr.buildSlice ty_S_Inline 1 #[(0, .iface ty_P_Plain (.pointer (some ⟨b10, 0, none⟩)))]).run P w11 = .ok (.slice r12q r12n r12c) w13 ∧
 SameC w11 w13 (a4.add 9) 1 ∧
 ∃ (r14q : OA), ∃ (r14n : Nat), ∃ (r14c : Nat), ∃ w15, (Builtin.append_ #[ty_S_Inline, ty_S_Inline] ty_S_Inline #[.slice v7q v7n v7c, .slice r12q r12n r12c]).run P w13 = .ok (.slice r14q r14n r14c) w15 ∧
 nilP x0 fun a16 =>
 stV w15 ((a16.add 9).add 0) (.slice r14q r14n r14c) fun w17 =>
 nilP x0 fun a18 =>
 stV w17 ((a18.add 8).add 0) (.int .i64 x1) fun w19 =>
 R (.returned (.tuple #[])) w19)
 (R (.returned (.tuple #[])) w)

noncomputable def g_parseState_emit.ac (R : EP) : AC :=
  (.seq (.leaf (sel [0] g_parseState_emit.body)) (.cond 9 (.seq (.draw (.pure 0 (.pure 1 (.pure 2 (.pure 3 (.pure 5 (.pure 6 (.pure 7 (.pure 9 (.pure 10 (.pure 11 (.pure 13 (.load 4 (.load 8 (.load 12 (.pure 14 (.pure 15 (.one 16 (.pure 17 (.one 18 (.one 19 (.pure 20 (.pure 21 (.one 22 .done))))))))))))))))))))))) (sel [1, 0, 0] g_parseState_emit.body)) (.leaf (sel [1, 0, 1] g_parseState_emit.body))) (.leaf (sel [1, 1] g_parseState_emit.body))))
theorem g_parseState_emit.good (R : EP) : Good P 36 (g_parseState_emit.ac R) (QF P [] R) :=
  ⟨trivial, ⟨⟨⟨by kernel_rfl, by kernel_rfl, fun _ _ _ h => h⟩, trivial⟩, trivial⟩⟩
theorem g_parseState_emit.eq (R : EP) (x0 : OA) (x1 : Int) (w : World) : g_parseState_emit R x0 x1 w = vcA P 36 (g_parseState_emit.ac R) (QF P [] R) (fr0 [.pointer x0, .int .i64 x1]) w := by kernel_rfl
theorem g_parseState_emit.sound {R : EP} {x0 : OA} {x1 : Int} {w : World} (h : g_parseState_emit R x0 x1 w) : callE P i_parseState_emit #[.pointer x0, .int .i64 x1] R w :=
  callE_fin (c := g_parseState_emit.body) Tryz.func53 Tryz.call53 (by kernel_rfl) (by kernel_rfl) (by kernel_rfl) (by kernel_rfl) (by kernel_rfl) (g_parseState_emit.good R) (g_parseState_emit.eq R x0 x1 w) h
namespace g_parseState_skip
noncomputable def body : Code := bodyOf Tryz.f54
end g_parseState_skip
def g_parseState_skip (R : EP) (x0 : OA) (x1 : Int) (w : World) : Prop :=
 nilP x0 fun a1 =>
 stV w ((a1.add 8).add 0) (.int .i64 x1) fun w2 =>
 R (.returned (.tuple #[])) w2

noncomputable def g_parseState_skip.ac (R : EP) : AC :=
  (.leaf (sel [] g_parseState_skip.body))
theorem g_parseState_skip.good (R : EP) : Good P 8 (g_parseState_skip.ac R) (QF P [] R) :=
  trivial
theorem g_parseState_skip.eq (R : EP) (x0 : OA) (x1 : Int) (w : World) : g_parseState_skip R x0 x1 w = vcA P 8 (g_parseState_skip.ac R) (QF P [] R) (fr0 [.pointer x0, .int .i64 x1]) w := by kernel_rfl
theorem g_parseState_skip.sound {R : EP} {x0 : OA} {x1 : Int} {w : World} (h : g_parseState_skip R x0 x1 w) : callE P i_parseState_skip #[.pointer x0, .int .i64 x1] R w :=
  callE_fin (c := g_parseState_skip.body) Tryz.func54 Tryz.call54 (by kernel_rfl) (by kernel_rfl) (by kernel_rfl) (by kernel_rfl) (by kernel_rfl) (g_parseState_skip.good R) (g_parseState_skip.eq R x0 x1 w) h
namespace g_parseState_closeBlock
noncomputable def body : Code := bodyOf Tryz.f39
def k3 (R : EP) (x0 : OA) (x4 : Value) (w : World) : Prop :=
 tk w fun w38 =>
 nilP x0 fun a39 =>
 nilP x0 fun a40 =>
 ∃ (v41q : OA), ∃ (v41n : Nat), ∃ (v41c : Nat), w38.cell? (a39.add 4) = some (.slice v41q v41n v41c) ∧
 ∃ (v42q : OA), ∃ (v42n : Nat), ∃ (v42c : Nat), w38.cell? (a40.add 4) = some (.slice v42q v42n v42c) ∧
 ∃ (r43q : OA), ∃ (r43n : Nat), ∃ (r43c : Nat), (∀ w, (Instr.sliceAt ty_S_openBlock (.slice v41q v41n v41c) none (some (.int .i64 (IntKind.i64.wrap ((v42n : Int) - 1)))) none).run P w = .ok (.slice r43q r43n r43c) w) ∧
 nilP x0 fun a44 =>
 stV w38 ((a44.add 4).add 0) (.slice r43q r43n r43c) fun w45 =>
 nilP x0 fun a46 =>
 ∃ (v47q : OA), ∃ (v47n : Nat), ∃ (v47c : Nat), w45.cell? (a46.add 4) = some (.slice v47q v47n v47c) ∧
 br (decide ((v47n : Int) > 0))
 (tk w45 fun w48 =>
 nilP x0 fun a49 =>
 nilP x0 fun a50 =>
 ∃ (v51q : OA), ∃ (v51n : Nat), ∃ (v51c : Nat), w48.cell? (a49.add 4) = some (.slice v51q v51n v51c) ∧
 ∃ (v52q : OA), ∃ (v52n : Nat), ∃ (v52c : Nat), w48.cell? (a50.add 4) = some (.slice v52q v52n v52c) ∧
 0 ≤ (IntKind.i64.wrap ((v52n : Int) - 1)) ∧ (IntKind.i64.wrap ((v52n : Int) - 1)) < (v51n : Int) ∧
 nilP v51q fun a53 =>
 ∃ (v54q : OA), ∃ (v54n : Nat), ∃ (v54c : Nat), w48.cell? ((a53.add (Int.toNat (IntKind.i64.wrap ((v52n : Int) - 1)) * 4)).add 1) = some (.slice v54q v54n v54c) ∧
 ∃ (r55q : OA), ∃ (r55n : Nat), ∃ (r55c : Nat), ∃ w56, (Instr.buildSlice ty_S_Block 1 #[(0, x4)]).run P w48 = .ok (.slice r55q r55n r55c) w56 ∧
 ∃ (r57q : OA), ∃ (r57n : Nat), ∃ (r57c : Nat), ∃ w58, (Builtin.append_ #[ty_S_Block, ty_S_Block] ty_S_Block #[.slice v54q v54n v54c, .slice r55q r55n r55c]).run P w56 = .ok (.slice r57q r57n r57c) w58 ∧
 stV w58 (((a53.add (Int.toNat (IntKind.i64.wrap ((v52n : Int) - 1)) * 4)).add 1).add 0) (.slice r57q r57n r57c) fun w59 =>
 R (.returned x4) w59)
 (∃ (r60 : OA), ∃ w61, (Instr.typeAssert x4 ty_Block ty_P_Document false).run P w45 = .ok (.pointer r60) w61 ∧
 nilP x0 fun a62 =>
 stV w61 ((a62.add 1).add 0) (.pointer r60) fun w63 =>
 R (.returned x4) w63)

def k2 (R : EP) (x0 : OA) (x4 : Value) (x5 : OA) (w : World) : Prop :=
 nilP x0 fun a26 =>
 ∃ (v27 : OA), w.cell? a26 = some (.pointer v27) ∧
 nilP v27 fun a28 =>
 ∃ (v29 : Bool), w.cell? (a28.add 2) = some (.bool v29) ∧
 br v29
 (nilP x0 fun a30 =>
 ∃ (v31q : OA), ∃ (v31n : Nat), ∃ (v31c : Nat), w.cell? (a30.add 10) = some (.slice v31q v31n v31c) ∧
 ∃ (r32q : OA), ∃ (r32n : Nat), ∃ (r32c : Nat), ∃ w33, (Instr.buildSlice ty_S_P_List 1 #[(0, .pointer x5)]).run P w = .ok (.slice r32q r32n r32c) w33 ∧
 ∃ (r34q : OA), ∃ (r34n : Nat), ∃ (r34c : Nat), ∃ w35, (Builtin.append_ #[ty_S_P_List, ty_S_P_List] ty_S_P_List #[.slice v31q v31n v31c, .slice r32q r32n r32c]).run P w33 = .ok (.slice r34q r34n r34c) w35 ∧
 nilP x0 fun a36 =>
 stV w35 ((a36.add 10).add 0) (.slice r34q r34n r34c) fun w37 =>
 k3 R x0 x4 w37)
 (k3 R x0 x4 w)

def k1 (R : EP) (x0 : OA) (x3 : OA) (w : World) : Prop :=
 nilP x3 fun a12 =>
 ∃ (v13 : Value), w.cell? a12 = some v13 ∧
 enterE P (callMethod v13 "pub-paratext/pub/rscmarkdown.build" #[.iface ty_P_parseState (.pointer x0)]) (fun e w15 => ∃ (r14 : Value), e = .returned r14 ∧
 ∃ (r16_0 : OA), ∃ (r16_1 : Bool), ∃ w17, (Instr.typeAssert r14 ty_Block ty_P_List true).run P w15 = .ok (.tuple #[.pointer r16_0, .bool r16_1]) w17 ∧
 br r16_1
 (nilP x0 fun a18 =>
 ∃ (v19 : Bool), w17.cell? (a18.add 6) = some (.bool v19) ∧
 br v19
 (nilP x0 fun a20 =>
 stV w17 ((a20.add 6).add 0) (.bool true) fun w21 =>
 k2 R x0 r14 r16_0 w21)
 (callE P i_listCorner #[.pointer r16_0] (fun e w23 => ∃ (r22 : Bool), e = .returned (.bool r22) ∧
 nilP x0 fun a24 =>
 stV w23 ((a24.add 6).add 0) (.bool r22) fun w25 =>
 k2 R x0 r14 r16_0 w25) w17))
 (k3 R x0 r14 w17)) w

end g_parseState_closeBlock
def g_parseState_closeBlock (R : EP) (x0 : OA) (w : World) : Prop :=
 tk w fun w1 =>
 nilP x0 fun a2 =>
 nilP x0 fun a3 =>
 ∃ (v4q : OA), ∃ (v4n : Nat), ∃ (v4c : Nat), w1.cell? (a2.add 4) = some (.slice v4q v4n v4c) ∧
 ∃ (v5q : OA), ∃ (v5n : Nat), ∃ (v5c : Nat), w1.cell? (a3.add 4) = some (.slice v5q v5n v5c) ∧
 0 ≤ (IntKind.i64.wrap ((v5n : Int) - 1)) ∧ (IntKind.i64.wrap ((v5n : Int) - 1)) < (v4n : Int) ∧
 nilP v4q fun a6 =>
 ∃ (v7 : Value), w1.cell? (a6.add (Int.toNat (IntKind.i64.wrap ((v5n : Int) - 1)) * 4)) = some v7 ∧
 ∃ (r8 : Bool), ∃ w9, (do eqGuard .eql ty_blockBuilder (.tmp 22) (.const .nilIface) v7 .nilIface; binOp .eql ty_blockBuilder v7 .nilIface).run P w1 = .ok (.bool r8) w9 ∧
 br r8
 (nilP x0 fun a10 =>
 ∃ (v11q : OA), ∃ (v11n : Nat), ∃ (v11c : Nat), w9.cell? (a10.add 4) = some (.slice v11q v11n v11c) ∧
 False)
 (g_parseState_closeBlock.k1 R x0 (some (a6.add (Int.toNat (IntKind.i64.wrap ((v5n : Int) - 1)) * 4))) w9)

noncomputable def g_parseState_closeBlock.ac (R : EP) : AC :=
  (.seq (.leaf (sel [0] g_parseState_closeBlock.body)) (.seq (.draw (.pure 0 (.pure 1 (.pure 2 (.pure 4 (.pure 5 (.pure 6 (.load 3 (.load 7 (.pure 8 (.pure 9 (.pure 10 (.pure 11 .done)))))))))))) (sel [1, 0] g_parseState_closeBlock.body)) (.seq (.leaf (sel [1, 1, 0] g_parseState_closeBlock.body)) (.mark (leaf [(0, .s .ptr), (3, .s .ptr)] (g_parseState_closeBlock.k1 R)) (.seq (.leaf (sel [1, 1, 1, 0] g_parseState_closeBlock.body)) (.seq (.seq (.leaf (sel [1, 1, 1, 1, 0, 0] g_parseState_closeBlock.body)) (.seq (.leaf (sel [1, 1, 1, 1, 0, 1, 0] g_parseState_closeBlock.body)) (.cond 42 (.seq (.leaf (sel [1, 1, 1, 1, 0, 1, 1, 0, 0] g_parseState_closeBlock.body)) (.mark (leaf [(0, .s .ptr), (4, .s .any), (5, .s .ptr)] (g_parseState_closeBlock.k2 R)) (.leaf (sel [1, 1, 1, 1, 0, 1, 1, 0, 1] g_parseState_closeBlock.body)))) (.leaf (sel [1, 1, 1, 1, 0, 1, 1, 1] g_parseState_closeBlock.body))))) (.mark (leaf [(0, .s .ptr), (4, .s .any)] (g_parseState_closeBlock.k3 R)) (.seq (.draw (.pure 0 (.pure 1 (.pure 2 (.pure 3 (.pure 5 (.pure 6 (.pure 7 (.load 4 (.load 8 (.pure 9 (.pure 10 (.pure 11 (.pure 12 (.pure 13 (.one 14 .done))))))))))))))) (sel [1, 1, 1, 1, 1, 0] g_parseState_closeBlock.body)) (.seq (.seq (.leaf (sel [1, 1, 1, 1, 1, 1, 0, 0] g_parseState_closeBlock.body)) (.cond 90 (.seq (.draw (.pure 0 (.pure 1 (.pure 2 (.pure 4 (.pure 5 (.pure 6 (.load 3 (.load 7 (.pure 8 (.pure 9 (.pure 10 (.pure 11 .done)))))))))))) (sel [1, 1, 1, 1, 1, 1, 0, 1, 0, 0] g_parseState_closeBlock.body)) (.leaf (sel [1, 1, 1, 1, 1, 1, 0, 1, 0, 1] g_parseState_closeBlock.body))) (.leaf (sel [1, 1, 1, 1, 1, 1, 0, 1, 1] g_parseState_closeBlock.body)))) (.leaf (sel [1, 1, 1, 1, 1, 1, 1] g_parseState_closeBlock.body)))))))))))
theorem g_parseState_closeBlock.good (R : EP) : Good P 118 (g_parseState_closeBlock.ac R) (QF P [.tmp 2] R) :=
  ⟨trivial, ⟨⟨by kernel_rfl, by kernel_rfl, fun _ _ _ h => h⟩, ⟨trivial, ⟨⟨trivial, ⟨⟨trivial, ⟨trivial, ⟨⟨trivial, ⟨trivial, cutE (by intro x0 x4 x5 ρ w; kernel_rfl)⟩⟩, trivial⟩⟩⟩, ⟨⟨⟨by kernel_rfl, by kernel_rfl, fun _ _ _ h => h⟩, ⟨⟨trivial, ⟨⟨⟨by kernel_rfl, by kernel_rfl, fun _ _ _ h => h⟩, trivial⟩, trivial⟩⟩, trivial⟩⟩, cutE (by intro x0 x4 ρ w; kernel_rfl)⟩⟩⟩, cutE (by intro x0 x3 ρ w; kernel_rfl)⟩⟩⟩⟩
theorem g_parseState_closeBlock.eq (R : EP) (x0 : OA) (w : World) : g_parseState_closeBlock R x0 w = vcA P 118 (g_parseState_closeBlock.ac R) (QF P [.tmp 2] R) (fr0 [.pointer x0]) w := by kernel_rfl
theorem g_parseState_closeBlock.sound {R : EP} {x0 : OA} {w : World} (h : g_parseState_closeBlock R x0 w) : callE P i_parseState_closeBlock #[.pointer x0] R w :=
  callE_fin (c := g_parseState_closeBlock.body) Tryz.func39 Tryz.call39 (by kernel_rfl) (by kernel_rfl) (by kernel_rfl) (by kernel_rfl) (by kernel_rfl) (g_parseState_closeBlock.good R) (g_parseState_closeBlock.eq R x0 w) h
namespace g_rootBuilder_build
noncomputable def body : Code := bodyOf Tryz.f228
end g_rootBuilder_build
def g_rootBuilder_build (R : EP) (x0 : OA) (x1 : Value) (w : World) : Prop :=
 tk w fun w1 =>
 ∃ (r2 : OA), (∀ w, (Instr.typeAssert x1 ty_buildState ty_P_parseState false).run P w = .ok (.pointer r2) w) ∧
 nilP r2 fun a3 =>
 ∃ (v4 : Option Nat), w1.cell? (a3.add 2) = some (.map v4) ∧
 enterE P (callMethod x1 "pub-paratext/pub/rscmarkdown.pos" #[]) (fun e w6 => ∃ (r5_0 : Int), ∃ (r5_1 : Int), e = .returned (.agg #[.int .i64 r5_0, .int .i64 r5_1]) ∧
 SameC w1 w6 (a3.add 2) 1 ∧
 enterE P (callMethod x1 "pub-paratext/pub/rscmarkdown.blocks" #[]) (fun e w8 => ∃ (r7q : OA), ∃ (r7n : Nat), ∃ (r7c : Nat), e = .returned (.slice r7q r7n r7c) ∧
 SameC w6 w8 (a3.add 2) 1 ∧
 box w8 #[.int .i64 r5_0, .int .i64 r5_1, .slice r7q r7n r7c, .map v4] ty_Document fun b9 w10 =>
 R (.returned (.iface ty_P_Document (.pointer (some ⟨b9, 0, none⟩)))) w10) w6) w1

noncomputable def g_rootBuilder_build.ac (R : EP) : AC :=
  (.seq (.leaf (sel [0] g_rootBuilder_build.body)) (.seq (.draw (.pure 0 (.pure 2 (.pure 4 (.pure 5 (.pure 6 (.pure 7 (.load 8 (.one 1 (.one 3 (.pure 9 (.one 10 (.pure 11 (.pure 12 .done))))))))))))) (sel [1, 0] g_rootBuilder_build.body)) (.leaf (sel [1, 1] g_rootBuilder_build.body))))
theorem g_rootBuilder_build.good (R : EP) : Good P 17 (g_rootBuilder_build.ac R) (QF P [.tmp 4] R) :=
  ⟨trivial, ⟨⟨by kernel_rfl, by kernel_rfl, fun _ _ _ h => h⟩, trivial⟩⟩
theorem g_rootBuilder_build.eq (R : EP) (x0 : OA) (x1 : Value) (w : World) : g_rootBuilder_build R x0 x1 w = vcA P 17 (g_rootBuilder_build.ac R) (QF P [.tmp 4] R) (fr0 [.pointer x0, x1]) w := by kernel_rfl
theorem g_rootBuilder_build.sound {R : EP} {x0 : OA} {x1 : Value} {w : World} (h : g_rootBuilder_build R x0 x1 w) : callE P i_rootBuilder_build #[.pointer x0, x1] R w :=
  callE_fin (c := g_rootBuilder_build.body) Tryz.func228 Tryz.call228 (by kernel_rfl) (by kernel_rfl) (by kernel_rfl) (by kernel_rfl) (by kernel_rfl) (g_rootBuilder_build.good R) (g_rootBuilder_build.eq R x0 x1 w) h
namespace g_paraBuilder_build
noncomputable def body : Code := bodyOf Tryz.f269
def k1 (R : EP) (x0 : OA) (x1 : Value) (x5 : BA) (w : World) : Prop :=
 br (x5.toList == (ByteArray.mk #[]).toList)
 (enterE P (callMethod x1 "pub-paratext/pub/rscmarkdown.pos" #[]) (fun e w18 => ∃ (r17_0 : Int), ∃ (r17_1 : Int), e = .returned (.agg #[.int .i64 r17_0, .int .i64 r17_1]) ∧
 box w18 #[.int .i64 r17_0, .int .i64 r17_1] ty_Empty fun b19 w20 =>
 R (.returned (.iface ty_P_Empty (.pointer (some ⟨b19, 0, none⟩)))) w20) w)
 (enterE P (callMethod x1 "pub-paratext/pub/rscmarkdown.pos" #[]) (fun e w22 => ∃ (r21_0 : Int), ∃ (r21_1 : Int), e = .returned (.agg #[.int .i64 r21_0, .int .i64 r21_1]) ∧
 box w22 #[.int .i64 0, .int .i64 0] ty_Position fun b23 w24 =>
 stV w24 ⟨b23, 0, none⟩ (.int .i64 r21_0) fun w25 =>
 stV w25 ⟨b23, 1, none⟩ (.int .i64 r21_1) fun w26 =>
 tk w26 fun w27 =>
 nilP x0 fun a28 =>
 ∃ (v29 : Int), w27.cell? ⟨b23, 0, none⟩ = some (.int .i64 v29) ∧
 ∃ (v30q : OA), ∃ (v30n : Nat), ∃ (v30c : Nat), w27.cell? a28 = some (.slice v30q v30n v30c) ∧
 stV w27 ⟨b23, 1, none⟩ (.int .i64 (IntKind.i64.wrap ((IntKind.i64.wrap (v29 + (v30n : Int))) - 1))) fun w31 =>
 tk w31 fun w32 =>
 ∃ (v33 : Int), w32.cell? ⟨b23, 0, none⟩ = some (.int .i64 v33) ∧
 ∃ (v34 : Int), w32.cell? ⟨b23, 1, none⟩ = some (.int .i64 v34) ∧
 ∃ (v35 : Int), w32.cell? ⟨b23, 0, none⟩ = some (.int .i64 v35) ∧
 ∃ (v36 : Int), w32.cell? ⟨b23, 1, none⟩ = some (.int .i64 v36) ∧
 enterE P (callMethod x1 "pub-paratext/pub/rscmarkdown.newText" #[.agg #[.int .i64 v35, .int .i64 v36], .string x5]) (fun e w38 => ∃ (r37 : OA), e = .returned (.pointer r37) ∧
 SameC w32 w38 ⟨b23, 0, none⟩ 2 ∧
 box w38 #[.int .i64 v33, .int .i64 v34, .pointer r37] ty_Paragraph fun b39 w40 =>
 R (.returned (.iface ty_P_Paragraph (.pointer (some ⟨b39, 0, none⟩)))) w40) w32) w)

def bl1 (R : EP) (Xa : OA → Value → BA → WP) (x0 : OA) (x1 : Value) (x5 : BA) (w : World) : Prop :=
 br (!(x5.toList == (ByteArray.mk #[]).toList))
 (callE P i_parseLinkRefDef #[x1, .string x5] (fun e w14 => ∃ (r13_0 : Int), ∃ (r13_1 : Bool), e = .returned (.tuple #[.int .i64 r13_0, .bool r13_1]) ∧
 br (!r13_1)
 (k1 R x0 x1 x5 w14)
 (callE P i_skipSpace #[.string x5, .int .i64 r13_0] (fun e w16 => ∃ (r15 : Int), e = .returned (.int .i64 r15) ∧
 0 ≤ r15 ∧ r15 ≤ (x5.size : Int) ∧
 Xa x0 x1 (x5.extract (Int.toNat r15) x5.size) w16) w14)) w)
 (k1 R x0 x1 x5 w)
def l1 (R : EP) (x0 : OA) (x1 : Value) (x5 : BA) (w : World) : Prop :=
  ∀ X : OA → Value → BA → WP, (∀ x0 x1 x5 w, bl1 R X x0 x1 x5 w → X x0 x1 x5 w) → X x0 x1 x5 w

noncomputable def al1 (R : EP) (Xa : OA → Value → BA → WP) : AC :=
  (.leaf (sel [1, 1, 1, 0, 0, 0] body))
end g_paraBuilder_build
def g_paraBuilder_build (R : EP) (x0 : OA) (x1 : Value) (w : World) : Prop :=
 nilP x0 fun a1 =>
 ∃ (v2 : OA), w.cell? (a1.add 1) = some (.pointer v2) ∧
 ∃ (r3 : Bool), ∃ w4, (do eqGuard .neq ty_P_tableBuilder (.tmp 12) (.const (.pointer none)) (.pointer v2) (.pointer none); binOp .neq ty_P_tableBuilder (.pointer v2) (.pointer none)).run P w = .ok (.bool r3) w4 ∧
 br r3
 (nilP x0 fun a5 =>
 ∃ (v6 : OA), w4.cell? (a5.add 1) = some (.pointer v6) ∧
 callE P i_tableBuilder_build #[.pointer v6, x1] (fun e w8 => ∃ (r7 : Value), e = .returned r7 ∧
 R (.returned r7) w8) w4)
 (nilP x0 fun a9 =>
 ∃ (v10q : OA), ∃ (v10n : Nat), ∃ (v10c : Nat), w4.cell? a9 = some (.slice v10q v10n v10c) ∧
 callE P i_strings_Join #[.slice v10q v10n v10c, .string (ByteArray.mk #[10])] (fun e w12 => ∃ (r11 : BA), e = .returned (.string r11) ∧
 g_paraBuilder_build.l1 R x0 x1 r11 w12) w4)

noncomputable def g_paraBuilder_build.ac (R : EP) : AC :=
  (.seq (.leaf (sel [0] g_paraBuilder_build.body)) (.seq (.leaf (sel [1, 0] g_paraBuilder_build.body)) (.seq (.leaf (sel [1, 1, 0] g_paraBuilder_build.body)) (.seq (.block 0 (.loop (leaf [(0, .s .ptr), (1, .s .any), (5, .s .str)] (g_paraBuilder_build.l1 R)) (sel [1, 1, 1, 0, 0, 0] g_paraBuilder_build.body))) (.mark (leaf [(0, .s .ptr), (1, .s .any), (5, .s .str)] (g_paraBuilder_build.k1 R)) (.seq (.leaf (sel [1, 1, 1, 1, 0] g_paraBuilder_build.body)) (.seq (.leaf (sel [1, 1, 1, 1, 1, 0] g_paraBuilder_build.body)) (.seq (.draw (.pure 0 (.pure 2 (.pure 3 (.pure 4 (.load 1 (.load 5 (.pure 6 (.pure 7 (.pure 8 (.pure 9 (.one 10 .done))))))))))) (sel [1, 1, 1, 1, 1, 1, 0] g_paraBuilder_build.body)) (.seq (.draw (.pure 1 (.pure 3 (.load 0 (.load 2 (.one 4 (.pure 5 (.one 6 (.pure 7 (.pure 8 .done))))))))) (sel [1, 1, 1, 1, 1, 1, 1, 0] g_paraBuilder_build.body)) (.leaf (sel [1, 1, 1, 1, 1, 1, 1, 1] g_paraBuilder_build.body)))))))))))
theorem g_paraBuilder_build.good (R : EP) : Good P 67 (g_paraBuilder_build.ac R) (QF P [.tmp 4] R) :=
  ⟨trivial, ⟨trivial, ⟨trivial, ⟨(loopG (g_paraBuilder_build.al1 R) (g_paraBuilder_build.bl1 R) (fun _ => by kernel_rfl) (fun Xa => trivial) (fun Xa => by intro x0 x1 x5 ρ w; kernel_rfl) (fun X h _ _ _ _ g => g X h)), ⟨⟨trivial, ⟨trivial, ⟨⟨by kernel_rfl, by kernel_rfl, fun _ _ _ h => h⟩, ⟨⟨by kernel_rfl, by kernel_rfl, fun _ _ _ h => h⟩, trivial⟩⟩⟩⟩, cutE (by intro x0 x1 x5 ρ w; kernel_rfl)⟩⟩⟩⟩⟩
theorem g_paraBuilder_build.eq (R : EP) (x0 : OA) (x1 : Value) (w : World) : g_paraBuilder_build R x0 x1 w = vcA P 67 (g_paraBuilder_build.ac R) (QF P [.tmp 4] R) (fr0 [.pointer x0, x1]) w := by kernel_rfl
theorem g_paraBuilder_build.sound {R : EP} {x0 : OA} {x1 : Value} {w : World} (h : g_paraBuilder_build R x0 x1 w) : callE P i_paraBuilder_build #[.pointer x0, x1] R w :=
  callE_fin (c := g_paraBuilder_build.body) Tryz.func269 Tryz.call269 (by kernel_rfl) (by kernel_rfl) (by kernel_rfl) (by kernel_rfl) (by kernel_rfl) (g_paraBuilder_build.good R) (g_paraBuilder_build.eq R x0 x1 w) h
namespace g_parseState_newText
noncomputable def body : Code := bodyOf Tryz.f110
end g_parseState_newText
def g_parseState_newText (R : EP) (x0 : OA) (x1_0 : Int) (x1_1 : Int) (x2 : BA) (w : World) : Prop :=
 box w #[.int .i64 x1_0, .int .i64 x1_1] ty_Position fun b1 w2 =>
 ∃ (v3 : Int), w2.cell? ⟨b1, 0, none⟩ = some (.int .i64 v3) ∧
 ∃ (v4 : Int), w2.cell? ⟨b1, 1, none⟩ = some (.int .i64 v4) ∧
 box w2 #[.int .i64 v3, .int .i64 v4, .slice none 0 0, .string x2] ty_Text fun b5 w6 =>
 nilP x0 fun a7 =>
 ∃ (v8q : OA), ∃ (v8n : Nat), ∃ (v8c : Nat), w6.cell? (a7.add 11) = some (.slice v8q v8n v8c) ∧
 ∃ (r9q : OA), ∃ (r9n : Nat), ∃ (r9c : Nat), ∃ w10, (Instr.buildSlice ty_S_P_Text 1 #[(0, .pointer (some ⟨b5, 0, none⟩))]).run P w6 = .ok (.slice r9q r9n r9c) w10 ∧
 ∃ (r11q : OA), ∃ (r11n : Nat), ∃ (r11c : Nat), ∃ w12, (Builtin.append_ #[ty_S_P_Text, ty_S_P_Text] ty_S_P_Text #[.slice v8q v8n v8c, .slice r9q r9n r9c]).run P w10 = .ok (.slice r11q r11n r11c) w12 ∧
 nilP x0 fun a13 =>
 stV w12 ((a13.add 11).add 0) (.slice r11q r11n r11c) fun w14 =>
 R (.returned (.pointer (some ⟨b5, 0, none⟩))) w14

noncomputable def g_parseState_newText.ac (R : EP) : AC :=
  (.leaf (sel [] g_parseState_newText.body))
theorem g_parseState_newText.good (R : EP) : Good P 23 (g_parseState_newText.ac R) (QF P [.tmp 6] R) :=
  trivial
theorem g_parseState_newText.eq (R : EP) (x0 : OA) (x1_0 : Int) (x1_1 : Int) (x2 : BA) (w : World) : g_parseState_newText R x0 x1_0 x1_1 x2 w = vcA P 23 (g_parseState_newText.ac R) (QF P [.tmp 6] R) (fr0 [.pointer x0, .agg #[.int .i64 x1_0, .int .i64 x1_1], .string x2]) w := by kernel_rfl
theorem g_parseState_newText.sound {R : EP} {x0 : OA} {x1_0 : Int} {x1_1 : Int} {x2 : ByteArray} {w : World} (h : g_parseState_newText R x0 x1_0 x1_1 x2 w) : callE P i_parseState_newText #[.pointer x0, .agg #[.int .i64 x1_0, .int .i64 x1_1], .string x2] R w :=
  callE_fin (c := g_parseState_newText.body) Tryz.func110 Tryz.call110 (by kernel_rfl) (by kernel_rfl) (by kernel_rfl) (by kernel_rfl) (by kernel_rfl) (g_parseState_newText.good R) (g_parseState_newText.eq R x0 x1_0 x1_1 x2 w) h
namespace g_parseState_pos
noncomputable def body : Code := bodyOf Tryz.f241
end g_parseState_pos
def g_parseState_pos (R : EP) (x0 : OA) (w : World) : Prop :=
 box w #[.int .i64 0, .int .i64 0] ty_Position fun b1 w2 =>
 tk w2 fun w3 =>
 nilP x0 fun a4 =>
 nilP x0 fun a5 =>
 ∃ (v6q : OA), ∃ (v6n : Nat), ∃ (v6c : Nat), w3.cell? (a4.add 4) = some (.slice v6q v6n v6c) ∧
 ∃ (v7q : OA), ∃ (v7n : Nat), ∃ (v7c : Nat), w3.cell? (a5.add 4) = some (.slice v7q v7n v7c) ∧
 0 ≤ (IntKind.i64.wrap ((v7n : Int) - 1)) ∧ (IntKind.i64.wrap ((v7n : Int) - 1)) < (v6n : Int) ∧
 nilP v6q fun a8 =>
 ∃ (v9 : Int), w3.cell? (((a8.add (Int.toNat (IntKind.i64.wrap ((v7n : Int) - 1)) * 4)).add 2).add 0) = some (.int .i64 v9) ∧
 ∃ (v10 : Int), w3.cell? (((a8.add (Int.toNat (IntKind.i64.wrap ((v7n : Int) - 1)) * 4)).add 2).add 1) = some (.int .i64 v10) ∧
 stV w3 ⟨b1, 0, none⟩ (.int .i64 v9) fun w11 =>
 stV w11 ⟨b1, 1, none⟩ (.int .i64 v10) fun w12 =>
 ∃ (v13 : Int), w12.cell? ⟨b1, 0, none⟩ = some (.int .i64 v13) ∧
 ∃ (v14 : Int), w12.cell? ⟨b1, 1, none⟩ = some (.int .i64 v14) ∧
 R (.returned (.agg #[.int .i64 v13, .int .i64 v14])) w12

noncomputable def g_parseState_pos.ac (R : EP) : AC :=
  (.seq (.leaf (sel [0] g_parseState_pos.body)) (.seq (.draw (.pure 0 (.pure 1 (.pure 2 (.pure 4 (.pure 5 (.pure 6 (.load 3 (.load 7 (.pure 8 (.pure 9 (.pure 10 (.pure 11 .done)))))))))))) (sel [1, 0] g_parseState_pos.body)) (.leaf (sel [1, 1] g_parseState_pos.body))))
theorem g_parseState_pos.good (R : EP) : Good P 19 (g_parseState_pos.ac R) (QF P [.cell 2 85] R) :=
  ⟨trivial, ⟨⟨by kernel_rfl, by kernel_rfl, fun _ _ _ h => h⟩, trivial⟩⟩
theorem g_parseState_pos.eq (R : EP) (x0 : OA) (w : World) : g_parseState_pos R x0 w = vcA P 19 (g_parseState_pos.ac R) (QF P [.cell 2 85] R) (fr0 [.pointer x0]) w := by kernel_rfl
theorem g_parseState_pos.sound {R : EP} {x0 : OA} {w : World} (h : g_parseState_pos R x0 w) : callE P i_parseState_pos #[.pointer x0] R w :=
  callE_fin (c := g_parseState_pos.body) Tryz.func241 Tryz.call241 (by kernel_rfl) (by kernel_rfl) (by kernel_rfl) (by kernel_rfl) (by kernel_rfl) (g_parseState_pos.good R) (g_parseState_pos.eq R x0 w) h
namespace g_skipSpace
noncomputable def body : Code := bodyOf Tryz.f91
def bl1 (R : EP) (Xa : BA → Int → WP) (x0 : BA) (x1 : Int) (w : World) : Prop :=
 ((decide (x1 < (x0.size : Int))) = true → 0 ≤ x1 ∧ x1 < (x0.size : Int)) ∧
 (((decide (x1 < (x0.size : Int))) && (!((bt x0 x1) == 32))) = true → 0 ≤ x1 ∧ x1 < (x0.size : Int)) ∧
 (((decide (x1 < (x0.size : Int))) && (!(((bt x0 x1) == 32) || ((bt x0 x1) == 9)))) = true → 0 ≤ x1 ∧ x1 < (x0.size : Int)) ∧
 br ((decide (x1 < (x0.size : Int))) && ((((bt x0 x1) == 32) || ((bt x0 x1) == 9)) || ((bt x0 x1) == 10)))
 (Xa x0 (IntKind.i64.wrap (x1 + 1)) w)
 (R (.returned (.int .i64 x1)) w)
def l1 (R : EP) (x0 : BA) (x1 : Int) (w : World) : Prop :=
  ∀ X : BA → Int → WP, (∀ x0 x1 w, bl1 R X x0 x1 w → X x0 x1 w) → X x0 x1 w

noncomputable def al1 (R : EP) (Xa : BA → Int → WP) : AC :=
  (.leaf (sel [1, 0, 0, 0] body))
end g_skipSpace
def g_skipSpace (R : EP) (x0 : BA) (x1 : Int) (w : World) : Prop :=
 g_skipSpace.l1 R x0 x1 w

noncomputable def g_skipSpace.ac (R : EP) : AC :=
  (.seq (.leaf (sel [0] g_skipSpace.body)) (.seq (.block 0 (.loop (leaf [(0, .s .str), (1, .s (.int .i64))] (g_skipSpace.l1 R)) (sel [1, 0, 0, 0] g_skipSpace.body))) (.leaf (sel [1, 1] g_skipSpace.body))))
theorem g_skipSpace.good (R : EP) : Good P 30 (g_skipSpace.ac R) (QF P [.tmp 4] R) :=
  ⟨trivial, ⟨(loopG (g_skipSpace.al1 R) (g_skipSpace.bl1 R) (fun _ => by kernel_rfl) (fun Xa => trivial) (fun Xa => by intro x0 x1 ρ w; kernel_rfl) (fun X h _ _ _ g => g X h)), trivial⟩⟩
theorem g_skipSpace.eq (R : EP) (x0 : BA) (x1 : Int) (w : World) : g_skipSpace R x0 x1 w = vcA P 30 (g_skipSpace.ac R) (QF P [.tmp 4] R) (fr0 [.string x0, .int .i64 x1]) w := by kernel_rfl
theorem g_skipSpace.sound {R : EP} {x0 : ByteArray} {x1 : Int} {w : World} (h : g_skipSpace R x0 x1 w) : callE P i_skipSpace #[.string x0, .int .i64 x1] R w :=
  callE_fin (c := g_skipSpace.body) Tryz.func91 Tryz.call91 (by kernel_rfl) (by kernel_rfl) (by kernel_rfl) (by kernel_rfl) (by kernel_rfl) (g_skipSpace.good R) (g_skipSpace.eq R x0 x1 w) h
namespace g_strings_Join
noncomputable def body : Code := bodyOf Tryz.f153
def k3 (R : EP) (Xa : OA → Nat → Nat → BA → Int → OA → Nat → Nat → Int → Int → WP) (x0q : OA) (x0n : Nat) (x0c : Nat) (x1 : BA) (x5 : Int) (x7 : BA) (x39q : OA) (x39n : Nat) (x39c : Nat) (x40 : Int) (x41 : Int) (w : World) : Prop :=
 Xa x0q x0n x0c x1 (IntKind.i64.wrap (x5 + (x7.size : Int))) x39q x39n x39c x40 (IntKind.i64.wrap (x41 + 1)) w

def bl2 (R : EP) (Xb : BA → Nat → OA → Nat → Nat → Int → Int → WP) (x1 : BA) (x8 : Nat) (x63q : OA) (x63n : Nat) (x63c : Nat) (x64 : Int) (x65 : Int) (w : World) : Prop :=
 br (decide (x65 < x64))
 (0 ≤ x65 ∧ x65 < (x63n : Int) ∧
 nilP x63q fun a15 =>
 ∃ (v16 : BA), w.cell? (a15.add (Int.toNat x65 * 1)) = some (.string v16) ∧
 callE P i_strings_Builder_WriteString #[.pointer (some ⟨x8, 0, none⟩), .string x1] (fun e w18 => ∃ (r17_0 : Int), ∃ (r17_1 : Value), e = .returned (.tuple #[.int .i64 r17_0, r17_1]) ∧
 callE P i_strings_Builder_WriteString #[.pointer (some ⟨x8, 0, none⟩), .string v16] (fun e w20 => ∃ (r19_0 : Int), ∃ (r19_1 : Value), e = .returned (.tuple #[.int .i64 r19_0, r19_1]) ∧
 Xb x1 x8 x63q x63n x63c x64 (IntKind.i64.wrap (x65 + 1)) w20) w18) w)
 (callE P i_strings_Builder_String #[.pointer (some ⟨x8, 0, none⟩)] (fun e w22 => ∃ (r21 : BA), e = .returned (.string r21) ∧
 R (.returned (.string r21)) w22) w)
def l2 (R : EP) (x1 : BA) (x8 : Nat) (x63q : OA) (x63n : Nat) (x63c : Nat) (x64 : Int) (x65 : Int) (w : World) : Prop :=
  ∀ X : BA → Nat → OA → Nat → Nat → Int → Int → WP, (∀ x1 x8 x63q x63n x63c x64 x65 w, bl2 R X x1 x8 x63q x63n x63c x64 x65 w → X x1 x8 x63q x63n x63c x64 x65 w) → X x1 x8 x63q x63n x63c x64 x65 w

noncomputable def al2 (R : EP) (Xb : BA → Nat → OA → Nat → Nat → Int → Int → WP) : AC :=
  (.leaf (sel [1, 1, 1, 1, 1, 1, 1, 1, 0, 1, 0, 0] body))
def bl1 (R : EP) (Xa : OA → Nat → Nat → BA → Int → OA → Nat → Nat → Int → Int → WP) (x0q : OA) (x0n : Nat) (x0c : Nat) (x1 : BA) (x5 : Int) (x39q : OA) (x39n : Nat) (x39c : Nat) (x40 : Int) (x41 : Int) (w : World) : Prop :=
 br (decide (x41 < x40))
 (0 ≤ x41 ∧ x41 < (x39n : Int) ∧
 nilP x39q fun a3 =>
 ∃ (v4 : BA), w.cell? (a3.add (Int.toNat x41 * 1)) = some (.string v4) ∧
 br (decide ((v4.size : Int) > (IntKind.i64.wrap (9223372036854775807 - x5))))
 (False)
 (k3 R Xa x0q x0n x0c x1 x5 v4 x39q x39n x39c x40 x41 w))
 (box w #[.pointer none, .slice none 0 0] ty_strings_Builder fun b5 w6 =>
 callE P i_strings_Builder_Grow #[.pointer (some ⟨b5, 0, none⟩), .int .i64 x5] (fun e w8 => e = .returned (.tuple #[]) ∧
 0 ≤ (0 : Int) ∧ 0 < (x0n : Int) ∧
 nilP x0q fun a9 =>
 ∃ (v10 : BA), w8.cell? (a9.add (Int.toNat 0 * 1)) = some (.string v10) ∧
 callE P i_strings_Builder_WriteString #[.pointer (some ⟨b5, 0, none⟩), .string v10] (fun e w12 => ∃ (r11_0 : Int), ∃ (r11_1 : Value), e = .returned (.tuple #[.int .i64 r11_0, r11_1]) ∧
 ∃ (r13q : OA), ∃ (r13n : Nat), ∃ (r13c : Nat), ∃ w14, (Instr.sliceAt ty_S_string (.slice x0q x0n x0c) (some (.int .i64 1)) none none).run P w12 = .ok (.slice r13q r13n r13c) w14 ∧
 l2 R x1 b5 r13q r13n r13c (r13n : Int) 0 w14) w8) w6)
def l1 (R : EP) (x0q : OA) (x0n : Nat) (x0c : Nat) (x1 : BA) (x5 : Int) (x39q : OA) (x39n : Nat) (x39c : Nat) (x40 : Int) (x41 : Int) (w : World) : Prop :=
  ∀ X : OA → Nat → Nat → BA → Int → OA → Nat → Nat → Int → Int → WP, (∀ x0q x0n x0c x1 x5 x39q x39n x39c x40 x41 w, bl1 R X x0q x0n x0c x1 x5 x39q x39n x39c x40 x41 w → X x0q x0n x0c x1 x5 x39q x39n x39c x40 x41 w) → X x0q x0n x0c x1 x5 x39q x39n x39c x40 x41 w

noncomputable def al1 (R : EP) (Xa : OA → Nat → Nat → BA → Int → OA → Nat → Nat → Int → Int → WP) : AC :=
  (.seq (.leaf (sel [1, 1, 1, 1, 0, 1, 0, 0, 0] body)) (.seq (.leaf (sel [1, 1, 1, 1, 0, 1, 0, 0, 1, 0] body)) (.seq (.block 2 (.seq (.leaf (sel [1, 1, 1, 1, 0, 1, 0, 0, 1, 1, 0, 0, 0] body)) (.seq (.leaf (sel [1, 1, 1, 1, 0, 1, 0, 0, 1, 1, 0, 0, 1, 0] body)) (.mark (leaf [(0, .s .slice), (1, .s .str), (5, .s (.int .i64)), (7, .s .str), (39, .s .slice), (40, .s (.int .i64)), (41, .s (.int .i64))] (k3 R Xa)) (.leaf (sel [1, 1, 1, 1, 0, 1, 0, 0, 1, 1, 0, 0, 1, 1] body)))))) (.leaf (sel [1, 1, 1, 1, 0, 1, 0, 0, 1, 1, 1] body)))))
def k2 (R : EP) (x0q : OA) (x0n : Nat) (x0c : Nat) (x1 : BA) (x5 : Int) (w : World) : Prop :=
 l1 R x0q x0n x0c x1 x5 x0q x0n x0c (x0n : Int) 0 w

def k1 (R : EP) (x0q : OA) (x0n : Nat) (x0c : Nat) (x1 : BA) (x5 : Int) (w : World) : Prop :=
 k2 R x0q x0n x0c x1 (IntKind.i64.wrap (x5 + (IntKind.i64.wrap ((x1.size : Int) * (IntKind.i64.wrap ((x0n : Int) - 1)))))) w

end g_strings_Join
def g_strings_Join (R : EP) (x0q : OA) (x0n : Nat) (x0c : Nat) (x1 : BA) (w : World) : Prop :=
 br ((x0n : Int) == 0)
 (R (.returned (.string (ByteArray.mk #[]))) w)
 (br ((x0n : Int) == 1)
 (0 ≤ (0 : Int) ∧ 0 < (x0n : Int) ∧
 nilP x0q fun a1 =>
 ∃ (v2 : BA), w.cell? (a1.add (Int.toNat 0 * 1)) = some (.string v2) ∧
 R (.returned (.string v2)) w)
 (br (decide ((x1.size : Int) > 0))
 ((IntKind.i64.wrap ((x0n : Int) - 1)) ≠ 0 ∧
 br (decide ((x1.size : Int) ≥ (IntKind.i64.wrap (Int.tdiv 9223372036854775807 (IntKind.i64.wrap ((x0n : Int) - 1))))))
 (False)
 (g_strings_Join.k1 R x0q x0n x0c x1 0 w))
 (g_strings_Join.k2 R x0q x0n x0c x1 0 w)))

noncomputable def g_strings_Join.ac (R : EP) : AC :=
  (.seq (.leaf (sel [0] g_strings_Join.body)) (.seq (.leaf (sel [1, 0] g_strings_Join.body)) (.seq (.leaf (sel [1, 1, 0] g_strings_Join.body)) (.seq (.seq (.leaf (sel [1, 1, 1, 0, 0] g_strings_Join.body)) (.cond 22 (.seq (.leaf (sel [1, 1, 1, 0, 1, 0, 0] g_strings_Join.body)) (.mark (leaf [(0, .s .slice), (1, .s .str), (5, .s (.int .i64))] (g_strings_Join.k1 R)) (.leaf (sel [1, 1, 1, 0, 1, 0, 1] g_strings_Join.body)))) (.leaf (sel [1, 1, 1, 0, 1, 1] g_strings_Join.body)))) (.mark (leaf [(0, .s .slice), (1, .s .str), (5, .s (.int .i64))] (g_strings_Join.k2 R)) (.seq (.seq (.leaf (sel [1, 1, 1, 1, 0, 0] g_strings_Join.body)) (.block 1 (.loop (leaf [(0, .s .slice), (1, .s .str), (5, .s (.int .i64)), (39, .s .slice), (40, .s (.int .i64)), (41, .s (.int .i64))] (g_strings_Join.l1 R)) (sel [1, 1, 1, 1, 0, 1, 0, 0] g_strings_Join.body)))) (.seq (.leaf (sel [1, 1, 1, 1, 1, 0] g_strings_Join.body)) (.seq (.leaf (sel [1, 1, 1, 1, 1, 1, 0] g_strings_Join.body)) (.seq (.leaf (sel [1, 1, 1, 1, 1, 1, 1, 0] g_strings_Join.body)) (.seq (.seq (.leaf (sel [1, 1, 1, 1, 1, 1, 1, 1, 0, 0] g_strings_Join.body)) (.block 3 (.loop (leaf [(1, .s .str), (8, .s .loc), (63, .s .slice), (64, .s (.int .i64)), (65, .s (.int .i64))] (g_strings_Join.l2 R)) (sel [1, 1, 1, 1, 1, 1, 1, 1, 0, 1, 0, 0] g_strings_Join.body)))) (.leaf (sel [1, 1, 1, 1, 1, 1, 1, 1, 1] g_strings_Join.body))))))))))))
theorem g_strings_Join.good (R : EP) : Good P 75 (g_strings_Join.ac R) (QF P [.tmp 4] R) :=
  ⟨trivial, ⟨trivial, ⟨trivial, ⟨⟨trivial, ⟨⟨trivial, ⟨trivial, cutE (by intro x0q x0n x0c x1 x5 ρ w; kernel_rfl)⟩⟩, trivial⟩⟩, ⟨⟨⟨trivial, (loopG (g_strings_Join.al1 R) (g_strings_Join.bl1 R) (fun _ => by kernel_rfl) (fun Xa => ⟨trivial, ⟨trivial, ⟨⟨trivial, ⟨trivial, ⟨trivial, cutE (by intro x0q x0n x0c x1 x5 x7 x39q x39n x39c x40 x41 ρ w; kernel_rfl)⟩⟩⟩, trivial⟩⟩⟩) (fun Xa => by intro x0q x0n x0c x1 x5 x39q x39n x39c x40 x41 ρ w; kernel_rfl) (fun X h _ _ _ _ _ _ _ _ _ _ _ g => g X h))⟩, ⟨trivial, ⟨trivial, ⟨trivial, ⟨⟨trivial, (loopG (g_strings_Join.al2 R) (g_strings_Join.bl2 R) (fun _ => by kernel_rfl) (fun Xb => trivial) (fun Xb => by intro x1 x8 x63q x63n x63c x64 x65 ρ w; kernel_rfl) (fun X h _ _ _ _ _ _ _ _ g => g X h))⟩, trivial⟩⟩⟩⟩⟩, cutE (by intro x0q x0n x0c x1 x5 ρ w; kernel_rfl)⟩⟩⟩⟩⟩
theorem g_strings_Join.eq (R : EP) (x0q : OA) (x0n : Nat) (x0c : Nat) (x1 : BA) (w : World) : g_strings_Join R x0q x0n x0c x1 w = vcA P 75 (g_strings_Join.ac R) (QF P [.tmp 4] R) (fr0 [.slice x0q x0n x0c, .string x1]) w := by kernel_rfl
theorem g_strings_Join.sound {R : EP} {x0q : OA} {x0n : Nat} {x0c : Nat} {x1 : ByteArray} {w : World} (h : g_strings_Join R x0q x0n x0c x1 w) : callE P i_strings_Join #[.slice x0q x0n x0c, .string x1] R w :=
  callE_fin (c := g_strings_Join.body) Tryz.func153 Tryz.call153 (by kernel_rfl) (by kernel_rfl) (by kernel_rfl) (by kernel_rfl) (by kernel_rfl) (g_strings_Join.good R) (g_strings_Join.eq R x0q x0n x0c x1 w) h
namespace g_news
noncomputable def body : Code := bodyOf Tryz.f37
end g_news
def g_news (R : EP) (w : World) : Prop :=
 ∃ (r1q : OA), ∃ (r1n : Nat), ∃ (r1c : Nat), ∃ w2, (Instr.buildSlice ty_S_func_P_parseState_line_line_bool 8 #[(0, .func (.func i_newQuote) #[] #[]), (1, .func (.func i_newATXHeading) #[] #[]), (2, .func (.func i_newSetextHeading) #[] #[]), (3, .func (.func i_newHR) #[] #[]), (4, .func (.func i_newListItem) #[] #[]), (5, .func (.func i_newHTML) #[] #[]), (6, .func (.func i_newFence) #[] #[]), (7, .func (.func i_newPre) #[] #[])]).run P w = .ok (.slice r1q r1n r1c) w2 ∧
 R (.returned (.slice r1q r1n r1c)) w2

noncomputable def g_news.ac (R : EP) : AC :=
  (.leaf (sel [] g_news.body))
theorem g_news.good (R : EP) : Good P 2 (g_news.ac R) (QF P [.tmp 0] R) :=
  trivial
theorem g_news.eq (R : EP) (w : World) : g_news R w = vcA P 2 (g_news.ac R) (QF P [.tmp 0] R) (fr0 []) w := by kernel_rfl
theorem g_news.sound {R : EP} {w : World} (h : g_news R w) : callE P i_news #[] R w :=
  callE_fin (c := g_news.body) Tryz.func37 Tryz.call37 (by kernel_rfl) (by kernel_rfl) (by kernel_rfl) (by kernel_rfl) (by kernel_rfl) (g_news.good R) (g_news.eq R w) h
namespace g_newSetextHeading
noncomputable def body : Code := bodyOf Tryz.f63
def k1 (R : EP) (x0 : OA) (x3 : Nat) (x4 : Nat) (x6 : Nat) (x19 : Bool) (w : World) : Prop :=
 br x19
 (callE P i_parseState_closeBlock #[.pointer x0] (fun e w28 => ∃ (r27 : Value), e = .returned r27 ∧
 callE P i_parseState_last #[.pointer x0] (fun e w30 => ∃ (r29 : Value), e = .returned r29 ∧
 ∃ (r31_0 : OA), ∃ (r31_1 : Bool), ∃ w32, (Instr.typeAssert r29 ty_Block ty_P_Paragraph true).run P w30 = .ok (.tuple #[.pointer r31_0, .bool r31_1]) w32 ∧
 br (!r31_1)
 (∃ (v33 : Int), w32.cell? ⟨x3, 0, none⟩ = some (.int .i64 v33) ∧
 ∃ (v34 : Int), w32.cell? ⟨x3, 1, none⟩ = some (.int .i64 v34) ∧
 ∃ (v35 : Int), w32.cell? ⟨x3, 2, none⟩ = some (.int .i64 v35) ∧
 ∃ (v36 : BA), w32.cell? ⟨x3, 3, none⟩ = some (.string v36) ∧
 ∃ (v37 : Int), w32.cell? ⟨x3, 4, none⟩ = some (.int .u8 v37) ∧
 stV w32 ⟨x4, 0, none⟩ (.int .i64 v33) fun w38 =>
 stV w38 ⟨x4, 1, none⟩ (.int .i64 v34) fun w39 =>
 stV w39 ⟨x4, 2, none⟩ (.int .i64 v35) fun w40 =>
 stV w40 ⟨x4, 3, none⟩ (.string v36) fun w41 =>
 stV w41 ⟨x4, 4, none⟩ (.int .u8 v37) fun w42 =>
 ∃ (v43 : Int), w42.cell? ⟨x4, 0, none⟩ = some (.int .i64 v43) ∧
 ∃ (v44 : Int), w42.cell? ⟨x4, 1, none⟩ = some (.int .i64 v44) ∧
 ∃ (v45 : Int), w42.cell? ⟨x4, 2, none⟩ = some (.int .i64 v45) ∧
 ∃ (v46 : BA), w42.cell? ⟨x4, 3, none⟩ = some (.string v46) ∧
 ∃ (v47 : Int), w42.cell? ⟨x4, 4, none⟩ = some (.int .u8 v47) ∧
 R (.returned (.tuple #[.agg #[.int .i64 v43, .int .i64 v44, .int .i64 v45, .string v46, .int .u8 v47], .bool false])) w42)
 (callE P i_parseState_deleteLast #[.pointer x0] (fun e w49 => e = .returned (.tuple #[]) ∧
 tk w49 fun w50 =>
 nilP r31_0 fun a51 =>
 nilP x0 fun a52 =>
 nilP r31_0 fun a53 =>
 ∃ (v54 : Int), w50.cell? a51 = some (.int .i64 v54) ∧
 ∃ (v55 : Int), w50.cell? (a52.add 3) = some (.int .i64 v55) ∧
 ∃ (v56 : Int), w50.cell? ⟨x6, 0, none⟩ = some (.int .i64 v56) ∧
 ∃ (v57 : OA), w50.cell? (a53.add 2) = some (.pointer v57) ∧
 box w50 #[.int .i64 v54, .int .i64 v55, .int .i64 v56, .pointer v57, .string (ByteArray.mk #[])] ty_Heading fun b58 w59 =>
 callE P i_parseState_doneBlock #[.pointer x0, .iface ty_P_Heading (.pointer (some ⟨b58, 0, none⟩))] (fun e w61 => e = .returned (.tuple #[]) ∧
 stV w61 ⟨x4, 0, none⟩ (.int .i64 0) fun w62 =>
 stV w62 ⟨x4, 1, none⟩ (.int .i64 0) fun w63 =>
 stV w63 ⟨x4, 2, none⟩ (.int .i64 0) fun w64 =>
 stV w64 ⟨x4, 3, none⟩ (.string (ByteArray.mk #[])) fun w65 =>
 stV w65 ⟨x4, 4, none⟩ (.int .u8 0) fun w66 =>
 ∃ (v67 : Int), w66.cell? ⟨x4, 0, none⟩ = some (.int .i64 v67) ∧
 ∃ (v68 : Int), w66.cell? ⟨x4, 1, none⟩ = some (.int .i64 v68) ∧
 ∃ (v69 : Int), w66.cell? ⟨x4, 2, none⟩ = some (.int .i64 v69) ∧
 ∃ (v70 : BA), w66.cell? ⟨x4, 3, none⟩ = some (.string v70) ∧
 ∃ (v71 : Int), w66.cell? ⟨x4, 4, none⟩ = some (.int .u8 v71) ∧
 R (.returned (.tuple #[.agg #[.int .i64 v67, .int .i64 v68, .int .i64 v69, .string v70, .int .u8 v71], .bool true])) w66) w59) w32)) w28) w)
 (∃ (v72 : Int), w.cell? ⟨x3, 0, none⟩ = some (.int .i64 v72) ∧
 ∃ (v73 : Int), w.cell? ⟨x3, 1, none⟩ = some (.int .i64 v73) ∧
 ∃ (v74 : Int), w.cell? ⟨x3, 2, none⟩ = some (.int .i64 v74) ∧
 ∃ (v75 : BA), w.cell? ⟨x3, 3, none⟩ = some (.string v75) ∧
 ∃ (v76 : Int), w.cell? ⟨x3, 4, none⟩ = some (.int .u8 v76) ∧
 stV w ⟨x4, 0, none⟩ (.int .i64 v72) fun w77 =>
 stV w77 ⟨x4, 1, none⟩ (.int .i64 v73) fun w78 =>
 stV w78 ⟨x4, 2, none⟩ (.int .i64 v74) fun w79 =>
 stV w79 ⟨x4, 3, none⟩ (.string v75) fun w80 =>
 stV w80 ⟨x4, 4, none⟩ (.int .u8 v76) fun w81 =>
 ∃ (v82 : Int), w81.cell? ⟨x4, 0, none⟩ = some (.int .i64 v82) ∧
 ∃ (v83 : Int), w81.cell? ⟨x4, 1, none⟩ = some (.int .i64 v83) ∧
 ∃ (v84 : Int), w81.cell? ⟨x4, 2, none⟩ = some (.int .i64 v84) ∧
 ∃ (v85 : BA), w81.cell? ⟨x4, 3, none⟩ = some (.string v85) ∧
 ∃ (v86 : Int), w81.cell? ⟨x4, 4, none⟩ = some (.int .u8 v86) ∧
 R (.returned (.tuple #[.agg #[.int .i64 v82, .int .i64 v83, .int .i64 v84, .string v85, .int .u8 v86], .bool false])) w81)

end g_newSetextHeading
def g_newSetextHeading (R : EP) (x0 : OA) (x1_0 : Int) (x1_1 : Int) (x1_2 : Int) (x1_3 : BA) (x1_4 : Int) (w : World) : Prop :=
 box w #[.int .i64 x1_0, .int .i64 x1_1, .int .i64 x1_2, .string x1_3, .int .u8 x1_4] ty_line fun b1 w2 =>
 box w2 #[.int .i64 0, .int .i64 0, .int .i64 0, .string (ByteArray.mk #[]), .int .u8 0] ty_line fun b3 w4 =>
 box w4 #[.int .i64 0] ty_int fun b5 w6 =>
 ∃ (v7 : Int), w6.cell? ⟨b1, 0, none⟩ = some (.int .i64 v7) ∧
 ∃ (v8 : Int), w6.cell? ⟨b1, 1, none⟩ = some (.int .i64 v8) ∧
 ∃ (v9 : Int), w6.cell? ⟨b1, 2, none⟩ = some (.int .i64 v9) ∧
 ∃ (v10 : BA), w6.cell? ⟨b1, 3, none⟩ = some (.string v10) ∧
 ∃ (v11 : Int), w6.cell? ⟨b1, 4, none⟩ = some (.int .u8 v11) ∧
 box w6 #[.int .i64 0, .int .i64 0, .int .i64 0, .string (ByteArray.mk #[]), .int .u8 0] ty_line fun b12 w13 =>
 stV w13 ⟨b12, 0, none⟩ (.int .i64 v7) fun w14 =>
 stV w14 ⟨b12, 1, none⟩ (.int .i64 v8) fun w15 =>
 stV w15 ⟨b12, 2, none⟩ (.int .i64 v9) fun w16 =>
 stV w16 ⟨b12, 3, none⟩ (.string v10) fun w17 =>
 stV w17 ⟨b12, 4, none⟩ (.int .u8 v11) fun w18 =>
 callE P i_parseState_nextB #[.pointer x0] (fun e w20 => ∃ (r19 : Value), e = .returned r19 ∧
 callE P i_parseState_para #[.pointer x0] (fun e w22 => ∃ (r21 : OA), e = .returned (.pointer r21) ∧
 ∃ (r23 : Bool), ∃ w24, (do eqGuard .eql ty_blockBuilder (.tmp 12) (.tmp 15) r19 (.iface ty_P_paraBuilder (.pointer r21)); binOp .eql ty_blockBuilder r19 (.iface ty_P_paraBuilder (.pointer r21))).run P w22 = .ok (.bool r23) w24 ∧
 br r23
 (callE P i_line_trimSetext #[.pointer (some ⟨b12, 0, none⟩), .pointer (some ⟨b5, 0, none⟩)] (fun e w26 => ∃ (r25 : Bool), e = .returned (.bool r25) ∧
 g_newSetextHeading.k1 R x0 b1 b3 b5 r25 w26) w24)
 (g_newSetextHeading.k1 R x0 b1 b3 b5 false w24)) w20) w18

noncomputable def g_newSetextHeading.ac (R : EP) : AC :=
  (.seq (.leaf (sel [0] g_newSetextHeading.body)) (.seq (.leaf (sel [1, 0] g_newSetextHeading.body)) (.seq (.leaf (sel [1, 1, 0] g_newSetextHeading.body)) (.seq (.seq (.leaf (sel [1, 1, 1, 0, 0] g_newSetextHeading.body)) (.mark (leaf [(0, .s .ptr), (3, .s .loc), (4, .s .loc), (6, .s .loc), (19, .s .bool)] (g_newSetextHeading.k1 R)) (.cond 19 (.seq (.leaf (sel [1, 1, 1, 0, 1, 0, 0] g_newSetextHeading.body)) (.seq (.leaf (sel [1, 1, 1, 0, 1, 0, 1, 0] g_newSetextHeading.body)) (.seq (.leaf (sel [1, 1, 1, 0, 1, 0, 1, 1, 0] g_newSetextHeading.body)) (.seq (.leaf (sel [1, 1, 1, 0, 1, 0, 1, 1, 1, 0] g_newSetextHeading.body)) (.seq (.draw (.pure 0 (.pure 1 (.pure 2 (.pure 3 (.pure 4 (.pure 6 (.pure 7 (.pure 8 (.pure 12 (.pure 13 (.pure 14 (.load 5 (.load 9 (.pure 10 (.load 11 (.load 15 (.pure 16 (.one 17 (.pure 18 (.one 19 .done)))))))))))))))))))) (sel [1, 1, 1, 0, 1, 0, 1, 1, 1, 1, 0] g_newSetextHeading.body)) (.leaf (sel [1, 1, 1, 0, 1, 0, 1, 1, 1, 1, 1] g_newSetextHeading.body))))))) (.leaf (sel [1, 1, 1, 0, 1, 1] g_newSetextHeading.body))))) (.leaf (sel [1, 1, 1, 1] g_newSetextHeading.body))))))
theorem g_newSetextHeading.good (R : EP) : Good P 55 (g_newSetextHeading.ac R) (QF P [.cell 4 80, .tmp 5] R) :=
  ⟨trivial, ⟨trivial, ⟨trivial, ⟨⟨trivial, ⟨⟨⟨trivial, ⟨trivial, ⟨trivial, ⟨trivial, ⟨⟨by kernel_rfl, by kernel_rfl, fun _ _ _ h => h⟩, trivial⟩⟩⟩⟩⟩, trivial⟩, cutE (by intro x0 x3 x4 x6 x19 ρ w; kernel_rfl)⟩⟩, trivial⟩⟩⟩⟩
theorem g_newSetextHeading.eq (R : EP) (x0 : OA) (x1_0 : Int) (x1_1 : Int) (x1_2 : Int) (x1_3 : BA) (x1_4 : Int) (w : World) : g_newSetextHeading R x0 x1_0 x1_1 x1_2 x1_3 x1_4 w = vcA P 55 (g_newSetextHeading.ac R) (QF P [.cell 4 80, .tmp 5] R) (fr0 [.pointer x0, .agg #[.int .i64 x1_0, .int .i64 x1_1, .int .i64 x1_2, .string x1_3, .int .u8 x1_4]]) w := by kernel_rfl
theorem g_newSetextHeading.sound {R : EP} {x0 : OA} {x1_0 : Int} {x1_1 : Int} {x1_2 : Int} {x1_3 : ByteArray} {x1_4 : Int} {w : World} (h : g_newSetextHeading R x0 x1_0 x1_1 x1_2 x1_3 x1_4 w) : callE P i_newSetextHeading #[.pointer x0, .agg #[.int .i64 x1_0, .int .i64 x1_1, .int .i64 x1_2, .string x1_3, .int .u8 x1_4]] R w :=
  callE_fin (c := g_newSetextHeading.body) Tryz.func63 Tryz.call63 (by kernel_rfl) (by kernel_rfl) (by kernel_rfl) (by kernel_rfl) (by kernel_rfl) (g_newSetextHeading.good R) (g_newSetextHeading.eq R x0 x1_0 x1_1 x1_2 x1_3 x1_4 w) h
namespace g_newListItem
noncomputable def body : Code := bodyOf Tryz.f65
def k1 (R : EP) (x0 : OA) (x3 : Nat) (x4 : Nat) (x6 : OA) (x21 : Bool) (w : World) : Prop :=
 br x21
 (nilP x6 fun a13 =>
 ∃ (v14 : Value), w.cell? (a13.add 4) = some v14 ∧
 enterE P (do let d ← Deferred.ofValue v14 #[]; invoke d.target d.args) (fun e w16 => ∃ (r15_0 : Int), ∃ (r15_1 : Int), ∃ (r15_2 : Int), ∃ (r15_3 : BA), ∃ (r15_4 : Int), e = .returned (.agg #[.int .i64 r15_0, .int .i64 r15_1, .int .i64 r15_2, .string r15_3, .int .u8 r15_4]) ∧
 stV w16 ⟨x3, 0, none⟩ (.int .i64 r15_0) fun w17 =>
 stV w17 ⟨x3, 1, none⟩ (.int .i64 r15_1) fun w18 =>
 stV w18 ⟨x3, 2, none⟩ (.int .i64 r15_2) fun w19 =>
 stV w19 ⟨x3, 3, none⟩ (.string r15_3) fun w20 =>
 stV w20 ⟨x3, 4, none⟩ (.int .u8 r15_4) fun w21 =>
 nilP x6 fun a22 =>
 stV w21 ((a22.add 4).add 0) .nilFunc fun w23 =>
 ∃ (v24 : Int), w23.cell? ⟨x3, 0, none⟩ = some (.int .i64 v24) ∧
 ∃ (v25 : Int), w23.cell? ⟨x3, 1, none⟩ = some (.int .i64 v25) ∧
 ∃ (v26 : Int), w23.cell? ⟨x3, 2, none⟩ = some (.int .i64 v26) ∧
 ∃ (v27 : BA), w23.cell? ⟨x3, 3, none⟩ = some (.string v27) ∧
 ∃ (v28 : Int), w23.cell? ⟨x3, 4, none⟩ = some (.int .u8 v28) ∧
 stV w23 ⟨x4, 0, none⟩ (.int .i64 v24) fun w29 =>
 stV w29 ⟨x4, 1, none⟩ (.int .i64 v25) fun w30 =>
 stV w30 ⟨x4, 2, none⟩ (.int .i64 v26) fun w31 =>
 stV w31 ⟨x4, 3, none⟩ (.string v27) fun w32 =>
 stV w32 ⟨x4, 4, none⟩ (.int .u8 v28) fun w33 =>
 ∃ (v34 : Int), w33.cell? ⟨x4, 0, none⟩ = some (.int .i64 v34) ∧
 ∃ (v35 : Int), w33.cell? ⟨x4, 1, none⟩ = some (.int .i64 v35) ∧
 ∃ (v36 : Int), w33.cell? ⟨x4, 2, none⟩ = some (.int .i64 v36) ∧
 ∃ (v37 : BA), w33.cell? ⟨x4, 3, none⟩ = some (.string v37) ∧
 ∃ (v38 : Int), w33.cell? ⟨x4, 4, none⟩ = some (.int .u8 v38) ∧
 R (.returned (.tuple #[.agg #[.int .i64 v34, .int .i64 v35, .int .i64 v36, .string v37, .int .u8 v38], .bool true])) w33) w)
 (callE P i_parseState_startListItem #[.pointer x0, .pointer (some ⟨x3, 0, none⟩)] (fun e w40 => ∃ (r39 : Bool), e = .returned (.bool r39) ∧
 br r39
 (∃ (v41 : Int), w40.cell? ⟨x3, 0, none⟩ = some (.int .i64 v41) ∧
 ∃ (v42 : Int), w40.cell? ⟨x3, 1, none⟩ = some (.int .i64 v42) ∧
 ∃ (v43 : Int), w40.cell? ⟨x3, 2, none⟩ = some (.int .i64 v43) ∧
 ∃ (v44 : BA), w40.cell? ⟨x3, 3, none⟩ = some (.string v44) ∧
 ∃ (v45 : Int), w40.cell? ⟨x3, 4, none⟩ = some (.int .u8 v45) ∧
 stV w40 ⟨x4, 0, none⟩ (.int .i64 v41) fun w46 =>
 stV w46 ⟨x4, 1, none⟩ (.int .i64 v42) fun w47 =>
 stV w47 ⟨x4, 2, none⟩ (.int .i64 v43) fun w48 =>
 stV w48 ⟨x4, 3, none⟩ (.string v44) fun w49 =>
 stV w49 ⟨x4, 4, none⟩ (.int .u8 v45) fun w50 =>
 ∃ (v51 : Int), w50.cell? ⟨x4, 0, none⟩ = some (.int .i64 v51) ∧
 ∃ (v52 : Int), w50.cell? ⟨x4, 1, none⟩ = some (.int .i64 v52) ∧
 ∃ (v53 : Int), w50.cell? ⟨x4, 2, none⟩ = some (.int .i64 v53) ∧
 ∃ (v54 : BA), w50.cell? ⟨x4, 3, none⟩ = some (.string v54) ∧
 ∃ (v55 : Int), w50.cell? ⟨x4, 4, none⟩ = some (.int .u8 v55) ∧
 R (.returned (.tuple #[.agg #[.int .i64 v51, .int .i64 v52, .int .i64 v53, .string v54, .int .u8 v55], .bool true])) w50)
 (∃ (v56 : Int), w40.cell? ⟨x3, 0, none⟩ = some (.int .i64 v56) ∧
 ∃ (v57 : Int), w40.cell? ⟨x3, 1, none⟩ = some (.int .i64 v57) ∧
 ∃ (v58 : Int), w40.cell? ⟨x3, 2, none⟩ = some (.int .i64 v58) ∧
 ∃ (v59 : BA), w40.cell? ⟨x3, 3, none⟩ = some (.string v59) ∧
 ∃ (v60 : Int), w40.cell? ⟨x3, 4, none⟩ = some (.int .u8 v60) ∧
 stV w40 ⟨x4, 0, none⟩ (.int .i64 v56) fun w61 =>
 stV w61 ⟨x4, 1, none⟩ (.int .i64 v57) fun w62 =>
 stV w62 ⟨x4, 2, none⟩ (.int .i64 v58) fun w63 =>
 stV w63 ⟨x4, 3, none⟩ (.string v59) fun w64 =>
 stV w64 ⟨x4, 4, none⟩ (.int .u8 v60) fun w65 =>
 ∃ (v66 : Int), w65.cell? ⟨x4, 0, none⟩ = some (.int .i64 v66) ∧
 ∃ (v67 : Int), w65.cell? ⟨x4, 1, none⟩ = some (.int .i64 v67) ∧
 ∃ (v68 : Int), w65.cell? ⟨x4, 2, none⟩ = some (.int .i64 v68) ∧
 ∃ (v69 : BA), w65.cell? ⟨x4, 3, none⟩ = some (.string v69) ∧
 ∃ (v70 : Int), w65.cell? ⟨x4, 4, none⟩ = some (.int .u8 v70) ∧
 R (.returned (.tuple #[.agg #[.int .i64 v66, .int .i64 v67, .int .i64 v68, .string v69, .int .u8 v70], .bool false])) w65)) w)

end g_newListItem
def g_newListItem (R : EP) (x0 : OA) (x1_0 : Int) (x1_1 : Int) (x1_2 : Int) (x1_3 : BA) (x1_4 : Int) (w : World) : Prop :=
 box w #[.int .i64 x1_0, .int .i64 x1_1, .int .i64 x1_2, .string x1_3, .int .u8 x1_4] ty_line fun b1 w2 =>
 box w2 #[.int .i64 0, .int .i64 0, .int .i64 0, .string (ByteArray.mk #[]), .int .u8 0] ty_line fun b3 w4 =>
 callE P i_parseState_curB #[.pointer x0] (fun e w6 => ∃ (r5 : Value), e = .returned r5 ∧
 ∃ (r7_0 : OA), ∃ (r7_1 : Bool), ∃ w8, (Instr.typeAssert r5 ty_blockBuilder ty_P_listBuilder true).run P w6 = .ok (.tuple #[.pointer r7_0, .bool r7_1]) w8 ∧
 br r7_1
 (nilP r7_0 fun a9 =>
 ∃ (v10 : Value), w8.cell? (a9.add 4) = some v10 ∧
 ∃ (r11 : Bool), ∃ w12, (do eqGuard .neq ty_func_line (.tmp 19) (.const .nilFunc) v10 .nilFunc; binOp .neq ty_func_line v10 .nilFunc).run P w8 = .ok (.bool r11) w12 ∧
 g_newListItem.k1 R x0 b1 b3 r7_0 r11 w12)
 (g_newListItem.k1 R x0 b1 b3 r7_0 false w8)) w4

noncomputable def g_newListItem.ac (R : EP) : AC :=
  (.seq (.leaf (sel [0] g_newListItem.body)) (.seq (.seq (.leaf (sel [1, 0, 0] g_newListItem.body)) (.seq (.leaf (sel [1, 0, 1, 0] g_newListItem.body)) (.mark (leaf [(0, .s .ptr), (3, .s .loc), (4, .s .loc), (6, .s .ptr), (21, .s .bool)] (g_newListItem.k1 R)) (.leaf (sel [1, 0, 1, 1] g_newListItem.body))))) (.leaf (sel [1, 1] g_newListItem.body))))
theorem g_newListItem.good (R : EP) : Good P 35 (g_newListItem.ac R) (QF P [.cell 4 80, .tmp 5] R) :=
  ⟨trivial, ⟨⟨trivial, ⟨trivial, ⟨trivial, cutE (by intro x0 x3 x4 x6 x21 ρ w; kernel_rfl)⟩⟩⟩, trivial⟩⟩
theorem g_newListItem.eq (R : EP) (x0 : OA) (x1_0 : Int) (x1_1 : Int) (x1_2 : Int) (x1_3 : BA) (x1_4 : Int) (w : World) : g_newListItem R x0 x1_0 x1_1 x1_2 x1_3 x1_4 w = vcA P 35 (g_newListItem.ac R) (QF P [.cell 4 80, .tmp 5] R) (fr0 [.pointer x0, .agg #[.int .i64 x1_0, .int .i64 x1_1, .int .i64 x1_2, .string x1_3, .int .u8 x1_4]]) w := by kernel_rfl
theorem g_newListItem.sound {R : EP} {x0 : OA} {x1_0 : Int} {x1_1 : Int} {x1_2 : Int} {x1_3 : ByteArray} {x1_4 : Int} {w : World} (h : g_newListItem R x0 x1_0 x1_1 x1_2 x1_3 x1_4 w) : callE P i_newListItem #[.pointer x0, .agg #[.int .i64 x1_0, .int .i64 x1_1, .int .i64 x1_2, .string x1_3, .int .u8 x1_4]] R w :=
  callE_fin (c := g_newListItem.body) Tryz.func65 Tryz.call65 (by kernel_rfl) (by kernel_rfl) (by kernel_rfl) (by kernel_rfl) (by kernel_rfl) (g_newListItem.good R) (g_newListItem.eq R x0 x1_0 x1_1 x1_2 x1_3 x1_4 w) h
namespace g_parseState_curB
noncomputable def body : Code := bodyOf Tryz.f116
end g_parseState_curB
def g_parseState_curB (R : EP) (x0 : OA) (w : World) : Prop :=
 tk w fun w1 =>
 nilP x0 fun a2 =>
 nilP x0 fun a3 =>
 ∃ (v4 : Int), w1.cell? (a2.add 5) = some (.int .i64 v4) ∧
 ∃ (v5q : OA), ∃ (v5n : Nat), ∃ (v5c : Nat), w1.cell? (a3.add 4) = some (.slice v5q v5n v5c) ∧
 br (decide (v4 < (v5n : Int)))
 (tk w1 fun w6 =>
 nilP x0 fun a7 =>
 nilP x0 fun a8 =>
 ∃ (v9q : OA), ∃ (v9n : Nat), ∃ (v9c : Nat), w6.cell? (a7.add 4) = some (.slice v9q v9n v9c) ∧
 ∃ (v10 : Int), w6.cell? (a8.add 5) = some (.int .i64 v10) ∧
 0 ≤ v10 ∧ v10 < (v9n : Int) ∧
 nilP v9q fun a11 =>
 ∃ (v12 : Value), w6.cell? (a11.add (Int.toNat v10 * 4)) = some v12 ∧
 R (.returned v12) w6)
 (R (.returned .nilIface) w1)

noncomputable def g_parseState_curB.ac (R : EP) : AC :=
  (.seq (.leaf (sel [0] g_parseState_curB.body)) (.seq (.seq (.draw (.pure 0 (.pure 1 (.pure 2 (.pure 4 (.pure 5 (.pure 6 (.load 3 (.load 7 (.pure 8 (.pure 9 .done)))))))))) (sel [1, 0, 0] g_parseState_curB.body)) (.cond 12 (.seq (.draw (.pure 0 (.pure 1 (.pure 2 (.pure 4 (.pure 5 (.pure 6 (.load 3 (.load 7 (.pure 8 (.pure 9 (.load 10 (.pure 11 .done)))))))))))) (sel [1, 0, 1, 0, 0] g_parseState_curB.body)) (.leaf (sel [1, 0, 1, 0, 1] g_parseState_curB.body))) (.leaf (sel [1, 0, 1, 1] g_parseState_curB.body)))) (.leaf (sel [1, 1] g_parseState_curB.body))))
theorem g_parseState_curB.good (R : EP) : Good P 24 (g_parseState_curB.ac R) (QF P [.tmp 2] R) :=
  ⟨trivial, ⟨⟨⟨by kernel_rfl, by kernel_rfl, fun _ _ _ h => h⟩, ⟨⟨⟨by kernel_rfl, by kernel_rfl, fun _ _ _ h => h⟩, trivial⟩, trivial⟩⟩, trivial⟩⟩
theorem g_parseState_curB.eq (R : EP) (x0 : OA) (w : World) : g_parseState_curB R x0 w = vcA P 24 (g_parseState_curB.ac R) (QF P [.tmp 2] R) (fr0 [.pointer x0]) w := by kernel_rfl
theorem g_parseState_curB.sound {R : EP} {x0 : OA} {w : World} (h : g_parseState_curB R x0 w) : callE P i_parseState_curB #[.pointer x0] R w :=
  callE_fin (c := g_parseState_curB.body) Tryz.func116 Tryz.call116 (by kernel_rfl) (by kernel_rfl) (by kernel_rfl) (by kernel_rfl) (by kernel_rfl) (g_parseState_curB.good R) (g_parseState_curB.eq R x0 w) h
namespace g_parseState_nextB
noncomputable def body : Code := bodyOf Tryz.f111
end g_parseState_nextB
def g_parseState_nextB (R : EP) (x0 : OA) (w : World) : Prop :=
 tk w fun w1 =>
 nilP x0 fun a2 =>
 nilP x0 fun a3 =>
 ∃ (v4 : Int), w1.cell? (a2.add 5) = some (.int .i64 v4) ∧
 ∃ (v5q : OA), ∃ (v5n : Nat), ∃ (v5c : Nat), w1.cell? (a3.add 4) = some (.slice v5q v5n v5c) ∧
 br (decide ((IntKind.i64.wrap (v4 + 1)) < (v5n : Int)))
 (tk w1 fun w6 =>
 nilP x0 fun a7 =>
 nilP x0 fun a8 =>
 ∃ (v9q : OA), ∃ (v9n : Nat), ∃ (v9c : Nat), w6.cell? (a7.add 4) = some (.slice v9q v9n v9c) ∧
 ∃ (v10 : Int), w6.cell? (a8.add 5) = some (.int .i64 v10) ∧
 0 ≤ (IntKind.i64.wrap (v10 + 1)) ∧ (IntKind.i64.wrap (v10 + 1)) < (v9n : Int) ∧
 nilP v9q fun a11 =>
 ∃ (v12 : Value), w6.cell? (a11.add (Int.toNat (IntKind.i64.wrap (v10 + 1)) * 4)) = some v12 ∧
 R (.returned v12) w6)
 (R (.returned .nilIface) w1)

noncomputable def g_parseState_nextB.ac (R : EP) : AC :=
  (.seq (.leaf (sel [0] g_parseState_nextB.body)) (.seq (.seq (.draw (.pure 0 (.pure 1 (.pure 2 (.pure 5 (.pure 6 (.pure 7 (.load 3 (.pure 4 (.load 8 (.pure 9 (.pure 10 .done))))))))))) (sel [1, 0, 0] g_parseState_nextB.body)) (.cond 13 (.seq (.draw (.pure 0 (.pure 1 (.pure 2 (.pure 4 (.pure 5 (.pure 6 (.load 3 (.load 7 (.pure 8 (.pure 9 (.pure 10 (.load 11 (.pure 12 .done))))))))))))) (sel [1, 0, 1, 0, 0] g_parseState_nextB.body)) (.leaf (sel [1, 0, 1, 0, 1] g_parseState_nextB.body))) (.leaf (sel [1, 0, 1, 1] g_parseState_nextB.body)))) (.leaf (sel [1, 1] g_parseState_nextB.body))))
theorem g_parseState_nextB.good (R : EP) : Good P 26 (g_parseState_nextB.ac R) (QF P [.tmp 2] R) :=
  ⟨trivial, ⟨⟨⟨by kernel_rfl, by kernel_rfl, fun _ _ _ h => h⟩, ⟨⟨⟨by kernel_rfl, by kernel_rfl, fun _ _ _ h => h⟩, trivial⟩, trivial⟩⟩, trivial⟩⟩
theorem g_parseState_nextB.eq (R : EP) (x0 : OA) (w : World) : g_parseState_nextB R x0 w = vcA P 26 (g_parseState_nextB.ac R) (QF P [.tmp 2] R) (fr0 [.pointer x0]) w := by kernel_rfl
theorem g_parseState_nextB.sound {R : EP} {x0 : OA} {w : World} (h : g_parseState_nextB R x0 w) : callE P i_parseState_nextB #[.pointer x0] R w :=
  callE_fin (c := g_parseState_nextB.body) Tryz.func111 Tryz.call111 (by kernel_rfl) (by kernel_rfl) (by kernel_rfl) (by kernel_rfl) (by kernel_rfl) (g_parseState_nextB.good R) (g_parseState_nextB.eq R x0 w) h
namespace g_parseState_startListItem
noncomputable def body : Code := bodyOf Tryz.f117
def k5 (R : EP) (Xa : Nat → Nat → Int → Int → Int → Nat → Int → Int → WP) (x2 : Nat) (x5 : Nat) (x6 : Int) (x8 : Int) (x9 : Int) (x12 : Nat) (x13 : Int) (x14 : Int) (w : World) : Prop :=
 Xa x2 x5 x6 x8 x9 x12 (IntKind.i64.wrap (x13 + 1)) (IntKind.i64.wrap (x14 + 1)) w

def k9 (R : EP) (Xb : Nat → Nat → Int → Int → Int → WP) (x2 : Nat) (x5 : Nat) (x6 : Int) (x9 : Int) (x10 : Int) (x11 : Int) (w : World) : Prop :=
 ∃ (v63 : Int), w.cell? ⟨x5, 1, none⟩ = some (.int .i64 v63) ∧
 br (decide ((IntKind.i64.wrap (x10 - v63)) ≥ 9))
 (R (.returned (.bool false)) w)
 (Xb x2 x5 x6 (IntKind.i64.wrap ((IntKind.i64.wrap ((IntKind.i64.wrap (x9 * 10)) + (IntKind.i64.wrap x11))) - 48)) (IntKind.i64.wrap (x10 + 1)) w)

def k14 (R : EP) (x2 : Nat) (x5 : Nat) (x15 : Nat) (x18 : Nat) (w : World) : Prop :=
 ∃ (v111 : OA), w.cell? ⟨x15, 0, none⟩ = some (.pointer v111) ∧
 nilP v111 fun a112 =>
 stV w ((a112.add 4).add 0) (.func (.func i_parseState_startListItem_1) #[] #[.pointer (some ⟨x2, 0, none⟩), .pointer (some ⟨x18, 0, none⟩), .pointer (some ⟨x15, 0, none⟩), .pointer (some ⟨x5, 0, none⟩)]) fun w113 =>
 R (.returned (.bool true)) w113

def k13 (R : EP) (x2 : Nat) (x5 : Nat) (x6 : Int) (x15 : Nat) (w : World) : Prop :=
 tk w fun w90 =>
 ∃ (v91 : OA), w90.cell? ⟨x15, 0, none⟩ = some (.pointer v91) ∧
 (callE P i_line_isBlank #[.pointer (some ⟨x5, 0, none⟩)] (fun e w93 => ∃ (r92 : Bool), e = .returned (.bool r92) ∧
 SameC w90 w93 ⟨x15, 0, none⟩ 1 ∧
 (box w93 #[.pointer v91, .int .i64 x6, .bool (!r92)] ty_itemBuilder fun b94 w95 =>
 box w95 #[.pointer none] ty_P_itemBuilder fun b96 w97 =>
 SameC w95 w97 ⟨x15, 0, none⟩ 1 ∧
 stV w97 ⟨b96, 0, none⟩ (.pointer (some ⟨b94, 0, none⟩)) fun w98 =>
 k14 R x2 x5 x15 b96 w98) ∧
 (box w93 #[.pointer none] ty_P_itemBuilder fun b99 w100 =>
 SameC w93 w100 ⟨x15, 0, none⟩ 1 ∧
 box w100 #[.pointer v91, .int .i64 x6, .bool (!r92)] ty_itemBuilder fun b101 w102 =>
 stV w102 ⟨b99, 0, none⟩ (.pointer (some ⟨b101, 0, none⟩)) fun w103 =>
 k14 R x2 x5 x15 b99 w103)) w90) ∧
 (box w90 #[.pointer none] ty_P_itemBuilder fun b104 w105 =>
 SameC w90 w105 ⟨x15, 0, none⟩ 1 ∧
 callE P i_line_isBlank #[.pointer (some ⟨x5, 0, none⟩)] (fun e w107 => ∃ (r106 : Bool), e = .returned (.bool r106) ∧
 SameC w105 w107 ⟨x15, 0, none⟩ 1 ∧
 box w107 #[.pointer v91, .int .i64 x6, .bool (!r106)] ty_itemBuilder fun b108 w109 =>
 stV w109 ⟨b104, 0, none⟩ (.pointer (some ⟨b108, 0, none⟩)) fun w110 =>
 k14 R x2 x5 x15 b104 w110) w105)

def k12 (R : EP) (x2 : Nat) (x5 : Nat) (x6 : Int) (x8 : Int) (x9 : Int) (x15 : Nat) (x158 : Bool) (w : World) : Prop :=
 br x158
 (∃ (v80 : OA), w.cell? ⟨x2, 0, none⟩ = some (.pointer v80) ∧
 nilP v80 fun a81 =>
 stV w ((a81.add 6).add 0) (.bool true) fun w82 =>
 R (.returned (.bool false)) w82)
 (box w #[.int .i32 (IntKind.i32.wrap x8), .int .i64 x9, .bool false, .pointer none, .nilFunc] ty_listBuilder fun b83 w84 =>
 stV w84 ⟨x15, 0, none⟩ (.pointer (some ⟨b83, 0, none⟩)) fun w85 =>
 ∃ (v86 : OA), w85.cell? ⟨x2, 0, none⟩ = some (.pointer v86) ∧
 ∃ (v87 : OA), w85.cell? ⟨x15, 0, none⟩ = some (.pointer v87) ∧
 callE P i_parseState_addBlock #[.pointer v86, .iface ty_P_listBuilder (.pointer v87)] (fun e w89 => e = .returned (.tuple #[]) ∧
 k13 R x2 x5 x6 x15 w89) w85)

def k11 (R : EP) (x2 : Nat) (x5 : Nat) (x6 : Int) (x8 : Int) (x9 : Int) (x15 : Nat) (x136 : Bool) (w : World) : Prop :=
 br x136
 (∃ (v70 : OA), w.cell? ⟨x15, 0, none⟩ = some (.pointer v70) ∧
 ∃ (r71 : Bool), ∃ w72, (do eqGuard .eql ty_P_listBuilder (.tmp 137) (.const (.pointer none)) (.pointer v70) (.pointer none); binOp .eql ty_P_listBuilder (.pointer v70) (.pointer none)).run P w = .ok (.bool r71) w72 ∧
 br r71
 (∃ (v73 : OA), w72.cell? ⟨x2, 0, none⟩ = some (.pointer v73) ∧
 callE P i_parseState_para #[.pointer v73] (fun e w75 => ∃ (r74 : OA), e = .returned (.pointer r74) ∧
 ∃ (r76 : Bool), ∃ w77, (do eqGuard .neq ty_P_paraBuilder (.tmp 141) (.const (.pointer none)) (.pointer r74) (.pointer none); binOp .neq ty_P_paraBuilder (.pointer r74) (.pointer none)).run P w75 = .ok (.bool r76) w77 ∧
 br r76
 (callE P i_line_isBlank #[.pointer (some ⟨x5, 0, none⟩)] (fun e w79 => ∃ (r78 : Bool), e = .returned (.bool r78) ∧
 k12 R x2 x5 x6 x8 x9 x15 (r78 || (((x8 == 46) || (x8 == 41)) && (x9 != 1))) w79) w77)
 (k12 R x2 x5 x6 x8 x9 x15 false w77)) w72)
 (k12 R x2 x5 x6 x8 x9 x15 false w72))
 (k13 R x2 x5 x6 x15 w)

def k10 (R : EP) (x2 : Nat) (x5 : Nat) (x6 : Int) (x8 : Int) (x9 : Int) (x15 : Nat) (w : World) : Prop :=
 ∃ (v64 : OA), w.cell? ⟨x15, 0, none⟩ = some (.pointer v64) ∧
 ∃ (r65 : Bool), ∃ w66, (do eqGuard .eql ty_P_listBuilder (.tmp 126) (.const (.pointer none)) (.pointer v64) (.pointer none); binOp .eql ty_P_listBuilder (.pointer v64) (.pointer none)).run P w = .ok (.bool r65) w66 ∧
 br r65
 (k11 R x2 x5 x6 x8 x9 x15 true w66)
 (∃ (v67 : OA), w66.cell? ⟨x15, 0, none⟩ = some (.pointer v67) ∧
 nilP v67 fun a68 =>
 ∃ (v69 : Int), w66.cell? a68 = some (.int .i32 v69) ∧
 k11 R x2 x5 x6 x8 x9 x15 (v69 != (IntKind.i32.wrap x8)) w66)

def k8 (R : EP) (x2 : Nat) (x5 : Nat) (x6 : Int) (x8 : Int) (x9 : Int) (w : World) : Prop :=
 box w #[.pointer none] ty_P_listBuilder fun b55 w56 =>
 ∃ (v57 : OA), w56.cell? ⟨x2, 0, none⟩ = some (.pointer v57) ∧
 callE P i_parseState_nextB #[.pointer v57] (fun e w59 => ∃ (r58 : Value), e = .returned r58 ∧
 ∃ (r60_0 : OA), ∃ (r60_1 : Bool), ∃ w61, (Instr.typeAssert r58 ty_blockBuilder ty_P_listBuilder true).run P w59 = .ok (.tuple #[.pointer r60_0, .bool r60_1]) w61 ∧
 br r60_1
 (stV w61 ⟨b55, 0, none⟩ (.pointer r60_0) fun w62 =>
 k10 R x2 x5 x6 x8 x9 b55 w62)
 (k10 R x2 x5 x6 x8 x9 b55 w61)) w56

def k6 (R : EP) (x2 : Nat) (x5 : Nat) (x6 : Int) (x8 : Int) (x9 : Int) (x12 : Nat) (x13 : Int) (w : World) : Prop :=
 callE P i_line_trimSpace #[.pointer (some ⟨x12, 0, none⟩), .int .i64 1, .int .i64 1, .bool true] (fun e w42 => ∃ (r41 : Bool), e = .returned (.bool r41) ∧
 br (!r41)
 (∃ (v43 : Int), w42.cell? ⟨x12, 0, none⟩ = some (.int .i64 v43) ∧
 ∃ (v44 : Int), w42.cell? ⟨x12, 1, none⟩ = some (.int .i64 v44) ∧
 ∃ (v45 : Int), w42.cell? ⟨x12, 2, none⟩ = some (.int .i64 v45) ∧
 ∃ (v46 : BA), w42.cell? ⟨x12, 3, none⟩ = some (.string v46) ∧
 ∃ (v47 : Int), w42.cell? ⟨x12, 4, none⟩ = some (.int .u8 v47) ∧
 stV w42 ⟨x5, 0, none⟩ (.int .i64 v43) fun w48 =>
 stV w48 ⟨x5, 1, none⟩ (.int .i64 v44) fun w49 =>
 stV w49 ⟨x5, 2, none⟩ (.int .i64 v45) fun w50 =>
 stV w50 ⟨x5, 3, none⟩ (.string v46) fun w51 =>
 stV w51 ⟨x5, 4, none⟩ (.int .u8 v47) fun w52 =>
 k8 R x2 x5 (IntKind.i64.wrap (x6 + x13)) x8 x9 w52)
 (k8 R x2 x5 x6 x8 x9 w42)) w

def bl2 (R : EP) (Xa : Nat → Nat → Int → Int → Int → Nat → Int → Int → WP) (x2 : Nat) (x5 : Nat) (x6 : Int) (x8 : Int) (x9 : Int) (x12 : Nat) (x13 : Int) (x14 : Int) (w : World) : Prop :=
 br (decide (x14 < 3))
 (callE P i_line_trimSpace #[.pointer (some ⟨x12, 0, none⟩), .int .i64 1, .int .i64 1, .bool false] (fun e w38 => ∃ (r37 : Bool), e = .returned (.bool r37) ∧
 br r37
 (k5 R Xa x2 x5 x6 x8 x9 x12 x13 x14 w38)
 (k6 R x2 x5 x6 x8 x9 x12 x13 w38)) w)
 (k6 R x2 x5 x6 x8 x9 x12 x13 w)
def l2 (R : EP) (x2 : Nat) (x5 : Nat) (x6 : Int) (x8 : Int) (x9 : Int) (x12 : Nat) (x13 : Int) (x14 : Int) (w : World) : Prop :=
  ∀ X : Nat → Nat → Int → Int → Int → Nat → Int → Int → WP, (∀ x2 x5 x6 x8 x9 x12 x13 x14 w, bl2 R X x2 x5 x6 x8 x9 x12 x13 x14 w → X x2 x5 x6 x8 x9 x12 x13 x14 w) → X x2 x5 x6 x8 x9 x12 x13 x14 w

noncomputable def al2 (R : EP) (Xa : Nat → Nat → Int → Int → Int → Nat → Int → Int → WP) : AC :=
  (.seq (.leaf (sel [1, 0, 1, 1, 1, 1, 1, 1, 1, 1, 1, 1, 1, 0, 1, 0, 0, 0] body)) (.mark (leaf [(2, .s .loc), (5, .s .loc), (6, .s (.int .i64)), (8, .s (.int .u8)), (9, .s (.int .i64)), (12, .s .loc), (13, .s (.int .i64)), (14, .s (.int .i64))] (k5 R Xa)) (.leaf (sel [1, 0, 1, 1, 1, 1, 1, 1, 1, 1, 1, 1, 1, 0, 1, 0, 0, 1] body))))
def k3 (R : EP) (x2 : Nat) (x5 : Nat) (x6 : Int) (x8 : Int) (x9 : Int) (w : World) : Prop :=
 callE P i_line_trimSpace #[.pointer (some ⟨x5, 0, none⟩), .int .i64 1, .int .i64 1, .bool true] (fun e w23 => ∃ (r22 : Bool), e = .returned (.bool r22) ∧
 br (!r22)
 (R (.returned (.bool false)) w23)
 (∃ (v24 : Int), w23.cell? ⟨x5, 0, none⟩ = some (.int .i64 v24) ∧
 ∃ (v25 : Int), w23.cell? ⟨x5, 1, none⟩ = some (.int .i64 v25) ∧
 ∃ (v26 : Int), w23.cell? ⟨x5, 2, none⟩ = some (.int .i64 v26) ∧
 ∃ (v27 : BA), w23.cell? ⟨x5, 3, none⟩ = some (.string v27) ∧
 ∃ (v28 : Int), w23.cell? ⟨x5, 4, none⟩ = some (.int .u8 v28) ∧
 box w23 #[.int .i64 0, .int .i64 0, .int .i64 0, .string (ByteArray.mk #[]), .int .u8 0] ty_line fun b29 w30 =>
 stV w30 ⟨b29, 0, none⟩ (.int .i64 v24) fun w31 =>
 stV w31 ⟨b29, 1, none⟩ (.int .i64 v25) fun w32 =>
 stV w32 ⟨b29, 2, none⟩ (.int .i64 v26) fun w33 =>
 stV w33 ⟨b29, 3, none⟩ (.string v27) fun w34 =>
 stV w34 ⟨b29, 4, none⟩ (.int .u8 v28) fun w35 =>
 l2 R x2 x5 (IntKind.i64.wrap (x6 + 1)) x8 x9 b29 0 0 w35)) w

def k7 (R : EP) (Xb : Nat → Nat → Int → Int → Int → WP) (x2 : Nat) (x5 : Nat) (x6 : Int) (x9 : Int) (x10 : Int) (x11 : Int) (x69 : Bool) (w : World) : Prop :=
 br x69
 (∃ (v53 : Int), w.cell? ⟨x5, 1, none⟩ = some (.int .i64 v53) ∧
 stV w ⟨x5, 1, none⟩ (.int .i64 (IntKind.i64.wrap (x10 + 1))) fun w54 =>
 k3 R x2 x5 (IntKind.i64.wrap (x6 + (IntKind.i64.wrap ((IntKind.i64.wrap (x10 + 1)) - v53)))) x11 x9 w54)
 (br ((decide (x11 < 48)) || (decide (57 < x11)))
 (R (.returned (.bool false)) w)
 (k9 R Xb x2 x5 x6 x9 x10 x11 w))

def bl3 (R : EP) (Xb : Nat → Nat → Int → Int → Int → WP) (x2 : Nat) (x5 : Nat) (x6 : Int) (x9 : Int) (x10 : Int) (w : World) : Prop :=
 ∃ (v39 : BA), w.cell? ⟨x5, 3, none⟩ = some (.string v39) ∧
 br (decide (x10 ≥ (v39.size : Int)))
 (R (.returned (.bool false)) w)
 (∃ (v40 : BA), w.cell? ⟨x5, 3, none⟩ = some (.string v40) ∧
 0 ≤ x10 ∧ x10 < (v40.size : Int) ∧
 k7 R Xb x2 x5 x6 x9 x10 (bt v40 x10) (((bt v40 x10) == 46) || ((bt v40 x10) == 41)) w)
def l3 (R : EP) (x2 : Nat) (x5 : Nat) (x6 : Int) (x9 : Int) (x10 : Int) (w : World) : Prop :=
  ∀ X : Nat → Nat → Int → Int → Int → WP, (∀ x2 x5 x6 x9 x10 w, bl3 R X x2 x5 x6 x9 x10 w → X x2 x5 x6 x9 x10 w) → X x2 x5 x6 x9 x10 w

noncomputable def al3 (R : EP) (Xb : Nat → Nat → Int → Int → Int → WP) : AC :=
  (.seq (.block 4 (.seq (.leaf (sel [1, 0, 1, 1, 1, 1, 1, 1, 0, 1, 0, 1, 1, 1, 0, 1, 0, 0, 0, 0, 0] body)) (.seq (.leaf (sel [1, 0, 1, 1, 1, 1, 1, 1, 0, 1, 0, 1, 1, 1, 0, 1, 0, 0, 0, 0, 1, 0] body)) (.seq (.seq (.leaf (sel [1, 0, 1, 1, 1, 1, 1, 1, 0, 1, 0, 1, 1, 1, 0, 1, 0, 0, 0, 0, 1, 1, 0, 0] body)) (.mark (leaf [(2, .s .loc), (5, .s .loc), (6, .s (.int .i64)), (9, .s (.int .i64)), (10, .s (.int .i64)), (11, .s (.int .u8)), (69, .s .bool)] (k7 R Xb)) (.leaf (sel [1, 0, 1, 1, 1, 1, 1, 1, 0, 1, 0, 1, 1, 1, 0, 1, 0, 0, 0, 0, 1, 1, 0, 1] body)))) (.seq (.leaf (sel [1, 0, 1, 1, 1, 1, 1, 1, 0, 1, 0, 1, 1, 1, 0, 1, 0, 0, 0, 0, 1, 1, 1, 0] body)) (.mark (leaf [(2, .s .loc), (5, .s .loc), (6, .s (.int .i64)), (9, .s (.int .i64)), (10, .s (.int .i64)), (11, .s (.int .u8))] (k9 R Xb)) (.leaf (sel [1, 0, 1, 1, 1, 1, 1, 1, 0, 1, 0, 1, 1, 1, 0, 1, 0, 0, 0, 0, 1, 1, 1, 1] body)))))))) (.leaf (sel [1, 0, 1, 1, 1, 1, 1, 1, 0, 1, 0, 1, 1, 1, 0, 1, 0, 0, 1] body)))
def k4 (R : EP) (x2 : Nat) (x5 : Nat) (x6 : Int) (x9 : Int) (x40 : Bool) (w : World) : Prop :=
 br x40
 (∃ (v36 : Int), w.cell? ⟨x5, 1, none⟩ = some (.int .i64 v36) ∧
 l3 R x2 x5 x6 x9 v36 w)
 (R (.returned (.bool false)) w)

def k2 (R : EP) (x2 : Nat) (x5 : Nat) (x6 : Int) (x8 : Int) (x9 : Int) (x31 : Int) (x32 : Bool) (w : World) : Prop :=
 br x32
 (callE P i_line_trim #[.pointer (some ⟨x5, 0, none⟩), .int .u8 x8] (fun e w21 => ∃ (r20 : Bool), e = .returned (.bool r20) ∧
 k3 R x2 x5 (IntKind.i64.wrap (x6 + 1)) x8 x9 w21) w)
 (br (x31 == 48)
 (k4 R x2 x5 x6 x9 true w)
 (br (x31 == 49)
 (k4 R x2 x5 x6 x9 true w)
 (br (x31 == 50)
 (k4 R x2 x5 x6 x9 true w)
 (br (x31 == 51)
 (k4 R x2 x5 x6 x9 true w)
 (br (x31 == 52)
 (k4 R x2 x5 x6 x9 true w)
 (br (x31 == 53)
 (k4 R x2 x5 x6 x9 true w)
 (br (x31 == 54)
 (k4 R x2 x5 x6 x9 true w)
 (br (x31 == 55)
 (k4 R x2 x5 x6 x9 true w)
 (br (x31 == 56)
 (k4 R x2 x5 x6 x9 true w)
 (k4 R x2 x5 x6 x9 (x31 == 57) w))))))))))

def k1 (R : EP) (x2 : Nat) (x5 : Nat) (x6 : Int) (w : World) : Prop :=
 callE P i_line_peek #[.pointer (some ⟨x5, 0, none⟩)] (fun e w19 => ∃ (r18 : Int), e = .returned (.int .u8 r18) ∧
 br (r18 == 45)
 (k2 R x2 x5 x6 r18 0 r18 true w19)
 (br (r18 == 42)
 (k2 R x2 x5 x6 r18 0 r18 true w19)
 (k2 R x2 x5 x6 r18 0 r18 (r18 == 43) w19))) w

def bl1 (R : EP) (Xc : Nat → Nat → Int → Int → WP) (x2 : Nat) (x5 : Nat) (x6 : Int) (x7 : Int) (w : World) : Prop :=
 br (decide (x7 < 3))
 (callE P i_line_trimSpace #[.pointer (some ⟨x5, 0, none⟩), .int .i64 1, .int .i64 1, .bool false] (fun e w17 => ∃ (r16 : Bool), e = .returned (.bool r16) ∧
 br (!r16)
 (k1 R x2 x5 x6 w17)
 (Xc x2 x5 (IntKind.i64.wrap (x6 + 1)) (IntKind.i64.wrap (x7 + 1)) w17)) w)
 (k1 R x2 x5 x6 w)
def l1 (R : EP) (x2 : Nat) (x5 : Nat) (x6 : Int) (x7 : Int) (w : World) : Prop :=
  ∀ X : Nat → Nat → Int → Int → WP, (∀ x2 x5 x6 x7 w, bl1 R X x2 x5 x6 x7 w → X x2 x5 x6 x7 w) → X x2 x5 x6 x7 w

noncomputable def al1 (R : EP) (Xc : Nat → Nat → Int → Int → WP) : AC :=
  (.leaf (sel [1, 0, 1, 1, 0, 1, 0, 0] body))
end g_parseState_startListItem
def g_parseState_startListItem (R : EP) (x0 : OA) (x1 : OA) (w : World) : Prop :=
 box w #[.pointer x0] ty_P_parseState fun b1 w2 =>
 nilP x1 fun a3 =>
 ∃ (v4 : Int), w2.cell? (a3.add 0) = some (.int .i64 v4) ∧
 ∃ (v5 : Int), w2.cell? (a3.add 1) = some (.int .i64 v5) ∧
 ∃ (v6 : Int), w2.cell? (a3.add 2) = some (.int .i64 v6) ∧
 ∃ (v7 : BA), w2.cell? (a3.add 3) = some (.string v7) ∧
 ∃ (v8 : Int), w2.cell? (a3.add 4) = some (.int .u8 v8) ∧
 box w2 #[.int .i64 0, .int .i64 0, .int .i64 0, .string (ByteArray.mk #[]), .int .u8 0] ty_line fun b9 w10 =>
 stV w10 ⟨b9, 0, none⟩ (.int .i64 v4) fun w11 =>
 stV w11 ⟨b9, 1, none⟩ (.int .i64 v5) fun w12 =>
 stV w12 ⟨b9, 2, none⟩ (.int .i64 v6) fun w13 =>
 stV w13 ⟨b9, 3, none⟩ (.string v7) fun w14 =>
 stV w14 ⟨b9, 4, none⟩ (.int .u8 v8) fun w15 =>
 g_parseState_startListItem.l1 R b1 b9 0 0 w15

noncomputable def g_parseState_startListItem.ac (R : EP) : AC :=
  (.seq (.leaf (sel [0] g_parseState_startListItem.body)) (.scope (.seq (.leaf (sel [1, 0, 0] g_parseState_startListItem.body)) (.seq (.leaf (sel [1, 0, 1, 0] g_parseState_startListItem.body)) (.seq (.seq (.leaf (sel [1, 0, 1, 1, 0, 0] g_parseState_startListItem.body)) (.block 0 (.loop (leaf [(2, .s .loc), (5, .s .loc), (6, .s (.int .i64)), (7, .s (.int .i64))] (g_parseState_startListItem.l1 R)) (sel [1, 0, 1, 1, 0, 1, 0, 0] g_parseState_startListItem.body)))) (.mark (leaf [(2, .s .loc), (5, .s .loc), (6, .s (.int .i64))] (g_parseState_startListItem.k1 R)) (.seq (.leaf (sel [1, 0, 1, 1, 1, 0] g_parseState_startListItem.body)) (.seq (.leaf (sel [1, 0, 1, 1, 1, 1, 0] g_parseState_startListItem.body)) (.seq (.leaf (sel [1, 0, 1, 1, 1, 1, 1, 0] g_parseState_startListItem.body)) (.seq (.seq (.leaf (sel [1, 0, 1, 1, 1, 1, 1, 1, 0, 0] g_parseState_startListItem.body)) (.block 2 (.seq (.leaf (sel [1, 0, 1, 1, 1, 1, 1, 1, 0, 1, 0, 0] g_parseState_startListItem.body)) (.mark (leaf [(2, .s .loc), (5, .s .loc), (6, .s (.int .i64)), (8, .s (.int .u8)), (9, .s (.int .i64)), (31, .s (.int .u8)), (32, .s .bool)] (g_parseState_startListItem.k2 R)) (.cond 32 (.leaf (sel [1, 0, 1, 1, 1, 1, 1, 1, 0, 1, 0, 1, 0] g_parseState_startListItem.body)) (.seq (.leaf (sel [1, 0, 1, 1, 1, 1, 1, 1, 0, 1, 0, 1, 1, 0] g_parseState_startListItem.body)) (.mark (leaf [(2, .s .loc), (5, .s .loc), (6, .s (.int .i64)), (9, .s (.int .i64)), (40, .s .bool)] (g_parseState_startListItem.k4 R)) (.cond 40 (.seq (.leaf (sel [1, 0, 1, 1, 1, 1, 1, 1, 0, 1, 0, 1, 1, 1, 0, 0] g_parseState_startListItem.body)) (.block 3 (.loop (leaf [(2, .s .loc), (5, .s .loc), (6, .s (.int .i64)), (9, .s (.int .i64)), (10, .s (.int .i64))] (g_parseState_startListItem.l3 R)) (sel [1, 0, 1, 1, 1, 1, 1, 1, 0, 1, 0, 1, 1, 1, 0, 1, 0, 0] g_parseState_startListItem.body)))) (.leaf (sel [1, 0, 1, 1, 1, 1, 1, 1, 0, 1, 0, 1, 1, 1, 1] g_parseState_startListItem.body)))))))))) (.mark (leaf [(2, .s .loc), (5, .s .loc), (6, .s (.int .i64)), (8, .s (.int .u8)), (9, .s (.int .i64))] (g_parseState_startListItem.k3 R)) (.seq (.leaf (sel [1, 0, 1, 1, 1, 1, 1, 1, 1, 0] g_parseState_startListItem.body)) (.seq (.leaf (sel [1, 0, 1, 1, 1, 1, 1, 1, 1, 1, 0] g_parseState_startListItem.body)) (.seq (.leaf (sel [1, 0, 1, 1, 1, 1, 1, 1, 1, 1, 1, 0] g_parseState_startListItem.body)) (.seq (.leaf (sel [1, 0, 1, 1, 1, 1, 1, 1, 1, 1, 1, 1, 0] g_parseState_startListItem.body)) (.seq (.seq (.leaf (sel [1, 0, 1, 1, 1, 1, 1, 1, 1, 1, 1, 1, 1, 0, 0] g_parseState_startListItem.body)) (.block 5 (.loop (leaf [(2, .s .loc), (5, .s .loc), (6, .s (.int .i64)), (8, .s (.int .u8)), (9, .s (.int .i64)), (12, .s .loc), (13, .s (.int .i64)), (14, .s (.int .i64))] (g_parseState_startListItem.l2 R)) (sel [1, 0, 1, 1, 1, 1, 1, 1, 1, 1, 1, 1, 1, 0, 1, 0, 0] g_parseState_startListItem.body)))) (.mark (leaf [(2, .s .loc), (5, .s .loc), (6, .s (.int .i64)), (8, .s (.int .u8)), (9, .s (.int .i64)), (12, .s .loc), (13, .s (.int .i64))] (g_parseState_startListItem.k6 R)) (.seq (.leaf (sel [1, 0, 1, 1, 1, 1, 1, 1, 1, 1, 1, 1, 1, 1, 0] g_parseState_startListItem.body)) (.mark (leaf [(2, .s .loc), (5, .s .loc), (6, .s (.int .i64)), (8, .s (.int .u8)), (9, .s (.int .i64))] (g_parseState_startListItem.k8 R)) (.seq (.leaf (sel [1, 0, 1, 1, 1, 1, 1, 1, 1, 1, 1, 1, 1, 1, 1, 0] g_parseState_startListItem.body)) (.seq (.leaf (sel [1, 0, 1, 1, 1, 1, 1, 1, 1, 1, 1, 1, 1, 1, 1, 1, 0] g_parseState_startListItem.body)) (.mark (leaf [(2, .s .loc), (5, .s .loc), (6, .s (.int .i64)), (8, .s (.int .u8)), (9, .s (.int .i64)), (15, .s .loc)] (g_parseState_startListItem.k10 R)) (.seq (.seq (.leaf (sel [1, 0, 1, 1, 1, 1, 1, 1, 1, 1, 1, 1, 1, 1, 1, 1, 1, 0, 0] g_parseState_startListItem.body)) (.mark (leaf [(2, .s .loc), (5, .s .loc), (6, .s (.int .i64)), (8, .s (.int .u8)), (9, .s (.int .i64)), (15, .s .loc), (136, .s .bool)] (g_parseState_startListItem.k11 R)) (.cond 136 (.seq (.seq (.leaf (sel [1, 0, 1, 1, 1, 1, 1, 1, 1, 1, 1, 1, 1, 1, 1, 1, 1, 0, 1, 0, 0, 0] g_parseState_startListItem.body)) (.mark (leaf [(2, .s .loc), (5, .s .loc), (6, .s (.int .i64)), (8, .s (.int .u8)), (9, .s (.int .i64)), (15, .s .loc), (158, .s .bool)] (g_parseState_startListItem.k12 R)) (.leaf (sel [1, 0, 1, 1, 1, 1, 1, 1, 1, 1, 1, 1, 1, 1, 1, 1, 1, 0, 1, 0, 0, 1] g_parseState_startListItem.body)))) (.leaf (sel [1, 0, 1, 1, 1, 1, 1, 1, 1, 1, 1, 1, 1, 1, 1, 1, 1, 0, 1, 0, 1] g_parseState_startListItem.body))) (.leaf (sel [1, 0, 1, 1, 1, 1, 1, 1, 1, 1, 1, 1, 1, 1, 1, 1, 1, 0, 1, 1] g_parseState_startListItem.body))))) (.mark (leaf [(2, .s .loc), (5, .s .loc), (6, .s (.int .i64)), (15, .s .loc)] (g_parseState_startListItem.k13 R)) (.seq (.draw (.pure 1 (.load 0 (.two 2 (.pure 3 (.pure 4 (.two 5 (.one 6 (.one 7 .done)) 6 (.one 5 (.one 7 .done))))) 6 (.one 2 (.pure 3 (.pure 4 (.one 5 (.one 7 .done)))))))) (sel [1, 0, 1, 1, 1, 1, 1, 1, 1, 1, 1, 1, 1, 1, 1, 1, 1, 1, 0] g_parseState_startListItem.body)) (.mark (leaf [(2, .s .loc), (5, .s .loc), (15, .s .loc), (18, .s .loc)] (g_parseState_startListItem.k14 R)) (.leaf (sel [1, 0, 1, 1, 1, 1, 1, 1, 1, 1, 1, 1, 1, 1, 1, 1, 1, 1, 1] g_parseState_startListItem.body))))))))))))))))))))))))))))
theorem g_parseState_startListItem.good (R : EP) : Good P 181 (g_parseState_startListItem.ac R) (QF P [.tmp 4] R) :=
  ⟨trivial, ⟨trivial, ⟨trivial, ⟨⟨trivial, (loopG (g_parseState_startListItem.al1 R) (g_parseState_startListItem.bl1 R) (fun _ => by kernel_rfl) (fun Xc => trivial) (fun Xc => by intro x2 x5 x6 x7 ρ w; kernel_rfl) (fun X h _ _ _ _ _ g => g X h))⟩, ⟨⟨trivial, ⟨trivial, ⟨trivial, ⟨⟨trivial, ⟨trivial, ⟨⟨trivial, ⟨trivial, ⟨⟨⟨trivial, (loopG (g_parseState_startListItem.al3 R) (g_parseState_startListItem.bl3 R) (fun _ => by kernel_rfl) (fun Xb => ⟨⟨trivial, ⟨trivial, ⟨⟨trivial, ⟨trivial, cutE (by intro x2 x5 x6 x9 x10 x11 x69 ρ w; kernel_rfl)⟩⟩, ⟨trivial, ⟨trivial, cutE (by intro x2 x5 x6 x9 x10 x11 ρ w; kernel_rfl)⟩⟩⟩⟩⟩, trivial⟩) (fun Xb => by intro x2 x5 x6 x9 x10 ρ w; kernel_rfl) (fun X h _ _ _ _ _ _ g => g X h))⟩, trivial⟩, cutE (by intro x2 x5 x6 x9 x40 ρ w; kernel_rfl)⟩⟩⟩, cutE (by intro x2 x5 x6 x8 x9 x31 x32 ρ w; kernel_rfl)⟩⟩⟩, ⟨⟨trivial, ⟨trivial, ⟨trivial, ⟨trivial, ⟨⟨trivial, (loopG (g_parseState_startListItem.al2 R) (g_parseState_startListItem.bl2 R) (fun _ => by kernel_rfl) (fun Xa => ⟨trivial, ⟨trivial, cutE (by intro x2 x5 x6 x8 x9 x12 x13 x14 ρ w; kernel_rfl)⟩⟩) (fun Xa => by intro x2 x5 x6 x8 x9 x12 x13 x14 ρ w; kernel_rfl) (fun X h _ _ _ _ _ _ _ _ _ g => g X h))⟩, ⟨⟨trivial, ⟨⟨trivial, ⟨trivial, ⟨⟨⟨trivial, ⟨⟨⟨⟨trivial, ⟨trivial, cutE (by intro x2 x5 x6 x8 x9 x15 x158 ρ w; kernel_rfl)⟩⟩, trivial⟩, trivial⟩, cutE (by intro x2 x5 x6 x8 x9 x15 x136 ρ w; kernel_rfl)⟩⟩, ⟨⟨⟨by kernel_rfl, by kernel_rfl, fun _ _ _ h => h⟩, ⟨trivial, cutE (by intro x2 x5 x15 x18 ρ w; kernel_rfl)⟩⟩, cutE (by intro x2 x5 x6 x15 ρ w; kernel_rfl)⟩⟩, cutE (by intro x2 x5 x6 x8 x9 x15 ρ w; kernel_rfl)⟩⟩⟩, cutE (by intro x2 x5 x6 x8 x9 ρ w; kernel_rfl)⟩⟩, cutE (by intro x2 x5 x6 x8 x9 x12 x13 ρ w; kernel_rfl)⟩⟩⟩⟩⟩⟩, cutE (by intro x2 x5 x6 x8 x9 ρ w; kernel_rfl)⟩⟩⟩⟩⟩, cutE (by intro x2 x5 x6 ρ w; kernel_rfl)⟩⟩⟩⟩⟩
theorem g_parseState_startListItem.eq (R : EP) (x0 : OA) (x1 : OA) (w : World) : g_parseState_startListItem R x0 x1 w = vcA P 181 (g_parseState_startListItem.ac R) (QF P [.tmp 4] R) (fr0 [.pointer x0, .pointer x1]) w := by kernel_rfl
theorem g_parseState_startListItem.sound {R : EP} {x0 : OA} {x1 : OA} {w : World} (h : g_parseState_startListItem R x0 x1 w) : callE P i_parseState_startListItem #[.pointer x0, .pointer x1] R w :=
  callE_fin (c := g_parseState_startListItem.body) Tryz.func117 Tryz.call117 (by kernel_rfl) (by kernel_rfl) (by kernel_rfl) (by kernel_rfl) (by kernel_rfl) (g_parseState_startListItem.good R) (g_parseState_startListItem.eq R x0 x1 w) h
namespace g_newHTML
noncomputable def body : Code := bodyOf Tryz.f66
end g_newHTML
def g_newHTML (R : EP) (x0 : OA) (x1_0 : Int) (x1_1 : Int) (x1_2 : Int) (x1_3 : BA) (x1_4 : Int) (w : World) : Prop :=
 box w #[.int .i64 x1_0, .int .i64 x1_1, .int .i64 x1_2, .string x1_3, .int .u8 x1_4] ty_line fun b1 w2 =>
 box w2 #[.int .i64 0, .int .i64 0, .int .i64 0, .string (ByteArray.mk #[]), .int .u8 0] ty_line fun b3 w4 =>
 ∃ (v5 : Int), w4.cell? ⟨b1, 0, none⟩ = some (.int .i64 v5) ∧
 ∃ (v6 : Int), w4.cell? ⟨b1, 1, none⟩ = some (.int .i64 v6) ∧
 ∃ (v7 : Int), w4.cell? ⟨b1, 2, none⟩ = some (.int .i64 v7) ∧
 ∃ (v8 : BA), w4.cell? ⟨b1, 3, none⟩ = some (.string v8) ∧
 ∃ (v9 : Int), w4.cell? ⟨b1, 4, none⟩ = some (.int .u8 v9) ∧
 box w4 #[.int .i64 0, .int .i64 0, .int .i64 0, .string (ByteArray.mk #[]), .int .u8 0] ty_line fun b10 w11 =>
 stV w11 ⟨b10, 0, none⟩ (.int .i64 v5) fun w12 =>
 stV w12 ⟨b10, 1, none⟩ (.int .i64 v6) fun w13 =>
 stV w13 ⟨b10, 2, none⟩ (.int .i64 v7) fun w14 =>
 stV w14 ⟨b10, 3, none⟩ (.string v8) fun w15 =>
 stV w15 ⟨b10, 4, none⟩ (.int .u8 v9) fun w16 =>
 callE P i_parseState_startHTML #[.pointer x0, .pointer (some ⟨b10, 0, none⟩)] (fun e w18 => ∃ (r17 : Bool), e = .returned (.bool r17) ∧
 br r17
 (stV w18 ⟨b3, 0, none⟩ (.int .i64 0) fun w19 =>
 stV w19 ⟨b3, 1, none⟩ (.int .i64 0) fun w20 =>
 stV w20 ⟨b3, 2, none⟩ (.int .i64 0) fun w21 =>
 stV w21 ⟨b3, 3, none⟩ (.string (ByteArray.mk #[])) fun w22 =>
 stV w22 ⟨b3, 4, none⟩ (.int .u8 0) fun w23 =>
 ∃ (v24 : Int), w23.cell? ⟨b3, 0, none⟩ = some (.int .i64 v24) ∧
 ∃ (v25 : Int), w23.cell? ⟨b3, 1, none⟩ = some (.int .i64 v25) ∧
 ∃ (v26 : Int), w23.cell? ⟨b3, 2, none⟩ = some (.int .i64 v26) ∧
 ∃ (v27 : BA), w23.cell? ⟨b3, 3, none⟩ = some (.string v27) ∧
 ∃ (v28 : Int), w23.cell? ⟨b3, 4, none⟩ = some (.int .u8 v28) ∧
 R (.returned (.tuple #[.agg #[.int .i64 v24, .int .i64 v25, .int .i64 v26, .string v27, .int .u8 v28], .bool true])) w23)
 (∃ (v29 : Int), w18.cell? ⟨b1, 0, none⟩ = some (.int .i64 v29) ∧
 ∃ (v30 : Int), w18.cell? ⟨b1, 1, none⟩ = some (.int .i64 v30) ∧
 ∃ (v31 : Int), w18.cell? ⟨b1, 2, none⟩ = some (.int .i64 v31) ∧
 ∃ (v32 : BA), w18.cell? ⟨b1, 3, none⟩ = some (.string v32) ∧
 ∃ (v33 : Int), w18.cell? ⟨b1, 4, none⟩ = some (.int .u8 v33) ∧
 stV w18 ⟨b3, 0, none⟩ (.int .i64 v29) fun w34 =>
 stV w34 ⟨b3, 1, none⟩ (.int .i64 v30) fun w35 =>
 stV w35 ⟨b3, 2, none⟩ (.int .i64 v31) fun w36 =>
 stV w36 ⟨b3, 3, none⟩ (.string v32) fun w37 =>
 stV w37 ⟨b3, 4, none⟩ (.int .u8 v33) fun w38 =>
 ∃ (v39 : Int), w38.cell? ⟨b3, 0, none⟩ = some (.int .i64 v39) ∧
 ∃ (v40 : Int), w38.cell? ⟨b3, 1, none⟩ = some (.int .i64 v40) ∧
 ∃ (v41 : Int), w38.cell? ⟨b3, 2, none⟩ = some (.int .i64 v41) ∧
 ∃ (v42 : BA), w38.cell? ⟨b3, 3, none⟩ = some (.string v42) ∧
 ∃ (v43 : Int), w38.cell? ⟨b3, 4, none⟩ = some (.int .u8 v43) ∧
 R (.returned (.tuple #[.agg #[.int .i64 v39, .int .i64 v40, .int .i64 v41, .string v42, .int .u8 v43], .bool false])) w38)) w16

noncomputable def g_newHTML.ac (R : EP) : AC :=
  (.leaf (sel [] g_newHTML.body))
theorem g_newHTML.good (R : EP) : Good P 12 (g_newHTML.ac R) (QF P [.cell 4 80, .tmp 5] R) :=
  trivial
theorem g_newHTML.eq (R : EP) (x0 : OA) (x1_0 : Int) (x1_1 : Int) (x1_2 : Int) (x1_3 : BA) (x1_4 : Int) (w : World) : g_newHTML R x0 x1_0 x1_1 x1_2 x1_3 x1_4 w = vcA P 12 (g_newHTML.ac R) (QF P [.cell 4 80, .tmp 5] R) (fr0 [.pointer x0, .agg #[.int .i64 x1_0, .int .i64 x1_1, .int .i64 x1_2, .string x1_3, .int .u8 x1_4]]) w := by kernel_rfl
theorem g_newHTML.sound {R : EP} {x0 : OA} {x1_0 : Int} {x1_1 : Int} {x1_2 : Int} {x1_3 : ByteArray} {x1_4 : Int} {w : World} (h : g_newHTML R x0 x1_0 x1_1 x1_2 x1_3 x1_4 w) : callE P i_newHTML #[.pointer x0, .agg #[.int .i64 x1_0, .int .i64 x1_1, .int .i64 x1_2, .string x1_3, .int .u8 x1_4]] R w :=
  callE_fin (c := g_newHTML.body) Tryz.func66 Tryz.call66 (by kernel_rfl) (by kernel_rfl) (by kernel_rfl) (by kernel_rfl) (by kernel_rfl) (g_newHTML.good R) (g_newHTML.eq R x0 x1_0 x1_1 x1_2 x1_3 x1_4 w) h
namespace g_parseState_para
noncomputable def body : Code := bodyOf Tryz.f69
end g_parseState_para
def g_parseState_para (R : EP) (x0 : OA) (w : World) : Prop :=
 tk w fun w1 =>
 nilP x0 fun a2 =>
 nilP x0 fun a3 =>
 ∃ (v4q : OA), ∃ (v4n : Nat), ∃ (v4c : Nat), w1.cell? (a2.add 4) = some (.slice v4q v4n v4c) ∧
 ∃ (v5q : OA), ∃ (v5n : Nat), ∃ (v5c : Nat), w1.cell? (a3.add 4) = some (.slice v5q v5n v5c) ∧
 0 ≤ (IntKind.i64.wrap ((v5n : Int) - 1)) ∧ (IntKind.i64.wrap ((v5n : Int) - 1)) < (v4n : Int) ∧
 nilP v4q fun a6 =>
 ∃ (v7 : Value), w1.cell? (a6.add (Int.toNat (IntKind.i64.wrap ((v5n : Int) - 1)) * 4)) = some v7 ∧
 ∃ (r8_0 : OA), ∃ (r8_1 : Bool), (∀ w, (Instr.typeAssert v7 ty_blockBuilder ty_P_paraBuilder true).run P w = .ok (.tuple #[.pointer r8_0, .bool r8_1]) w) ∧
 br r8_1
 (R (.returned (.pointer r8_0)) w1)
 (R (.returned (.pointer none)) w1)

noncomputable def g_parseState_para.ac (R : EP) : AC :=
  (.seq (.leaf (sel [0] g_parseState_para.body)) (.seq (.seq (.draw (.pure 0 (.pure 1 (.pure 2 (.pure 4 (.pure 5 (.pure 6 (.load 3 (.load 7 (.pure 8 (.pure 9 (.pure 10 (.pure 11 (.load 12 (.pure 13 (.pure 14 (.pure 15 (.pure 16 (.pure 17 (.pure 18 .done))))))))))))))))))) (sel [1, 0, 0] g_parseState_para.body)) (.leaf (sel [1, 0, 1] g_parseState_para.body))) (.leaf (sel [1, 1] g_parseState_para.body))))
theorem g_parseState_para.good (R : EP) : Good P 24 (g_parseState_para.ac R) (QF P [.tmp 2] R) :=
  ⟨trivial, ⟨⟨⟨by kernel_rfl, by kernel_rfl, fun _ _ _ h => h⟩, trivial⟩, trivial⟩⟩
theorem g_parseState_para.eq (R : EP) (x0 : OA) (w : World) : g_parseState_para R x0 w = vcA P 24 (g_parseState_para.ac R) (QF P [.tmp 2] R) (fr0 [.pointer x0]) w := by kernel_rfl
theorem g_parseState_para.sound {R : EP} {x0 : OA} {w : World} (h : g_parseState_para R x0 w) : callE P i_parseState_para #[.pointer x0] R w :=
  callE_fin (c := g_parseState_para.body) Tryz.func69 Tryz.call69 (by kernel_rfl) (by kernel_rfl) (by kernel_rfl) (by kernel_rfl) (by kernel_rfl) (g_parseState_para.good R) (g_parseState_para.eq R x0 w) h
namespace g_parseState_startHTML
noncomputable def body : Code := bodyOf Tryz.f118
def k10 (R : EP) (Xa : OA → OA → BA → Int → OA → Nat → Nat → WP) (x0 : OA) (x1 : OA) (x6 : BA) (x9 : Int) (x10q : OA) (x10n : Nat) (x10c : Nat) (x11 : Int) (w : World) : Prop :=
 ∃ (r64q : OA), ∃ (r64n : Nat), ∃ (r64c : Nat), ∃ w65, (Instr.buildSlice ty_S_uint8 1 #[(0, .int .u8 x11)]).run P w = .ok (.slice r64q r64n r64c) w65 ∧
 ∃ (r66q : OA), ∃ (r66n : Nat), ∃ (r66c : Nat), ∃ w67, (Builtin.append_ #[ty_S_uint8, ty_S_uint8] ty_S_uint8 #[.slice x10q x10n x10c, .slice r64q r64n r64c]).run P w65 = .ok (.slice r66q r66n r66c) w67 ∧
 Xa x0 x1 x6 (IntKind.i64.wrap (x9 + 1)) r66q r66n r66c w67

def k14 (R : EP) (x0 : OA) (x1 : OA) (w : World) : Prop :=
 box w #[.bool true, .slice none 0 0, .nilFunc] ty_htmlBuilder fun b76 w77 =>
 callE P i_parseState_addBlock #[.pointer x0, .iface ty_P_htmlBuilder (.pointer (some ⟨b76, 0, none⟩))] (fun e w79 => e = .returned (.tuple #[]) ∧
 tk w79 fun w80 =>
 ∃ (v81q : OA), ∃ (v81n : Nat), ∃ (v81c : Nat), w80.cell? ⟨b76, 1, none⟩ = some (.slice v81q v81n v81c) ∧
 callE P i_line_string #[.pointer x1] (fun e w83 => ∃ (r82 : BA), e = .returned (.string r82) ∧
 SameC w80 w83 ⟨b76, 1, none⟩ 1 ∧
 ∃ (r84q : OA), ∃ (r84n : Nat), ∃ (r84c : Nat), ∃ w85, (Instr.buildSlice ty_S_string 1 #[(0, .string r82)]).run P w83 = .ok (.slice r84q r84n r84c) w85 ∧
 SameC w83 w85 ⟨b76, 1, none⟩ 1 ∧
 ∃ (r86q : OA), ∃ (r86n : Nat), ∃ (r86c : Nat), ∃ w87, (Builtin.append_ #[ty_S_string, ty_S_string] ty_S_string #[.slice v81q v81n v81c, .slice r84q r84n r84c]).run P w85 = .ok (.slice r86q r86n r86c) w87 ∧
 stV w87 ⟨b76, 1, none⟩ (.slice r86q r86n r86c) fun w88 =>
 R (.returned (.bool true)) w88) w80) w77

def k18 (R : EP) (x0 : OA) (x1 : OA) (w : World) : Prop :=
 box w #[.bool true, .slice none 0 0, .nilFunc] ty_htmlBuilder fun b120 w121 =>
 callE P i_parseState_addBlock #[.pointer x0, .iface ty_P_htmlBuilder (.pointer (some ⟨b120, 0, none⟩))] (fun e w123 => e = .returned (.tuple #[]) ∧
 tk w123 fun w124 =>
 ∃ (v125q : OA), ∃ (v125n : Nat), ∃ (v125c : Nat), w124.cell? ⟨b120, 1, none⟩ = some (.slice v125q v125n v125c) ∧
 callE P i_line_string #[.pointer x1] (fun e w127 => ∃ (r126 : BA), e = .returned (.string r126) ∧
 SameC w124 w127 ⟨b120, 1, none⟩ 1 ∧
 ∃ (r128q : OA), ∃ (r128n : Nat), ∃ (r128c : Nat), ∃ w129, (Instr.buildSlice ty_S_string 1 #[(0, .string r126)]).run P w127 = .ok (.slice r128q r128n r128c) w129 ∧
 SameC w127 w129 ⟨b120, 1, none⟩ 1 ∧
 ∃ (r130q : OA), ∃ (r130n : Nat), ∃ (r130c : Nat), ∃ w131, (Builtin.append_ #[ty_S_string, ty_S_string] ty_S_string #[.slice v125q v125n v125c, .slice r128q r128n r128c]).run P w129 = .ok (.slice r130q r130n r130c) w131 ∧
 stV w131 ⟨b120, 1, none⟩ (.slice r130q r130n r130c) fun w132 =>
 R (.returned (.bool true)) w132) w124) w121

def k19 (R : EP) (x0 : OA) (x1 : OA) (x350 : Bool) (w : World) : Prop :=
 br x350
 (box w #[.bool true, .slice none 0 0, .nilFunc] ty_htmlBuilder fun b133 w134 =>
 callE P i_parseState_addBlock #[.pointer x0, .iface ty_P_htmlBuilder (.pointer (some ⟨b133, 0, none⟩))] (fun e w136 => e = .returned (.tuple #[]) ∧
 tk w136 fun w137 =>
 ∃ (v138q : OA), ∃ (v138n : Nat), ∃ (v138c : Nat), w137.cell? ⟨b133, 1, none⟩ = some (.slice v138q v138n v138c) ∧
 callE P i_line_string #[.pointer x1] (fun e w140 => ∃ (r139 : BA), e = .returned (.string r139) ∧
 SameC w137 w140 ⟨b133, 1, none⟩ 1 ∧
 ∃ (r141q : OA), ∃ (r141n : Nat), ∃ (r141c : Nat), ∃ w142, (Instr.buildSlice ty_S_string 1 #[(0, .string r139)]).run P w140 = .ok (.slice r141q r141n r141c) w142 ∧
 SameC w140 w142 ⟨b133, 1, none⟩ 1 ∧
 ∃ (r143q : OA), ∃ (r143n : Nat), ∃ (r143c : Nat), ∃ w144, (Builtin.append_ #[ty_S_string, ty_S_string] ty_S_string #[.slice v138q v138n v138c, .slice r141q r141n r141c]).run P w142 = .ok (.slice r143q r143n r143c) w144 ∧
 stV w144 ⟨b133, 1, none⟩ (.slice r143q r143n r143c) fun w145 =>
 R (.returned (.bool true)) w145) w137) w134)
 (R (.returned (.bool false)) w)

def k13 (R : EP) (Xb : OA → OA → BA → Int → OA → Nat → Nat → Int → Int → Bool → OA → Nat → Nat → Int → Int → WP) (x0 : OA) (x1 : OA) (x6 : BA) (x9 : Int) (x10q : OA) (x10n : Nat) (x10c : Nat) (x12 : Int) (x13 : Int) (x14 : Bool) (x184q : OA) (x184n : Nat) (x184c : Nat) (x185 : Int) (x186 : Int) (x206 : Bool) (w : World) : Prop :=
 br x206
 (br (x12 == 9)
 (nilP x0 fun a74 =>
 stV w ((a74.add 6).add 0) (.bool true) fun w75 =>
 k14 R x0 x1 w75)
 (k14 R x0 x1 w))
 (Xb x0 x1 x6 x9 x10q x10n x10c x12 x13 x14 x184q x184n x184c x185 (IntKind.i64.wrap (x186 + 1)) w)

def k17 (R : EP) (x0 : OA) (x1 : OA) (x6 : BA) (x20 : Int) (x310 : Bool) (w : World) : Prop :=
 br x310
 (br (x20 != (x6.size : Int))
 (nilP x0 fun a114 =>
 stV w ((a114.add 6).add 0) (.bool true) fun w115 =>
 k18 R x0 x1 w115)
 (k18 R x0 x1 w))
 (callE P i_parseHTMLClosingTag #[.pointer x0, .string x6, .int .i64 0] (fun e w117 => ∃ (r116_0 : Value), ∃ (r116_1 : Int), ∃ (r116_2 : Bool), e = .returned (.tuple #[r116_0, .int .i64 r116_1, .bool r116_2]) ∧
 br r116_2
 (callE P i_skipSpace #[.string x6, .int .i64 r116_1] (fun e w119 => ∃ (r118 : Int), e = .returned (.int .i64 r118) ∧
 k19 R x0 x1 (r118 == (x6.size : Int)) w119) w117)
 (k19 R x0 x1 false w117)) w)

def k16 (R : EP) (x0 : OA) (x1 : OA) (x6 : BA) (w : World) : Prop :=
 callE P i_parseState_para #[.pointer x0] (fun e w107 => ∃ (r106 : OA), e = .returned (.pointer r106) ∧
 ∃ (r108 : Bool), ∃ w109, (do eqGuard .eql ty_P_paraBuilder (.tmp 293) (.const (.pointer none)) (.pointer r106) (.pointer none); binOp .eql ty_P_paraBuilder (.pointer r106) (.pointer none)).run P w107 = .ok (.bool r108) w109 ∧
 br r108
 (callE P i_parseHTMLOpenTag #[.pointer x0, .string x6, .int .i64 0] (fun e w111 => ∃ (r110_0 : Value), ∃ (r110_1 : Int), ∃ (r110_2 : Bool), e = .returned (.tuple #[r110_0, .int .i64 r110_1, .bool r110_2]) ∧
 br r110_2
 (callE P i_skipSpace #[.string x6, .int .i64 r110_1] (fun e w113 => ∃ (r112 : Int), e = .returned (.int .i64 r112) ∧
 k17 R x0 x1 x6 r110_1 (r112 == (x6.size : Int)) w113) w111)
 (k17 R x0 x1 x6 r110_1 false w111)) w109)
 (R (.returned (.bool false)) w109)) w

def k15 (R : EP) (x0 : OA) (x1 : OA) (x6 : BA) (x266 : Bool) (w : World) : Prop :=
 br x266
 (box w #[.bool false, .slice none 0 0, .func (.func i_hasEndPre) #[] #[]] ty_htmlBuilder fun b89 w90 =>
 callE P i_parseState_addBlock #[.pointer x0, .iface ty_P_htmlBuilder (.pointer (some ⟨b89, 0, none⟩))] (fun e w92 => e = .returned (.tuple #[]) ∧
 tk w92 fun w93 =>
 ∃ (v94q : OA), ∃ (v94n : Nat), ∃ (v94c : Nat), w93.cell? ⟨b89, 1, none⟩ = some (.slice v94q v94n v94c) ∧
 callE P i_line_string #[.pointer x1] (fun e w96 => ∃ (r95 : BA), e = .returned (.string r95) ∧
 SameC w93 w96 ⟨b89, 1, none⟩ 1 ∧
 ∃ (r97q : OA), ∃ (r97n : Nat), ∃ (r97c : Nat), ∃ w98, (Instr.buildSlice ty_S_string 1 #[(0, .string r95)]).run P w96 = .ok (.slice r97q r97n r97c) w98 ∧
 SameC w96 w98 ⟨b89, 1, none⟩ 1 ∧
 ∃ (r99q : OA), ∃ (r99n : Nat), ∃ (r99c : Nat), ∃ w100, (Builtin.append_ #[ty_S_string, ty_S_string] ty_S_string #[.slice v94q v94n v94c, .slice r97q r97n r97c]).run P w98 = .ok (.slice r99q r99n r99c) w100 ∧
 stV w100 ⟨b89, 1, none⟩ (.slice r99q r99n r99c) fun w101 =>
 callE P i_hasEndPre #[.string x6] (fun e w103 => ∃ (r102 : Bool), e = .returned (.bool r102) ∧
 br r102
 (callE P i_parseState_closeBlock #[.pointer x0] (fun e w105 => ∃ (r104 : Value), e = .returned r104 ∧
 R (.returned (.bool true)) w105) w103)
 (R (.returned (.bool true)) w103)) w101) w93) w90)
 (k16 R x0 x1 x6 w)

def k12 (R : EP) (x0 : OA) (x1 : OA) (x6 : BA) (x10q : OA) (x10n : Nat) (x10c : Nat) (x263 : Bool) (w : World) : Prop :=
 br x263
 (∃ (r72 : BA), ∃ w73, (convert ty_S_uint8 ty_string (.slice x10q x10n x10c)).run P w = .ok (.string r72) w73 ∧
 br (r72.toList == (ByteArray.mk #[112, 114, 101]).toList)
 (k15 R x0 x1 x6 true w73)
 (br (r72.toList == (ByteArray.mk #[115, 99, 114, 105, 112, 116]).toList)
 (k15 R x0 x1 x6 true w73)
 (br (r72.toList == (ByteArray.mk #[115, 116, 121, 108, 101]).toList)
 (k15 R x0 x1 x6 true w73)
 (k15 R x0 x1 x6 (r72.toList == (ByteArray.mk #[116, 101, 120, 116, 97, 114, 101, 97]).toList) w73))))
 (k16 R x0 x1 x6 w)

def k11 (R : EP) (x0 : OA) (x1 : OA) (x6 : BA) (x9 : Int) (x10q : OA) (x10n : Nat) (x10c : Nat) (w : World) : Prop :=
 ((decide ((x6.size : Int) > 1)) = true → 0 ≤ (1 : Int) ∧ 1 < (x6.size : Int)) ∧
 ((((decide ((x6.size : Int) > 1)) && ((bt x6 1) != 47)) && (!(decide (x9 ≥ (x6.size : Int))))) = true → 0 ≤ x9 ∧ x9 < (x6.size : Int)) ∧
 ((((decide ((x6.size : Int) > 1)) && ((bt x6 1) != 47)) && (!((decide (x9 ≥ (x6.size : Int))) || ((bt x6 x9) == 32)))) = true → 0 ≤ x9 ∧ x9 < (x6.size : Int)) ∧
 ((((decide ((x6.size : Int) > 1)) && ((bt x6 1) != 47)) && (!(((decide (x9 ≥ (x6.size : Int))) || ((bt x6 x9) == 32)) || ((bt x6 x9) == 9)))) = true → 0 ≤ x9 ∧ x9 < (x6.size : Int)) ∧
 k12 R x0 x1 x6 x10q x10n x10c (((decide ((x6.size : Int) > 1)) && ((bt x6 1) != 47)) && ((((decide (x9 ≥ (x6.size : Int))) || ((bt x6 x9) == 32)) || ((bt x6 x9) == 9)) || ((bt x6 x9) == 62))) w

def bl2 (R : EP) (Xb : OA → OA → BA → Int → OA → Nat → Nat → Int → Int → Bool → OA → Nat → Nat → Int → Int → WP) (x0 : OA) (x1 : OA) (x6 : BA) (x9 : Int) (x10q : OA) (x10n : Nat) (x10c : Nat) (x12 : Int) (x13 : Int) (x14 : Bool) (x184q : OA) (x184n : Nat) (x184c : Nat) (x185 : Int) (x186 : Int) (w : World) : Prop :=
 br (decide (x186 < x185))
 (0 ≤ x186 ∧ x186 < (x184n : Int) ∧
 nilP x184q fun a68 =>
 ∃ (v69 : BA), w.cell? (a68.add (Int.toNat x186 * 1)) = some (.string v69) ∧
 0 ≤ (0 : Int) ∧ 0 < (v69.size : Int) ∧
 br (((bt v69 0) == x13) && ((v69.size : Int) == (x10n : Int)))
 (∃ (r70 : BA), ∃ w71, (convert ty_S_uint8 ty_string (.slice x10q x10n x10c)).run P w = .ok (.string r70) w71 ∧
 k13 R Xb x0 x1 x6 x9 x10q x10n x10c x12 x13 x14 x184q x184n x184c x185 x186 (v69.toList == r70.toList) w71)
 (k13 R Xb x0 x1 x6 x9 x10q x10n x10c x12 x13 x14 x184q x184n x184c x185 x186 false w))
 (br (!x14)
 (k11 R x0 x1 x6 x9 x10q x10n x10c w)
 (k14 R x0 x1 w))
def l2 (R : EP) (x0 : OA) (x1 : OA) (x6 : BA) (x9 : Int) (x10q : OA) (x10n : Nat) (x10c : Nat) (x12 : Int) (x13 : Int) (x14 : Bool) (x184q : OA) (x184n : Nat) (x184c : Nat) (x185 : Int) (x186 : Int) (w : World) : Prop :=
  ∀ X : OA → OA → BA → Int → OA → Nat → Nat → Int → Int → Bool → OA → Nat → Nat → Int → Int → WP, (∀ x0 x1 x6 x9 x10q x10n x10c x12 x13 x14 x184q x184n x184c x185 x186 w, bl2 R X x0 x1 x6 x9 x10q x10n x10c x12 x13 x14 x184q x184n x184c x185 x186 w → X x0 x1 x6 x9 x10q x10n x10c x12 x13 x14 x184q x184n x184c x185 x186 w) → X x0 x1 x6 x9 x10q x10n x10c x12 x13 x14 x184q x184n x184c x185 x186 w

noncomputable def al2 (R : EP) (Xb : OA → OA → BA → Int → OA → Nat → Nat → Int → Int → Bool → OA → Nat → Nat → Int → Int → WP) : AC :=
  (.seq (.leaf (sel [1, 0, 1, 1, 1, 1, 1, 1, 1, 1, 1, 1, 1, 1, 1, 1, 0, 1, 1, 0, 1, 0, 0, 0] body)) (.seq (.leaf (sel [1, 0, 1, 1, 1, 1, 1, 1, 1, 1, 1, 1, 1, 1, 1, 1, 0, 1, 1, 0, 1, 0, 0, 1, 0] body)) (.seq (.block 5 (.seq (.leaf (sel [1, 0, 1, 1, 1, 1, 1, 1, 1, 1, 1, 1, 1, 1, 1, 1, 0, 1, 1, 0, 1, 0, 0, 1, 1, 0, 0, 0] body)) (.seq (.leaf (sel [1, 0, 1, 1, 1, 1, 1, 1, 1, 1, 1, 1, 1, 1, 1, 1, 0, 1, 1, 0, 1, 0, 0, 1, 1, 0, 0, 1, 0] body)) (.mark (leaf [(0, .s .ptr), (1, .s .ptr), (6, .s .str), (9, .s (.int .i64)), (10, .s .slice), (12, .s (.int .u8)), (13, .s (.int .u8)), (14, .s .bool), (184, .s .slice), (185, .s (.int .i64)), (186, .s (.int .i64)), (206, .s .bool)] (k13 R Xb)) (.leaf (sel [1, 0, 1, 1, 1, 1, 1, 1, 1, 1, 1, 1, 1, 1, 1, 1, 0, 1, 1, 0, 1, 0, 0, 1, 1, 0, 0, 1, 1] body)))))) (.leaf (sel [1, 0, 1, 1, 1, 1, 1, 1, 1, 1, 1, 1, 1, 1, 1, 1, 0, 1, 1, 0, 1, 0, 0, 1, 1, 1] body)))))
def k9 (R : EP) (x0 : OA) (x1 : OA) (x6 : BA) (x9 : Int) (x10q : OA) (x10n : Nat) (x10c : Nat) (x12 : Int) (w : World) : Prop :=
 br ((x10n : Int) == 0)
 (k11 R x0 x1 x6 x9 x10q x10n x10c w)
 (0 ≤ (0 : Int) ∧ 0 < (x10n : Int) ∧
 nilP x10q fun a60 =>
 ∃ (v61 : Int), w.cell? (a60.add (Int.toNat 0 * 1)) = some (.int .u8 v61) ∧
 callE P i_htmlTags #[] (fun e w63 => ∃ (r62q : OA), ∃ (r62n : Nat), ∃ (r62c : Nat), e = .returned (.slice r62q r62n r62c) ∧
 l2 R x0 x1 x6 x9 x10q x10n x10c x12 v61 false r62q r62n r62c (r62n : Int) 0 w63) w)

def k8 (R : EP) (x0 : OA) (x1 : OA) (x6 : BA) (x9 : Int) (x10q : OA) (x10n : Nat) (x10c : Nat) (x12 : Int) (x156 : Int) (x157 : Bool) (w : World) : Prop :=
 br x157
 (0 ≤ x9 ∧ x9 < (x6.size : Int) ∧
 k9 R x0 x1 x6 x9 x10q x10n x10c (bt x6 x9) w)
 (br (x156 == 47)
 (((!(decide ((IntKind.i64.wrap (x9 + 1)) ≥ (x6.size : Int)))) = true → 0 ≤ (IntKind.i64.wrap (x9 + 1)) ∧ (IntKind.i64.wrap (x9 + 1)) < (x6.size : Int)) ∧
 br ((decide ((IntKind.i64.wrap (x9 + 1)) ≥ (x6.size : Int))) || ((bt x6 (IntKind.i64.wrap (x9 + 1))) != 62))
 (k11 R x0 x1 x6 x9 x10q x10n x10c w)
 (k9 R x0 x1 x6 x9 x10q x10n x10c x12 w))
 (k11 R x0 x1 x6 x9 x10q x10n x10c w))

def k6 (R : EP) (x0 : OA) (x1 : OA) (x6 : BA) (x9 : Int) (x10q : OA) (x10n : Nat) (x10c : Nat) (w : World) : Prop :=
 br (decide (x9 < (x6.size : Int)))
 (0 ≤ x9 ∧ x9 < (x6.size : Int) ∧
 br ((bt x6 x9) == 32)
 (k8 R x0 x1 x6 x9 x10q x10n x10c 0 (bt x6 x9) true w)
 (br ((bt x6 x9) == 9)
 (k8 R x0 x1 x6 x9 x10q x10n x10c 0 (bt x6 x9) true w)
 (k8 R x0 x1 x6 x9 x10q x10n x10c 0 (bt x6 x9) ((bt x6 x9) == 62) w)))
 (k9 R x0 x1 x6 x9 x10q x10n x10c 0 w)

def k7 (R : EP) (Xa : OA → OA → BA → Int → OA → Nat → Nat → WP) (x0 : OA) (x1 : OA) (x6 : BA) (x9 : Int) (x10q : OA) (x10n : Nat) (x10c : Nat) (x11 : Int) (w : World) : Prop :=
 br ((!((decide (97 ≤ x11)) && (decide (x11 ≤ 122)))) && (!((decide (48 ≤ x11)) && (decide (x11 ≤ 57)))))
 (k6 R x0 x1 x6 x9 x10q x10n x10c w)
 (k10 R Xa x0 x1 x6 x9 x10q x10n x10c x11 w)

def k5 (R : EP) (Xa : OA → OA → BA → Int → OA → Nat → Nat → WP) (x0 : OA) (x1 : OA) (x6 : BA) (x9 : Int) (x10q : OA) (x10n : Nat) (x10c : Nat) (w : World) : Prop :=
 0 ≤ x9 ∧ x9 < (x6.size : Int) ∧
 br ((decide (65 ≤ (bt x6 x9))) && (decide ((bt x6 x9) ≤ 90)))
 (k7 R Xa x0 x1 x6 x9 x10q x10n x10c (IntKind.u8.wrap ((bt x6 x9) + 32)) w)
 (k7 R Xa x0 x1 x6 x9 x10q x10n x10c (bt x6 x9) w)

def bl1 (R : EP) (Xa : OA → OA → BA → Int → OA → Nat → Nat → WP) (x0 : OA) (x1 : OA) (x6 : BA) (x9 : Int) (x10q : OA) (x10n : Nat) (x10c : Nat) (w : World) : Prop :=
 br ((decide (x9 < (x6.size : Int))) && (decide ((x10n : Int) < 16)))
 (k5 R Xa x0 x1 x6 x9 x10q x10n x10c w)
 (k6 R x0 x1 x6 x9 x10q x10n x10c w)
def l1 (R : EP) (x0 : OA) (x1 : OA) (x6 : BA) (x9 : Int) (x10q : OA) (x10n : Nat) (x10c : Nat) (w : World) : Prop :=
  ∀ X : OA → OA → BA → Int → OA → Nat → Nat → WP, (∀ x0 x1 x6 x9 x10q x10n x10c w, bl1 R X x0 x1 x6 x9 x10q x10n x10c w → X x0 x1 x6 x9 x10q x10n x10c w) → X x0 x1 x6 x9 x10q x10n x10c w

noncomputable def al1 (R : EP) (Xa : OA → OA → BA → Int → OA → Nat → Nat → WP) : AC :=
  (.seq (.leaf (sel [1, 0, 1, 1, 1, 1, 1, 1, 1, 1, 1, 1, 0, 0, 0, 0] body)) (.mark (leaf [(0, .s .ptr), (1, .s .ptr), (6, .s .str), (9, .s (.int .i64)), (10, .s .slice)] (k5 R Xa)) (.seq (.block 2 (.seq (.leaf (sel [1, 0, 1, 1, 1, 1, 1, 1, 1, 1, 1, 1, 0, 0, 0, 1, 0, 0, 0] body)) (.seq (.leaf (sel [1, 0, 1, 1, 1, 1, 1, 1, 1, 1, 1, 1, 0, 0, 0, 1, 0, 0, 1, 0] body)) (.mark (leaf [(0, .s .ptr), (1, .s .ptr), (6, .s .str), (9, .s (.int .i64)), (10, .s .slice), (11, .s (.int .u8))] (k7 R Xa)) (.seq (.leaf (sel [1, 0, 1, 1, 1, 1, 1, 1, 1, 1, 1, 1, 0, 0, 0, 1, 0, 0, 1, 1, 0] body)) (.mark (leaf [(0, .s .ptr), (1, .s .ptr), (6, .s .str), (9, .s (.int .i64)), (10, .s .slice), (11, .s (.int .u8))] (k10 R Xa)) (.leaf (sel [1, 0, 1, 1, 1, 1, 1, 1, 1, 1, 1, 1, 0, 0, 0, 1, 0, 0, 1, 1, 1] body)))))))) (.leaf (sel [1, 0, 1, 1, 1, 1, 1, 1, 1, 1, 1, 1, 0, 0, 0, 1, 1] body)))))
def k3 (R : EP) (x0 : OA) (x1 : OA) (x6 : BA) (x9 : Int) (w : World) : Prop :=
 ∃ (r54q : OA), ∃ (r54n : Nat), ∃ (r54c : Nat), ∃ w55, (Instr.makeSlice ty_S_uint8 (.int .i64 0) (.int .i64 16)).run P w = .ok (.slice r54q r54n r54c) w55 ∧
 l1 R x0 x1 x6 x9 r54q r54n r54c w55

def k1 (R : EP) (x0 : OA) (x1 : OA) (x6 : BA) (x7 : Nat) (w : World) : Prop :=
 ∃ (v35 : BA), w.cell? ⟨x7, 0, none⟩ = some (.string v35) ∧
 br (!(v35.toList == (ByteArray.mk #[]).toList))
 (box w #[.bool false, .slice none 0 0, .func (.func i_parseState_startHTML_1) #[] #[.pointer (some ⟨x7, 0, none⟩)]] ty_htmlBuilder fun b36 w37 =>
 callE P i_parseState_addBlock #[.pointer x0, .iface ty_P_htmlBuilder (.pointer (some ⟨b36, 0, none⟩))] (fun e w39 => e = .returned (.tuple #[]) ∧
 tk w39 fun w40 =>
 ∃ (v41q : OA), ∃ (v41n : Nat), ∃ (v41c : Nat), w40.cell? ⟨b36, 1, none⟩ = some (.slice v41q v41n v41c) ∧
 callE P i_line_string #[.pointer x1] (fun e w43 => ∃ (r42 : BA), e = .returned (.string r42) ∧
 SameC w40 w43 ⟨b36, 1, none⟩ 1 ∧
 ∃ (r44q : OA), ∃ (r44n : Nat), ∃ (r44c : Nat), ∃ w45, (Instr.buildSlice ty_S_string 1 #[(0, .string r42)]).run P w43 = .ok (.slice r44q r44n r44c) w45 ∧
 SameC w43 w45 ⟨b36, 1, none⟩ 1 ∧
 ∃ (r46q : OA), ∃ (r46n : Nat), ∃ (r46c : Nat), ∃ w47, (Builtin.append_ #[ty_S_string, ty_S_string] ty_S_string #[.slice v41q v41n v41c, .slice r44q r44n r44c]).run P w45 = .ok (.slice r46q r46n r46c) w47 ∧
 stV w47 ⟨b36, 1, none⟩ (.slice r46q r46n r46c) fun w48 =>
 ∃ (v49 : Value), w48.cell? ⟨b36, 2, none⟩ = some v49 ∧
 enterE P (do let d ← Deferred.ofValue v49 #[.string x6]; invoke d.target d.args) (fun e w51 => ∃ (r50 : Bool), e = .returned (.bool r50) ∧
 br r50
 (callE P i_parseState_closeBlock #[.pointer x0] (fun e w53 => ∃ (r52 : Value), e = .returned r52 ∧
 R (.returned (.bool true)) w53) w51)
 (R (.returned (.bool true)) w51)) w48) w40) w37)
 (((decide (1 < (x6.size : Int))) = true → 0 ≤ (1 : Int) ∧ 1 < (x6.size : Int)) ∧
 br ((decide (1 < (x6.size : Int))) && ((bt x6 1) == 47))
 (k3 R x0 x1 x6 (IntKind.i64.wrap (1 + 1)) w)
 (k3 R x0 x1 x6 1 w))

def k4 (R : EP) (x0 : OA) (x1 : OA) (x6 : BA) (x7 : Nat) (x63 : Bool) (w : World) : Prop :=
 br x63
 (nilP x0 fun a56 =>
 stV w ((a56.add 6).add 0) (.bool true) fun w57 =>
 stV w57 ⟨x7, 0, none⟩ (.string (ByteArray.mk #[62])) fun w58 =>
 k1 R x0 x1 x6 x7 w58)
 (stV w ⟨x7, 0, none⟩ (.string (ByteArray.mk #[62])) fun w59 =>
 k1 R x0 x1 x6 x7 w59)

def k2 (R : EP) (x0 : OA) (x1 : OA) (x6 : BA) (x7 : Nat) (x43 : Bool) (w : World) : Prop :=
 br x43
 (0 ≤ (2 : Int) ∧ 2 < (x6.size : Int) ∧
 ((decide (97 ≤ (bt x6 2))) = true → 0 ≤ (2 : Int) ∧ 2 < (x6.size : Int)) ∧
 k4 R x0 x1 x6 x7 ((decide (97 ≤ (bt x6 2))) && (decide ((bt x6 2) ≤ 122))) w)
 (k1 R x0 x1 x6 x7 w)

end g_parseState_startHTML
def g_parseState_startHTML (R : EP) (x0 : OA) (x1 : OA) (w : World) : Prop :=
 nilP x1 fun a1 =>
 ∃ (v2 : Int), w.cell? (a1.add 0) = some (.int .i64 v2) ∧
 ∃ (v3 : Int), w.cell? (a1.add 1) = some (.int .i64 v3) ∧
 ∃ (v4 : Int), w.cell? (a1.add 2) = some (.int .i64 v4) ∧
 ∃ (v5 : BA), w.cell? (a1.add 3) = some (.string v5) ∧
 ∃ (v6 : Int), w.cell? (a1.add 4) = some (.int .u8 v6) ∧
 box w #[.int .i64 0, .int .i64 0, .int .i64 0, .string (ByteArray.mk #[]), .int .u8 0] ty_line fun b7 w8 =>
 stV w8 ⟨b7, 0, none⟩ (.int .i64 v2) fun w9 =>
 stV w9 ⟨b7, 1, none⟩ (.int .i64 v3) fun w10 =>
 stV w10 ⟨b7, 2, none⟩ (.int .i64 v4) fun w11 =>
 stV w11 ⟨b7, 3, none⟩ (.string v5) fun w12 =>
 stV w12 ⟨b7, 4, none⟩ (.int .u8 v6) fun w13 =>
 callE P i_line_trimSpace #[.pointer (some ⟨b7, 0, none⟩), .int .i64 0, .int .i64 3, .bool false] (fun e w15 => ∃ (r14 : Bool), e = .returned (.bool r14) ∧
 callE P i_line_peek #[.pointer (some ⟨b7, 0, none⟩)] (fun e w17 => ∃ (r16 : Int), e = .returned (.int .u8 r16) ∧
 br (r16 != 60)
 (R (.returned (.bool false)) w17)
 (callE P i_line_string #[.pointer (some ⟨b7, 0, none⟩)] (fun e w19 => ∃ (r18 : BA), e = .returned (.string r18) ∧
 box w19 #[.string (ByteArray.mk #[])] ty_string fun b20 w21 =>
 callE P i_strings_HasPrefix #[.string r18, .string (ByteArray.mk #[60, 33, 45, 45])] (fun e w23 => ∃ (r22 : Bool), e = .returned (.bool r22) ∧
 br r22
 (stV w23 ⟨b20, 0, none⟩ (.string (ByteArray.mk #[45, 45, 62])) fun w24 =>
 g_parseState_startHTML.k1 R x0 x1 r18 b20 w24)
 (callE P i_strings_HasPrefix #[.string r18, .string (ByteArray.mk #[60, 63])] (fun e w26 => ∃ (r25 : Bool), e = .returned (.bool r25) ∧
 br r25
 (stV w26 ⟨b20, 0, none⟩ (.string (ByteArray.mk #[63, 62])) fun w27 =>
 g_parseState_startHTML.k1 R x0 x1 r18 b20 w27)
 (callE P i_strings_HasPrefix #[.string r18, .string (ByteArray.mk #[60, 33, 91, 67, 68, 65, 84, 65, 91])] (fun e w29 => ∃ (r28 : Bool), e = .returned (.bool r28) ∧
 br r28
 (stV w29 ⟨b20, 0, none⟩ (.string (ByteArray.mk #[93, 93, 62])) fun w30 =>
 g_parseState_startHTML.k1 R x0 x1 r18 b20 w30)
 (callE P i_strings_HasPrefix #[.string r18, .string (ByteArray.mk #[60, 33])] (fun e w32 => ∃ (r31 : Bool), e = .returned (.bool r31) ∧
 ((r31 && (decide ((r18.size : Int) ≥ 3))) = true → 0 ≤ (2 : Int) ∧ 2 < (r18.size : Int)) ∧
 br (r31 && (decide ((r18.size : Int) ≥ 3)))
 (callE P i_isLetter #[.int .u8 (bt r18 2)] (fun e w34 => ∃ (r33 : Bool), e = .returned (.bool r33) ∧
 g_parseState_startHTML.k2 R x0 x1 r18 b20 r33 w34) w32)
 (g_parseState_startHTML.k2 R x0 x1 r18 b20 false w32)) w29)) w26)) w23)) w21) w17)) w15) w13

noncomputable def g_parseState_startHTML.ac (R : EP) : AC :=
  (.seq (.leaf (sel [0] g_parseState_startHTML.body)) (.jump 0 (leaf [(0, .s .ptr), (1, .s .ptr), (6, .s .str), (9, .s (.int .i64)), (10, .s .slice)] (g_parseState_startHTML.k11 R)) (.seq (.leaf (sel [1, 0, 0] g_parseState_startHTML.body)) (.seq (.leaf (sel [1, 0, 1, 0] g_parseState_startHTML.body)) (.seq (.leaf (sel [1, 0, 1, 1, 0] g_parseState_startHTML.body)) (.seq (.leaf (sel [1, 0, 1, 1, 1, 0] g_parseState_startHTML.body)) (.seq (.leaf (sel [1, 0, 1, 1, 1, 1, 0] g_parseState_startHTML.body)) (.seq (.block 0 (.seq (.leaf (sel [1, 0, 1, 1, 1, 1, 1, 0, 0, 0] g_parseState_startHTML.body)) (.cond 34 (.leaf (sel [1, 0, 1, 1, 1, 1, 1, 0, 0, 1, 0] g_parseState_startHTML.body)) (.seq (.leaf (sel [1, 0, 1, 1, 1, 1, 1, 0, 0, 1, 1, 0] g_parseState_startHTML.body)) (.cond 37 (.leaf (sel [1, 0, 1, 1, 1, 1, 1, 0, 0, 1, 1, 1, 0] g_parseState_startHTML.body)) (.seq (.leaf (sel [1, 0, 1, 1, 1, 1, 1, 0, 0, 1, 1, 1, 1, 0] g_parseState_startHTML.body)) (.cond 40 (.leaf (sel [1, 0, 1, 1, 1, 1, 1, 0, 0, 1, 1, 1, 1, 1, 0] g_parseState_startHTML.body)) (.seq (.leaf (sel [1, 0, 1, 1, 1, 1, 1, 0, 0, 1, 1, 1, 1, 1, 1, 0] g_parseState_startHTML.body)) (.mark (leaf [(0, .s .ptr), (1, .s .ptr), (6, .s .str), (7, .s .loc), (43, .s .bool)] (g_parseState_startHTML.k2 R)) (.cond 43 (.seq (.seq (.leaf (sel [1, 0, 1, 1, 1, 1, 1, 0, 0, 1, 1, 1, 1, 1, 1, 1, 0, 0, 0] g_parseState_startHTML.body)) (.mark (leaf [(0, .s .ptr), (1, .s .ptr), (6, .s .str), (7, .s .loc), (63, .s .bool)] (g_parseState_startHTML.k4 R)) (.leaf (sel [1, 0, 1, 1, 1, 1, 1, 0, 0, 1, 1, 1, 1, 1, 1, 1, 0, 0, 1] g_parseState_startHTML.body)))) (.leaf (sel [1, 0, 1, 1, 1, 1, 1, 0, 0, 1, 1, 1, 1, 1, 1, 1, 0, 1] g_parseState_startHTML.body))) (.leaf (sel [1, 0, 1, 1, 1, 1, 1, 0, 0, 1, 1, 1, 1, 1, 1, 1, 1] g_parseState_startHTML.body)))))))))))) (.mark (leaf [(0, .s .ptr), (1, .s .ptr), (6, .s .str), (7, .s .loc)] (g_parseState_startHTML.k1 R)) (.seq (.seq (.leaf (sel [1, 0, 1, 1, 1, 1, 1, 1, 0, 0] g_parseState_startHTML.body)) (.cond 68 (.seq (.leaf (sel [1, 0, 1, 1, 1, 1, 1, 1, 0, 1, 0, 0] g_parseState_startHTML.body)) (.seq (.leaf (sel [1, 0, 1, 1, 1, 1, 1, 1, 0, 1, 0, 1, 0] g_parseState_startHTML.body)) (.seq (.draw (.pure 0 (.pure 1 (.pure 2 (.pure 3 (.pure 5 (.load 4 (.one 6 (.one 7 (.one 8 (.pure 9 (.pure 10 (.one 11 .done)))))))))))) (sel [1, 0, 1, 1, 1, 1, 1, 1, 0, 1, 0, 1, 1, 0] g_parseState_startHTML.body)) (.leaf (sel [1, 0, 1, 1, 1, 1, 1, 1, 0, 1, 0, 1, 1, 1] g_parseState_startHTML.body))))) (.leaf (sel [1, 0, 1, 1, 1, 1, 1, 1, 0, 1, 1] g_parseState_startHTML.body)))) (.seq (.leaf (sel [1, 0, 1, 1, 1, 1, 1, 1, 1, 0] g_parseState_startHTML.body)) (.seq (.leaf (sel [1, 0, 1, 1, 1, 1, 1, 1, 1, 1, 0] g_parseState_startHTML.body)) (.mark (leaf [(0, .s .ptr), (1, .s .ptr), (6, .s .str), (9, .s (.int .i64))] (g_parseState_startHTML.k3 R)) (.seq (.leaf (sel [1, 0, 1, 1, 1, 1, 1, 1, 1, 1, 1, 0] g_parseState_startHTML.body)) (.seq (.block 1 (.loop (leaf [(0, .s .ptr), (1, .s .ptr), (6, .s .str), (9, .s (.int .i64)), (10, .s .slice)] (g_parseState_startHTML.l1 R)) (sel [1, 0, 1, 1, 1, 1, 1, 1, 1, 1, 1, 1, 0, 0, 0] g_parseState_startHTML.body))) (.mark (leaf [(0, .s .ptr), (1, .s .ptr), (6, .s .str), (9, .s (.int .i64)), (10, .s .slice)] (g_parseState_startHTML.k6 R)) (.seq (.leaf (sel [1, 0, 1, 1, 1, 1, 1, 1, 1, 1, 1, 1, 1, 0] g_parseState_startHTML.body)) (.seq (.seq (.leaf (sel [1, 0, 1, 1, 1, 1, 1, 1, 1, 1, 1, 1, 1, 1, 0, 0] g_parseState_startHTML.body)) (.cond 153 (.seq (.leaf (sel [1, 0, 1, 1, 1, 1, 1, 1, 1, 1, 1, 1, 1, 1, 0, 1, 0, 0] g_parseState_startHTML.body)) (.block 3 (.seq (.leaf (sel [1, 0, 1, 1, 1, 1, 1, 1, 1, 1, 1, 1, 1, 1, 0, 1, 0, 1, 0, 0] g_parseState_startHTML.body)) (.mark (leaf [(0, .s .ptr), (1, .s .ptr), (6, .s .str), (9, .s (.int .i64)), (10, .s .slice), (12, .s (.int .u8)), (156, .s (.int .u8)), (157, .s .bool)] (g_parseState_startHTML.k8 R)) (.leaf (sel [1, 0, 1, 1, 1, 1, 1, 1, 1, 1, 1, 1, 1, 1, 0, 1, 0, 1, 0, 1] g_parseState_startHTML.body)))))) (.leaf (sel [1, 0, 1, 1, 1, 1, 1, 1, 1, 1, 1, 1, 1, 1, 0, 1, 1] g_parseState_startHTML.body)))) (.mark (leaf [(0, .s .ptr), (1, .s .ptr), (6, .s .str), (9, .s (.int .i64)), (10, .s .slice), (12, .s (.int .u8))] (g_parseState_startHTML.k9 R)) (.seq (.leaf (sel [1, 0, 1, 1, 1, 1, 1, 1, 1, 1, 1, 1, 1, 1, 1, 0] g_parseState_startHTML.body)) (.seq (.seq (.leaf (sel [1, 0, 1, 1, 1, 1, 1, 1, 1, 1, 1, 1, 1, 1, 1, 1, 0, 0] g_parseState_startHTML.body)) (.seq (.leaf (sel [1, 0, 1, 1, 1, 1, 1, 1, 1, 1, 1, 1, 1, 1, 1, 1, 0, 1, 0] g_parseState_startHTML.body)) (.seq (.seq (.leaf (sel [1, 0, 1, 1, 1, 1, 1, 1, 1, 1, 1, 1, 1, 1, 1, 1, 0, 1, 1, 0, 0] g_parseState_startHTML.body)) (.block 4 (.loop (leaf [(0, .s .ptr), (1, .s .ptr), (6, .s .str), (9, .s (.int .i64)), (10, .s .slice), (12, .s (.int .u8)), (13, .s (.int .u8)), (14, .s .bool), (184, .s .slice), (185, .s (.int .i64)), (186, .s (.int .i64))] (g_parseState_startHTML.l2 R)) (sel [1, 0, 1, 1, 1, 1, 1, 1, 1, 1, 1, 1, 1, 1, 1, 1, 0, 1, 1, 0, 1, 0, 0] g_parseState_startHTML.body)))) (.leaf (sel [1, 0, 1, 1, 1, 1, 1, 1, 1, 1, 1, 1, 1, 1, 1, 1, 0, 1, 1, 1] g_parseState_startHTML.body))))) (.mark (leaf [(0, .s .ptr), (1, .s .ptr)] (g_parseState_startHTML.k14 R)) (.seq (.seq (.leaf (sel [1, 0, 1, 1, 1, 1, 1, 1, 1, 1, 1, 1, 1, 1, 1, 1, 1, 0, 0] g_parseState_startHTML.body)) (.seq (.leaf (sel [1, 0, 1, 1, 1, 1, 1, 1, 1, 1, 1, 1, 1, 1, 1, 1, 1, 0, 1, 0] g_parseState_startHTML.body)) (.seq (.draw (.pure 0 (.pure 1 (.pure 2 (.pure 3 (.pure 5 (.load 4 (.one 6 (.one 7 (.one 8 (.pure 9 (.pure 10 (.one 11 .done)))))))))))) (sel [1, 0, 1, 1, 1, 1, 1, 1, 1, 1, 1, 1, 1, 1, 1, 1, 1, 0, 1, 1, 0] g_parseState_startHTML.body)) (.leaf (sel [1, 0, 1, 1, 1, 1, 1, 1, 1, 1, 1, 1, 1, 1, 1, 1, 1, 0, 1, 1, 1] g_parseState_startHTML.body))))) (.seq (.leaf (sel [1, 0, 1, 1, 1, 1, 1, 1, 1, 1, 1, 1, 1, 1, 1, 1, 1, 1, 0] g_parseState_startHTML.body)) (.mark (leaf [(0, .s .ptr), (1, .s .ptr), (6, .s .str), (9, .s (.int .i64)), (10, .s .slice)] (g_parseState_startHTML.k11 R)) (.seq (.seq (.leaf (sel [1, 0, 1, 1, 1, 1, 1, 1, 1, 1, 1, 1, 1, 1, 1, 1, 1, 1, 1, 0, 0] g_parseState_startHTML.body)) (.mark (leaf [(0, .s .ptr), (1, .s .ptr), (6, .s .str), (10, .s .slice), (263, .s .bool)] (g_parseState_startHTML.k12 R)) (.cond 263 (.seq (.leaf (sel [1, 0, 1, 1, 1, 1, 1, 1, 1, 1, 1, 1, 1, 1, 1, 1, 1, 1, 1, 0, 1, 0, 0] g_parseState_startHTML.body)) (.block 6 (.seq (.leaf (sel [1, 0, 1, 1, 1, 1, 1, 1, 1, 1, 1, 1, 1, 1, 1, 1, 1, 1, 1, 0, 1, 0, 1, 0, 0] g_parseState_startHTML.body)) (.mark (leaf [(0, .s .ptr), (1, .s .ptr), (6, .s .str), (266, .s .bool)] (g_parseState_startHTML.k15 R)) (.cond 266 (.seq (.leaf (sel [1, 0, 1, 1, 1, 1, 1, 1, 1, 1, 1, 1, 1, 1, 1, 1, 1, 1, 1, 0, 1, 0, 1, 0, 1, 0, 0] g_parseState_startHTML.body)) (.seq (.leaf (sel [1, 0, 1, 1, 1, 1, 1, 1, 1, 1, 1, 1, 1, 1, 1, 1, 1, 1, 1, 0, 1, 0, 1, 0, 1, 0, 1, 0] g_parseState_startHTML.body)) (.seq (.draw (.pure 0 (.pure 1 (.pure 2 (.pure 3 (.pure 5 (.load 4 (.one 6 (.one 7 (.one 8 (.pure 9 (.pure 10 (.one 11 .done)))))))))))) (sel [1, 0, 1, 1, 1, 1, 1, 1, 1, 1, 1, 1, 1, 1, 1, 1, 1, 1, 1, 0, 1, 0, 1, 0, 1, 0, 1, 1, 0] g_parseState_startHTML.body)) (.leaf (sel [1, 0, 1, 1, 1, 1, 1, 1, 1, 1, 1, 1, 1, 1, 1, 1, 1, 1, 1, 0, 1, 0, 1, 0, 1, 0, 1, 1, 1] g_parseState_startHTML.body))))) (.leaf (sel [1, 0, 1, 1, 1, 1, 1, 1, 1, 1, 1, 1, 1, 1, 1, 1, 1, 1, 1, 0, 1, 0, 1, 0, 1, 1] g_parseState_startHTML.body))))))) (.leaf (sel [1, 0, 1, 1, 1, 1, 1, 1, 1, 1, 1, 1, 1, 1, 1, 1, 1, 1, 1, 0, 1, 1] g_parseState_startHTML.body))))) (.mark (leaf [(0, .s .ptr), (1, .s .ptr), (6, .s .str)] (g_parseState_startHTML.k16 R)) (.seq (.seq (.leaf (sel [1, 0, 1, 1, 1, 1, 1, 1, 1, 1, 1, 1, 1, 1, 1, 1, 1, 1, 1, 1, 0, 0] g_parseState_startHTML.body)) (.cond 294 (.seq (.seq (.leaf (sel [1, 0, 1, 1, 1, 1, 1, 1, 1, 1, 1, 1, 1, 1, 1, 1, 1, 1, 1, 1, 0, 1, 0, 0, 0] g_parseState_startHTML.body)) (.seq (.leaf (sel [1, 0, 1, 1, 1, 1, 1, 1, 1, 1, 1, 1, 1, 1, 1, 1, 1, 1, 1, 1, 0, 1, 0, 0, 1, 0] g_parseState_startHTML.body)) (.mark (leaf [(0, .s .ptr), (1, .s .ptr), (6, .s .str), (20, .s (.int .i64)), (310, .s .bool)] (g_parseState_startHTML.k17 R)) (.cond 310 (.seq (.leaf (sel [1, 0, 1, 1, 1, 1, 1, 1, 1, 1, 1, 1, 1, 1, 1, 1, 1, 1, 1, 1, 0, 1, 0, 0, 1, 1, 0, 0] g_parseState_startHTML.body)) (.mark (leaf [(0, .s .ptr), (1, .s .ptr)] (g_parseState_startHTML.k18 R)) (.seq (.leaf (sel [1, 0, 1, 1, 1, 1, 1, 1, 1, 1, 1, 1, 1, 1, 1, 1, 1, 1, 1, 1, 0, 1, 0, 0, 1, 1, 0, 1, 0] g_parseState_startHTML.body)) (.seq (.leaf (sel [1, 0, 1, 1, 1, 1, 1, 1, 1, 1, 1, 1, 1, 1, 1, 1, 1, 1, 1, 1, 0, 1, 0, 0, 1, 1, 0, 1, 1, 0] g_parseState_startHTML.body)) (.seq (.draw (.pure 0 (.pure 1 (.pure 2 (.pure 3 (.pure 5 (.load 4 (.one 6 (.one 7 (.one 8 (.pure 9 (.pure 10 (.one 11 .done)))))))))))) (sel [1, 0, 1, 1, 1, 1, 1, 1, 1, 1, 1, 1, 1, 1, 1, 1, 1, 1, 1, 1, 0, 1, 0, 0, 1, 1, 0, 1, 1, 1, 0] g_parseState_startHTML.body)) (.leaf (sel [1, 0, 1, 1, 1, 1, 1, 1, 1, 1, 1, 1, 1, 1, 1, 1, 1, 1, 1, 1, 0, 1, 0, 0, 1, 1, 0, 1, 1, 1, 1] g_parseState_startHTML.body))))))) (.leaf (sel [1, 0, 1, 1, 1, 1, 1, 1, 1, 1, 1, 1, 1, 1, 1, 1, 1, 1, 1, 1, 0, 1, 0, 0, 1, 1, 1] g_parseState_startHTML.body)))))) (.seq (.leaf (sel [1, 0, 1, 1, 1, 1, 1, 1, 1, 1, 1, 1, 1, 1, 1, 1, 1, 1, 1, 1, 0, 1, 0, 1, 0] g_parseState_startHTML.body)) (.seq (.leaf (sel [1, 0, 1, 1, 1, 1, 1, 1, 1, 1, 1, 1, 1, 1, 1, 1, 1, 1, 1, 1, 0, 1, 0, 1, 1, 0] g_parseState_startHTML.body)) (.mark (leaf [(0, .s .ptr), (1, .s .ptr), (350, .s .bool)] (g_parseState_startHTML.k19 R)) (.cond 350 (.seq (.leaf (sel [1, 0, 1, 1, 1, 1, 1, 1, 1, 1, 1, 1, 1, 1, 1, 1, 1, 1, 1, 1, 0, 1, 0, 1, 1, 1, 0, 0] g_parseState_startHTML.body)) (.seq (.leaf (sel [1, 0, 1, 1, 1, 1, 1, 1, 1, 1, 1, 1, 1, 1, 1, 1, 1, 1, 1, 1, 0, 1, 0, 1, 1, 1, 0, 1, 0] g_parseState_startHTML.body)) (.seq (.draw (.pure 0 (.pure 1 (.pure 2 (.pure 3 (.pure 5 (.load 4 (.one 6 (.one 7 (.one 8 (.pure 9 (.pure 10 (.one 11 .done)))))))))))) (sel [1, 0, 1, 1, 1, 1, 1, 1, 1, 1, 1, 1, 1, 1, 1, 1, 1, 1, 1, 1, 0, 1, 0, 1, 1, 1, 0, 1, 1, 0] g_parseState_startHTML.body)) (.leaf (sel [1, 0, 1, 1, 1, 1, 1, 1, 1, 1, 1, 1, 1, 1, 1, 1, 1, 1, 1, 1, 0, 1, 0, 1, 1, 1, 0, 1, 1, 1] g_parseState_startHTML.body))))) (.leaf (sel [1, 0, 1, 1, 1, 1, 1, 1, 1, 1, 1, 1, 1, 1, 1, 1, 1, 1, 1, 1, 0, 1, 0, 1, 1, 1, 1] g_parseState_startHTML.body))))))) (.leaf (sel [1, 0, 1, 1, 1, 1, 1, 1, 1, 1, 1, 1, 1, 1, 1, 1, 1, 1, 1, 1, 0, 1, 1] g_parseState_startHTML.body)))) (.leaf (sel [1, 0, 1, 1, 1, 1, 1, 1, 1, 1, 1, 1, 1, 1, 1, 1, 1, 1, 1, 1, 1] g_parseState_startHTML.body))))))))))))))))))))))))))))))
theorem g_parseState_startHTML.good (R : EP) : Good P 368 (g_parseState_startHTML.ac R) (QF P [.tmp 4] R) :=
  ⟨trivial, ⟨⟨trivial, ⟨trivial, ⟨trivial, ⟨trivial, ⟨trivial, ⟨⟨trivial, ⟨trivial, ⟨trivial, ⟨trivial, ⟨trivial, ⟨trivial, ⟨trivial, ⟨⟨⟨⟨trivial, ⟨trivial, cutE (by intro x0 x1 x6 x7 x63 ρ w; kernel_rfl)⟩⟩, trivial⟩, trivial⟩, cutE (by intro x0 x1 x6 x7 x43 ρ w; kernel_rfl)⟩⟩⟩⟩⟩⟩⟩⟩, ⟨⟨⟨trivial, ⟨⟨trivial, ⟨trivial, ⟨⟨by kernel_rfl, by kernel_rfl, fun _ _ _ h => h⟩, trivial⟩⟩⟩, trivial⟩⟩, ⟨trivial, ⟨trivial, ⟨⟨trivial, ⟨(loopG (g_parseState_startHTML.al1 R) (g_parseState_startHTML.bl1 R) (fun _ => by kernel_rfl) (fun Xa => ⟨trivial, ⟨⟨⟨trivial, ⟨trivial, ⟨⟨trivial, ⟨trivial, cutE (by intro x0 x1 x6 x9 x10q x10n x10c x11 ρ w; kernel_rfl)⟩⟩, cutE (by intro x0 x1 x6 x9 x10q x10n x10c x11 ρ w; kernel_rfl)⟩⟩⟩, trivial⟩, cutE (by intro x0 x1 x6 x9 x10q x10n x10c ρ w; kernel_rfl)⟩⟩) (fun Xa => by intro x0 x1 x6 x9 x10q x10n x10c ρ w; kernel_rfl) (fun X h _ _ _ _ _ _ _ _ g => g X h)), ⟨⟨trivial, ⟨⟨trivial, ⟨⟨trivial, ⟨trivial, ⟨trivial, cutE (by intro x0 x1 x6 x9 x10q x10n x10c x12 x156 x157 ρ w; kernel_rfl)⟩⟩⟩, trivial⟩⟩, ⟨⟨trivial, ⟨⟨trivial, ⟨trivial, ⟨⟨trivial, (loopG (g_parseState_startHTML.al2 R) (g_parseState_startHTML.bl2 R) (fun _ => by kernel_rfl) (fun Xb => ⟨trivial, ⟨trivial, ⟨⟨trivial, ⟨trivial, ⟨trivial, cutE (by intro x0 x1 x6 x9 x10q x10n x10c x12 x13 x14 x184q x184n x184c x185 x186 x206 ρ w; kernel_rfl)⟩⟩⟩, trivial⟩⟩⟩) (fun Xb => by intro x0 x1 x6 x9 x10q x10n x10c x12 x13 x14 x184q x184n x184c x185 x186 ρ w; kernel_rfl) (fun X h _ _ _ _ _ _ _ _ _ _ _ _ _ _ _ _ g => g X h))⟩, trivial⟩⟩⟩, ⟨⟨⟨trivial, ⟨trivial, ⟨⟨by kernel_rfl, by kernel_rfl, fun _ _ _ h => h⟩, trivial⟩⟩⟩, ⟨trivial, ⟨⟨⟨trivial, ⟨⟨⟨trivial, ⟨trivial, ⟨⟨⟨trivial, ⟨trivial, ⟨⟨by kernel_rfl, by kernel_rfl, fun _ _ _ h => h⟩, trivial⟩⟩⟩, trivial⟩, cutE (by intro x0 x1 x6 x266 ρ w; kernel_rfl)⟩⟩⟩, trivial⟩, cutE (by intro x0 x1 x6 x10q x10n x10c x263 ρ w; kernel_rfl)⟩⟩, ⟨⟨⟨trivial, ⟨⟨⟨trivial, ⟨trivial, ⟨⟨⟨trivial, ⟨⟨trivial, ⟨trivial, ⟨⟨by kernel_rfl, by kernel_rfl, fun _ _ _ h => h⟩, trivial⟩⟩⟩, cutE (by intro x0 x1 ρ w; kernel_rfl)⟩⟩, trivial⟩, cutE (by intro x0 x1 x6 x20 x310 ρ w; kernel_rfl)⟩⟩⟩, ⟨trivial, ⟨trivial, ⟨⟨⟨trivial, ⟨trivial, ⟨⟨by kernel_rfl, by kernel_rfl, fun _ _ _ h => h⟩, trivial⟩⟩⟩, trivial⟩, cutE (by intro x0 x1 x350 ρ w; kernel_rfl)⟩⟩⟩⟩, trivial⟩⟩, trivial⟩, cutE (by intro x0 x1 x6 ρ w; kernel_rfl)⟩⟩, cutE (by intro x0 x1 x6 x9 x10q x10n x10c ρ w; kernel_rfl)⟩⟩⟩, cutE (by intro x0 x1 ρ w; kernel_rfl)⟩⟩⟩, cutE (by intro x0 x1 x6 x9 x10q x10n x10c x12 ρ w; kernel_rfl)⟩⟩⟩, cutE (by intro x0 x1 x6 x9 x10q x10n x10c ρ w; kernel_rfl)⟩⟩⟩, cutE (by intro x0 x1 x6 x9 ρ w; kernel_rfl)⟩⟩⟩⟩, cutE (by intro x0 x1 x6 x7 ρ w; kernel_rfl)⟩⟩⟩⟩⟩⟩⟩, .seq .skip (sel [1, 0, 1, 1, 1, 1, 1, 1, 1, 1, 1, 1, 1, 1, 1, 1, 1, 1, 1] g_parseState_startHTML.body), by kernel_rfl, jumpK (l := 0) (.seq (.leaf .skip) (.seq (.seq (.leaf (sel [1, 0, 1, 1, 1, 1, 1, 1, 1, 1, 1, 1, 1, 1, 1, 1, 1, 1, 1, 0, 0] g_parseState_startHTML.body)) (.mark (leaf [(0, .s .ptr), (1, .s .ptr), (6, .s .str), (10, .s .slice), (263, .s .bool)] (g_parseState_startHTML.k12 R)) (.cond 263 (.seq (.leaf (sel [1, 0, 1, 1, 1, 1, 1, 1, 1, 1, 1, 1, 1, 1, 1, 1, 1, 1, 1, 0, 1, 0, 0] g_parseState_startHTML.body)) (.block 6 (.seq (.leaf (sel [1, 0, 1, 1, 1, 1, 1, 1, 1, 1, 1, 1, 1, 1, 1, 1, 1, 1, 1, 0, 1, 0, 1, 0, 0] g_parseState_startHTML.body)) (.mark (leaf [(0, .s .ptr), (1, .s .ptr), (6, .s .str), (266, .s .bool)] (g_parseState_startHTML.k15 R)) (.cond 266 (.seq (.leaf (sel [1, 0, 1, 1, 1, 1, 1, 1, 1, 1, 1, 1, 1, 1, 1, 1, 1, 1, 1, 0, 1, 0, 1, 0, 1, 0, 0] g_parseState_startHTML.body)) (.seq (.leaf (sel [1, 0, 1, 1, 1, 1, 1, 1, 1, 1, 1, 1, 1, 1, 1, 1, 1, 1, 1, 0, 1, 0, 1, 0, 1, 0, 1, 0] g_parseState_startHTML.body)) (.seq (.draw (.pure 0 (.pure 1 (.pure 2 (.pure 3 (.pure 5 (.load 4 (.one 6 (.one 7 (.one 8 (.pure 9 (.pure 10 (.one 11 .done)))))))))))) (sel [1, 0, 1, 1, 1, 1, 1, 1, 1, 1, 1, 1, 1, 1, 1, 1, 1, 1, 1, 0, 1, 0, 1, 0, 1, 0, 1, 1, 0] g_parseState_startHTML.body)) (.leaf (sel [1, 0, 1, 1, 1, 1, 1, 1, 1, 1, 1, 1, 1, 1, 1, 1, 1, 1, 1, 0, 1, 0, 1, 0, 1, 0, 1, 1, 1] g_parseState_startHTML.body))))) (.leaf (sel [1, 0, 1, 1, 1, 1, 1, 1, 1, 1, 1, 1, 1, 1, 1, 1, 1, 1, 1, 0, 1, 0, 1, 0, 1, 1] g_parseState_startHTML.body))))))) (.leaf (sel [1, 0, 1, 1, 1, 1, 1, 1, 1, 1, 1, 1, 1, 1, 1, 1, 1, 1, 1, 0, 1, 1] g_parseState_startHTML.body))))) (.mark (leaf [(0, .s .ptr), (1, .s .ptr), (6, .s .str)] (g_parseState_startHTML.k16 R)) (.seq (.seq (.leaf (sel [1, 0, 1, 1, 1, 1, 1, 1, 1, 1, 1, 1, 1, 1, 1, 1, 1, 1, 1, 1, 0, 0] g_parseState_startHTML.body)) (.cond 294 (.seq (.seq (.leaf (sel [1, 0, 1, 1, 1, 1, 1, 1, 1, 1, 1, 1, 1, 1, 1, 1, 1, 1, 1, 1, 0, 1, 0, 0, 0] g_parseState_startHTML.body)) (.seq (.leaf (sel [1, 0, 1, 1, 1, 1, 1, 1, 1, 1, 1, 1, 1, 1, 1, 1, 1, 1, 1, 1, 0, 1, 0, 0, 1, 0] g_parseState_startHTML.body)) (.mark (leaf [(0, .s .ptr), (1, .s .ptr), (6, .s .str), (20, .s (.int .i64)), (310, .s .bool)] (g_parseState_startHTML.k17 R)) (.cond 310 (.seq (.leaf (sel [1, 0, 1, 1, 1, 1, 1, 1, 1, 1, 1, 1, 1, 1, 1, 1, 1, 1, 1, 1, 0, 1, 0, 0, 1, 1, 0, 0] g_parseState_startHTML.body)) (.mark (leaf [(0, .s .ptr), (1, .s .ptr)] (g_parseState_startHTML.k18 R)) (.seq (.leaf (sel [1, 0, 1, 1, 1, 1, 1, 1, 1, 1, 1, 1, 1, 1, 1, 1, 1, 1, 1, 1, 0, 1, 0, 0, 1, 1, 0, 1, 0] g_parseState_startHTML.body)) (.seq (.leaf (sel [1, 0, 1, 1, 1, 1, 1, 1, 1, 1, 1, 1, 1, 1, 1, 1, 1, 1, 1, 1, 0, 1, 0, 0, 1, 1, 0, 1, 1, 0] g_parseState_startHTML.body)) (.seq (.draw (.pure 0 (.pure 1 (.pure 2 (.pure 3 (.pure 5 (.load 4 (.one 6 (.one 7 (.one 8 (.pure 9 (.pure 10 (.one 11 .done)))))))))))) (sel [1, 0, 1, 1, 1, 1, 1, 1, 1, 1, 1, 1, 1, 1, 1, 1, 1, 1, 1, 1, 0, 1, 0, 0, 1, 1, 0, 1, 1, 1, 0] g_parseState_startHTML.body)) (.leaf (sel [1, 0, 1, 1, 1, 1, 1, 1, 1, 1, 1, 1, 1, 1, 1, 1, 1, 1, 1, 1, 0, 1, 0, 0, 1, 1, 0, 1, 1, 1, 1] g_parseState_startHTML.body))))))) (.leaf (sel [1, 0, 1, 1, 1, 1, 1, 1, 1, 1, 1, 1, 1, 1, 1, 1, 1, 1, 1, 1, 0, 1, 0, 0, 1, 1, 1] g_parseState_startHTML.body)))))) (.seq (.leaf (sel [1, 0, 1, 1, 1, 1, 1, 1, 1, 1, 1, 1, 1, 1, 1, 1, 1, 1, 1, 1, 0, 1, 0, 1, 0] g_parseState_startHTML.body)) (.seq (.leaf (sel [1, 0, 1, 1, 1, 1, 1, 1, 1, 1, 1, 1, 1, 1, 1, 1, 1, 1, 1, 1, 0, 1, 0, 1, 1, 0] g_parseState_startHTML.body)) (.mark (leaf [(0, .s .ptr), (1, .s .ptr), (350, .s .bool)] (g_parseState_startHTML.k19 R)) (.cond 350 (.seq (.leaf (sel [1, 0, 1, 1, 1, 1, 1, 1, 1, 1, 1, 1, 1, 1, 1, 1, 1, 1, 1, 1, 0, 1, 0, 1, 1, 1, 0, 0] g_parseState_startHTML.body)) (.seq (.leaf (sel [1, 0, 1, 1, 1, 1, 1, 1, 1, 1, 1, 1, 1, 1, 1, 1, 1, 1, 1, 1, 0, 1, 0, 1, 1, 1, 0, 1, 0] g_parseState_startHTML.body)) (.seq (.draw (.pure 0 (.pure 1 (.pure 2 (.pure 3 (.pure 5 (.load 4 (.one 6 (.one 7 (.one 8 (.pure 9 (.pure 10 (.one 11 .done)))))))))))) (sel [1, 0, 1, 1, 1, 1, 1, 1, 1, 1, 1, 1, 1, 1, 1, 1, 1, 1, 1, 1, 0, 1, 0, 1, 1, 1, 0, 1, 1, 0] g_parseState_startHTML.body)) (.leaf (sel [1, 0, 1, 1, 1, 1, 1, 1, 1, 1, 1, 1, 1, 1, 1, 1, 1, 1, 1, 1, 0, 1, 0, 1, 1, 1, 0, 1, 1, 1] g_parseState_startHTML.body))))) (.leaf (sel [1, 0, 1, 1, 1, 1, 1, 1, 1, 1, 1, 1, 1, 1, 1, 1, 1, 1, 1, 1, 0, 1, 0, 1, 1, 1, 1] g_parseState_startHTML.body))))))) (.leaf (sel [1, 0, 1, 1, 1, 1, 1, 1, 1, 1, 1, 1, 1, 1, 1, 1, 1, 1, 1, 1, 0, 1, 1] g_parseState_startHTML.body)))) (.leaf (sel [1, 0, 1, 1, 1, 1, 1, 1, 1, 1, 1, 1, 1, 1, 1, 1, 1, 1, 1, 1, 1] g_parseState_startHTML.body)))))) (by kernel_rfl) (by kernel_rfl) ⟨trivial, ⟨⟨trivial, ⟨⟨⟨trivial, ⟨trivial, ⟨⟨⟨trivial, ⟨trivial, ⟨⟨by kernel_rfl, by kernel_rfl, fun _ _ _ h => h⟩, trivial⟩⟩⟩, trivial⟩, cutE (by intro x0 x1 x6 x266 ρ w; kernel_rfl)⟩⟩⟩, trivial⟩, cutE (by intro x0 x1 x6 x10q x10n x10c x263 ρ w; kernel_rfl)⟩⟩, ⟨⟨⟨trivial, ⟨⟨⟨trivial, ⟨trivial, ⟨⟨⟨trivial, ⟨⟨trivial, ⟨trivial, ⟨⟨by kernel_rfl, by kernel_rfl, fun _ _ _ h => h⟩, trivial⟩⟩⟩, cutE (by intro x0 x1 ρ w; kernel_rfl)⟩⟩, trivial⟩, cutE (by intro x0 x1 x6 x20 x310 ρ w; kernel_rfl)⟩⟩⟩, ⟨trivial, ⟨trivial, ⟨⟨⟨trivial, ⟨trivial, ⟨⟨by kernel_rfl, by kernel_rfl, fun _ _ _ h => h⟩, trivial⟩⟩⟩, trivial⟩, cutE (by intro x0 x1 x350 ρ w; kernel_rfl)⟩⟩⟩⟩, trivial⟩⟩, trivial⟩, cutE (by intro x0 x1 x6 ρ w; kernel_rfl)⟩⟩⟩ (cutE (by intro x0 x1 x6 x9 x10q x10n x10c ρ w; kernel_rfl))⟩⟩
theorem g_parseState_startHTML.eq (R : EP) (x0 : OA) (x1 : OA) (w : World) : g_parseState_startHTML R x0 x1 w = vcA P 368 (g_parseState_startHTML.ac R) (QF P [.tmp 4] R) (fr0 [.pointer x0, .pointer x1]) w := by kernel_rfl
theorem g_parseState_startHTML.sound {R : EP} {x0 : OA} {x1 : OA} {w : World} (h : g_parseState_startHTML R x0 x1 w) : callE P i_parseState_startHTML #[.pointer x0, .pointer x1] R w :=
  callE_fin (c := g_parseState_startHTML.body) Tryz.func118 Tryz.call118 (by kernel_rfl) (by kernel_rfl) (by kernel_rfl) (by kernel_rfl) (by kernel_rfl) (g_parseState_startHTML.good R) (g_parseState_startHTML.eq R x0 x1 w) h
namespace g_line_trimHeading
noncomputable def body : Code := bodyOf Tryz.f103
def k1 (R : EP) (x0 : OA) (x1 : OA) (x5 : Nat) (x6 : Int) (w : World) : Prop :=
 callE P i_line_trimSpace #[.pointer (some ⟨x5, 0, none⟩), .int .i64 1, .int .i64 1, .bool true] (fun e w21 => ∃ (r20 : Bool), e = .returned (.bool r20) ∧
 br (!r20)
 (R (.returned (.bool false)) w21)
 (nilP x1 fun a22 =>
 stV w21 (a22.add 0) (.int .i64 x6) fun w23 =>
 ∃ (v24 : Int), w23.cell? ⟨x5, 0, none⟩ = some (.int .i64 v24) ∧
 ∃ (v25 : Int), w23.cell? ⟨x5, 1, none⟩ = some (.int .i64 v25) ∧
 ∃ (v26 : Int), w23.cell? ⟨x5, 2, none⟩ = some (.int .i64 v26) ∧
 ∃ (v27 : BA), w23.cell? ⟨x5, 3, none⟩ = some (.string v27) ∧
 ∃ (v28 : Int), w23.cell? ⟨x5, 4, none⟩ = some (.int .u8 v28) ∧
 nilP x0 fun a29 =>
 stV w23 (a29.add 0) (.int .i64 v24) fun w30 =>
 stV w30 (a29.add 1) (.int .i64 v25) fun w31 =>
 stV w31 (a29.add 2) (.int .i64 v26) fun w32 =>
 stV w32 (a29.add 3) (.string v27) fun w33 =>
 stV w33 (a29.add 4) (.int .u8 v28) fun w34 =>
 R (.returned (.bool true)) w34)) w

def bl1 (R : EP) (Xa : OA → OA → Nat → Int → WP) (x0 : OA) (x1 : OA) (x5 : Nat) (x6 : Int) (w : World) : Prop :=
 br (decide (x6 < 6))
 (callE P i_line_trim #[.pointer (some ⟨x5, 0, none⟩), .int .u8 35] (fun e w19 => ∃ (r18 : Bool), e = .returned (.bool r18) ∧
 br r18
 (Xa x0 x1 x5 (IntKind.i64.wrap (x6 + 1)) w19)
 (k1 R x0 x1 x5 x6 w19)) w)
 (k1 R x0 x1 x5 x6 w)
def l1 (R : EP) (x0 : OA) (x1 : OA) (x5 : Nat) (x6 : Int) (w : World) : Prop :=
  ∀ X : OA → OA → Nat → Int → WP, (∀ x0 x1 x5 x6 w, bl1 R X x0 x1 x5 x6 w → X x0 x1 x5 x6 w) → X x0 x1 x5 x6 w

noncomputable def al1 (R : EP) (Xa : OA → OA → Nat → Int → WP) : AC :=
  (.leaf (sel [1, 1, 1, 1, 1, 0, 0, 0] body))
end g_line_trimHeading
def g_line_trimHeading (R : EP) (x0 : OA) (x1 : OA) (w : World) : Prop :=
 nilP x0 fun a1 =>
 ∃ (v2 : Int), w.cell? (a1.add 0) = some (.int .i64 v2) ∧
 ∃ (v3 : Int), w.cell? (a1.add 1) = some (.int .i64 v3) ∧
 ∃ (v4 : Int), w.cell? (a1.add 2) = some (.int .i64 v4) ∧
 ∃ (v5 : BA), w.cell? (a1.add 3) = some (.string v5) ∧
 ∃ (v6 : Int), w.cell? (a1.add 4) = some (.int .u8 v6) ∧
 box w #[.int .i64 0, .int .i64 0, .int .i64 0, .string (ByteArray.mk #[]), .int .u8 0] ty_line fun b7 w8 =>
 stV w8 ⟨b7, 0, none⟩ (.int .i64 v2) fun w9 =>
 stV w9 ⟨b7, 1, none⟩ (.int .i64 v3) fun w10 =>
 stV w10 ⟨b7, 2, none⟩ (.int .i64 v4) fun w11 =>
 stV w11 ⟨b7, 3, none⟩ (.string v5) fun w12 =>
 stV w12 ⟨b7, 4, none⟩ (.int .u8 v6) fun w13 =>
 callE P i_line_trimSpace #[.pointer (some ⟨b7, 0, none⟩), .int .i64 0, .int .i64 3, .bool false] (fun e w15 => ∃ (r14 : Bool), e = .returned (.bool r14) ∧
 callE P i_line_trim #[.pointer (some ⟨b7, 0, none⟩), .int .u8 35] (fun e w17 => ∃ (r16 : Bool), e = .returned (.bool r16) ∧
 br (!r16)
 (R (.returned (.bool false)) w17)
 (g_line_trimHeading.l1 R x0 x1 b7 1 w17)) w15) w13

noncomputable def g_line_trimHeading.ac (R : EP) : AC :=
  (.seq (.leaf (sel [0] g_line_trimHeading.body)) (.seq (.leaf (sel [1, 0] g_line_trimHeading.body)) (.seq (.leaf (sel [1, 1, 0] g_line_trimHeading.body)) (.seq (.leaf (sel [1, 1, 1, 0] g_line_trimHeading.body)) (.seq (.leaf (sel [1, 1, 1, 1, 0] g_line_trimHeading.body)) (.seq (.block 0 (.loop (leaf [(0, .s .ptr), (1, .s .ptr), (5, .s .loc), (6, .s (.int .i64))] (g_line_trimHeading.l1 R)) (sel [1, 1, 1, 1, 1, 0, 0, 0] g_line_trimHeading.body))) (.mark (leaf [(0, .s .ptr), (1, .s .ptr), (5, .s .loc), (6, .s (.int .i64))] (g_line_trimHeading.k1 R)) (.leaf (sel [1, 1, 1, 1, 1, 1] g_line_trimHeading.body)))))))))
theorem g_line_trimHeading.good (R : EP) : Good P 28 (g_line_trimHeading.ac R) (QF P [.tmp 4] R) :=
  ⟨trivial, ⟨trivial, ⟨trivial, ⟨trivial, ⟨trivial, ⟨(loopG (g_line_trimHeading.al1 R) (g_line_trimHeading.bl1 R) (fun _ => by kernel_rfl) (fun Xa => trivial) (fun Xa => by intro x0 x1 x5 x6 ρ w; kernel_rfl) (fun X h _ _ _ _ _ g => g X h)), ⟨trivial, cutE (by intro x0 x1 x5 x6 ρ w; kernel_rfl)⟩⟩⟩⟩⟩⟩⟩
theorem g_line_trimHeading.eq (R : EP) (x0 : OA) (x1 : OA) (w : World) : g_line_trimHeading R x0 x1 w = vcA P 28 (g_line_trimHeading.ac R) (QF P [.tmp 4] R) (fr0 [.pointer x0, .pointer x1]) w := by kernel_rfl
theorem g_line_trimHeading.sound {R : EP} {x0 : OA} {x1 : OA} {w : World} (h : g_line_trimHeading R x0 x1 w) : callE P i_line_trimHeading #[.pointer x0, .pointer x1] R w :=
  callE_fin (c := g_line_trimHeading.body) Tryz.func103 Tryz.call103 (by kernel_rfl) (by kernel_rfl) (by kernel_rfl) (by kernel_rfl) (by kernel_rfl) (g_line_trimHeading.good R) (g_line_trimHeading.eq R x0 x1 w) h
namespace g_newATXHeading
noncomputable def body : Code := bodyOf Tryz.f62
def k2 (R : EP) (x0 : OA) (x4 : Nat) (x7 : Nat) (x8 : BA) (x10 : BA) (w : World) : Prop :=
 tk w fun w57 =>
 nilP x0 fun a58 =>
 nilP x0 fun a59 =>
 ∃ (v60 : Int), w57.cell? (a58.add 3) = some (.int .i64 v60) ∧
 ∃ (v61 : Int), w57.cell? (a59.add 3) = some (.int .i64 v61) ∧
 box w57 #[.int .i64 0, .int .i64 0] ty_Position fun b62 w63 =>
 SameC w57 w63 (a59.add 3) 1 ∧
 SameC w57 w63 (a58.add 3) 1 ∧
 stV w63 ⟨b62, 0, none⟩ (.int .i64 v60) fun w64 =>
 stV w64 ⟨b62, 1, none⟩ (.int .i64 v61) fun w65 =>
 tk w65 fun w66 =>
 ∃ (v67 : Int), w66.cell? ⟨b62, 0, none⟩ = some (.int .i64 v67) ∧
 ∃ (v68 : Int), w66.cell? ⟨b62, 1, none⟩ = some (.int .i64 v68) ∧
 ∃ (v69 : Int), w66.cell? ⟨x7, 0, none⟩ = some (.int .i64 v69) ∧
 ∃ (v70 : Int), w66.cell? ⟨b62, 0, none⟩ = some (.int .i64 v70) ∧
 ∃ (v71 : Int), w66.cell? ⟨b62, 1, none⟩ = some (.int .i64 v71) ∧
 callE P i_parseState_newText #[.pointer x0, .agg #[.int .i64 v70, .int .i64 v71], .string x8] (fun e w73 => ∃ (r72 : OA), e = .returned (.pointer r72) ∧
 SameC w66 w73 ⟨x7, 0, none⟩ 1 ∧
 SameC w66 w73 ⟨b62, 0, none⟩ 2 ∧
 box w73 #[.int .i64 v67, .int .i64 v68, .int .i64 v69, .pointer r72, .string x10] ty_Heading fun b74 w75 =>
 callE P i_parseState_doneBlock #[.pointer x0, .iface ty_P_Heading (.pointer (some ⟨b74, 0, none⟩))] (fun e w77 => e = .returned (.tuple #[]) ∧
 stV w77 ⟨x4, 0, none⟩ (.int .i64 0) fun w78 =>
 stV w78 ⟨x4, 1, none⟩ (.int .i64 0) fun w79 =>
 stV w79 ⟨x4, 2, none⟩ (.int .i64 0) fun w80 =>
 stV w80 ⟨x4, 3, none⟩ (.string (ByteArray.mk #[])) fun w81 =>
 stV w81 ⟨x4, 4, none⟩ (.int .u8 0) fun w82 =>
 ∃ (v83 : Int), w82.cell? ⟨x4, 0, none⟩ = some (.int .i64 v83) ∧
 ∃ (v84 : Int), w82.cell? ⟨x4, 1, none⟩ = some (.int .i64 v84) ∧
 ∃ (v85 : Int), w82.cell? ⟨x4, 2, none⟩ = some (.int .i64 v85) ∧
 ∃ (v86 : BA), w82.cell? ⟨x4, 3, none⟩ = some (.string v86) ∧
 ∃ (v87 : Int), w82.cell? ⟨x4, 4, none⟩ = some (.int .u8 v87) ∧
 R (.returned (.tuple #[.agg #[.int .i64 v83, .int .i64 v84, .int .i64 v85, .string v86, .int .u8 v87], .bool true])) w82) w75) w66

def k3 (R : EP) (Xa : OA → Nat → Nat → BA → BA → Value → WP) (x0 : OA) (x4 : Nat) (x7 : Nat) (x8 : BA) (x10 : BA) (x44 : Value) (x55 : Bool) (w : World) : Prop :=
 br x55
 (nilP x0 fun a88 =>
 stV w ((a88.add 6).add 0) (.bool true) fun w89 =>
 Xa x0 x4 x7 x8 x10 x44 w89)
 (Xa x0 x4 x7 x8 x10 x44 w)

def bl1 (R : EP) (Xa : OA → Nat → Nat → BA → BA → Value → WP) (x0 : OA) (x4 : Nat) (x7 : Nat) (x8 : BA) (x10 : BA) (x44 : Value) (w : World) : Prop :=
 (∃ w52, (Instr.next x44 true ty_).run P w = .ok (.tuple #[.bool false]) w52 ∧
 k2 R x0 x4 x7 x8 x10 w52) ∨
 (∃ (r53_0 : Int), ∃ (r53_1 : Int), ∃ w54, (Instr.next x44 true ty_).run P w = .ok (.tuple #[.bool true, .int .i64 r53_0, .int .i32 r53_1]) w54 ∧
 br (decide (r53_1 ≥ 128))
 (k3 R Xa x0 x4 x7 x8 x10 x44 true w54)
 (callE P i_isLetterDigit #[.int .u8 (IntKind.u8.wrap r53_1)] (fun e w56 => ∃ (r55 : Bool), e = .returned (.bool r55) ∧
 k3 R Xa x0 x4 x7 x8 x10 x44 (!r55) w56) w54))
def l1 (R : EP) (x0 : OA) (x4 : Nat) (x7 : Nat) (x8 : BA) (x10 : BA) (x44 : Value) (w : World) : Prop :=
  ∀ X : OA → Nat → Nat → BA → BA → Value → WP, (∀ x0 x4 x7 x8 x10 x44 w, bl1 R X x0 x4 x7 x8 x10 x44 w → X x0 x4 x7 x8 x10 x44 w) → X x0 x4 x7 x8 x10 x44 w

noncomputable def al1 (R : EP) (Xa : OA → Nat → Nat → BA → BA → Value → WP) : AC :=
  (.seq (.leaf (sel [1, 1, 1, 0, 1, 0, 1, 1, 1, 1, 0, 1, 0, 1, 1, 0, 0, 0] body)) (.seq (.leaf (sel [1, 1, 1, 0, 1, 0, 1, 1, 1, 1, 0, 1, 0, 1, 1, 0, 0, 1, 0] body)) (.block 1 (.seq (.leaf (sel [1, 1, 1, 0, 1, 0, 1, 1, 1, 1, 0, 1, 0, 1, 1, 0, 0, 1, 1, 0, 0] body)) (.seq (.leaf (sel [1, 1, 1, 0, 1, 0, 1, 1, 1, 1, 0, 1, 0, 1, 1, 0, 0, 1, 1, 0, 1, 0] body)) (.mark (leaf [(0, .s .ptr), (4, .s .loc), (7, .s .loc), (8, .s .str), (10, .s .str), (44, .s .any), (55, .s .bool)] (k3 R Xa)) (.leaf (sel [1, 1, 1, 0, 1, 0, 1, 1, 1, 1, 0, 1, 0, 1, 1, 0, 0, 1, 1, 0, 1, 1] body))))))))
def k1 (R : EP) (x0 : OA) (x4 : Nat) (x7 : Nat) (x8 : BA) (w : World) : Prop :=
 nilP x0 fun a44 =>
 ∃ (v45 : OA), w.cell? a44 = some (.pointer v45) ∧
 nilP v45 fun a46 =>
 ∃ (v47 : Bool), w.cell? a46 = some (.bool v47) ∧
 br v47
 (callE P i_extractID #[.pointer x0, .string x8] (fun e w49 => ∃ (r48_0 : BA), ∃ (r48_1 : BA), e = .returned (.tuple #[.string r48_0, .string r48_1]) ∧
 ∃ (r50 : Value), ∃ w51, (Instr.range ty_string (.string r48_0)).run P w49 = .ok r50 w51 ∧
 l1 R x0 x4 x7 r48_1 r48_0 r50 w51) w)
 (k2 R x0 x4 x7 x8 (ByteArray.mk #[]) w)

end g_newATXHeading
def g_newATXHeading (R : EP) (x0 : OA) (x1_0 : Int) (x1_1 : Int) (x1_2 : Int) (x1_3 : BA) (x1_4 : Int) (w : World) : Prop :=
 box w #[.int .i64 x1_0, .int .i64 x1_1, .int .i64 x1_2, .string x1_3, .int .u8 x1_4] ty_line fun b1 w2 =>
 box w2 #[.int .i64 0, .int .i64 0, .int .i64 0, .string (ByteArray.mk #[]), .int .u8 0] ty_line fun b3 w4 =>
 ∃ (v5 : Int), w4.cell? ⟨b1, 0, none⟩ = some (.int .i64 v5) ∧
 ∃ (v6 : Int), w4.cell? ⟨b1, 1, none⟩ = some (.int .i64 v6) ∧
 ∃ (v7 : Int), w4.cell? ⟨b1, 2, none⟩ = some (.int .i64 v7) ∧
 ∃ (v8 : BA), w4.cell? ⟨b1, 3, none⟩ = some (.string v8) ∧
 ∃ (v9 : Int), w4.cell? ⟨b1, 4, none⟩ = some (.int .u8 v9) ∧
 box w4 #[.int .i64 0, .int .i64 0, .int .i64 0, .string (ByteArray.mk #[]), .int .u8 0] ty_line fun b10 w11 =>
 stV w11 ⟨b10, 0, none⟩ (.int .i64 v5) fun w12 =>
 stV w12 ⟨b10, 1, none⟩ (.int .i64 v6) fun w13 =>
 stV w13 ⟨b10, 2, none⟩ (.int .i64 v7) fun w14 =>
 stV w14 ⟨b10, 3, none⟩ (.string v8) fun w15 =>
 stV w15 ⟨b10, 4, none⟩ (.int .u8 v9) fun w16 =>
 box w16 #[.int .i64 0] ty_int fun b17 w18 =>
 callE P i_line_trimHeading #[.pointer (some ⟨b10, 0, none⟩), .pointer (some ⟨b17, 0, none⟩)] (fun e w20 => ∃ (r19 : Bool), e = .returned (.bool r19) ∧
 br r19
 (callE P i_line_string #[.pointer (some ⟨b10, 0, none⟩)] (fun e w22 => ∃ (r21 : BA), e = .returned (.string r21) ∧
 callE P i_trimRightSpaceTab #[.string r21] (fun e w24 => ∃ (r23 : BA), e = .returned (.string r23) ∧
 callE P i_zzTrimRight #[.string r23, .string (ByteArray.mk #[35])] (fun e w26 => ∃ (r25 : BA), e = .returned (.string r25) ∧
 callE P i_trimRightSpaceTab #[.string r25] (fun e w28 => ∃ (r27 : BA), e = .returned (.string r27) ∧
 br ((!(r25.toList == r27.toList)) || (r25.toList == (ByteArray.mk #[]).toList))
 (g_newATXHeading.k1 R x0 b3 b17 r25 w28)
 (g_newATXHeading.k1 R x0 b3 b17 r23 w28)) w26) w24) w22) w20)
 (∃ (v29 : Int), w20.cell? ⟨b1, 0, none⟩ = some (.int .i64 v29) ∧
 ∃ (v30 : Int), w20.cell? ⟨b1, 1, none⟩ = some (.int .i64 v30) ∧
 ∃ (v31 : Int), w20.cell? ⟨b1, 2, none⟩ = some (.int .i64 v31) ∧
 ∃ (v32 : BA), w20.cell? ⟨b1, 3, none⟩ = some (.string v32) ∧
 ∃ (v33 : Int), w20.cell? ⟨b1, 4, none⟩ = some (.int .u8 v33) ∧
 stV w20 ⟨b3, 0, none⟩ (.int .i64 v29) fun w34 =>
 stV w34 ⟨b3, 1, none⟩ (.int .i64 v30) fun w35 =>
 stV w35 ⟨b3, 2, none⟩ (.int .i64 v31) fun w36 =>
 stV w36 ⟨b3, 3, none⟩ (.string v32) fun w37 =>
 stV w37 ⟨b3, 4, none⟩ (.int .u8 v33) fun w38 =>
 ∃ (v39 : Int), w38.cell? ⟨b3, 0, none⟩ = some (.int .i64 v39) ∧
 ∃ (v40 : Int), w38.cell? ⟨b3, 1, none⟩ = some (.int .i64 v40) ∧
 ∃ (v41 : Int), w38.cell? ⟨b3, 2, none⟩ = some (.int .i64 v41) ∧
 ∃ (v42 : BA), w38.cell? ⟨b3, 3, none⟩ = some (.string v42) ∧
 ∃ (v43 : Int), w38.cell? ⟨b3, 4, none⟩ = some (.int .u8 v43) ∧
 R (.returned (.tuple #[.agg #[.int .i64 v39, .int .i64 v40, .int .i64 v41, .string v42, .int .u8 v43], .bool false])) w38)) w18

noncomputable def g_newATXHeading.ac (R : EP) : AC :=
  (.seq (.leaf (sel [0] g_newATXHeading.body)) (.seq (.leaf (sel [1, 0] g_newATXHeading.body)) (.seq (.leaf (sel [1, 1, 0] g_newATXHeading.body)) (.seq (.seq (.leaf (sel [1, 1, 1, 0, 0] g_newATXHeading.body)) (.cond 15 (.seq (.leaf (sel [1, 1, 1, 0, 1, 0, 0] g_newATXHeading.body)) (.seq (.leaf (sel [1, 1, 1, 0, 1, 0, 1, 0] g_newATXHeading.body)) (.seq (.leaf (sel [1, 1, 1, 0, 1, 0, 1, 1, 0] g_newATXHeading.body)) (.mark (leaf [(0, .s .ptr), (4, .s .loc), (7, .s .loc), (8, .s .str)] (g_newATXHeading.k1 R)) (.seq (.leaf (sel [1, 1, 1, 0, 1, 0, 1, 1, 1, 0] g_newATXHeading.body)) (.seq (.seq (.leaf (sel [1, 1, 1, 0, 1, 0, 1, 1, 1, 1, 0, 0] g_newATXHeading.body)) (.cond 36 (.seq (.leaf (sel [1, 1, 1, 0, 1, 0, 1, 1, 1, 1, 0, 1, 0, 0] g_newATXHeading.body)) (.seq (.leaf (sel [1, 1, 1, 0, 1, 0, 1, 1, 1, 1, 0, 1, 0, 1, 0] g_newATXHeading.body)) (.block 0 (.loop (leaf [(0, .s .ptr), (4, .s .loc), (7, .s .loc), (8, .s .str), (10, .s .str), (44, .s .any)] (g_newATXHeading.l1 R)) (sel [1, 1, 1, 0, 1, 0, 1, 1, 1, 1, 0, 1, 0, 1, 1, 0, 0] g_newATXHeading.body))))) (.leaf (sel [1, 1, 1, 0, 1, 0, 1, 1, 1, 1, 0, 1, 1] g_newATXHeading.body)))) (.mark (leaf [(0, .s .ptr), (4, .s .loc), (7, .s .loc), (8, .s .str), (10, .s .str)] (g_newATXHeading.k2 R)) (.seq (.draw (.pure 0 (.pure 1 (.pure 2 (.pure 4 (.pure 5 (.pure 6 (.load 3 (.load 7 (.pure 8 (.one 9 (.one 10 .done))))))))))) (sel [1, 1, 1, 0, 1, 0, 1, 1, 1, 1, 1, 0] g_newATXHeading.body)) (.seq (.draw (.pure 0 (.pure 3 (.pure 5 (.pure 7 (.load 1 (.load 2 (.load 4 (.one 6 (.pure 8 (.one 9 (.pure 10 (.one 11 .done)))))))))))) (sel [1, 1, 1, 0, 1, 0, 1, 1, 1, 1, 1, 1, 0] g_newATXHeading.body)) (.leaf (sel [1, 1, 1, 0, 1, 0, 1, 1, 1, 1, 1, 1, 1] g_newATXHeading.body))))))))))) (.leaf (sel [1, 1, 1, 0, 1, 1] g_newATXHeading.body)))) (.leaf (sel [1, 1, 1, 1] g_newATXHeading.body))))))
theorem g_newATXHeading.good (R : EP) : Good P 82 (g_newATXHeading.ac R) (QF P [.cell 4 80, .tmp 5] R) :=
  ⟨trivial, ⟨trivial, ⟨trivial, ⟨⟨trivial, ⟨⟨trivial, ⟨trivial, ⟨trivial, ⟨⟨trivial, ⟨⟨trivial, ⟨⟨trivial, ⟨trivial, (loopG (g_newATXHeading.al1 R) (g_newATXHeading.bl1 R) (fun _ => by kernel_rfl) (fun Xa => ⟨trivial, ⟨trivial, ⟨trivial, ⟨trivial, ⟨trivial, cutE (by intro x0 x4 x7 x8 x10 x44 x55 ρ w; kernel_rfl)⟩⟩⟩⟩⟩) (fun Xa => by intro x0 x4 x7 x8 x10 x44 ρ w; kernel_rfl) (fun X h _ _ _ _ _ _ _ g => g X h))⟩⟩, trivial⟩⟩, ⟨⟨⟨by kernel_rfl, by kernel_rfl, fun _ _ _ h => h⟩, ⟨⟨by kernel_rfl, by kernel_rfl, fun _ _ _ h => h⟩, trivial⟩⟩, cutE (by intro x0 x4 x7 x8 x10 ρ w; kernel_rfl)⟩⟩⟩, cutE (by intro x0 x4 x7 x8 ρ w; kernel_rfl)⟩⟩⟩⟩, trivial⟩⟩, trivial⟩⟩⟩⟩
theorem g_newATXHeading.eq (R : EP) (x0 : OA) (x1_0 : Int) (x1_1 : Int) (x1_2 : Int) (x1_3 : BA) (x1_4 : Int) (w : World) : g_newATXHeading R x0 x1_0 x1_1 x1_2 x1_3 x1_4 w = vcA P 82 (g_newATXHeading.ac R) (QF P [.cell 4 80, .tmp 5] R) (fr0 [.pointer x0, .agg #[.int .i64 x1_0, .int .i64 x1_1, .int .i64 x1_2, .string x1_3, .int .u8 x1_4]]) w := by kernel_rfl
theorem g_newATXHeading.sound {R : EP} {x0 : OA} {x1_0 : Int} {x1_1 : Int} {x1_2 : Int} {x1_3 : ByteArray} {x1_4 : Int} {w : World} (h : g_newATXHeading R x0 x1_0 x1_1 x1_2 x1_3 x1_4 w) : callE P i_newATXHeading #[.pointer x0, .agg #[.int .i64 x1_0, .int .i64 x1_1, .int .i64 x1_2, .string x1_3, .int .u8 x1_4]] R w :=
  callE_fin (c := g_newATXHeading.body) Tryz.func62 Tryz.call62 (by kernel_rfl) (by kernel_rfl) (by kernel_rfl) (by kernel_rfl) (by kernel_rfl) (g_newATXHeading.good R) (g_newATXHeading.eq R x0 x1_0 x1_1 x1_2 x1_3 x1_4 w) h
namespace g_newHR
noncomputable def body : Code := bodyOf Tryz.f64
end g_newHR
def g_newHR (R : EP) (x0 : OA) (x1_0 : Int) (x1_1 : Int) (x1_2 : Int) (x1_3 : BA) (x1_4 : Int) (w : World) : Prop :=
 box w #[.int .i64 x1_0, .int .i64 x1_1, .int .i64 x1_2, .string x1_3, .int .u8 x1_4] ty_line fun b1 w2 =>
 box w2 #[.int .i64 0, .int .i64 0, .int .i64 0, .string (ByteArray.mk #[]), .int .u8 0] ty_line fun b3 w4 =>
 ∃ (v5 : Int), w4.cell? ⟨b1, 0, none⟩ = some (.int .i64 v5) ∧
 ∃ (v6 : Int), w4.cell? ⟨b1, 1, none⟩ = some (.int .i64 v6) ∧
 ∃ (v7 : Int), w4.cell? ⟨b1, 2, none⟩ = some (.int .i64 v7) ∧
 ∃ (v8 : BA), w4.cell? ⟨b1, 3, none⟩ = some (.string v8) ∧
 ∃ (v9 : Int), w4.cell? ⟨b1, 4, none⟩ = some (.int .u8 v9) ∧
 callE P i_isHR #[.agg #[.int .i64 v5, .int .i64 v6, .int .i64 v7, .string v8, .int .u8 v9]] (fun e w11 => ∃ (r10 : Bool), e = .returned (.bool r10) ∧
 br r10
 (tk w11 fun w12 =>
 nilP x0 fun a13 =>
 nilP x0 fun a14 =>
 ∃ (v15 : Int), w12.cell? (a13.add 3) = some (.int .i64 v15) ∧
 ∃ (v16 : Int), w12.cell? (a14.add 3) = some (.int .i64 v16) ∧
 callE P i_line_string #[.pointer (some ⟨b1, 0, none⟩)] (fun e w18 => ∃ (r17 : BA), e = .returned (.string r17) ∧
 SameC w12 w18 (a14.add 3) 1 ∧
 SameC w12 w18 (a13.add 3) 1 ∧
 box w18 #[.int .i64 v15, .int .i64 v16, .string r17] ty_ThematicBreak fun b19 w20 =>
 callE P i_parseState_doneBlock #[.pointer x0, .iface ty_P_ThematicBreak (.pointer (some ⟨b19, 0, none⟩))] (fun e w22 => e = .returned (.tuple #[]) ∧
 stV w22 ⟨b3, 0, none⟩ (.int .i64 0) fun w23 =>
 stV w23 ⟨b3, 1, none⟩ (.int .i64 0) fun w24 =>
 stV w24 ⟨b3, 2, none⟩ (.int .i64 0) fun w25 =>
 stV w25 ⟨b3, 3, none⟩ (.string (ByteArray.mk #[])) fun w26 =>
 stV w26 ⟨b3, 4, none⟩ (.int .u8 0) fun w27 =>
 ∃ (v28 : Int), w27.cell? ⟨b3, 0, none⟩ = some (.int .i64 v28) ∧
 ∃ (v29 : Int), w27.cell? ⟨b3, 1, none⟩ = some (.int .i64 v29) ∧
 ∃ (v30 : Int), w27.cell? ⟨b3, 2, none⟩ = some (.int .i64 v30) ∧
 ∃ (v31 : BA), w27.cell? ⟨b3, 3, none⟩ = some (.string v31) ∧
 ∃ (v32 : Int), w27.cell? ⟨b3, 4, none⟩ = some (.int .u8 v32) ∧
 R (.returned (.tuple #[.agg #[.int .i64 v28, .int .i64 v29, .int .i64 v30, .string v31, .int .u8 v32], .bool true])) w27) w20) w12)
 (∃ (v33 : Int), w11.cell? ⟨b1, 0, none⟩ = some (.int .i64 v33) ∧
 ∃ (v34 : Int), w11.cell? ⟨b1, 1, none⟩ = some (.int .i64 v34) ∧
 ∃ (v35 : Int), w11.cell? ⟨b1, 2, none⟩ = some (.int .i64 v35) ∧
 ∃ (v36 : BA), w11.cell? ⟨b1, 3, none⟩ = some (.string v36) ∧
 ∃ (v37 : Int), w11.cell? ⟨b1, 4, none⟩ = some (.int .u8 v37) ∧
 stV w11 ⟨b3, 0, none⟩ (.int .i64 v33) fun w38 =>
 stV w38 ⟨b3, 1, none⟩ (.int .i64 v34) fun w39 =>
 stV w39 ⟨b3, 2, none⟩ (.int .i64 v35) fun w40 =>
 stV w40 ⟨b3, 3, none⟩ (.string v36) fun w41 =>
 stV w41 ⟨b3, 4, none⟩ (.int .u8 v37) fun w42 =>
 ∃ (v43 : Int), w42.cell? ⟨b3, 0, none⟩ = some (.int .i64 v43) ∧
 ∃ (v44 : Int), w42.cell? ⟨b3, 1, none⟩ = some (.int .i64 v44) ∧
 ∃ (v45 : Int), w42.cell? ⟨b3, 2, none⟩ = some (.int .i64 v45) ∧
 ∃ (v46 : BA), w42.cell? ⟨b3, 3, none⟩ = some (.string v46) ∧
 ∃ (v47 : Int), w42.cell? ⟨b3, 4, none⟩ = some (.int .u8 v47) ∧
 R (.returned (.tuple #[.agg #[.int .i64 v43, .int .i64 v44, .int .i64 v45, .string v46, .int .u8 v47], .bool false])) w42)) w4

noncomputable def g_newHR.ac (R : EP) : AC :=
  (.seq (.leaf (sel [0] g_newHR.body)) (.seq (.seq (.leaf (sel [1, 0, 0] g_newHR.body)) (.cond 7 (.seq (.draw (.pure 0 (.pure 1 (.pure 2 (.pure 3 (.pure 5 (.pure 6 (.pure 7 (.load 4 (.load 8 (.pure 9 (.one 10 (.pure 11 (.one 12 (.pure 13 (.one 14 .done))))))))))))))) (sel [1, 0, 1, 0, 0] g_newHR.body)) (.leaf (sel [1, 0, 1, 0, 1] g_newHR.body))) (.leaf (sel [1, 0, 1, 1] g_newHR.body)))) (.leaf (sel [1, 1] g_newHR.body))))
theorem g_newHR.good (R : EP) : Good P 25 (g_newHR.ac R) (QF P [.cell 4 80, .tmp 5] R) :=
  ⟨trivial, ⟨⟨trivial, ⟨⟨⟨by kernel_rfl, by kernel_rfl, fun _ _ _ h => h⟩, trivial⟩, trivial⟩⟩, trivial⟩⟩
theorem g_newHR.eq (R : EP) (x0 : OA) (x1_0 : Int) (x1_1 : Int) (x1_2 : Int) (x1_3 : BA) (x1_4 : Int) (w : World) : g_newHR R x0 x1_0 x1_1 x1_2 x1_3 x1_4 w = vcA P 25 (g_newHR.ac R) (QF P [.cell 4 80, .tmp 5] R) (fr0 [.pointer x0, .agg #[.int .i64 x1_0, .int .i64 x1_1, .int .i64 x1_2, .string x1_3, .int .u8 x1_4]]) w := by kernel_rfl
theorem g_newHR.sound {R : EP} {x0 : OA} {x1_0 : Int} {x1_1 : Int} {x1_2 : Int} {x1_3 : ByteArray} {x1_4 : Int} {w : World} (h : g_newHR R x0 x1_0 x1_1 x1_2 x1_3 x1_4 w) : callE P i_newHR #[.pointer x0, .agg #[.int .i64 x1_0, .int .i64 x1_1, .int .i64 x1_2, .string x1_3, .int .u8 x1_4]] R w :=
  callE_fin (c := g_newHR.body) Tryz.func64 Tryz.call64 (by kernel_rfl) (by kernel_rfl) (by kernel_rfl) (by kernel_rfl) (by kernel_rfl) (g_newHR.good R) (g_newHR.eq R x0 x1_0 x1_1 x1_2 x1_3 x1_4 w) h
namespace g_newQuote
noncomputable def body : Code := bodyOf Tryz.f61
end g_newQuote
def g_newQuote (R : EP) (x0 : OA) (x1_0 : Int) (x1_1 : Int) (x1_2 : Int) (x1_3 : BA) (x1_4 : Int) (w : World) : Prop :=
 box w #[.int .i64 x1_0, .int .i64 x1_1, .int .i64 x1_2, .string x1_3, .int .u8 x1_4] ty_line fun b1 w2 =>
 box w2 #[.int .i64 0, .int .i64 0, .int .i64 0, .string (ByteArray.mk #[]), .int .u8 0] ty_line fun b3 w4 =>
 ∃ (v5 : Int), w4.cell? ⟨b1, 0, none⟩ = some (.int .i64 v5) ∧
 ∃ (v6 : Int), w4.cell? ⟨b1, 1, none⟩ = some (.int .i64 v6) ∧
 ∃ (v7 : Int), w4.cell? ⟨b1, 2, none⟩ = some (.int .i64 v7) ∧
 ∃ (v8 : BA), w4.cell? ⟨b1, 3, none⟩ = some (.string v8) ∧
 ∃ (v9 : Int), w4.cell? ⟨b1, 4, none⟩ = some (.int .u8 v9) ∧
 callE P i_trimQuote #[.agg #[.int .i64 v5, .int .i64 v6, .int .i64 v7, .string v8, .int .u8 v9]] (fun e w11 => ∃ (r10_0_0 : Int), ∃ (r10_0_1 : Int), ∃ (r10_0_2 : Int), ∃ (r10_0_3 : BA), ∃ (r10_0_4 : Int), ∃ (r10_1 : Bool), e = .returned (.tuple #[.agg #[.int .i64 r10_0_0, .int .i64 r10_0_1, .int .i64 r10_0_2, .string r10_0_3, .int .u8 r10_0_4], .bool r10_1]) ∧
 box w11 #[.int .i64 0, .int .i64 0, .int .i64 0, .string (ByteArray.mk #[]), .int .u8 0] ty_line fun b12 w13 =>
 stV w13 ⟨b12, 0, none⟩ (.int .i64 r10_0_0) fun w14 =>
 stV w14 ⟨b12, 1, none⟩ (.int .i64 r10_0_1) fun w15 =>
 stV w15 ⟨b12, 2, none⟩ (.int .i64 r10_0_2) fun w16 =>
 stV w16 ⟨b12, 3, none⟩ (.string r10_0_3) fun w17 =>
 stV w17 ⟨b12, 4, none⟩ (.int .u8 r10_0_4) fun w18 =>
 br r10_1
 (box w18 #[] ty_quoteBuilder fun b19 w20 =>
 callE P i_parseState_addBlock #[.pointer x0, .iface ty_P_quoteBuilder (.pointer (some ⟨b19, 0, none⟩))] (fun e w22 => e = .returned (.tuple #[]) ∧
 ∃ (v23 : Int), w22.cell? ⟨b12, 0, none⟩ = some (.int .i64 v23) ∧
 ∃ (v24 : Int), w22.cell? ⟨b12, 1, none⟩ = some (.int .i64 v24) ∧
 ∃ (v25 : Int), w22.cell? ⟨b12, 2, none⟩ = some (.int .i64 v25) ∧
 ∃ (v26 : BA), w22.cell? ⟨b12, 3, none⟩ = some (.string v26) ∧
 ∃ (v27 : Int), w22.cell? ⟨b12, 4, none⟩ = some (.int .u8 v27) ∧
 stV w22 ⟨b3, 0, none⟩ (.int .i64 v23) fun w28 =>
 stV w28 ⟨b3, 1, none⟩ (.int .i64 v24) fun w29 =>
 stV w29 ⟨b3, 2, none⟩ (.int .i64 v25) fun w30 =>
 stV w30 ⟨b3, 3, none⟩ (.string v26) fun w31 =>
 stV w31 ⟨b3, 4, none⟩ (.int .u8 v27) fun w32 =>
 ∃ (v33 : Int), w32.cell? ⟨b3, 0, none⟩ = some (.int .i64 v33) ∧
 ∃ (v34 : Int), w32.cell? ⟨b3, 1, none⟩ = some (.int .i64 v34) ∧
 ∃ (v35 : Int), w32.cell? ⟨b3, 2, none⟩ = some (.int .i64 v35) ∧
 ∃ (v36 : BA), w32.cell? ⟨b3, 3, none⟩ = some (.string v36) ∧
 ∃ (v37 : Int), w32.cell? ⟨b3, 4, none⟩ = some (.int .u8 v37) ∧
 R (.returned (.tuple #[.agg #[.int .i64 v33, .int .i64 v34, .int .i64 v35, .string v36, .int .u8 v37], .bool true])) w32) w20)
 (∃ (v38 : Int), w18.cell? ⟨b1, 0, none⟩ = some (.int .i64 v38) ∧
 ∃ (v39 : Int), w18.cell? ⟨b1, 1, none⟩ = some (.int .i64 v39) ∧
 ∃ (v40 : Int), w18.cell? ⟨b1, 2, none⟩ = some (.int .i64 v40) ∧
 ∃ (v41 : BA), w18.cell? ⟨b1, 3, none⟩ = some (.string v41) ∧
 ∃ (v42 : Int), w18.cell? ⟨b1, 4, none⟩ = some (.int .u8 v42) ∧
 stV w18 ⟨b3, 0, none⟩ (.int .i64 v38) fun w43 =>
 stV w43 ⟨b3, 1, none⟩ (.int .i64 v39) fun w44 =>
 stV w44 ⟨b3, 2, none⟩ (.int .i64 v40) fun w45 =>
 stV w45 ⟨b3, 3, none⟩ (.string v41) fun w46 =>
 stV w46 ⟨b3, 4, none⟩ (.int .u8 v42) fun w47 =>
 ∃ (v48 : Int), w47.cell? ⟨b3, 0, none⟩ = some (.int .i64 v48) ∧
 ∃ (v49 : Int), w47.cell? ⟨b3, 1, none⟩ = some (.int .i64 v49) ∧
 ∃ (v50 : Int), w47.cell? ⟨b3, 2, none⟩ = some (.int .i64 v50) ∧
 ∃ (v51 : BA), w47.cell? ⟨b3, 3, none⟩ = some (.string v51) ∧
 ∃ (v52 : Int), w47.cell? ⟨b3, 4, none⟩ = some (.int .u8 v52) ∧
 R (.returned (.tuple #[.agg #[.int .i64 v48, .int .i64 v49, .int .i64 v50, .string v51, .int .u8 v52], .bool false])) w47)) w4

noncomputable def g_newQuote.ac (R : EP) : AC :=
  (.leaf (sel [] g_newQuote.body))
theorem g_newQuote.good (R : EP) : Good P 20 (g_newQuote.ac R) (QF P [.cell 4 80, .tmp 5] R) :=
  trivial
theorem g_newQuote.eq (R : EP) (x0 : OA) (x1_0 : Int) (x1_1 : Int) (x1_2 : Int) (x1_3 : BA) (x1_4 : Int) (w : World) : g_newQuote R x0 x1_0 x1_1 x1_2 x1_3 x1_4 w = vcA P 20 (g_newQuote.ac R) (QF P [.cell 4 80, .tmp 5] R) (fr0 [.pointer x0, .agg #[.int .i64 x1_0, .int .i64 x1_1, .int .i64 x1_2, .string x1_3, .int .u8 x1_4]]) w := by kernel_rfl
theorem g_newQuote.sound {R : EP} {x0 : OA} {x1_0 : Int} {x1_1 : Int} {x1_2 : Int} {x1_3 : ByteArray} {x1_4 : Int} {w : World} (h : g_newQuote R x0 x1_0 x1_1 x1_2 x1_3 x1_4 w) : callE P i_newQuote #[.pointer x0, .agg #[.int .i64 x1_0, .int .i64 x1_1, .int .i64 x1_2, .string x1_3, .int .u8 x1_4]] R w :=
  callE_fin (c := g_newQuote.body) Tryz.func61 Tryz.call61 (by kernel_rfl) (by kernel_rfl) (by kernel_rfl) (by kernel_rfl) (by kernel_rfl) (g_newQuote.good R) (g_newQuote.eq R x0 x1_0 x1_1 x1_2 x1_3 x1_4 w) h
namespace g_isHR
noncomputable def body : Code := bodyOf Tryz.f115
def bl1 (R : EP) (Xa : Nat → Int → Int → WP) (x3 : Nat) (x4 : Int) (x5 : Int) (w : World) : Prop :=
 callE P i_line_trim #[.pointer (some ⟨x3, 0, none⟩), .int .u8 x4] (fun e w20 => ∃ (r19 : Bool), e = .returned (.bool r19) ∧
 br (!r19)
 (br (decide (x5 ≥ 3))
 (callE P i_line_eof #[.pointer (some ⟨x3, 0, none⟩)] (fun e w22 => ∃ (r21 : Bool), e = .returned (.bool r21) ∧
 R (.returned (.bool r21)) w22) w20)
 (R (.returned (.bool false)) w20))
 (callE P i_line_skipSpace #[.pointer (some ⟨x3, 0, none⟩)] (fun e w24 => e = .returned (.tuple #[]) ∧
 Xa x3 x4 (IntKind.i64.wrap (x5 + 1)) w24) w20)) w
def l1 (R : EP) (x3 : Nat) (x4 : Int) (x5 : Int) (w : World) : Prop :=
  ∀ X : Nat → Int → Int → WP, (∀ x3 x4 x5 w, bl1 R X x3 x4 x5 w → X x3 x4 x5 w) → X x3 x4 x5 w

noncomputable def al1 (R : EP) (Xa : Nat → Int → Int → WP) : AC :=
  (.leaf (sel [1, 1, 1, 0, 1, 1, 0, 1, 0, 0, 1, 0, 0] body))
def k1 (R : EP) (x3 : Nat) (x4 : Int) (x10 : Bool) (w : World) : Prop :=
 br x10
 (l1 R x3 x4 0 w)
 (R (.returned (.bool false)) w)

end g_isHR
def g_isHR (R : EP) (x0_0 : Int) (x0_1 : Int) (x0_2 : Int) (x0_3 : BA) (x0_4 : Int) (w : World) : Prop :=
 box w #[.int .i64 x0_0, .int .i64 x0_1, .int .i64 x0_2, .string x0_3, .int .u8 x0_4] ty_line fun b1 w2 =>
 ∃ (v3 : Int), w2.cell? ⟨b1, 0, none⟩ = some (.int .i64 v3) ∧
 ∃ (v4 : Int), w2.cell? ⟨b1, 1, none⟩ = some (.int .i64 v4) ∧
 ∃ (v5 : Int), w2.cell? ⟨b1, 2, none⟩ = some (.int .i64 v5) ∧
 ∃ (v6 : BA), w2.cell? ⟨b1, 3, none⟩ = some (.string v6) ∧
 ∃ (v7 : Int), w2.cell? ⟨b1, 4, none⟩ = some (.int .u8 v7) ∧
 box w2 #[.int .i64 0, .int .i64 0, .int .i64 0, .string (ByteArray.mk #[]), .int .u8 0] ty_line fun b8 w9 =>
 stV w9 ⟨b8, 0, none⟩ (.int .i64 v3) fun w10 =>
 stV w10 ⟨b8, 1, none⟩ (.int .i64 v4) fun w11 =>
 stV w11 ⟨b8, 2, none⟩ (.int .i64 v5) fun w12 =>
 stV w12 ⟨b8, 3, none⟩ (.string v6) fun w13 =>
 stV w13 ⟨b8, 4, none⟩ (.int .u8 v7) fun w14 =>
 callE P i_line_trimSpace #[.pointer (some ⟨b8, 0, none⟩), .int .i64 0, .int .i64 3, .bool false] (fun e w16 => ∃ (r15 : Bool), e = .returned (.bool r15) ∧
 callE P i_line_peek #[.pointer (some ⟨b8, 0, none⟩)] (fun e w18 => ∃ (r17 : Int), e = .returned (.int .u8 r17) ∧
 br (r17 == 45)
 (g_isHR.k1 R b8 r17 true w18)
 (br (r17 == 95)
 (g_isHR.k1 R b8 r17 true w18)
 (g_isHR.k1 R b8 r17 (r17 == 42) w18))) w16) w14

noncomputable def g_isHR.ac (R : EP) : AC :=
  (.seq (.leaf (sel [0] g_isHR.body)) (.seq (.leaf (sel [1, 0] g_isHR.body)) (.seq (.leaf (sel [1, 1, 0] g_isHR.body)) (.seq (.seq (.leaf (sel [1, 1, 1, 0, 0] g_isHR.body)) (.seq (.leaf (sel [1, 1, 1, 0, 1, 0] g_isHR.body)) (.block 0 (.seq (.leaf (sel [1, 1, 1, 0, 1, 1, 0, 0] g_isHR.body)) (.mark (leaf [(3, .s .loc), (4, .s (.int .u8)), (10, .s .bool)] (g_isHR.k1 R)) (.cond 10 (.seq (.seq (.leaf (sel [1, 1, 1, 0, 1, 1, 0, 1, 0, 0, 0] g_isHR.body)) (.block 1 (.loop (leaf [(3, .s .loc), (4, .s (.int .u8)), (5, .s (.int .i64))] (g_isHR.l1 R)) (sel [1, 1, 1, 0, 1, 1, 0, 1, 0, 0, 1, 0, 0] g_isHR.body)))) (.leaf (sel [1, 1, 1, 0, 1, 1, 0, 1, 0, 1] g_isHR.body))) (.leaf (sel [1, 1, 1, 0, 1, 1, 0, 1, 1] g_isHR.body)))))))) (.leaf (sel [1, 1, 1, 1] g_isHR.body))))))
theorem g_isHR.good (R : EP) : Good P 23 (g_isHR.ac R) (QF P [.tmp 2] R) :=
  ⟨trivial, ⟨trivial, ⟨trivial, ⟨⟨trivial, ⟨trivial, ⟨trivial, ⟨⟨⟨⟨trivial, (loopG (g_isHR.al1 R) (g_isHR.bl1 R) (fun _ => by kernel_rfl) (fun Xa => trivial) (fun Xa => by intro x3 x4 x5 ρ w; kernel_rfl) (fun X h _ _ _ _ g => g X h))⟩, trivial⟩, trivial⟩, cutE (by intro x3 x4 x10 ρ w; kernel_rfl)⟩⟩⟩⟩, trivial⟩⟩⟩⟩
theorem g_isHR.eq (R : EP) (x0_0 : Int) (x0_1 : Int) (x0_2 : Int) (x0_3 : BA) (x0_4 : Int) (w : World) : g_isHR R x0_0 x0_1 x0_2 x0_3 x0_4 w = vcA P 23 (g_isHR.ac R) (QF P [.tmp 2] R) (fr0 [.agg #[.int .i64 x0_0, .int .i64 x0_1, .int .i64 x0_2, .string x0_3, .int .u8 x0_4]]) w := by kernel_rfl
theorem g_isHR.sound {R : EP} {x0_0 : Int} {x0_1 : Int} {x0_2 : Int} {x0_3 : ByteArray} {x0_4 : Int} {w : World} (h : g_isHR R x0_0 x0_1 x0_2 x0_3 x0_4 w) : callE P i_isHR #[.agg #[.int .i64 x0_0, .int .i64 x0_1, .int .i64 x0_2, .string x0_3, .int .u8 x0_4]] R w :=
  callE_fin (c := g_isHR.body) Tryz.func115 Tryz.call115 (by kernel_rfl) (by kernel_rfl) (by kernel_rfl) (by kernel_rfl) (by kernel_rfl) (g_isHR.good R) (g_isHR.eq R x0_0 x0_1 x0_2 x0_3 x0_4 w) h
namespace g_trimQuote
noncomputable def body : Code := bodyOf Tryz.f102
end g_trimQuote
def g_trimQuote (R : EP) (x0_0 : Int) (x0_1 : Int) (x0_2 : Int) (x0_3 : BA) (x0_4 : Int) (w : World) : Prop :=
 box w #[.int .i64 x0_0, .int .i64 x0_1, .int .i64 x0_2, .string x0_3, .int .u8 x0_4] ty_line fun b1 w2 =>
 box w2 #[.int .i64 0, .int .i64 0, .int .i64 0, .string (ByteArray.mk #[]), .int .u8 0] ty_line fun b3 w4 =>
 ∃ (v5 : Int), w4.cell? ⟨b1, 0, none⟩ = some (.int .i64 v5) ∧
 ∃ (v6 : Int), w4.cell? ⟨b1, 1, none⟩ = some (.int .i64 v6) ∧
 ∃ (v7 : Int), w4.cell? ⟨b1, 2, none⟩ = some (.int .i64 v7) ∧
 ∃ (v8 : BA), w4.cell? ⟨b1, 3, none⟩ = some (.string v8) ∧
 ∃ (v9 : Int), w4.cell? ⟨b1, 4, none⟩ = some (.int .u8 v9) ∧
 box w4 #[.int .i64 0, .int .i64 0, .int .i64 0, .string (ByteArray.mk #[]), .int .u8 0] ty_line fun b10 w11 =>
 stV w11 ⟨b10, 0, none⟩ (.int .i64 v5) fun w12 =>
 stV w12 ⟨b10, 1, none⟩ (.int .i64 v6) fun w13 =>
 stV w13 ⟨b10, 2, none⟩ (.int .i64 v7) fun w14 =>
 stV w14 ⟨b10, 3, none⟩ (.string v8) fun w15 =>
 stV w15 ⟨b10, 4, none⟩ (.int .u8 v9) fun w16 =>
 callE P i_line_trimSpace #[.pointer (some ⟨b10, 0, none⟩), .int .i64 0, .int .i64 3, .bool false] (fun e w18 => ∃ (r17 : Bool), e = .returned (.bool r17) ∧
 callE P i_line_trim #[.pointer (some ⟨b10, 0, none⟩), .int .u8 62] (fun e w20 => ∃ (r19 : Bool), e = .returned (.bool r19) ∧
 br (!r19)
 (∃ (v21 : Int), w20.cell? ⟨b1, 0, none⟩ = some (.int .i64 v21) ∧
 ∃ (v22 : Int), w20.cell? ⟨b1, 1, none⟩ = some (.int .i64 v22) ∧
 ∃ (v23 : Int), w20.cell? ⟨b1, 2, none⟩ = some (.int .i64 v23) ∧
 ∃ (v24 : BA), w20.cell? ⟨b1, 3, none⟩ = some (.string v24) ∧
 ∃ (v25 : Int), w20.cell? ⟨b1, 4, none⟩ = some (.int .u8 v25) ∧
 stV w20 ⟨b3, 0, none⟩ (.int .i64 v21) fun w26 =>
 stV w26 ⟨b3, 1, none⟩ (.int .i64 v22) fun w27 =>
 stV w27 ⟨b3, 2, none⟩ (.int .i64 v23) fun w28 =>
 stV w28 ⟨b3, 3, none⟩ (.string v24) fun w29 =>
 stV w29 ⟨b3, 4, none⟩ (.int .u8 v25) fun w30 =>
 ∃ (v31 : Int), w30.cell? ⟨b3, 0, none⟩ = some (.int .i64 v31) ∧
 ∃ (v32 : Int), w30.cell? ⟨b3, 1, none⟩ = some (.int .i64 v32) ∧
 ∃ (v33 : Int), w30.cell? ⟨b3, 2, none⟩ = some (.int .i64 v33) ∧
 ∃ (v34 : BA), w30.cell? ⟨b3, 3, none⟩ = some (.string v34) ∧
 ∃ (v35 : Int), w30.cell? ⟨b3, 4, none⟩ = some (.int .u8 v35) ∧
 R (.returned (.tuple #[.agg #[.int .i64 v31, .int .i64 v32, .int .i64 v33, .string v34, .int .u8 v35], .bool false])) w30)
 (callE P i_line_trimSpace #[.pointer (some ⟨b10, 0, none⟩), .int .i64 0, .int .i64 1, .bool true] (fun e w37 => ∃ (r36 : Bool), e = .returned (.bool r36) ∧
 ∃ (v38 : Int), w37.cell? ⟨b10, 0, none⟩ = some (.int .i64 v38) ∧
 ∃ (v39 : Int), w37.cell? ⟨b10, 1, none⟩ = some (.int .i64 v39) ∧
 ∃ (v40 : Int), w37.cell? ⟨b10, 2, none⟩ = some (.int .i64 v40) ∧
 ∃ (v41 : BA), w37.cell? ⟨b10, 3, none⟩ = some (.string v41) ∧
 ∃ (v42 : Int), w37.cell? ⟨b10, 4, none⟩ = some (.int .u8 v42) ∧
 stV w37 ⟨b3, 0, none⟩ (.int .i64 v38) fun w43 =>
 stV w43 ⟨b3, 1, none⟩ (.int .i64 v39) fun w44 =>
 stV w44 ⟨b3, 2, none⟩ (.int .i64 v40) fun w45 =>
 stV w45 ⟨b3, 3, none⟩ (.string v41) fun w46 =>
 stV w46 ⟨b3, 4, none⟩ (.int .u8 v42) fun w47 =>
 ∃ (v48 : Int), w47.cell? ⟨b3, 0, none⟩ = some (.int .i64 v48) ∧
 ∃ (v49 : Int), w47.cell? ⟨b3, 1, none⟩ = some (.int .i64 v49) ∧
 ∃ (v50 : Int), w47.cell? ⟨b3, 2, none⟩ = some (.int .i64 v50) ∧
 ∃ (v51 : BA), w47.cell? ⟨b3, 3, none⟩ = some (.string v51) ∧
 ∃ (v52 : Int), w47.cell? ⟨b3, 4, none⟩ = some (.int .u8 v52) ∧
 R (.returned (.tuple #[.agg #[.int .i64 v48, .int .i64 v49, .int .i64 v50, .string v51, .int .u8 v52], .bool true])) w47) w20)) w18) w16

noncomputable def g_trimQuote.ac (R : EP) : AC :=
  (.leaf (sel [] g_trimQuote.body))
theorem g_trimQuote.good (R : EP) : Good P 12 (g_trimQuote.ac R) (QF P [.cell 2 80, .tmp 3] R) :=
  trivial
theorem g_trimQuote.eq (R : EP) (x0_0 : Int) (x0_1 : Int) (x0_2 : Int) (x0_3 : BA) (x0_4 : Int) (w : World) : g_trimQuote R x0_0 x0_1 x0_2 x0_3 x0_4 w = vcA P 12 (g_trimQuote.ac R) (QF P [.cell 2 80, .tmp 3] R) (fr0 [.agg #[.int .i64 x0_0, .int .i64 x0_1, .int .i64 x0_2, .string x0_3, .int .u8 x0_4]]) w := by kernel_rfl
theorem g_trimQuote.sound {R : EP} {x0_0 : Int} {x0_1 : Int} {x0_2 : Int} {x0_3 : ByteArray} {x0_4 : Int} {w : World} (h : g_trimQuote R x0_0 x0_1 x0_2 x0_3 x0_4 w) : callE P i_trimQuote #[.agg #[.int .i64 x0_0, .int .i64 x0_1, .int .i64 x0_2, .string x0_3, .int .u8 x0_4]] R w :=
  callE_fin (c := g_trimQuote.body) Tryz.func102 Tryz.call102 (by kernel_rfl) (by kernel_rfl) (by kernel_rfl) (by kernel_rfl) (by kernel_rfl) (g_trimQuote.good R) (g_trimQuote.eq R x0_0 x0_1 x0_2 x0_3 x0_4 w) h
namespace g_parseState_addBlock
noncomputable def body : Code := bodyOf Tryz.f30
end g_parseState_addBlock
def g_parseState_addBlock (R : EP) (x0 : OA) (x1 : Value) (w : World) : Prop :=
 nilP x0 fun a1 =>
 ∃ (v2 : Int), w.cell? (a1.add 5) = some (.int .i64 v2) ∧
 callE P i_parseState_trimStack #[.pointer x0, .int .i64 (IntKind.i64.wrap (v2 + 1))] (fun e w4 => e = .returned (.tuple #[]) ∧
 nilP x0 fun a5 =>
 ∃ (v6q : OA), ∃ (v6n : Nat), ∃ (v6c : Nat), w4.cell? (a5.add 4) = some (.slice v6q v6n v6c) ∧
 ∃ (r7q : OA), ∃ (r7n : Nat), ∃ (r7c : Nat), ∃ w8, (Instr.buildSlice ty_S_openBlock 1 #[(0, .agg #[.nilIface, .slice none 0 0, .int .i64 0, .int .i64 0])]).run P w4 = .ok (.slice r7q r7n r7c) w8 ∧
 ∃ (r9q : OA), ∃ (r9n : Nat), ∃ (r9c : Nat), ∃ w10, (Builtin.append_ #[ty_S_openBlock, ty_S_openBlock] ty_S_openBlock #[.slice v6q v6n v6c, .slice r7q r7n r7c]).run P w8 = .ok (.slice r9q r9n r9c) w10 ∧
 nilP x0 fun a11 =>
 stV w10 ((a11.add 4).add 0) (.slice r9q r9n r9c) fun w12 =>
 tk w12 fun w13 =>
 nilP x0 fun a14 =>
 nilP x0 fun a15 =>
 ∃ (v16q : OA), ∃ (v16n : Nat), ∃ (v16c : Nat), w13.cell? (a14.add 4) = some (.slice v16q v16n v16c) ∧
 ∃ (v17q : OA), ∃ (v17n : Nat), ∃ (v17c : Nat), w13.cell? (a15.add 4) = some (.slice v17q v17n v17c) ∧
 0 ≤ (IntKind.i64.wrap ((v17n : Int) - 1)) ∧ (IntKind.i64.wrap ((v17n : Int) - 1)) < (v16n : Int) ∧
 nilP v16q fun a18 =>
 cellV x1 (
 stV w13 ((a18.add (Int.toNat (IntKind.i64.wrap ((v17n : Int) - 1)) * 4)).add 0) x1 fun w19 =>
 nilP x0 fun a20 =>
 ∃ (v21 : Int), w19.cell? (a20.add 3) = some (.int .i64 v21) ∧
 stV w19 (((a18.add (Int.toNat (IntKind.i64.wrap ((v17n : Int) - 1)) * 4)).add 2).add 0) (.int .i64 v21) fun w22 =>
 nilP x0 fun a23 =>
 ∃ (v24 : Int), w22.cell? (a23.add 3) = some (.int .i64 v24) ∧
 stV w22 ((((a18.add (Int.toNat (IntKind.i64.wrap ((v17n : Int) - 1)) * 4)).add 2).add 1).add 0) (.int .i64 v24) fun w25 =>
 R (.returned (.tuple #[])) w25)) w

noncomputable def g_parseState_addBlock.ac (R : EP) : AC :=
  (.seq (.leaf (sel [0] g_parseState_addBlock.body)) (.seq (.leaf (sel [1, 0] g_parseState_addBlock.body)) (.seq (.draw (.pure 0 (.pure 1 (.pure 2 (.pure 4 (.pure 5 (.pure 6 (.load 3 (.load 7 (.pure 8 (.pure 9 (.pure 10 (.pure 11 .done)))))))))))) (sel [1, 1, 0] g_parseState_addBlock.body)) (.leaf (sel [1, 1, 1] g_parseState_addBlock.body)))))
theorem g_parseState_addBlock.good (R : EP) : Good P 53 (g_parseState_addBlock.ac R) (QF P [] R) :=
  ⟨trivial, ⟨trivial, ⟨⟨by kernel_rfl, by kernel_rfl, fun _ _ _ h => h⟩, trivial⟩⟩⟩
theorem g_parseState_addBlock.eq (R : EP) (x0 : OA) (x1 : Value) (w : World) : g_parseState_addBlock R x0 x1 w = vcA P 53 (g_parseState_addBlock.ac R) (QF P [] R) (fr0 [.pointer x0, x1]) w := by kernel_rfl
theorem g_parseState_addBlock.sound {R : EP} {x0 : OA} {x1 : Value} {w : World} (h : g_parseState_addBlock R x0 x1 w) : callE P i_parseState_addBlock #[.pointer x0, x1] R w :=
  callE_fin (c := g_parseState_addBlock.body) Tryz.func30 Tryz.call30 (by kernel_rfl) (by kernel_rfl) (by kernel_rfl) (by kernel_rfl) (by kernel_rfl) (g_parseState_addBlock.good R) (g_parseState_addBlock.eq R x0 x1 w) h
namespace g_parseState_blocks
noncomputable def body : Code := bodyOf Tryz.f240
end g_parseState_blocks
def g_parseState_blocks (R : EP) (x0 : OA) (w : World) : Prop :=
 tk w fun w1 =>
 nilP x0 fun a2 =>
 nilP x0 fun a3 =>
 ∃ (v4q : OA), ∃ (v4n : Nat), ∃ (v4c : Nat), w1.cell? (a2.add 4) = some (.slice v4q v4n v4c) ∧
 ∃ (v5q : OA), ∃ (v5n : Nat), ∃ (v5c : Nat), w1.cell? (a3.add 4) = some (.slice v5q v5n v5c) ∧
 0 ≤ (IntKind.i64.wrap ((v5n : Int) - 1)) ∧ (IntKind.i64.wrap ((v5n : Int) - 1)) < (v4n : Int) ∧
 nilP v4q fun a6 =>
 ∃ (v7q : OA), ∃ (v7n : Nat), ∃ (v7c : Nat), w1.cell? ((a6.add (Int.toNat (IntKind.i64.wrap ((v5n : Int) - 1)) * 4)).add 1) = some (.slice v7q v7n v7c) ∧
 R (.returned (.slice v7q v7n v7c)) w1

noncomputable def g_parseState_blocks.ac (R : EP) : AC :=
  (.seq (.leaf (sel [0] g_parseState_blocks.body)) (.seq (.draw (.pure 0 (.pure 1 (.pure 2 (.pure 4 (.pure 5 (.pure 6 (.load 3 (.load 7 (.pure 8 (.pure 9 (.pure 10 (.pure 11 .done)))))))))))) (sel [1, 0] g_parseState_blocks.body)) (.leaf (sel [1, 1] g_parseState_blocks.body))))
theorem g_parseState_blocks.good (R : EP) : Good P 19 (g_parseState_blocks.ac R) (QF P [.tmp 2] R) :=
  ⟨trivial, ⟨⟨by kernel_rfl, by kernel_rfl, fun _ _ _ h => h⟩, trivial⟩⟩
theorem g_parseState_blocks.eq (R : EP) (x0 : OA) (w : World) : g_parseState_blocks R x0 w = vcA P 19 (g_parseState_blocks.ac R) (QF P [.tmp 2] R) (fr0 [.pointer x0]) w := by kernel_rfl
theorem g_parseState_blocks.sound {R : EP} {x0 : OA} {w : World} (h : g_parseState_blocks R x0 w) : callE P i_parseState_blocks #[.pointer x0] R w :=
  callE_fin (c := g_parseState_blocks.body) Tryz.func240 Tryz.call240 (by kernel_rfl) (by kernel_rfl) (by kernel_rfl) (by kernel_rfl) (by kernel_rfl) (g_parseState_blocks.good R) (g_parseState_blocks.eq R x0 w) h
end Go.Proofs.YtihmcipajjakgaaGreatDoor
