/- Part 2 of the proof of the law FnItems: for every input the law returns true, the inputs read as they did, and memory that was there is as it was; under the conditions of the given row alone. -/
import Derived.Deep.AppendSrc
import Derived.Great.BuildSlice
import Derived.Lib.UnsafeStr
import Derived.Lib.BufferWrite
import Derived.Lib.BufferRead
import Derived.Laws.IdiomStrings
import Derived.Laws.MakeOwn
import Derived.Laws.Slices
import Derived.Shelf.Bytes.GrowSlice
import Derived.Laws.Externs
import Derived.Lib.Bytealg
import Derived.Lib.MakeNoZero
import Derived.Lib.Builder
import Derived.Test.YtihmcipajjakgaaGreatDoorA1
set_option linter.all false
set_option linter.unusedVariables false
set_option maxRecDepth 20000
namespace Go.Proofs.YtihmcipajjakgaaGreatDoor
open Go.Proofs
namespace g_parseState_startListItem
noncomputable def body : Code := bodyOf Tryz.f117
def k5 (R : EP) (Xa : Nat → Nat → Int → Int → Int → Nat → Int → Int → WP) (x2 : Nat) (x5 : Nat) (x6 : Int) (x8 : Int) (x9 : Int) (x12 : Nat) (x13 : Int) (x14 : Int) (w : World) : Prop :=
 Xa x2 x5 x6 x8 x9 x12 (IntKind.i64.wrap (x13 + 1)) (IntKind.i64.wrap (x14 + 1)) w

def k9 (R : EP) (Xb : Nat → Nat → Int → Int → Int → WP) (x2 : Nat) (x5 : Nat) (x6 : Int) (x9 : Int) (x10 : Int) (x11 : Int) (w : World) : Prop :=
 ∃ (v63 : Int), w.cell? ⟨x5, 1, none⟩ = some (.int .i64 v63) ∧
 br (decide ((IntKind.i64.wrap (x10 - v63)) ≥ 9))
 (R (.returned (.bool false)) w)
 (Xb x2 x5 x6 (IntKind.i64.wrap ((IntKind.i64.wrap ((IntKind.i64.wrap (x9 * 10)) + (IntKind.i64.wrap x11))) - 48)) (IntKind.i64.wrap (x10 + 1)) w)

def k14 (R : EP) (x2 : Nat) (x5 : Nat) (x15 : Nat) (x18 : Nat) (w : World) : Prop :=
 ∃ (v111 : OA), w.cell? ⟨x15, 0, none⟩ = some (.pointer v111) ∧
 nilP v111 fun a112 =>
 stV w ((a112.add 4).add 0) (.func (.func i_parseState_startListItem_1) #[] #[.pointer (some ⟨x2, 0, none⟩), .pointer (some ⟨x18, 0, none⟩), .pointer (some ⟨x15, 0, none⟩), .pointer (some ⟨x5, 0, none⟩)]) fun w113 =>
 R (.returned (.bool true)) w113

def k13 (R : EP) (x2 : Nat) (x5 : Nat) (x6 : Int) (x15 : Nat) (w : World) : Prop :=
 tk w fun w90 =>
 ∃ (v91 : OA), w90.cell? ⟨x15, 0, none⟩ = some (.pointer v91) ∧
 (callE P i_line_isBlank #[.pointer (some ⟨x5, 0, none⟩)] (fun e w93 => ∃ (r92 : Bool), e = .returned (.bool r92) ∧
 SameC w90 w93 ⟨x15, 0, none⟩ 1 ∧
 (box w93 #[.pointer v91, .int .i64 x6, .bool (!r92)] ty_itemBuilder fun b94 w95 =>
 box w95 #[.pointer none] ty_P_itemBuilder fun b96 w97 =>
 SameC w95 w97 ⟨x15, 0, none⟩ 1 ∧
 stV w97 ⟨b96, 0, none⟩ (.pointer (some ⟨b94, 0, none⟩)) fun w98 =>
 k14 R x2 x5 x15 b96 w98) ∧
 (box w93 #[.pointer none] ty_P_itemBuilder fun b99 w100 =>
 SameC w93 w100 ⟨x15, 0, none⟩ 1 ∧
 box w100 #[.pointer v91, .int .i64 x6, .bool (!r92)] ty_itemBuilder fun b101 w102 =>
 stV w102 ⟨b99, 0, none⟩ (.pointer (some ⟨b101, 0, none⟩)) fun w103 =>
 k14 R x2 x5 x15 b99 w103)) w90) ∧
 (box w90 #[.pointer none] ty_P_itemBuilder fun b104 w105 =>
 SameC w90 w105 ⟨x15, 0, none⟩ 1 ∧
 callE P i_line_isBlank #[.pointer (some ⟨x5, 0, none⟩)] (fun e w107 => ∃ (r106 : Bool), e = .returned (.bool r106) ∧
 SameC w105 w107 ⟨x15, 0, none⟩ 1 ∧
 box w107 #[.pointer v91, .int .i64 x6, .bool (!r106)] ty_itemBuilder fun b108 w109 =>
 stV w109 ⟨b104, 0, none⟩ (.pointer (some ⟨b108, 0, none⟩)) fun w110 =>
 k14 R x2 x5 x15 b104 w110) w105)

def k12 (R : EP) (x2 : Nat) (x5 : Nat) (x6 : Int) (x8 : Int) (x9 : Int) (x15 : Nat) (x158 : Bool) (w : World) : Prop :=
 br x158
 (∃ (v80 : OA), w.cell? ⟨x2, 0, none⟩ = some (.pointer v80) ∧
 nilP v80 fun a81 =>
 stV w ((a81.add 6).add 0) (.bool true) fun w82 =>
 R (.returned (.bool false)) w82)
 (box w #[.int .i32 (IntKind.i32.wrap x8), .int .i64 x9, .bool false, .pointer none, .nilFunc] ty_listBuilder fun b83 w84 =>
 stV w84 ⟨x15, 0, none⟩ (.pointer (some ⟨b83, 0, none⟩)) fun w85 =>
 ∃ (v86 : OA), w85.cell? ⟨x2, 0, none⟩ = some (.pointer v86) ∧
 ∃ (v87 : OA), w85.cell? ⟨x15, 0, none⟩ = some (.pointer v87) ∧
 callE P i_parseState_addBlock #[.pointer v86, .iface ty_P_listBuilder (.pointer v87)] (fun e w89 => e = .returned (.tuple #[]) ∧
 k13 R x2 x5 x6 x15 w89) w85)

def k11 (R : EP) (x2 : Nat) (x5 : Nat) (x6 : Int) (x8 : Int) (x9 : Int) (x15 : Nat) (x136 : Bool) (w : World) : Prop :=
 br x136
 (∃ (v70 : OA), w.cell? ⟨x15, 0, none⟩ = some (.pointer v70) ∧
 ∃ (r71 : Bool), ∃ w72, (do eqGuard .eql ty_P_listBuilder (.tmp 137) (.const (.pointer none)) (.pointer v70) (.pointer none); binOp .eql ty_P_listBuilder (.pointer v70) (.pointer none)).run P w = .ok (.bool r71) w72 ∧
 br r71
 (∃ (v73 : OA), w72.cell? ⟨x2, 0, none⟩ = some (.pointer v73) ∧
 callE P i_parseState_para #[.pointer v73] (fun e w75 => ∃ (r74 : OA), e = .returned (.pointer r74) ∧
 ∃ (r76 : Bool), ∃ w77, (do eqGuard .neq ty_P_paraBuilder (.tmp 141) (.const (.pointer none)) (.pointer r74) (.pointer none); binOp .neq ty_P_paraBuilder (.pointer r74) (.pointer none)).run P w75 = .ok (.bool r76) w77 ∧
 br r76
 (callE P i_line_isBlank #[.pointer (some ⟨x5, 0, none⟩)] (fun e w79 => ∃ (r78 : Bool), e = .returned (.bool r78) ∧
 k12 R x2 x5 x6 x8 x9 x15 (r78 || (((x8 == 46) || (x8 == 41)) && (x9 != 1))) w79) w77)
 (k12 R x2 x5 x6 x8 x9 x15 false w77)) w72)
 (k12 R x2 x5 x6 x8 x9 x15 false w72))
 (k13 R x2 x5 x6 x15 w)

def k10 (R : EP) (x2 : Nat) (x5 : Nat) (x6 : Int) (x8 : Int) (x9 : Int) (x15 : Nat) (w : World) : Prop :=
 ∃ (v64 : OA), w.cell? ⟨x15, 0, none⟩ = some (.pointer v64) ∧
 ∃ (r65 : Bool), ∃ w66, (do eqGuard .eql ty_P_listBuilder (.tmp 126) (.const (.pointer none)) (.pointer v64) (.pointer none); binOp .eql ty_P_listBuilder (.pointer v64) (.pointer none)).run P w = .ok (.bool r65) w66 ∧
 br r65
 (k11 R x2 x5 x6 x8 x9 x15 true w66)
 (∃ (v67 : OA), w66.cell? ⟨x15, 0, none⟩ = some (.pointer v67) ∧
 nilP v67 fun a68 =>
 ∃ (v69 : Int), w66.cell? a68 = some (.int .i32 v69) ∧
 k11 R x2 x5 x6 x8 x9 x15 (v69 != (IntKind.i32.wrap x8)) w66)

def k8 (R : EP) (x2 : Nat) (x5 : Nat) (x6 : Int) (x8 : Int) (x9 : Int) (w : World) : Prop :=
 box w #[.pointer none] ty_P_listBuilder fun b55 w56 =>
 ∃ (v57 : OA), w56.cell? ⟨x2, 0, none⟩ = some (.pointer v57) ∧
 callE P i_parseState_nextB #[.pointer v57] (fun e w59 => ∃ (r58 : Value), e = .returned r58 ∧
 ∃ (r60_0 : OA), ∃ (r60_1 : Bool), ∃ w61, (Instr.typeAssert r58 ty_blockBuilder ty_P_listBuilder true).run P w59 = .ok (.tuple #[.pointer r60_0, .bool r60_1]) w61 ∧
 br r60_1
 (stV w61 ⟨b55, 0, none⟩ (.pointer r60_0) fun w62 =>
 k10 R x2 x5 x6 x8 x9 b55 w62)
 (k10 R x2 x5 x6 x8 x9 b55 w61)) w56

def k6 (R : EP) (x2 : Nat) (x5 : Nat) (x6 : Int) (x8 : Int) (x9 : Int) (x12 : Nat) (x13 : Int) (w : World) : Prop :=
 callE P i_line_trimSpace #[.pointer (some ⟨x12, 0, none⟩), .int .i64 1, .int .i64 1, .bool true] (fun e w42 => ∃ (r41 : Bool), e = .returned (.bool r41) ∧
 br (!r41)
 (∃ (v43 : Int), w42.cell? ⟨x12, 0, none⟩ = some (.int .i64 v43) ∧
 ∃ (v44 : Int), w42.cell? ⟨x12, 1, none⟩ = some (.int .i64 v44) ∧
 ∃ (v45 : Int), w42.cell? ⟨x12, 2, none⟩ = some (.int .i64 v45) ∧
 ∃ (v46 : BA), w42.cell? ⟨x12, 3, none⟩ = some (.string v46) ∧
 ∃ (v47 : Int), w42.cell? ⟨x12, 4, none⟩ = some (.int .u8 v47) ∧
 stV w42 ⟨x5, 0, none⟩ (.int .i64 v43) fun w48 =>
 stV w48 ⟨x5, 1, none⟩ (.int .i64 v44) fun w49 =>
 stV w49 ⟨x5, 2, none⟩ (.int .i64 v45) fun w50 =>
 stV w50 ⟨x5, 3, none⟩ (.string v46) fun w51 =>
 stV w51 ⟨x5, 4, none⟩ (.int .u8 v47) fun w52 =>
 k8 R x2 x5 (IntKind.i64.wrap (x6 + x13)) x8 x9 w52)
 (k8 R x2 x5 x6 x8 x9 w42)) w

def bl2 (R : EP) (Xa : Nat → Nat → Int → Int → Int → Nat → Int → Int → WP) (x2 : Nat) (x5 : Nat) (x6 : Int) (x8 : Int) (x9 : Int) (x12 : Nat) (x13 : Int) (x14 : Int) (w : World) : Prop :=
 br (decide (x14 < 3))
 (callE P i_line_trimSpace #[.pointer (some ⟨x12, 0, none⟩), .int .i64 1, .int .i64 1, .bool false] (fun e w38 => ∃ (r37 : Bool), e = .returned (.bool r37) ∧
 br r37
 (k5 R Xa x2 x5 x6 x8 x9 x12 x13 x14 w38)
 (k6 R x2 x5 x6 x8 x9 x12 x13 w38)) w)
 (k6 R x2 x5 x6 x8 x9 x12 x13 w)
def l2 (R : EP) (x2 : Nat) (x5 : Nat) (x6 : Int) (x8 : Int) (x9 : Int) (x12 : Nat) (x13 : Int) (x14 : Int) (w : World) : Prop :=
  ∀ X : Nat → Nat → Int → Int → Int → Nat → Int → Int → WP, (∀ x2 x5 x6 x8 x9 x12 x13 x14 w, bl2 R X x2 x5 x6 x8 x9 x12 x13 x14 w → X x2 x5 x6 x8 x9 x12 x13 x14 w) → X x2 x5 x6 x8 x9 x12 x13 x14 w

noncomputable def al2 (R : EP) (Xa : Nat → Nat → Int → Int → Int → Nat → Int → Int → WP) : AC :=
  (.seq (.leaf (sel [1, 0, 1, 1, 1, 1, 1, 1, 1, 1, 1, 1, 1, 0, 1, 0, 0, 0] body)) (.mark (leaf [(2, .s .loc), (5, .s .loc), (6, .s (.int .i64)), (8, .s (.int .u8)), (9, .s (.int .i64)), (12, .s .loc), (13, .s (.int .i64)), (14, .s (.int .i64))] (k5 R Xa)) (.leaf (sel [1, 0, 1, 1, 1, 1, 1, 1, 1, 1, 1, 1, 1, 0, 1, 0, 0, 1] body))))
def k3 (R : EP) (x2 : Nat) (x5 : Nat) (x6 : Int) (x8 : Int) (x9 : Int) (w : World) : Prop :=
 callE P i_line_trimSpace #[.pointer (some ⟨x5, 0, none⟩), .int .i64 1, .int .i64 1, .bool true] (fun e w23 => ∃ (r22 : Bool), e = .returned (.bool r22) ∧
 br (!r22)
 (R (.returned (.bool false)) w23)
 (∃ (v24 : Int), w23.cell? ⟨x5, 0, none⟩ = some (.int .i64 v24) ∧
 ∃ (v25 : Int), w23.cell? ⟨x5, 1, none⟩ = some (.int .i64 v25) ∧
 ∃ (v26 : Int), w23.cell? ⟨x5, 2, none⟩ = some (.int .i64 v26) ∧
 ∃ (v27 : BA), w23.cell? ⟨x5, 3, none⟩ = some (.string v27) ∧
 ∃ (v28 : Int), w23.cell? ⟨x5, 4, none⟩ = some (.int .u8 v28) ∧
 box w23 #[.int .i64 0, .int .i64 0, .int .i64 0, .string (ByteArray.mk #[]), .int .u8 0] ty_line fun b29 w30 =>
 stV w30 ⟨b29, 0, none⟩ (.int .i64 v24) fun w31 =>
 stV w31 ⟨b29, 1, none⟩ (.int .i64 v25) fun w32 =>
 stV w32 ⟨b29, 2, none⟩ (.int .i64 v26) fun w33 =>
 stV w33 ⟨b29, 3, none⟩ (.string v27) fun w34 =>
 stV w34 ⟨b29, 4, none⟩ (.int .u8 v28) fun w35 =>
 l2 R x2 x5 (IntKind.i64.wrap (x6 + 1)) x8 x9 b29 0 0 w35)) w

def k7 (R : EP) (Xb : Nat → Nat → Int → Int → Int → WP) (x2 : Nat) (x5 : Nat) (x6 : Int) (x9 : Int) (x10 : Int) (x11 : Int) (x69 : Bool) (w : World) : Prop :=
 br x69
 (∃ (v53 : Int), w.cell? ⟨x5, 1, none⟩ = some (.int .i64 v53) ∧
 stV w ⟨x5, 1, none⟩ (.int .i64 (IntKind.i64.wrap (x10 + 1))) fun w54 =>
 k3 R x2 x5 (IntKind.i64.wrap (x6 + (IntKind.i64.wrap ((IntKind.i64.wrap (x10 + 1)) - v53)))) x11 x9 w54)
 (br ((decide (x11 < 48)) || (decide (57 < x11)))
 (R (.returned (.bool false)) w)
 (k9 R Xb x2 x5 x6 x9 x10 x11 w))

def bl3 (R : EP) (Xb : Nat → Nat → Int → Int → Int → WP) (x2 : Nat) (x5 : Nat) (x6 : Int) (x9 : Int) (x10 : Int) (w : World) : Prop :=
 ∃ (v39 : BA), w.cell? ⟨x5, 3, none⟩ = some (.string v39) ∧
 br (decide (x10 ≥ (v39.size : Int)))
 (R (.returned (.bool false)) w)
 (∃ (v40 : BA), w.cell? ⟨x5, 3, none⟩ = some (.string v40) ∧
 0 ≤ x10 ∧ x10 < (v40.size : Int) ∧
 k7 R Xb x2 x5 x6 x9 x10 (bt v40 x10) (((bt v40 x10) == 46) || ((bt v40 x10) == 41)) w)
def l3 (R : EP) (x2 : Nat) (x5 : Nat) (x6 : Int) (x9 : Int) (x10 : Int) (w : World) : Prop :=
  ∀ X : Nat → Nat → Int → Int → Int → WP, (∀ x2 x5 x6 x9 x10 w, bl3 R X x2 x5 x6 x9 x10 w → X x2 x5 x6 x9 x10 w) → X x2 x5 x6 x9 x10 w

noncomputable def al3 (R : EP) (Xb : Nat → Nat → Int → Int → Int → WP) : AC :=
  (.seq (.block 4 (.seq (.leaf (sel [1, 0, 1, 1, 1, 1, 1, 1, 0, 1, 0, 1, 1, 1, 0, 1, 0, 0, 0, 0, 0] body)) (.seq (.leaf (sel [1, 0, 1, 1, 1, 1, 1, 1, 0, 1, 0, 1, 1, 1, 0, 1, 0, 0, 0, 0, 1, 0] body)) (.seq (.seq (.leaf (sel [1, 0, 1, 1, 1, 1, 1, 1, 0, 1, 0, 1, 1, 1, 0, 1, 0, 0, 0, 0, 1, 1, 0, 0] body)) (.mark (leaf [(2, .s .loc), (5, .s .loc), (6, .s (.int .i64)), (9, .s (.int .i64)), (10, .s (.int .i64)), (11, .s (.int .u8)), (69, .s .bool)] (k7 R Xb)) (.leaf (sel [1, 0, 1, 1, 1, 1, 1, 1, 0, 1, 0, 1, 1, 1, 0, 1, 0, 0, 0, 0, 1, 1, 0, 1] body)))) (.seq (.leaf (sel [1, 0, 1, 1, 1, 1, 1, 1, 0, 1, 0, 1, 1, 1, 0, 1, 0, 0, 0, 0, 1, 1, 1, 0] body)) (.mark (leaf [(2, .s .loc), (5, .s .loc), (6, .s (.int .i64)), (9, .s (.int .i64)), (10, .s (.int .i64)), (11, .s (.int .u8))] (k9 R Xb)) (.leaf (sel [1, 0, 1, 1, 1, 1, 1, 1, 0, 1, 0, 1, 1, 1, 0, 1, 0, 0, 0, 0, 1, 1, 1, 1] body)))))))) (.leaf (sel [1, 0, 1, 1, 1, 1, 1, 1, 0, 1, 0, 1, 1, 1, 0, 1, 0, 0, 1] body)))
def k4 (R : EP) (x2 : Nat) (x5 : Nat) (x6 : Int) (x9 : Int) (x40 : Bool) (w : World) : Prop :=
 br x40
 (∃ (v36 : Int), w.cell? ⟨x5, 1, none⟩ = some (.int .i64 v36) ∧
 l3 R x2 x5 x6 x9 v36 w)
 (R (.returned (.bool false)) w)

def k2 (R : EP) (x2 : Nat) (x5 : Nat) (x6 : Int) (x8 : Int) (x9 : Int) (x31 : Int) (x32 : Bool) (w : World) : Prop :=
 br x32
 (callE P i_line_trim #[.pointer (some ⟨x5, 0, none⟩), .int .u8 x8] (fun e w21 => ∃ (r20 : Bool), e = .returned (.bool r20) ∧
 k3 R x2 x5 (IntKind.i64.wrap (x6 + 1)) x8 x9 w21) w)
 (br (x31 == 48)
 (k4 R x2 x5 x6 x9 true w)
 (br (x31 == 49)
 (k4 R x2 x5 x6 x9 true w)
 (br (x31 == 50)
 (k4 R x2 x5 x6 x9 true w)
 (br (x31 == 51)
 (k4 R x2 x5 x6 x9 true w)
 (br (x31 == 52)
 (k4 R x2 x5 x6 x9 true w)
 (br (x31 == 53)
 (k4 R x2 x5 x6 x9 true w)
 (br (x31 == 54)
 (k4 R x2 x5 x6 x9 true w)
 (br (x31 == 55)
 (k4 R x2 x5 x6 x9 true w)
 (br (x31 == 56)
 (k4 R x2 x5 x6 x9 true w)
 (k4 R x2 x5 x6 x9 (x31 == 57) w))))))))))

def k1 (R : EP) (x2 : Nat) (x5 : Nat) (x6 : Int) (w : World) : Prop :=
 callE P i_line_peek #[.pointer (some ⟨x5, 0, none⟩)] (fun e w19 => ∃ (r18 : Int), e = .returned (.int .u8 r18) ∧
 br (r18 == 45)
 (k2 R x2 x5 x6 r18 0 r18 true w19)
 (br (r18 == 42)
 (k2 R x2 x5 x6 r18 0 r18 true w19)
 (k2 R x2 x5 x6 r18 0 r18 (r18 == 43) w19))) w

def bl1 (R : EP) (Xc : Nat → Nat → Int → Int → WP) (x2 : Nat) (x5 : Nat) (x6 : Int) (x7 : Int) (w : World) : Prop :=
 br (decide (x7 < 3))
 (callE P i_line_trimSpace #[.pointer (some ⟨x5, 0, none⟩), .int .i64 1, .int .i64 1, .bool false] (fun e w17 => ∃ (r16 : Bool), e = .returned (.bool r16) ∧
 br (!r16)
 (k1 R x2 x5 x6 w17)
 (Xc x2 x5 (IntKind.i64.wrap (x6 + 1)) (IntKind.i64.wrap (x7 + 1)) w17)) w)
 (k1 R x2 x5 x6 w)
def l1 (R : EP) (x2 : Nat) (x5 : Nat) (x6 : Int) (x7 : Int) (w : World) : Prop :=
  ∀ X : Nat → Nat → Int → Int → WP, (∀ x2 x5 x6 x7 w, bl1 R X x2 x5 x6 x7 w → X x2 x5 x6 x7 w) → X x2 x5 x6 x7 w

noncomputable def al1 (R : EP) (Xc : Nat → Nat → Int → Int → WP) : AC :=
  (.leaf (sel [1, 0, 1, 1, 0, 1, 0, 0] body))
end g_parseState_startListItem
def g_parseState_startListItem (R : EP) (x0 : OA) (x1 : OA) (w : World) : Prop :=
 box w #[.pointer x0] ty_P_parseState fun b1 w2 =>
 nilP x1 fun a3 =>
 ∃ (v4 : Int), w2.cell? (a3.add 0) = some (.int .i64 v4) ∧
 ∃ (v5 : Int), w2.cell? (a3.add 1) = some (.int .i64 v5) ∧
 ∃ (v6 : Int), w2.cell? (a3.add 2) = some (.int .i64 v6) ∧
 ∃ (v7 : BA), w2.cell? (a3.add 3) = some (.string v7) ∧
 ∃ (v8 : Int), w2.cell? (a3.add 4) = some (.int .u8 v8) ∧
 box w2 #[.int .i64 0, .int .i64 0, .int .i64 0, .string (ByteArray.mk #[]), .int .u8 0] ty_line fun b9 w10 =>
 stV w10 ⟨b9, 0, none⟩ (.int .i64 v4) fun w11 =>
 stV w11 ⟨b9, 1, none⟩ (.int .i64 v5) fun w12 =>
 stV w12 ⟨b9, 2, none⟩ (.int .i64 v6) fun w13 =>
 stV w13 ⟨b9, 3, none⟩ (.string v7) fun w14 =>
 stV w14 ⟨b9, 4, none⟩ (.int .u8 v8) fun w15 =>
 g_parseState_startListItem.l1 R b1 b9 0 0 w15

noncomputable def g_parseState_startListItem.ac (R : EP) : AC :=
  (.seq (.leaf (sel [0] g_parseState_startListItem.body)) (.scope (.seq (.leaf (sel [1, 0, 0] g_parseState_startListItem.body)) (.seq (.leaf (sel [1, 0, 1, 0] g_parseState_startListItem.body)) (.seq (.seq (.leaf (sel [1, 0, 1, 1, 0, 0] g_parseState_startListItem.body)) (.block 0 (.loop (leaf [(2, .s .loc), (5, .s .loc), (6, .s (.int .i64)), (7, .s (.int .i64))] (g_parseState_startListItem.l1 R)) (sel [1, 0, 1, 1, 0, 1, 0, 0] g_parseState_startListItem.body)))) (.mark (leaf [(2, .s .loc), (5, .s .loc), (6, .s (.int .i64))] (g_parseState_startListItem.k1 R)) (.seq (.leaf (sel [1, 0, 1, 1, 1, 0] g_parseState_startListItem.body)) (.seq (.leaf (sel [1, 0, 1, 1, 1, 1, 0] g_parseState_startListItem.body)) (.seq (.leaf (sel [1, 0, 1, 1, 1, 1, 1, 0] g_parseState_startListItem.body)) (.seq (.seq (.leaf (sel [1, 0, 1, 1, 1, 1, 1, 1, 0, 0] g_parseState_startListItem.body)) (.block 2 (.seq (.leaf (sel [1, 0, 1, 1, 1, 1, 1, 1, 0, 1, 0, 0] g_parseState_startListItem.body)) (.mark (leaf [(2, .s .loc), (5, .s .loc), (6, .s (.int .i64)), (8, .s (.int .u8)), (9, .s (.int .i64)), (31, .s (.int .u8)), (32, .s .bool)] (g_parseState_startListItem.k2 R)) (.cond 32 (.leaf (sel [1, 0, 1, 1, 1, 1, 1, 1, 0, 1, 0, 1, 0] g_parseState_startListItem.body)) (.seq (.leaf (sel [1, 0, 1, 1, 1, 1, 1, 1, 0, 1, 0, 1, 1, 0] g_parseState_startListItem.body)) (.mark (leaf [(2, .s .loc), (5, .s .loc), (6, .s (.int .i64)), (9, .s (.int .i64)), (40, .s .bool)] (g_parseState_startListItem.k4 R)) (.cond 40 (.seq (.leaf (sel [1, 0, 1, 1, 1, 1, 1, 1, 0, 1, 0, 1, 1, 1, 0, 0] g_parseState_startListItem.body)) (.block 3 (.loop (leaf [(2, .s .loc), (5, .s .loc), (6, .s (.int .i64)), (9, .s (.int .i64)), (10, .s (.int .i64))] (g_parseState_startListItem.l3 R)) (sel [1, 0, 1, 1, 1, 1, 1, 1, 0, 1, 0, 1, 1, 1, 0, 1, 0, 0] g_parseState_startListItem.body)))) (.leaf (sel [1, 0, 1, 1, 1, 1, 1, 1, 0, 1, 0, 1, 1, 1, 1] g_parseState_startListItem.body)))))))))) (.mark (leaf [(2, .s .loc), (5, .s .loc), (6, .s (.int .i64)), (8, .s (.int .u8)), (9, .s (.int .i64))] (g_parseState_startListItem.k3 R)) (.seq (.leaf (sel [1, 0, 1, 1, 1, 1, 1, 1, 1, 0] g_parseState_startListItem.body)) (.seq (.leaf (sel [1, 0, 1, 1, 1, 1, 1, 1, 1, 1, 0] g_parseState_startListItem.body)) (.seq (.leaf (sel [1, 0, 1, 1, 1, 1, 1, 1, 1, 1, 1, 0] g_parseState_startListItem.body)) (.seq (.leaf (sel [1, 0, 1, 1, 1, 1, 1, 1, 1, 1, 1, 1, 0] g_parseState_startListItem.body)) (.seq (.seq (.leaf (sel [1, 0, 1, 1, 1, 1, 1, 1, 1, 1, 1, 1, 1, 0, 0] g_parseState_startListItem.body)) (.block 5 (.loop (leaf [(2, .s .loc), (5, .s .loc), (6, .s (.int .i64)), (8, .s (.int .u8)), (9, .s (.int .i64)), (12, .s .loc), (13, .s (.int .i64)), (14, .s (.int .i64))] (g_parseState_startListItem.l2 R)) (sel [1, 0, 1, 1, 1, 1, 1, 1, 1, 1, 1, 1, 1, 0, 1, 0, 0] g_parseState_startListItem.body)))) (.mark (leaf [(2, .s .loc), (5, .s .loc), (6, .s (.int .i64)), (8, .s (.int .u8)), (9, .s (.int .i64)), (12, .s .loc), (13, .s (.int .i64))] (g_parseState_startListItem.k6 R)) (.seq (.leaf (sel [1, 0, 1, 1, 1, 1, 1, 1, 1, 1, 1, 1, 1, 1, 0] g_parseState_startListItem.body)) (.mark (leaf [(2, .s .loc), (5, .s .loc), (6, .s (.int .i64)), (8, .s (.int .u8)), (9, .s (.int .i64))] (g_parseState_startListItem.k8 R)) (.seq (.leaf (sel [1, 0, 1, 1, 1, 1, 1, 1, 1, 1, 1, 1, 1, 1, 1, 0] g_parseState_startListItem.body)) (.seq (.leaf (sel [1, 0, 1, 1, 1, 1, 1, 1, 1, 1, 1, 1, 1, 1, 1, 1, 0] g_parseState_startListItem.body)) (.mark (leaf [(2, .s .loc), (5, .s .loc), (6, .s (.int .i64)), (8, .s (.int .u8)), (9, .s (.int .i64)), (15, .s .loc)] (g_parseState_startListItem.k10 R)) (.seq (.seq (.leaf (sel [1, 0, 1, 1, 1, 1, 1, 1, 1, 1, 1, 1, 1, 1, 1, 1, 1, 0, 0] g_parseState_startListItem.body)) (.mark (leaf [(2, .s .loc), (5, .s .loc), (6, .s (.int .i64)), (8, .s (.int .u8)), (9, .s (.int .i64)), (15, .s .loc), (136, .s .bool)] (g_parseState_startListItem.k11 R)) (.cond 136 (.seq (.seq (.leaf (sel [1, 0, 1, 1, 1, 1, 1, 1, 1, 1, 1, 1, 1, 1, 1, 1, 1, 0, 1, 0, 0, 0] g_parseState_startListItem.body)) (.mark (leaf [(2, .s .loc), (5, .s .loc), (6, .s (.int .i64)), (8, .s (.int .u8)), (9, .s (.int .i64)), (15, .s .loc), (158, .s .bool)] (g_parseState_startListItem.k12 R)) (.leaf (sel [1, 0, 1, 1, 1, 1, 1, 1, 1, 1, 1, 1, 1, 1, 1, 1, 1, 0, 1, 0, 0, 1] g_parseState_startListItem.body)))) (.leaf (sel [1, 0, 1, 1, 1, 1, 1, 1, 1, 1, 1, 1, 1, 1, 1, 1, 1, 0, 1, 0, 1] g_parseState_startListItem.body))) (.leaf (sel [1, 0, 1, 1, 1, 1, 1, 1, 1, 1, 1, 1, 1, 1, 1, 1, 1, 0, 1, 1] g_parseState_startListItem.body))))) (.mark (leaf [(2, .s .loc), (5, .s .loc), (6, .s (.int .i64)), (15, .s .loc)] (g_parseState_startListItem.k13 R)) (.seq (.draw (.pure 1 (.load 0 (.two 2 (.pure 3 (.pure 4 (.two 5 (.one 6 (.one 7 .done)) 6 (.one 5 (.one 7 .done))))) 6 (.one 2 (.pure 3 (.pure 4 (.one 5 (.one 7 .done)))))))) (sel [1, 0, 1, 1, 1, 1, 1, 1, 1, 1, 1, 1, 1, 1, 1, 1, 1, 1, 0] g_parseState_startListItem.body)) (.mark (leaf [(2, .s .loc), (5, .s .loc), (15, .s .loc), (18, .s .loc)] (g_parseState_startListItem.k14 R)) (.leaf (sel [1, 0, 1, 1, 1, 1, 1, 1, 1, 1, 1, 1, 1, 1, 1, 1, 1, 1, 1] g_parseState_startListItem.body))))))))))))))))))))))))))))
theorem g_parseState_startListItem.good (R : EP) : Good P 181 (g_parseState_startListItem.ac R) (QF P [.tmp 4] R) :=
  ⟨trivial, ⟨trivial, ⟨trivial, ⟨⟨trivial, (loopG (g_parseState_startListItem.al1 R) (g_parseState_startListItem.bl1 R) (fun _ => by kernel_rfl) (fun Xc => trivial) (fun Xc => by intro x2 x5 x6 x7 ρ w; kernel_rfl) (fun X h _ _ _ _ _ g => g X h))⟩, ⟨⟨trivial, ⟨trivial, ⟨trivial, ⟨⟨trivial, ⟨trivial, ⟨⟨trivial, ⟨trivial, ⟨⟨⟨trivial, (loopG (g_parseState_startListItem.al3 R) (g_parseState_startListItem.bl3 R) (fun _ => by kernel_rfl) (fun Xb => ⟨⟨trivial, ⟨trivial, ⟨⟨trivial, ⟨trivial, cutE (by intro x2 x5 x6 x9 x10 x11 x69 ρ w; kernel_rfl)⟩⟩, ⟨trivial, ⟨trivial, cutE (by intro x2 x5 x6 x9 x10 x11 ρ w; kernel_rfl)⟩⟩⟩⟩⟩, trivial⟩) (fun Xb => by intro x2 x5 x6 x9 x10 ρ w; kernel_rfl) (fun X h _ _ _ _ _ _ g => g X h))⟩, trivial⟩, cutE (by intro x2 x5 x6 x9 x40 ρ w; kernel_rfl)⟩⟩⟩, cutE (by intro x2 x5 x6 x8 x9 x31 x32 ρ w; kernel_rfl)⟩⟩⟩, ⟨⟨trivial, ⟨trivial, ⟨trivial, ⟨trivial, ⟨⟨trivial, (loopG (g_parseState_startListItem.al2 R) (g_parseState_startListItem.bl2 R) (fun _ => by kernel_rfl) (fun Xa => ⟨trivial, ⟨trivial, cutE (by intro x2 x5 x6 x8 x9 x12 x13 x14 ρ w; kernel_rfl)⟩⟩) (fun Xa => by intro x2 x5 x6 x8 x9 x12 x13 x14 ρ w; kernel_rfl) (fun X h _ _ _ _ _ _ _ _ _ g => g X h))⟩, ⟨⟨trivial, ⟨⟨trivial, ⟨trivial, ⟨⟨⟨trivial, ⟨⟨⟨⟨trivial, ⟨trivial, cutE (by intro x2 x5 x6 x8 x9 x15 x158 ρ w; kernel_rfl)⟩⟩, trivial⟩, trivial⟩, cutE (by intro x2 x5 x6 x8 x9 x15 x136 ρ w; kernel_rfl)⟩⟩, ⟨⟨⟨by kernel_rfl, by kernel_rfl, fun _ _ _ h => h⟩, ⟨trivial, cutE (by intro x2 x5 x15 x18 ρ w; kernel_rfl)⟩⟩, cutE (by intro x2 x5 x6 x15 ρ w; kernel_rfl)⟩⟩, cutE (by intro x2 x5 x6 x8 x9 x15 ρ w; kernel_rfl)⟩⟩⟩, cutE (by intro x2 x5 x6 x8 x9 ρ w; kernel_rfl)⟩⟩, cutE (by intro x2 x5 x6 x8 x9 x12 x13 ρ w; kernel_rfl)⟩⟩⟩⟩⟩⟩, cutE (by intro x2 x5 x6 x8 x9 ρ w; kernel_rfl)⟩⟩⟩⟩⟩, cutE (by intro x2 x5 x6 ρ w; kernel_rfl)⟩⟩⟩⟩⟩
theorem g_parseState_startListItem.eq (R : EP) (x0 : OA) (x1 : OA) (w : World) : g_parseState_startListItem R x0 x1 w = vcA P 181 (g_parseState_startListItem.ac R) (QF P [.tmp 4] R) (fr0 [.pointer x0, .pointer x1]) w := by kernel_rfl
theorem g_parseState_startListItem.sound {R : EP} {x0 : OA} {x1 : OA} {w : World} (h : g_parseState_startListItem R x0 x1 w) : callE P i_parseState_startListItem #[.pointer x0, .pointer x1] R w :=
  callE_fin (c := g_parseState_startListItem.body) Tryz.func117 Tryz.call117 (by kernel_rfl) (by kernel_rfl) (by kernel_rfl) (by kernel_rfl) (by kernel_rfl) (g_parseState_startListItem.good R) (g_parseState_startListItem.eq R x0 x1 w) h
namespace g_parseState_closeBlock
noncomputable def body : Code := bodyOf Tryz.f39
def k3 (R : EP) (x0 : OA) (x4 : Value) (w : World) : Prop :=
 tk w fun w38 =>
 nilP x0 fun a39 =>
 nilP x0 fun a40 =>
 ∃ (v41q : OA), ∃ (v41n : Nat), ∃ (v41c : Nat), w38.cell? (a39.add 4) = some (.slice v41q v41n v41c) ∧
 ∃ (v42q : OA), ∃ (v42n : Nat), ∃ (v42c : Nat), w38.cell? (a40.add 4) = some (.slice v42q v42n v42c) ∧
 ∃ (r43q : OA), ∃ (r43n : Nat), ∃ (r43c : Nat), (∀ w, (Instr.sliceAt ty_S_openBlock (.slice v41q v41n v41c) none (some (.int .i64 (IntKind.i64.wrap ((v42n : Int) - 1)))) none).run P w = .ok (.slice r43q r43n r43c) w) ∧
 nilP x0 fun a44 =>
 stV w38 ((a44.add 4).add 0) (.slice r43q r43n r43c) fun w45 =>
 nilP x0 fun a46 =>
 ∃ (v47q : OA), ∃ (v47n : Nat), ∃ (v47c : Nat), w45.cell? (a46.add 4) = some (.slice v47q v47n v47c) ∧
 br (decide ((v47n : Int) > 0))
 (tk w45 fun w48 =>
 nilP x0 fun a49 =>
 nilP x0 fun a50 =>
 ∃ (v51q : OA), ∃ (v51n : Nat), ∃ (v51c : Nat), w48.cell? (a49.add 4) = some (.slice v51q v51n v51c) ∧
 ∃ (v52q : OA), ∃ (v52n : Nat), ∃ (v52c : Nat), w48.cell? (a50.add 4) = some (.slice v52q v52n v52c) ∧
 0 ≤ (IntKind.i64.wrap ((v52n : Int) - 1)) ∧ (IntKind.i64.wrap ((v52n : Int) - 1)) < (v51n : Int) ∧
 nilP v51q fun a53 =>
 ∃ (v54q : OA), ∃ (v54n : Nat), ∃ (v54c : Nat), w48.cell? ((a53.add (Int.toNat (IntKind.i64.wrap ((v52n : Int) - 1)) * 4)).add 1) = some (.slice v54q v54n v54c) ∧
 ∃ (r55q : OA), ∃ (r55n : Nat), ∃ (r55c : Nat), ∃ w56, (Instr.buildSlice ty_S_Block 1 #[(0, x4)]).run P w48 = .ok (.slice r55q r55n r55c) w56 ∧
 ∃ (r57q : OA), ∃ (r57n : Nat), ∃ (r57c : Nat), ∃ w58, (Builtin.append_ #[ty_S_Block, ty_S_Block] ty_S_Block #[.slice v54q v54n v54c, .slice r55q r55n r55c]).run P w56 = .ok (.slice r57q r57n r57c) w58 ∧
 stV w58 (((a53.add (Int.toNat (IntKind.i64.wrap ((v52n : Int) - 1)) * 4)).add 1).add 0) (.slice r57q r57n r57c) fun w59 =>
 R (.returned x4) w59)
 (∃ (r60 : OA), ∃ w61, (Instr.typeAssert x4 ty_Block ty_P_Document false).run P w45 = .ok (.pointer r60) w61 ∧
 nilP x0 fun a62 =>
 stV w61 ((a62.add 1).add 0) (.pointer r60) fun w63 =>
 R (.returned x4) w63)

def k2 (R : EP) (x0 : OA) (x4 : Value) (x5 : OA) (w : World) : Prop :=
 nilP x0 fun a26 =>
 ∃ (v27 : OA), w.cell? a26 = some (.pointer v27) ∧
 nilP v27 fun a28 =>
 ∃ (v29 : Bool), w.cell? (a28.add 2) = some (.bool v29) ∧
 br v29
 (nilP x0 fun a30 =>
 ∃ (v31q : OA), ∃ (v31n : Nat), ∃ (v31c : Nat), w.cell? (a30.add 10) = some (.slice v31q v31n v31c) ∧
 ∃ (r32q : OA), ∃ (r32n : Nat), ∃ (r32c : Nat), ∃ w33, (Instr.buildSlice ty_S_P_List 1 #[(0, .pointer x5)]).run P w = .ok (.slice r32q r32n r32c) w33 ∧
 ∃ (r34q : OA), ∃ (r34n : Nat), ∃ (r34c : Nat), ∃ w35, (Builtin.append_ #[ty_S_P_List, ty_S_P_List] ty_S_P_List #[.slice v31q v31n v31c, .slice r32q r32n r32c]).run P w33 = .ok (.slice r34q r34n r34c) w35 ∧
 nilP x0 fun a36 =>
 stV w35 ((a36.add 10).add 0) (.slice r34q r34n r34c) fun w37 =>
 k3 R x0 x4 w37)
 (k3 R x0 x4 w)

def k1 (R : EP) (x0 : OA) (x3 : OA) (w : World) : Prop :=
 nilP x3 fun a12 =>
 ∃ (v13 : Value), w.cell? a12 = some v13 ∧
 enterE P (callMethod v13 "pub-paratext/pub/rscmarkdown.build" #[.iface ty_P_parseState (.pointer x0)]) (fun e w15 => ∃ (r14 : Value), e = .returned r14 ∧
 ∃ (r16_0 : OA), ∃ (r16_1 : Bool), ∃ w17, (Instr.typeAssert r14 ty_Block ty_P_List true).run P w15 = .ok (.tuple #[.pointer r16_0, .bool r16_1]) w17 ∧
 br r16_1
 (nilP x0 fun a18 =>
 ∃ (v19 : Bool), w17.cell? (a18.add 6) = some (.bool v19) ∧
 br v19
 (nilP x0 fun a20 =>
 stV w17 ((a20.add 6).add 0) (.bool true) fun w21 =>
 k2 R x0 r14 r16_0 w21)
 (callE P i_listCorner #[.pointer r16_0] (fun e w23 => ∃ (r22 : Bool), e = .returned (.bool r22) ∧
 nilP x0 fun a24 =>
 stV w23 ((a24.add 6).add 0) (.bool r22) fun w25 =>
 k2 R x0 r14 r16_0 w25) w17))
 (k3 R x0 r14 w17)) w

end g_parseState_closeBlock
def g_parseState_closeBlock (R : EP) (x0 : OA) (w : World) : Prop :=
 tk w fun w1 =>
 nilP x0 fun a2 =>
 nilP x0 fun a3 =>
 ∃ (v4q : OA), ∃ (v4n : Nat), ∃ (v4c : Nat), w1.cell? (a2.add 4) = some (.slice v4q v4n v4c) ∧
 ∃ (v5q : OA), ∃ (v5n : Nat), ∃ (v5c : Nat), w1.cell? (a3.add 4) = some (.slice v5q v5n v5c) ∧
 0 ≤ (IntKind.i64.wrap ((v5n : Int) - 1)) ∧ (IntKind.i64.wrap ((v5n : Int) - 1)) < (v4n : Int) ∧
 nilP v4q fun a6 =>
 ∃ (v7 : Value), w1.cell? (a6.add (Int.toNat (IntKind.i64.wrap ((v5n : Int) - 1)) * 4)) = some v7 ∧
 ∃ (r8 : Bool), ∃ w9, (do eqGuard .eql ty_blockBuilder (.tmp 22) (.const .nilIface) v7 .nilIface; binOp .eql ty_blockBuilder v7 .nilIface).run P w1 = .ok (.bool r8) w9 ∧
 br r8
 (nilP x0 fun a10 =>
 ∃ (v11q : OA), ∃ (v11n : Nat), ∃ (v11c : Nat), w9.cell? (a10.add 4) = some (.slice v11q v11n v11c) ∧
 False)
 (g_parseState_closeBlock.k1 R x0 (some (a6.add (Int.toNat (IntKind.i64.wrap ((v5n : Int) - 1)) * 4))) w9)

noncomputable def g_parseState_closeBlock.ac (R : EP) : AC :=
  (.seq (.leaf (sel [0] g_parseState_closeBlock.body)) (.seq (.draw (.pure 0 (.pure 1 (.pure 2 (.pure 4 (.pure 5 (.pure 6 (.load 3 (.load 7 (.pure 8 (.pure 9 (.pure 10 (.pure 11 .done)))))))))))) (sel [1, 0] g_parseState_closeBlock.body)) (.seq (.leaf (sel [1, 1, 0] g_parseState_closeBlock.body)) (.mark (leaf [(0, .s .ptr), (3, .s .ptr)] (g_parseState_closeBlock.k1 R)) (.seq (.leaf (sel [1, 1, 1, 0] g_parseState_closeBlock.body)) (.seq (.seq (.leaf (sel [1, 1, 1, 1, 0, 0] g_parseState_closeBlock.body)) (.seq (.leaf (sel [1, 1, 1, 1, 0, 1, 0] g_parseState_closeBlock.body)) (.cond 42 (.seq (.leaf (sel [1, 1, 1, 1, 0, 1, 1, 0, 0] g_parseState_closeBlock.body)) (.mark (leaf [(0, .s .ptr), (4, .s .any), (5, .s .ptr)] (g_parseState_closeBlock.k2 R)) (.leaf (sel [1, 1, 1, 1, 0, 1, 1, 0, 1] g_parseState_closeBlock.body)))) (.leaf (sel [1, 1, 1, 1, 0, 1, 1, 1] g_parseState_closeBlock.body))))) (.mark (leaf [(0, .s .ptr), (4, .s .any)] (g_parseState_closeBlock.k3 R)) (.seq (.draw (.pure 0 (.pure 1 (.pure 2 (.pure 3 (.pure 5 (.pure 6 (.pure 7 (.load 4 (.load 8 (.pure 9 (.pure 10 (.pure 11 (.pure 12 (.pure 13 (.one 14 .done))))))))))))))) (sel [1, 1, 1, 1, 1, 0] g_parseState_closeBlock.body)) (.seq (.seq (.leaf (sel [1, 1, 1, 1, 1, 1, 0, 0] g_parseState_closeBlock.body)) (.cond 90 (.seq (.draw (.pure 0 (.pure 1 (.pure 2 (.pure 4 (.pure 5 (.pure 6 (.load 3 (.load 7 (.pure 8 (.pure 9 (.pure 10 (.pure 11 .done)))))))))))) (sel [1, 1, 1, 1, 1, 1, 0, 1, 0, 0] g_parseState_closeBlock.body)) (.leaf (sel [1, 1, 1, 1, 1, 1, 0, 1, 0, 1] g_parseState_closeBlock.body))) (.leaf (sel [1, 1, 1, 1, 1, 1, 0, 1, 1] g_parseState_closeBlock.body)))) (.leaf (sel [1, 1, 1, 1, 1, 1, 1] g_parseState_closeBlock.body)))))))))))
theorem g_parseState_closeBlock.good (R : EP) : Good P 118 (g_parseState_closeBlock.ac R) (QF P [.tmp 2] R) :=
  ⟨trivial, ⟨⟨by kernel_rfl, by kernel_rfl, fun _ _ _ h => h⟩, ⟨trivial, ⟨⟨trivial, ⟨⟨trivial, ⟨trivial, ⟨⟨trivial, ⟨trivial, cutE (by intro x0 x4 x5 ρ w; kernel_rfl)⟩⟩, trivial⟩⟩⟩, ⟨⟨⟨by kernel_rfl, by kernel_rfl, fun _ _ _ h => h⟩, ⟨⟨trivial, ⟨⟨⟨by kernel_rfl, by kernel_rfl, fun _ _ _ h => h⟩, trivial⟩, trivial⟩⟩, trivial⟩⟩, cutE (by intro x0 x4 ρ w; kernel_rfl)⟩⟩⟩, cutE (by intro x0 x3 ρ w; kernel_rfl)⟩⟩⟩⟩
theorem g_parseState_closeBlock.eq (R : EP) (x0 : OA) (w : World) : g_parseState_closeBlock R x0 w = vcA P 118 (g_parseState_closeBlock.ac R) (QF P [.tmp 2] R) (fr0 [.pointer x0]) w := by kernel_rfl
theorem g_parseState_closeBlock.sound {R : EP} {x0 : OA} {w : World} (h : g_parseState_closeBlock R x0 w) : callE P i_parseState_closeBlock #[.pointer x0] R w :=
  callE_fin (c := g_parseState_closeBlock.body) Tryz.func39 Tryz.call39 (by kernel_rfl) (by kernel_rfl) (by kernel_rfl) (by kernel_rfl) (by kernel_rfl) (g_parseState_closeBlock.good R) (g_parseState_closeBlock.eq R x0 w) h
namespace g_itemBuilder_build
noncomputable def body : Code := bodyOf Tryz.f318
end g_itemBuilder_build
def g_itemBuilder_build (R : EP) (x0 : OA) (x1 : Value) (w : World) : Prop :=
 nilP x0 fun a1 =>
 ∃ (v2 : OA), w.cell? a1 = some (.pointer v2) ∧
 nilP v2 fun a3 =>
 stV w ((a3.add 3).add 0) (.pointer none) fun w4 =>
 tk w4 fun w5 =>
 nilP x0 fun a6 =>
 ∃ (v7 : Int), w5.cell? (a6.add 1) = some (.int .i64 v7) ∧
 enterE P (callMethod x1 "pub-paratext/pub/rscmarkdown.pos" #[]) (fun e w9 => ∃ (r8_0 : Int), ∃ (r8_1 : Int), e = .returned (.agg #[.int .i64 r8_0, .int .i64 r8_1]) ∧
 SameC w5 w9 (a6.add 1) 1 ∧
 enterE P (callMethod x1 "pub-paratext/pub/rscmarkdown.blocks" #[]) (fun e w11 => ∃ (r10q : OA), ∃ (r10n : Nat), ∃ (r10c : Nat), e = .returned (.slice r10q r10n r10c) ∧
 SameC w9 w11 (a6.add 1) 1 ∧
 box w11 #[.int .i64 r8_0, .int .i64 r8_1, .slice r10q r10n r10c, .int .i64 v7] ty_Item fun b12 w13 =>
 R (.returned (.iface ty_P_Item (.pointer (some ⟨b12, 0, none⟩)))) w13) w9) w5

noncomputable def g_itemBuilder_build.ac (R : EP) : AC :=
  (.seq (.leaf (sel [0] g_itemBuilder_build.body)) (.seq (.leaf (sel [1, 0] g_itemBuilder_build.body)) (.seq (.draw (.pure 0 (.pure 2 (.pure 4 (.pure 5 (.pure 6 (.load 7 (.one 1 (.one 3 (.pure 8 (.one 9 (.pure 10 (.pure 11 .done)))))))))))) (sel [1, 1, 0] g_itemBuilder_build.body)) (.leaf (sel [1, 1, 1] g_itemBuilder_build.body)))))
theorem g_itemBuilder_build.good (R : EP) : Good P 22 (g_itemBuilder_build.ac R) (QF P [.tmp 4] R) :=
  ⟨trivial, ⟨trivial, ⟨⟨by kernel_rfl, by kernel_rfl, fun _ _ _ h => h⟩, trivial⟩⟩⟩
theorem g_itemBuilder_build.eq (R : EP) (x0 : OA) (x1 : Value) (w : World) : g_itemBuilder_build R x0 x1 w = vcA P 22 (g_itemBuilder_build.ac R) (QF P [.tmp 4] R) (fr0 [.pointer x0, x1]) w := by kernel_rfl
theorem g_itemBuilder_build.sound {R : EP} {x0 : OA} {x1 : Value} {w : World} (h : g_itemBuilder_build R x0 x1 w) : callE P i_itemBuilder_build #[.pointer x0, x1] R w :=
  callE_fin (c := g_itemBuilder_build.body) Tryz.func318 Tryz.call318 (by kernel_rfl) (by kernel_rfl) (by kernel_rfl) (by kernel_rfl) (by kernel_rfl) (g_itemBuilder_build.good R) (g_itemBuilder_build.eq R x0 x1 w) h
namespace g_Item_PrintHTML
noncomputable def body : Code := bodyOf Tryz.f261
def bl1 (R : EP) (Xa : OA → OA → OA → Nat → Nat → Int → Int → WP) (x0 : OA) (x1 : OA) (x35q : OA) (x35n : Nat) (x35c : Nat) (x36 : Int) (x37 : Int) (w : World) : Prop :=
 br (decide (x37 < x36))
 (0 ≤ x37 ∧ x37 < (x35n : Int) ∧
 nilP x35q fun a15 =>
 ∃ (v16 : Value), w.cell? (a15.add (Int.toNat x37 * 1)) = some v16 ∧
 enterE P (callMethod v16 "PrintHTML" #[.pointer x1]) (fun e w18 => e = .returned (.tuple #[]) ∧
 nilP x0 fun a19 =>
 ∃ (v20q : OA), ∃ (v20n : Nat), ∃ (v20c : Nat), w18.cell? (a19.add 2) = some (.slice v20q v20n v20c) ∧
 br (decide ((IntKind.i64.wrap (x37 + 1)) < (v20n : Int)))
 (∃ (r21_0 : OA), ∃ (r21_1 : Bool), ∃ w22, (Instr.typeAssert v16 ty_Block ty_P_Text true).run P w18 = .ok (.tuple #[.pointer r21_0, .bool r21_1]) w22 ∧
 br r21_1
 (callE P i_bytes_Buffer_WriteString #[.pointer x1, .string (ByteArray.mk #[10])] (fun e w24 => ∃ (r23_0 : Int), ∃ (r23_1 : Value), e = .returned (.tuple #[.int .i64 r23_0, r23_1]) ∧
 Xa x0 x1 x35q x35n x35c x36 (IntKind.i64.wrap (x37 + 1)) w24) w22)
 (Xa x0 x1 x35q x35n x35c x36 (IntKind.i64.wrap (x37 + 1)) w22))
 (Xa x0 x1 x35q x35n x35c x36 (IntKind.i64.wrap (x37 + 1)) w18)) w)
 (callE P i_bytes_Buffer_WriteString #[.pointer x1, .string (ByteArray.mk #[60, 47, 108, 105, 62, 10])] (fun e w26 => ∃ (r25_0 : Int), ∃ (r25_1 : Value), e = .returned (.tuple #[.int .i64 r25_0, r25_1]) ∧
 R (.returned (.tuple #[])) w26) w)
def l1 (R : EP) (x0 : OA) (x1 : OA) (x35q : OA) (x35n : Nat) (x35c : Nat) (x36 : Int) (x37 : Int) (w : World) : Prop :=
  ∀ X : OA → OA → OA → Nat → Nat → Int → Int → WP, (∀ x0 x1 x35q x35n x35c x36 x37 w, bl1 R X x0 x1 x35q x35n x35c x36 x37 w → X x0 x1 x35q x35n x35c x36 x37 w) → X x0 x1 x35q x35n x35c x36 x37 w

noncomputable def al1 (R : EP) (Xa : OA → OA → OA → Nat → Nat → Int → Int → WP) : AC :=
  (.leaf (sel [1, 1, 0, 1, 0, 0] body))
def k1 (R : EP) (x0 : OA) (x1 : OA) (w : World) : Prop :=
 nilP x0 fun a13 =>
 ∃ (v14q : OA), ∃ (v14n : Nat), ∃ (v14c : Nat), w.cell? (a13.add 2) = some (.slice v14q v14n v14c) ∧
 l1 R x0 x1 v14q v14n v14c (v14n : Int) 0 w

end g_Item_PrintHTML
def g_Item_PrintHTML (R : EP) (x0 : OA) (x1 : OA) (w : World) : Prop :=
 callE P i_bytes_Buffer_WriteString #[.pointer x1, .string (ByteArray.mk #[60, 108, 105, 62])] (fun e w2 => ∃ (r1_0 : Int), ∃ (r1_1 : Value), e = .returned (.tuple #[.int .i64 r1_0, r1_1]) ∧
 nilP x0 fun a3 =>
 ∃ (v4q : OA), ∃ (v4n : Nat), ∃ (v4c : Nat), w2.cell? (a3.add 2) = some (.slice v4q v4n v4c) ∧
 br (decide ((v4n : Int) > 0))
 (nilP x0 fun a5 =>
 ∃ (v6q : OA), ∃ (v6n : Nat), ∃ (v6c : Nat), w2.cell? (a5.add 2) = some (.slice v6q v6n v6c) ∧
 0 ≤ (0 : Int) ∧ 0 < (v6n : Int) ∧
 nilP v6q fun a7 =>
 ∃ (v8 : Value), w2.cell? (a7.add (Int.toNat 0 * 1)) = some v8 ∧
 ∃ (r9_0 : OA), ∃ (r9_1 : Bool), ∃ w10, (Instr.typeAssert v8 ty_Block ty_P_Text true).run P w2 = .ok (.tuple #[.pointer r9_0, .bool r9_1]) w10 ∧
 br (!r9_1)
 (callE P i_bytes_Buffer_WriteString #[.pointer x1, .string (ByteArray.mk #[10])] (fun e w12 => ∃ (r11_0 : Int), ∃ (r11_1 : Value), e = .returned (.tuple #[.int .i64 r11_0, r11_1]) ∧
 g_Item_PrintHTML.k1 R x0 x1 w12) w10)
 (g_Item_PrintHTML.k1 R x0 x1 w10))
 (g_Item_PrintHTML.k1 R x0 x1 w2)) w

noncomputable def g_Item_PrintHTML.ac (R : EP) : AC :=
  (.seq (.leaf (sel [0] g_Item_PrintHTML.body)) (.seq (.leaf (sel [1, 0] g_Item_PrintHTML.body)) (.mark (leaf [(0, .s .ptr), (1, .s .ptr)] (g_Item_PrintHTML.k1 R)) (.seq (.seq (.leaf (sel [1, 1, 0, 0] g_Item_PrintHTML.body)) (.block 0 (.loop (leaf [(0, .s .ptr), (1, .s .ptr), (35, .s .slice), (36, .s (.int .i64)), (37, .s (.int .i64))] (g_Item_PrintHTML.l1 R)) (sel [1, 1, 0, 1, 0, 0] g_Item_PrintHTML.body)))) (.leaf (sel [1, 1, 1] g_Item_PrintHTML.body))))))
theorem g_Item_PrintHTML.good (R : EP) : Good P 64 (g_Item_PrintHTML.ac R) (QF P [] R) :=
  ⟨trivial, ⟨trivial, ⟨⟨⟨trivial, (loopG (g_Item_PrintHTML.al1 R) (g_Item_PrintHTML.bl1 R) (fun _ => by kernel_rfl) (fun Xa => trivial) (fun Xa => by intro x0 x1 x35q x35n x35c x36 x37 ρ w; kernel_rfl) (fun X h _ _ _ _ _ _ _ _ g => g X h))⟩, trivial⟩, cutE (by intro x0 x1 ρ w; kernel_rfl)⟩⟩⟩
theorem g_Item_PrintHTML.eq (R : EP) (x0 : OA) (x1 : OA) (w : World) : g_Item_PrintHTML R x0 x1 w = vcA P 64 (g_Item_PrintHTML.ac R) (QF P [] R) (fr0 [.pointer x0, .pointer x1]) w := by kernel_rfl
theorem g_Item_PrintHTML.sound {R : EP} {x0 : OA} {x1 : OA} {w : World} (h : g_Item_PrintHTML R x0 x1 w) : callE P i_Item_PrintHTML #[.pointer x0, .pointer x1] R w :=
  callE_fin (c := g_Item_PrintHTML.body) Tryz.func261 Tryz.call261 (by kernel_rfl) (by kernel_rfl) (by kernel_rfl) (by kernel_rfl) (by kernel_rfl) (g_Item_PrintHTML.good R) (g_Item_PrintHTML.eq R x0 x1 w) h
namespace g_List_PrintHTML
noncomputable def body : Code := bodyOf Tryz.f232
def k3 (R : EP) (x1 : OA) (x62 : Bool) (w : World) : Prop :=
 br x62
 (callE P i_bytes_Buffer_WriteString #[.pointer x1, .string (ByteArray.mk #[60, 47, 111, 108, 62, 10])] (fun e w32 => ∃ (r31_0 : Int), ∃ (r31_1 : Value), e = .returned (.tuple #[.int .i64 r31_0, r31_1]) ∧
 R (.returned (.tuple #[])) w32) w)
 (callE P i_bytes_Buffer_WriteString #[.pointer x1, .string (ByteArray.mk #[60, 47, 117, 108, 62, 10])] (fun e w34 => ∃ (r33_0 : Int), ∃ (r33_1 : Value), e = .returned (.tuple #[.int .i64 r33_0, r33_1]) ∧
 R (.returned (.tuple #[])) w34) w)

def bl1 (R : EP) (Xa : OA → OA → OA → Nat → Nat → Int → Int → WP) (x0 : OA) (x1 : OA) (x41q : OA) (x41n : Nat) (x41c : Nat) (x42 : Int) (x43 : Int) (w : World) : Prop :=
 br (decide (x43 < x42))
 (0 ≤ x43 ∧ x43 < (x41n : Int) ∧
 nilP x41q fun a23 =>
 ∃ (v24 : Value), w.cell? (a23.add (Int.toNat x43 * 1)) = some v24 ∧
 enterE P (callMethod v24 "PrintHTML" #[.pointer x1]) (fun e w26 => e = .returned (.tuple #[]) ∧
 Xa x0 x1 x41q x41n x41c x42 (IntKind.i64.wrap (x43 + 1)) w26) w)
 (nilP x0 fun a27 =>
 ∃ (v28 : Int), w.cell? (a27.add 2) = some (.int .i32 v28) ∧
 br (v28 == 46)
 (k3 R x1 true w)
 (nilP x0 fun a29 =>
 ∃ (v30 : Int), w.cell? (a29.add 2) = some (.int .i32 v30) ∧
 k3 R x1 (v30 == 41) w))
def l1 (R : EP) (x0 : OA) (x1 : OA) (x41q : OA) (x41n : Nat) (x41c : Nat) (x42 : Int) (x43 : Int) (w : World) : Prop :=
  ∀ X : OA → OA → OA → Nat → Nat → Int → Int → WP, (∀ x0 x1 x41q x41n x41c x42 x43 w, bl1 R X x0 x1 x41q x41n x41c x42 x43 w → X x0 x1 x41q x41n x41c x42 x43 w) → X x0 x1 x41q x41n x41c x42 x43 w

noncomputable def al1 (R : EP) (Xa : OA → OA → OA → Nat → Nat → Int → Int → WP) : AC :=
  (.leaf (sel [1, 0, 1, 0, 0] body))
def k2 (R : EP) (x0 : OA) (x1 : OA) (w : World) : Prop :=
 nilP x0 fun a21 =>
 ∃ (v22q : OA), ∃ (v22n : Nat), ∃ (v22c : Nat), w.cell? (a21.add 5) = some (.slice v22q v22n v22c) ∧
 l1 R x0 x1 v22q v22n v22c (v22n : Int) 0 w

def k1 (R : EP) (x0 : OA) (x1 : OA) (x17 : Bool) (w : World) : Prop :=
 br x17
 (callE P i_bytes_Buffer_WriteString #[.pointer x1, .string (ByteArray.mk #[60, 111, 108])] (fun e w6 => ∃ (r5_0 : Int), ∃ (r5_1 : Value), e = .returned (.tuple #[.int .i64 r5_0, r5_1]) ∧
 nilP x0 fun a7 =>
 ∃ (v8 : Int), w6.cell? (a7.add 3) = some (.int .i64 v8) ∧
 br (v8 != 1)
 (nilP x0 fun a9 =>
 ∃ (v10 : Int), w6.cell? (a9.add 3) = some (.int .i64 v10) ∧
 callE P i_strconv_Itoa #[.int .i64 v10] (fun e w12 => ∃ (r11 : BA), e = .returned (.string r11) ∧
 (((ByteArray.mk #[32, 115, 116, 97, 114, 116, 61, 34]).size + r11.size : Nat) : Int) ≤ IntKind.i64.max ∧
 ((((ByteArray.mk #[32, 115, 116, 97, 114, 116, 61, 34]) ++ r11).size + (ByteArray.mk #[34]).size : Nat) : Int) ≤ IntKind.i64.max ∧
 callE P i_bytes_Buffer_WriteString #[.pointer x1, .string (((ByteArray.mk #[32, 115, 116, 97, 114, 116, 61, 34]) ++ r11) ++ (ByteArray.mk #[34]))] (fun e w14 => ∃ (r13_0 : Int), ∃ (r13_1 : Value), e = .returned (.tuple #[.int .i64 r13_0, r13_1]) ∧
 callE P i_bytes_Buffer_WriteString #[.pointer x1, .string (ByteArray.mk #[62, 10])] (fun e w16 => ∃ (r15_0 : Int), ∃ (r15_1 : Value), e = .returned (.tuple #[.int .i64 r15_0, r15_1]) ∧
 k2 R x0 x1 w16) w14) w12) w6)
 (callE P i_bytes_Buffer_WriteString #[.pointer x1, .string (ByteArray.mk #[62, 10])] (fun e w18 => ∃ (r17_0 : Int), ∃ (r17_1 : Value), e = .returned (.tuple #[.int .i64 r17_0, r17_1]) ∧
 k2 R x0 x1 w18) w6)) w)
 (callE P i_bytes_Buffer_WriteString #[.pointer x1, .string (ByteArray.mk #[60, 117, 108, 62, 10])] (fun e w20 => ∃ (r19_0 : Int), ∃ (r19_1 : Value), e = .returned (.tuple #[.int .i64 r19_0, r19_1]) ∧
 k2 R x0 x1 w20) w)

end g_List_PrintHTML
def g_List_PrintHTML (R : EP) (x0 : OA) (x1 : OA) (w : World) : Prop :=
 nilP x0 fun a1 =>
 ∃ (v2 : Int), w.cell? (a1.add 2) = some (.int .i32 v2) ∧
 br (v2 == 46)
 (g_List_PrintHTML.k1 R x0 x1 true w)
 (nilP x0 fun a3 =>
 ∃ (v4 : Int), w.cell? (a3.add 2) = some (.int .i32 v4) ∧
 g_List_PrintHTML.k1 R x0 x1 (v4 == 41) w)

noncomputable def g_List_PrintHTML.ac (R : EP) : AC :=
  (.seq (.seq (.leaf (sel [0, 0] g_List_PrintHTML.body)) (.mark (leaf [(0, .s .ptr), (1, .s .ptr), (17, .s .bool)] (g_List_PrintHTML.k1 R)) (.leaf (sel [0, 1] g_List_PrintHTML.body)))) (.mark (leaf [(0, .s .ptr), (1, .s .ptr)] (g_List_PrintHTML.k2 R)) (.seq (.seq (.leaf (sel [1, 0, 0] g_List_PrintHTML.body)) (.block 0 (.loop (leaf [(0, .s .ptr), (1, .s .ptr), (41, .s .slice), (42, .s (.int .i64)), (43, .s (.int .i64))] (g_List_PrintHTML.l1 R)) (sel [1, 0, 1, 0, 0] g_List_PrintHTML.body)))) (.seq (.leaf (sel [1, 1, 0] g_List_PrintHTML.body)) (.mark (leaf [(1, .s .ptr), (62, .s .bool)] (g_List_PrintHTML.k3 R)) (.leaf (sel [1, 1, 1] g_List_PrintHTML.body)))))))
theorem g_List_PrintHTML.good (R : EP) : Good P 67 (g_List_PrintHTML.ac R) (QF P [] R) :=
  ⟨⟨trivial, ⟨trivial, cutE (by intro x0 x1 x17 ρ w; kernel_rfl)⟩⟩, ⟨⟨⟨trivial, (loopG (g_List_PrintHTML.al1 R) (g_List_PrintHTML.bl1 R) (fun _ => by kernel_rfl) (fun Xa => trivial) (fun Xa => by intro x0 x1 x41q x41n x41c x42 x43 ρ w; kernel_rfl) (fun X h _ _ _ _ _ _ _ _ g => g X h))⟩, ⟨trivial, ⟨trivial, cutE (by intro x1 x62 ρ w; kernel_rfl)⟩⟩⟩, cutE (by intro x0 x1 ρ w; kernel_rfl)⟩⟩
theorem g_List_PrintHTML.eq (R : EP) (x0 : OA) (x1 : OA) (w : World) : g_List_PrintHTML R x0 x1 w = vcA P 67 (g_List_PrintHTML.ac R) (QF P [] R) (fr0 [.pointer x0, .pointer x1]) w := by kernel_rfl
theorem g_List_PrintHTML.sound {R : EP} {x0 : OA} {x1 : OA} {w : World} (h : g_List_PrintHTML R x0 x1 w) : callE P i_List_PrintHTML #[.pointer x0, .pointer x1] R w :=
  callE_fin (c := g_List_PrintHTML.body) Tryz.func232 Tryz.call232 (by kernel_rfl) (by kernel_rfl) (by kernel_rfl) (by kernel_rfl) (by kernel_rfl) (g_List_PrintHTML.good R) (g_List_PrintHTML.eq R x0 x1 w) h
namespace g_listBuilder_build
noncomputable def body : Code := bodyOf Tryz.f316
def k3 (R : EP) (x0 : OA) (x1 : Value) (x6 : Nat) (w : World) : Prop :=
 tk w fun w37 =>
 nilP x0 fun a38 =>
 nilP x0 fun a39 =>
 nilP x0 fun a40 =>
 ∃ (v41 : Int), w37.cell? ⟨x6, 0, none⟩ = some (.int .i64 v41) ∧
 ∃ (v42 : Int), w37.cell? ⟨x6, 1, none⟩ = some (.int .i64 v42) ∧
 ∃ (v43 : Int), w37.cell? a38 = some (.int .i32 v43) ∧
 ∃ (v44 : Int), w37.cell? (a39.add 1) = some (.int .i64 v44) ∧
 ∃ (v45 : Bool), w37.cell? (a40.add 2) = some (.bool v45) ∧
 enterE P (callMethod x1 "pub-paratext/pub/rscmarkdown.blocks" #[]) (fun e w47 => ∃ (r46q : OA), ∃ (r46n : Nat), ∃ (r46c : Nat), e = .returned (.slice r46q r46n r46c) ∧
 SameC w37 w47 (a40.add 2) 1 ∧
 SameC w37 w47 (a39.add 1) 1 ∧
 SameC w37 w47 (a38) 1 ∧
 SameC w37 w47 ⟨x6, 0, none⟩ 2 ∧
 box w47 #[.int .i64 v41, .int .i64 v42, .int .i32 v43, .int .i64 v44, .bool v45, .slice r46q r46n r46c] ty_List fun b48 w49 =>
 R (.returned (.iface ty_P_List (.pointer (some ⟨b48, 0, none⟩)))) w49) w37

def bl4 (R : EP) (Xa : OA → Value → Nat → OA → Nat → Nat → Int → Int → WP) (Xb : OA → Value → Nat → OA → OA → Nat → Nat → Int → Int → OA → Nat → Nat → Int → Int → WP) (x0 : OA) (x1 : Value) (x6 : Nat) (x15 : OA) (x108q : OA) (x108n : Nat) (x108c : Nat) (x109 : Int) (x110 : Int) (x119q : OA) (x119n : Nat) (x119c : Nat) (x120 : Int) (x121 : Int) (w : World) : Prop :=
 br (decide (x121 < x120))
 (0 ≤ x121 ∧ x121 < (x119n : Int) ∧
 nilP x119q fun a64 =>
 ∃ (v65 : Value), w.cell? (a64.add (Int.toNat x121 * 1)) = some v65 ∧
 ∃ (r66_0 : OA), ∃ (r66_1 : Bool), ∃ w67, (Instr.typeAssert v65 ty_Block ty_P_Paragraph true).run P w = .ok (.tuple #[.pointer r66_0, .bool r66_1]) w67 ∧
 br r66_1
 (tk w67 fun w68 =>
 nilP x15 fun a69 =>
 nilP r66_0 fun a70 =>
 ∃ (v71q : OA), ∃ (v71n : Nat), ∃ (v71c : Nat), w68.cell? (a69.add 2) = some (.slice v71q v71n v71c) ∧
 ∃ (v72 : OA), w68.cell? (a70.add 2) = some (.pointer v72) ∧
 0 ≤ x121 ∧ x121 < (v71n : Int) ∧
 nilP v71q fun a73 =>
 stV w68 ((a73.add (Int.toNat x121 * 1)).add 0) (.iface ty_P_Text (.pointer v72)) fun w74 =>
 Xb x0 x1 x6 x15 x108q x108n x108c x109 x110 x119q x119n x119c x120 (IntKind.i64.wrap (x121 + 1)) w74)
 (Xb x0 x1 x6 x15 x108q x108n x108c x109 x110 x119q x119n x119c x120 (IntKind.i64.wrap (x121 + 1)) w67))
 (Xa x0 x1 x6 x108q x108n x108c x109 (IntKind.i64.wrap (x110 + 1)) w)
def l4 (R : EP) (Xa : OA → Value → Nat → OA → Nat → Nat → Int → Int → WP) (x0 : OA) (x1 : Value) (x6 : Nat) (x15 : OA) (x108q : OA) (x108n : Nat) (x108c : Nat) (x109 : Int) (x110 : Int) (x119q : OA) (x119n : Nat) (x119c : Nat) (x120 : Int) (x121 : Int) (w : World) : Prop :=
  ∀ X : OA → Value → Nat → OA → OA → Nat → Nat → Int → Int → OA → Nat → Nat → Int → Int → WP, (∀ x0 x1 x6 x15 x108q x108n x108c x109 x110 x119q x119n x119c x120 x121 w, bl4 R Xa X x0 x1 x6 x15 x108q x108n x108c x109 x110 x119q x119n x119c x120 x121 w → X x0 x1 x6 x15 x108q x108n x108c x109 x110 x119q x119n x119c x120 x121 w) → X x0 x1 x6 x15 x108q x108n x108c x109 x110 x119q x119n x119c x120 x121 w

noncomputable def al4 (R : EP) (Xa : OA → Value → Nat → OA → Nat → Nat → Int → Int → WP) (Xb : OA → Value → Nat → OA → OA → Nat → Nat → Int → Int → OA → Nat → Nat → Int → Int → WP) : AC :=
  (.seq (.leaf (sel [1, 0, 1, 1, 1, 1, 1, 0, 1, 0, 1, 0, 0, 1, 1, 0, 0, 1, 1, 1, 0, 0, 0] body)) (.seq (.leaf (sel [1, 0, 1, 1, 1, 1, 1, 0, 1, 0, 1, 0, 0, 1, 1, 0, 0, 1, 1, 1, 0, 0, 1, 0] body)) (.seq (.block 7 (.seq (.leaf (sel [1, 0, 1, 1, 1, 1, 1, 0, 1, 0, 1, 0, 0, 1, 1, 0, 0, 1, 1, 1, 0, 0, 1, 1, 0, 0, 0] body)) (.seq (.leaf (sel [1, 0, 1, 1, 1, 1, 1, 0, 1, 0, 1, 0, 0, 1, 1, 0, 0, 1, 1, 1, 0, 0, 1, 1, 0, 0, 1, 0] body)) (.seq (.leaf (sel [1, 0, 1, 1, 1, 1, 1, 0, 1, 0, 1, 0, 0, 1, 1, 0, 0, 1, 1, 1, 0, 0, 1, 1, 0, 0, 1, 1, 0] body)) (.cond 131 (.draw (.pure 0 (.pure 1 (.pure 2 (.pure 4 (.pure 5 (.pure 6 (.pure 7 (.load 3 (.load 8 (.pure 9 (.pure 10 (.one 11 .done)))))))))))) (sel [1, 0, 1, 1, 1, 1, 1, 0, 1, 0, 1, 0, 0, 1, 1, 0, 0, 1, 1, 1, 0, 0, 1, 1, 0, 0, 1, 1, 1, 0] body)) (.leaf (sel [1, 0, 1, 1, 1, 1, 1, 0, 1, 0, 1, 0, 0, 1, 1, 0, 0, 1, 1, 1, 0, 0, 1, 1, 0, 0, 1, 1, 1, 1] body))))))) (.leaf (sel [1, 0, 1, 1, 1, 1, 1, 0, 1, 0, 1, 0, 0, 1, 1, 0, 0, 1, 1, 1, 0, 0, 1, 1, 1] body)))))
def bl2 (R : EP) (Xa : OA → Value → Nat → OA → Nat → Nat → Int → Int → WP) (x0 : OA) (x1 : Value) (x6 : Nat) (x108q : OA) (x108n : Nat) (x108c : Nat) (x109 : Int) (x110 : Int) (w : World) : Prop :=
 br (decide (x110 < x109))
 (0 ≤ x110 ∧ x110 < (x108n : Int) ∧
 nilP x108q fun a31 =>
 ∃ (v32 : Value), w.cell? (a31.add (Int.toNat x110 * 1)) = some v32 ∧
 ∃ (r33 : OA), ∃ w34, (Instr.typeAssert v32 ty_Block ty_P_Item false).run P w = .ok (.pointer r33) w34 ∧
 nilP r33 fun a35 =>
 ∃ (v36q : OA), ∃ (v36n : Nat), ∃ (v36c : Nat), w34.cell? (a35.add 2) = some (.slice v36q v36n v36c) ∧
 l4 R Xa x0 x1 x6 r33 x108q x108n x108c x109 x110 v36q v36n v36c (v36n : Int) 0 w34)
 (k3 R x0 x1 x6 w)
def l2 (R : EP) (x0 : OA) (x1 : Value) (x6 : Nat) (x108q : OA) (x108n : Nat) (x108c : Nat) (x109 : Int) (x110 : Int) (w : World) : Prop :=
  ∀ X : OA → Value → Nat → OA → Nat → Nat → Int → Int → WP, (∀ x0 x1 x6 x108q x108n x108c x109 x110 w, bl2 R X x0 x1 x6 x108q x108n x108c x109 x110 w → X x0 x1 x6 x108q x108n x108c x109 x110 w) → X x0 x1 x6 x108q x108n x108c x109 x110 w

noncomputable def al2 (R : EP) (Xa : OA → Value → Nat → OA → Nat → Nat → Int → Int → WP) : AC :=
  (.seq (.leaf (sel [1, 0, 1, 1, 1, 1, 1, 0, 1, 0, 1, 0, 0, 0] body)) (.seq (.leaf (sel [1, 0, 1, 1, 1, 1, 1, 0, 1, 0, 1, 0, 0, 1, 0] body)) (.seq (.block 5 (.seq (.leaf (sel [1, 0, 1, 1, 1, 1, 1, 0, 1, 0, 1, 0, 0, 1, 1, 0, 0, 0] body)) (.seq (.leaf (sel [1, 0, 1, 1, 1, 1, 1, 0, 1, 0, 1, 0, 0, 1, 1, 0, 0, 1, 0] body)) (.seq (.leaf (sel [1, 0, 1, 1, 1, 1, 1, 0, 1, 0, 1, 0, 0, 1, 1, 0, 0, 1, 1, 0] body)) (.block 6 (.loop (leaf [(0, .s .ptr), (1, .s .any), (6, .s .loc), (15, .s .ptr), (108, .s .slice), (109, .s (.int .i64)), (110, .s (.int .i64)), (119, .s .slice), (120, .s (.int .i64)), (121, .s (.int .i64))] (l4 R Xa)) (sel [1, 0, 1, 1, 1, 1, 1, 0, 1, 0, 1, 0, 0, 1, 1, 0, 0, 1, 1, 1, 0, 0] body))))))) (.leaf (sel [1, 0, 1, 1, 1, 1, 1, 0, 1, 0, 1, 0, 0, 1, 1, 1] body)))))
def k1 (R : EP) (x0 : OA) (x1 : Value) (x5q : OA) (x5n : Nat) (x5c : Nat) (x6 : Nat) (w : World) : Prop :=
 nilP x0 fun a27 =>
 ∃ (v28 : Bool), w.cell? (a27.add 2) = some (.bool v28) ∧
 br (!v28)
 (l2 R x0 x1 x6 x5q x5n x5c (x5n : Int) 0 w)
 (k3 R x0 x1 x6 w)

def bl3 (R : EP) (Xc : OA → Value → OA → Nat → Nat → Nat → OA → Nat → Nat → Int → Int → WP) (Xd : OA → Value → OA → Nat → Nat → Nat → OA → OA → Nat → Nat → Int → Int → OA → Nat → Nat → Int → Int → WP) (x0 : OA) (x1 : Value) (x5q : OA) (x5n : Nat) (x5c : Nat) (x6 : Nat) (x9 : OA) (x33q : OA) (x33n : Nat) (x33c : Nat) (x34 : Int) (x35 : Int) (x67q : OA) (x67n : Nat) (x67c : Nat) (x68 : Int) (x69 : Int) (w : World) : Prop :=
 br (decide (x69 < x68))
 (0 ≤ x69 ∧ x69 < (x67n : Int) ∧
 nilP x67q fun a50 =>
 ∃ (v51 : Value), w.cell? (a50.add (Int.toNat x69 * 1)) = some v51 ∧
 enterE P (callMethod v51 "Pos" #[]) (fun e w53 => ∃ (r52_0 : Int), ∃ (r52_1 : Int), e = .returned (.agg #[.int .i64 r52_0, .int .i64 r52_1]) ∧
 nilP x9 fun a54 =>
 ∃ (v55q : OA), ∃ (v55n : Nat), ∃ (v55c : Nat), w53.cell? (a54.add 2) = some (.slice v55q v55n v55c) ∧
 br (decide ((IntKind.i64.wrap (x69 + 1)) < (v55n : Int)))
 (nilP x9 fun a56 =>
 ∃ (v57q : OA), ∃ (v57n : Nat), ∃ (v57c : Nat), w53.cell? (a56.add 2) = some (.slice v57q v57n v57c) ∧
 0 ≤ (IntKind.i64.wrap (x69 + 1)) ∧ (IntKind.i64.wrap (x69 + 1)) < (v57n : Int) ∧
 nilP v57q fun a58 =>
 ∃ (v59 : Value), w53.cell? (a58.add (Int.toNat (IntKind.i64.wrap (x69 + 1)) * 1)) = some v59 ∧
 enterE P (callMethod v59 "Pos" #[]) (fun e w61 => ∃ (r60_0 : Int), ∃ (r60_1 : Int), e = .returned (.agg #[.int .i64 r60_0, .int .i64 r60_1]) ∧
 br (decide ((IntKind.i64.wrap (r60_0 - r52_1)) > 1))
 (nilP x0 fun a62 =>
 stV w61 ((a62.add 2).add 0) (.bool true) fun w63 =>
 k1 R x0 x1 x5q x5n x5c x6 w63)
 (Xd x0 x1 x5q x5n x5c x6 x9 x33q x33n x33c x34 x35 x67q x67n x67c x68 (IntKind.i64.wrap (x69 + 1)) w61)) w53)
 (Xd x0 x1 x5q x5n x5c x6 x9 x33q x33n x33c x34 x35 x67q x67n x67c x68 (IntKind.i64.wrap (x69 + 1)) w53)) w)
 (Xc x0 x1 x5q x5n x5c x6 x33q x33n x33c x34 (IntKind.i64.wrap (x35 + 1)) w)
def l3 (R : EP) (Xc : OA → Value → OA → Nat → Nat → Nat → OA → Nat → Nat → Int → Int → WP) (x0 : OA) (x1 : Value) (x5q : OA) (x5n : Nat) (x5c : Nat) (x6 : Nat) (x9 : OA) (x33q : OA) (x33n : Nat) (x33c : Nat) (x34 : Int) (x35 : Int) (x67q : OA) (x67n : Nat) (x67c : Nat) (x68 : Int) (x69 : Int) (w : World) : Prop :=
  ∀ X : OA → Value → OA → Nat → Nat → Nat → OA → OA → Nat → Nat → Int → Int → OA → Nat → Nat → Int → Int → WP, (∀ x0 x1 x5q x5n x5c x6 x9 x33q x33n x33c x34 x35 x67q x67n x67c x68 x69 w, bl3 R Xc X x0 x1 x5q x5n x5c x6 x9 x33q x33n x33c x34 x35 x67q x67n x67c x68 x69 w → X x0 x1 x5q x5n x5c x6 x9 x33q x33n x33c x34 x35 x67q x67n x67c x68 x69 w) → X x0 x1 x5q x5n x5c x6 x9 x33q x33n x33c x34 x35 x67q x67n x67c x68 x69 w

noncomputable def al3 (R : EP) (Xc : OA → Value → OA → Nat → Nat → Nat → OA → Nat → Nat → Int → Int → WP) (Xd : OA → Value → OA → Nat → Nat → Nat → OA → OA → Nat → Nat → Int → Int → OA → Nat → Nat → Int → Int → WP) : AC :=
  (.leaf (sel [1, 0, 1, 1, 1, 1, 0, 1, 0, 0, 1, 1, 0, 0, 1, 1, 1, 1, 0, 0] body))
def k2 (R : EP) (Xc : OA → Value → OA → Nat → Nat → Nat → OA → Nat → Nat → Int → Int → WP) (x0 : OA) (x1 : Value) (x5q : OA) (x5n : Nat) (x5c : Nat) (x6 : Nat) (x9 : OA) (x33q : OA) (x33n : Nat) (x33c : Nat) (x34 : Int) (x35 : Int) (w : World) : Prop :=
 nilP x9 fun a29 =>
 ∃ (v30q : OA), ∃ (v30n : Nat), ∃ (v30c : Nat), w.cell? (a29.add 2) = some (.slice v30q v30n v30c) ∧
 l3 R Xc x0 x1 x5q x5n x5c x6 x9 x33q x33n x33c x34 x35 v30q v30n v30c (v30n : Int) 0 w

def bl1 (R : EP) (Xc : OA → Value → OA → Nat → Nat → Nat → OA → Nat → Nat → Int → Int → WP) (x0 : OA) (x1 : Value) (x5q : OA) (x5n : Nat) (x5c : Nat) (x6 : Nat) (x33q : OA) (x33n : Nat) (x33c : Nat) (x34 : Int) (x35 : Int) (w : World) : Prop :=
 br (decide (x35 < x34))
 (0 ≤ x35 ∧ x35 < (x33n : Int) ∧
 nilP x33q fun a14 =>
 ∃ (v15 : Value), w.cell? (a14.add (Int.toNat x35 * 1)) = some v15 ∧
 ∃ (r16 : OA), ∃ w17, (Instr.typeAssert v15 ty_Block ty_P_Item false).run P w = .ok (.pointer r16) w17 ∧
 br (decide ((IntKind.i64.wrap (x35 + 1)) < (x5n : Int)))
 (tk w17 fun w18 =>
 0 ≤ (IntKind.i64.wrap (x35 + 1)) ∧ (IntKind.i64.wrap (x35 + 1)) < (x5n : Int) ∧
 nilP x5q fun a19 =>
 nilP r16 fun a20 =>
 ∃ (v21 : Value), w18.cell? (a19.add (Int.toNat (IntKind.i64.wrap (x35 + 1)) * 1)) = some v21 ∧
 ∃ (v22 : Int), w18.cell? (a20.add 1) = some (.int .i64 v22) ∧
 enterE P (callMethod v21 "Pos" #[]) (fun e w24 => ∃ (r23_0 : Int), ∃ (r23_1 : Int), e = .returned (.agg #[.int .i64 r23_0, .int .i64 r23_1]) ∧
 SameC w18 w24 (a20.add 1) 1 ∧
 br (decide ((IntKind.i64.wrap (r23_0 - v22)) > 1))
 (nilP x0 fun a25 =>
 stV w24 ((a25.add 2).add 0) (.bool true) fun w26 =>
 k1 R x0 x1 x5q x5n x5c x6 w26)
 (k2 R Xc x0 x1 x5q x5n x5c x6 r16 x33q x33n x33c x34 x35 w24)) w18)
 (k2 R Xc x0 x1 x5q x5n x5c x6 r16 x33q x33n x33c x34 x35 w17))
 (k1 R x0 x1 x5q x5n x5c x6 w)
def l1 (R : EP) (x0 : OA) (x1 : Value) (x5q : OA) (x5n : Nat) (x5c : Nat) (x6 : Nat) (x33q : OA) (x33n : Nat) (x33c : Nat) (x34 : Int) (x35 : Int) (w : World) : Prop :=
  ∀ X : OA → Value → OA → Nat → Nat → Nat → OA → Nat → Nat → Int → Int → WP, (∀ x0 x1 x5q x5n x5c x6 x33q x33n x33c x34 x35 w, bl1 R X x0 x1 x5q x5n x5c x6 x33q x33n x33c x34 x35 w → X x0 x1 x5q x5n x5c x6 x33q x33n x33c x34 x35 w) → X x0 x1 x5q x5n x5c x6 x33q x33n x33c x34 x35 w

noncomputable def al1 (R : EP) (Xc : OA → Value → OA → Nat → Nat → Nat → OA → Nat → Nat → Int → Int → WP) : AC :=
  (.seq (.leaf (sel [1, 0, 1, 1, 1, 1, 0, 1, 0, 0, 0] body)) (.seq (.leaf (sel [1, 0, 1, 1, 1, 1, 0, 1, 0, 0, 1, 0] body)) (.seq (.block 1 (.seq (.leaf (sel [1, 0, 1, 1, 1, 1, 0, 1, 0, 0, 1, 1, 0, 0, 0] body)) (.seq (.leaf (sel [1, 0, 1, 1, 1, 1, 0, 1, 0, 0, 1, 1, 0, 0, 1, 0] body)) (.seq (.seq (.leaf (sel [1, 0, 1, 1, 1, 1, 0, 1, 0, 0, 1, 1, 0, 0, 1, 1, 0, 0] body)) (.cond 46 (.seq (.draw (.pure 0 (.pure 1 (.pure 2 (.pure 3 (.pure 7 (.pure 8 (.pure 9 (.pure 10 (.load 4 (.load 11 (.one 5 (.pure 6 (.pure 12 (.pure 13 .done)))))))))))))) (sel [1, 0, 1, 1, 1, 1, 0, 1, 0, 0, 1, 1, 0, 0, 1, 1, 0, 1, 0, 0] body)) (.leaf (sel [1, 0, 1, 1, 1, 1, 0, 1, 0, 0, 1, 1, 0, 0, 1, 1, 0, 1, 0, 1] body))) (.leaf (sel [1, 0, 1, 1, 1, 1, 0, 1, 0, 0, 1, 1, 0, 0, 1, 1, 0, 1, 1] body)))) (.mark (leaf [(0, .s .ptr), (1, .s .any), (5, .s .slice), (6, .s .loc), (9, .s .ptr), (33, .s .slice), (34, .s (.int .i64)), (35, .s (.int .i64))] (k2 R Xc)) (.seq (.leaf (sel [1, 0, 1, 1, 1, 1, 0, 1, 0, 0, 1, 1, 0, 0, 1, 1, 1, 0] body)) (.block 2 (.loop (leaf [(0, .s .ptr), (1, .s .any), (5, .s .slice), (6, .s .loc), (9, .s .ptr), (33, .s .slice), (34, .s (.int .i64)), (35, .s (.int .i64)), (67, .s .slice), (68, .s (.int .i64)), (69, .s (.int .i64))] (l3 R Xc)) (sel [1, 0, 1, 1, 1, 1, 0, 1, 0, 0, 1, 1, 0, 0, 1, 1, 1, 1, 0, 0] body))))))))) (.leaf (sel [1, 0, 1, 1, 1, 1, 0, 1, 0, 0, 1, 1, 1] body)))))
end g_listBuilder_build
def g_listBuilder_build (R : EP) (x0 : OA) (x1 : Value) (w : World) : Prop :=
 enterE P (callMethod x1 "pub-paratext/pub/rscmarkdown.blocks" #[]) (fun e w2 => ∃ (r1q : OA), ∃ (r1n : Nat), ∃ (r1c : Nat), e = .returned (.slice r1q r1n r1c) ∧
 enterE P (callMethod x1 "pub-paratext/pub/rscmarkdown.pos" #[]) (fun e w4 => ∃ (r3_0 : Int), ∃ (r3_1 : Int), e = .returned (.agg #[.int .i64 r3_0, .int .i64 r3_1]) ∧
 box w4 #[.int .i64 0, .int .i64 0] ty_Position fun b5 w6 =>
 stV w6 ⟨b5, 0, none⟩ (.int .i64 r3_0) fun w7 =>
 stV w7 ⟨b5, 1, none⟩ (.int .i64 r3_1) fun w8 =>
 0 ≤ (IntKind.i64.wrap ((r1n : Int) - 1)) ∧ (IntKind.i64.wrap ((r1n : Int) - 1)) < (r1n : Int) ∧
 nilP r1q fun a9 =>
 ∃ (v10 : Value), w8.cell? (a9.add (Int.toNat (IntKind.i64.wrap ((r1n : Int) - 1)) * 1)) = some v10 ∧
 enterE P (callMethod v10 "Pos" #[]) (fun e w12 => ∃ (r11_0 : Int), ∃ (r11_1 : Int), e = .returned (.agg #[.int .i64 r11_0, .int .i64 r11_1]) ∧
 stV w12 ⟨b5, 1, none⟩ (.int .i64 r11_1) fun w13 =>
 g_listBuilder_build.l1 R x0 x1 r1q r1n r1c b5 r1q r1n r1c (r1n : Int) 0 w13) w8) w2) w

noncomputable def g_listBuilder_build.ac (R : EP) : AC :=
  (.seq (.leaf (sel [0] g_listBuilder_build.body)) (.scope (.seq (.leaf (sel [1, 0, 0] g_listBuilder_build.body)) (.seq (.leaf (sel [1, 0, 1, 0] g_listBuilder_build.body)) (.seq (.leaf (sel [1, 0, 1, 1, 0] g_listBuilder_build.body)) (.seq (.leaf (sel [1, 0, 1, 1, 1, 0] g_listBuilder_build.body)) (.seq (.seq (.leaf (sel [1, 0, 1, 1, 1, 1, 0, 0] g_listBuilder_build.body)) (.block 0 (.loop (leaf [(0, .s .ptr), (1, .s .any), (5, .s .slice), (6, .s .loc), (33, .s .slice), (34, .s (.int .i64)), (35, .s (.int .i64))] (g_listBuilder_build.l1 R)) (sel [1, 0, 1, 1, 1, 1, 0, 1, 0, 0] g_listBuilder_build.body)))) (.mark (leaf [(0, .s .ptr), (1, .s .any), (5, .s .slice), (6, .s .loc)] (g_listBuilder_build.k1 R)) (.seq (.seq (.leaf (sel [1, 0, 1, 1, 1, 1, 1, 0, 0] g_listBuilder_build.body)) (.cond 107 (.seq (.leaf (sel [1, 0, 1, 1, 1, 1, 1, 0, 1, 0, 0] g_listBuilder_build.body)) (.block 4 (.loop (leaf [(0, .s .ptr), (1, .s .any), (6, .s .loc), (108, .s .slice), (109, .s (.int .i64)), (110, .s (.int .i64))] (g_listBuilder_build.l2 R)) (sel [1, 0, 1, 1, 1, 1, 1, 0, 1, 0, 1, 0, 0] g_listBuilder_build.body)))) (.leaf (sel [1, 0, 1, 1, 1, 1, 1, 0, 1, 1] g_listBuilder_build.body)))) (.mark (leaf [(0, .s .ptr), (1, .s .any), (6, .s .loc)] (g_listBuilder_build.k3 R)) (.seq (.draw (.pure 1 (.pure 2 (.pure 3 (.pure 5 (.pure 6 (.pure 7 (.pure 9 (.pure 10 (.pure 11 (.pure 13 (.load 0 (.load 4 (.load 8 (.load 12 (.one 14 (.pure 15 (.one 16 (.pure 17 (.pure 18 .done))))))))))))))))))) (sel [1, 0, 1, 1, 1, 1, 1, 1, 0] g_listBuilder_build.body)) (.leaf (sel [1, 0, 1, 1, 1, 1, 1, 1, 1] g_listBuilder_build.body)))))))))))))
theorem g_listBuilder_build.good (R : EP) : Good P 163 (g_listBuilder_build.ac R) (QF P [.tmp 4] R) :=
  ⟨trivial, ⟨trivial, ⟨trivial, ⟨trivial, ⟨trivial, ⟨⟨trivial, (loopG (g_listBuilder_build.al1 R) (g_listBuilder_build.bl1 R) (fun _ => by kernel_rfl) (fun Xc => ⟨trivial, ⟨trivial, ⟨⟨trivial, ⟨trivial, ⟨⟨trivial, ⟨⟨⟨by kernel_rfl, by kernel_rfl, fun _ _ _ h => h⟩, trivial⟩, trivial⟩⟩, ⟨⟨trivial, (loopG (g_listBuilder_build.al3 R Xc) (g_listBuilder_build.bl3 R Xc) (fun _ => by kernel_rfl) (fun Xd => trivial) (fun Xd => by intro x0 x1 x5q x5n x5c x6 x9 x33q x33n x33c x34 x35 x67q x67n x67c x68 x69 ρ w; kernel_rfl) (fun X h _ _ _ _ _ _ _ _ _ _ _ _ _ _ _ _ _ _ g => g X h))⟩, cutE (by intro x0 x1 x5q x5n x5c x6 x9 x33q x33n x33c x34 x35 ρ w; kernel_rfl)⟩⟩⟩⟩, trivial⟩⟩⟩) (fun Xc => by intro x0 x1 x5q x5n x5c x6 x33q x33n x33c x34 x35 ρ w; kernel_rfl) (fun X h _ _ _ _ _ _ _ _ _ _ _ _ g => g X h))⟩, ⟨⟨⟨trivial, ⟨⟨trivial, (loopG (g_listBuilder_build.al2 R) (g_listBuilder_build.bl2 R) (fun _ => by kernel_rfl) (fun Xa => ⟨trivial, ⟨trivial, ⟨⟨trivial, ⟨trivial, ⟨trivial, (loopG (g_listBuilder_build.al4 R Xa) (g_listBuilder_build.bl4 R Xa) (fun _ => by kernel_rfl) (fun Xb => ⟨trivial, ⟨trivial, ⟨⟨trivial, ⟨trivial, ⟨trivial, ⟨⟨by kernel_rfl, by kernel_rfl, fun _ _ _ h => h⟩, trivial⟩⟩⟩⟩, trivial⟩⟩⟩) (fun Xb => by intro x0 x1 x6 x15 x108q x108n x108c x109 x110 x119q x119n x119c x120 x121 ρ w; kernel_rfl) (fun X h _ _ _ _ _ _ _ _ _ _ _ _ _ _ _ g => g X h))⟩⟩⟩, trivial⟩⟩⟩) (fun Xa => by intro x0 x1 x6 x108q x108n x108c x109 x110 ρ w; kernel_rfl) (fun X h _ _ _ _ _ _ _ _ _ g => g X h))⟩, trivial⟩⟩, ⟨⟨⟨by kernel_rfl, by kernel_rfl, fun _ _ _ h => h⟩, trivial⟩, cutE (by intro x0 x1 x6 ρ w; kernel_rfl)⟩⟩, cutE (by intro x0 x1 x5q x5n x5c x6 ρ w; kernel_rfl)⟩⟩⟩⟩⟩⟩⟩
theorem g_listBuilder_build.eq (R : EP) (x0 : OA) (x1 : Value) (w : World) : g_listBuilder_build R x0 x1 w = vcA P 163 (g_listBuilder_build.ac R) (QF P [.tmp 4] R) (fr0 [.pointer x0, x1]) w := by kernel_rfl
theorem g_listBuilder_build.sound {R : EP} {x0 : OA} {x1 : Value} {w : World} (h : g_listBuilder_build R x0 x1 w) : callE P i_listBuilder_build #[.pointer x0, x1] R w :=
  callE_fin (c := g_listBuilder_build.body) Tryz.func316 Tryz.call316 (by kernel_rfl) (by kernel_rfl) (by kernel_rfl) (by kernel_rfl) (by kernel_rfl) (g_listBuilder_build.good R) (g_listBuilder_build.eq R x0 x1 w) h
namespace g_listCorner
noncomputable def body : Code := bodyOf Tryz.f74
def bl1 (R : EP) (Xa : OA → Nat → Nat → Int → Int → WP) (x9q : OA) (x9n : Nat) (x9c : Nat) (x10 : Int) (x11 : Int) (w : World) : Prop :=
 br (decide (x11 < x10))
 (0 ≤ x11 ∧ x11 < (x9n : Int) ∧
 nilP x9q fun a3 =>
 ∃ (v4 : Value), w.cell? (a3.add (Int.toNat x11 * 1)) = some v4 ∧
 ∃ (r5 : OA), ∃ w6, (Instr.typeAssert v4 ty_Block ty_P_Item false).run P w = .ok (.pointer r5) w6 ∧
 nilP r5 fun a7 =>
 ∃ (v8q : OA), ∃ (v8n : Nat), ∃ (v8c : Nat), w6.cell? (a7.add 2) = some (.slice v8q v8n v8c) ∧
 br ((v8n : Int) == 0)
 (R (.returned (.bool true)) w6)
 (nilP r5 fun a9 =>
 ∃ (v10q : OA), ∃ (v10n : Nat), ∃ (v10c : Nat), w6.cell? (a9.add 2) = some (.slice v10q v10n v10c) ∧
 0 ≤ (0 : Int) ∧ 0 < (v10n : Int) ∧
 nilP v10q fun a11 =>
 ∃ (v12 : Value), w6.cell? (a11.add (Int.toNat 0 * 1)) = some v12 ∧
 ∃ (r13_0 : OA), ∃ (r13_1 : Bool), ∃ w14, (Instr.typeAssert v12 ty_Block ty_P_List true).run P w6 = .ok (.tuple #[.pointer r13_0, .bool r13_1]) w14 ∧
 ∃ (r15_0 : OA), ∃ (r15_1 : Bool), ∃ w16, (Instr.typeAssert v12 ty_Block ty_P_ThematicBreak true).run P w14 = .ok (.tuple #[.pointer r15_0, .bool r15_1]) w16 ∧
 ∃ (r17_0 : OA), ∃ (r17_1 : Bool), ∃ w18, (Instr.typeAssert v12 ty_Block ty_P_CodeBlock true).run P w16 = .ok (.tuple #[.pointer r17_0, .bool r17_1]) w18 ∧
 br (r13_1 || (r15_1 || r17_1))
 (R (.returned (.bool true)) w18)
 (Xa x9q x9n x9c x10 (IntKind.i64.wrap (x11 + 1)) w18)))
 (R (.returned (.bool false)) w)
def l1 (R : EP) (x9q : OA) (x9n : Nat) (x9c : Nat) (x10 : Int) (x11 : Int) (w : World) : Prop :=
  ∀ X : OA → Nat → Nat → Int → Int → WP, (∀ x9q x9n x9c x10 x11 w, bl1 R X x9q x9n x9c x10 x11 w → X x9q x9n x9c x10 x11 w) → X x9q x9n x9c x10 x11 w

noncomputable def al1 (R : EP) (Xa : OA → Nat → Nat → Int → Int → WP) : AC :=
  (.leaf (sel [1, 0, 1, 0, 0] body))
end g_listCorner
def g_listCorner (R : EP) (x0 : OA) (w : World) : Prop :=
 nilP x0 fun a1 =>
 ∃ (v2q : OA), ∃ (v2n : Nat), ∃ (v2c : Nat), w.cell? (a1.add 5) = some (.slice v2q v2n v2c) ∧
 g_listCorner.l1 R v2q v2n v2c (v2n : Int) 0 w

noncomputable def g_listCorner.ac (R : EP) : AC :=
  (.seq (.leaf (sel [0] g_listCorner.body)) (.seq (.seq (.leaf (sel [1, 0, 0] g_listCorner.body)) (.block 0 (.loop (leaf [(9, .s .slice), (10, .s (.int .i64)), (11, .s (.int .i64))] (g_listCorner.l1 R)) (sel [1, 0, 1, 0, 0] g_listCorner.body)))) (.leaf (sel [1, 1] g_listCorner.body))))
theorem g_listCorner.good (R : EP) : Good P 41 (g_listCorner.ac R) (QF P [.tmp 2] R) :=
  ⟨trivial, ⟨⟨trivial, (loopG (g_listCorner.al1 R) (g_listCorner.bl1 R) (fun _ => by kernel_rfl) (fun Xa => trivial) (fun Xa => by intro x9q x9n x9c x10 x11 ρ w; kernel_rfl) (fun X h _ _ _ _ _ _ g => g X h))⟩, trivial⟩⟩
theorem g_listCorner.eq (R : EP) (x0 : OA) (w : World) : g_listCorner R x0 w = vcA P 41 (g_listCorner.ac R) (QF P [.tmp 2] R) (fr0 [.pointer x0]) w := by kernel_rfl
theorem g_listCorner.sound {R : EP} {x0 : OA} {w : World} (h : g_listCorner R x0 w) : callE P i_listCorner #[.pointer x0] R w :=
  callE_fin (c := g_listCorner.body) Tryz.func74 Tryz.call74 (by kernel_rfl) (by kernel_rfl) (by kernel_rfl) (by kernel_rfl) (by kernel_rfl) (g_listCorner.good R) (g_listCorner.eq R x0 w) h
namespace g_Position_Pos
noncomputable def body : Code := bodyOf Tryz.f225
end g_Position_Pos
def g_Position_Pos (R : EP) (x0_0 : Int) (x0_1 : Int) (w : World) : Prop :=
 box w #[.int .i64 x0_0, .int .i64 x0_1] ty_Position fun b1 w2 =>
 box w2 #[.int .i64 0, .int .i64 0] ty_Position fun b3 w4 =>
 ∃ (v5 : Int), w4.cell? ⟨b1, 0, none⟩ = some (.int .i64 v5) ∧
 ∃ (v6 : Int), w4.cell? ⟨b1, 1, none⟩ = some (.int .i64 v6) ∧
 stV w4 ⟨b3, 0, none⟩ (.int .i64 v5) fun w7 =>
 stV w7 ⟨b3, 1, none⟩ (.int .i64 v6) fun w8 =>
 ∃ (v9 : Int), w8.cell? ⟨b3, 0, none⟩ = some (.int .i64 v9) ∧
 ∃ (v10 : Int), w8.cell? ⟨b3, 1, none⟩ = some (.int .i64 v10) ∧
 R (.returned (.agg #[.int .i64 v9, .int .i64 v10])) w8

noncomputable def g_Position_Pos.ac (R : EP) : AC :=
  (.leaf (sel [] g_Position_Pos.body))
theorem g_Position_Pos.good (R : EP) : Good P 4 (g_Position_Pos.ac R) (QF P [.cell 2 85] R) :=
  trivial
theorem g_Position_Pos.eq (R : EP) (x0_0 : Int) (x0_1 : Int) (w : World) : g_Position_Pos R x0_0 x0_1 w = vcA P 4 (g_Position_Pos.ac R) (QF P [.cell 2 85] R) (fr0 [.agg #[.int .i64 x0_0, .int .i64 x0_1]]) w := by kernel_rfl
theorem g_Position_Pos.sound {R : EP} {x0_0 : Int} {x0_1 : Int} {w : World} (h : g_Position_Pos R x0_0 x0_1 w) : callE P i_Position_Pos #[.agg #[.int .i64 x0_0, .int .i64 x0_1]] R w :=
  callE_fin (c := g_Position_Pos.body) Tryz.func225 Tryz.call225 (by kernel_rfl) (by kernel_rfl) (by kernel_rfl) (by kernel_rfl) (by kernel_rfl) (g_Position_Pos.good R) (g_Position_Pos.eq R x0_0 x0_1 w) h
namespace g_AutoLink_PrintHTML
noncomputable def body : Code := bodyOf Tryz.f327
end g_AutoLink_PrintHTML
def g_AutoLink_PrintHTML (R : EP) (x0 : OA) (x1 : OA) (w : World) : Prop :=
 tk w fun w1 =>
 nilP x0 fun a2 =>
 nilP x0 fun a3 =>
 ∃ (v4 : BA), w1.cell? (a2.add 1) = some (.string v4) ∧
 ∃ (v5 : BA), w1.cell? a3 = some (.string v5) ∧
 callE P i_htmlLinkEscaper #[] (fun e w7 => ∃ (r6q : OA), ∃ (r6n : Nat), ∃ (r6c : Nat), e = .returned (.slice r6q r6n r6c) ∧
 SameC w1 w7 (a3) 1 ∧
 SameC w1 w7 (a2.add 1) 1 ∧
 callE P i_zzPairs_Replace #[.slice r6q r6n r6c, .string v4] (fun e w9 => ∃ (r8 : BA), e = .returned (.string r8) ∧
 SameC w7 w9 (a3) 1 ∧
 (((ByteArray.mk #[60, 97, 32, 104, 114, 101, 102, 61, 34]).size + r8.size : Nat) : Int) ≤ IntKind.i64.max ∧
 ((((ByteArray.mk #[60, 97, 32, 104, 114, 101, 102, 61, 34]) ++ r8).size + (ByteArray.mk #[34, 62]).size : Nat) : Int) ≤ IntKind.i64.max ∧
 callE P i_htmlEscaper #[] (fun e w11 => ∃ (r10q : OA), ∃ (r10n : Nat), ∃ (r10c : Nat), e = .returned (.slice r10q r10n r10c) ∧
 SameC w9 w11 (a3) 1 ∧
 callE P i_zzPairs_Replace #[.slice r10q r10n r10c, .string v5] (fun e w13 => ∃ (r12 : BA), e = .returned (.string r12) ∧
 (((((ByteArray.mk #[60, 97, 32, 104, 114, 101, 102, 61, 34]) ++ r8) ++ (ByteArray.mk #[34, 62])).size + r12.size : Nat) : Int) ≤ IntKind.i64.max ∧
 ((((((ByteArray.mk #[60, 97, 32, 104, 114, 101, 102, 61, 34]) ++ r8) ++ (ByteArray.mk #[34, 62])) ++ r12).size + (ByteArray.mk #[60, 47, 97, 62]).size : Nat) : Int) ≤ IntKind.i64.max ∧
 callE P i_bytes_Buffer_WriteString #[.pointer x1, .string (((((ByteArray.mk #[60, 97, 32, 104, 114, 101, 102, 61, 34]) ++ r8) ++ (ByteArray.mk #[34, 62])) ++ r12) ++ (ByteArray.mk #[60, 47, 97, 62]))] (fun e w15 => ∃ (r14_0 : Int), ∃ (r14_1 : Value), e = .returned (.tuple #[.int .i64 r14_0, r14_1]) ∧
 R (.returned (.tuple #[])) w15) w13) w11) w9) w7) w1

noncomputable def g_AutoLink_PrintHTML.ac (R : EP) : AC :=
  (.draw (.pure 0 (.pure 2 (.pure 3 (.pure 4 (.pure 10 (.pure 11 (.pure 12 (.load 5 (.load 13 (.one 1 (.one 6 (.pure 7 (.pure 8 (.one 9 (.one 14 (.pure 15 (.pure 16 (.one 17 .done)))))))))))))))))) (sel [] g_AutoLink_PrintHTML.body))
theorem g_AutoLink_PrintHTML.good (R : EP) : Good P 22 (g_AutoLink_PrintHTML.ac R) (QF P [] R) :=
  ⟨by kernel_rfl, by kernel_rfl, fun _ _ _ h => h⟩
theorem g_AutoLink_PrintHTML.eq (R : EP) (x0 : OA) (x1 : OA) (w : World) : g_AutoLink_PrintHTML R x0 x1 w = vcA P 22 (g_AutoLink_PrintHTML.ac R) (QF P [] R) (fr0 [.pointer x0, .pointer x1]) w := by kernel_rfl
theorem g_AutoLink_PrintHTML.sound {R : EP} {x0 : OA} {x1 : OA} {w : World} (h : g_AutoLink_PrintHTML R x0 x1 w) : callE P i_AutoLink_PrintHTML #[.pointer x0, .pointer x1] R w :=
  callE_fin (c := g_AutoLink_PrintHTML.body) Tryz.func327 Tryz.call327 (by kernel_rfl) (by kernel_rfl) (by kernel_rfl) (by kernel_rfl) (by kernel_rfl) (g_AutoLink_PrintHTML.good R) (g_AutoLink_PrintHTML.eq R x0 x1 w) h
namespace g_HardBreak_PrintHTML
noncomputable def body : Code := bodyOf Tryz.f283
end g_HardBreak_PrintHTML
def g_HardBreak_PrintHTML (R : EP) (x0 : OA) (x1 : OA) (w : World) : Prop :=
 callE P i_bytes_Buffer_WriteString #[.pointer x1, .string (ByteArray.mk #[60, 98, 114, 32, 47, 62, 10])] (fun e w2 => ∃ (r1_0 : Int), ∃ (r1_1 : Value), e = .returned (.tuple #[.int .i64 r1_0, r1_1]) ∧
 R (.returned (.tuple #[])) w2) w

noncomputable def g_HardBreak_PrintHTML.ac (R : EP) : AC :=
  (.leaf (sel [] g_HardBreak_PrintHTML.body))
theorem g_HardBreak_PrintHTML.good (R : EP) : Good P 6 (g_HardBreak_PrintHTML.ac R) (QF P [] R) :=
  trivial
theorem g_HardBreak_PrintHTML.eq (R : EP) (x0 : OA) (x1 : OA) (w : World) : g_HardBreak_PrintHTML R x0 x1 w = vcA P 6 (g_HardBreak_PrintHTML.ac R) (QF P [] R) (fr0 [.pointer x0, .pointer x1]) w := by kernel_rfl
theorem g_HardBreak_PrintHTML.sound {R : EP} {x0 : OA} {x1 : OA} {w : World} (h : g_HardBreak_PrintHTML R x0 x1 w) : callE P i_HardBreak_PrintHTML #[.pointer x0, .pointer x1] R w :=
  callE_fin (c := g_HardBreak_PrintHTML.body) Tryz.func283 Tryz.call283 (by kernel_rfl) (by kernel_rfl) (by kernel_rfl) (by kernel_rfl) (by kernel_rfl) (g_HardBreak_PrintHTML.good R) (g_HardBreak_PrintHTML.eq R x0 x1 w) h
namespace g_Link_PrintHTML
noncomputable def body : Code := bodyOf Tryz.f250
def bl1 (R : EP) (Xa : OA → OA → Nat → Nat → Int → Int → WP) (x1 : OA) (x36q : OA) (x36n : Nat) (x36c : Nat) (x37 : Int) (x38 : Int) (w : World) : Prop :=
 br (decide (x38 < x37))
 (0 ≤ x38 ∧ x38 < (x36n : Int) ∧
 nilP x36q fun a25 =>
 ∃ (v26 : Value), w.cell? (a25.add (Int.toNat x38 * 1)) = some v26 ∧
 enterE P (callMethod v26 "PrintHTML" #[.pointer x1]) (fun e w28 => e = .returned (.tuple #[]) ∧
 Xa x1 x36q x36n x36c x37 (IntKind.i64.wrap (x38 + 1)) w28) w)
 (callE P i_bytes_Buffer_WriteString #[.pointer x1, .string (ByteArray.mk #[60, 47, 97, 62])] (fun e w30 => ∃ (r29_0 : Int), ∃ (r29_1 : Value), e = .returned (.tuple #[.int .i64 r29_0, r29_1]) ∧
 R (.returned (.tuple #[])) w30) w)
def l1 (R : EP) (x1 : OA) (x36q : OA) (x36n : Nat) (x36c : Nat) (x37 : Int) (x38 : Int) (w : World) : Prop :=
  ∀ X : OA → OA → Nat → Nat → Int → Int → WP, (∀ x1 x36q x36n x36c x37 x38 w, bl1 R X x1 x36q x36n x36c x37 x38 w → X x1 x36q x36n x36c x37 x38 w) → X x1 x36q x36n x36c x37 x38 w

noncomputable def al1 (R : EP) (Xa : OA → OA → Nat → Nat → Int → Int → WP) : AC :=
  (.leaf (sel [1, 1, 1, 0, 1, 0, 0] body))
def k1 (R : EP) (x0 : OA) (x1 : OA) (w : World) : Prop :=
 callE P i_bytes_Buffer_WriteString #[.pointer x1, .string (ByteArray.mk #[62])] (fun e w22 => ∃ (r21_0 : Int), ∃ (r21_1 : Value), e = .returned (.tuple #[.int .i64 r21_0, r21_1]) ∧
 nilP x0 fun a23 =>
 ∃ (v24q : OA), ∃ (v24n : Nat), ∃ (v24c : Nat), w22.cell? a23 = some (.slice v24q v24n v24c) ∧
 l1 R x1 v24q v24n v24c (v24n : Int) 0 w22) w

end g_Link_PrintHTML
def g_Link_PrintHTML (R : EP) (x0 : OA) (x1 : OA) (w : World) : Prop :=
 tk w fun w1 =>
 nilP x0 fun a2 =>
 ∃ (v3 : BA), w1.cell? (a2.add 1) = some (.string v3) ∧
 callE P i_htmlLinkEscaper #[] (fun e w5 => ∃ (r4q : OA), ∃ (r4n : Nat), ∃ (r4c : Nat), e = .returned (.slice r4q r4n r4c) ∧
 SameC w1 w5 (a2.add 1) 1 ∧
 callE P i_zzPairs_Replace #[.slice r4q r4n r4c, .string v3] (fun e w7 => ∃ (r6 : BA), e = .returned (.string r6) ∧
 (((ByteArray.mk #[60, 97, 32, 104, 114, 101, 102, 61, 34]).size + r6.size : Nat) : Int) ≤ IntKind.i64.max ∧
 ((((ByteArray.mk #[60, 97, 32, 104, 114, 101, 102, 61, 34]) ++ r6).size + (ByteArray.mk #[34]).size : Nat) : Int) ≤ IntKind.i64.max ∧
 callE P i_bytes_Buffer_WriteString #[.pointer x1, .string (((ByteArray.mk #[60, 97, 32, 104, 114, 101, 102, 61, 34]) ++ r6) ++ (ByteArray.mk #[34]))] (fun e w9 => ∃ (r8_0 : Int), ∃ (r8_1 : Value), e = .returned (.tuple #[.int .i64 r8_0, r8_1]) ∧
 nilP x0 fun a10 =>
 ∃ (v11 : BA), w9.cell? (a10.add 2) = some (.string v11) ∧
 br (!(v11.toList == (ByteArray.mk #[]).toList))
 (tk w9 fun w12 =>
 nilP x0 fun a13 =>
 ∃ (v14 : BA), w12.cell? (a13.add 2) = some (.string v14) ∧
 callE P i_htmlQuoteEscaper #[] (fun e w16 => ∃ (r15q : OA), ∃ (r15n : Nat), ∃ (r15c : Nat), e = .returned (.slice r15q r15n r15c) ∧
 SameC w12 w16 (a13.add 2) 1 ∧
 callE P i_zzPairs_Replace #[.slice r15q r15n r15c, .string v14] (fun e w18 => ∃ (r17 : BA), e = .returned (.string r17) ∧
 (((ByteArray.mk #[32, 116, 105, 116, 108, 101, 61, 34]).size + r17.size : Nat) : Int) ≤ IntKind.i64.max ∧
 ((((ByteArray.mk #[32, 116, 105, 116, 108, 101, 61, 34]) ++ r17).size + (ByteArray.mk #[34]).size : Nat) : Int) ≤ IntKind.i64.max ∧
 callE P i_bytes_Buffer_WriteString #[.pointer x1, .string (((ByteArray.mk #[32, 116, 105, 116, 108, 101, 61, 34]) ++ r17) ++ (ByteArray.mk #[34]))] (fun e w20 => ∃ (r19_0 : Int), ∃ (r19_1 : Value), e = .returned (.tuple #[.int .i64 r19_0, r19_1]) ∧
 g_Link_PrintHTML.k1 R x0 x1 w20) w18) w16) w12)
 (g_Link_PrintHTML.k1 R x0 x1 w9)) w7) w5) w1

noncomputable def g_Link_PrintHTML.ac (R : EP) : AC :=
  (.seq (.draw (.pure 0 (.pure 2 (.pure 3 (.pure 4 (.load 5 (.one 1 (.one 6 (.pure 7 (.pure 8 (.one 9 .done)))))))))) (sel [0] g_Link_PrintHTML.body)) (.seq (.seq (.leaf (sel [1, 0, 0] g_Link_PrintHTML.body)) (.cond 20 (.draw (.pure 0 (.pure 2 (.pure 3 (.pure 4 (.load 5 (.one 1 (.one 6 (.pure 7 (.pure 8 (.one 9 .done)))))))))) (sel [1, 0, 1, 0] g_Link_PrintHTML.body)) (.leaf (sel [1, 0, 1, 1] g_Link_PrintHTML.body)))) (.mark (leaf [(0, .s .ptr), (1, .s .ptr)] (g_Link_PrintHTML.k1 R)) (.seq (.leaf (sel [1, 1, 0] g_Link_PrintHTML.body)) (.seq (.seq (.leaf (sel [1, 1, 1, 0, 0] g_Link_PrintHTML.body)) (.block 0 (.loop (leaf [(1, .s .ptr), (36, .s .slice), (37, .s (.int .i64)), (38, .s (.int .i64))] (g_Link_PrintHTML.l1 R)) (sel [1, 1, 1, 0, 1, 0, 0] g_Link_PrintHTML.body)))) (.leaf (sel [1, 1, 1, 1] g_Link_PrintHTML.body)))))))
theorem g_Link_PrintHTML.good (R : EP) : Good P 48 (g_Link_PrintHTML.ac R) (QF P [] R) :=
  ⟨⟨by kernel_rfl, by kernel_rfl, fun _ _ _ h => h⟩, ⟨⟨trivial, ⟨⟨by kernel_rfl, by kernel_rfl, fun _ _ _ h => h⟩, trivial⟩⟩, ⟨⟨trivial, ⟨⟨trivial, (loopG (g_Link_PrintHTML.al1 R) (g_Link_PrintHTML.bl1 R) (fun _ => by kernel_rfl) (fun Xa => trivial) (fun Xa => by intro x1 x36q x36n x36c x37 x38 ρ w; kernel_rfl) (fun X h _ _ _ _ _ _ _ g => g X h))⟩, trivial⟩⟩, cutE (by intro x0 x1 ρ w; kernel_rfl)⟩⟩⟩
theorem g_Link_PrintHTML.eq (R : EP) (x0 : OA) (x1 : OA) (w : World) : g_Link_PrintHTML R x0 x1 w = vcA P 48 (g_Link_PrintHTML.ac R) (QF P [] R) (fr0 [.pointer x0, .pointer x1]) w := by kernel_rfl
theorem g_Link_PrintHTML.sound {R : EP} {x0 : OA} {x1 : OA} {w : World} (h : g_Link_PrintHTML R x0 x1 w) : callE P i_Link_PrintHTML #[.pointer x0, .pointer x1] R w :=
  callE_fin (c := g_Link_PrintHTML.body) Tryz.func250 Tryz.call250 (by kernel_rfl) (by kernel_rfl) (by kernel_rfl) (by kernel_rfl) (by kernel_rfl) (g_Link_PrintHTML.good R) (g_Link_PrintHTML.eq R x0 x1 w) h
namespace g_SoftBreak_PrintHTML
noncomputable def body : Code := bodyOf Tryz.f291
end g_SoftBreak_PrintHTML
def g_SoftBreak_PrintHTML (R : EP) (x0 : OA) (x1 : OA) (w : World) : Prop :=
 callE P i_bytes_Buffer_WriteString #[.pointer x1, .string (ByteArray.mk #[10])] (fun e w2 => ∃ (r1_0 : Int), ∃ (r1_1 : Value), e = .returned (.tuple #[.int .i64 r1_0, r1_1]) ∧
 R (.returned (.tuple #[])) w2) w

noncomputable def g_SoftBreak_PrintHTML.ac (R : EP) : AC :=
  (.leaf (sel [] g_SoftBreak_PrintHTML.body))
theorem g_SoftBreak_PrintHTML.good (R : EP) : Good P 6 (g_SoftBreak_PrintHTML.ac R) (QF P [] R) :=
  trivial
theorem g_SoftBreak_PrintHTML.eq (R : EP) (x0 : OA) (x1 : OA) (w : World) : g_SoftBreak_PrintHTML R x0 x1 w = vcA P 6 (g_SoftBreak_PrintHTML.ac R) (QF P [] R) (fr0 [.pointer x0, .pointer x1]) w := by kernel_rfl
theorem g_SoftBreak_PrintHTML.sound {R : EP} {x0 : OA} {x1 : OA} {w : World} (h : g_SoftBreak_PrintHTML R x0 x1 w) : callE P i_SoftBreak_PrintHTML #[.pointer x0, .pointer x1] R w :=
  callE_fin (c := g_SoftBreak_PrintHTML.body) Tryz.func291 Tryz.call291 (by kernel_rfl) (by kernel_rfl) (by kernel_rfl) (by kernel_rfl) (by kernel_rfl) (g_SoftBreak_PrintHTML.good R) (g_SoftBreak_PrintHTML.eq R x0 x1 w) h
namespace g_Document_PrintHTML
noncomputable def body : Code := bodyOf Tryz.f226
def bl1 (R : EP) (Xa : OA → OA → Nat → Nat → Int → Int → WP) (x1 : OA) (x9q : OA) (x9n : Nat) (x9c : Nat) (x10 : Int) (x11 : Int) (w : World) : Prop :=
 br (decide (x11 < x10))
 (0 ≤ x11 ∧ x11 < (x9n : Int) ∧
 nilP x9q fun a3 =>
 ∃ (v4 : Value), w.cell? (a3.add (Int.toNat x11 * 1)) = some v4 ∧
 enterE P (callMethod v4 "PrintHTML" #[.pointer x1]) (fun e w6 => e = .returned (.tuple #[]) ∧
 Xa x1 x9q x9n x9c x10 (IntKind.i64.wrap (x11 + 1)) w6) w)
 (R (.returned (.tuple #[])) w)
def l1 (R : EP) (x1 : OA) (x9q : OA) (x9n : Nat) (x9c : Nat) (x10 : Int) (x11 : Int) (w : World) : Prop :=
  ∀ X : OA → OA → Nat → Nat → Int → Int → WP, (∀ x1 x9q x9n x9c x10 x11 w, bl1 R X x1 x9q x9n x9c x10 x11 w → X x1 x9q x9n x9c x10 x11 w) → X x1 x9q x9n x9c x10 x11 w

noncomputable def al1 (R : EP) (Xa : OA → OA → Nat → Nat → Int → Int → WP) : AC :=
  (.leaf (sel [1, 0, 0] body))
end g_Document_PrintHTML
def g_Document_PrintHTML (R : EP) (x0 : OA) (x1 : OA) (w : World) : Prop :=
 nilP x0 fun a1 =>
 ∃ (v2q : OA), ∃ (v2n : Nat), ∃ (v2c : Nat), w.cell? (a1.add 2) = some (.slice v2q v2n v2c) ∧
 g_Document_PrintHTML.l1 R x1 v2q v2n v2c (v2n : Int) 0 w

noncomputable def g_Document_PrintHTML.ac (R : EP) : AC :=
  (.seq (.leaf (sel [0] g_Document_PrintHTML.body)) (.block 0 (.loop (leaf [(1, .s .ptr), (9, .s .slice), (10, .s (.int .i64)), (11, .s (.int .i64))] (g_Document_PrintHTML.l1 R)) (sel [1, 0, 0] g_Document_PrintHTML.body))))
theorem g_Document_PrintHTML.good (R : EP) : Good P 19 (g_Document_PrintHTML.ac R) (QF P [] R) :=
  ⟨trivial, (loopG (g_Document_PrintHTML.al1 R) (g_Document_PrintHTML.bl1 R) (fun _ => by kernel_rfl) (fun Xa => trivial) (fun Xa => by intro x1 x9q x9n x9c x10 x11 ρ w; kernel_rfl) (fun X h _ _ _ _ _ _ _ g => g X h))⟩
theorem g_Document_PrintHTML.eq (R : EP) (x0 : OA) (x1 : OA) (w : World) : g_Document_PrintHTML R x0 x1 w = vcA P 19 (g_Document_PrintHTML.ac R) (QF P [] R) (fr0 [.pointer x0, .pointer x1]) w := by kernel_rfl
theorem g_Document_PrintHTML.sound {R : EP} {x0 : OA} {x1 : OA} {w : World} (h : g_Document_PrintHTML R x0 x1 w) : callE P i_Document_PrintHTML #[.pointer x0, .pointer x1] R w :=
  callE_fin (c := g_Document_PrintHTML.body) Tryz.func226 Tryz.call226 (by kernel_rfl) (by kernel_rfl) (by kernel_rfl) (by kernel_rfl) (by kernel_rfl) (g_Document_PrintHTML.good R) (g_Document_PrintHTML.eq R x0 x1 w) h
namespace g_Paragraph_PrintHTML
noncomputable def body : Code := bodyOf Tryz.f263
end g_Paragraph_PrintHTML
def g_Paragraph_PrintHTML (R : EP) (x0 : OA) (x1 : OA) (w : World) : Prop :=
 callE P i_bytes_Buffer_WriteString #[.pointer x1, .string (ByteArray.mk #[60, 112, 62])] (fun e w2 => ∃ (r1_0 : Int), ∃ (r1_1 : Value), e = .returned (.tuple #[.int .i64 r1_0, r1_1]) ∧
 nilP x0 fun a3 =>
 ∃ (v4 : OA), w2.cell? (a3.add 2) = some (.pointer v4) ∧
 callE P i_Text_PrintHTML #[.pointer v4, .pointer x1] (fun e w6 => e = .returned (.tuple #[]) ∧
 callE P i_bytes_Buffer_WriteString #[.pointer x1, .string (ByteArray.mk #[60, 47, 112, 62, 10])] (fun e w8 => ∃ (r7_0 : Int), ∃ (r7_1 : Value), e = .returned (.tuple #[.int .i64 r7_0, r7_1]) ∧
 R (.returned (.tuple #[])) w8) w6) w2) w

noncomputable def g_Paragraph_PrintHTML.ac (R : EP) : AC :=
  (.leaf (sel [] g_Paragraph_PrintHTML.body))
theorem g_Paragraph_PrintHTML.good (R : EP) : Good P 14 (g_Paragraph_PrintHTML.ac R) (QF P [] R) :=
  trivial
theorem g_Paragraph_PrintHTML.eq (R : EP) (x0 : OA) (x1 : OA) (w : World) : g_Paragraph_PrintHTML R x0 x1 w = vcA P 14 (g_Paragraph_PrintHTML.ac R) (QF P [] R) (fr0 [.pointer x0, .pointer x1]) w := by kernel_rfl
theorem g_Paragraph_PrintHTML.sound {R : EP} {x0 : OA} {x1 : OA} {w : World} (h : g_Paragraph_PrintHTML R x0 x1 w) : callE P i_Paragraph_PrintHTML #[.pointer x0, .pointer x1] R w :=
  callE_fin (c := g_Paragraph_PrintHTML.body) Tryz.func263 Tryz.call263 (by kernel_rfl) (by kernel_rfl) (by kernel_rfl) (by kernel_rfl) (by kernel_rfl) (g_Paragraph_PrintHTML.good R) (g_Paragraph_PrintHTML.eq R x0 x1 w) h
namespace g_Text_PrintHTML
noncomputable def body : Code := bodyOf Tryz.f230
def bl1 (R : EP) (Xa : OA → OA → Nat → Nat → Int → Int → WP) (x1 : OA) (x9q : OA) (x9n : Nat) (x9c : Nat) (x10 : Int) (x11 : Int) (w : World) : Prop :=
 br (decide (x11 < x10))
 (0 ≤ x11 ∧ x11 < (x9n : Int) ∧
 nilP x9q fun a3 =>
 ∃ (v4 : Value), w.cell? (a3.add (Int.toNat x11 * 1)) = some v4 ∧
 enterE P (callMethod v4 "PrintHTML" #[.pointer x1]) (fun e w6 => e = .returned (.tuple #[]) ∧
 Xa x1 x9q x9n x9c x10 (IntKind.i64.wrap (x11 + 1)) w6) w)
 (R (.returned (.tuple #[])) w)
def l1 (R : EP) (x1 : OA) (x9q : OA) (x9n : Nat) (x9c : Nat) (x10 : Int) (x11 : Int) (w : World) : Prop :=
  ∀ X : OA → OA → Nat → Nat → Int → Int → WP, (∀ x1 x9q x9n x9c x10 x11 w, bl1 R X x1 x9q x9n x9c x10 x11 w → X x1 x9q x9n x9c x10 x11 w) → X x1 x9q x9n x9c x10 x11 w

noncomputable def al1 (R : EP) (Xa : OA → OA → Nat → Nat → Int → Int → WP) : AC :=
  (.leaf (sel [1, 0, 0] body))
end g_Text_PrintHTML
def g_Text_PrintHTML (R : EP) (x0 : OA) (x1 : OA) (w : World) : Prop :=
 nilP x0 fun a1 =>
 ∃ (v2q : OA), ∃ (v2n : Nat), ∃ (v2c : Nat), w.cell? (a1.add 2) = some (.slice v2q v2n v2c) ∧
 g_Text_PrintHTML.l1 R x1 v2q v2n v2c (v2n : Int) 0 w

noncomputable def g_Text_PrintHTML.ac (R : EP) : AC :=
  (.seq (.leaf (sel [0] g_Text_PrintHTML.body)) (.block 0 (.loop (leaf [(1, .s .ptr), (9, .s .slice), (10, .s (.int .i64)), (11, .s (.int .i64))] (g_Text_PrintHTML.l1 R)) (sel [1, 0, 0] g_Text_PrintHTML.body))))
theorem g_Text_PrintHTML.good (R : EP) : Good P 19 (g_Text_PrintHTML.ac R) (QF P [] R) :=
  ⟨trivial, (loopG (g_Text_PrintHTML.al1 R) (g_Text_PrintHTML.bl1 R) (fun _ => by kernel_rfl) (fun Xa => trivial) (fun Xa => by intro x1 x9q x9n x9c x10 x11 ρ w; kernel_rfl) (fun X h _ _ _ _ _ _ _ g => g X h))⟩
theorem g_Text_PrintHTML.eq (R : EP) (x0 : OA) (x1 : OA) (w : World) : g_Text_PrintHTML R x0 x1 w = vcA P 19 (g_Text_PrintHTML.ac R) (QF P [] R) (fr0 [.pointer x0, .pointer x1]) w := by kernel_rfl
theorem g_Text_PrintHTML.sound {R : EP} {x0 : OA} {x1 : OA} {w : World} (h : g_Text_PrintHTML R x0 x1 w) : callE P i_Text_PrintHTML #[.pointer x0, .pointer x1] R w :=
  callE_fin (c := g_Text_PrintHTML.body) Tryz.func230 Tryz.call230 (by kernel_rfl) (by kernel_rfl) (by kernel_rfl) (by kernel_rfl) (by kernel_rfl) (g_Text_PrintHTML.good R) (g_Text_PrintHTML.eq R x0 x1 w) h
namespace g_ToHTML
noncomputable def body : Code := bodyOf Tryz.f20
end g_ToHTML
def g_ToHTML (R : EP) (x0 : Value) (w : World) : Prop :=
 box w #[.slice none 0 0, .int .i64 0, .int .i8 0] ty_bytes_Buffer fun b1 w2 =>
 enterE P (callMethod x0 "PrintHTML" #[.pointer (some ⟨b1, 0, none⟩)]) (fun e w4 => e = .returned (.tuple #[]) ∧
 callE P i_bytes_Buffer_String #[.pointer (some ⟨b1, 0, none⟩)] (fun e w6 => ∃ (r5 : BA), e = .returned (.string r5) ∧
 R (.returned (.string r5)) w6) w4) w2

noncomputable def g_ToHTML.ac (R : EP) : AC :=
  (.leaf (sel [] g_ToHTML.body))
theorem g_ToHTML.good (R : EP) : Good P 7 (g_ToHTML.ac R) (QF P [.tmp 2] R) :=
  trivial
theorem g_ToHTML.eq (R : EP) (x0 : Value) (w : World) : g_ToHTML R x0 w = vcA P 7 (g_ToHTML.ac R) (QF P [.tmp 2] R) (fr0 [x0]) w := by kernel_rfl
theorem g_ToHTML.sound {R : EP} {x0 : Value} {w : World} (h : g_ToHTML R x0 w) : callE P i_ToHTML #[x0] R w :=
  callE_fin (c := g_ToHTML.body) Tryz.func20 Tryz.call20 (by kernel_rfl) (by kernel_rfl) (by kernel_rfl) (by kernel_rfl) (by kernel_rfl) (g_ToHTML.good R) (g_ToHTML.eq R x0 w) h
namespace g_Plain_PrintHTML
noncomputable def body : Code := bodyOf Tryz.f243
end g_Plain_PrintHTML
def g_Plain_PrintHTML (R : EP) (x0 : OA) (x1 : OA) (w : World) : Prop :=
 tk w fun w1 =>
 nilP x0 fun a2 =>
 ∃ (v3 : BA), w1.cell? a2 = some (.string v3) ∧
 callE P i_htmlEscaper #[] (fun e w5 => ∃ (r4q : OA), ∃ (r4n : Nat), ∃ (r4c : Nat), e = .returned (.slice r4q r4n r4c) ∧
 SameC w1 w5 (a2) 1 ∧
 callE P i_zzPairs_WriteString #[.slice r4q r4n r4c, .pointer x1, .string v3] (fun e w7 => e = .returned (.tuple #[]) ∧
 R (.returned (.tuple #[])) w7) w5) w1

noncomputable def g_Plain_PrintHTML.ac (R : EP) : AC :=
  (.draw (.pure 1 (.pure 2 (.pure 3 (.pure 4 (.load 5 (.one 0 (.one 6 .done))))))) (sel [] g_Plain_PrintHTML.body))
theorem g_Plain_PrintHTML.good (R : EP) : Good P 11 (g_Plain_PrintHTML.ac R) (QF P [] R) :=
  ⟨by kernel_rfl, by kernel_rfl, fun _ _ _ h => h⟩
theorem g_Plain_PrintHTML.eq (R : EP) (x0 : OA) (x1 : OA) (w : World) : g_Plain_PrintHTML R x0 x1 w = vcA P 11 (g_Plain_PrintHTML.ac R) (QF P [] R) (fr0 [.pointer x0, .pointer x1]) w := by kernel_rfl
theorem g_Plain_PrintHTML.sound {R : EP} {x0 : OA} {x1 : OA} {w : World} (h : g_Plain_PrintHTML R x0 x1 w) : callE P i_Plain_PrintHTML #[.pointer x0, .pointer x1] R w :=
  callE_fin (c := g_Plain_PrintHTML.body) Tryz.func243 Tryz.call243 (by kernel_rfl) (by kernel_rfl) (by kernel_rfl) (by kernel_rfl) (by kernel_rfl) (g_Plain_PrintHTML.good R) (g_Plain_PrintHTML.eq R x0 x1 w) h
namespace g_htmlEscaper
noncomputable def body : Code := bodyOf Tryz.f246
end g_htmlEscaper
def g_htmlEscaper (R : EP) (w : World) : Prop :=
 ∃ (r1q : OA), ∃ (r1n : Nat), ∃ (r1c : Nat), ∃ w2, (Instr.buildSlice ty_zzPairs 8 #[(0, .string (ByteArray.mk #[34])), (1, .string (ByteArray.mk #[38, 113, 117, 111, 116, 59])), (2, .string (ByteArray.mk #[38])), (3, .string (ByteArray.mk #[38, 97, 109, 112, 59])), (4, .string (ByteArray.mk #[60])), (5, .string (ByteArray.mk #[38, 108, 116, 59])), (6, .string (ByteArray.mk #[62])), (7, .string (ByteArray.mk #[38, 103, 116, 59]))]).run P w = .ok (.slice r1q r1n r1c) w2 ∧
 R (.returned (.slice r1q r1n r1c)) w2

noncomputable def g_htmlEscaper.ac (R : EP) : AC :=
  (.leaf (sel [] g_htmlEscaper.body))
theorem g_htmlEscaper.good (R : EP) : Good P 2 (g_htmlEscaper.ac R) (QF P [.tmp 0] R) :=
  trivial
theorem g_htmlEscaper.eq (R : EP) (w : World) : g_htmlEscaper R w = vcA P 2 (g_htmlEscaper.ac R) (QF P [.tmp 0] R) (fr0 []) w := by kernel_rfl
theorem g_htmlEscaper.sound {R : EP} {w : World} (h : g_htmlEscaper R w) : callE P i_htmlEscaper #[] R w :=
  callE_fin (c := g_htmlEscaper.body) Tryz.func246 Tryz.call246 (by kernel_rfl) (by kernel_rfl) (by kernel_rfl) (by kernel_rfl) (by kernel_rfl) (g_htmlEscaper.good R) (g_htmlEscaper.eq R w) h
namespace g_htmlLinkEscaper
noncomputable def body : Code := bodyOf Tryz.f253
end g_htmlLinkEscaper
def g_htmlLinkEscaper (R : EP) (w : World) : Prop :=
 ∃ (r1q : OA), ∃ (r1n : Nat), ∃ (r1c : Nat), ∃ w2, (Instr.buildSlice ty_zzPairs 340 #[(0, .string (ByteArray.mk #[34])), (1, .string (ByteArray.mk #[37, 50, 50])), (2, .string (ByteArray.mk #[38])), (3, .string (ByteArray.mk #[38, 97, 109, 112, 59])), (4, .string (ByteArray.mk #[60])), (5, .string (ByteArray.mk #[37, 51, 67])), (6, .string (ByteArray.mk #[62])), (7, .string (ByteArray.mk #[37, 51, 69])), (8, .string (ByteArray.mk #[92])), (9, .string (ByteArray.mk #[37, 53, 67])), (10, .string (ByteArray.mk #[32])), (11, .string (ByteArray.mk #[37, 50, 48])), (12, .string (ByteArray.mk #[96])), (13, .string (ByteArray.mk #[37, 54, 48])), (14, .string (ByteArray.mk #[91])), (15, .string (ByteArray.mk #[37, 53, 66])), (16, .string (ByteArray.mk #[93])), (17, .string (ByteArray.mk #[37, 53, 68])), (18, .string (ByteArray.mk #[94])), (19, .string (ByteArray.mk #[37, 53, 69])), (20, .string (ByteArray.mk #[123])), (21, .string (ByteArray.mk #[37, 55, 66])), (22, .string (ByteArray.mk #[125])), (23, .string (ByteArray.mk #[37, 55, 68])), (24, .string (ByteArray.mk #[0])), (25, .string (ByteArray.mk #[37, 48, 48])), (26, .string (ByteArray.mk #[1])), (27, .string (ByteArray.mk #[37, 48, 49])), (28, .string (ByteArray.mk #[2])), (29, .string (ByteArray.mk #[37, 48, 50])), (30, .string (ByteArray.mk #[3])), (31, .string (ByteArray.mk #[37, 48, 51])), (32, .string (ByteArray.mk #[4])), (33, .string (ByteArray.mk #[37, 48, 52])), (34, .string (ByteArray.mk #[5])), (35, .string (ByteArray.mk #[37, 48, 53])), (36, .string (ByteArray.mk #[6])), (37, .string (ByteArray.mk #[37, 48, 54])), (38, .string (ByteArray.mk #[7])), (39, .string (ByteArray.mk #[37, 48, 55])), (40, .string (ByteArray.mk #[8])), (41, .string (ByteArray.mk #[37, 48, 56])), (42, .string (ByteArray.mk #[11])), (43, .string (ByteArray.mk #[37, 48, 66])), (44, .string (ByteArray.mk #[12])), (45, .string (ByteArray.mk #[37, 48, 67])), (46, .string (ByteArray.mk #[14])), (47, .string (ByteArray.mk #[37, 48, 69])), (48, .string (ByteArray.mk #[15])), (49, .string (ByteArray.mk #[37, 48, 70])), (50, .string (ByteArray.mk #[16])), (51, .string (ByteArray.mk #[37, 49, 48])), (52, .string (ByteArray.mk #[17])), (53, .string (ByteArray.mk #[37, 49, 49])), (54, .string (ByteArray.mk #[18])), (55, .string (ByteArray.mk #[37, 49, 50])), (56, .string (ByteArray.mk #[19])), (57, .string (ByteArray.mk #[37, 49, 51])), (58, .string (ByteArray.mk #[20])), (59, .string (ByteArray.mk #[37, 49, 52])), (60, .string (ByteArray.mk #[21])), (61, .string (ByteArray.mk #[37, 49, 53])), (62, .string (ByteArray.mk #[22])), (63, .string (ByteArray.mk #[37, 49, 54])), (64, .string (ByteArray.mk #[23])), (65, .string (ByteArray.mk #[37, 49, 55])), (66, .string (ByteArray.mk #[24])), (67, .string (ByteArray.mk #[37, 49, 56])), (68, .string (ByteArray.mk #[25])), (69, .string (ByteArray.mk #[37, 49, 57])), (70, .string (ByteArray.mk #[26])), (71, .string (ByteArray.mk #[37, 49, 65])), (72, .string (ByteArray.mk #[27])), (73, .string (ByteArray.mk #[37, 49, 66])), (74, .string (ByteArray.mk #[28])), (75, .string (ByteArray.mk #[37, 49, 67])), (76, .string (ByteArray.mk #[29])), (77, .string (ByteArray.mk #[37, 49, 68])), (78, .string (ByteArray.mk #[30])), (79, .string (ByteArray.mk #[37, 49, 69])), (80, .string (ByteArray.mk #[31])), (81, .string (ByteArray.mk #[37, 49, 70])), (82, .string (ByteArray.mk #[127])), (83, .string (ByteArray.mk #[37, 55, 70])), (84, .string (ByteArray.mk #[128])), (85, .string (ByteArray.mk #[37, 56, 48])), (86, .string (ByteArray.mk #[129])), (87, .string (ByteArray.mk #[37, 56, 49])), (88, .string (ByteArray.mk #[130])), (89, .string (ByteArray.mk #[37, 56, 50])), (90, .string (ByteArray.mk #[131])), (91, .string (ByteArray.mk #[37, 56, 51])), (92, .string (ByteArray.mk #[132])), (93, .string (ByteArray.mk #[37, 56, 52])), (94, .string (ByteArray.mk #[133])), (95, .string (ByteArray.mk #[37, 56, 53])), (96, .string (ByteArray.mk #[134])), (97, .string (ByteArray.mk #[37, 56, 54])), (98, .string (ByteArray.mk #[135])), (99, .string (ByteArray.mk #[37, 56, 55])), (100, .string (ByteArray.mk #[136])), (101, .string (ByteArray.mk #[37, 56, 56])), (102, .string (ByteArray.mk #[137])), (103, .string (ByteArray.mk #[37, 56, 57])), (104, .string (ByteArray.mk #[138])), (105, .string (ByteArray.mk #[37, 56, 65])), (106, .string (ByteArray.mk #[139])), (107, .string (ByteArray.mk #[37, 56, 66])), (108, .string (ByteArray.mk #[140])), (109, .string (ByteArray.mk #[37, 56, 67])), (110, .string (ByteArray.mk #[141])), (111, .string (ByteArray.mk #[37, 56, 68])), (112, .string (ByteArray.mk #[142])), (113, .string (ByteArray.mk #[37, 56, 69])), (114, .string (ByteArray.mk #[143])), (115, .string (ByteArray.mk #[37, 56, 70])), (116, .string (ByteArray.mk #[144])), (117, .string (ByteArray.mk #[37, 57, 48])), (118, .string (ByteArray.mk #[145])), (119, .string (ByteArray.mk #[37, 57, 49])), (120, .string (ByteArray.mk #[146])), (121, .string (ByteArray.mk #[37, 57, 50])), (122, .string (ByteArray.mk #[147])), (123, .string (ByteArray.mk #[37, 57, 51])), (124, .string (ByteArray.mk #[148])), (125, .string (ByteArray.mk #[37, 57, 52])), (126, .string (ByteArray.mk #[149])), (127, .string (ByteArray.mk #[37, 57, 53])), (128, .string (ByteArray.mk #[150])), (129, .string (ByteArray.mk #[37, 57, 54])), (130, .string (ByteArray.mk #[151])), (131, .string (ByteArray.mk #[37, 57, 55])), (132, .string (ByteArray.mk #[152])), (133, .string (ByteArray.mk #[37, 57, 56])), (134, .string (ByteArray.mk #[153])), (135, .string (ByteArray.mk #[37, 57, 57])), (136, .string (ByteArray.mk #[154])), (137, .string (ByteArray.mk #[37, 57, 65])), (138, .string (ByteArray.mk #[155])), (139, .string (ByteArray.mk #[37, 57, 66])), (140, .string (ByteArray.mk #[156])), (141, .string (ByteArray.mk #[37, 57, 67])), (142, .string (ByteArray.mk #[157])), (143, .string (ByteArray.mk #[37, 57, 68])), (144, .string (ByteArray.mk #[158])), (145, .string (ByteArray.mk #[37, 57, 69])), (146, .string (ByteArray.mk #[159])), (147, .string (ByteArray.mk #[37, 57, 70])), (148, .string (ByteArray.mk #[160])), (149, .string (ByteArray.mk #[37, 65, 48])), (150, .string (ByteArray.mk #[161])), (151, .string (ByteArray.mk #[37, 65, 49])), (152, .string (ByteArray.mk #[162])), (153, .string (ByteArray.mk #[37, 65, 50])), (154, .string (ByteArray.mk #[163])), (155, .string (ByteArray.mk #[37, 65, 51])), (156, .string (ByteArray.mk #[164])), (157, .string (ByteArray.mk #[37, 65, 52])), (158, .string (ByteArray.mk #[165])), (159, .string (ByteArray.mk #[37, 65, 53])), (160, .string (ByteArray.mk #[166])), (161, .string (ByteArray.mk #[37, 65, 54])), (162, .string (ByteArray.mk #[167])), (163, .string (ByteArray.mk #[37, 65, 55])), (164, .string (ByteArray.mk #[168])), (165, .string (ByteArray.mk #[37, 65, 56])), (166, .string (ByteArray.mk #[169])), (167, .string (ByteArray.mk #[37, 65, 57])), (168, .string (ByteArray.mk #[170])), (169, .string (ByteArray.mk #[37, 65, 65])), (170, .string (ByteArray.mk #[171])), (171, .string (ByteArray.mk #[37, 65, 66])), (172, .string (ByteArray.mk #[172])), (173, .string (ByteArray.mk #[37, 65, 67])), (174, .string (ByteArray.mk #[173])), (175, .string (ByteArray.mk #[37, 65, 68])), (176, .string (ByteArray.mk #[174])), (177, .string (ByteArray.mk #[37, 65, 69])), (178, .string (ByteArray.mk #[175])), (179, .string (ByteArray.mk #[37, 65, 70])), (180, .string (ByteArray.mk #[176])), (181, .string (ByteArray.mk #[37, 66, 48])), (182, .string (ByteArray.mk #[177])), (183, .string (ByteArray.mk #[37, 66, 49])), (184, .string (ByteArray.mk #[178])), (185, .string (ByteArray.mk #[37, 66, 50])), (186, .string (ByteArray.mk #[179])), (187, .string (ByteArray.mk #[37, 66, 51])), (188, .string (ByteArray.mk #[180])), (189, .string (ByteArray.mk #[37, 66, 52])), (190, .string (ByteArray.mk #[181])), (191, .string (ByteArray.mk #[37, 66, 53])), (192, .string (ByteArray.mk #[182])), (193, .string (ByteArray.mk #[37, 66, 54])), (194, .string (ByteArray.mk #[183])), (195, .string (ByteArray.mk #[37, 66, 55])), (196, .string (ByteArray.mk #[184])), (197, .string (ByteArray.mk #[37, 66, 56])), (198, .string (ByteArray.mk #[185])), (199, .string (ByteArray.mk #[37, 66, 57])), (200, .string (ByteArray.mk #[186])), (201, .string (ByteArray.mk #[37, 66, 65])), (202, .string (ByteArray.mk #[187])), (203, .string (ByteArray.mk #[37, 66, 66])), (204, .string (ByteArray.mk #[188])), (205, .string (ByteArray.mk #[37, 66, 67])), (206, .string (ByteArray.mk #[189])), (207, .string (ByteArray.mk #[37, 66, 68])), (208, .string (ByteArray.mk #[190])), (209, .string (ByteArray.mk #[37, 66, 69])), (210, .string (ByteArray.mk #[191])), (211, .string (ByteArray.mk #[37, 66, 70])), (212, .string (ByteArray.mk #[192])), (213, .string (ByteArray.mk #[37, 67, 48])), (214, .string (ByteArray.mk #[193])), (215, .string (ByteArray.mk #[37, 67, 49])), (216, .string (ByteArray.mk #[194])), (217, .string (ByteArray.mk #[37, 67, 50])), (218, .string (ByteArray.mk #[195])), (219, .string (ByteArray.mk #[37, 67, 51])), (220, .string (ByteArray.mk #[196])), (221, .string (ByteArray.mk #[37, 67, 52])), (222, .string (ByteArray.mk #[197])), (223, .string (ByteArray.mk #[37, 67, 53])), (224, .string (ByteArray.mk #[198])), (225, .string (ByteArray.mk #[37, 67, 54])), (226, .string (ByteArray.mk #[199])), (227, .string (ByteArray.mk #[37, 67, 55])), (228, .string (ByteArray.mk #[200])), (229, .string (ByteArray.mk #[37, 67, 56])), (230, .string (ByteArray.mk #[201])), (231, .string (ByteArray.mk #[37, 67, 57])), (232, .string (ByteArray.mk #[202])), (233, .string (ByteArray.mk #[37, 67, 65])), (234, .string (ByteArray.mk #[203])), (235, .string (ByteArray.mk #[37, 67, 66])), (236, .string (ByteArray.mk #[204])), (237, .string (ByteArray.mk #[37, 67, 67])), (238, .string (ByteArray.mk #[205])), (239, .string (ByteArray.mk #[37, 67, 68])), (240, .string (ByteArray.mk #[206])), (241, .string (ByteArray.mk #[37, 67, 69])), (242, .string (ByteArray.mk #[207])), (243, .string (ByteArray.mk #[37, 67, 70])), (244, .string (ByteArray.mk #[208])), (245, .string (ByteArray.mk #[37, 68, 48])), (246, .string (ByteArray.mk #[209])), (247, .string (ByteArray.mk #[37, 68, 49])), (248, .string (ByteArray.mk #[210])), (249, .string (ByteArray.mk #[37, 68, 50])), (250, .string (ByteArray.mk #[211])), (251, .string (ByteArray.mk #[37, 68, 51])), (252, .string (ByteArray.mk #[212])), (253, .string (ByteArray.mk #[37, 68, 52])), (254, .string (ByteArray.mk #[213])), (255, .string (ByteArray.mk #[37, 68, 53])), (256, .string (ByteArray.mk #[214])), (257, .string (ByteArray.mk #[37, 68, 54])), (258, .string (ByteArray.mk #[215])), (259, .string (ByteArray.mk #[37, 68, 55])), (260, .string (ByteArray.mk #[216])), (261, .string (ByteArray.mk #[37, 68, 56])), (262, .string (ByteArray.mk #[217])), (263, .string (ByteArray.mk #[37, 68, 57])), (264, .string (ByteArray.mk #[218])), (265, .string (ByteArray.mk #[37, 68, 65])), (266, .string (ByteArray.mk #[219])), (267, .string (ByteArray.mk #[37, 68, 66])), (268, .string (ByteArray.mk #[220])), (269, .string (ByteArray.mk #[37, 68, 67])), (270, .string (ByteArray.mk #[221])), (271, .string (ByteArray.mk #[37, 68, 68])), (272, .string (ByteArray.mk #[222])), (273, .string (ByteArray.mk #[37, 68, 69])), (274, .string (ByteArray.mk #[223])), (275, .string (ByteArray.mk #[37, 68, 70])), (276, .string (ByteArray.mk #[224])), (277, .string (ByteArray.mk #[37, 69, 48])), (278, .string (ByteArray.mk #[225])), (279, .string (ByteArray.mk #[37, 69, 49])), (280, .string (ByteArray.mk #[226])), (281, .string (ByteArray.mk #[37, 69, 50])), (282, .string (ByteArray.mk #[227])), (283, .string (ByteArray.mk #[37, 69, 51])), (284, .string (ByteArray.mk #[228])), (285, .string (ByteArray.mk #[37, 69, 52])), (286, .string (ByteArray.mk #[229])), (287, .string (ByteArray.mk #[37, 69, 53])), (288, .string (ByteArray.mk #[230])), (289, .string (ByteArray.mk #[37, 69, 54])), (290, .string (ByteArray.mk #[231])), (291, .string (ByteArray.mk #[37, 69, 55])), (292, .string (ByteArray.mk #[232])), (293, .string (ByteArray.mk #[37, 69, 56])), (294, .string (ByteArray.mk #[233])), (295, .string (ByteArray.mk #[37, 69, 57])), (296, .string (ByteArray.mk #[234])), (297, .string (ByteArray.mk #[37, 69, 65])), (298, .string (ByteArray.mk #[235])), (299, .string (ByteArray.mk #[37, 69, 66])), (300, .string (ByteArray.mk #[236])), (301, .string (ByteArray.mk #[37, 69, 67])), (302, .string (ByteArray.mk #[237])), (303, .string (ByteArray.mk #[37, 69, 68])), (304, .string (ByteArray.mk #[238])), (305, .string (ByteArray.mk #[37, 69, 69])), (306, .string (ByteArray.mk #[239])), (307, .string (ByteArray.mk #[37, 69, 70])), (308, .string (ByteArray.mk #[240])), (309, .string (ByteArray.mk #[37, 70, 48])), (310, .string (ByteArray.mk #[241])), (311, .string (ByteArray.mk #[37, 70, 49])), (312, .string (ByteArray.mk #[242])), (313, .string (ByteArray.mk #[37, 70, 50])), (314, .string (ByteArray.mk #[243])), (315, .string (ByteArray.mk #[37, 70, 51])), (316, .string (ByteArray.mk #[244])), (317, .string (ByteArray.mk #[37, 70, 52])), (318, .string (ByteArray.mk #[245])), (319, .string (ByteArray.mk #[37, 70, 53])), (320, .string (ByteArray.mk #[246])), (321, .string (ByteArray.mk #[37, 70, 54])), (322, .string (ByteArray.mk #[247])), (323, .string (ByteArray.mk #[37, 70, 55])), (324, .string (ByteArray.mk #[248])), (325, .string (ByteArray.mk #[37, 70, 56])), (326, .string (ByteArray.mk #[249])), (327, .string (ByteArray.mk #[37, 70, 57])), (328, .string (ByteArray.mk #[250])), (329, .string (ByteArray.mk #[37, 70, 65])), (330, .string (ByteArray.mk #[251])), (331, .string (ByteArray.mk #[37, 70, 66])), (332, .string (ByteArray.mk #[252])), (333, .string (ByteArray.mk #[37, 70, 67])), (334, .string (ByteArray.mk #[253])), (335, .string (ByteArray.mk #[37, 70, 68])), (336, .string (ByteArray.mk #[254])), (337, .string (ByteArray.mk #[37, 70, 69])), (338, .string (ByteArray.mk #[255])), (339, .string (ByteArray.mk #[37, 70, 70]))]).run P w = .ok (.slice r1q r1n r1c) w2 ∧
 R (.returned (.slice r1q r1n r1c)) w2

noncomputable def g_htmlLinkEscaper.ac (R : EP) : AC :=
  (.leaf (sel [] g_htmlLinkEscaper.body))
theorem g_htmlLinkEscaper.good (R : EP) : Good P 2 (g_htmlLinkEscaper.ac R) (QF P [.tmp 0] R) :=
  trivial
theorem g_htmlLinkEscaper.eq (R : EP) (w : World) : g_htmlLinkEscaper R w = vcA P 2 (g_htmlLinkEscaper.ac R) (QF P [.tmp 0] R) (fr0 []) w := by kernel_rfl
theorem g_htmlLinkEscaper.sound {R : EP} {w : World} (h : g_htmlLinkEscaper R w) : callE P i_htmlLinkEscaper #[] R w :=
  callE_fin (c := g_htmlLinkEscaper.body) Tryz.func253 Tryz.call253 (by kernel_rfl) (by kernel_rfl) (by kernel_rfl) (by kernel_rfl) (by kernel_rfl) (g_htmlLinkEscaper.good R) (g_htmlLinkEscaper.eq R w) h
namespace g_htmlQuoteEscaper
noncomputable def body : Code := bodyOf Tryz.f255
end g_htmlQuoteEscaper
def g_htmlQuoteEscaper (R : EP) (w : World) : Prop :=
 ∃ (r1q : OA), ∃ (r1n : Nat), ∃ (r1c : Nat), ∃ w2, (Instr.buildSlice ty_zzPairs 8 #[(0, .string (ByteArray.mk #[34])), (1, .string (ByteArray.mk #[38, 113, 117, 111, 116, 59])), (2, .string (ByteArray.mk #[38])), (3, .string (ByteArray.mk #[38, 97, 109, 112, 59])), (4, .string (ByteArray.mk #[60])), (5, .string (ByteArray.mk #[38, 108, 116, 59])), (6, .string (ByteArray.mk #[62])), (7, .string (ByteArray.mk #[38, 103, 116, 59]))]).run P w = .ok (.slice r1q r1n r1c) w2 ∧
 R (.returned (.slice r1q r1n r1c)) w2

noncomputable def g_htmlQuoteEscaper.ac (R : EP) : AC :=
  (.leaf (sel [] g_htmlQuoteEscaper.body))
theorem g_htmlQuoteEscaper.good (R : EP) : Good P 2 (g_htmlQuoteEscaper.ac R) (QF P [.tmp 0] R) :=
  trivial
theorem g_htmlQuoteEscaper.eq (R : EP) (w : World) : g_htmlQuoteEscaper R w = vcA P 2 (g_htmlQuoteEscaper.ac R) (QF P [.tmp 0] R) (fr0 []) w := by kernel_rfl
theorem g_htmlQuoteEscaper.sound {R : EP} {w : World} (h : g_htmlQuoteEscaper R w) : callE P i_htmlQuoteEscaper #[] R w :=
  callE_fin (c := g_htmlQuoteEscaper.body) Tryz.func255 Tryz.call255 (by kernel_rfl) (by kernel_rfl) (by kernel_rfl) (by kernel_rfl) (by kernel_rfl) (g_htmlQuoteEscaper.good R) (g_htmlQuoteEscaper.eq R w) h
namespace g_zzPairs_Replace
noncomputable def body : Code := bodyOf Tryz.f254
end g_zzPairs_Replace
def g_zzPairs_Replace (R : EP) (x0q : OA) (x0n : Nat) (x0c : Nat) (x1 : BA) (w : World) : Prop :=
 box w #[.slice none 0 0, .int .i64 0, .int .i8 0] ty_bytes_Buffer fun b1 w2 =>
 callE P i_zzPairs_WriteString #[.slice x0q x0n x0c, .pointer (some ⟨b1, 0, none⟩), .string x1] (fun e w4 => e = .returned (.tuple #[]) ∧
 callE P i_bytes_Buffer_String #[.pointer (some ⟨b1, 0, none⟩)] (fun e w6 => ∃ (r5 : BA), e = .returned (.string r5) ∧
 R (.returned (.string r5)) w6) w4) w2

noncomputable def g_zzPairs_Replace.ac (R : EP) : AC :=
  (.leaf (sel [] g_zzPairs_Replace.body))
theorem g_zzPairs_Replace.good (R : EP) : Good P 10 (g_zzPairs_Replace.ac R) (QF P [.tmp 4] R) :=
  trivial
theorem g_zzPairs_Replace.eq (R : EP) (x0q : OA) (x0n : Nat) (x0c : Nat) (x1 : BA) (w : World) : g_zzPairs_Replace R x0q x0n x0c x1 w = vcA P 10 (g_zzPairs_Replace.ac R) (QF P [.tmp 4] R) (fr0 [.slice x0q x0n x0c, .string x1]) w := by kernel_rfl
theorem g_zzPairs_Replace.sound {R : EP} {x0q : OA} {x0n : Nat} {x0c : Nat} {x1 : ByteArray} {w : World} (h : g_zzPairs_Replace R x0q x0n x0c x1 w) : callE P i_zzPairs_Replace #[.slice x0q x0n x0c, .string x1] R w :=
  callE_fin (c := g_zzPairs_Replace.body) Tryz.func254 Tryz.call254 (by kernel_rfl) (by kernel_rfl) (by kernel_rfl) (by kernel_rfl) (by kernel_rfl) (g_zzPairs_Replace.good R) (g_zzPairs_Replace.eq R x0q x0n x0c x1 w) h
namespace g_zzPairs_WriteString
noncomputable def body : Code := bodyOf Tryz.f247
def bl2 (R : EP) (X0_1_1_0 : OA → Nat → Nat → OA → BA → Int → WP) (X0_1_1_0_0_1_0_0_0_1_0 : OA → Nat → Nat → OA → BA → Int → Int → WP) (x0q : OA) (x0n : Nat) (x0c : Nat) (x1 : OA) (x2 : BA) (x6 : Int) (x7 : Int) (w : World) : Prop :=
 br (decide (x7 < (x0n : Int)))
 (tk w fun w1 =>
 0 ≤ x6 ∧ x6 < (x2.size : Int) ∧
 0 ≤ x7 ∧ x7 < (x0n : Int) ∧
 nilP x0q fun a2 =>
 ∃ (v3 : BA), w1.cell? (a2.add (Int.toNat x7 * 1)) = some (.string v3) ∧
 0 ≤ (0 : Int) ∧ 0 < (v3.size : Int) ∧
 br ((bt x2 x6) == (bt v3 0))
 (0 ≤ (IntKind.i64.wrap (x7 + 1)) ∧ (IntKind.i64.wrap (x7 + 1)) < (x0n : Int) ∧
 nilP x0q fun a4 =>
 ∃ (v5 : BA), w1.cell? (a4.add (Int.toNat (IntKind.i64.wrap (x7 + 1)) * 1)) = some (.string v5) ∧
 callE P i_bytes_Buffer_WriteString #[.pointer x1, .string v5] (fun e w7 => ∃ (r6_0 : Int), ∃ (r6_1 : Value), e = .returned (.tuple #[.int .i64 r6_0, r6_1]) ∧
 X0_1_1_0 x0q x0n x0c x1 x2 (IntKind.i64.wrap (x6 + 1)) w7) w1)
 (X0_1_1_0_0_1_0_0_0_1_0 x0q x0n x0c x1 x2 x6 (IntKind.i64.wrap (x7 + 2)) w1))
 (0 ≤ x6 ∧ x6 < (x2.size : Int) ∧
 callE P i_bytes_Buffer_WriteByte #[.pointer x1, .int .u8 (bt x2 x6)] (fun e w9 => ∃ (r8 : Value), e = .returned r8 ∧
 X0_1_1_0 x0q x0n x0c x1 x2 (IntKind.i64.wrap (x6 + 1)) w9) w)
def l2 (R : EP) (X0_1_1_0 : OA → Nat → Nat → OA → BA → Int → WP) (x0q : OA) (x0n : Nat) (x0c : Nat) (x1 : OA) (x2 : BA) (x6 : Int) (x7 : Int) (w : World) : Prop :=
  ∀ X : OA → Nat → Nat → OA → BA → Int → Int → WP, (∀ x0q x0n x0c x1 x2 x6 x7 w, bl2 R X0_1_1_0 X x0q x0n x0c x1 x2 x6 x7 w → X x0q x0n x0c x1 x2 x6 x7 w) → X x0q x0n x0c x1 x2 x6 x7 w

noncomputable def al2 (R : EP) (X0_1_1_0 : OA → Nat → Nat → OA → BA → Int → WP) (X0_1_1_0_0_1_0_0_0_1_0 : OA → Nat → Nat → OA → BA → Int → Int → WP) : AC :=
  (.seq (.leaf (sel [0, 1, 1, 0, 0, 1, 0, 0, 0, 1, 0, 0, 0] body)) (.seq (.block 3 (.seq (.draw (.pure 0 (.pure 1 (.pure 2 (.pure 3 (.pure 4 (.pure 5 (.load 6 (.pure 7 (.pure 8 .done))))))))) (sel [0, 1, 1, 0, 0, 1, 0, 0, 0, 1, 0, 0, 1, 0, 0, 0] body)) (.leaf (sel [0, 1, 1, 0, 0, 1, 0, 0, 0, 1, 0, 0, 1, 0, 0, 1] body)))) (.leaf (sel [0, 1, 1, 0, 0, 1, 0, 0, 0, 1, 0, 0, 1, 1] body))))
def bl1 (R : EP) (X0_1_1_0 : OA → Nat → Nat → OA → BA → Int → WP) (x0q : OA) (x0n : Nat) (x0c : Nat) (x1 : OA) (x2 : BA) (x6 : Int) (w : World) : Prop :=
 br (decide (x6 < (x2.size : Int)))
 (l2 R X0_1_1_0 x0q x0n x0c x1 x2 x6 0 w)
 (R (.returned (.tuple #[])) w)
def l1 (R : EP) (x0q : OA) (x0n : Nat) (x0c : Nat) (x1 : OA) (x2 : BA) (x6 : Int) (w : World) : Prop :=
  ∀ X : OA → Nat → Nat → OA → BA → Int → WP, (∀ x0q x0n x0c x1 x2 x6 w, bl1 R X x0q x0n x0c x1 x2 x6 w → X x0q x0n x0c x1 x2 x6 w) → X x0q x0n x0c x1 x2 x6 w

noncomputable def al1 (R : EP) (X0_1_1_0 : OA → Nat → Nat → OA → BA → Int → WP) : AC :=
  (.seq (.leaf (sel [0, 1, 1, 0, 0, 0] body)) (.seq (.block 1 (.seq (.seq (.leaf (sel [0, 1, 1, 0, 0, 1, 0, 0, 0, 0] body)) (.block 2 (.loop (leaf [(0, .s .slice), (1, .s .ptr), (2, .s .str), (6, .s (.int .i64)), (7, .s (.int .i64))] (l2 R X0_1_1_0)) (sel [0, 1, 1, 0, 0, 1, 0, 0, 0, 1, 0, 0] body)))) (.leaf (sel [0, 1, 1, 0, 0, 1, 0, 0, 1] body)))) (.leaf (sel [0, 1, 1, 0, 0, 1, 1] body))))
end g_zzPairs_WriteString
def g_zzPairs_WriteString (R : EP) (x0q : OA) (x0n : Nat) (x0c : Nat) (x1 : OA) (x2 : BA) (w : World) : Prop :=
 g_zzPairs_WriteString.l1 R x0q x0n x0c x1 x2 0 w

noncomputable def g_zzPairs_WriteString.ac (R : EP) : AC :=
  (.scope (.seq (.leaf (sel [0, 0] g_zzPairs_WriteString.body)) (.seq (.leaf (sel [0, 1, 0] g_zzPairs_WriteString.body)) (.block 0 (.loop (leaf [(0, .s .slice), (1, .s .ptr), (2, .s .str), (6, .s (.int .i64))] (g_zzPairs_WriteString.l1 R)) (sel [0, 1, 1, 0, 0] g_zzPairs_WriteString.body))))))
theorem g_zzPairs_WriteString.good (R : EP) : Good P 41 (g_zzPairs_WriteString.ac R) (QF P [] R) :=
  ⟨trivial, ⟨trivial, (loopG (g_zzPairs_WriteString.al1 R) (g_zzPairs_WriteString.bl1 R) (fun _ => by kernel_rfl) (fun X0_1_1_0 => ⟨trivial, ⟨⟨⟨trivial, (loopG (g_zzPairs_WriteString.al2 R X0_1_1_0) (g_zzPairs_WriteString.bl2 R X0_1_1_0) (fun _ => by kernel_rfl) (fun X0_1_1_0_0_1_0_0_0_1_0 => ⟨trivial, ⟨⟨⟨by kernel_rfl, by kernel_rfl, fun _ _ _ h => h⟩, trivial⟩, trivial⟩⟩) (fun X0_1_1_0_0_1_0_0_0_1_0 => by intro x0q x0n x0c x1 x2 x6 x7 ρ w; kernel_rfl) (fun X h _ _ _ _ _ _ _ _ g => g X h))⟩, trivial⟩, trivial⟩⟩) (fun X0_1_1_0 => by intro x0q x0n x0c x1 x2 x6 ρ w; kernel_rfl) (fun X h _ _ _ _ _ _ _ g => g X h))⟩⟩
theorem g_zzPairs_WriteString.eq (R : EP) (x0q : OA) (x0n : Nat) (x0c : Nat) (x1 : OA) (x2 : BA) (w : World) : g_zzPairs_WriteString R x0q x0n x0c x1 x2 w = vcA P 41 (g_zzPairs_WriteString.ac R) (QF P [] R) (fr0 [.slice x0q x0n x0c, .pointer x1, .string x2]) w := by kernel_rfl
theorem g_zzPairs_WriteString.sound {R : EP} {x0q : OA} {x0n : Nat} {x0c : Nat} {x1 : OA} {x2 : ByteArray} {w : World} (h : g_zzPairs_WriteString R x0q x0n x0c x1 x2 w) : callE P i_zzPairs_WriteString #[.slice x0q x0n x0c, .pointer x1, .string x2] R w :=
  callE_fin (c := g_zzPairs_WriteString.body) Tryz.func247 Tryz.call247 (by kernel_rfl) (by kernel_rfl) (by kernel_rfl) (by kernel_rfl) (by kernel_rfl) (g_zzPairs_WriteString.good R) (g_zzPairs_WriteString.eq R x0q x0n x0c x1 x2 w) h
namespace g_strings_Builder_String
noncomputable def body : Code := bodyOf Tryz.f144
end g_strings_Builder_String
def g_strings_Builder_String (R : EP) (x0 : OA) (w : World) : Prop :=
 tk w fun w1 =>
 nilP x0 fun a2 =>
 nilP x0 fun a3 =>
 ∃ (v4q : OA), ∃ (v4n : Nat), ∃ (v4c : Nat), w1.cell? (a2.add 1) = some (.slice v4q v4n v4c) ∧
 ∃ (v5q : OA), ∃ (v5n : Nat), ∃ (v5c : Nat), w1.cell? (a3.add 1) = some (.slice v5q v5n v5c) ∧
 ∃ (r6 : OA), ∃ w7, (Builtin.unsafeSliceData_ #[ty_S_uint8] ty_P_uint8 #[.slice v4q v4n v4c]).run P w1 = .ok (.pointer r6) w7 ∧
 SameC w1 w7 (a3.add 1) 1 ∧
 ∃ (r8 : BA), ∃ w9, (Builtin.unsafeString_ #[ty_P_uint8, ty_int] ty_string #[.pointer r6, .int .i64 (v5n : Int)]).run P w7 = .ok (.string r8) w9 ∧
 R (.returned (.string r8)) w9

noncomputable def g_strings_Builder_String.ac (R : EP) : AC :=
  (.seq (.leaf (sel [0] g_strings_Builder_String.body)) (.seq (.draw (.pure 0 (.pure 1 (.pure 2 (.pure 5 (.pure 6 (.pure 7 (.load 3 (.load 8 (.pure 9 (.one 4 (.one 10 (.pure 11 .done)))))))))))) (sel [1, 0] g_strings_Builder_String.body)) (.leaf (sel [1, 1] g_strings_Builder_String.body))))
theorem g_strings_Builder_String.good (R : EP) : Good P 14 (g_strings_Builder_String.ac R) (QF P [.tmp 2] R) :=
  ⟨trivial, ⟨⟨by kernel_rfl, by kernel_rfl, fun _ _ _ h => h⟩, trivial⟩⟩
theorem g_strings_Builder_String.eq (R : EP) (x0 : OA) (w : World) : g_strings_Builder_String R x0 w = vcA P 14 (g_strings_Builder_String.ac R) (QF P [.tmp 2] R) (fr0 [.pointer x0]) w := by kernel_rfl
theorem g_strings_Builder_String.sound {R : EP} {x0 : OA} {w : World} (h : g_strings_Builder_String R x0 w) : callE P i_strings_Builder_String #[.pointer x0] R w :=
  callE_fin (c := g_strings_Builder_String.body) Tryz.func144 Tryz.call144 (by kernel_rfl) (by kernel_rfl) (by kernel_rfl) (by kernel_rfl) (by kernel_rfl) (g_strings_Builder_String.good R) (g_strings_Builder_String.eq R x0 w) h
namespace g_strings_Builder_WriteString
noncomputable def body : Code := bodyOf Tryz.f142
end g_strings_Builder_WriteString
def g_strings_Builder_WriteString (R : EP) (x0 : OA) (x1 : BA) (w : World) : Prop :=
 callE P i_strings_Builder_copyCheck #[.pointer x0] (fun e w2 => e = .returned (.tuple #[]) ∧
 nilP x0 fun a3 =>
 ∃ (v4q : OA), ∃ (v4n : Nat), ∃ (v4c : Nat), w2.cell? (a3.add 1) = some (.slice v4q v4n v4c) ∧
 ∃ (r5q : OA), ∃ (r5n : Nat), ∃ (r5c : Nat), ∃ w6, (Builtin.append_ #[ty_S_uint8, ty_string] ty_S_uint8 #[.slice v4q v4n v4c, .string x1]).run P w2 = .ok (.slice r5q r5n r5c) w6 ∧
 nilP x0 fun a7 =>
 stV w6 ((a7.add 1).add 0) (.slice r5q r5n r5c) fun w8 =>
 R (.returned (.tuple #[.int .i64 (x1.size : Int), .nilIface])) w8) w

noncomputable def g_strings_Builder_WriteString.ac (R : EP) : AC :=
  (.leaf (sel [] g_strings_Builder_WriteString.body))
theorem g_strings_Builder_WriteString.good (R : EP) : Good P 19 (g_strings_Builder_WriteString.ac R) (QF P [.tmp 4, .tmp 5] R) :=
  trivial
theorem g_strings_Builder_WriteString.eq (R : EP) (x0 : OA) (x1 : BA) (w : World) : g_strings_Builder_WriteString R x0 x1 w = vcA P 19 (g_strings_Builder_WriteString.ac R) (QF P [.tmp 4, .tmp 5] R) (fr0 [.pointer x0, .string x1]) w := by kernel_rfl
theorem g_strings_Builder_WriteString.sound {R : EP} {x0 : OA} {x1 : ByteArray} {w : World} (h : g_strings_Builder_WriteString R x0 x1 w) : callE P i_strings_Builder_WriteString #[.pointer x0, .string x1] R w :=
  callE_fin (c := g_strings_Builder_WriteString.body) Tryz.func142 Tryz.call142 (by kernel_rfl) (by kernel_rfl) (by kernel_rfl) (by kernel_rfl) (by kernel_rfl) (g_strings_Builder_WriteString.good R) (g_strings_Builder_WriteString.eq R x0 x1 w) h
namespace g_strings_Builder_copyCheck
noncomputable def body : Code := bodyOf Tryz.f175
end g_strings_Builder_copyCheck
def g_strings_Builder_copyCheck (R : EP) (x0 : OA) (w : World) : Prop :=
 nilP x0 fun a1 =>
 ∃ (v2 : OA), w.cell? a1 = some (.pointer v2) ∧
 ∃ (r3 : Bool), ∃ w4, (do eqGuard .eql ty_P_strings_Builder (.tmp 5) (.const (.pointer none)) (.pointer v2) (.pointer none); binOp .eql ty_P_strings_Builder (.pointer v2) (.pointer none)).run P w = .ok (.bool r3) w4 ∧
 br r3
 (∃ (r5 : OA), ∃ w6, (convert ty_P_strings_Builder ty_unsafe_Pointer (.pointer x0)).run P w4 = .ok (.pointer r5) w6 ∧
 callE P i_internal_abi_NoEscape #[.pointer r5] (fun e w8 => ∃ (r7 : OA), e = .returned (.pointer r7) ∧
 ∃ (r9 : OA), ∃ w10, (convert ty_unsafe_Pointer ty_P_strings_Builder (.pointer r7)).run P w8 = .ok (.pointer r9) w10 ∧
 nilP x0 fun a11 =>
 stV w10 (a11.add 0) (.pointer r9) fun w12 =>
 R (.returned (.tuple #[])) w12) w6)
 (nilP x0 fun a13 =>
 ∃ (v14 : OA), w4.cell? a13 = some (.pointer v14) ∧
 ∃ (r15 : Bool), ∃ w16, (do eqGuard .neq ty_P_strings_Builder (.tmp 17) (.tmp 18) (.pointer v14) (.pointer x0); binOp .neq ty_P_strings_Builder (.pointer v14) (.pointer x0)).run P w4 = .ok (.bool r15) w16 ∧
 br r15
 (False)
 (R (.returned (.tuple #[])) w16))

noncomputable def g_strings_Builder_copyCheck.ac (R : EP) : AC :=
  (.leaf (sel [] g_strings_Builder_copyCheck.body))
theorem g_strings_Builder_copyCheck.good (R : EP) : Good P 20 (g_strings_Builder_copyCheck.ac R) (QF P [] R) :=
  trivial
theorem g_strings_Builder_copyCheck.eq (R : EP) (x0 : OA) (w : World) : g_strings_Builder_copyCheck R x0 w = vcA P 20 (g_strings_Builder_copyCheck.ac R) (QF P [] R) (fr0 [.pointer x0]) w := by kernel_rfl
theorem g_strings_Builder_copyCheck.sound {R : EP} {x0 : OA} {w : World} (h : g_strings_Builder_copyCheck R x0 w) : callE P i_strings_Builder_copyCheck #[.pointer x0] R w :=
  callE_fin (c := g_strings_Builder_copyCheck.body) Tryz.func175 Tryz.call175 (by kernel_rfl) (by kernel_rfl) (by kernel_rfl) (by kernel_rfl) (by kernel_rfl) (g_strings_Builder_copyCheck.good R) (g_strings_Builder_copyCheck.eq R x0 w) h
namespace g_bytes_Buffer_String
noncomputable def body : Code := bodyOf Tryz.f25
end g_bytes_Buffer_String
def g_bytes_Buffer_String (R : EP) (x0 : OA) (w : World) : Prop :=
 ∃ (r1 : Bool), ∃ w2, (do eqGuard .eql ty_P_bytes_Buffer (.tmp 3) (.const (.pointer none)) (.pointer x0) (.pointer none); binOp .eql ty_P_bytes_Buffer (.pointer x0) (.pointer none)).run P w = .ok (.bool r1) w2 ∧
 br r1
 (R (.returned (.string (ByteArray.mk #[60, 110, 105, 108, 62]))) w2)
 (tk w2 fun w3 =>
 nilP x0 fun a4 =>
 nilP x0 fun a5 =>
 ∃ (v6q : OA), ∃ (v6n : Nat), ∃ (v6c : Nat), w3.cell? a4 = some (.slice v6q v6n v6c) ∧
 ∃ (v7 : Int), w3.cell? (a5.add 1) = some (.int .i64 v7) ∧
 ∃ (r8q : OA), ∃ (r8n : Nat), ∃ (r8c : Nat), (∀ w, (Instr.sliceAt ty_S_uint8 (.slice v6q v6n v6c) (some (.int .i64 v7)) none none).run P w = .ok (.slice r8q r8n r8c) w) ∧
 ∃ (r9 : BA), ∃ w10, (convert ty_S_uint8 ty_string (.slice r8q r8n r8c)).run P w3 = .ok (.string r9) w10 ∧
 R (.returned (.string r9)) w10)

noncomputable def g_bytes_Buffer_String.ac (R : EP) : AC :=
  (.seq (.leaf (sel [0] g_bytes_Buffer_String.body)) (.seq (.leaf (sel [1, 0] g_bytes_Buffer_String.body)) (.seq (.draw (.pure 0 (.pure 1 (.pure 2 (.pure 4 (.pure 5 (.pure 6 (.load 3 (.load 7 (.pure 8 (.one 9 (.pure 10 .done))))))))))) (sel [1, 1, 0] g_bytes_Buffer_String.body)) (.leaf (sel [1, 1, 1] g_bytes_Buffer_String.body)))))
theorem g_bytes_Buffer_String.good (R : EP) : Good P 15 (g_bytes_Buffer_String.ac R) (QF P [.tmp 2] R) :=
  ⟨trivial, ⟨trivial, ⟨⟨by kernel_rfl, by kernel_rfl, fun _ _ _ h => h⟩, trivial⟩⟩⟩
theorem g_bytes_Buffer_String.eq (R : EP) (x0 : OA) (w : World) : g_bytes_Buffer_String R x0 w = vcA P 15 (g_bytes_Buffer_String.ac R) (QF P [.tmp 2] R) (fr0 [.pointer x0]) w := by kernel_rfl
theorem g_bytes_Buffer_String.sound {R : EP} {x0 : OA} {w : World} (h : g_bytes_Buffer_String R x0 w) : callE P i_bytes_Buffer_String #[.pointer x0] R w :=
  callE_fin (c := g_bytes_Buffer_String.body) Tryz.func25 Tryz.call25 (by kernel_rfl) (by kernel_rfl) (by kernel_rfl) (by kernel_rfl) (by kernel_rfl) (g_bytes_Buffer_String.good R) (g_bytes_Buffer_String.eq R x0 w) h
namespace g_bytes_Buffer_WriteByte
noncomputable def body : Code := bodyOf Tryz.f248
def k1 (R : EP) (x0 : OA) (x1 : Int) (x5 : Int) (w : World) : Prop :=
 nilP x0 fun a7 =>
 ∃ (v8q : OA), ∃ (v8n : Nat), ∃ (v8c : Nat), w.cell? a7 = some (.slice v8q v8n v8c) ∧
 0 ≤ x5 ∧ x5 < (v8n : Int) ∧
 nilP v8q fun a9 =>
 stV w ((a9.add (Int.toNat x5 * 1)).add 0) (.int .u8 x1) fun w10 =>
 R (.returned .nilIface) w10

end g_bytes_Buffer_WriteByte
def g_bytes_Buffer_WriteByte (R : EP) (x0 : OA) (x1 : Int) (w : World) : Prop :=
 nilP x0 fun a1 =>
 stV w ((a1.add 2).add 0) (.int .i8 0) fun w2 =>
 callE P i_bytes_Buffer_tryGrowByReslice #[.pointer x0, .int .i64 1] (fun e w4 => ∃ (r3_0 : Int), ∃ (r3_1 : Bool), e = .returned (.tuple #[.int .i64 r3_0, .bool r3_1]) ∧
 br (!r3_1)
 (callE P i_bytes_Buffer_grow #[.pointer x0, .int .i64 1] (fun e w6 => ∃ (r5 : Int), e = .returned (.int .i64 r5) ∧
 g_bytes_Buffer_WriteByte.k1 R x0 x1 r5 w6) w4)
 (g_bytes_Buffer_WriteByte.k1 R x0 x1 r3_0 w4)) w2

noncomputable def g_bytes_Buffer_WriteByte.ac (R : EP) : AC :=
  (.seq (.leaf (sel [0] g_bytes_Buffer_WriteByte.body)) (.seq (.leaf (sel [1, 0] g_bytes_Buffer_WriteByte.body)) (.seq (.leaf (sel [1, 1, 0] g_bytes_Buffer_WriteByte.body)) (.seq (.leaf (sel [1, 1, 1, 0] g_bytes_Buffer_WriteByte.body)) (.mark (leaf [(0, .s .ptr), (1, .s (.int .u8)), (5, .s (.int .i64))] (g_bytes_Buffer_WriteByte.k1 R)) (.leaf (sel [1, 1, 1, 1] g_bytes_Buffer_WriteByte.body)))))))
theorem g_bytes_Buffer_WriteByte.good (R : EP) : Good P 26 (g_bytes_Buffer_WriteByte.ac R) (QF P [.tmp 4] R) :=
  ⟨trivial, ⟨trivial, ⟨trivial, ⟨trivial, ⟨trivial, cutE (by intro x0 x1 x5 ρ w; kernel_rfl)⟩⟩⟩⟩⟩
theorem g_bytes_Buffer_WriteByte.eq (R : EP) (x0 : OA) (x1 : Int) (w : World) : g_bytes_Buffer_WriteByte R x0 x1 w = vcA P 26 (g_bytes_Buffer_WriteByte.ac R) (QF P [.tmp 4] R) (fr0 [.pointer x0, .int .u8 x1]) w := by kernel_rfl
theorem g_bytes_Buffer_WriteByte.sound {R : EP} {x0 : OA} {x1 : Int} {w : World} (h : g_bytes_Buffer_WriteByte R x0 x1 w) : callE P i_bytes_Buffer_WriteByte #[.pointer x0, .int .u8 x1] R w :=
  callE_fin (c := g_bytes_Buffer_WriteByte.body) Tryz.func248 Tryz.call248 (by kernel_rfl) (by kernel_rfl) (by kernel_rfl) (by kernel_rfl) (by kernel_rfl) (g_bytes_Buffer_WriteByte.good R) (g_bytes_Buffer_WriteByte.eq R x0 x1 w) h
namespace g_bytes_Buffer_WriteString
noncomputable def body : Code := bodyOf Tryz.f234
def k1 (R : EP) (x0 : OA) (x1 : BA) (x6 : Int) (w : World) : Prop :=
 nilP x0 fun a7 =>
 ∃ (v8q : OA), ∃ (v8n : Nat), ∃ (v8c : Nat), w.cell? a7 = some (.slice v8q v8n v8c) ∧
 ∃ (r9q : OA), ∃ (r9n : Nat), ∃ (r9c : Nat), ∃ w10, (Instr.sliceAt ty_S_uint8 (.slice v8q v8n v8c) (some (.int .i64 x6)) none none).run P w = .ok (.slice r9q r9n r9c) w10 ∧
 ∃ (r11 : Int), ∃ w12, (Builtin.copy_ #[ty_S_uint8, ty_string] ty_int #[.slice r9q r9n r9c, .string x1]).run P w10 = .ok (.int .i64 r11) w12 ∧
 R (.returned (.tuple #[.int .i64 r11, .nilIface])) w12

end g_bytes_Buffer_WriteString
def g_bytes_Buffer_WriteString (R : EP) (x0 : OA) (x1 : BA) (w : World) : Prop :=
 nilP x0 fun a1 =>
 stV w ((a1.add 2).add 0) (.int .i8 0) fun w2 =>
 callE P i_bytes_Buffer_tryGrowByReslice #[.pointer x0, .int .i64 (x1.size : Int)] (fun e w4 => ∃ (r3_0 : Int), ∃ (r3_1 : Bool), e = .returned (.tuple #[.int .i64 r3_0, .bool r3_1]) ∧
 br (!r3_1)
 (callE P i_bytes_Buffer_grow #[.pointer x0, .int .i64 (x1.size : Int)] (fun e w6 => ∃ (r5 : Int), e = .returned (.int .i64 r5) ∧
 g_bytes_Buffer_WriteString.k1 R x0 x1 r5 w6) w4)
 (g_bytes_Buffer_WriteString.k1 R x0 x1 r3_0 w4)) w2

noncomputable def g_bytes_Buffer_WriteString.ac (R : EP) : AC :=
  (.seq (.leaf (sel [0] g_bytes_Buffer_WriteString.body)) (.seq (.leaf (sel [1, 0] g_bytes_Buffer_WriteString.body)) (.seq (.leaf (sel [1, 1, 0] g_bytes_Buffer_WriteString.body)) (.seq (.leaf (sel [1, 1, 1, 0] g_bytes_Buffer_WriteString.body)) (.mark (leaf [(0, .s .ptr), (1, .s .str), (6, .s (.int .i64))] (g_bytes_Buffer_WriteString.k1 R)) (.leaf (sel [1, 1, 1, 1] g_bytes_Buffer_WriteString.body)))))))
theorem g_bytes_Buffer_WriteString.good (R : EP) : Good P 32 (g_bytes_Buffer_WriteString.ac R) (QF P [.tmp 4, .tmp 5] R) :=
  ⟨trivial, ⟨trivial, ⟨trivial, ⟨trivial, ⟨trivial, cutE (by intro x0 x1 x6 ρ w; kernel_rfl)⟩⟩⟩⟩⟩
theorem g_bytes_Buffer_WriteString.eq (R : EP) (x0 : OA) (x1 : BA) (w : World) : g_bytes_Buffer_WriteString R x0 x1 w = vcA P 32 (g_bytes_Buffer_WriteString.ac R) (QF P [.tmp 4, .tmp 5] R) (fr0 [.pointer x0, .string x1]) w := by kernel_rfl
theorem g_bytes_Buffer_WriteString.sound {R : EP} {x0 : OA} {x1 : ByteArray} {w : World} (h : g_bytes_Buffer_WriteString R x0 x1 w) : callE P i_bytes_Buffer_WriteString #[.pointer x0, .string x1] R w :=
  callE_fin (c := g_bytes_Buffer_WriteString.body) Tryz.func234 Tryz.call234 (by kernel_rfl) (by kernel_rfl) (by kernel_rfl) (by kernel_rfl) (by kernel_rfl) (g_bytes_Buffer_WriteString.good R) (g_bytes_Buffer_WriteString.eq R x0 x1 w) h
namespace g_bytes_Buffer_grow
noncomputable def body : Code := bodyOf Tryz.f236
def k3 (R : EP) (x0 : OA) (x1 : Int) (x5 : Int) (w : World) : Prop :=
 nilP x0 fun a44 =>
 stV w ((a44.add 1).add 0) (.int .i64 0) fun w45 =>
 nilP x0 fun a46 =>
 ∃ (v47q : OA), ∃ (v47n : Nat), ∃ (v47c : Nat), w45.cell? a46 = some (.slice v47q v47n v47c) ∧
 ∃ (r48q : OA), ∃ (r48n : Nat), ∃ (r48c : Nat), ∃ w49, (Instr.sliceAt ty_S_uint8 (.slice v47q v47n v47c) none (some (.int .i64 (IntKind.i64.wrap (x5 + x1)))) none).run P w45 = .ok (.slice r48q r48n r48c) w49 ∧
 nilP x0 fun a50 =>
 stV w49 (a50.add 0) (.slice r48q r48n r48c) fun w51 =>
 R (.returned (.int .i64 x5)) w51

def k2 (R : EP) (x0 : OA) (x1 : Int) (x5 : Int) (x38 : Bool) (w : World) : Prop :=
 br x38
 (∃ (r13q : OA), ∃ (r13n : Nat), ∃ (r13c : Nat), ∃ w14, (Instr.makeSlice ty_S_uint8 (.int .i64 x1) (.int .i64 64)).run P w = .ok (.slice r13q r13n r13c) w14 ∧
 nilP x0 fun a15 =>
 stV w14 (a15.add 0) (.slice r13q r13n r13c) fun w16 =>
 R (.returned (.int .i64 0)) w16)
 (nilP x0 fun a17 =>
 ∃ (v18q : OA), ∃ (v18n : Nat), ∃ (v18c : Nat), w.cell? a17 = some (.slice v18q v18n v18c) ∧
 ∃ (r19 : Int), ∃ w20, (Builtin.cap_ #[ty_S_uint8] ty_int #[.slice v18q v18n v18c]).run P w = .ok (.int .i64 r19) w20 ∧
 (2 : Int) ≠ 0 ∧
 br (decide (x1 ≤ (IntKind.i64.wrap ((IntKind.i64.wrap (Int.tdiv r19 2)) - x5))))
 (tk w20 fun w21 =>
 nilP x0 fun a22 =>
 nilP x0 fun a23 =>
 nilP x0 fun a24 =>
 ∃ (v25q : OA), ∃ (v25n : Nat), ∃ (v25c : Nat), w21.cell? a22 = some (.slice v25q v25n v25c) ∧
 ∃ (v26q : OA), ∃ (v26n : Nat), ∃ (v26c : Nat), w21.cell? a23 = some (.slice v26q v26n v26c) ∧
 ∃ (v27 : Int), w21.cell? (a24.add 1) = some (.int .i64 v27) ∧
 ∃ (r28q : OA), ∃ (r28n : Nat), ∃ (r28c : Nat), (∀ w, (Instr.sliceAt ty_S_uint8 (.slice v26q v26n v26c) (some (.int .i64 v27)) none none).run P w = .ok (.slice r28q r28n r28c) w) ∧
 ∃ (r29 : Int), ∃ w30, (Builtin.copy_ #[ty_S_uint8, ty_S_uint8] ty_int #[.slice v25q v25n v25c, .slice r28q r28n r28c]).run P w21 = .ok (.int .i64 r29) w30 ∧
 k3 R x0 x1 x5 w30)
 (br (decide (r19 > (IntKind.i64.wrap ((IntKind.i64.wrap (9223372036854775807 - r19)) - x1))))
 (∃ (v31 : Value), w20.cell? ⟨9, 0, none⟩ = some v31 ∧
 False)
 (tk w20 fun w32 =>
 nilP x0 fun a33 =>
 nilP x0 fun a34 =>
 nilP x0 fun a35 =>
 ∃ (v36q : OA), ∃ (v36n : Nat), ∃ (v36c : Nat), w32.cell? a33 = some (.slice v36q v36n v36c) ∧
 ∃ (v37 : Int), w32.cell? (a34.add 1) = some (.int .i64 v37) ∧
 ∃ (r38q : OA), ∃ (r38n : Nat), ∃ (r38c : Nat), (∀ w, (Instr.sliceAt ty_S_uint8 (.slice v36q v36n v36c) (some (.int .i64 v37)) none none).run P w = .ok (.slice r38q r38n r38c) w) ∧
 ∃ (v39 : Int), w32.cell? (a35.add 1) = some (.int .i64 v39) ∧
 callE P i_bytes_growSlice #[.slice r38q r38n r38c, .int .i64 (IntKind.i64.wrap (v39 + x1))] (fun e w41 => ∃ (r40q : OA), ∃ (r40n : Nat), ∃ (r40c : Nat), e = .returned (.slice r40q r40n r40c) ∧
 nilP x0 fun a42 =>
 stV w41 (a42.add 0) (.slice r40q r40n r40c) fun w43 =>
 k3 R x0 x1 x5 w43) w32)))

def k1 (R : EP) (x0 : OA) (x1 : Int) (x5 : Int) (w : World) : Prop :=
 callE P i_bytes_Buffer_tryGrowByReslice #[.pointer x0, .int .i64 x1] (fun e w8 => ∃ (r7_0 : Int), ∃ (r7_1 : Bool), e = .returned (.tuple #[.int .i64 r7_0, .bool r7_1]) ∧
 br r7_1
 (R (.returned (.int .i64 r7_0)) w8)
 (nilP x0 fun a9 =>
 ∃ (v10q : OA), ∃ (v10n : Nat), ∃ (v10c : Nat), w8.cell? a9 = some (.slice v10q v10n v10c) ∧
 ∃ (r11 : Bool), ∃ w12, (do eqGuard .eql ty_S_uint8 (.tmp 33) (.const (.slice none 0 0)) (.slice v10q v10n v10c) (.slice none 0 0); binOp .eql ty_S_uint8 (.slice v10q v10n v10c) (.slice none 0 0)).run P w8 = .ok (.bool r11) w12 ∧
 k2 R x0 x1 x5 (r11 && (decide (x1 ≤ 64))) w12)) w

end g_bytes_Buffer_grow
def g_bytes_Buffer_grow (R : EP) (x0 : OA) (x1 : Int) (w : World) : Prop :=
 callE P i_bytes_Buffer_Len #[.pointer x0] (fun e w2 => ∃ (r1 : Int), e = .returned (.int .i64 r1) ∧
 br (r1 == 0)
 (nilP x0 fun a3 =>
 ∃ (v4 : Int), w2.cell? (a3.add 1) = some (.int .i64 v4) ∧
 br (v4 != 0)
 (callE P i_bytes_Buffer_Reset #[.pointer x0] (fun e w6 => e = .returned (.tuple #[]) ∧
 g_bytes_Buffer_grow.k1 R x0 x1 r1 w6) w2)
 (g_bytes_Buffer_grow.k1 R x0 x1 r1 w2))
 (g_bytes_Buffer_grow.k1 R x0 x1 r1 w2)) w

noncomputable def g_bytes_Buffer_grow.ac (R : EP) : AC :=
  (.seq (.leaf (sel [0] g_bytes_Buffer_grow.body)) (.seq (.leaf (sel [1, 0] g_bytes_Buffer_grow.body)) (.seq (.leaf (sel [1, 1, 0] g_bytes_Buffer_grow.body)) (.mark (leaf [(0, .s .ptr), (1, .s (.int .i64)), (5, .s (.int .i64))] (g_bytes_Buffer_grow.k1 R)) (.seq (.leaf (sel [1, 1, 1, 0] g_bytes_Buffer_grow.body)) (.seq (.seq (.leaf (sel [1, 1, 1, 1, 0, 0] g_bytes_Buffer_grow.body)) (.mark (leaf [(0, .s .ptr), (1, .s (.int .i64)), (5, .s (.int .i64)), (38, .s .bool)] (g_bytes_Buffer_grow.k2 R)) (.leaf (sel [1, 1, 1, 1, 0, 1] g_bytes_Buffer_grow.body)))) (.seq (.leaf (sel [1, 1, 1, 1, 1, 0] g_bytes_Buffer_grow.body)) (.seq (.seq (.leaf (sel [1, 1, 1, 1, 1, 1, 0, 0] g_bytes_Buffer_grow.body)) (.cond 54 (.draw (.pure 0 (.pure 1 (.pure 2 (.pure 4 (.pure 5 (.pure 6 (.pure 8 (.pure 9 (.pure 10 (.load 3 (.load 7 (.load 11 (.pure 12 (.one 13 .done)))))))))))))) (sel [1, 1, 1, 1, 1, 1, 0, 1, 0] g_bytes_Buffer_grow.body)) (.seq (.leaf (sel [1, 1, 1, 1, 1, 1, 0, 1, 1, 0] g_bytes_Buffer_grow.body)) (.cond 74 (.leaf (sel [1, 1, 1, 1, 1, 1, 0, 1, 1, 1, 0] g_bytes_Buffer_grow.body)) (.draw (.pure 0 (.pure 1 (.pure 2 (.pure 3 (.pure 5 (.pure 6 (.pure 7 (.pure 10 (.pure 11 (.pure 12 (.pure 14 (.load 4 (.load 8 (.pure 9 (.load 13 (.pure 15 (.one 16 (.pure 17 (.pure 18 (.one 19 .done)))))))))))))))))))) (sel [1, 1, 1, 1, 1, 1, 0, 1, 1, 1, 1] g_bytes_Buffer_grow.body)))))) (.mark (leaf [(0, .s .ptr), (1, .s (.int .i64)), (5, .s (.int .i64))] (g_bytes_Buffer_grow.k3 R)) (.leaf (sel [1, 1, 1, 1, 1, 1, 1] g_bytes_Buffer_grow.body)))))))))))
theorem g_bytes_Buffer_grow.good (R : EP) : Good P 110 (g_bytes_Buffer_grow.ac R) (QF P [.tmp 4] R) :=
  ⟨trivial, ⟨trivial, ⟨trivial, ⟨⟨trivial, ⟨⟨trivial, ⟨trivial, cutE (by intro x0 x1 x5 x38 ρ w; kernel_rfl)⟩⟩, ⟨trivial, ⟨⟨trivial, ⟨⟨by kernel_rfl, by kernel_rfl, fun _ _ _ h => h⟩, ⟨trivial, ⟨trivial, ⟨by kernel_rfl, by kernel_rfl, fun _ _ _ h => h⟩⟩⟩⟩⟩, ⟨trivial, cutE (by intro x0 x1 x5 ρ w; kernel_rfl)⟩⟩⟩⟩⟩, cutE (by intro x0 x1 x5 ρ w; kernel_rfl)⟩⟩⟩⟩
theorem g_bytes_Buffer_grow.eq (R : EP) (x0 : OA) (x1 : Int) (w : World) : g_bytes_Buffer_grow R x0 x1 w = vcA P 110 (g_bytes_Buffer_grow.ac R) (QF P [.tmp 4] R) (fr0 [.pointer x0, .int .i64 x1]) w := by kernel_rfl
theorem g_bytes_Buffer_grow.sound {R : EP} {x0 : OA} {x1 : Int} {w : World} (h : g_bytes_Buffer_grow R x0 x1 w) : callE P i_bytes_Buffer_grow #[.pointer x0, .int .i64 x1] R w :=
  callE_fin (c := g_bytes_Buffer_grow.body) Tryz.func236 Tryz.call236 (by kernel_rfl) (by kernel_rfl) (by kernel_rfl) (by kernel_rfl) (by kernel_rfl) (g_bytes_Buffer_grow.good R) (g_bytes_Buffer_grow.eq R x0 x1 w) h
namespace g_bytes_Buffer_Len
noncomputable def body : Code := bodyOf Tryz.f237
end g_bytes_Buffer_Len
def g_bytes_Buffer_Len (R : EP) (x0 : OA) (w : World) : Prop :=
 tk w fun w1 =>
 nilP x0 fun a2 =>
 nilP x0 fun a3 =>
 ∃ (v4q : OA), ∃ (v4n : Nat), ∃ (v4c : Nat), w1.cell? a2 = some (.slice v4q v4n v4c) ∧
 ∃ (v5 : Int), w1.cell? (a3.add 1) = some (.int .i64 v5) ∧
 R (.returned (.int .i64 (IntKind.i64.wrap ((v4n : Int) - v5)))) w1

noncomputable def g_bytes_Buffer_Len.ac (R : EP) : AC :=
  (.seq (.leaf (sel [0] g_bytes_Buffer_Len.body)) (.seq (.draw (.pure 0 (.pure 1 (.pure 2 (.pure 5 (.pure 6 (.pure 7 (.load 3 (.pure 4 (.load 8 (.pure 9 (.pure 10 .done))))))))))) (sel [1, 0] g_bytes_Buffer_Len.body)) (.leaf (sel [1, 1] g_bytes_Buffer_Len.body))))
theorem g_bytes_Buffer_Len.good (R : EP) : Good P 13 (g_bytes_Buffer_Len.ac R) (QF P [.tmp 2] R) :=
  ⟨trivial, ⟨⟨by kernel_rfl, by kernel_rfl, fun _ _ _ h => h⟩, trivial⟩⟩
theorem g_bytes_Buffer_Len.eq (R : EP) (x0 : OA) (w : World) : g_bytes_Buffer_Len R x0 w = vcA P 13 (g_bytes_Buffer_Len.ac R) (QF P [.tmp 2] R) (fr0 [.pointer x0]) w := by kernel_rfl
theorem g_bytes_Buffer_Len.sound {R : EP} {x0 : OA} {w : World} (h : g_bytes_Buffer_Len R x0 w) : callE P i_bytes_Buffer_Len #[.pointer x0] R w :=
  callE_fin (c := g_bytes_Buffer_Len.body) Tryz.func237 Tryz.call237 (by kernel_rfl) (by kernel_rfl) (by kernel_rfl) (by kernel_rfl) (by kernel_rfl) (g_bytes_Buffer_Len.good R) (g_bytes_Buffer_Len.eq R x0 w) h
namespace g_bytes_Buffer_tryGrowByReslice
noncomputable def body : Code := bodyOf Tryz.f235
end g_bytes_Buffer_tryGrowByReslice
def g_bytes_Buffer_tryGrowByReslice (R : EP) (x0 : OA) (x1 : Int) (w : World) : Prop :=
 nilP x0 fun a1 =>
 ∃ (v2q : OA), ∃ (v2n : Nat), ∃ (v2c : Nat), w.cell? a1 = some (.slice v2q v2n v2c) ∧
 nilP x0 fun a3 =>
 ∃ (v4q : OA), ∃ (v4n : Nat), ∃ (v4c : Nat), w.cell? a3 = some (.slice v4q v4n v4c) ∧
 ∃ (r5 : Int), ∃ w6, (Builtin.cap_ #[ty_S_uint8] ty_int #[.slice v4q v4n v4c]).run P w = .ok (.int .i64 r5) w6 ∧
 br (decide (x1 ≤ (IntKind.i64.wrap (r5 - (v2n : Int)))))
 (nilP x0 fun a7 =>
 ∃ (v8q : OA), ∃ (v8n : Nat), ∃ (v8c : Nat), w6.cell? a7 = some (.slice v8q v8n v8c) ∧
 ∃ (r9q : OA), ∃ (r9n : Nat), ∃ (r9c : Nat), ∃ w10, (Instr.sliceAt ty_S_uint8 (.slice v8q v8n v8c) none (some (.int .i64 (IntKind.i64.wrap ((v2n : Int) + x1)))) none).run P w6 = .ok (.slice r9q r9n r9c) w10 ∧
 nilP x0 fun a11 =>
 stV w10 (a11.add 0) (.slice r9q r9n r9c) fun w12 =>
 R (.returned (.tuple #[.int .i64 (v2n : Int), .bool true])) w12)
 (R (.returned (.tuple #[.int .i64 0, .bool false])) w6)

noncomputable def g_bytes_Buffer_tryGrowByReslice.ac (R : EP) : AC :=
  (.leaf (sel [] g_bytes_Buffer_tryGrowByReslice.body))
theorem g_bytes_Buffer_tryGrowByReslice.good (R : EP) : Good P 33 (g_bytes_Buffer_tryGrowByReslice.ac R) (QF P [.tmp 4, .tmp 5] R) :=
  trivial
theorem g_bytes_Buffer_tryGrowByReslice.eq (R : EP) (x0 : OA) (x1 : Int) (w : World) : g_bytes_Buffer_tryGrowByReslice R x0 x1 w = vcA P 33 (g_bytes_Buffer_tryGrowByReslice.ac R) (QF P [.tmp 4, .tmp 5] R) (fr0 [.pointer x0, .int .i64 x1]) w := by kernel_rfl
theorem g_bytes_Buffer_tryGrowByReslice.sound {R : EP} {x0 : OA} {x1 : Int} {w : World} (h : g_bytes_Buffer_tryGrowByReslice R x0 x1 w) : callE P i_bytes_Buffer_tryGrowByReslice #[.pointer x0, .int .i64 x1] R w :=
  callE_fin (c := g_bytes_Buffer_tryGrowByReslice.body) Tryz.func235 Tryz.call235 (by kernel_rfl) (by kernel_rfl) (by kernel_rfl) (by kernel_rfl) (by kernel_rfl) (g_bytes_Buffer_tryGrowByReslice.good R) (g_bytes_Buffer_tryGrowByReslice.eq R x0 x1 w) h
end Go.Proofs.YtihmcipajjakgaaGreatDoor

set_option linter.unusedVariables false
namespace Go.Proofs.YtihmcipajjakgaaGreatDoor
open Go.IntWalk
variable {P : Program} {σ : Out} {w : World} {L L' : List Chunk} {R : Ending → World → Prop}

def Sl (sz : Nat) (e : TypeId) (q : Option Addr) (n c : Nat) (vs : List Value) (M : List Chunk) : Prop :=
  vs.length = n * sz ∧ n ≤ c ∧ ((q = none ∧ n = 0 ∧ c = 0 ∧ M = []) ∨ ∃ b sp, q = some ⟨b, 0, none⟩ ∧ M = [(b, cel (vs ++ sp) e)] ∧ (vs ++ sp).length = c * sz)
theorem Sl.nil (sz : Nat) (e : TypeId) : Sl sz e none 0 0 [] [] := ⟨by simp, Nat.le_refl _, .inl ⟨rfl, rfl, rfl, rfl⟩⟩

structure Row (P : Program) (t e : TypeId) (sz bytes : Nat) where
  i : TypeInfo
  z : Value
  ht : P.underlying t = some (.slice e)
  hi : P.info? e = some i
  hz : i.zero = some z
  hs : i.size = sz
  hb : i.bytes = bytes
  hc : z.cells.size = sz
  pos : 0 < sz

theorem setCells_sat {b : Nat} {cs : List Value} {e : TypeId} (h : Sat σ w ((b, cel cs e) :: L)) : ∀ (o : Nat) (vs : List Value), o + vs.length ≤ cs.length →
    Sat σ (w.setCells b o vs) ((b, cel (cs.take o ++ vs ++ cs.drop (o + vs.length)) e) :: L) := by
  intro o vs
  induction vs generalizing o w cs with
  | nil => intro _; simpa [World.setCells] using h
  | cons v vs ih =>
    intro hl
    simp only [List.length_cons] at hl
    have h1 := h.set (k := 0) (i := o) v rfl
    have h2 := ih (w := w.setCell ⟨b, o, none⟩ v) (cs := cs.set o v) h1 (o + 1) (by simp; omega)
    simp only [World.setCells]
    have e1 : (cs.set o v).take (o + 1) = cs.take o ++ [v] := by
      rw [List.take_set, List.take_succ_eq_append_getElem (by omega), List.set_append_right _ _ (by simp; omega)]
      simp
      rw [show o - min o cs.length = 0 by omega]
      rfl
    have e2 : (cs.set o v).drop (o + 1 + vs.length) = cs.drop (o + (vs.length + 1)) := by
      rw [List.drop_set_of_lt (by omega)]
      congr 1
      omega
    rw [e1, e2] at h2
    simpa using h2

theorem Addr.add_zero_lit (b j : Nat) : Addr.add ⟨b, 0, none⟩ j = ⟨b, j, none⟩ := by
  simp [Addr.add]
  omega
theorem firstCells_sl {sz : Nat} {e : TypeId} {q : Option Addr} {n c : Nat} {vs : List Value} {M : List Chunk} (hS : Sl sz e q n c vs M) (h : Sat σ w (M ++ L)) :
    (Builtin.firstCells sz n (.slice q n c)).run P w = .ok vs.toArray w := by
  obtain ⟨hl, hnc, h1 | ⟨b, sp, h1, h2, h3⟩⟩ := hS
  · obtain ⟨rfl, rfl, rfl, rfl⟩ := h1
    have : vs = [] := List.eq_nil_of_length_eq_zero (by simpa using hl)
    subst this
    exact run_firstCells_none w sz 0 0 0
  · subst h1; subst h2
    refine run_firstCells_some w sz n _ n c vs hl fun j u hu => ?_
    rw [show (Addr.add ⟨b, 0, none⟩ j) = ⟨b, j, none⟩ from Addr.add_zero_lit b j]
    refine h.ld (List.mem_cons_self ..) ?_
    rw [List.getElem?_append_left (List.getElem?_eq_some_iff.1 hu).1]
    exact hu

theorem Sat.app {t tx ty e : TypeId} {sz bytes : Nat} (r : Row P t e sz bytes) {q : Option Addr} {n c : Nat} {vs : List Value} {M : List Chunk} (hS : Sl sz e q n c vs M)
    (h : Sat σ w (M ++ L)) {x : Value} {m : Nat} {news : List Value} (hs : Src P sz tx x m news w) (hm : 0 < m ∨ q ≠ none) (hb : (n + m) * bytes ≤ 140737488355328) (hn : n + m < 4611686018427387904) :
    ∃ q' c' w' M', (Builtin.append_ #[t, tx] ty #[.slice q n c, x]).run P w = .ok (.slice q' (n + m) c') w' ∧ Sl sz e q' (n + m) c' (vs ++ news) M' ∧ Sat σ w' (M' ++ L) ∧ q' ≠ none ∧ c ≤ c' := by
  have hfc := firstCells_sl (P := P) hS h.drew
  obtain ⟨hl, hnc, hS⟩ := hS
  obtain ⟨i, z, ht, hi, hz, hsi, hby, hzc, hpos⟩ := r
  subst hsi
  have hnl := hs.newsLen
  by_cases hroom : n + m ≤ c
  · rcases hS with ⟨rfl, rfl, rfl, rfl⟩ | ⟨b, sp, rfl, rfl, h3⟩
    · exact absurd hm (by simp; omega)
    · simp only [List.length_append] at h3
      have hle : (n + m) * i.size ≤ c * i.size := Nat.mul_le_mul_right _ hroom
      rw [Nat.add_mul] at hle
      have hlen : n * i.size + news.length ≤ (vs ++ sp).length := by rw [List.length_append, hnl]; omega
      refine ⟨_, _, _, [(b, cel (vs ++ news ++ sp.drop news.length) e)], run_append_room_src w t tx ty e i ht hi b 0 n c x m news hs hroom ?_ ?_, ⟨?_, hroom, .inr ⟨b, sp.drop news.length, rfl, rfl, ?_⟩⟩, ?_, by simp, Nat.le_refl _⟩
      · intro j hj
        rw [Nat.zero_add, h.ld (List.mem_cons_self ..) (List.getElem?_eq_getElem (by omega))]
        rfl
      · exact fun j hj => h.not_frozen (List.mem_cons_self ..)
      · rw [List.length_append, hl, hnl, Nat.add_mul]
      · rw [List.length_append, List.length_append, List.length_drop, hl, hnl]; omega
      · have := setCells_sat h (n * i.size) news hlen
        rw [Nat.zero_add]
        have e1 : (vs ++ sp).take (n * i.size) = vs := by rw [← hl, List.take_left]
        have e2 : (vs ++ sp).drop (n * i.size + news.length) = sp.drop news.length := by rw [← hl, ← List.drop_drop, List.drop_left]
        rw [e1, e2] at this
        exact this
  · have hg : c < n + m := by omega
    have hfit := growslice_fits (need := n + m) (old := c) (bytes := i.bytes) hg (by rw [hby]; exact hb)
    have hcap := grownCap_ge w (n + m) c e
    have hd : Sat σ w.drew L := h.drew.right
    refine ⟨_, _, _, [(w.heap.size, cel (vs ++ news ++ (Builtin.zeroCells z.cells (grownCap w (n + m) c e - (n + m))).toList) e)], run_append_grow_src w t tx ty e i z ht hi hz q n c vs hfc x m news hs hg (by omega) hfit,
      ⟨?_, hcap, .inr ⟨_, _, rfl, rfl, ?_⟩⟩, ?_, by simp, by omega⟩
    · rw [List.length_append, hl, hnl, Nat.add_mul]
    · rw [List.length_append, List.length_append, hl, hnl, Array.length_toList, size_zeroCells, hzc, ← Nat.add_mul, ← Nat.add_mul]
      congr 1
      omega
    · have := hd.alc (vs ++ news ++ (Builtin.zeroCells z.cells (grownCap w (n + m) c e - (n + m))).toList) e
      have e3 : YtihmcipajjakgaaGreatDoor.alc w.drew (vs ++ news ++ (Builtin.zeroCells z.cells (grownCap w (n + m) c e - (n + m))).toList).toArray e
          = w.drew.alloc (.cells ((vs ++ news).toArray ++ Builtin.zeroCells z.cells (grownCap w (n + m) c e - (n + m))) e) := by
        rw [show (vs ++ news ++ (Builtin.zeroCells z.cells (grownCap w (n + m) c e - (n + m))).toList).toArray = (vs ++ news).toArray ++ Builtin.zeroCells z.cells (grownCap w (n + m) c e - (n + m)) from by
          apply Array.ext'; simp [List.append_assoc]]
        rfl
      rw [e3] at this
      exact this

theorem Sat.app1 {t ty e : TypeId} {sz bytes : Nat} (r : Row P t e sz bytes) {q : Option Addr} {n c : Nat} {vs : List Value} {M : List Chunk} (hS : Sl sz e q n c vs M)
    (h : Sat σ w (M ++ L)) {v : Value} (hv : v.cells.size = sz) (h1 : ∀ u ∈ v.cells.toList, u.oneCell' = true)
    (hfill : Instr.fill (fun i => some (i * sz, sz)) ((Array.range (1 * sz)).map (r.z.cells[· % r.z.cells.size]!)) [(0, v)] = some v.cells)
    (hb : (n + 1) * bytes ≤ 140737488355328) (hn : n + 1 < 4611686018427387904) (hsz : sz ≤ 100) {K : Option Addr → Nat → Nat → World → Prop}
    (hK : ∀ q' c' w' M', Sl sz e q' (n + 1) c' (vs ++ v.cells.toList) M' → Sat σ w' (M' ++ L) → K q' (n + 1) c' w') :
    ∃ rq rn rc w1, (Instr.buildSlice t 1 #[(0, v)]).run P w = .ok (.slice rq rn rc) w1 ∧
      ∃ q' n' c' w2, (Builtin.append_ #[t, t] ty #[.slice q n c, .slice rq rn rc]).run P w1 = .ok (.slice q' n' c') w2 ∧ K q' n' c' w2 := by
  have hrun := run_buildSlice (P := P) w t e 1 #[(0, v)] v.cells r.i r.z r.ht r.hi r.hz (by rw [r.hs]; omega) (by rw [r.hs]; have := r.pos; omega) (by rw [r.hs]; exact hfill)
  refine ⟨_, _, _, _, hrun, ?_⟩
  have ha := h.alc v.cells.toList e
  have e3 : YtihmcipajjakgaaGreatDoor.alc w v.cells.toList.toArray e = w.alloc (.cells v.cells e) := by rw [Array.toArray_toList]; rfl
  rw [e3] at ha
  generalize hw1 : w.alloc (.cells v.cells e) = w1 at ha ⊢
  generalize w.heap.size = nb at ha ⊢
  have hs : Src P sz t (.slice (some ⟨nb, 0, none⟩) 1 1) 1 v.cells.toList w1 := by
    refine Src.ofSlice w1 r.ht _ 1 1 _ (by simp [hv]) (fun j u hu => ?_) h1
    rw [show (Addr.add ⟨nb, 0, none⟩ j) = ⟨nb, j, none⟩ from Addr.add_zero_lit nb j]
    exact ha.ld (List.mem_cons_self ..) hu
  have ha2 : Sat σ w1 (M ++ ((nb, cel v.cells.toList e) :: L)) := ha.perm List.perm_middle.symm
  obtain ⟨q', c', w', M', hr, hS', h', _⟩ := Sat.app r (ty := ty) hS ha2 hs (.inl (by omega)) hb hn
  refine ⟨q', n + 1, c', w', hr, hK q' c' w' M' hS' ?_⟩
  exact h'.sub (List.Sublist.append_left (List.sublist_cons_self ..) _)
theorem Sat.app1S {t ty e : TypeId} {sz bytes : Nat} (r : Row P t e sz bytes) {q : Option Addr} {n c : Nat} {vs : List Value} {M : List Chunk} (hS : Sl sz e q n c vs M)
    (h : Sat σ w (M ++ L)) {v : Value} (hv : v.cells.size = sz) (h1 : ∀ u ∈ v.cells.toList, u.oneCell' = true)
    (hfill : Instr.fill (fun i => some (i * sz, sz)) ((Array.range (1 * sz)).map (r.z.cells[· % r.z.cells.size]!)) [(0, v)] = some v.cells)
    (hb : (n + 1) * bytes ≤ 140737488355328) (hn : n + 1 < 4611686018427387904) (hsz : sz ≤ 100) {K : Option Addr → Nat → Nat → World → Prop} {C : World → Prop} (hC : ∀ w1 X, Sat σ w1 (X :: (M ++ L)) → C w1)
    (hK : ∀ q' c' w' M', Sl sz e q' (n + 1) c' (vs ++ v.cells.toList) M' → Sat σ w' (M' ++ L) → K q' (n + 1) c' w') :
    ∃ rq rn rc w1, (Instr.buildSlice t 1 #[(0, v)]).run P w = .ok (.slice rq rn rc) w1 ∧ C w1 ∧
      ∃ q' n' c' w2, (Builtin.append_ #[t, t] ty #[.slice q n c, .slice rq rn rc]).run P w1 = .ok (.slice q' n' c') w2 ∧ K q' n' c' w2 := by
  have hrun := run_buildSlice (P := P) w t e 1 #[(0, v)] v.cells r.i r.z r.ht r.hi r.hz (by rw [r.hs]; omega) (by rw [r.hs]; have := r.pos; omega) (by rw [r.hs]; exact hfill)
  refine ⟨_, _, _, _, hrun, ?_⟩
  have ha := h.alc v.cells.toList e
  have e3 : YtihmcipajjakgaaGreatDoor.alc w v.cells.toList.toArray e = w.alloc (.cells v.cells e) := by rw [Array.toArray_toList]; rfl
  rw [e3] at ha
  generalize hw1 : w.alloc (.cells v.cells e) = w1 at ha ⊢
  generalize w.heap.size = nb at ha ⊢
  have hs : Src P sz t (.slice (some ⟨nb, 0, none⟩) 1 1) 1 v.cells.toList w1 := by
    refine Src.ofSlice w1 r.ht _ 1 1 _ (by simp [hv]) (fun j u hu => ?_) h1
    rw [show (Addr.add ⟨nb, 0, none⟩ j) = ⟨nb, j, none⟩ from Addr.add_zero_lit nb j]
    exact ha.ld (List.mem_cons_self ..) hu
  have ha2 : Sat σ w1 (M ++ ((nb, cel v.cells.toList e) :: L)) := ha.perm List.perm_middle.symm
  obtain ⟨q', c', w', M', hr, hS', h', _⟩ := Sat.app r (ty := ty) hS ha2 hs (.inl (by omega)) hb hn
  refine ⟨hC _ _ ha, q', n + 1, c', w', hr, hK q' c' w' M' hS' ?_⟩
  exact h'.sub (List.Sublist.append_left (List.sublist_cons_self ..) _)
end Go.Proofs.YtihmcipajjakgaaGreatDoor


set_option linter.unusedVariables false
namespace Go.Proofs.YtihmcipajjakgaaGreatDoor
open Go.Proofs Go.IntWalk
variable {σ : Out} {w : World} {L L' : List Chunk} {R : Ending → World → Prop}

noncomputable def rowU8 : Row P ty_S_uint8 ty_uint8 1 1 :=
  ⟨(P.info? ty_uint8).getD default, ((P.info? ty_uint8).bind (·.zero)).getD default, by kernel_rfl, by kernel_rfl, by kernel_rfl, by kernel_rfl, by kernel_rfl, by kernel_rfl, by decide⟩
def bc (l : List UInt8) : List Value := l.map fun c => .int .u8 (c.toNat : Int)
@[simp] theorem bc_length (l : List UInt8) : (bc l).length = l.length := by simp [bc]
theorem bc_append (a b : List UInt8) : bc (a ++ b) = bc a ++ bc b := by simp [bc]
theorem bc_get {l : List UInt8} {j : Nat} (h : j < l.length) : (bc l)[j]? = some (.int .u8 (l[j].toNat : Int)) := by simp [bc, h]
theorem bc_one {l : List UInt8} : ∀ v ∈ bc l, v.oneCell' = true := by
  intro v hv
  obtain ⟨c, _, rfl⟩ := List.mem_map.1 hv
  rfl
abbrev By (q : Option Addr) (n c : Nat) (l : List UInt8) (M : List Chunk) : Prop := Sl 1 ty_uint8 q n c (bc l) M
theorem By.len {q : Option Addr} {n c : Nat} {l : List UInt8} {M : List Chunk} (h : By q n c l M) : n = l.length := by
  have := h.1
  rw [bc_length] at this
  omega
theorem By.nil : By none 0 0 [] [] := Sl.nil 1 ty_uint8

theorem byteCells_bs (s : List UInt8) : Go.byteCells (bs s) = bc s := by
  simp [Go.byteCells, bc, bs]
theorem By.appS {q : Option Addr} {n c : Nat} {l : List UInt8} {M : List Chunk} (hS : By q n c l M) (h : Sat σ w (M ++ L)) (s : List UInt8) (h0 : s ≠ [] ∨ q ≠ none) (hb : n + s.length ≤ 1099511627776)
    {K : Option Addr → Nat → Nat → World → Prop} (hK : ∀ q' c' w' M', By q' (n + s.length) c' (l ++ s) M' → Sat σ w' (M' ++ L) → q' ≠ none → c ≤ c' → K q' (n + s.length) c' w') :
    ∃ q' n' c' w', (Builtin.append_ #[ty_S_uint8, ty_string] ty_S_uint8 #[.slice q n c, .string (bs s)]).run P w = .ok (.slice q' n' c') w' ∧ K q' n' c' w' := by
  have hsrc := Src.ofString (P := P) (w := w) (tx := ty_string) (by kernel_rfl) (bs s)
  rw [bs_size, byteCells_bs] at hsrc
  have h0' : 0 < s.length ∨ q ≠ none := by
    rcases h0 with h | h
    · exact .inl (List.length_pos_iff.2 h)
    · exact .inr h
  obtain ⟨q', c', w', M', hr, hS', h', h1, h2⟩ := Sat.app rowU8 (ty := ty_S_uint8) hS h hsrc h0' (by omega) (by omega)
  refine ⟨q', _, c', w', hr, hK q' c' w' M' ?_ h' h1 h2⟩
  show Sl _ _ _ _ _ (bc (l ++ s)) _
  rw [bc_append]
  exact hS'
theorem By.app1 {q : Option Addr} {n c : Nat} {l : List UInt8} {M : List Chunk} (hS : By q n c l M) (h : Sat σ w (M ++ L)) (k : UInt8) (hb : n + 1 ≤ 1099511627776)
    {K : Option Addr → Nat → Nat → World → Prop} (hK : ∀ q' c' w' M', By q' (n + 1) c' (l ++ [k]) M' → Sat σ w' (M' ++ L) → K q' (n + 1) c' w') :
    ∃ rq rn rc w1, (Instr.buildSlice ty_S_uint8 1 #[(0, .int .u8 (k.toNat : Int))]).run P w = .ok (.slice rq rn rc) w1 ∧
    ∃ q' n' c' w', (Builtin.append_ #[ty_S_uint8, ty_S_uint8] ty_S_uint8 #[.slice q n c, .slice rq rn rc]).run P w1 = .ok (.slice q' n' c') w' ∧ K q' n' c' w' := by
  refine Sat.app1 rowU8 hS h (v := .int .u8 (k.toNat : Int)) rfl (by simp [Value.cells, Value.oneCell']) (by kernel_rfl) (by omega) (by omega) (by decide) fun q' c' w' M' h1 h2 => hK q' c' w' M' ?_ h2
  show Sl _ _ _ _ _ (bc (l ++ [k])) _
  rw [bc_append]
  exact h1
theorem By.str {q : Option Addr} {n c : Nat} {l : List UInt8} {M : List Chunk} (hS : By q n c l M) (h : Sat σ w (M ++ L)) :
    (convert ty_S_uint8 ty_string (.slice q n c)).run P w = .ok (.string (bs l)) w := by
  have hn := hS.len
  subst hn
  obtain ⟨_, _, ⟨rfl, hn0, rfl, rfl⟩ | ⟨b, sp, rfl, rfl, h3⟩⟩ := hS
  · obtain rfl := List.eq_nil_of_length_eq_zero hn0
    exact Lib.run_convert_nil_bytes w _ _ ty_uint8 0 (by kernel_rfl) (by kernel_rfl) (by kernel_rfl)
  · refine run_convert_bytes_back w _ _ ty_uint8 ⟨b, 0, none⟩ c l (by kernel_rfl) (by kernel_rfl) (by kernel_rfl) fun j hj => ?_
    rw [Addr.add_zero_lit]
    refine h.ld (.head _) ?_
    rw [List.getElem?_append_left (by rw [bc_length]; exact hj), bc_get hj]
theorem sliceLH {P : Program} {t e : TypeId} {i : TypeInfo} (ht : P.underlying t = some (.slice e)) (hi : P.info? e = some i) (a : Option Addr) (n c l m : Nat) (h1 : l ≤ m) (h2 : m ≤ c) (w : World) :
    (Instr.sliceAt t (.slice a n c) (some (.int .i64 l)) (some (.int .i64 m)) none).run P w = .ok (.slice (if c = l then a else a.map (·.add (l * i.size))) (m - l) (c - l)) w := by
  simp [Instr.sliceAt, Instr.slice, Instr.sliceBounds, run_underlying ht, sizeOf, typeInfo, hi, run_sliceBound w .i64 (m : Int) c .sliceAcap (by omega) (by omega), run_sliceBound w .i64 (l : Int) m .sliceB (by omega) (by omega)]
theorem sliceF {P : Program} {t e : TypeId} {i : TypeInfo} (ht : P.underlying t = some (.slice e)) (hi : P.info? e = some i) (a : Option Addr) (n c l : Nat) (h1 : l ≤ n) (w : World) :
    (Instr.sliceAt t (.slice a n c) (some (.int .i64 l)) none none).run P w = .ok (.slice (if c = l then a else a.map (·.add (l * i.size))) (n - l) (c - l)) w := by
  simp [Instr.sliceAt, Instr.slice, Instr.sliceBounds, run_underlying ht, sizeOf, typeInfo, hi, run_sliceBound w .i64 (l : Int) n .sliceB (by omega) (by omega)]
theorem sliceT {P : Program} {t e : TypeId} {i : TypeInfo} (ht : P.underlying t = some (.slice e)) (hi : P.info? e = some i) (a : Option Addr) (n c m : Nat) (h2 : m ≤ c) (w : World) :
    (Instr.sliceAt t (.slice a n c) none (some (.int .i64 m)) none).run P w = .ok (.slice a m c) w := by
  have e1 : ∀ a : Addr, a.add 0 = a := fun a => rfl
  simp [Instr.sliceAt, Instr.slice, Instr.sliceBounds, run_underlying ht, sizeOf, typeInfo, hi, run_sliceBound w .i64 (m : Int) c .sliceAcap (by omega) (by omega), e1]

theorem capRun {P : Program} (t ty : TypeId) (q : Option Addr) (n c : Nat) (e : TypeId) (ht : P.underlying t = some (.slice e)) (w : World) : (Builtin.cap_ #[t] ty #[.slice q n c]).run P w = .ok (.int .i64 c) w := by
  simp [Builtin.cap_, underlying, ht, goInt]
abbrev bufC (b : Nat) (q : Option Addr) (n c : Nat) (lr : Int) : Chunk := (b, cel [.slice q n c, .int .i64 0, .int .i8 lr] ty_bytes_Buffer)
def Buf (b : Nat) (l : List UInt8) (M : List Chunk) : Prop := ∃ q c lr M0, M = bufC b q l.length c lr :: M0 ∧ By q l.length c l M0 ∧ c ≤ 9223372036854775807
theorem tryGrow_ok {b : Nat} {q : Option Addr} {n c m : Nat} {lr : Int} (h : Sat σ w (bufC b q n c lr :: L)) (hnc : n ≤ c) (hc : c ≤ 9223372036854775807) (hn : n < 4611686018427387904) (hm : m < 4611686018427387904)
    (h1 : n + m ≤ c → ∀ w, Sat σ w (bufC b q (n + m) c lr :: L) → R (.returned (.tuple #[.int .i64 n, .bool true])) w)
    (h0 : c < n + m → ∀ w, Sat σ w (bufC b q n c lr :: L) → R (.returned (.tuple #[.int .i64 0, .bool false])) w) :
    callE P i_bytes_Buffer_tryGrowByReslice #[.pointer (some ⟨b, 0, none⟩), .int .i64 m] R w := by
  refine g_bytes_Buffer_tryGrowByReslice.sound ?_
  refine nilP_some ?_
  refine ⟨_, _, _, h.ldA, ?_⟩
  refine nilP_some ?_
  refine ⟨_, _, _, h.ldA, ?_⟩
  refine ⟨_, _, capRun _ _ _ _ _ _ rowU8.ht w, ?_⟩
  rw [i64_in _ (by omega)]
  by_cases hm' : n + m ≤ c
  · refine br_true (by simp; omega) ?_
    refine nilP_some ?_
    refine ⟨_, _, _, h.ldA, ?_⟩
    rw [i64_in _ (by omega), show ((n : Int) + m) = ((n + m : Nat) : Int) by omega]
    refine ⟨_, _, _, _, sliceT rowU8.ht rowU8.hi q n c (n + m) hm' w, ?_⟩
    refine nilP_some ?_
    refine h.stA 0 fun w h => ?_
    exact h1 hm' _ h
  · refine br_false (by simp; omega) ?_
    exact h0 (by omega) _ h
theorem bufLen_ok {b : Nat} {q : Option Addr} {n c : Nat} {lr : Int} (h : Sat σ w (bufC b q n c lr :: L)) (hn : n < 4611686018427387904) (hR : ∀ w, Sat σ w (bufC b q n c lr :: L) → R (.returned (.int .i64 n)) w) :
    callE P i_bytes_Buffer_Len #[.pointer (some ⟨b, 0, none⟩)] R w := by
  refine g_bytes_Buffer_Len.sound ?_
  refine h.tk fun w h => ?_
  refine nilP_some (nilP_some ?_)
  refine ⟨_, _, _, h.ldA, ?_⟩
  refine ⟨_, h.ldA, ?_⟩
  rw [i64_in _ (by omega), Int.sub_zero]
  exact hR _ h
end Go.Proofs.YtihmcipajjakgaaGreatDoor


set_option linter.unusedVariables false
set_option maxRecDepth 20000
namespace Go.Proofs.YtihmcipajjakgaaGreatDoor
open Go.Proofs
noncomputable abbrev x_internal_abi_NoEscape : Func := Tryz.f188
theorem xf_internal_abi_NoEscape : P.funcs[i_internal_abi_NoEscape]? = some x_internal_abi_NoEscape := Tryz.func188
noncomputable abbrev x_internal_bytealg_MakeNoZero : Func := Tryz.f189
theorem xf_internal_bytealg_MakeNoZero : P.funcs[i_internal_bytealg_MakeNoZero]? = some x_internal_bytealg_MakeNoZero := Tryz.func189
theorem cf_bytes_growSlice : ∀ args w, (callFunc i_bytes_growSlice args).run P w = .ok (.enter i_bytes_growSlice args) w := Tryz.call238
end Go.Proofs.YtihmcipajjakgaaGreatDoor


set_option linter.unusedVariables false
namespace Go.Proofs.YtihmcipajjakgaaGreatDoor
open Go.Proofs Go.Shelf
def lays290_ren : Go.Shelf.Ren := ⟨fun | 290 => 238 | 324 => 239 | n => n, fun | 37 => 47 | 3 => 3 | 0 => 0 | 4 => 4 | 20 => 20 | 75 => 170 | 5 => 5 | 80 => 56 | 9 => 9 | n => n, fun | 14 => 9 | n => n⟩
theorem lays290 : Go.Proofs.LaysM.n290 Tryz.prog lays290_ren := {
  mixed := by kernel_rfl
  f290 := Tryz.func238.trans (congrArg some (by kernel_rfl))
  f324 := Tryz.func239.trans (congrArg some (by kernel_rfl))
  t0 := Tryz.underlying0
  a0 := Tryz.isAgg0
  z0 := Tryz.sizeOf0
  v0 := Tryz.zeroValue0
  t3 := Tryz.underlying3
  a3 := Tryz.isAgg3
  z3 := Tryz.sizeOf3
  v3 := Tryz.zeroValue3
  t4 := Tryz.underlying4
  a4 := Tryz.isAgg4
  z4 := Tryz.sizeOf4
  v4 := Tryz.zeroValue4
  t20 := Tryz.underlying20
  a20 := Tryz.isAgg20
  z20 := Tryz.sizeOf20
  v20 := Tryz.zeroValue20
  t37 := Tryz.underlying47
  a37 := Tryz.isAgg47
  z37 := Tryz.sizeOf47
  v37 := Tryz.zeroValue47
  t75 := Tryz.underlying170
  a75 := Tryz.isAgg170
  z75 := Tryz.sizeOf170
  v75 := Tryz.zeroValue170
  g14 := by kernel_rfl
  t5 := Tryz.underlying5
  a5 := Tryz.isAgg5
  z5 := Tryz.sizeOf5
  v5 := Tryz.zeroValue5
  t9 := Tryz.underlying9
  a9 := Tryz.isAgg9
  z9 := Tryz.sizeOf9
  v9 := Tryz.zeroValue9
  t80 := Tryz.underlying56
  a80 := Tryz.isAgg56
  z80 := Tryz.sizeOf56
  v80 := Tryz.zeroValue56
  i0 := by kernel_rfl
  i3 := by kernel_rfl
  i4 := by kernel_rfl
  i5 := by kernel_rfl
  i9 := by kernel_rfl
  i20 := by kernel_rfl
  i37 := by kernel_rfl
  i75 := by kernel_rfl
  i80 := by kernel_rfl
  m14 := by kernel_rfl }
end Go.Proofs.YtihmcipajjakgaaGreatDoor


set_option linter.unusedVariables false
namespace Go.Proofs.YtihmcipajjakgaaGreatDoor
open Go.Proofs Go.IntWalk
variable {σ : Out} {w : World} {L L' : List Chunk} {R : Ending → World → Prop}

theorem ext_of {f : FuncId} {fn : Func} {e : Array Value → Sem Value} {args : Array Value} {v : Value} {w' : World} (hf : P.funcs[f]? = some fn) (hname : (fn.name == "runtime.NumGoroutine") = false)
    (hb : fn.body.isNone = true) (hn : Extern.findNext fn = none) (he : Extern.find fn = some e) (hr : (e args).run P w = .ok v w') (h : R (.returned v) w') : callE P f args R w := by
  refine .inr ⟨v, w', ?_, h⟩
  rw [run_callFunc_extern hf hname hb hn he, hr]
  rfl
theorem noEscape_ok {x : Value} (h : R (.returned x) w) : callE P i_internal_abi_NoEscape #[x] R w :=
  ext_of (e := Extern.AbiNoEscape.same) xf_internal_abi_NoEscape (by kernel_rfl) (by kernel_rfl) (by kernel_rfl) (by kernel_rfl) rfl h
end Go.Proofs.YtihmcipajjakgaaGreatDoor


set_option linter.unusedVariables false
namespace Go.Proofs.YtihmcipajjakgaaGreatDoor
open Go.Proofs
theorem bin_eql {P : Program} {t : TypeId} {a b : Value} {r : Bool} {w : World} {x y : Operand} (h1 : (eqGuard .eql t x y a b).run P w = .ok () w) (h2 : binOp .eql t a b = (do pure (.bool (← Op.equal t a b))))
    (h : (Op.equal t a b).run P w = .ok r w) : (do eqGuard .eql t x y a b; binOp .eql t a b).run P w = .ok (.bool r) w := by
  rw [h2]
  simp only [Sem.run_bind, h1, h, Result.andThen_ok]
  rfl
theorem bin_neq {P : Program} {t : TypeId} {a b : Value} {r : Bool} {w : World} {x y : Operand} (h1 : (eqGuard .neq t x y a b).run P w = .ok () w) (h2 : binOp .neq t a b = (do pure (.bool (!(← Op.equal t a b)))))
    (h : (Op.equal t a b).run P w = .ok r w) : (do eqGuard .neq t x y a b; binOp .neq t a b).run P w = .ok (.bool (!r)) w := by
  rw [h2]
  simp only [Sem.run_bind, h1, h, Result.andThen_ok]
  rfl
variable {P : Program}
theorem equal_slice_nil {t e : TypeId} (hu : P.underlying t = some (.slice e)) (q : Option Addr) (n c : Nat) (w : World) : (Op.equal t (.slice q n c) (.slice none 0 0)).run P w = .ok q.isNone w :=
  have h : ∀ d, (Op.equalIn (d + 1) t (.slice q n c) (.slice none 0 0)).run P w = .ok q.isNone w := fun d => by
    cases q <;> simp [Op.equalIn, run_underlying hu]
  h 9999
theorem eq_slice_nil {t e : TypeId} {x y : Operand} (hu : P.underlying t = some (.slice e)) (q : Option Addr) (n c : Nat) (w : World) :
    (do eqGuard .eql t x y (.slice q n c) (.slice none 0 0); binOp .eql t (.slice q n c) (.slice none 0 0)).run P w = .ok (.bool q.isNone) w :=
  bin_eql rfl rfl (equal_slice_nil hu q n c w)
theorem equal_ptr_nil {t e : TypeId} (hu : P.underlying t = some (.pointer e)) (q : Option Addr) (w : World) : (Op.equal t (.pointer q) (.pointer none)).run P w = .ok q.isNone w :=
  have h : ∀ d, (Op.equalIn (d + 1) t (.pointer q) (.pointer none)).run P w = .ok q.isNone w := fun d => by
    cases q <;> simp [Op.equalIn, run_underlying hu]
  h 9999
theorem ptrNil_eq {t e : TypeId} {x y : Operand} (hu : P.underlying t = some (.pointer e)) (q : Option Addr) (w : World) :
    (do eqGuard .eql t x y (.pointer q) (.pointer none); binOp .eql t (.pointer q) (.pointer none)).run P w = .ok (.bool q.isNone) w :=
  bin_eql rfl rfl (equal_ptr_nil hu q w)
theorem neq_ptr_nil {t e : TypeId} {x y : Operand} (hu : P.underlying t = some (.pointer e)) (q : Option Addr) (w : World) :
    (do eqGuard .neq t x y (.pointer q) (.pointer none); binOp .neq t (.pointer q) (.pointer none)).run P w = .ok (.bool (!q.isNone)) w :=
  bin_neq rfl rfl (equal_ptr_nil hu q w)
theorem equal_ptr_same {t e : TypeId} (hu : P.underlying t = some (.pointer e)) {i : TypeInfo} (hi : P.info? e = some i) (hs : i.size ≠ 0) (b : Nat) (w : World) : (Op.equal t (.pointer (some ⟨b, 0, none⟩)) (.pointer (some ⟨b, 0, none⟩))).run P w = .ok true w :=
  have h : ∀ d, (Op.equalIn (d + 1) t (.pointer (some ⟨b, 0, none⟩)) (.pointer (some ⟨b, 0, none⟩))).run P w = .ok true w := fun d => by
    simp [Op.equalIn, run_underlying hu, sizeOf, typeInfo, hi, hs, sameAddr]
  h 9999
theorem neq_ptr_same {t e : TypeId} {x y : Operand} (hu : P.underlying t = some (.pointer e)) {i : TypeInfo} (hi : P.info? e = some i) (hs : i.size ≠ 0) (b : Nat) (w : World) :
    (do eqGuard .neq t x y (.pointer (some ⟨b, 0, none⟩)) (.pointer (some ⟨b, 0, none⟩)); binOp .neq t (.pointer (some ⟨b, 0, none⟩)) (.pointer (some ⟨b, 0, none⟩))).run P w = .ok (.bool false) w :=
  bin_neq rfl rfl (equal_ptr_same hu hi hs b w)
theorem neq_func_nil {t : TypeId} {ps rs : Array TypeId} {vr : Bool} {x y : Operand} (hu : P.underlying t = some (.func ps rs vr)) (k : FuncId) (f g : Array Value) (w : World) :
    (do eqGuard .neq t x y (.func (.func k) f g) .nilFunc; binOp .neq t (.func (.func k) f g) .nilFunc).run P w = .ok (.bool true) w := by
  have h : ∀ d, (Op.equalIn (d + 1) t (.func (.func k) f g) .nilFunc).run P w = .ok false w := fun d => by
    simp [Op.equalIn, run_underlying hu]
  exact bin_neq rfl rfl (h 9999)
theorem neq_nil_nil {t : TypeId} {ps rs : Array TypeId} {vr : Bool} {x y : Operand} (hu : P.underlying t = some (.func ps rs vr)) (w : World) :
    (do eqGuard .neq t x y .nilFunc .nilFunc; binOp .neq t .nilFunc .nilFunc).run P w = .ok (.bool false) w := by
  have h : ∀ d, (Op.equalIn (d + 1) t .nilFunc .nilFunc).run P w = .ok true w := fun d => by
    simp [Op.equalIn, run_underlying hu]
  exact bin_neq rfl rfl (h 9999)
end Go.Proofs.YtihmcipajjakgaaGreatDoor


set_option linter.unusedVariables false
namespace Go.Proofs.YtihmcipajjakgaaGreatDoor
open Go.Proofs Go.IntWalk Go.RowKit
variable {σ : Out} {w : World} {L L' : List Chunk} {R : Ending → World → Prop}

theorem Sat.newRow (h : Sat σ w L) {w' : World} (hb : Below w.heap.size w w') {cs : Array Value} {e : TypeId} (hr : w'.heap[w.heap.size]? = some (.cells cs e)) : Sat σ w' ((w.heap.size, cel cs.toList e) :: L) := by
  refine ⟨hb.os.trans h.os, hb.output.trans h.out, ?_, ?_⟩
  · simp only [List.map_cons, List.nodup_cons]
    refine ⟨fun hm => ?_, h.nodup⟩
    obtain ⟨c, hc, he⟩ := List.mem_map.1 hm
    exact Nat.lt_irrefl _ (he ▸ h.lt hc)
  · intro c hc
    cases hc with
    | head => simpa [cel] using hr
    | tail _ hc =>
      rw [hb.block _ (h.lt hc)]
      exact h.at_ _ hc
theorem callE_calls {f : FuncId} {args : Array Value} (hc : ∀ args w, (callFunc f args).run P w = .ok (.enter f args) w) (h : Calls P f args w R) : callE P f args R w := .inl ⟨hc, h⟩

theorem growSlice_ok {q : Option Addr} {n c m : Nat} {l : List UInt8} {M : List Chunk} (hS : By q n c l M) (h : Sat σ w (M ++ L)) (hm : 1 ≤ m) (hcm : c < n + m) (hb : n + m ≤ 1099511627776)
    (hR : ∀ w b c' sp, n + m ≤ c' → c' ≤ 9223372036854775807 → By (some ⟨b, 0, none⟩) n c' l [(b, cel (bc l ++ sp) ty_uint8)] → Sat σ w ((b, cel (bc l ++ sp) ty_uint8) :: (M ++ L)) → R (.returned (.slice (some ⟨b, 0, none⟩) n c')) w) :
    callE P i_bytes_growSlice #[.slice q n c, .int .i64 m] R w := by
  have hn := hS.len
  have hS0 := hS
  obtain ⟨hl, hnc, ⟨rfl, rfl, rfl, rfl⟩ | ⟨b, sp, rfl, rfl, h3⟩⟩ := hS
  · have hl0 : l = [] := List.eq_nil_of_length_eq_zero (by omega)
    subst hl0
    refine callE_calls cf_bytes_growSlice ((Any.bytes_growSlice_nil (P := P) lays290 m w hm (by omega)).mono ?_)
    rintro e w' ⟨cap2, cells, rfl, hr, hsz, hge, hle, hbl⟩
    have := h.newRow hbl hr
    have ht5 : lays290_ren.t 5 = ty_uint8 := rfl
    rw [ht5] at this
    refine hR w' _ cap2 cells.toList (by omega) (by unfold maxLen at hle; exact hle) ⟨by simp [bc], by omega, .inr ⟨_, cells.toList, rfl, rfl, ?_⟩⟩ this
    simp [bc, hsz]
  · have hg := h.at_ _ (.head _)
    refine callE_calls cf_bytes_growSlice ((Any.bytes_growSlice_row (P := P) lays290 b n c m (bc l ++ sp).toArray w hg (by simpa using h3) hnc hm (by omega) (by omega) ?_).mono ?_)
    · intro v hv
      rw [hn] at hv
      rw [show (bc l ++ sp).toArray.toList.take l.length = bc l from by rw [← bc_length l]; simp] at hv
      exact bc_one v hv
    · rintro e w' ⟨cap2, cells, rfl, hr, hsz, htk, hge, hle, hbl⟩
      have htk' : cells.toList.take n = bc l := by rw [htk, hn, ← bc_length l]; simp
      have hcs : cells.toList = bc l ++ cells.toList.drop n := by rw [← htk', List.take_append_drop]
      have := h.newRow hbl hr
      rw [hcs] at this
      refine hR w' _ cap2 (cells.toList.drop n) hge (by unfold maxLen at hle; exact hle) ⟨by simp; omega, by omega, .inr ⟨_, _, rfl, rfl, ?_⟩⟩ this
      rw [← hcs, Array.length_toList]; omega
theorem By.raw {q : Option Addr} {n c : Nat} {l : List UInt8} {M : List Chunk} (h : By q n c l M) : (q = none ∧ n = 0 ∧ c = 0 ∧ M = []) ∨ ∃ b sp, q = some ⟨b, 0, none⟩ ∧ M = [(b, cel (bc l ++ sp) ty_uint8)] ∧ (bc l ++ sp).length = c := by
  obtain ⟨_, _, h | ⟨b, sp, h1, h2, h3⟩⟩ := h
  · exact .inl h
  · exact .inr ⟨b, sp, h1, h2, by omega⟩
theorem grow_ok {b : Nat} {q : Option Addr} {c m : Nat} {lr : Int} {l : List UInt8} {M : List Chunk} (h : Sat σ w (bufC b q l.length c lr :: (M ++ L))) (hS : By q l.length c l M) (hm : 1 ≤ m) (hcm : c < l.length + m) (hb : l.length + m ≤ 1099511627776)
    (hR : ∀ w g c' sp lr, l.length + m ≤ c' → c' ≤ 9223372036854775807 → (bc l ++ sp).length = c' → Sat σ w (bufC b (some ⟨g, 0, none⟩) (l.length + m) c' lr :: (g, cel (bc l ++ sp) ty_uint8) :: L) → R (.returned (.int .i64 l.length)) w) :
    callE P i_bytes_Buffer_grow #[.pointer (some ⟨b, 0, none⟩), .int .i64 m] R w := by
  have hnc := hS.2.1
  refine g_bytes_Buffer_grow.sound ?_
  refine bufLen_ok h (by omega) fun w h => ⟨_, rfl, ?_⟩
  have key2 : ∀ w, Sat σ w (bufC b q l.length c lr :: (M ++ L)) → 1 ≤ m → tk w fun w32 =>
      nilP (some ⟨b, 0, none⟩) fun a33 => nilP (some ⟨b, 0, none⟩) fun a34 => nilP (some ⟨b, 0, none⟩) fun a35 =>
      ∃ (v36q : Option Addr), ∃ (v36n : Nat), ∃ (v36c : Nat), w32.cell? a33 = some (.slice v36q v36n v36c) ∧
      ∃ (v37 : Int), w32.cell? (a34.add 1) = some (.int .i64 v37) ∧
      ∃ (r38q : Option Addr), ∃ (r38n : Nat), ∃ (r38c : Nat), (∀ w, (Instr.sliceAt ty_S_uint8 (.slice v36q v36n v36c) (some (.int .i64 v37)) none none).run P w = .ok (.slice r38q r38n r38c) w) ∧
      ∃ (v39 : Int), w32.cell? (a35.add 1) = some (.int .i64 v39) ∧
      callE P i_bytes_growSlice #[.slice r38q r38n r38c, .int .i64 (IntKind.i64.wrap (v39 + (m : Int)))] (fun e w41 => ∃ (r40q : Option Addr), ∃ (r40n : Nat), ∃ (r40c : Nat), e = .returned (.slice r40q r40n r40c) ∧
      nilP (some ⟨b, 0, none⟩) fun a42 => stV w41 (a42.add 0) (.slice r40q r40n r40c) fun w43 => g_bytes_Buffer_grow.k3 R (some ⟨b, 0, none⟩) m l.length w43) w32 := by
    intro w h _
    refine h.tk fun w h => ?_
    refine nilP_some (nilP_some (nilP_some ?_))
    refine ⟨_, _, _, h.ldA, ?_⟩
    refine ⟨_, h.ldA, ?_⟩
    refine ⟨_, _, _, fun w => sliceF rowU8.ht rowU8.hi q l.length c 0 (by omega) w, ?_⟩
    refine ⟨_, h.ldA, ?_⟩
    rw [Int.zero_add, i64_in _ (by omega)]
    have e0 : (if c = 0 then q else q.map (·.add (0 * rowU8.i.size))) = q := by
      rw [Nat.zero_mul]
      split
      · rfl
      · cases q <;> rfl
    rw [e0, Nat.sub_zero, Nat.sub_zero]
    have h : Sat σ w (M ++ (bufC b q l.length c lr :: L)) := h.re (by intro _; simp only [List.append_eq, cnt_append, cnt_cons, cnt_nil] <;> omega)
    refine growSlice_ok hS h hm hcm hb fun w g c' sp h1 h2 h3 h => ⟨_, _, _, rfl, nilP_some ?_⟩
    have h : Sat σ w (bufC b q l.length c lr :: (g, cel (bc l ++ sp) ty_uint8) :: (M ++ L)) := h.re (by intro _; simp only [List.append_eq, cnt_append, cnt_cons, cnt_nil] <;> omega)
    refine h.stA 0 fun w h => ?_
    refine nilP_some ?_
    refine h.stA 0 fun w h => ?_
    refine nilP_some ?_
    refine ⟨_, _, _, h.ldA, ?_⟩
    rw [i64_in _ (by omega), show ((l.length : Int) + m) = ((l.length + m : Nat) : Int) by omega]
    refine ⟨_, _, _, _, sliceT rowU8.ht rowU8.hi _ _ c' (l.length + m) h1 w, ?_⟩
    refine nilP_some ?_
    refine h.stA 0 fun w h => ?_
    have h4 : (bc l ++ sp).length = c' := by
      obtain ⟨_, _, ⟨h, _⟩ | ⟨b', sp', e1, e2, h3⟩⟩ := h3
      · cases h
      · simp only [List.cons.injEq, Prod.mk.injEq] at e2
        have : cel (bc l ++ sp) ty_uint8 = cel (bc l ++ sp') ty_uint8 := e2.1.2
        simp only [cel, Obj.cells.injEq, and_true] at this
        have e3 : bc l ++ sp = bc l ++ sp' := by simpa using congrArg Array.toList this
        rw [e3]; omega
    refine hR w g c' sp lr h1 h2 h4 ?_
    have h : Sat σ w (bufC b (some ⟨g, 0, none⟩) (l.length + m) c' lr :: (g, cel (bc l ++ sp) ty_uint8) :: (M ++ L)) := h
    exact h.less M (by intro _; simp only [List.append_eq, cnt_append, cnt_cons, cnt_nil] <;> omega)
  have key : ∀ w, Sat σ w (bufC b q l.length c lr :: (M ++ L)) → g_bytes_Buffer_grow.k1 R (some ⟨b, 0, none⟩) m l.length w := by
    intro w h
    refine tryGrow_ok h hnc (by omega) (by omega) (by omega) (fun hh => absurd hh (by omega)) fun _ w h => ⟨_, _, rfl, ?_⟩
    refine br_false rfl ?_
    refine nilP_some ?_
    refine ⟨_, _, _, h.ldA, ?_⟩
    refine ⟨_, _, eq_slice_nil rowU8.ht q _ c w, ?_⟩
    rcases hS.raw with ⟨rfl, hl0, rfl, rfl⟩ | ⟨g, sp, rfl, rfl, h3⟩
    · obtain rfl := List.eq_nil_of_length_eq_zero hl0
      by_cases h64 : m ≤ 64
      · refine br_true (by simp; omega) ?_
        have hmk := run_makeSlice (P := P) (w := w) ty_S_uint8 ty_uint8 rowU8.i rowU8.z rowU8.ht rowU8.hi rowU8.hz .i64 .i64 (m : Int) 64 (by omega) (by omega) (by rw [rowU8.hs]; decide) (by rw [rowU8.hb]; decide) (by omega)
        refine ⟨_, _, _, _, hmk, nilP_some ?_⟩
        rw [rowU8.hs]
        have hal := h.alc (madeCells rowU8.z.cells ((64 : Int).toNat * 1)).toList ty_uint8
        rw [show YtihmcipajjakgaaGreatDoor.alc w (madeCells rowU8.z.cells ((64 : Int).toNat * 1)).toList.toArray ty_uint8 = w.alloc (.cells (madeCells rowU8.z.cells ((64 : Int).toNat * 1)) ty_uint8) from by rw [Array.toArray_toList]; rfl] at hal
        generalize w.heap.size = g at hal ⊢
        refine Sat.st hal (k := 1) rfl (Nat.le_of_ble_eq_true rfl) trivial rfl fun w h => ?_
        refine hR w g 64 (madeCells rowU8.z.cells ((64 : Int).toNat * 1)).toList lr (by simpa using h64) (by omega) ?_ ?_
        · show ([] ++ (madeCells rowU8.z.cells ((64 : Int).toNat * 1)).toList).length = 64
          rw [List.nil_append, Array.length_toList, size_madeCells]; decide
        · have e : m = ([] : List UInt8).length + m := by simp
          rw [← e]
          have h : Sat σ w ((g, cel (madeCells rowU8.z.cells ((64 : Int).toNat * 1)).toList ty_uint8) :: bufC b (some ⟨g, 0, none⟩) m 64 lr :: L) := h
          exact h.up1
      · refine br_false (by simp; omega) ?_
        refine nilP_some ?_
        refine ⟨_, _, _, h.ldA, ?_⟩
        refine ⟨_, _, capRun _ _ _ _ _ _ rowU8.ht w, by decide, ?_⟩
        refine br_false (by rw [show Int.tdiv ((0 : Nat) : Int) 2 = 0 from rfl]; simp (disch := omega) only [i64_in]; simp; omega) ?_
        refine br_false (by simp (disch := omega) only [i64_in]; simp; omega) ?_
        exact key2 w h (by omega)
    · refine br_false (by simp) ?_
      refine nilP_some ?_
      refine ⟨_, _, _, h.ldA, ?_⟩
      refine ⟨_, _, capRun _ _ _ _ _ _ rowU8.ht w, by decide, ?_⟩
      have hd : Int.tdiv (c : Int) 2 = ((c / 2 : Nat) : Int) := by rw [Int.tdiv_eq_ediv_of_nonneg (by omega)]; omega
      rw [hd]
      refine br_false (by simp (disch := omega) only [i64_in]; simp; omega) ?_
      refine br_false (by simp (disch := omega) only [i64_in]; simp; omega) ?_
      exact key2 w h (by omega)
  refine br_split (fun h0 => ?_) (fun _ => key w h)
  refine nilP_some ?_
  refine ⟨_, h.ldA, ?_⟩
  exact br_false rfl (key w h)
theorem u8size : (P.info? ty_uint8).map (·.size) = some 1 := by kernel_rfl
theorem byS_mk {b n c : Nat} {l : List UInt8} {sp : List Value} (hn : n = l.length) (h : (bc l ++ sp).length = c) : By (some ⟨b, 0, none⟩) n c l [(b, cel (bc l ++ sp) ty_uint8)] := by
  refine ⟨by rw [bc_length]; omega, ?_, .inr ⟨b, sp, rfl, rfl, by omega⟩⟩
  rw [List.length_append, bc_length] at h
  omega
theorem Sat.row {g : Nat} {cs : List Value} {e : TypeId} (h : Sat σ w ((g, cel cs e) :: L)) (o : Nat) (vs : List Value) (hl : o + vs.length ≤ cs.length) :
    Sat σ (w.setRow g (cs.take o ++ vs ++ cs.drop (o + vs.length)).toArray) ((g, cel (cs.take o ++ vs ++ cs.drop (o + vs.length)) e) :: L) := by
  have hg := h.at_ _ (.head _)
  refine ⟨h.os, h.out, h.nodup, fun c hc => ?_⟩
  cases hc with
  | head =>
    simp only [World.setRow, Array.getElem?_modify, if_true]
    rw [show w.heap[g]? = _ from hg]
    simp [cel]
  | tail _ hc =>
    have hne : g ≠ c.1 := by
      intro h1
      have := h.nodup
      simp only [List.map_cons, List.nodup_cons] at this
      exact this.1 (by rw [h1]; exact List.mem_map.2 ⟨c, hc, rfl⟩)
    simp only [World.setRow, Array.getElem?_modify, if_neg hne]
    exact h.at_ _ (.tail _ hc)
theorem writeK_ok {b g c : Nat} {lr : Int} {l s : List UInt8} {sp : List Value} (h : Sat σ w (bufC b (some ⟨g, 0, none⟩) (l.length + s.length) c lr :: (g, cel (bc l ++ sp) ty_uint8) :: L)) (hc : (bc l ++ sp).length = c) (hle : l.length + s.length ≤ c) (hc2 : c ≤ 9223372036854775807)
    (hR : ∀ w M, Buf b (l ++ s) M → Sat σ w (M ++ L) → R (.returned (.tuple #[.int .i64 s.length, .nilIface])) w) : g_bytes_Buffer_WriteString.k1 R (some ⟨b, 0, none⟩) (bs s) l.length w := by
  refine nilP_some ?_
  refine ⟨_, _, _, h.ldA, ?_⟩
  refine ⟨_, _, _, _, sliceF rowU8.ht rowU8.hi _ (l.length + s.length) c l.length (by omega) w, ?_⟩
  have h : Sat σ w ((g, cel (bc l ++ sp) ty_uint8) :: bufC b (some ⟨g, 0, none⟩) (l.length + s.length) c lr :: L) := h.up1
  have hg := h.at_ _ (.head _)
  by_cases h0 : c = l.length
  · have hs : s = [] := List.eq_nil_of_length_eq_zero (by omega)
    subst hs
    rw [if_pos h0]
    have hcp := Lib.run_copy_row_string (P := P) w ty_S_uint8 ty_string ty_int ty_uint8 g 0 (l.length + ([] : List UInt8).length - l.length) (c - l.length) (bs []) (bc l ++ sp).toArray ty_uint8 rowU8.ht u8size hg (by simp) (by simp)
    refine ⟨_, _, hcp, ?_⟩
    have hrow := h.row 0 [] (by simp)
    have e1 : ((bc l ++ sp).toArray.toList.take 0 ++ Lib.byteCells (bs []).data.toList ++ (bc l ++ sp).toArray.toList.drop (0 + (bs []).size)) = (bc l ++ sp).take 0 ++ [] ++ (bc l ++ sp).drop (0 + ([] : List Value).length) := by
      simp [Lib.byteCells]
    rw [e1]
    have e2 : (bc l ++ sp).take 0 ++ [] ++ (bc l ++ sp).drop (0 + ([] : List Value).length) = bc l ++ sp := by simp
    rw [e2] at hrow ⊢
    refine hR _ (bufC b (some ⟨g, 0, none⟩) (l ++ []).length c lr :: [(g, cel (bc (l ++ []) ++ sp) ty_uint8)]) ⟨_, c, lr, _, rfl, byS_mk rfl (by rw [List.append_nil]; exact hc), hc2⟩ ?_
    rw [List.append_nil]
    exact hrow.up1
  · rw [if_neg h0]
    rw [rowU8.hs, Nat.mul_one]
    have e1 : (some (⟨g, 0, none⟩ : Addr)).map (·.add l.length) = some ⟨g, l.length, none⟩ := by simp [Addr.add_zero_lit]
    rw [e1]
    have hcp := Lib.run_copy_row_string (P := P) w ty_S_uint8 ty_string ty_int ty_uint8 g l.length (l.length + s.length - l.length) (c - l.length) (bs s) (bc l ++ sp).toArray ty_uint8 rowU8.ht u8size hg (by simp) (by simp at hc ⊢; omega)
    refine ⟨_, _, hcp, ?_⟩
    have hb : Lib.byteCells (bs s).data.toList = bc s := by simp [Lib.byteCells, bc, bs]
    rw [hb, bs_size]
    have hrow := h.row l.length (bc s) (by simp at hc ⊢; omega)
    rw [bc_length] at hrow
    have e2 : (bc l ++ sp).take l.length = bc l := by rw [← bc_length l, List.take_left]
    have e3 : (bc l ++ sp).drop (l.length + s.length) = sp.drop s.length := by
      rw [List.drop_append, List.drop_eq_nil_of_le (by rw [bc_length]; omega), bc_length, Nat.add_sub_cancel_left]; rfl
    rw [e2, e3] at hrow
    refine hR _ (bufC b (some ⟨g, 0, none⟩) (l ++ s).length c lr :: [(g, cel (bc (l ++ s) ++ sp.drop s.length) ty_uint8)]) ⟨_, c, lr, _, rfl, byS_mk rfl ?_, hc2⟩ ?_
    · simp at hc ⊢; omega
    · rw [List.length_append, bc_append]
      simp only [e2, e3]
      exact hrow.up1
end Go.Proofs.YtihmcipajjakgaaGreatDoor


set_option linter.unusedVariables false
namespace Go.Proofs.YtihmcipajjakgaaGreatDoor
open Go.Proofs Go.IntWalk Go.RowKit
variable {σ : Out} {w : World} {L L' : List Chunk} {R : Ending → World → Prop}
theorem copyNil (w : World) : (Builtin.copy_ #[ty_S_uint8, ty_string] ty_int #[.slice none 0 0, .string (bs [])]).run P w = .ok (.int .i64 0) w := by
  have h : P.underlying ty_S_uint8 = some (.slice ty_uint8) := rowU8.ht
  have h2 : P.info? ty_uint8 = some rowU8.i := rowU8.hi
  have h3 := firstCells_string (P := P) (bs []) w
  have h4 : (Builtin.lenOf (.string (bs []))).run P w = .ok 0 w := rfl
  have h5 : rowU8.i.size = 1 := rowU8.hs
  have h6 : (Builtin.firstCells 1 0 (.string (bs []))).run P w = .ok (Go.byteCells (bs [])).toArray w := h3
  simp [Builtin.copy_, run_underlying h, sizeOf, typeInfo, h2, goInt, h4, h5, h6]
theorem writeS_ok {b : Nat} {l s : List UInt8} {M : List Chunk} (hB : Buf b l M) (h : Sat σ w (M ++ L)) (hb : l.length + s.length ≤ 1099511627776)
    (hR : ∀ w M', Buf b (l ++ s) M' → Sat σ w (M' ++ L) → R (.returned (.tuple #[.int .i64 s.length, .nilIface])) w) : callE P i_bytes_Buffer_WriteString #[.pointer (some ⟨b, 0, none⟩), .string (bs s)] R w := by
  obtain ⟨q, c, lr, M0, rfl, hS, hc⟩ := hB
  have hnc := hS.2.1
  refine g_bytes_Buffer_WriteString.sound ?_
  refine nilP_some ?_
  refine h.stA 0 fun w h => ?_
  have h : Sat σ w (bufC b q l.length c 0 :: (M0 ++ L)) := h
  rw [bs_size]
  refine tryGrow_ok h hnc hc (by omega) (by omega) (fun hh w h => ⟨_, _, rfl, br_false rfl ?_⟩) (fun hh w h => ⟨_, _, rfl, br_true rfl ?_⟩)
  · rcases hS.raw with ⟨rfl, hl0, rfl, rfl⟩ | ⟨g, sp, rfl, rfl, h3⟩
    · obtain rfl := List.eq_nil_of_length_eq_zero hl0
      obtain rfl : s = [] := List.eq_nil_of_length_eq_zero (by simpa using hh)
      refine nilP_some ?_
      refine ⟨_, _, _, h.ldA, ?_⟩
      refine ⟨_, _, _, _, sliceF rowU8.ht rowU8.hi none 0 0 0 (by omega) w, ?_⟩
      refine ⟨_, _, copyNil w, ?_⟩
      exact hR w _ ⟨none, 0, 0, [], rfl, By.nil, by omega⟩ h
    · exact writeK_ok h h3 hh hc fun w M' hB h => hR w M' hB h
  · refine grow_ok h hS (by omega) hh hb fun w g c' sp lr h1 h2 h3 h => ⟨_, rfl, ?_⟩
    exact writeK_ok h h3 h1 h2 fun w M' hB h => hR w M' hB h
theorem writeB_ok {b : Nat} {l : List UInt8} {k : UInt8} {M : List Chunk} (hB : Buf b l M) (h : Sat σ w (M ++ L)) (hb : l.length + 1 ≤ 1099511627776)
    (hR : ∀ w M', Buf b (l ++ [k]) M' → Sat σ w (M' ++ L) → R (.returned .nilIface) w) : callE P i_bytes_Buffer_WriteByte #[.pointer (some ⟨b, 0, none⟩), .int .u8 (k.toNat : Int)] R w := by
  obtain ⟨q, c, lr, M0, rfl, hS, hc⟩ := hB
  have hnc := hS.2.1
  refine g_bytes_Buffer_WriteByte.sound ?_
  refine nilP_some ?_
  refine h.stA 0 fun w h => ?_
  have h : Sat σ w (bufC b q l.length c 0 :: (M0 ++ L)) := h
  have key : ∀ w g c' sp lr, l.length + 1 ≤ c' → c' ≤ 9223372036854775807 → (bc l ++ sp).length = c' → Sat σ w (bufC b (some ⟨g, 0, none⟩) (l.length + 1) c' lr :: (g, cel (bc l ++ sp) ty_uint8) :: L) →
      g_bytes_Buffer_WriteByte.k1 R (some ⟨b, 0, none⟩) (k.toNat : Int) (l.length : Int) w := by
    intro w g c' sp lr h1 h2 h3 h
    refine nilP_some ?_
    refine ⟨_, _, _, h.ldA, ?_⟩
    refine ⟨by omega, by omega, nilP_some ?_⟩
    simp only [Addr.add_lit, Int.toNat_natCast, Nat.mul_one, Nat.zero_add, Nat.add_zero]
    simp only [List.length_append, bc_length] at h3
    refine Sat.st h (k := 1) rfl (by simp; omega) trivial rfl fun w h => ?_
    have e : (bc l ++ sp).set l.length (.int .u8 (k.toNat : Int)) = bc (l ++ [k]) ++ sp.drop 1 := by
      rw [List.set_append_right _ _ (by simp), bc_length, Nat.sub_self, bc_append]
      cases sp with
      | nil => simp at h3; omega
      | cons x sp => simp [bc]
    have h : Sat σ w (bufC b (some ⟨g, 0, none⟩) (l.length + 1) c' lr :: (g, cel ((bc l ++ sp).set l.length (.int .u8 (k.toNat : Int))) ty_uint8) :: L) := h
    rw [e] at h
    refine hR w (bufC b (some ⟨g, 0, none⟩) (l ++ [k]).length c' lr :: [(g, cel (bc (l ++ [k]) ++ sp.drop 1) ty_uint8)]) ⟨_, c', lr, _, rfl, byS_mk rfl (by simp; omega), h2⟩ ?_
    rw [List.length_append]
    exact h
  refine tryGrow_ok (m := 1) h hnc hc (by omega) (by omega) (fun hh w h => ⟨_, _, rfl, br_false rfl ?_⟩) (fun hh w h => ⟨_, _, rfl, br_true rfl ?_⟩)
  · rcases hS.raw with ⟨rfl, hl0, rfl, rfl⟩ | ⟨g, sp, rfl, rfl, h3⟩
    · omega
    · exact key w g c sp 0 hh hc h3 h
  · exact grow_ok (m := 1) h hS (by omega) hh hb fun w g c' sp lr h1 h2 h3 h => ⟨_, rfl, key w g c' sp lr h1 h2 h3 h⟩
theorem bufStr_ok {b : Nat} {l : List UInt8} {M : List Chunk} (hB : Buf b l M) (h : Sat σ w (M ++ L)) (hR : ∀ w, Sat σ w (M ++ L) → R (.returned (.string (bs l))) w) :
    callE P i_bytes_Buffer_String #[.pointer (some ⟨b, 0, none⟩)] R w := by
  obtain ⟨q, c, lr, M0, rfl, hS, hc⟩ := hB
  refine g_bytes_Buffer_String.sound ?_
  refine ⟨_, _, ptrNil_eq (e := ty_bytes_Buffer) (by kernel_rfl) _ w, br_false rfl ?_⟩
  refine h.tk fun w h => ?_
  refine nilP_some (nilP_some ?_)
  refine ⟨_, _, _, h.ldA, ?_⟩
  refine ⟨_, h.ldA, ?_⟩
  refine ⟨_, _, _, fun w => sliceF rowU8.ht rowU8.hi q l.length c 0 (by omega) w, ?_⟩
  have e0 : (if c = 0 then q else q.map (·.add (0 * rowU8.i.size))) = q := by
    rw [Nat.zero_mul]
    split
    · rfl
    · cases q <;> rfl
  rw [e0, Nat.sub_zero, Nat.sub_zero]
  have h' : Sat σ w (M0 ++ (bufC b q l.length c lr :: L)) := h.re (by intro _; simp only [List.append_eq, cnt_append, cnt_cons, cnt_nil] <;> omega)
  exact ⟨_, _, hS.str h', hR w h⟩
theorem bufNew (b : Nat) : Buf b [] [(b, cel [.slice none 0 0, .int .i64 0, .int .i8 0] ty_bytes_Buffer)] := ⟨none, 0, 0, [], rfl, By.nil, by omega⟩
end Go.Proofs.YtihmcipajjakgaaGreatDoor


set_option linter.unusedVariables false
namespace Go.Proofs.YtihmcipajjakgaaGreatDoor
open Go.Proofs Go.IntWalk Go.RowKit
variable {σ : Out} {w : World} {L L' : List Chunk} {R : Ending → World → Prop}
abbrev bldC (b : Nat) (p q : Option Addr) (n c : Nat) : Chunk := (b, cel [.pointer p, .slice q n c] ty_strings_Builder)
def Bld (b : Nat) (g : Bool) (l : List UInt8) (M : List Chunk) : Prop :=
  ∃ p q c M0, M = bldC b p q l.length c :: M0 ∧ By q l.length c l M0 ∧ (p = none ∨ p = some ⟨b, 0, none⟩) ∧ q.isSome = g ∧ (g = true → 0 < c)
theorem bldNew (b : Nat) : Bld b false [] [(b, cel [.pointer none, .slice none 0 0] ty_strings_Builder)] := ⟨none, none, 0, [], rfl, By.nil, .inl rfl, rfl, by simp⟩
theorem Sat.shape (h : Sat σ w L) {b : Nat} {cs : List Value} {e : TypeId} (hm : (b, cel cs e) ∈ L) : w.shape? b = some (e, cs.length) := by
  have := h.at_ _ hm
  simp only [cel] at this
  simp [World.shape?, this]
theorem copyCheck_ok {b : Nat} {p q : Option Addr} {n c : Nat} (h : Sat σ w (bldC b p q n c :: L)) (hp : p = none ∨ p = some ⟨b, 0, none⟩)
    (hR : ∀ w, Sat σ w (bldC b (some ⟨b, 0, none⟩) q n c :: L) → R (.returned (.tuple #[])) w) : callE P i_strings_Builder_copyCheck #[.pointer (some ⟨b, 0, none⟩)] R w := by
  have hu : P.underlying ty_P_strings_Builder = some (.pointer ty_strings_Builder) := by kernel_rfl
  have hun : P.underlying ty_unsafe_Pointer = some .unsafePointer := by kernel_rfl
  have hi : P.info? ty_strings_Builder = some ((P.info? ty_strings_Builder).getD default) := by kernel_rfl
  have hs : ((P.info? ty_strings_Builder).getD default).size = 2 := by kernel_rfl
  have hsh := h.shape (.head _)
  refine g_strings_Builder_copyCheck.sound ?_
  refine nilP_some ?_
  refine ⟨_, h.ldA, ?_⟩
  refine ⟨_, _, ptrNil_eq hu _ w, ?_⟩
  rcases hp with rfl | rfl
  · refine br_true rfl ?_
    refine ⟨_, _, Lib.run_to_unsafe w ⟨b, 0, none⟩ hu hun hi (by rw [hs]; decide) hsh (Nat.zero_lt_succ _), ?_⟩
    refine noEscape_ok ⟨_, rfl, ?_⟩
    refine ⟨_, _, Lib.run_from_unsafe w ⟨b, 0, none⟩ hun hu hi hsh (by kernel_rfl), ?_⟩
    refine nilP_some ?_
    refine h.stA 0 fun w h => ?_
    exact hR _ h
  · refine br_false rfl ?_
    refine nilP_some ?_
    refine ⟨_, h.ldA, ?_⟩
    refine ⟨_, _, neq_ptr_same hu hi (by rw [hs]; decide) b w, br_false rfl ?_⟩
    exact hR _ h
theorem bldS_ok {b : Nat} {g : Bool} {l s : List UInt8} {M : List Chunk} (hB : Bld b g l M) (h : Sat σ w (M ++ L)) (h0 : s ≠ [] ∨ g = true) (hb : l.length + s.length ≤ 1099511627776)
    (hR : ∀ w M', Bld b true (l ++ s) M' → Sat σ w (M' ++ L) → R (.returned (.tuple #[.int .i64 s.length, .nilIface])) w) : callE P i_strings_Builder_WriteString #[.pointer (some ⟨b, 0, none⟩), .string (bs s)] R w := by
  obtain ⟨p, q, c, M0, rfl, hS, hp, hg, hc⟩ := hB
  refine g_strings_Builder_WriteString.sound ?_
  refine copyCheck_ok h hp fun w h => ⟨rfl, ?_⟩
  refine nilP_some ?_
  refine ⟨_, _, _, h.ldA, ?_⟩
  have h : Sat σ w (M0 ++ (bldC b (some ⟨b, 0, none⟩) q l.length c :: L)) := h.re (by intro _; simp only [List.append_eq, cnt_append, cnt_cons, cnt_nil] <;> omega)
  have h0' : s ≠ [] ∨ q ≠ none := h0.imp id (fun hg1 => by rw [← hg] at hg1; intro h; rw [h] at hg1; cases hg1)
  refine hS.appS h s h0' hb fun q' c' w M' hS' h hq' hcc => ?_
  have h : Sat σ w (bldC b (some ⟨b, 0, none⟩) q l.length c :: (M' ++ L)) := h.re (by intro _; simp only [List.append_eq, cnt_append, cnt_cons, cnt_nil] <;> omega)
  refine nilP_some ?_
  refine h.stA 0 fun w h => ?_
  rw [bs_size]
  have hc' : 0 < c' := by
    rcases h0 with h0 | h0
    · have := hS'.2.1
      have := List.length_pos_iff.2 h0
      omega
    · have := hc h0; omega
  rw [← List.length_append] at hS'
  refine hR w (bldC b (some ⟨b, 0, none⟩) q' (l ++ s).length c' :: M') ⟨_, _, _, _, rfl, hS', .inr rfl, Option.isSome_iff_ne_none.2 hq', fun _ => hc'⟩ ?_
  rw [List.length_append]
  exact h
theorem Sat.freeze {b : Nat} {cs : List Value} {e : TypeId} (h : Sat σ w ((b, cel cs e) :: L)) (n : Nat) : Sat σ (w.freeze ⟨b, 0, none⟩ n) L := by
  unfold World.freeze
  split
  · exact h.tail
  · refine ⟨h.os, h.out, h.tail.nodup, fun c hc => ?_⟩
    have hne : b ≠ c.1 := by
      intro h1
      have := h.nodup
      simp only [List.map_cons, List.nodup_cons] at this
      exact this.1 (by rw [h1]; exact List.mem_map.2 ⟨c, hc, rfl⟩)
    simp only [Array.getElem?_modify, if_neg hne]
    exact h.at_ _ (.tail _ hc)
theorem bldStr_ok {b : Nat} {g : Bool} {l : List UInt8} {M : List Chunk} (hB : Bld b g l M) (h : Sat σ w (M ++ L)) (hl : l.length < 4611686018427387904) (hR : ∀ w, Sat σ w L → R (.returned (.string (bs l))) w) :
    callE P i_strings_Builder_String #[.pointer (some ⟨b, 0, none⟩)] R w := by
  obtain ⟨p, q, c, M0, rfl, hS, hp, hg, hc⟩ := hB
  refine g_strings_Builder_String.sound ?_
  refine h.tk fun w h => ?_
  refine nilP_some (nilP_some ?_)
  refine ⟨_, _, _, h.ldA, ?_⟩
  refine ⟨_, _, _, h.ldA, ?_⟩
  rcases hS.raw with ⟨rfl, hl0, rfl, rfl⟩ | ⟨gb, sp, rfl, rfl, h3⟩
  · obtain rfl := List.eq_nil_of_length_eq_zero hl0
    refine ⟨_, _, Lib.run_unsafeSliceData_nil (P := P) (w := w) _ _ _ _, fun _ _ => rfl, ?_⟩
    refine ⟨_, _, Lib.run_unsafeString_none (P := P) (w := w) _ _ _ _, hR _ h.tail⟩
  · refine ⟨_, _, Lib.run_unsafeSliceData_row (P := P) (w := w) _ _ _ _ _ (by have := hc (by rw [← hg]; rfl); omega), fun _ _ => rfl, ?_⟩
    have h' : Sat σ w ((gb, cel (bc l ++ sp) ty_uint8) :: L) := h.tail
    by_cases hl0 : l = []
    · subst hl0
      refine ⟨_, _, Lib.run_unsafeString_none (P := P) (w := w) _ _ _ _, hR _ h'.tail⟩
    · refine ⟨_, _, Lib.run_unsafeString_row (w := w) ty_P_uint8 ty_int ty_string ty_uint8 (by kernel_rfl) (by kernel_rfl) gb _ (h'.shape (.head _)) l hl0 (by simp) (by omega) (fun j x hj => ?_), hR _ (h'.freeze _)⟩
      rw [Addr.add_zero_lit]
      have hj' := (List.getElem?_eq_some_iff.1 hj).1
      refine h'.ld (.head _) ?_
      rw [List.getElem?_append_left (by rw [bc_length]; exact hj'), bc_get hj']
      rw [(List.getElem?_eq_some_iff.1 hj).2]
end Go.Proofs.YtihmcipajjakgaaGreatDoor


set_option linter.unusedVariables false
namespace Go.Proofs.YtihmcipajjakgaaGreatDoor
open Go.Proofs Go.IntWalk Go.RowKit
variable {σ : Out} {w : World} {L L' : List Chunk} {R : Ending → World → Prop}
abbrev Prs := List (UInt8 × List UInt8)
def escB (ps : Prs) (c : UInt8) : List UInt8 := match ps.find? (fun p => p.1 == c) with | some p => p.2 | none => [c]
def escS (ps : Prs) (s : List UInt8) : List UInt8 := s.flatMap (escB ps)
def pairC : Prs → List Value
  | [] => []
  | p :: ps => .string (bs [p.1]) :: .string (bs p.2) :: pairC ps
theorem pairC_key : ∀ {ps : Prs} {j : Nat} (h : j < ps.length), (pairC ps)[2 * j]? = some (.string (bs [ps[j].1]))
  | p :: ps, 0, h => rfl
  | p :: ps, j + 1, h => by
    rw [show 2 * (j + 1) = 2 * j + 1 + 1 by omega]
    simp only [pairC, List.getElem?_cons_succ, List.getElem_cons_succ]
    exact pairC_key (by simpa using h)
theorem pairC_val : ∀ {ps : Prs} {j : Nat} (h : j < ps.length), (pairC ps)[2 * j + 1]? = some (.string (bs ps[j].2))
  | p :: ps, 0, h => rfl
  | p :: ps, j + 1, h => by
    rw [show 2 * (j + 1) + 1 = 2 * j + 1 + 1 + 1 by omega]
    simp only [pairC, List.getElem?_cons_succ, List.getElem_cons_succ]
    exact pairC_val (by simpa using h)
def small8 (ps : Prs) : Bool := ps.all fun p => p.2.length ≤ 8
theorem escB_length {ps : Prs} (h : small8 ps = true) (c : UInt8) : (escB ps c).length ≤ 8 := by
  unfold escB
  split
  · rename_i p hp
    have := List.mem_of_find?_eq_some hp
    simpa using (List.all_eq_true.1 h) p this
  · simp
theorem escS_length {ps : Prs} (h : small8 ps = true) : ∀ s : List UInt8, (escS ps s).length ≤ 8 * s.length
  | [] => by simp [escS]
  | c :: s => by
    have := escS_length h s
    have := escB_length h c
    simp only [escS, List.flatMap_cons, List.length_append, List.length_cons] at *
    omega
theorem escS_cons (ps : Prs) (c : UInt8) (s : List UInt8) : escS ps (c :: s) = escB ps c ++ escS ps s := by simp [escS]
theorem escS_append (ps : Prs) (s t : List UInt8) : escS ps (s ++ t) = escS ps s ++ escS ps t := by simp [escS]

theorem writePairs_ok {b pb c : Nat} {e : TypeId} {l s : List UInt8} {ps : Prs} {M : List Chunk} (hB : Buf b l M) (h : Sat σ w (M ++ L)) (hp : (pb, cel (pairC ps) e) ∈ L) (h8 : small8 ps = true) (hpl : ps.length < 100000)
    (hs : s.length < 4611686018427387904) (hb : l.length + 8 * s.length ≤ 1099511627776)
    (hR : ∀ w M', Buf b (l ++ escS ps s) M' → Sat σ w (M' ++ L) → R (.returned (.tuple #[])) w) :
    callE P i_zzPairs_WriteString #[.slice (some ⟨pb, 0, none⟩) (2 * ps.length) c, .pointer (some ⟨b, 0, none⟩), .string (bs s)] R w := by
  refine g_zzPairs_WriteString.sound ?_
  intro X hX
  have key : ∀ k i l w M, i + k = s.length → Buf b l M → Sat σ w (M ++ L) → l.length + 8 * k ≤ 1099511627776 → (∀ w M', Buf b (l ++ escS ps (s.drop i)) M' → Sat σ w (M' ++ L) → R (.returned (.tuple #[])) w) →
      X (some ⟨pb, 0, none⟩) (2 * ps.length) c (some ⟨b, 0, none⟩) (bs s) i w := by
    intro k
    induction k with
    | zero =>
      intro i l w M hi hB h hb hR
      refine hX _ _ _ _ _ _ _ (br_false (by simp; omega) ?_)
      refine hR w M ?_ h
      rw [List.drop_eq_nil_of_le (by omega)]
      simpa [escS] using hB
    | succ k ih =>
      intro i l w M hi hB h hb hR
      have hil : i < s.length := by omega
      rw [List.drop_eq_getElem_cons hil, escS_cons, ← List.append_assoc] at hR
      have hlen8 := escB_length h8 s[i]
      refine hX _ _ _ _ _ _ _ (br_true (by simp; omega) ?_)
      intro Y hY
      have key2 : ∀ m j w, j + m = ps.length → ps.find? (fun p => p.1 == s[i]) = (ps.drop j).find? (fun p => p.1 == s[i]) → Sat σ w (M ++ L) → Y (some ⟨pb, 0, none⟩) (2 * ps.length) c (some ⟨b, 0, none⟩) (bs s) i ((2 * j : Nat) : Int) w := by
        intro m
        induction m with
        | zero =>
          intro j w hj hf h
          refine hY _ _ _ _ _ _ _ _ (br_false (by simp; omega) ?_)
          refine ⟨by omega, by simp; omega, ?_⟩
          rw [bt_at hil]
          have he : escB ps s[i] = [s[i]] := by
            unfold escB
            rw [hf, List.drop_eq_nil_of_le (by omega)]
            rfl
          rw [he] at hR hlen8
          refine writeB_ok hB h (by omega) fun w M' hB h => ⟨_, rfl, ?_⟩
          rw [i64_inc (by omega)]
          exact ih (i + 1) _ w M' (by omega) hB h (by simp; omega) hR
        | succ m ihm =>
          intro j w hj hf h
          have hjl : j < ps.length := by omega
          refine hY _ _ _ _ _ _ _ _ (br_true (by simp; omega) ?_)
          refine h.tk fun w h => ?_
          refine ⟨by omega, by simp; omega, by omega, by omega, nilP_some ?_⟩
          simp only [Addr.add_lit, Int.toNat_natCast, Nat.mul_one, Nat.zero_add]
          refine ⟨_, Sat.ld h (List.mem_append_right _ hp) (pairC_key hjl), by omega, by simp, ?_⟩
          rw [bt_at hil, show bt (bs [ps[j].1]) 0 = (ps[j].1.toNat : Int) from rfl, u8_beq]
          by_cases hk : s[i] = ps[j].1
          · refine br_true (by simp [hk]) ?_
            have e1 : IntKind.i64.wrap (((2 * j : Nat) : Int) + 1) = ((2 * j + 1 : Nat) : Int) := i64_inc (by omega)
            rw [e1]
            refine ⟨by omega, by omega, nilP_some ?_⟩
            simp only [Addr.add_lit, Int.toNat_natCast, Nat.mul_one, Nat.zero_add]
            refine ⟨_, Sat.ld h (List.mem_append_right _ hp) (pairC_val hjl), ?_⟩
            have he : escB ps s[i] = ps[j].2 := by
              unfold escB
              rw [hf, List.drop_eq_getElem_cons hjl, List.find?_cons_of_pos (by simp [hk])]
            rw [he] at hR hlen8
            refine writeS_ok hB h (by omega) fun w M' hB h => ⟨_, _, rfl, ?_⟩
            rw [i64_inc (by omega)]
            exact ih (i + 1) _ w M' (by omega) hB h (by simp; omega) hR
          · refine br_false (by simpa using hk) ?_
            have e1 : IntKind.i64.wrap (((2 * j : Nat) : Int) + 2) = ((2 * (j + 1) : Nat) : Int) := by simp (disch := omega) only [i64_in]; omega
            rw [e1]
            refine ihm (j + 1) w (by omega) ?_ h
            rw [hf, List.drop_eq_getElem_cons hjl, List.find?_cons_of_neg (by simpa using fun h => hk h.symm)]
      exact key2 ps.length 0 w (by omega) (by rw [List.drop_zero]) h
  exact key s.length 0 l w M (by omega) hB h hb (by rw [List.drop_zero]; exact hR)

theorem pairsReplace_ok {pb c : Nat} {e : TypeId} {s : List UInt8} {ps : Prs} (h : Sat σ w L) (hp : (pb, cel (pairC ps) e) ∈ L) (h8 : small8 ps = true) (hpl : ps.length < 100000) (hs : s.length < 4294967296)
    (hR : ∀ w, Sat σ w L → R (.returned (.string (bs (escS ps s)))) w) :
    callE P i_zzPairs_Replace #[.slice (some ⟨pb, 0, none⟩) (2 * ps.length) c, .string (bs s)] R w := by
  refine g_zzPairs_Replace.sound ?_
  refine Sat.bx h fun b w h => ?_
  refine writePairs_ok (bufNew b) h hp h8 hpl (by omega) (by simp; omega) fun w M hB h => ⟨rfl, ?_⟩
  rw [List.nil_append] at hB
  exact bufStr_ok hB h fun w h => ⟨_, rfl, hR w (h.less M (by intro _; simp only [List.append_eq, cnt_append, cnt_cons, cnt_nil] <;> omega))⟩

theorem buildR {t e : TypeId} {n : Nat} {ps : Array (Nat × Value)} {cs : List Value} (h : Sat σ w L) (ht : P.underlying t = some (.slice e)) (hi : P.info? e = some ((P.info? e).getD default))
    (hz : ((P.info? e).getD default).zero = some (((P.info? e).bind (·.zero)).getD default)) (hs : ((P.info? e).getD default).size = 1) (hn : n ≤ 1000) (hn0 : n ≠ 0)
    (hfill : Instr.fill (fun i => some (i * 1, 1)) ((Array.range (n * 1)).map ((((P.info? e).bind (·.zero)).getD default).cells[· % (((P.info? e).bind (·.zero)).getD default).cells.size]!)) ps.toList = some cs.toArray) {K : Option Addr → Nat → Nat → World → Prop}
    (hK : ∀ b w, Sat σ w ((b, cel cs e) :: L) → K (some ⟨b, 0, none⟩) n n w) : ∃ rq rn rc w1, (Instr.buildSlice t n ps).run P w = .ok (.slice rq rn rc) w1 ∧ K rq rn rc w1 := by
  have hrun := run_buildSlice (P := P) w t e n ps cs.toArray _ _ ht hi hz (by rw [hs]; omega) (by rw [hs]; omega) (by rw [hs]; exact hfill)
  exact ⟨_, _, _, _, hrun, hK _ _ (h.alc cs e)⟩
def htmlPs : Prs := [(34, [38, 113, 117, 111, 116, 59]), (38, [38, 97, 109, 112, 59]), (60, [38, 108, 116, 59]), (62, [38, 103, 116, 59])]
def linkPs : Prs := [(34, [37, 50, 50]), (38, [38, 97, 109, 112, 59]), (60, [37, 51, 67]), (62, [37, 51, 69]), (92, [37, 53, 67]), (32, [37, 50, 48]), (96, [37, 54, 48]), (91, [37, 53, 66]), (93, [37, 53, 68]), (94, [37, 53, 69]), (123, [37, 55, 66]), (125, [37, 55, 68]), (0, [37, 48, 48]), (1, [37, 48, 49]), (2, [37, 48, 50]), (3, [37, 48, 51]), (4, [37, 48, 52]), (5, [37, 48, 53]), (6, [37, 48, 54]), (7, [37, 48, 55]), (8, [37, 48, 56]), (11, [37, 48, 66]), (12, [37, 48, 67]), (14, [37, 48, 69]), (15, [37, 48, 70]), (16, [37, 49, 48]), (17, [37, 49, 49]), (18, [37, 49, 50]), (19, [37, 49, 51]), (20, [37, 49, 52]), (21, [37, 49, 53]), (22, [37, 49, 54]), (23, [37, 49, 55]), (24, [37, 49, 56]), (25, [37, 49, 57]), (26, [37, 49, 65]), (27, [37, 49, 66]), (28, [37, 49, 67]), (29, [37, 49, 68]), (30, [37, 49, 69]), (31, [37, 49, 70]), (127, [37, 55, 70]), (128, [37, 56, 48]), (129, [37, 56, 49]), (130, [37, 56, 50]), (131, [37, 56, 51]), (132, [37, 56, 52]), (133, [37, 56, 53]), (134, [37, 56, 54]), (135, [37, 56, 55]), (136, [37, 56, 56]), (137, [37, 56, 57]), (138, [37, 56, 65]), (139, [37, 56, 66]), (140, [37, 56, 67]), (141, [37, 56, 68]), (142, [37, 56, 69]), (143, [37, 56, 70]), (144, [37, 57, 48]), (145, [37, 57, 49]), (146, [37, 57, 50]), (147, [37, 57, 51]), (148, [37, 57, 52]), (149, [37, 57, 53]), (150, [37, 57, 54]), (151, [37, 57, 55]), (152, [37, 57, 56]), (153, [37, 57, 57]), (154, [37, 57, 65]), (155, [37, 57, 66]), (156, [37, 57, 67]), (157, [37, 57, 68]), (158, [37, 57, 69]), (159, [37, 57, 70]), (160, [37, 65, 48]), (161, [37, 65, 49]), (162, [37, 65, 50]), (163, [37, 65, 51]), (164, [37, 65, 52]), (165, [37, 65, 53]), (166, [37, 65, 54]), (167, [37, 65, 55]), (168, [37, 65, 56]), (169, [37, 65, 57]), (170, [37, 65, 65]), (171, [37, 65, 66]), (172, [37, 65, 67]), (173, [37, 65, 68]), (174, [37, 65, 69]), (175, [37, 65, 70]), (176, [37, 66, 48]), (177, [37, 66, 49]), (178, [37, 66, 50]), (179, [37, 66, 51]), (180, [37, 66, 52]), (181, [37, 66, 53]), (182, [37, 66, 54]), (183, [37, 66, 55]), (184, [37, 66, 56]), (185, [37, 66, 57]), (186, [37, 66, 65]), (187, [37, 66, 66]), (188, [37, 66, 67]), (189, [37, 66, 68]), (190, [37, 66, 69]), (191, [37, 66, 70]), (192, [37, 67, 48]), (193, [37, 67, 49]), (194, [37, 67, 50]), (195, [37, 67, 51]), (196, [37, 67, 52]), (197, [37, 67, 53]), (198, [37, 67, 54]), (199, [37, 67, 55]), (200, [37, 67, 56]), (201, [37, 67, 57]), (202, [37, 67, 65]), (203, [37, 67, 66]), (204, [37, 67, 67]), (205, [37, 67, 68]), (206, [37, 67, 69]), (207, [37, 67, 70]), (208, [37, 68, 48]), (209, [37, 68, 49]), (210, [37, 68, 50]), (211, [37, 68, 51]), (212, [37, 68, 52]), (213, [37, 68, 53]), (214, [37, 68, 54]), (215, [37, 68, 55]), (216, [37, 68, 56]), (217, [37, 68, 57]), (218, [37, 68, 65]), (219, [37, 68, 66]), (220, [37, 68, 67]), (221, [37, 68, 68]), (222, [37, 68, 69]), (223, [37, 68, 70]), (224, [37, 69, 48]), (225, [37, 69, 49]), (226, [37, 69, 50]), (227, [37, 69, 51]), (228, [37, 69, 52]), (229, [37, 69, 53]), (230, [37, 69, 54]), (231, [37, 69, 55]), (232, [37, 69, 56]), (233, [37, 69, 57]), (234, [37, 69, 65]), (235, [37, 69, 66]), (236, [37, 69, 67]), (237, [37, 69, 68]), (238, [37, 69, 69]), (239, [37, 69, 70]), (240, [37, 70, 48]), (241, [37, 70, 49]), (242, [37, 70, 50]), (243, [37, 70, 51]), (244, [37, 70, 52]), (245, [37, 70, 53]), (246, [37, 70, 54]), (247, [37, 70, 55]), (248, [37, 70, 56]), (249, [37, 70, 57]), (250, [37, 70, 65]), (251, [37, 70, 66]), (252, [37, 70, 67]), (253, [37, 70, 68]), (254, [37, 70, 69]), (255, [37, 70, 70])]
theorem buildPairs {n : Nat} {ps : Array (Nat × Value)} (pr : Prs) (h : Sat σ w L) (hn : n ≤ 1000) (hn0 : n ≠ 0)
    (hfill : Instr.fill (fun i => some (i * 1, 1)) ((Array.range (n * 1)).map ((((P.info? ty_string).bind (·.zero)).getD default).cells[· % (((P.info? ty_string).bind (·.zero)).getD default).cells.size]!)) ps.toList = some (pairC pr).toArray) {K : Option Addr → Nat → Nat → World → Prop}
    (hK : ∀ b w, Sat σ w ((b, cel (pairC pr) ty_string) :: L) → K (some ⟨b, 0, none⟩) n n w) : ∃ rq rn rc w1, (Instr.buildSlice ty_zzPairs n ps).run P w = .ok (.slice rq rn rc) w1 ∧ K rq rn rc w1 :=
  buildR h (by kernel_rfl) (by kernel_rfl) (by kernel_rfl) (by kernel_rfl) hn hn0 hfill hK
theorem htmlEscaper_ok (h : Sat σ w L) (hR : ∀ w b, Sat σ w ((b, cel (pairC htmlPs) ty_string) :: L) → R (.returned (.slice (some ⟨b, 0, none⟩) 8 8)) w) : callE P i_htmlEscaper #[] R w := by
  refine g_htmlEscaper.sound ?_
  exact buildPairs htmlPs h (by decide) (by decide) (by kernel_rfl) fun b w h => hR w b h
theorem htmlQuoteEscaper_ok (h : Sat σ w L) (hR : ∀ w b, Sat σ w ((b, cel (pairC htmlPs) ty_string) :: L) → R (.returned (.slice (some ⟨b, 0, none⟩) 8 8)) w) : callE P i_htmlQuoteEscaper #[] R w := by
  refine g_htmlQuoteEscaper.sound ?_
  exact buildPairs htmlPs h (by decide) (by decide) (by kernel_rfl) fun b w h => hR w b h
theorem htmlLinkEscaper_ok (h : Sat σ w L) (hR : ∀ w b, Sat σ w ((b, cel (pairC linkPs) ty_string) :: L) → R (.returned (.slice (some ⟨b, 0, none⟩) 340 340)) w) : callE P i_htmlLinkEscaper #[] R w := by
  refine g_htmlLinkEscaper.sound ?_
  exact buildPairs linkPs h (by decide) (by decide) (by kernel_rfl) fun b w h => hR w b h
end Go.Proofs.YtihmcipajjakgaaGreatDoor


set_option linter.unusedVariables false
set_option maxRecDepth 20000
namespace Go.Proofs.YtihmcipajjakgaaGreatDoor
open Go.Proofs
namespace g_news
noncomputable def body : Code := bodyOf Tryz.f37
end g_news
def g_news (R : EP) (w : World) : Prop :=
 ∃ (r1q : OA), ∃ (r1n : Nat), ∃ (r1c : Nat), ∃ w2, (Instr.buildSlice ty_S_func_P_parseState_line_line_bool 8 #[(0, .func (.func i_newQuote) #[] #[]), (1, .func (.func i_newATXHeading) #[] #[]), (2, .func (.func i_newSetextHeading) #[] #[]), (3, .func (.func i_newHR) #[] #[]), (4, .func (.func i_newListItem) #[] #[]), (5, .func (.func i_newHTML) #[] #[]), (6, .func (.func i_newFence) #[] #[]), (7, .func (.func i_newPre) #[] #[])]).run P w = .ok (.slice r1q r1n r1c) w2 ∧
 R (.returned (.slice r1q r1n r1c)) w2

noncomputable def g_news.ac (R : EP) : AC :=
  (.leaf (sel [] g_news.body))
theorem g_news.good (R : EP) : Good P 2 (g_news.ac R) (QF P [.tmp 0] R) :=
  trivial
theorem g_news.eq (R : EP) (w : World) : g_news R w = vcA P 2 (g_news.ac R) (QF P [.tmp 0] R) (fr0 []) w := by kernel_rfl
theorem g_news.sound {R : EP} {w : World} (h : g_news R w) : callE P i_news #[] R w :=
  callE_fin (c := g_news.body) Tryz.func37 Tryz.call37 (by kernel_rfl) (by kernel_rfl) (by kernel_rfl) (by kernel_rfl) (by kernel_rfl) (g_news.good R) (g_news.eq R w) h
namespace g_newPara
noncomputable def body : Code := bodyOf Tryz.f38
def k5 (R : EP) (x4 : Nat) (x6 : OA) (x8 : BA) (w : World) : Prop :=
 nilP x6 fun a102 =>
 ∃ (v103q : OA), ∃ (v103n : Nat), ∃ (v103c : Nat), w.cell? a102 = some (.slice v103q v103n v103c) ∧
 ∃ (r104q : OA), ∃ (r104n : Nat), ∃ (r104c : Nat), ∃ w105, (Instr.buildSlice ty_S_string 1 #[(0, .string x8)]).run P w = .ok (.slice r104q r104n r104c) w105 ∧
 ∃ (r106q : OA), ∃ (r106n : Nat), ∃ (r106c : Nat), ∃ w107, (Builtin.append_ #[ty_S_string, ty_S_string] ty_S_string #[.slice v103q v103n v103c, .slice r104q r104n r104c]).run P w105 = .ok (.slice r106q r106n r106c) w107 ∧
 nilP x6 fun a108 =>
 stV w107 (a108.add 0) (.slice r106q r106n r106c) fun w109 =>
 stV w109 ⟨x4, 0, none⟩ (.int .i64 0) fun w110 =>
 stV w110 ⟨x4, 1, none⟩ (.int .i64 0) fun w111 =>
 stV w111 ⟨x4, 2, none⟩ (.int .i64 0) fun w112 =>
 stV w112 ⟨x4, 3, none⟩ (.string (ByteArray.mk #[])) fun w113 =>
 stV w113 ⟨x4, 4, none⟩ (.int .u8 0) fun w114 =>
 ∃ (v115 : Int), w114.cell? ⟨x4, 0, none⟩ = some (.int .i64 v115) ∧
 ∃ (v116 : Int), w114.cell? ⟨x4, 1, none⟩ = some (.int .i64 v116) ∧
 ∃ (v117 : Int), w114.cell? ⟨x4, 2, none⟩ = some (.int .i64 v117) ∧
 ∃ (v118 : BA), w114.cell? ⟨x4, 3, none⟩ = some (.string v118) ∧
 ∃ (v119 : Int), w114.cell? ⟨x4, 4, none⟩ = some (.int .u8 v119) ∧
 R (.returned (.tuple #[.agg #[.int .i64 v115, .int .i64 v116, .int .i64 v117, .string v118, .int .u8 v119], .bool true])) w114

def bl1 (R : EP) (Xa : OA → Nat → OA → BA → Int → WP) (x0 : OA) (x4 : Nat) (x6 : OA) (x8 : BA) (x11 : Int) (w : World) : Prop :=
 nilP x0 fun a93 =>
 ∃ (v94q : OA), ∃ (v94n : Nat), ∃ (v94c : Nat), w.cell? (a93.add 4) = some (.slice v94q v94n v94c) ∧
 br (decide (x11 < (v94n : Int)))
 (tk w fun w95 =>
 nilP x0 fun a96 =>
 nilP x0 fun a97 =>
 ∃ (v98q : OA), ∃ (v98n : Nat), ∃ (v98c : Nat), w95.cell? (a96.add 4) = some (.slice v98q v98n v98c) ∧
 ∃ (v99 : Int), w95.cell? (a97.add 3) = some (.int .i64 v99) ∧
 0 ≤ x11 ∧ x11 < (v98n : Int) ∧
 nilP v98q fun a100 =>
 stV w95 ((((a100.add (Int.toNat x11 * 4)).add 2).add 1).add 0) (.int .i64 v99) fun w101 =>
 Xa x0 x4 x6 x8 (IntKind.i64.wrap (x11 + 1)) w101)
 (k5 R x4 x6 x8 w)
def l1 (R : EP) (x0 : OA) (x4 : Nat) (x6 : OA) (x8 : BA) (x11 : Int) (w : World) : Prop :=
  ∀ X : OA → Nat → OA → BA → Int → WP, (∀ x0 x4 x6 x8 x11 w, bl1 R X x0 x4 x6 x8 x11 w → X x0 x4 x6 x8 x11 w) → X x0 x4 x6 x8 x11 w

noncomputable def al1 (R : EP) (Xa : OA → Nat → OA → BA → Int → WP) : AC :=
  (.seq (.leaf (sel [1, 1, 1, 1, 1, 1, 0, 1, 0, 1, 0, 0, 0] body)) (.seq (.block 1 (.draw (.pure 0 (.pure 1 (.pure 2 (.pure 4 (.pure 5 (.pure 6 (.pure 7 (.load 3 (.load 8 (.pure 9 (.pure 10 (.pure 11 (.one 12 .done))))))))))))) (sel [1, 1, 1, 1, 1, 1, 0, 1, 0, 1, 0, 0, 1, 0, 0] body))) (.leaf (sel [1, 1, 1, 1, 1, 1, 0, 1, 0, 1, 0, 0, 1, 1] body))))
def k4 (R : EP) (x0 : OA) (x4 : Nat) (x6 : OA) (x8 : BA) (x88 : Bool) (w : World) : Prop :=
 br x88
 (tk w fun w50 =>
 nilP x6 fun a51 =>
 nilP x6 fun a52 =>
 ∃ (v53q : OA), ∃ (v53n : Nat), ∃ (v53c : Nat), w50.cell? a51 = some (.slice v53q v53n v53c) ∧
 ∃ (v54q : OA), ∃ (v54n : Nat), ∃ (v54c : Nat), w50.cell? a52 = some (.slice v54q v54n v54c) ∧
 0 ≤ (IntKind.i64.wrap ((v54n : Int) - 1)) ∧ (IntKind.i64.wrap ((v54n : Int) - 1)) < (v53n : Int) ∧
 nilP v53q fun a55 =>
 ∃ (v56 : BA), w50.cell? (a55.add (Int.toNat (IntKind.i64.wrap ((v54n : Int) - 1)) * 1)) = some (.string v56) ∧
 tk w50 fun w57 =>
 nilP x6 fun a58 =>
 nilP x6 fun a59 =>
 ∃ (v60q : OA), ∃ (v60n : Nat), ∃ (v60c : Nat), w57.cell? a58 = some (.slice v60q v60n v60c) ∧
 ∃ (v61q : OA), ∃ (v61n : Nat), ∃ (v61c : Nat), w57.cell? a59 = some (.slice v61q v61n v61c) ∧
 ∃ (r62q : OA), ∃ (r62n : Nat), ∃ (r62c : Nat), (∀ w, (Instr.sliceAt ty_S_string (.slice v60q v60n v60c) none (some (.int .i64 (IntKind.i64.wrap ((v61n : Int) - 1)))) none).run P w = .ok (.slice r62q r62n r62c) w) ∧
 nilP x6 fun a63 =>
 stV w57 (a63.add 0) (.slice r62q r62n r62c) fun w64 =>
 box w64 #[.slice none 0 0, .pointer none] ty_paraBuilder fun b65 w66 =>
 callE P i_parseState_addBlock #[.pointer x0, .iface ty_P_paraBuilder (.pointer (some ⟨b65, 0, none⟩))] (fun e w68 => e = .returned (.tuple #[]) ∧
 box w68 #[.string (ByteArray.mk #[]), .string (ByteArray.mk #[]), .slice none 0 0] ty_tableBuilder fun b69 w70 =>
 stV w70 ⟨b65, 1, none⟩ (.pointer (some ⟨b69, 0, none⟩)) fun w71 =>
 ∃ (v72 : OA), w71.cell? ⟨b65, 1, none⟩ = some (.pointer v72) ∧
 callE P i_tableBuilder_start #[.pointer v72, .string v56, .string x8] (fun e w74 => e = .returned (.tuple #[]) ∧
 stV w74 ⟨x4, 0, none⟩ (.int .i64 0) fun w75 =>
 stV w75 ⟨x4, 1, none⟩ (.int .i64 0) fun w76 =>
 stV w76 ⟨x4, 2, none⟩ (.int .i64 0) fun w77 =>
 stV w77 ⟨x4, 3, none⟩ (.string (ByteArray.mk #[])) fun w78 =>
 stV w78 ⟨x4, 4, none⟩ (.int .u8 0) fun w79 =>
 ∃ (v80 : Int), w79.cell? ⟨x4, 0, none⟩ = some (.int .i64 v80) ∧
 ∃ (v81 : Int), w79.cell? ⟨x4, 1, none⟩ = some (.int .i64 v81) ∧
 ∃ (v82 : Int), w79.cell? ⟨x4, 2, none⟩ = some (.int .i64 v82) ∧
 ∃ (v83 : BA), w79.cell? ⟨x4, 3, none⟩ = some (.string v83) ∧
 ∃ (v84 : Int), w79.cell? ⟨x4, 4, none⟩ = some (.int .u8 v84) ∧
 R (.returned (.tuple #[.agg #[.int .i64 v80, .int .i64 v81, .int .i64 v82, .string v83, .int .u8 v84], .bool true])) w79) w71) w66)
 (∃ (r85 : Bool), ∃ w86, (do eqGuard .neq ty_P_paraBuilder (.tmp 132) (.const (.pointer none)) (.pointer x6) (.pointer none); binOp .neq ty_P_paraBuilder (.pointer x6) (.pointer none)).run P w = .ok (.bool r85) w86 ∧
 br r85
 (nilP x0 fun a87 =>
 ∃ (v88 : Int), w86.cell? (a87.add 5) = some (.int .i64 v88) ∧
 l1 R x0 x4 x6 x8 v88 w86)
 (box w86 #[.slice none 0 0, .pointer none] ty_paraBuilder fun b89 w90 =>
 callE P i_parseState_addBlock #[.pointer x0, .iface ty_P_paraBuilder (.pointer (some ⟨b89, 0, none⟩))] (fun e w92 => e = .returned (.tuple #[]) ∧
 k5 R x4 (some ⟨b89, 0, none⟩) x8 w92) w90))

def k3 (R : EP) (x0 : OA) (x4 : Nat) (x6 : OA) (x7 : Bool) (x8 : BA) (w : World) : Prop :=
 tk w fun w34 =>
 nilP x0 fun a35 =>
 ∃ (v36 : OA), w34.cell? a35 = some (.pointer v36) ∧
 nilP v36 fun a37 =>
 ∃ (v38 : Bool), w34.cell? (a37.add 5) = some (.bool v38) ∧
 br v38
 (∃ (r39 : Bool), (∀ w, (do eqGuard .neq ty_P_paraBuilder (.tmp 59) (.const (.pointer none)) (.pointer x6) (.pointer none); binOp .neq ty_P_paraBuilder (.pointer x6) (.pointer none)).run P w = .ok (.bool r39) w) ∧
 br r39
 (br x7
 (nilP x6 fun a40 =>
 ∃ (v41q : OA), ∃ (v41n : Nat), ∃ (v41c : Nat), w34.cell? a40 = some (.slice v41q v41n v41c) ∧
 br (decide ((v41n : Int) > 0))
 (nilP x6 fun a42 =>
 nilP x6 fun a43 =>
 ∃ (v44q : OA), ∃ (v44n : Nat), ∃ (v44c : Nat), w34.cell? a42 = some (.slice v44q v44n v44c) ∧
 ∃ (v45q : OA), ∃ (v45n : Nat), ∃ (v45c : Nat), w34.cell? a43 = some (.slice v45q v45n v45c) ∧
 0 ≤ (IntKind.i64.wrap ((v45n : Int) - 1)) ∧ (IntKind.i64.wrap ((v45n : Int) - 1)) < (v44n : Int) ∧
 nilP v44q fun a46 =>
 ∃ (v47 : BA), w34.cell? (a46.add (Int.toNat (IntKind.i64.wrap ((v45n : Int) - 1)) * 1)) = some (.string v47) ∧
 callE P i_isTableStart #[.string v47, .string x8] (fun e w49 => ∃ (r48 : Bool), e = .returned (.bool r48) ∧
 k4 R x0 x4 x6 x8 r48 w49) w34)
 (k4 R x0 x4 x6 x8 false w34))
 (k4 R x0 x4 x6 x8 false w34))
 (k4 R x0 x4 x6 x8 false w34))
 (k4 R x0 x4 x6 x8 false w34)

def k2 (R : EP) (x0 : OA) (x4 : Nat) (x6 : OA) (x7 : Bool) (x8 : BA) (x43 : Bool) (w : World) : Prop :=
 br x43
 (nilP x6 fun a20 =>
 ∃ (v21 : OA), w.cell? (a20.add 1) = some (.pointer v21) ∧
 callE P i_tableBuilder_addRow #[.pointer v21, .string x8] (fun e w23 => e = .returned (.tuple #[]) ∧
 stV w23 ⟨x4, 0, none⟩ (.int .i64 0) fun w24 =>
 stV w24 ⟨x4, 1, none⟩ (.int .i64 0) fun w25 =>
 stV w25 ⟨x4, 2, none⟩ (.int .i64 0) fun w26 =>
 stV w26 ⟨x4, 3, none⟩ (.string (ByteArray.mk #[])) fun w27 =>
 stV w27 ⟨x4, 4, none⟩ (.int .u8 0) fun w28 =>
 ∃ (v29 : Int), w28.cell? ⟨x4, 0, none⟩ = some (.int .i64 v29) ∧
 ∃ (v30 : Int), w28.cell? ⟨x4, 1, none⟩ = some (.int .i64 v30) ∧
 ∃ (v31 : Int), w28.cell? ⟨x4, 2, none⟩ = some (.int .i64 v31) ∧
 ∃ (v32 : BA), w28.cell? ⟨x4, 3, none⟩ = some (.string v32) ∧
 ∃ (v33 : Int), w28.cell? ⟨x4, 4, none⟩ = some (.int .u8 v33) ∧
 R (.returned (.tuple #[.agg #[.int .i64 v29, .int .i64 v30, .int .i64 v31, .string v32, .int .u8 v33], .bool true])) w28) w)
 (k3 R x0 x4 none x7 x8 w)

def k1 (R : EP) (x0 : OA) (x4 : Nat) (x6 : OA) (x7 : Bool) (x8 : BA) (x34 : Bool) (w : World) : Prop :=
 br x34
 (k2 R x0 x4 x6 x7 x8 ((x7 && (!(x8.toList == (ByteArray.mk #[]).toList))) && (!(x8.toList == (ByteArray.mk #[124]).toList))) w)
 (k3 R x0 x4 x6 x7 x8 w)

end g_newPara
def g_newPara (R : EP) (x0 : OA) (x1_0 : Int) (x1_1 : Int) (x1_2 : Int) (x1_3 : BA) (x1_4 : Int) (w : World) : Prop :=
 box w #[.int .i64 x1_0, .int .i64 x1_1, .int .i64 x1_2, .string x1_3, .int .u8 x1_4] ty_line fun b1 w2 =>
 box w2 #[.int .i64 0, .int .i64 0, .int .i64 0, .string (ByteArray.mk #[]), .int .u8 0] ty_line fun b3 w4 =>
 callE P i_parseState_para #[.pointer x0] (fun e w6 => ∃ (r5 : OA), e = .returned (.pointer r5) ∧
 tk w6 fun w7 =>
 nilP x0 fun a8 =>
 nilP x0 fun a9 =>
 ∃ (v10 : Int), w7.cell? (a8.add 5) = some (.int .i64 v10) ∧
 ∃ (v11q : OA), ∃ (v11n : Nat), ∃ (v11c : Nat), w7.cell? (a9.add 4) = some (.slice v11q v11n v11c) ∧
 callE P i_line_trimSpaceString #[.pointer (some ⟨b1, 0, none⟩)] (fun e w13 => ∃ (r12 : BA), e = .returned (.string r12) ∧
 ∃ (r14 : Bool), ∃ w15, (do eqGuard .neq ty_P_paraBuilder (.tmp 26) (.const (.pointer none)) (.pointer r5) (.pointer none); binOp .neq ty_P_paraBuilder (.pointer r5) (.pointer none)).run P w13 = .ok (.bool r14) w15 ∧
 br r14
 (nilP r5 fun a16 =>
 ∃ (v17 : OA), w15.cell? (a16.add 1) = some (.pointer v17) ∧
 ∃ (r18 : Bool), ∃ w19, (do eqGuard .neq ty_P_tableBuilder (.tmp 32) (.const (.pointer none)) (.pointer v17) (.pointer none); binOp .neq ty_P_tableBuilder (.pointer v17) (.pointer none)).run P w15 = .ok (.bool r18) w19 ∧
 g_newPara.k1 R x0 b3 r5 (v10 == (IntKind.i64.wrap ((v11n : Int) - 2))) r12 r18 w19)
 (g_newPara.k1 R x0 b3 r5 (v10 == (IntKind.i64.wrap ((v11n : Int) - 2))) r12 false w15)) w7) w4

noncomputable def g_newPara.ac (R : EP) : AC :=
  (.seq (.leaf (sel [0] g_newPara.body)) (.seq (.leaf (sel [1, 0] g_newPara.body)) (.seq (.draw (.pure 0 (.pure 1 (.pure 2 (.pure 4 (.pure 5 (.pure 6 (.load 3 (.load 7 (.pure 8 (.pure 9 (.pure 10 (.pure 11 .done)))))))))))) (sel [1, 1, 0] g_newPara.body)) (.seq (.leaf (sel [1, 1, 1, 0] g_newPara.body)) (.seq (.seq (.leaf (sel [1, 1, 1, 1, 0, 0] g_newPara.body)) (.mark (leaf [(0, .s .ptr), (4, .s .loc), (6, .s .ptr), (7, .s .bool), (8, .s .str), (34, .s .bool)] (g_newPara.k1 R)) (.cond 34 (.seq (.seq (.leaf (sel [1, 1, 1, 1, 0, 1, 0, 0, 0] g_newPara.body)) (.mark (leaf [(0, .s .ptr), (4, .s .loc), (6, .s .ptr), (7, .s .bool), (8, .s .str), (43, .s .bool)] (g_newPara.k2 R)) (.leaf (sel [1, 1, 1, 1, 0, 1, 0, 0, 1] g_newPara.body)))) (.leaf (sel [1, 1, 1, 1, 0, 1, 0, 1] g_newPara.body))) (.leaf (sel [1, 1, 1, 1, 0, 1, 1] g_newPara.body))))) (.mark (leaf [(0, .s .ptr), (4, .s .loc), (6, .s .ptr), (7, .s .bool), (8, .s .str)] (g_newPara.k3 R)) (.seq (.seq (.draw (.pure 0 (.pure 1 (.pure 2 (.load 3 (.pure 4 (.pure 5 (.load 6 (.pure 7 (.pure 8 (.pure 9 (.pure 10 (.pure 11 (.pure 12 (.pure 13 (.pure 14 (.pure 15 (.pure 16 (.pure 17 (.load 18 (.pure 19 (.pure 20 (.pure 21 (.pure 22 (.pure 23 (.pure 24 (.pure 25 (.pure 27 (.pure 28 (.pure 29 (.pure 35 (.load 26 (.load 30 (.pure 31 (.pure 32 (.pure 33 (.load 34 (.one 36 (.pure 37 .done)))))))))))))))))))))))))))))))))))))) (sel [1, 1, 1, 1, 1, 0, 0] g_newPara.body)) (.mark (leaf [(0, .s .ptr), (4, .s .loc), (6, .s .ptr), (8, .s .str), (88, .s .bool)] (g_newPara.k4 R)) (.cond 88 (.seq (.draw (.pure 0 (.pure 1 (.pure 2 (.pure 4 (.pure 5 (.pure 6 (.load 3 (.load 7 (.pure 8 (.pure 9 (.pure 10 (.load 11 (.pure 12 .done))))))))))))) (sel [1, 1, 1, 1, 1, 0, 1, 0, 0] g_newPara.body)) (.seq (.draw (.pure 0 (.pure 1 (.pure 2 (.pure 3 (.pure 5 (.pure 6 (.pure 7 (.load 4 (.load 8 (.pure 9 (.pure 10 (.pure 11 (.pure 12 (.pure 13 (.one 14 .done))))))))))))))) (sel [1, 1, 1, 1, 1, 0, 1, 0, 1, 0] g_newPara.body)) (.leaf (sel [1, 1, 1, 1, 1, 0, 1, 0, 1, 1] g_newPara.body)))) (.leaf (sel [1, 1, 1, 1, 1, 0, 1, 1] g_newPara.body))))) (.seq (.seq (.leaf (sel [1, 1, 1, 1, 1, 1, 0, 0] g_newPara.body)) (.cond 133 (.seq (.leaf (sel [1, 1, 1, 1, 1, 1, 0, 1, 0, 0] g_newPara.body)) (.block 0 (.loop (leaf [(0, .s .ptr), (4, .s .loc), (6, .s .ptr), (8, .s .str), (11, .s (.int .i64))] (g_newPara.l1 R)) (sel [1, 1, 1, 1, 1, 1, 0, 1, 0, 1, 0, 0] g_newPara.body)))) (.leaf (sel [1, 1, 1, 1, 1, 1, 0, 1, 1] g_newPara.body)))) (.mark (leaf [(4, .s .loc), (6, .s .ptr), (8, .s .str)] (g_newPara.k5 R)) (.leaf (sel [1, 1, 1, 1, 1, 1, 1] g_newPara.body)))))))))))
theorem g_newPara.good (R : EP) : Good P 175 (g_newPara.ac R) (QF P [.cell 4 80, .tmp 5] R) :=
  ⟨trivial, ⟨trivial, ⟨⟨by kernel_rfl, by kernel_rfl, fun _ _ _ h => h⟩, ⟨trivial, ⟨⟨trivial, ⟨⟨⟨⟨trivial, ⟨trivial, cutE (by intro x0 x4 x6 x7 x8 x43 ρ w; kernel_rfl)⟩⟩, trivial⟩, trivial⟩, cutE (by intro x0 x4 x6 x7 x8 x34 ρ w; kernel_rfl)⟩⟩, ⟨⟨⟨⟨by kernel_rfl, by kernel_rfl, fun _ _ _ h => h⟩, ⟨⟨⟨⟨by kernel_rfl, by kernel_rfl, fun _ _ _ h => h⟩, ⟨⟨by kernel_rfl, by kernel_rfl, fun _ _ _ h => h⟩, trivial⟩⟩, trivial⟩, cutE (by intro x0 x4 x6 x8 x88 ρ w; kernel_rfl)⟩⟩, ⟨⟨trivial, ⟨⟨trivial, (loopG (g_newPara.al1 R) (g_newPara.bl1 R) (fun _ => by kernel_rfl) (fun Xa => ⟨trivial, ⟨⟨by kernel_rfl, by kernel_rfl, fun _ _ _ h => h⟩, trivial⟩⟩) (fun Xa => by intro x0 x4 x6 x8 x11 ρ w; kernel_rfl) (fun X h _ _ _ _ _ _ g => g X h))⟩, trivial⟩⟩, ⟨trivial, cutE (by intro x4 x6 x8 ρ w; kernel_rfl)⟩⟩⟩, cutE (by intro x0 x4 x6 x7 x8 ρ w; kernel_rfl)⟩⟩⟩⟩⟩⟩
theorem g_newPara.eq (R : EP) (x0 : OA) (x1_0 : Int) (x1_1 : Int) (x1_2 : Int) (x1_3 : BA) (x1_4 : Int) (w : World) : g_newPara R x0 x1_0 x1_1 x1_2 x1_3 x1_4 w = vcA P 175 (g_newPara.ac R) (QF P [.cell 4 80, .tmp 5] R) (fr0 [.pointer x0, .agg #[.int .i64 x1_0, .int .i64 x1_1, .int .i64 x1_2, .string x1_3, .int .u8 x1_4]]) w := by kernel_rfl
theorem g_newPara.sound {R : EP} {x0 : OA} {x1_0 : Int} {x1_1 : Int} {x1_2 : Int} {x1_3 : ByteArray} {x1_4 : Int} {w : World} (h : g_newPara R x0 x1_0 x1_1 x1_2 x1_3 x1_4 w) : callE P i_newPara #[.pointer x0, .agg #[.int .i64 x1_0, .int .i64 x1_1, .int .i64 x1_2, .string x1_3, .int .u8 x1_4]] R w :=
  callE_fin (c := g_newPara.body) Tryz.func38 Tryz.call38 (by kernel_rfl) (by kernel_rfl) (by kernel_rfl) (by kernel_rfl) (by kernel_rfl) (g_newPara.good R) (g_newPara.eq R x0 x1_0 x1_1 x1_2 x1_3 x1_4 w) h
namespace g_newPre
noncomputable def body : Code := bodyOf Tryz.f68
def k2 (R : EP) (x4 : Nat) (x6 : Nat) (x7 : OA) (w : World) : Prop :=
 tk w fun w51 =>
 nilP x7 fun a52 =>
 ∃ (v53q : OA), ∃ (v53n : Nat), ∃ (v53c : Nat), w51.cell? (a52.add 1) = some (.slice v53q v53n v53c) ∧
 callE P i_line_string #[.pointer (some ⟨x6, 0, none⟩)] (fun e w55 => ∃ (r54 : BA), e = .returned (.string r54) ∧
 SameC w51 w55 (a52.add 1) 1 ∧
 ∃ (r56q : OA), ∃ (r56n : Nat), ∃ (r56c : Nat), ∃ w57, (Instr.buildSlice ty_S_string 1 #[(0, .string r54)]).run P w55 = .ok (.slice r56q r56n r56c) w57 ∧
 SameC w55 w57 (a52.add 1) 1 ∧
 ∃ (r58q : OA), ∃ (r58n : Nat), ∃ (r58c : Nat), ∃ w59, (Builtin.append_ #[ty_S_string, ty_S_string] ty_S_string #[.slice v53q v53n v53c, .slice r56q r56n r56c]).run P w57 = .ok (.slice r58q r58n r58c) w59 ∧
 nilP x7 fun a60 =>
 stV w59 ((a60.add 1).add 0) (.slice r58q r58n r58c) fun w61 =>
 stV w61 ⟨x4, 0, none⟩ (.int .i64 0) fun w62 =>
 stV w62 ⟨x4, 1, none⟩ (.int .i64 0) fun w63 =>
 stV w63 ⟨x4, 2, none⟩ (.int .i64 0) fun w64 =>
 stV w64 ⟨x4, 3, none⟩ (.string (ByteArray.mk #[])) fun w65 =>
 stV w65 ⟨x4, 4, none⟩ (.int .u8 0) fun w66 =>
 ∃ (v67 : Int), w66.cell? ⟨x4, 0, none⟩ = some (.int .i64 v67) ∧
 ∃ (v68 : Int), w66.cell? ⟨x4, 1, none⟩ = some (.int .i64 v68) ∧
 ∃ (v69 : Int), w66.cell? ⟨x4, 2, none⟩ = some (.int .i64 v69) ∧
 ∃ (v70 : BA), w66.cell? ⟨x4, 3, none⟩ = some (.string v70) ∧
 ∃ (v71 : Int), w66.cell? ⟨x4, 4, none⟩ = some (.int .u8 v71) ∧
 R (.returned (.tuple #[.agg #[.int .i64 v67, .int .i64 v68, .int .i64 v69, .string v70, .int .u8 v71], .bool true])) w66) w51

def k1 (R : EP) (x0 : OA) (x3 : Nat) (x4 : Nat) (x6 : Nat) (x18 : Bool) (w : World) : Prop :=
 br x18
 (box w #[.string (ByteArray.mk #[]), .slice none 0 0] ty_preBuilder fun b25 w26 =>
 callE P i_parseState_addBlock #[.pointer x0, .iface ty_P_preBuilder (.pointer (some ⟨b25, 0, none⟩))] (fun e w28 => e = .returned (.tuple #[]) ∧
 nilP x0 fun a29 =>
 ∃ (v30 : Bool), w28.cell? (a29.add 6) = some (.bool v30) ∧
 br v30
 (nilP x0 fun a31 =>
 stV w28 ((a31.add 6).add 0) (.bool true) fun w32 =>
 k2 R x4 x6 (some ⟨b25, 0, none⟩) w32)
 (∃ (v33 : Int), w28.cell? ⟨x6, 4, none⟩ = some (.int .u8 v33) ∧
 nilP x0 fun a34 =>
 stV w28 ((a34.add 6).add 0) (.bool (v33 != 10)) fun w35 =>
 k2 R x4 x6 (some ⟨b25, 0, none⟩) w35)) w26)
 (∃ (v36 : Int), w.cell? ⟨x3, 0, none⟩ = some (.int .i64 v36) ∧
 ∃ (v37 : Int), w.cell? ⟨x3, 1, none⟩ = some (.int .i64 v37) ∧
 ∃ (v38 : Int), w.cell? ⟨x3, 2, none⟩ = some (.int .i64 v38) ∧
 ∃ (v39 : BA), w.cell? ⟨x3, 3, none⟩ = some (.string v39) ∧
 ∃ (v40 : Int), w.cell? ⟨x3, 4, none⟩ = some (.int .u8 v40) ∧
 stV w ⟨x4, 0, none⟩ (.int .i64 v36) fun w41 =>
 stV w41 ⟨x4, 1, none⟩ (.int .i64 v37) fun w42 =>
 stV w42 ⟨x4, 2, none⟩ (.int .i64 v38) fun w43 =>
 stV w43 ⟨x4, 3, none⟩ (.string v39) fun w44 =>
 stV w44 ⟨x4, 4, none⟩ (.int .u8 v40) fun w45 =>
 ∃ (v46 : Int), w45.cell? ⟨x4, 0, none⟩ = some (.int .i64 v46) ∧
 ∃ (v47 : Int), w45.cell? ⟨x4, 1, none⟩ = some (.int .i64 v47) ∧
 ∃ (v48 : Int), w45.cell? ⟨x4, 2, none⟩ = some (.int .i64 v48) ∧
 ∃ (v49 : BA), w45.cell? ⟨x4, 3, none⟩ = some (.string v49) ∧
 ∃ (v50 : Int), w45.cell? ⟨x4, 4, none⟩ = some (.int .u8 v50) ∧
 R (.returned (.tuple #[.agg #[.int .i64 v46, .int .i64 v47, .int .i64 v48, .string v49, .int .u8 v50], .bool false])) w45)

end g_newPre
def g_newPre (R : EP) (x0 : OA) (x1_0 : Int) (x1_1 : Int) (x1_2 : Int) (x1_3 : BA) (x1_4 : Int) (w : World) : Prop :=
 box w #[.int .i64 x1_0, .int .i64 x1_1, .int .i64 x1_2, .string x1_3, .int .u8 x1_4] ty_line fun b1 w2 =>
 box w2 #[.int .i64 0, .int .i64 0, .int .i64 0, .string (ByteArray.mk #[]), .int .u8 0] ty_line fun b3 w4 =>
 ∃ (v5 : Int), w4.cell? ⟨b1, 0, none⟩ = some (.int .i64 v5) ∧
 ∃ (v6 : Int), w4.cell? ⟨b1, 1, none⟩ = some (.int .i64 v6) ∧
 ∃ (v7 : Int), w4.cell? ⟨b1, 2, none⟩ = some (.int .i64 v7) ∧
 ∃ (v8 : BA), w4.cell? ⟨b1, 3, none⟩ = some (.string v8) ∧
 ∃ (v9 : Int), w4.cell? ⟨b1, 4, none⟩ = some (.int .u8 v9) ∧
 box w4 #[.int .i64 0, .int .i64 0, .int .i64 0, .string (ByteArray.mk #[]), .int .u8 0] ty_line fun b10 w11 =>
 stV w11 ⟨b10, 0, none⟩ (.int .i64 v5) fun w12 =>
 stV w12 ⟨b10, 1, none⟩ (.int .i64 v6) fun w13 =>
 stV w13 ⟨b10, 2, none⟩ (.int .i64 v7) fun w14 =>
 stV w14 ⟨b10, 3, none⟩ (.string v8) fun w15 =>
 stV w15 ⟨b10, 4, none⟩ (.int .u8 v9) fun w16 =>
 callE P i_parseState_para #[.pointer x0] (fun e w18 => ∃ (r17 : OA), e = .returned (.pointer r17) ∧
 ∃ (r19 : Bool), ∃ w20, (do eqGuard .eql ty_P_paraBuilder (.tmp 10) (.const (.pointer none)) (.pointer r17) (.pointer none); binOp .eql ty_P_paraBuilder (.pointer r17) (.pointer none)).run P w18 = .ok (.bool r19) w20 ∧
 br r19
 (callE P i_line_trimSpace #[.pointer (some ⟨b10, 0, none⟩), .int .i64 4, .int .i64 4, .bool false] (fun e w22 => ∃ (r21 : Bool), e = .returned (.bool r21) ∧
 br r21
 (callE P i_line_isBlank #[.pointer (some ⟨b10, 0, none⟩)] (fun e w24 => ∃ (r23 : Bool), e = .returned (.bool r23) ∧
 g_newPre.k1 R x0 b1 b3 b10 (!r23) w24) w22)
 (g_newPre.k1 R x0 b1 b3 b10 false w22)) w20)
 (g_newPre.k1 R x0 b1 b3 b10 false w20)) w16

noncomputable def g_newPre.ac (R : EP) : AC :=
  (.seq (.leaf (sel [0] g_newPre.body)) (.seq (.leaf (sel [1, 0] g_newPre.body)) (.seq (.seq (.leaf (sel [1, 1, 0, 0] g_newPre.body)) (.mark (leaf [(0, .s .ptr), (3, .s .loc), (4, .s .loc), (6, .s .loc), (18, .s .bool)] (g_newPre.k1 R)) (.cond 18 (.seq (.leaf (sel [1, 1, 0, 1, 0, 0] g_newPre.body)) (.seq (.leaf (sel [1, 1, 0, 1, 0, 1, 0] g_newPre.body)) (.seq (.leaf (sel [1, 1, 0, 1, 0, 1, 1, 0] g_newPre.body)) (.mark (leaf [(4, .s .loc), (6, .s .loc), (7, .s .ptr)] (g_newPre.k2 R)) (.seq (.draw (.pure 0 (.pure 1 (.pure 2 (.pure 3 (.load 4 (.one 5 (.one 6 (.one 7 (.pure 8 (.pure 9 (.one 10 .done))))))))))) (sel [1, 1, 0, 1, 0, 1, 1, 1, 0] g_newPre.body)) (.leaf (sel [1, 1, 0, 1, 0, 1, 1, 1, 1] g_newPre.body))))))) (.leaf (sel [1, 1, 0, 1, 1] g_newPre.body))))) (.leaf (sel [1, 1, 1] g_newPre.body)))))
theorem g_newPre.good (R : EP) : Good P 49 (g_newPre.ac R) (QF P [.cell 4 80, .tmp 5] R) :=
  ⟨trivial, ⟨trivial, ⟨⟨trivial, ⟨⟨⟨trivial, ⟨trivial, ⟨trivial, ⟨⟨⟨by kernel_rfl, by kernel_rfl, fun _ _ _ h => h⟩, trivial⟩, cutE (by intro x4 x6 x7 ρ w; kernel_rfl)⟩⟩⟩⟩, trivial⟩, cutE (by intro x0 x3 x4 x6 x18 ρ w; kernel_rfl)⟩⟩, trivial⟩⟩⟩
theorem g_newPre.eq (R : EP) (x0 : OA) (x1_0 : Int) (x1_1 : Int) (x1_2 : Int) (x1_3 : BA) (x1_4 : Int) (w : World) : g_newPre R x0 x1_0 x1_1 x1_2 x1_3 x1_4 w = vcA P 49 (g_newPre.ac R) (QF P [.cell 4 80, .tmp 5] R) (fr0 [.pointer x0, .agg #[.int .i64 x1_0, .int .i64 x1_1, .int .i64 x1_2, .string x1_3, .int .u8 x1_4]]) w := by kernel_rfl
theorem g_newPre.sound {R : EP} {x0 : OA} {x1_0 : Int} {x1_1 : Int} {x1_2 : Int} {x1_3 : ByteArray} {x1_4 : Int} {w : World} (h : g_newPre R x0 x1_0 x1_1 x1_2 x1_3 x1_4 w) : callE P i_newPre #[.pointer x0, .agg #[.int .i64 x1_0, .int .i64 x1_1, .int .i64 x1_2, .string x1_3, .int .u8 x1_4]] R w :=
  callE_fin (c := g_newPre.body) Tryz.func68 Tryz.call68 (by kernel_rfl) (by kernel_rfl) (by kernel_rfl) (by kernel_rfl) (by kernel_rfl) (g_newPre.good R) (g_newPre.eq R x0 x1_0 x1_1 x1_2 x1_3 x1_4 w) h
end Go.Proofs.YtihmcipajjakgaaGreatDoor
