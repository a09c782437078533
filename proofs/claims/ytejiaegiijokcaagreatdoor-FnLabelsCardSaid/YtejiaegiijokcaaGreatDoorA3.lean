/- Part 3 of the proof of the law FnLabels: for every input the law returns true, the inputs read as they did, and memory that was there is as it was; under the conditions of the given row alone. -/
import Derived.Test.YtejiaegiijokcaaGreatDoorA2
set_option linter.all false
set_option linter.unusedVariables false
set_option maxRecDepth 20000
namespace Go.Proofs.YtejiaegiijokcaaGreatDoor
open Go.Proofs
namespace g_parseState_addLine
noncomputable def body : Code := bodyOf Tryz.f53
def k3 (R : EP) (Xa : OA → Nat → WP) (x0 : OA) (x3 : Nat) (w : World) : Prop :=
 nilP x0 fun a70 =>
 ∃ (v71 : Int), w.cell? (a70.add 5) = some (.int .i64 v71) ∧
 nilP x0 fun a72 =>
 stV w ((a72.add 5).add 0) (.int .i64 (IntKind.i64.wrap (v71 + 1))) fun w73 =>
 Xa x0 x3 w73

def bl2 (R : EP) (Xb : OA → Nat → WP) (Xc : OA → Nat → OA → Nat → Nat → Int → Int → WP) (x0 : OA) (x3 : Nat) (x86q : OA) (x86n : Nat) (x86c : Nat) (x87 : Int) (x88 : Int) (w : World) : Prop :=
 br (decide (x88 < x87))
 (0 ≤ x88 ∧ x88 < (x86n : Int) ∧
 nilP x86q fun a76 =>
 ∃ (v77 : Value), w.cell? (a76.add (Int.toNat x88 * 1)) = some v77 ∧
 ∃ (v78 : Int), w.cell? ⟨x3, 0, none⟩ = some (.int .i64 v78) ∧
 ∃ (v79 : Int), w.cell? ⟨x3, 1, none⟩ = some (.int .i64 v79) ∧
 ∃ (v80 : Int), w.cell? ⟨x3, 2, none⟩ = some (.int .i64 v80) ∧
 ∃ (v81 : BA), w.cell? ⟨x3, 3, none⟩ = some (.string v81) ∧
 ∃ (v82 : Int), w.cell? ⟨x3, 4, none⟩ = some (.int .u8 v82) ∧
 enterE P (do let d ← Deferred.ofValue v77 #[.pointer x0, .agg #[.int .i64 v78, .int .i64 v79, .int .i64 v80, .string v81, .int .u8 v82]]; invoke d.target d.args) (fun e w84 => ∃ (r83_0_0 : Int), ∃ (r83_0_1 : Int), ∃ (r83_0_2 : Int), ∃ (r83_0_3 : BA), ∃ (r83_0_4 : Int), ∃ (r83_1 : Bool), e = .returned (.tuple #[.agg #[.int .i64 r83_0_0, .int .i64 r83_0_1, .int .i64 r83_0_2, .string r83_0_3, .int .u8 r83_0_4], .bool r83_1]) ∧
 box w84 #[.int .i64 0, .int .i64 0, .int .i64 0, .string (ByteArray.mk #[]), .int .u8 0] ty_line fun b85 w86 =>
 stV w86 ⟨b85, 0, none⟩ (.int .i64 r83_0_0) fun w87 =>
 stV w87 ⟨b85, 1, none⟩ (.int .i64 r83_0_1) fun w88 =>
 stV w88 ⟨b85, 2, none⟩ (.int .i64 r83_0_2) fun w89 =>
 stV w89 ⟨b85, 3, none⟩ (.string r83_0_3) fun w90 =>
 stV w90 ⟨b85, 4, none⟩ (.int .u8 r83_0_4) fun w91 =>
 br r83_1
 (∃ (v92 : Int), w91.cell? ⟨b85, 0, none⟩ = some (.int .i64 v92) ∧
 ∃ (v93 : Int), w91.cell? ⟨b85, 1, none⟩ = some (.int .i64 v93) ∧
 ∃ (v94 : Int), w91.cell? ⟨b85, 2, none⟩ = some (.int .i64 v94) ∧
 ∃ (v95 : BA), w91.cell? ⟨b85, 3, none⟩ = some (.string v95) ∧
 ∃ (v96 : Int), w91.cell? ⟨b85, 4, none⟩ = some (.int .u8 v96) ∧
 stV w91 ⟨x3, 0, none⟩ (.int .i64 v92) fun w97 =>
 stV w97 ⟨x3, 1, none⟩ (.int .i64 v93) fun w98 =>
 stV w98 ⟨x3, 2, none⟩ (.int .i64 v94) fun w99 =>
 stV w99 ⟨x3, 3, none⟩ (.string v95) fun w100 =>
 stV w100 ⟨x3, 4, none⟩ (.int .u8 v96) fun w101 =>
 callE P i_line_isBlank #[.pointer (some ⟨x3, 0, none⟩)] (fun e w103 => ∃ (r102 : Bool), e = .returned (.bool r102) ∧
 br r102
 (R (.returned (.tuple #[])) w103)
 (nilP x0 fun a104 =>
 ∃ (v105 : Int), w103.cell? (a104.add 5) = some (.int .i64 v105) ∧
 nilP x0 fun a106 =>
 stV w103 ((a106.add 5).add 0) (.int .i64 (IntKind.i64.wrap (v105 + 1))) fun w107 =>
 Xb x0 x3 w107)) w101)
 (Xc x0 x3 x86q x86n x86c x87 (IntKind.i64.wrap (x88 + 1)) w91)) w)
 (∃ (v108 : Int), w.cell? ⟨x3, 0, none⟩ = some (.int .i64 v108) ∧
 ∃ (v109 : Int), w.cell? ⟨x3, 1, none⟩ = some (.int .i64 v109) ∧
 ∃ (v110 : Int), w.cell? ⟨x3, 2, none⟩ = some (.int .i64 v110) ∧
 ∃ (v111 : BA), w.cell? ⟨x3, 3, none⟩ = some (.string v111) ∧
 ∃ (v112 : Int), w.cell? ⟨x3, 4, none⟩ = some (.int .u8 v112) ∧
 callE P i_newPara #[.pointer x0, .agg #[.int .i64 v108, .int .i64 v109, .int .i64 v110, .string v111, .int .u8 v112]] (fun e w114 => ∃ (r113_0_0 : Int), ∃ (r113_0_1 : Int), ∃ (r113_0_2 : Int), ∃ (r113_0_3 : BA), ∃ (r113_0_4 : Int), ∃ (r113_1 : Bool), e = .returned (.tuple #[.agg #[.int .i64 r113_0_0, .int .i64 r113_0_1, .int .i64 r113_0_2, .string r113_0_3, .int .u8 r113_0_4], .bool r113_1]) ∧
 R (.returned (.tuple #[])) w114) w)
def l2 (R : EP) (Xb : OA → Nat → WP) (x0 : OA) (x3 : Nat) (x86q : OA) (x86n : Nat) (x86c : Nat) (x87 : Int) (x88 : Int) (w : World) : Prop :=
  ∀ X : OA → Nat → OA → Nat → Nat → Int → Int → WP, (∀ x0 x3 x86q x86n x86c x87 x88 w, bl2 R Xb X x0 x3 x86q x86n x86c x87 x88 w → X x0 x3 x86q x86n x86c x87 x88 w) → X x0 x3 x86q x86n x86c x87 x88 w

noncomputable def al2 (R : EP) (Xb : OA → Nat → WP) (Xc : OA → Nat → OA → Nat → Nat → Int → Int → WP) : AC :=
  (.leaf (sel [1, 0, 1, 1, 1, 1, 0, 1, 0, 0] body))
def bl102 (R : EP) (Xb : OA → Nat → WP) (x0 : OA) (x3 : Nat) (w : World) : Prop :=
 callE P i_news #[] (fun e w75 => ∃ (r74q : OA), ∃ (r74n : Nat), ∃ (r74c : Nat), e = .returned (.slice r74q r74n r74c) ∧
 l2 R Xb x0 x3 r74q r74n r74c (r74n : Int) 0 w75) w
def l102 (R : EP) (x0 : OA) (x3 : Nat) (w : World) : Prop :=
  ∀ X : OA → Nat → WP, (∀ x0 x3 w, bl102 R X x0 x3 w → X x0 x3 w) → X x0 x3 w

noncomputable def al102 (R : EP) (Xb : OA → Nat → WP) : AC :=
  (.seq (.seq (.leaf (sel [1, 0, 1, 1, 1, 1, 0, 0] body)) (.block 2 (.loop (leaf [(0, .s .ptr), (3, .s .loc), (86, .s .slice), (87, .s (.int .i64)), (88, .s (.int .i64))] (l2 R Xb)) (sel [1, 0, 1, 1, 1, 1, 0, 1, 0, 0] body)))) (.leaf (sel [1, 0, 1, 1, 1, 1, 1] body)))
def k2 (R : EP) (x0 : OA) (x3 : Nat) (w : World) : Prop :=
 callE P i_line_isBlank #[.pointer (some ⟨x3, 0, none⟩)] (fun e w65 => ∃ (r64 : Bool), e = .returned (.bool r64) ∧
 br r64
 (nilP x0 fun a66 =>
 ∃ (v67 : Int), w65.cell? (a66.add 5) = some (.int .i64 v67) ∧
 callE P i_parseState_trimStack #[.pointer x0, .int .i64 (IntKind.i64.wrap (v67 + 1))] (fun e w69 => e = .returned (.tuple #[]) ∧
 R (.returned (.tuple #[])) w69) w65)
 (bl102 R (l102 R) x0 x3 w65)) w

def k1 (R : EP) (Xa : OA → Nat → WP) (x0 : OA) (x3 : Nat) (x5 : Bool) (x59 : Bool) (w : World) : Prop :=
 br x59
 (tk w fun w55 =>
 nilP x0 fun a56 =>
 nilP x0 fun a57 =>
 nilP x0 fun a58 =>
 ∃ (v59q : OA), ∃ (v59n : Nat), ∃ (v59c : Nat), w55.cell? (a56.add 4) = some (.slice v59q v59n v59c) ∧
 ∃ (v60 : Int), w55.cell? (a57.add 5) = some (.int .i64 v60) ∧
 ∃ (v61 : Int), w55.cell? (a58.add 3) = some (.int .i64 v61) ∧
 0 ≤ (IntKind.i64.wrap (v60 + 1)) ∧ (IntKind.i64.wrap (v60 + 1)) < (v59n : Int) ∧
 nilP v59q fun a62 =>
 stV w55 ((((a62.add (Int.toNat (IntKind.i64.wrap (v60 + 1)) * 4)).add 2).add 1).add 0) (.int .i64 v61) fun w63 =>
 br (!x5)
 (k2 R x0 x3 w63)
 (k3 R Xa x0 x3 w63))
 (br (!x5)
 (k2 R x0 x3 w)
 (k3 R Xa x0 x3 w))

def bl1 (R : EP) (Xa : OA → Nat → WP) (x0 : OA) (x3 : Nat) (w : World) : Prop :=
 tk w fun w5 =>
 nilP x0 fun a6 =>
 nilP x0 fun a7 =>
 ∃ (v8 : Int), w5.cell? (a6.add 5) = some (.int .i64 v8) ∧
 ∃ (v9q : OA), ∃ (v9n : Nat), ∃ (v9c : Nat), w5.cell? (a7.add 4) = some (.slice v9q v9n v9c) ∧
 br (decide ((IntKind.i64.wrap (v8 + 1)) < (v9n : Int)))
 (∃ (v10 : Int), w5.cell? ⟨x3, 0, none⟩ = some (.int .i64 v10) ∧
 ∃ (v11 : Int), w5.cell? ⟨x3, 1, none⟩ = some (.int .i64 v11) ∧
 ∃ (v12 : Int), w5.cell? ⟨x3, 2, none⟩ = some (.int .i64 v12) ∧
 ∃ (v13 : BA), w5.cell? ⟨x3, 3, none⟩ = some (.string v13) ∧
 ∃ (v14 : Int), w5.cell? ⟨x3, 4, none⟩ = some (.int .u8 v14) ∧
 box w5 #[.int .i64 0, .int .i64 0, .int .i64 0, .string (ByteArray.mk #[]), .int .u8 0] ty_line fun b15 w16 =>
 stV w16 ⟨b15, 0, none⟩ (.int .i64 v10) fun w17 =>
 stV w17 ⟨b15, 1, none⟩ (.int .i64 v11) fun w18 =>
 stV w18 ⟨b15, 2, none⟩ (.int .i64 v12) fun w19 =>
 stV w19 ⟨b15, 3, none⟩ (.string v13) fun w20 =>
 stV w20 ⟨b15, 4, none⟩ (.int .u8 v14) fun w21 =>
 tk w21 fun w22 =>
 nilP x0 fun a23 =>
 nilP x0 fun a24 =>
 ∃ (v25q : OA), ∃ (v25n : Nat), ∃ (v25c : Nat), w22.cell? (a23.add 4) = some (.slice v25q v25n v25c) ∧
 ∃ (v26 : Int), w22.cell? (a24.add 5) = some (.int .i64 v26) ∧
 0 ≤ (IntKind.i64.wrap (v26 + 1)) ∧ (IntKind.i64.wrap (v26 + 1)) < (v25n : Int) ∧
 nilP v25q fun a27 =>
 ∃ (v28 : Value), w22.cell? (a27.add (Int.toNat (IntKind.i64.wrap (v26 + 1)) * 4)) = some v28 ∧
 ∃ (v29 : Int), w22.cell? ⟨x3, 0, none⟩ = some (.int .i64 v29) ∧
 ∃ (v30 : Int), w22.cell? ⟨x3, 1, none⟩ = some (.int .i64 v30) ∧
 ∃ (v31 : Int), w22.cell? ⟨x3, 2, none⟩ = some (.int .i64 v31) ∧
 ∃ (v32 : BA), w22.cell? ⟨x3, 3, none⟩ = some (.string v32) ∧
 ∃ (v33 : Int), w22.cell? ⟨x3, 4, none⟩ = some (.int .u8 v33) ∧
 enterE P (callMethod v28 "pub-paratext/pub/rscmarkdown.extend" #[.pointer x0, .agg #[.int .i64 v29, .int .i64 v30, .int .i64 v31, .string v32, .int .u8 v33]]) (fun e w35 => ∃ (r34_0_0 : Int), ∃ (r34_0_1 : Int), ∃ (r34_0_2 : Int), ∃ (r34_0_3 : BA), ∃ (r34_0_4 : Int), ∃ (r34_1 : Bool), e = .returned (.tuple #[.agg #[.int .i64 r34_0_0, .int .i64 r34_0_1, .int .i64 r34_0_2, .string r34_0_3, .int .u8 r34_0_4], .bool r34_1]) ∧
 stV w35 ⟨x3, 0, none⟩ (.int .i64 r34_0_0) fun w36 =>
 stV w36 ⟨x3, 1, none⟩ (.int .i64 r34_0_1) fun w37 =>
 stV w37 ⟨x3, 2, none⟩ (.int .i64 r34_0_2) fun w38 =>
 stV w38 ⟨x3, 3, none⟩ (.string r34_0_3) fun w39 =>
 stV w39 ⟨x3, 4, none⟩ (.int .u8 r34_0_4) fun w40 =>
 callE P i_line_isBlank #[.pointer (some ⟨b15, 0, none⟩)] (fun e w42 => ∃ (r41 : Bool), e = .returned (.bool r41) ∧
 br (!r41)
 (br r34_1
 (k1 R Xa x0 x3 r34_1 true w42)
 (∃ (v43 : Int), w42.cell? ⟨x3, 0, none⟩ = some (.int .i64 v43) ∧
 ∃ (v44 : Int), w42.cell? ⟨x3, 1, none⟩ = some (.int .i64 v44) ∧
 ∃ (v45 : Int), w42.cell? ⟨x3, 2, none⟩ = some (.int .i64 v45) ∧
 ∃ (v46 : BA), w42.cell? ⟨x3, 3, none⟩ = some (.string v46) ∧
 ∃ (v47 : Int), w42.cell? ⟨x3, 4, none⟩ = some (.int .u8 v47) ∧
 ∃ (v48 : Int), w42.cell? ⟨b15, 0, none⟩ = some (.int .i64 v48) ∧
 ∃ (v49 : Int), w42.cell? ⟨b15, 1, none⟩ = some (.int .i64 v49) ∧
 ∃ (v50 : Int), w42.cell? ⟨b15, 2, none⟩ = some (.int .i64 v50) ∧
 ∃ (v51 : BA), w42.cell? ⟨b15, 3, none⟩ = some (.string v51) ∧
 ∃ (v52 : Int), w42.cell? ⟨b15, 4, none⟩ = some (.int .u8 v52) ∧
 ∃ (r53 : Bool), ∃ w54, (do eqGuard .neq ty_line (.tmp 55) (.tmp 56) (.agg #[.int .i64 v43, .int .i64 v44, .int .i64 v45, .string v46, .int .u8 v47]) (.agg #[.int .i64 v48, .int .i64 v49, .int .i64 v50, .string v51, .int .u8 v52]); binOp .neq ty_line (.agg #[.int .i64 v43, .int .i64 v44, .int .i64 v45, .string v46, .int .u8 v47]) (.agg #[.int .i64 v48, .int .i64 v49, .int .i64 v50, .string v51, .int .u8 v52])).run P w42 = .ok (.bool r53) w54 ∧
 k1 R Xa x0 x3 r34_1 r53 w54))
 (k1 R Xa x0 x3 r34_1 false w42)) w40) w22)
 (k2 R x0 x3 w5)
def l1 (R : EP) (x0 : OA) (x3 : Nat) (w : World) : Prop :=
  ∀ X : OA → Nat → WP, (∀ x0 x3 w, bl1 R X x0 x3 w → X x0 x3 w) → X x0 x3 w

noncomputable def al1 (R : EP) (Xa : OA → Nat → WP) : AC :=
  (.seq (.seq (.draw (.pure 0 (.pure 1 (.pure 2 (.pure 5 (.pure 6 (.pure 7 (.load 3 (.pure 4 (.load 8 (.pure 9 (.pure 10 .done))))))))))) (sel [1, 0, 1, 0, 0, 0, 0, 0] body)) (.leaf (sel [1, 0, 1, 0, 0, 0, 0, 1] body))) (.seq (.block 1 (.seq (.leaf (sel [1, 0, 1, 0, 0, 0, 1, 0, 0, 0] body)) (.seq (.leaf (sel [1, 0, 1, 0, 0, 0, 1, 0, 0, 1, 0] body)) (.seq (.draw (.pure 0 (.pure 1 (.pure 2 (.pure 4 (.pure 5 (.pure 6 (.pure 12 (.load 3 (.load 7 (.pure 8 (.pure 9 (.pure 10 (.load 11 (.load 13 (.one 14 (.pure 15 (.pure 16 (.pure 17 (.one 18 (.pure 19 .done)))))))))))))))))))) (sel [1, 0, 1, 0, 0, 0, 1, 0, 0, 1, 1, 0] body)) (.seq (.seq (.leaf (sel [1, 0, 1, 0, 0, 0, 1, 0, 0, 1, 1, 1, 0, 0] body)) (.mark (leaf [(0, .s .ptr), (3, .s .loc), (5, .s .bool), (59, .s .bool)] (k1 R Xa)) (.cond 59 (.draw (.pure 0 (.pure 1 (.pure 2 (.pure 4 (.pure 5 (.pure 6 (.pure 9 (.pure 10 (.pure 11 (.load 3 (.load 7 (.pure 8 (.load 12 (.pure 13 (.pure 14 (.pure 15 (.one 16 .done))))))))))))))))) (sel [1, 0, 1, 0, 0, 0, 1, 0, 0, 1, 1, 1, 0, 1, 0] body)) (.leaf (sel [1, 0, 1, 0, 0, 0, 1, 0, 0, 1, 1, 1, 0, 1, 1] body))))) (.leaf (sel [1, 0, 1, 0, 0, 0, 1, 0, 0, 1, 1, 1, 1] body))))))) (.mark (leaf [(0, .s .ptr), (3, .s .loc)] (k3 R Xa)) (.leaf (sel [1, 0, 1, 0, 0, 0, 1, 1] body)))))
end g_parseState_addLine
def g_parseState_addLine (R : EP) (x0 : OA) (x1_0 : Int) (x1_1 : Int) (x1_2 : Int) (x1_3 : BA) (x1_4 : Int) (w : World) : Prop :=
 box w #[.int .i64 x1_0, .int .i64 x1_1, .int .i64 x1_2, .string x1_3, .int .u8 x1_4] ty_line fun b1 w2 =>
 nilP x0 fun a3 =>
 stV w2 ((a3.add 5).add 0) (.int .i64 0) fun w4 =>
 g_parseState_addLine.l1 R x0 b1 w4

noncomputable def g_parseState_addLine.ac (R : EP) : AC :=
  (.seq (.leaf (sel [0] g_parseState_addLine.body)) (.jump 0 (leaf [(0, .s .ptr), (3, .s .loc)] (g_parseState_addLine.l102 R)) (.seq (.leaf (sel [1, 0, 0] g_parseState_addLine.body)) (.seq (.block 0 (.loop (leaf [(0, .s .ptr), (3, .s .loc)] (g_parseState_addLine.l1 R)) (sel [1, 0, 1, 0, 0, 0] g_parseState_addLine.body))) (.mark (leaf [(0, .s .ptr), (3, .s .loc)] (g_parseState_addLine.k2 R)) (.seq (.leaf (sel [1, 0, 1, 1, 0] g_parseState_addLine.body)) (.seq (.leaf (sel [1, 0, 1, 1, 1, 0] g_parseState_addLine.body)) (.mark (leaf [(0, .s .ptr), (3, .s .loc)] (g_parseState_addLine.bl102 R (g_parseState_addLine.l102 R))) (g_parseState_addLine.al102 R (g_parseState_addLine.l102 R))))))))))
theorem g_parseState_addLine.good (R : EP) : Good P 113 (g_parseState_addLine.ac R) (QF P [] R) :=
  ⟨trivial, ⟨⟨trivial, ⟨(loopG (g_parseState_addLine.al1 R) (g_parseState_addLine.bl1 R) (fun _ => by kernel_rfl) (fun Xa => ⟨⟨⟨by kernel_rfl, by kernel_rfl, fun _ _ _ h => h⟩, trivial⟩, ⟨⟨trivial, ⟨trivial, ⟨⟨by kernel_rfl, by kernel_rfl, fun _ _ _ h => h⟩, ⟨⟨trivial, ⟨⟨⟨by kernel_rfl, by kernel_rfl, fun _ _ _ h => h⟩, trivial⟩, cutE (by intro x0 x3 x5 x59 ρ w; kernel_rfl)⟩⟩, trivial⟩⟩⟩⟩, ⟨trivial, cutE (by intro x0 x3 ρ w; kernel_rfl)⟩⟩⟩) (fun Xa => by intro x0 x3 ρ w; kernel_rfl) (fun X h _ _ _ g => g X h)), ⟨⟨trivial, ⟨trivial, ⟨⟨trivial, (loopG (g_parseState_addLine.al2 R (g_parseState_addLine.l102 R)) (g_parseState_addLine.bl2 R (g_parseState_addLine.l102 R)) (fun _ => by kernel_rfl) (fun Xc => trivial) (fun Xc => by intro x0 x3 x86q x86n x86c x87 x88 ρ w; kernel_rfl) (fun X h _ _ _ _ _ _ _ _ g => g X h))⟩, trivial⟩, cutE (by intro x0 x3 ρ w; kernel_rfl)⟩⟩, cutE (by intro x0 x3 ρ w; kernel_rfl)⟩⟩⟩, .seq .skip (sel [1, 0, 1, 1, 1, 1] g_parseState_addLine.body), by kernel_rfl, jumpG (l := 0) (fun X => .seq (.leaf .skip) (g_parseState_addLine.al102 R X)) (g_parseState_addLine.bl102 R) (by kernel_rfl) (fun _ => by kernel_rfl) (fun Xb => ⟨trivial, ⟨⟨trivial, (loopG (g_parseState_addLine.al2 R Xb) (g_parseState_addLine.bl2 R Xb) (fun _ => by kernel_rfl) (fun Xc => trivial) (fun Xc => by intro x0 x3 x86q x86n x86c x87 x88 ρ w; kernel_rfl) (fun X h _ _ _ _ _ _ _ _ g => g X h))⟩, trivial⟩⟩) (fun Xb => by intro x0 x3 ρ w; kernel_rfl) (fun X h _ _ _ g => g X h)⟩⟩
theorem g_parseState_addLine.eq (R : EP) (x0 : OA) (x1_0 : Int) (x1_1 : Int) (x1_2 : Int) (x1_3 : BA) (x1_4 : Int) (w : World) : g_parseState_addLine R x0 x1_0 x1_1 x1_2 x1_3 x1_4 w = vcA P 113 (g_parseState_addLine.ac R) (QF P [] R) (fr0 [.pointer x0, .agg #[.int .i64 x1_0, .int .i64 x1_1, .int .i64 x1_2, .string x1_3, .int .u8 x1_4]]) w := by kernel_rfl
theorem g_parseState_addLine.sound {R : EP} {x0 : OA} {x1_0 : Int} {x1_1 : Int} {x1_2 : Int} {x1_3 : ByteArray} {x1_4 : Int} {w : World} (h : g_parseState_addLine R x0 x1_0 x1_1 x1_2 x1_3 x1_4 w) : callE P i_parseState_addLine #[.pointer x0, .agg #[.int .i64 x1_0, .int .i64 x1_1, .int .i64 x1_2, .string x1_3, .int .u8 x1_4]] R w :=
  callE_fin (c := g_parseState_addLine.body) Tryz.func53 Tryz.call53 (by kernel_rfl) (by kernel_rfl) (by kernel_rfl) (by kernel_rfl) (by kernel_rfl) (g_parseState_addLine.good R) (g_parseState_addLine.eq R x0 x1_0 x1_1 x1_2 x1_3 x1_4 w) h
namespace g_news
noncomputable def body : Code := bodyOf Tryz.f64
end g_news
def g_news (R : EP) (w : World) : Prop :=
 ∃ (r1q : OA), ∃ (r1n : Nat), ∃ (r1c : Nat), ∃ w2, (Instr.buildSlice ty_S_func_P_parseState_line_line_bool 8 #[(0, .func (.func i_newQuote) #[] #[]), (1, .func (.func i_newATXHeading) #[] #[]), (2, .func (.func i_newSetextHeading) #[] #[]), (3, .func (.func i_newHR) #[] #[]), (4, .func (.func i_newListItem) #[] #[]), (5, .func (.func i_newHTML) #[] #[]), (6, .func (.func i_newFence) #[] #[]), (7, .func (.func i_newPre) #[] #[])]).run P w = .ok (.slice r1q r1n r1c) w2 ∧
 R (.returned (.slice r1q r1n r1c)) w2

noncomputable def g_news.ac (R : EP) : AC :=
  (.leaf (sel [] g_news.body))
theorem g_news.good (R : EP) : Good P 2 (g_news.ac R) (QF P [.tmp 0] R) :=
  trivial
theorem g_news.eq (R : EP) (w : World) : g_news R w = vcA P 2 (g_news.ac R) (QF P [.tmp 0] R) (fr0 []) w := by kernel_rfl
theorem g_news.sound {R : EP} {w : World} (h : g_news R w) : callE P i_news #[] R w :=
  callE_fin (c := g_news.body) Tryz.func64 Tryz.call64 (by kernel_rfl) (by kernel_rfl) (by kernel_rfl) (by kernel_rfl) (by kernel_rfl) (g_news.good R) (g_news.eq R w) h
namespace g_newPara
noncomputable def body : Code := bodyOf Tryz.f65
def k5 (R : EP) (x4 : Nat) (x6 : OA) (x8 : BA) (w : World) : Prop :=
 nilP x6 fun a102 =>
 ∃ (v103q : OA), ∃ (v103n : Nat), ∃ (v103c : Nat), w.cell? a102 = some (.slice v103q v103n v103c) ∧
 ∃ (r104q : OA), ∃ (r104n : Nat), ∃ (r104c : Nat), ∃ w105, (Instr.buildSlice ty_S_string 1 #[(0, .string x8)]).run P w = .ok (.slice r104q r104n r104c) w105 ∧
 ∃ (r106q : OA), ∃ (r106n : Nat), ∃ (r106c : Nat), ∃ w107, (Builtin.append_ #[ty_S_string, ty_S_string] ty_S_string #[.slice v103q v103n v103c, .slice r104q r104n r104c]).run P w105 = .ok (.slice r106q r106n r106c) w107 ∧
 nilP x6 fun a108 =>
 stV w107 (a108.add 0) (.slice r106q r106n r106c) fun w109 =>
 stV w109 ⟨x4, 0, none⟩ (.int .i64 0) fun w110 =>
 stV w110 ⟨x4, 1, none⟩ (.int .i64 0) fun w111 =>
 stV w111 ⟨x4, 2, none⟩ (.int .i64 0) fun w112 =>
 stV w112 ⟨x4, 3, none⟩ (.string (ByteArray.mk #[])) fun w113 =>
 stV w113 ⟨x4, 4, none⟩ (.int .u8 0) fun w114 =>
 ∃ (v115 : Int), w114.cell? ⟨x4, 0, none⟩ = some (.int .i64 v115) ∧
 ∃ (v116 : Int), w114.cell? ⟨x4, 1, none⟩ = some (.int .i64 v116) ∧
 ∃ (v117 : Int), w114.cell? ⟨x4, 2, none⟩ = some (.int .i64 v117) ∧
 ∃ (v118 : BA), w114.cell? ⟨x4, 3, none⟩ = some (.string v118) ∧
 ∃ (v119 : Int), w114.cell? ⟨x4, 4, none⟩ = some (.int .u8 v119) ∧
 R (.returned (.tuple #[.agg #[.int .i64 v115, .int .i64 v116, .int .i64 v117, .string v118, .int .u8 v119], .bool true])) w114

def bl1 (R : EP) (Xa : OA → Nat → OA → BA → Int → WP) (x0 : OA) (x4 : Nat) (x6 : OA) (x8 : BA) (x11 : Int) (w : World) : Prop :=
 nilP x0 fun a93 =>
 ∃ (v94q : OA), ∃ (v94n : Nat), ∃ (v94c : Nat), w.cell? (a93.add 4) = some (.slice v94q v94n v94c) ∧
 br (decide (x11 < (v94n : Int)))
 (tk w fun w95 =>
 nilP x0 fun a96 =>
 nilP x0 fun a97 =>
 ∃ (v98q : OA), ∃ (v98n : Nat), ∃ (v98c : Nat), w95.cell? (a96.add 4) = some (.slice v98q v98n v98c) ∧
 ∃ (v99 : Int), w95.cell? (a97.add 3) = some (.int .i64 v99) ∧
 0 ≤ x11 ∧ x11 < (v98n : Int) ∧
 nilP v98q fun a100 =>
 stV w95 ((((a100.add (Int.toNat x11 * 4)).add 2).add 1).add 0) (.int .i64 v99) fun w101 =>
 Xa x0 x4 x6 x8 (IntKind.i64.wrap (x11 + 1)) w101)
 (k5 R x4 x6 x8 w)
def l1 (R : EP) (x0 : OA) (x4 : Nat) (x6 : OA) (x8 : BA) (x11 : Int) (w : World) : Prop :=
  ∀ X : OA → Nat → OA → BA → Int → WP, (∀ x0 x4 x6 x8 x11 w, bl1 R X x0 x4 x6 x8 x11 w → X x0 x4 x6 x8 x11 w) → X x0 x4 x6 x8 x11 w

noncomputable def al1 (R : EP) (Xa : OA → Nat → OA → BA → Int → WP) : AC :=
  (.seq (.leaf (sel [1, 1, 1, 1, 1, 1, 0, 1, 0, 1, 0, 0, 0] body)) (.seq (.block 1 (.draw (.pure 0 (.pure 1 (.pure 2 (.pure 4 (.pure 5 (.pure 6 (.pure 7 (.load 3 (.load 8 (.pure 9 (.pure 10 (.pure 11 (.one 12 .done))))))))))))) (sel [1, 1, 1, 1, 1, 1, 0, 1, 0, 1, 0, 0, 1, 0, 0] body))) (.leaf (sel [1, 1, 1, 1, 1, 1, 0, 1, 0, 1, 0, 0, 1, 1] body))))
def k4 (R : EP) (x0 : OA) (x4 : Nat) (x6 : OA) (x8 : BA) (x88 : Bool) (w : World) : Prop :=
 br x88
 (tk w fun w50 =>
 nilP x6 fun a51 =>
 nilP x6 fun a52 =>
 ∃ (v53q : OA), ∃ (v53n : Nat), ∃ (v53c : Nat), w50.cell? a51 = some (.slice v53q v53n v53c) ∧
 ∃ (v54q : OA), ∃ (v54n : Nat), ∃ (v54c : Nat), w50.cell? a52 = some (.slice v54q v54n v54c) ∧
 0 ≤ (IntKind.i64.wrap ((v54n : Int) - 1)) ∧ (IntKind.i64.wrap ((v54n : Int) - 1)) < (v53n : Int) ∧
 nilP v53q fun a55 =>
 ∃ (v56 : BA), w50.cell? (a55.add (Int.toNat (IntKind.i64.wrap ((v54n : Int) - 1)) * 1)) = some (.string v56) ∧
 tk w50 fun w57 =>
 nilP x6 fun a58 =>
 nilP x6 fun a59 =>
 ∃ (v60q : OA), ∃ (v60n : Nat), ∃ (v60c : Nat), w57.cell? a58 = some (.slice v60q v60n v60c) ∧
 ∃ (v61q : OA), ∃ (v61n : Nat), ∃ (v61c : Nat), w57.cell? a59 = some (.slice v61q v61n v61c) ∧
 ∃ (r62q : OA), ∃ (r62n : Nat), ∃ (r62c : Nat), (∀ w, (Instr.sliceAt ty_S_string (.slice v60q v60n v60c) none (some (.int .i64 (IntKind.i64.wrap ((v61n : Int) - 1)))) none).run P w = .ok (.slice r62q r62n r62c) w) ∧
 nilP x6 fun a63 =>
 stV w57 (a63.add 0) (.slice r62q r62n r62c) fun w64 =>
 box w64 #[.slice none 0 0, .pointer none] ty_paraBuilder fun b65 w66 =>
 callE P i_parseState_addBlock #[.pointer x0, .iface ty_P_paraBuilder (.pointer (some ⟨b65, 0, none⟩))] (fun e w68 => e = .returned (.tuple #[]) ∧
 box w68 #[.string (ByteArray.mk #[]), .string (ByteArray.mk #[]), .slice none 0 0] ty_tableBuilder fun b69 w70 =>
 stV w70 ⟨b65, 1, none⟩ (.pointer (some ⟨b69, 0, none⟩)) fun w71 =>
 ∃ (v72 : OA), w71.cell? ⟨b65, 1, none⟩ = some (.pointer v72) ∧
 callE P i_tableBuilder_start #[.pointer v72, .string v56, .string x8] (fun e w74 => e = .returned (.tuple #[]) ∧
 stV w74 ⟨x4, 0, none⟩ (.int .i64 0) fun w75 =>
 stV w75 ⟨x4, 1, none⟩ (.int .i64 0) fun w76 =>
 stV w76 ⟨x4, 2, none⟩ (.int .i64 0) fun w77 =>
 stV w77 ⟨x4, 3, none⟩ (.string (ByteArray.mk #[])) fun w78 =>
 stV w78 ⟨x4, 4, none⟩ (.int .u8 0) fun w79 =>
 ∃ (v80 : Int), w79.cell? ⟨x4, 0, none⟩ = some (.int .i64 v80) ∧
 ∃ (v81 : Int), w79.cell? ⟨x4, 1, none⟩ = some (.int .i64 v81) ∧
 ∃ (v82 : Int), w79.cell? ⟨x4, 2, none⟩ = some (.int .i64 v82) ∧
 ∃ (v83 : BA), w79.cell? ⟨x4, 3, none⟩ = some (.string v83) ∧
 ∃ (v84 : Int), w79.cell? ⟨x4, 4, none⟩ = some (.int .u8 v84) ∧
 R (.returned (.tuple #[.agg #[.int .i64 v80, .int .i64 v81, .int .i64 v82, .string v83, .int .u8 v84], .bool true])) w79) w71) w66)
 (∃ (r85 : Bool), ∃ w86, (do eqGuard .neq ty_P_paraBuilder (.tmp 132) (.const (.pointer none)) (.pointer x6) (.pointer none); binOp .neq ty_P_paraBuilder (.pointer x6) (.pointer none)).run P w = .ok (.bool r85) w86 ∧
 br r85
 (nilP x0 fun a87 =>
 ∃ (v88 : Int), w86.cell? (a87.add 5) = some (.int .i64 v88) ∧
 l1 R x0 x4 x6 x8 v88 w86)
 (box w86 #[.slice none 0 0, .pointer none] ty_paraBuilder fun b89 w90 =>
 callE P i_parseState_addBlock #[.pointer x0, .iface ty_P_paraBuilder (.pointer (some ⟨b89, 0, none⟩))] (fun e w92 => e = .returned (.tuple #[]) ∧
 k5 R x4 (some ⟨b89, 0, none⟩) x8 w92) w90))

def k3 (R : EP) (x0 : OA) (x4 : Nat) (x6 : OA) (x7 : Bool) (x8 : BA) (w : World) : Prop :=
 tk w fun w34 =>
 nilP x0 fun a35 =>
 ∃ (v36 : OA), w34.cell? a35 = some (.pointer v36) ∧
 nilP v36 fun a37 =>
 ∃ (v38 : Bool), w34.cell? (a37.add 5) = some (.bool v38) ∧
 br v38
 (∃ (r39 : Bool), (∀ w, (do eqGuard .neq ty_P_paraBuilder (.tmp 59) (.const (.pointer none)) (.pointer x6) (.pointer none); binOp .neq ty_P_paraBuilder (.pointer x6) (.pointer none)).run P w = .ok (.bool r39) w) ∧
 br r39
 (br x7
 (nilP x6 fun a40 =>
 ∃ (v41q : OA), ∃ (v41n : Nat), ∃ (v41c : Nat), w34.cell? a40 = some (.slice v41q v41n v41c) ∧
 br (decide ((v41n : Int) > 0))
 (nilP x6 fun a42 =>
 nilP x6 fun a43 =>
 ∃ (v44q : OA), ∃ (v44n : Nat), ∃ (v44c : Nat), w34.cell? a42 = some (.slice v44q v44n v44c) ∧
 ∃ (v45q : OA), ∃ (v45n : Nat), ∃ (v45c : Nat), w34.cell? a43 = some (.slice v45q v45n v45c) ∧
 0 ≤ (IntKind.i64.wrap ((v45n : Int) - 1)) ∧ (IntKind.i64.wrap ((v45n : Int) - 1)) < (v44n : Int) ∧
 nilP v44q fun a46 =>
 ∃ (v47 : BA), w34.cell? (a46.add (Int.toNat (IntKind.i64.wrap ((v45n : Int) - 1)) * 1)) = some (.string v47) ∧
 callE P i_isTableStart #[.string v47, .string x8] (fun e w49 => ∃ (r48 : Bool), e = .returned (.bool r48) ∧
 k4 R x0 x4 x6 x8 r48 w49) w34)
 (k4 R x0 x4 x6 x8 false w34))
 (k4 R x0 x4 x6 x8 false w34))
 (k4 R x0 x4 x6 x8 false w34))
 (k4 R x0 x4 x6 x8 false w34)

def k2 (R : EP) (x0 : OA) (x4 : Nat) (x6 : OA) (x7 : Bool) (x8 : BA) (x43 : Bool) (w : World) : Prop :=
 br x43
 (nilP x6 fun a20 =>
 ∃ (v21 : OA), w.cell? (a20.add 1) = some (.pointer v21) ∧
 callE P i_tableBuilder_addRow #[.pointer v21, .string x8] (fun e w23 => e = .returned (.tuple #[]) ∧
 stV w23 ⟨x4, 0, none⟩ (.int .i64 0) fun w24 =>
 stV w24 ⟨x4, 1, none⟩ (.int .i64 0) fun w25 =>
 stV w25 ⟨x4, 2, none⟩ (.int .i64 0) fun w26 =>
 stV w26 ⟨x4, 3, none⟩ (.string (ByteArray.mk #[])) fun w27 =>
 stV w27 ⟨x4, 4, none⟩ (.int .u8 0) fun w28 =>
 ∃ (v29 : Int), w28.cell? ⟨x4, 0, none⟩ = some (.int .i64 v29) ∧
 ∃ (v30 : Int), w28.cell? ⟨x4, 1, none⟩ = some (.int .i64 v30) ∧
 ∃ (v31 : Int), w28.cell? ⟨x4, 2, none⟩ = some (.int .i64 v31) ∧
 ∃ (v32 : BA), w28.cell? ⟨x4, 3, none⟩ = some (.string v32) ∧
 ∃ (v33 : Int), w28.cell? ⟨x4, 4, none⟩ = some (.int .u8 v33) ∧
 R (.returned (.tuple #[.agg #[.int .i64 v29, .int .i64 v30, .int .i64 v31, .string v32, .int .u8 v33], .bool true])) w28) w)
 (k3 R x0 x4 none x7 x8 w)

def k1 (R : EP) (x0 : OA) (x4 : Nat) (x6 : OA) (x7 : Bool) (x8 : BA) (x34 : Bool) (w : World) : Prop :=
 br x34
 (k2 R x0 x4 x6 x7 x8 ((x7 && (!(x8.toList == (ByteArray.mk #[]).toList))) && (!(x8.toList == (ByteArray.mk #[124]).toList))) w)
 (k3 R x0 x4 x6 x7 x8 w)

end g_newPara
def g_newPara (R : EP) (x0 : OA) (x1_0 : Int) (x1_1 : Int) (x1_2 : Int) (x1_3 : BA) (x1_4 : Int) (w : World) : Prop :=
 box w #[.int .i64 x1_0, .int .i64 x1_1, .int .i64 x1_2, .string x1_3, .int .u8 x1_4] ty_line fun b1 w2 =>
 box w2 #[.int .i64 0, .int .i64 0, .int .i64 0, .string (ByteArray.mk #[]), .int .u8 0] ty_line fun b3 w4 =>
 callE P i_parseState_para #[.pointer x0] (fun e w6 => ∃ (r5 : OA), e = .returned (.pointer r5) ∧
 tk w6 fun w7 =>
 nilP x0 fun a8 =>
 nilP x0 fun a9 =>
 ∃ (v10 : Int), w7.cell? (a8.add 5) = some (.int .i64 v10) ∧
 ∃ (v11q : OA), ∃ (v11n : Nat), ∃ (v11c : Nat), w7.cell? (a9.add 4) = some (.slice v11q v11n v11c) ∧
 callE P i_line_trimSpaceString #[.pointer (some ⟨b1, 0, none⟩)] (fun e w13 => ∃ (r12 : BA), e = .returned (.string r12) ∧
 ∃ (r14 : Bool), ∃ w15, (do eqGuard .neq ty_P_paraBuilder (.tmp 26) (.const (.pointer none)) (.pointer r5) (.pointer none); binOp .neq ty_P_paraBuilder (.pointer r5) (.pointer none)).run P w13 = .ok (.bool r14) w15 ∧
 br r14
 (nilP r5 fun a16 =>
 ∃ (v17 : OA), w15.cell? (a16.add 1) = some (.pointer v17) ∧
 ∃ (r18 : Bool), ∃ w19, (do eqGuard .neq ty_P_tableBuilder (.tmp 32) (.const (.pointer none)) (.pointer v17) (.pointer none); binOp .neq ty_P_tableBuilder (.pointer v17) (.pointer none)).run P w15 = .ok (.bool r18) w19 ∧
 g_newPara.k1 R x0 b3 r5 (v10 == (IntKind.i64.wrap ((v11n : Int) - 2))) r12 r18 w19)
 (g_newPara.k1 R x0 b3 r5 (v10 == (IntKind.i64.wrap ((v11n : Int) - 2))) r12 false w15)) w7) w4

noncomputable def g_newPara.ac (R : EP) : AC :=
  (.seq (.leaf (sel [0] g_newPara.body)) (.seq (.leaf (sel [1, 0] g_newPara.body)) (.seq (.draw (.pure 0 (.pure 1 (.pure 2 (.pure 4 (.pure 5 (.pure 6 (.load 3 (.load 7 (.pure 8 (.pure 9 (.pure 10 (.pure 11 .done)))))))))))) (sel [1, 1, 0] g_newPara.body)) (.seq (.leaf (sel [1, 1, 1, 0] g_newPara.body)) (.seq (.seq (.leaf (sel [1, 1, 1, 1, 0, 0] g_newPara.body)) (.mark (leaf [(0, .s .ptr), (4, .s .loc), (6, .s .ptr), (7, .s .bool), (8, .s .str), (34, .s .bool)] (g_newPara.k1 R)) (.cond 34 (.seq (.seq (.leaf (sel [1, 1, 1, 1, 0, 1, 0, 0, 0] g_newPara.body)) (.mark (leaf [(0, .s .ptr), (4, .s .loc), (6, .s .ptr), (7, .s .bool), (8, .s .str), (43, .s .bool)] (g_newPara.k2 R)) (.leaf (sel [1, 1, 1, 1, 0, 1, 0, 0, 1] g_newPara.body)))) (.leaf (sel [1, 1, 1, 1, 0, 1, 0, 1] g_newPara.body))) (.leaf (sel [1, 1, 1, 1, 0, 1, 1] g_newPara.body))))) (.mark (leaf [(0, .s .ptr), (4, .s .loc), (6, .s .ptr), (7, .s .bool), (8, .s .str)] (g_newPara.k3 R)) (.seq (.seq (.draw (.pure 0 (.pure 1 (.pure 2 (.load 3 (.pure 4 (.pure 5 (.load 6 (.pure 7 (.pure 8 (.pure 9 (.pure 10 (.pure 11 (.pure 12 (.pure 13 (.pure 14 (.pure 15 (.pure 16 (.pure 17 (.load 18 (.pure 19 (.pure 20 (.pure 21 (.pure 22 (.pure 23 (.pure 24 (.pure 25 (.pure 27 (.pure 28 (.pure 29 (.pure 35 (.load 26 (.load 30 (.pure 31 (.pure 32 (.pure 33 (.load 34 (.one 36 (.pure 37 .done)))))))))))))))))))))))))))))))))))))) (sel [1, 1, 1, 1, 1, 0, 0] g_newPara.body)) (.mark (leaf [(0, .s .ptr), (4, .s .loc), (6, .s .ptr), (8, .s .str), (88, .s .bool)] (g_newPara.k4 R)) (.cond 88 (.seq (.draw (.pure 0 (.pure 1 (.pure 2 (.pure 4 (.pure 5 (.pure 6 (.load 3 (.load 7 (.pure 8 (.pure 9 (.pure 10 (.load 11 (.pure 12 .done))))))))))))) (sel [1, 1, 1, 1, 1, 0, 1, 0, 0] g_newPara.body)) (.seq (.draw (.pure 0 (.pure 1 (.pure 2 (.pure 3 (.pure 5 (.pure 6 (.pure 7 (.load 4 (.load 8 (.pure 9 (.pure 10 (.pure 11 (.pure 12 (.pure 13 (.one 14 .done))))))))))))))) (sel [1, 1, 1, 1, 1, 0, 1, 0, 1, 0] g_newPara.body)) (.leaf (sel [1, 1, 1, 1, 1, 0, 1, 0, 1, 1] g_newPara.body)))) (.leaf (sel [1, 1, 1, 1, 1, 0, 1, 1] g_newPara.body))))) (.seq (.seq (.leaf (sel [1, 1, 1, 1, 1, 1, 0, 0] g_newPara.body)) (.cond 133 (.seq (.leaf (sel [1, 1, 1, 1, 1, 1, 0, 1, 0, 0] g_newPara.body)) (.block 0 (.loop (leaf [(0, .s .ptr), (4, .s .loc), (6, .s .ptr), (8, .s .str), (11, .s (.int .i64))] (g_newPara.l1 R)) (sel [1, 1, 1, 1, 1, 1, 0, 1, 0, 1, 0, 0] g_newPara.body)))) (.leaf (sel [1, 1, 1, 1, 1, 1, 0, 1, 1] g_newPara.body)))) (.mark (leaf [(4, .s .loc), (6, .s .ptr), (8, .s .str)] (g_newPara.k5 R)) (.leaf (sel [1, 1, 1, 1, 1, 1, 1] g_newPara.body)))))))))))
theorem g_newPara.good (R : EP) : Good P 175 (g_newPara.ac R) (QF P [.cell 4 107, .tmp 5] R) :=
  ⟨trivial, ⟨trivial, ⟨⟨by kernel_rfl, by kernel_rfl, fun _ _ _ h => h⟩, ⟨trivial, ⟨⟨trivial, ⟨⟨⟨⟨trivial, ⟨trivial, cutE (by intro x0 x4 x6 x7 x8 x43 ρ w; kernel_rfl)⟩⟩, trivial⟩, trivial⟩, cutE (by intro x0 x4 x6 x7 x8 x34 ρ w; kernel_rfl)⟩⟩, ⟨⟨⟨⟨by kernel_rfl, by kernel_rfl, fun _ _ _ h => h⟩, ⟨⟨⟨⟨by kernel_rfl, by kernel_rfl, fun _ _ _ h => h⟩, ⟨⟨by kernel_rfl, by kernel_rfl, fun _ _ _ h => h⟩, trivial⟩⟩, trivial⟩, cutE (by intro x0 x4 x6 x8 x88 ρ w; kernel_rfl)⟩⟩, ⟨⟨trivial, ⟨⟨trivial, (loopG (g_newPara.al1 R) (g_newPara.bl1 R) (fun _ => by kernel_rfl) (fun Xa => ⟨trivial, ⟨⟨by kernel_rfl, by kernel_rfl, fun _ _ _ h => h⟩, trivial⟩⟩) (fun Xa => by intro x0 x4 x6 x8 x11 ρ w; kernel_rfl) (fun X h _ _ _ _ _ _ g => g X h))⟩, trivial⟩⟩, ⟨trivial, cutE (by intro x4 x6 x8 ρ w; kernel_rfl)⟩⟩⟩, cutE (by intro x0 x4 x6 x7 x8 ρ w; kernel_rfl)⟩⟩⟩⟩⟩⟩
theorem g_newPara.eq (R : EP) (x0 : OA) (x1_0 : Int) (x1_1 : Int) (x1_2 : Int) (x1_3 : BA) (x1_4 : Int) (w : World) : g_newPara R x0 x1_0 x1_1 x1_2 x1_3 x1_4 w = vcA P 175 (g_newPara.ac R) (QF P [.cell 4 107, .tmp 5] R) (fr0 [.pointer x0, .agg #[.int .i64 x1_0, .int .i64 x1_1, .int .i64 x1_2, .string x1_3, .int .u8 x1_4]]) w := by kernel_rfl
theorem g_newPara.sound {R : EP} {x0 : OA} {x1_0 : Int} {x1_1 : Int} {x1_2 : Int} {x1_3 : ByteArray} {x1_4 : Int} {w : World} (h : g_newPara R x0 x1_0 x1_1 x1_2 x1_3 x1_4 w) : callE P i_newPara #[.pointer x0, .agg #[.int .i64 x1_0, .int .i64 x1_1, .int .i64 x1_2, .string x1_3, .int .u8 x1_4]] R w :=
  callE_fin (c := g_newPara.body) Tryz.func65 Tryz.call65 (by kernel_rfl) (by kernel_rfl) (by kernel_rfl) (by kernel_rfl) (by kernel_rfl) (g_newPara.good R) (g_newPara.eq R x0 x1_0 x1_1 x1_2 x1_3 x1_4 w) h
namespace g_newPre
noncomputable def body : Code := bodyOf Tryz.f96
def k2 (R : EP) (x4 : Nat) (x6 : Nat) (x7 : OA) (w : World) : Prop :=
 tk w fun w51 =>
 nilP x7 fun a52 =>
 ∃ (v53q : OA), ∃ (v53n : Nat), ∃ (v53c : Nat), w51.cell? (a52.add 1) = some (.slice v53q v53n v53c) ∧
 callE P i_line_string #[.pointer (some ⟨x6, 0, none⟩)] (fun e w55 => ∃ (r54 : BA), e = .returned (.string r54) ∧
 SameC w51 w55 (a52.add 1) 1 ∧
 ∃ (r56q : OA), ∃ (r56n : Nat), ∃ (r56c : Nat), ∃ w57, (Instr.buildSlice ty_S_string 1 #[(0, .string r54)]).run P w55 = .ok (.slice r56q r56n r56c) w57 ∧
 SameC w55 w57 (a52.add 1) 1 ∧
 ∃ (r58q : OA), ∃ (r58n : Nat), ∃ (r58c : Nat), ∃ w59, (Builtin.append_ #[ty_S_string, ty_S_string] ty_S_string #[.slice v53q v53n v53c, .slice r56q r56n r56c]).run P w57 = .ok (.slice r58q r58n r58c) w59 ∧
 nilP x7 fun a60 =>
 stV w59 ((a60.add 1).add 0) (.slice r58q r58n r58c) fun w61 =>
 stV w61 ⟨x4, 0, none⟩ (.int .i64 0) fun w62 =>
 stV w62 ⟨x4, 1, none⟩ (.int .i64 0) fun w63 =>
 stV w63 ⟨x4, 2, none⟩ (.int .i64 0) fun w64 =>
 stV w64 ⟨x4, 3, none⟩ (.string (ByteArray.mk #[])) fun w65 =>
 stV w65 ⟨x4, 4, none⟩ (.int .u8 0) fun w66 =>
 ∃ (v67 : Int), w66.cell? ⟨x4, 0, none⟩ = some (.int .i64 v67) ∧
 ∃ (v68 : Int), w66.cell? ⟨x4, 1, none⟩ = some (.int .i64 v68) ∧
 ∃ (v69 : Int), w66.cell? ⟨x4, 2, none⟩ = some (.int .i64 v69) ∧
 ∃ (v70 : BA), w66.cell? ⟨x4, 3, none⟩ = some (.string v70) ∧
 ∃ (v71 : Int), w66.cell? ⟨x4, 4, none⟩ = some (.int .u8 v71) ∧
 R (.returned (.tuple #[.agg #[.int .i64 v67, .int .i64 v68, .int .i64 v69, .string v70, .int .u8 v71], .bool true])) w66) w51

def k1 (R : EP) (x0 : OA) (x3 : Nat) (x4 : Nat) (x6 : Nat) (x18 : Bool) (w : World) : Prop :=
 br x18
 (box w #[.string (ByteArray.mk #[]), .slice none 0 0] ty_preBuilder fun b25 w26 =>
 callE P i_parseState_addBlock #[.pointer x0, .iface ty_P_preBuilder (.pointer (some ⟨b25, 0, none⟩))] (fun e w28 => e = .returned (.tuple #[]) ∧
 nilP x0 fun a29 =>
 ∃ (v30 : Bool), w28.cell? (a29.add 6) = some (.bool v30) ∧
 br v30
 (nilP x0 fun a31 =>
 stV w28 ((a31.add 6).add 0) (.bool true) fun w32 =>
 k2 R x4 x6 (some ⟨b25, 0, none⟩) w32)
 (∃ (v33 : Int), w28.cell? ⟨x6, 4, none⟩ = some (.int .u8 v33) ∧
 nilP x0 fun a34 =>
 stV w28 ((a34.add 6).add 0) (.bool (v33 != 10)) fun w35 =>
 k2 R x4 x6 (some ⟨b25, 0, none⟩) w35)) w26)
 (∃ (v36 : Int), w.cell? ⟨x3, 0, none⟩ = some (.int .i64 v36) ∧
 ∃ (v37 : Int), w.cell? ⟨x3, 1, none⟩ = some (.int .i64 v37) ∧
 ∃ (v38 : Int), w.cell? ⟨x3, 2, none⟩ = some (.int .i64 v38) ∧
 ∃ (v39 : BA), w.cell? ⟨x3, 3, none⟩ = some (.string v39) ∧
 ∃ (v40 : Int), w.cell? ⟨x3, 4, none⟩ = some (.int .u8 v40) ∧
 stV w ⟨x4, 0, none⟩ (.int .i64 v36) fun w41 =>
 stV w41 ⟨x4, 1, none⟩ (.int .i64 v37) fun w42 =>
 stV w42 ⟨x4, 2, none⟩ (.int .i64 v38) fun w43 =>
 stV w43 ⟨x4, 3, none⟩ (.string v39) fun w44 =>
 stV w44 ⟨x4, 4, none⟩ (.int .u8 v40) fun w45 =>
 ∃ (v46 : Int), w45.cell? ⟨x4, 0, none⟩ = some (.int .i64 v46) ∧
 ∃ (v47 : Int), w45.cell? ⟨x4, 1, none⟩ = some (.int .i64 v47) ∧
 ∃ (v48 : Int), w45.cell? ⟨x4, 2, none⟩ = some (.int .i64 v48) ∧
 ∃ (v49 : BA), w45.cell? ⟨x4, 3, none⟩ = some (.string v49) ∧
 ∃ (v50 : Int), w45.cell? ⟨x4, 4, none⟩ = some (.int .u8 v50) ∧
 R (.returned (.tuple #[.agg #[.int .i64 v46, .int .i64 v47, .int .i64 v48, .string v49, .int .u8 v50], .bool false])) w45)

end g_newPre
def g_newPre (R : EP) (x0 : OA) (x1_0 : Int) (x1_1 : Int) (x1_2 : Int) (x1_3 : BA) (x1_4 : Int) (w : World) : Prop :=
 box w #[.int .i64 x1_0, .int .i64 x1_1, .int .i64 x1_2, .string x1_3, .int .u8 x1_4] ty_line fun b1 w2 =>
 box w2 #[.int .i64 0, .int .i64 0, .int .i64 0, .string (ByteArray.mk #[]), .int .u8 0] ty_line fun b3 w4 =>
 ∃ (v5 : Int), w4.cell? ⟨b1, 0, none⟩ = some (.int .i64 v5) ∧
 ∃ (v6 : Int), w4.cell? ⟨b1, 1, none⟩ = some (.int .i64 v6) ∧
 ∃ (v7 : Int), w4.cell? ⟨b1, 2, none⟩ = some (.int .i64 v7) ∧
 ∃ (v8 : BA), w4.cell? ⟨b1, 3, none⟩ = some (.string v8) ∧
 ∃ (v9 : Int), w4.cell? ⟨b1, 4, none⟩ = some (.int .u8 v9) ∧
 box w4 #[.int .i64 0, .int .i64 0, .int .i64 0, .string (ByteArray.mk #[]), .int .u8 0] ty_line fun b10 w11 =>
 stV w11 ⟨b10, 0, none⟩ (.int .i64 v5) fun w12 =>
 stV w12 ⟨b10, 1, none⟩ (.int .i64 v6) fun w13 =>
 stV w13 ⟨b10, 2, none⟩ (.int .i64 v7) fun w14 =>
 stV w14 ⟨b10, 3, none⟩ (.string v8) fun w15 =>
 stV w15 ⟨b10, 4, none⟩ (.int .u8 v9) fun w16 =>
 callE P i_parseState_para #[.pointer x0] (fun e w18 => ∃ (r17 : OA), e = .returned (.pointer r17) ∧
 ∃ (r19 : Bool), ∃ w20, (do eqGuard .eql ty_P_paraBuilder (.tmp 10) (.const (.pointer none)) (.pointer r17) (.pointer none); binOp .eql ty_P_paraBuilder (.pointer r17) (.pointer none)).run P w18 = .ok (.bool r19) w20 ∧
 br r19
 (callE P i_line_trimSpace #[.pointer (some ⟨b10, 0, none⟩), .int .i64 4, .int .i64 4, .bool false] (fun e w22 => ∃ (r21 : Bool), e = .returned (.bool r21) ∧
 br r21
 (callE P i_line_isBlank #[.pointer (some ⟨b10, 0, none⟩)] (fun e w24 => ∃ (r23 : Bool), e = .returned (.bool r23) ∧
 g_newPre.k1 R x0 b1 b3 b10 (!r23) w24) w22)
 (g_newPre.k1 R x0 b1 b3 b10 false w22)) w20)
 (g_newPre.k1 R x0 b1 b3 b10 false w20)) w16

noncomputable def g_newPre.ac (R : EP) : AC :=
  (.seq (.leaf (sel [0] g_newPre.body)) (.seq (.leaf (sel [1, 0] g_newPre.body)) (.seq (.seq (.leaf (sel [1, 1, 0, 0] g_newPre.body)) (.mark (leaf [(0, .s .ptr), (3, .s .loc), (4, .s .loc), (6, .s .loc), (18, .s .bool)] (g_newPre.k1 R)) (.cond 18 (.seq (.leaf (sel [1, 1, 0, 1, 0, 0] g_newPre.body)) (.seq (.leaf (sel [1, 1, 0, 1, 0, 1, 0] g_newPre.body)) (.seq (.leaf (sel [1, 1, 0, 1, 0, 1, 1, 0] g_newPre.body)) (.mark (leaf [(4, .s .loc), (6, .s .loc), (7, .s .ptr)] (g_newPre.k2 R)) (.seq (.draw (.pure 0 (.pure 1 (.pure 2 (.pure 3 (.load 4 (.one 5 (.one 6 (.one 7 (.pure 8 (.pure 9 (.one 10 .done))))))))))) (sel [1, 1, 0, 1, 0, 1, 1, 1, 0] g_newPre.body)) (.leaf (sel [1, 1, 0, 1, 0, 1, 1, 1, 1] g_newPre.body))))))) (.leaf (sel [1, 1, 0, 1, 1] g_newPre.body))))) (.leaf (sel [1, 1, 1] g_newPre.body)))))
theorem g_newPre.good (R : EP) : Good P 49 (g_newPre.ac R) (QF P [.cell 4 107, .tmp 5] R) :=
  ⟨trivial, ⟨trivial, ⟨⟨trivial, ⟨⟨⟨trivial, ⟨trivial, ⟨trivial, ⟨⟨⟨by kernel_rfl, by kernel_rfl, fun _ _ _ h => h⟩, trivial⟩, cutE (by intro x4 x6 x7 ρ w; kernel_rfl)⟩⟩⟩⟩, trivial⟩, cutE (by intro x0 x3 x4 x6 x18 ρ w; kernel_rfl)⟩⟩, trivial⟩⟩⟩
theorem g_newPre.eq (R : EP) (x0 : OA) (x1_0 : Int) (x1_1 : Int) (x1_2 : Int) (x1_3 : BA) (x1_4 : Int) (w : World) : g_newPre R x0 x1_0 x1_1 x1_2 x1_3 x1_4 w = vcA P 49 (g_newPre.ac R) (QF P [.cell 4 107, .tmp 5] R) (fr0 [.pointer x0, .agg #[.int .i64 x1_0, .int .i64 x1_1, .int .i64 x1_2, .string x1_3, .int .u8 x1_4]]) w := by kernel_rfl
theorem g_newPre.sound {R : EP} {x0 : OA} {x1_0 : Int} {x1_1 : Int} {x1_2 : Int} {x1_3 : ByteArray} {x1_4 : Int} {w : World} (h : g_newPre R x0 x1_0 x1_1 x1_2 x1_3 x1_4 w) : callE P i_newPre #[.pointer x0, .agg #[.int .i64 x1_0, .int .i64 x1_1, .int .i64 x1_2, .string x1_3, .int .u8 x1_4]] R w :=
  callE_fin (c := g_newPre.body) Tryz.func96 Tryz.call96 (by kernel_rfl) (by kernel_rfl) (by kernel_rfl) (by kernel_rfl) (by kernel_rfl) (g_newPre.good R) (g_newPre.eq R x0 x1_0 x1_1 x1_2 x1_3 x1_4 w) h
namespace g_line_trimFence
noncomputable def body : Code := bodyOf Tryz.f148
def k1 (R : EP) (Xa : OA → OA → OA → OA → Nat → WP) (x0 : OA) (x1 : OA) (x2 : OA) (x3 : OA) (x9 : Nat) (w : World) : Prop :=
 nilP x3 fun a20 =>
 ∃ (v21 : Int), w.cell? a20 = some (.int .i64 v21) ∧
 nilP x3 fun a22 =>
 stV w (a22.add 0) (.int .i64 (IntKind.i64.wrap (v21 + 1))) fun w23 =>
 Xa x0 x1 x2 x3 x9 w23

def k4 (R : EP) (x0 : OA) (x1 : OA) (x2 : OA) (x11 : BA) (x12 : Int) (x14 : BA) (w : World) : Prop :=
 callE P i_trimSpaceTab #[.string x14] (fun e w37 => ∃ (r36 : BA), e = .returned (.string r36) ∧
 nilP x2 fun a38 =>
 stV w37 (a38.add 0) (.string r36) fun w39 =>
 0 ≤ x12 ∧ x12 ≤ (x11.size : Int) ∧
 nilP x1 fun a40 =>
 stV w39 (a40.add 0) (.string (x11.extract 0 (Int.toNat x12))) fun w41 =>
 nilP x0 fun a42 =>
 stV w41 (a42.add 0) (.int .i64 0) fun w43 =>
 stV w43 (a42.add 1) (.int .i64 0) fun w44 =>
 stV w44 (a42.add 2) (.int .i64 0) fun w45 =>
 stV w45 (a42.add 3) (.string (ByteArray.mk #[])) fun w46 =>
 stV w46 (a42.add 4) (.int .u8 0) fun w47 =>
 R (.returned (.bool true)) w47) w

def bl2 (R : EP) (Xb : OA → OA → OA → Nat → Int → BA → Int → Int → WP) (x0 : OA) (x1 : OA) (x2 : OA) (x9 : Nat) (x10 : Int) (x11 : BA) (x12 : Int) (x13 : Int) (w : World) : Prop :=
 callE P i_line_trim #[.pointer (some ⟨x9, 0, none⟩), .int .u8 x10] (fun e w29 => ∃ (r28 : Bool), e = .returned (.bool r28) ∧
 br (!r28)
 (br (decide (x13 ≥ 3))
 (callE P i_line_trimString #[.pointer (some ⟨x9, 0, none⟩)] (fun e w31 => ∃ (r30 : BA), e = .returned (.string r30) ∧
 callE P i_mdUnescaper_Replace #[.agg #[], .string r30] (fun e w33 => ∃ (r32 : BA), e = .returned (.string r32) ∧
 br (x10 == 96)
 (callE P i_zzContains #[.string r32, .string (ByteArray.mk #[96])] (fun e w35 => ∃ (r34 : Bool), e = .returned (.bool r34) ∧
 br r34
 (R (.returned (.bool false)) w35)
 (k4 R x0 x1 x2 x11 x12 r32 w35)) w33)
 (k4 R x0 x1 x2 x11 x12 r32 w33)) w31) w29)
 (R (.returned (.bool false)) w29))
 (Xb x0 x1 x2 x9 x10 x11 (IntKind.i64.wrap (x12 + 1)) (IntKind.i64.wrap (x13 + 1)) w29)) w
def l2 (R : EP) (x0 : OA) (x1 : OA) (x2 : OA) (x9 : Nat) (x10 : Int) (x11 : BA) (x12 : Int) (x13 : Int) (w : World) : Prop :=
  ∀ X : OA → OA → OA → Nat → Int → BA → Int → Int → WP, (∀ x0 x1 x2 x9 x10 x11 x12 x13 w, bl2 R X x0 x1 x2 x9 x10 x11 x12 x13 w → X x0 x1 x2 x9 x10 x11 x12 x13 w) → X x0 x1 x2 x9 x10 x11 x12 x13 w

noncomputable def al2 (R : EP) (Xb : OA → OA → OA → Nat → Int → BA → Int → Int → WP) : AC :=
  (.leaf (sel [1, 1, 1, 1, 0, 1, 1, 0, 1, 0, 1, 1, 0, 1, 0, 0] body))
def k3 (R : EP) (x0 : OA) (x1 : OA) (x2 : OA) (x9 : Nat) (x10 : Int) (x34 : Bool) (w : World) : Prop :=
 br x34
 (callE P i_line_string #[.pointer (some ⟨x9, 0, none⟩)] (fun e w27 => ∃ (r26 : BA), e = .returned (.string r26) ∧
 l2 R x0 x1 x2 x9 x10 r26 0 0 w27) w)
 (R (.returned (.bool false)) w)

def k2 (R : EP) (x0 : OA) (x1 : OA) (x2 : OA) (x9 : Nat) (w : World) : Prop :=
 callE P i_line_peek #[.pointer (some ⟨x9, 0, none⟩)] (fun e w25 => ∃ (r24 : Int), e = .returned (.int .u8 r24) ∧
 br (r24 == 96)
 (k3 R x0 x1 x2 x9 r24 true w25)
 (k3 R x0 x1 x2 x9 r24 (r24 == 126) w25)) w

def bl1 (R : EP) (Xa : OA → OA → OA → OA → Nat → WP) (x0 : OA) (x1 : OA) (x2 : OA) (x3 : OA) (x9 : Nat) (w : World) : Prop :=
 nilP x3 fun a16 =>
 ∃ (v17 : Int), w.cell? a16 = some (.int .i64 v17) ∧
 br (decide (v17 < 3))
 (callE P i_line_trimSpace #[.pointer (some ⟨x9, 0, none⟩), .int .i64 1, .int .i64 1, .bool false] (fun e w19 => ∃ (r18 : Bool), e = .returned (.bool r18) ∧
 br r18
 (k1 R Xa x0 x1 x2 x3 x9 w19)
 (k2 R x0 x1 x2 x9 w19)) w)
 (k2 R x0 x1 x2 x9 w)
def l1 (R : EP) (x0 : OA) (x1 : OA) (x2 : OA) (x3 : OA) (x9 : Nat) (w : World) : Prop :=
  ∀ X : OA → OA → OA → OA → Nat → WP, (∀ x0 x1 x2 x3 x9 w, bl1 R X x0 x1 x2 x3 x9 w → X x0 x1 x2 x3 x9 w) → X x0 x1 x2 x3 x9 w

noncomputable def al1 (R : EP) (Xa : OA → OA → OA → OA → Nat → WP) : AC :=
  (.seq (.leaf (sel [1, 1, 1, 0, 0, 0, 0] body)) (.mark (leaf [(0, .s .ptr), (1, .s .ptr), (2, .s .ptr), (3, .s .ptr), (9, .s .loc)] (k1 R Xa)) (.leaf (sel [1, 1, 1, 0, 0, 0, 1] body))))
end g_line_trimFence
def g_line_trimFence (R : EP) (x0 : OA) (x1 : OA) (x2 : OA) (x3 : OA) (w : World) : Prop :=
 nilP x0 fun a1 =>
 ∃ (v2 : Int), w.cell? (a1.add 0) = some (.int .i64 v2) ∧
 ∃ (v3 : Int), w.cell? (a1.add 1) = some (.int .i64 v3) ∧
 ∃ (v4 : Int), w.cell? (a1.add 2) = some (.int .i64 v4) ∧
 ∃ (v5 : BA), w.cell? (a1.add 3) = some (.string v5) ∧
 ∃ (v6 : Int), w.cell? (a1.add 4) = some (.int .u8 v6) ∧
 box w #[.int .i64 0, .int .i64 0, .int .i64 0, .string (ByteArray.mk #[]), .int .u8 0] ty_line fun b7 w8 =>
 stV w8 ⟨b7, 0, none⟩ (.int .i64 v2) fun w9 =>
 stV w9 ⟨b7, 1, none⟩ (.int .i64 v3) fun w10 =>
 stV w10 ⟨b7, 2, none⟩ (.int .i64 v4) fun w11 =>
 stV w11 ⟨b7, 3, none⟩ (.string v5) fun w12 =>
 stV w12 ⟨b7, 4, none⟩ (.int .u8 v6) fun w13 =>
 nilP x3 fun a14 =>
 stV w13 (a14.add 0) (.int .i64 0) fun w15 =>
 g_line_trimFence.l1 R x0 x1 x2 x3 b7 w15

noncomputable def g_line_trimFence.ac (R : EP) : AC :=
  (.seq (.leaf (sel [0] g_line_trimFence.body)) (.seq (.leaf (sel [1, 0] g_line_trimFence.body)) (.seq (.leaf (sel [1, 1, 0] g_line_trimFence.body)) (.seq (.block 0 (.loop (leaf [(0, .s .ptr), (1, .s .ptr), (2, .s .ptr), (3, .s .ptr), (9, .s .loc)] (g_line_trimFence.l1 R)) (sel [1, 1, 1, 0, 0, 0] g_line_trimFence.body))) (.mark (leaf [(0, .s .ptr), (1, .s .ptr), (2, .s .ptr), (9, .s .loc)] (g_line_trimFence.k2 R)) (.seq (.seq (.leaf (sel [1, 1, 1, 1, 0, 0] g_line_trimFence.body)) (.seq (.leaf (sel [1, 1, 1, 1, 0, 1, 0] g_line_trimFence.body)) (.block 2 (.seq (.leaf (sel [1, 1, 1, 1, 0, 1, 1, 0, 0] g_line_trimFence.body)) (.mark (leaf [(0, .s .ptr), (1, .s .ptr), (2, .s .ptr), (9, .s .loc), (10, .s (.int .u8)), (34, .s .bool)] (g_line_trimFence.k3 R)) (.cond 34 (.seq (.leaf (sel [1, 1, 1, 1, 0, 1, 1, 0, 1, 0, 0] g_line_trimFence.body)) (.seq (.leaf (sel [1, 1, 1, 1, 0, 1, 1, 0, 1, 0, 1, 0] g_line_trimFence.body)) (.seq (.seq (.leaf (sel [1, 1, 1, 1, 0, 1, 1, 0, 1, 0, 1, 1, 0, 0] g_line_trimFence.body)) (.block 3 (.loop (leaf [(0, .s .ptr), (1, .s .ptr), (2, .s .ptr), (9, .s .loc), (10, .s (.int .u8)), (11, .s .str), (12, .s (.int .i64)), (13, .s (.int .i64))] (g_line_trimFence.l2 R)) (sel [1, 1, 1, 1, 0, 1, 1, 0, 1, 0, 1, 1, 0, 1, 0, 0] g_line_trimFence.body)))) (.seq (.leaf (sel [1, 1, 1, 1, 0, 1, 1, 0, 1, 0, 1, 1, 1, 0] g_line_trimFence.body)) (.seq (.leaf (sel [1, 1, 1, 1, 0, 1, 1, 0, 1, 0, 1, 1, 1, 1, 0] g_line_trimFence.body)) (.mark (leaf [(0, .s .ptr), (1, .s .ptr), (2, .s .ptr), (11, .s .str), (12, .s (.int .i64)), (14, .s .str)] (g_line_trimFence.k4 R)) (.leaf (sel [1, 1, 1, 1, 0, 1, 1, 0, 1, 0, 1, 1, 1, 1, 1] g_line_trimFence.body)))))))) (.leaf (sel [1, 1, 1, 1, 0, 1, 1, 0, 1, 1] g_line_trimFence.body)))))))) (.leaf (sel [1, 1, 1, 1, 1] g_line_trimFence.body))))))))
theorem g_line_trimFence.good (R : EP) : Good P 69 (g_line_trimFence.ac R) (QF P [.tmp 8] R) :=
  ⟨trivial, ⟨trivial, ⟨trivial, ⟨(loopG (g_line_trimFence.al1 R) (g_line_trimFence.bl1 R) (fun _ => by kernel_rfl) (fun Xa => ⟨trivial, ⟨trivial, cutE (by intro x0 x1 x2 x3 x9 ρ w; kernel_rfl)⟩⟩) (fun Xa => by intro x0 x1 x2 x3 x9 ρ w; kernel_rfl) (fun X h _ _ _ _ _ _ g => g X h)), ⟨⟨⟨trivial, ⟨trivial, ⟨trivial, ⟨⟨⟨trivial, ⟨trivial, ⟨⟨trivial, (loopG (g_line_trimFence.al2 R) (g_line_trimFence.bl2 R) (fun _ => by kernel_rfl) (fun Xb => trivial) (fun Xb => by intro x0 x1 x2 x9 x10 x11 x12 x13 ρ w; kernel_rfl) (fun X h _ _ _ _ _ _ _ _ _ g => g X h))⟩, ⟨trivial, ⟨trivial, ⟨trivial, cutE (by intro x0 x1 x2 x11 x12 x14 ρ w; kernel_rfl)⟩⟩⟩⟩⟩⟩, trivial⟩, cutE (by intro x0 x1 x2 x9 x10 x34 ρ w; kernel_rfl)⟩⟩⟩⟩, trivial⟩, cutE (by intro x0 x1 x2 x9 ρ w; kernel_rfl)⟩⟩⟩⟩⟩
theorem g_line_trimFence.eq (R : EP) (x0 : OA) (x1 : OA) (x2 : OA) (x3 : OA) (w : World) : g_line_trimFence R x0 x1 x2 x3 w = vcA P 69 (g_line_trimFence.ac R) (QF P [.tmp 8] R) (fr0 [.pointer x0, .pointer x1, .pointer x2, .pointer x3]) w := by kernel_rfl
theorem g_line_trimFence.sound {R : EP} {x0 : OA} {x1 : OA} {x2 : OA} {x3 : OA} {w : World} (h : g_line_trimFence R x0 x1 x2 x3 w) : callE P i_line_trimFence #[.pointer x0, .pointer x1, .pointer x2, .pointer x3] R w :=
  callE_fin (c := g_line_trimFence.body) Tryz.func148 Tryz.call148 (by kernel_rfl) (by kernel_rfl) (by kernel_rfl) (by kernel_rfl) (by kernel_rfl) (g_line_trimFence.good R) (g_line_trimFence.eq R x0 x1 x2 x3 w) h
namespace g_newFence
noncomputable def body : Code := bodyOf Tryz.f95
def k4 (R : EP) (x0 : OA) (x4 : Nat) (x6 : Nat) (x7 : Nat) (x8 : Nat) (w : World) : Prop :=
 ∃ (v60 : BA), w.cell? ⟨x6, 0, none⟩ = some (.string v60) ∧
 ∃ (v61 : BA), w.cell? ⟨x7, 0, none⟩ = some (.string v61) ∧
 ∃ (v62 : Int), w.cell? ⟨x8, 0, none⟩ = some (.int .i64 v62) ∧
 box w #[.string v60, .string v61, .int .i64 v62, .slice none 0 0] ty_fenceBuilder fun b63 w64 =>
 callE P i_parseState_addBlock #[.pointer x0, .iface ty_P_fenceBuilder (.pointer (some ⟨b63, 0, none⟩))] (fun e w66 => e = .returned (.tuple #[]) ∧
 stV w66 ⟨x4, 0, none⟩ (.int .i64 0) fun w67 =>
 stV w67 ⟨x4, 1, none⟩ (.int .i64 0) fun w68 =>
 stV w68 ⟨x4, 2, none⟩ (.int .i64 0) fun w69 =>
 stV w69 ⟨x4, 3, none⟩ (.string (ByteArray.mk #[])) fun w70 =>
 stV w70 ⟨x4, 4, none⟩ (.int .u8 0) fun w71 =>
 ∃ (v72 : Int), w71.cell? ⟨x4, 0, none⟩ = some (.int .i64 v72) ∧
 ∃ (v73 : Int), w71.cell? ⟨x4, 1, none⟩ = some (.int .i64 v73) ∧
 ∃ (v74 : Int), w71.cell? ⟨x4, 2, none⟩ = some (.int .i64 v74) ∧
 ∃ (v75 : BA), w71.cell? ⟨x4, 3, none⟩ = some (.string v75) ∧
 ∃ (v76 : Int), w71.cell? ⟨x4, 4, none⟩ = some (.int .u8 v76) ∧
 R (.returned (.tuple #[.agg #[.int .i64 v72, .int .i64 v73, .int .i64 v74, .string v75, .int .u8 v76], .bool true])) w71) w64

def bl1 (R : EP) (Xa : OA → Nat → Nat → Nat → Nat → Value → WP) (x0 : OA) (x4 : Nat) (x6 : Nat) (x7 : Nat) (x8 : Nat) (x36 : Value) (w : World) : Prop :=
 (∃ w53, (Instr.next x36 true ty_).run P w = .ok (.tuple #[.bool false]) w53 ∧
 k4 R x0 x4 x6 x7 x8 w53) ∨
 (∃ (r54_0 : Int), ∃ (r54_1 : Int), ∃ w55, (Instr.next x36 true ty_).run P w = .ok (.tuple #[.bool true, .int .i64 r54_0, .int .i32 r54_1]) w55 ∧
 callE P i_isUnicodeSpace #[.int .i32 r54_1] (fun e w57 => ∃ (r56 : Bool), e = .returned (.bool r56) ∧
 br r56
 (br (r54_1 != 32)
 (nilP x0 fun a58 =>
 stV w57 ((a58.add 6).add 0) (.bool true) fun w59 =>
 k4 R x0 x4 x6 x7 x8 w59)
 (k4 R x0 x4 x6 x7 x8 w57))
 (Xa x0 x4 x6 x7 x8 x36 w57)) w55)
def l1 (R : EP) (x0 : OA) (x4 : Nat) (x6 : Nat) (x7 : Nat) (x8 : Nat) (x36 : Value) (w : World) : Prop :=
  ∀ X : OA → Nat → Nat → Nat → Nat → Value → WP, (∀ x0 x4 x6 x7 x8 x36 w, bl1 R X x0 x4 x6 x7 x8 x36 w → X x0 x4 x6 x7 x8 x36 w) → X x0 x4 x6 x7 x8 x36 w

noncomputable def al1 (R : EP) (Xa : OA → Nat → Nat → Nat → Nat → Value → WP) : AC :=
  (.leaf (sel [1, 1, 1, 1, 0, 1, 0, 1, 0, 1, 0, 0] body))
def k2 (R : EP) (x0 : OA) (x4 : Nat) (x6 : Nat) (x7 : Nat) (x8 : Nat) (w : World) : Prop :=
 ∃ (v48 : BA), w.cell? ⟨x7, 0, none⟩ = some (.string v48) ∧
 ∃ (r49 : Value), ∃ w50, (Instr.range ty_string (.string v48)).run P w = .ok r49 w50 ∧
 l1 R x0 x4 x6 x7 x8 r49 w50

def k3 (R : EP) (x0 : OA) (x4 : Nat) (x6 : Nat) (x7 : Nat) (x8 : Nat) (x31 : Bool) (w : World) : Prop :=
 br x31
 (nilP x0 fun a51 =>
 stV w ((a51.add 6).add 0) (.bool true) fun w52 =>
 k2 R x0 x4 x6 x7 x8 w52)
 (k2 R x0 x4 x6 x7 x8 w)

def k1 (R : EP) (x0 : OA) (x4 : Nat) (x6 : Nat) (x7 : Nat) (x8 : Nat) (x20 : Bool) (w : World) : Prop :=
 br x20
 (nilP x0 fun a42 =>
 stV w ((a42.add 6).add 0) (.bool true) fun w43 =>
 k2 R x0 x4 x6 x7 x8 w43)
 (∃ (v44 : BA), w.cell? ⟨x7, 0, none⟩ = some (.string v44) ∧
 br (!(v44.toList == (ByteArray.mk #[]).toList))
 (∃ (v45 : BA), w.cell? ⟨x7, 0, none⟩ = some (.string v45) ∧
 (true = true → 0 ≤ (0 : Int) ∧ 0 < (v45.size : Int)) ∧
 callE P i_isLetter #[.int .u8 (bt v45 0)] (fun e w47 => ∃ (r46 : Bool), e = .returned (.bool r46) ∧
 k3 R x0 x4 x6 x7 x8 (!r46) w47) w)
 (k3 R x0 x4 x6 x7 x8 false w))

end g_newFence
def g_newFence (R : EP) (x0 : OA) (x1_0 : Int) (x1_1 : Int) (x1_2 : Int) (x1_3 : BA) (x1_4 : Int) (w : World) : Prop :=
 box w #[.int .i64 x1_0, .int .i64 x1_1, .int .i64 x1_2, .string x1_3, .int .u8 x1_4] ty_line fun b1 w2 =>
 box w2 #[.int .i64 0, .int .i64 0, .int .i64 0, .string (ByteArray.mk #[]), .int .u8 0] ty_line fun b3 w4 =>
 box w4 #[.string (ByteArray.mk #[])] ty_string fun b5 w6 =>
 box w6 #[.string (ByteArray.mk #[])] ty_string fun b7 w8 =>
 box w8 #[.int .i64 0] ty_int fun b9 w10 =>
 ∃ (v11 : Int), w10.cell? ⟨b1, 0, none⟩ = some (.int .i64 v11) ∧
 ∃ (v12 : Int), w10.cell? ⟨b1, 1, none⟩ = some (.int .i64 v12) ∧
 ∃ (v13 : Int), w10.cell? ⟨b1, 2, none⟩ = some (.int .i64 v13) ∧
 ∃ (v14 : BA), w10.cell? ⟨b1, 3, none⟩ = some (.string v14) ∧
 ∃ (v15 : Int), w10.cell? ⟨b1, 4, none⟩ = some (.int .u8 v15) ∧
 box w10 #[.int .i64 0, .int .i64 0, .int .i64 0, .string (ByteArray.mk #[]), .int .u8 0] ty_line fun b16 w17 =>
 stV w17 ⟨b16, 0, none⟩ (.int .i64 v11) fun w18 =>
 stV w18 ⟨b16, 1, none⟩ (.int .i64 v12) fun w19 =>
 stV w19 ⟨b16, 2, none⟩ (.int .i64 v13) fun w20 =>
 stV w20 ⟨b16, 3, none⟩ (.string v14) fun w21 =>
 stV w21 ⟨b16, 4, none⟩ (.int .u8 v15) fun w22 =>
 callE P i_line_trimFence #[.pointer (some ⟨b16, 0, none⟩), .pointer (some ⟨b5, 0, none⟩), .pointer (some ⟨b7, 0, none⟩), .pointer (some ⟨b9, 0, none⟩)] (fun e w24 => ∃ (r23 : Bool), e = .returned (.bool r23) ∧
 br r23
 (∃ (v25 : BA), w24.cell? ⟨b5, 0, none⟩ = some (.string v25) ∧
 0 ≤ (0 : Int) ∧ 0 < (v25.size : Int) ∧
 br ((bt v25 0) == 126)
 (∃ (v26 : BA), w24.cell? ⟨b7, 0, none⟩ = some (.string v26) ∧
 g_newFence.k1 R x0 b3 b5 b7 b9 (!(v26.toList == (ByteArray.mk #[]).toList)) w24)
 (g_newFence.k1 R x0 b3 b5 b7 b9 false w24))
 (∃ (v27 : Int), w24.cell? ⟨b1, 0, none⟩ = some (.int .i64 v27) ∧
 ∃ (v28 : Int), w24.cell? ⟨b1, 1, none⟩ = some (.int .i64 v28) ∧
 ∃ (v29 : Int), w24.cell? ⟨b1, 2, none⟩ = some (.int .i64 v29) ∧
 ∃ (v30 : BA), w24.cell? ⟨b1, 3, none⟩ = some (.string v30) ∧
 ∃ (v31 : Int), w24.cell? ⟨b1, 4, none⟩ = some (.int .u8 v31) ∧
 stV w24 ⟨b3, 0, none⟩ (.int .i64 v27) fun w32 =>
 stV w32 ⟨b3, 1, none⟩ (.int .i64 v28) fun w33 =>
 stV w33 ⟨b3, 2, none⟩ (.int .i64 v29) fun w34 =>
 stV w34 ⟨b3, 3, none⟩ (.string v30) fun w35 =>
 stV w35 ⟨b3, 4, none⟩ (.int .u8 v31) fun w36 =>
 ∃ (v37 : Int), w36.cell? ⟨b3, 0, none⟩ = some (.int .i64 v37) ∧
 ∃ (v38 : Int), w36.cell? ⟨b3, 1, none⟩ = some (.int .i64 v38) ∧
 ∃ (v39 : Int), w36.cell? ⟨b3, 2, none⟩ = some (.int .i64 v39) ∧
 ∃ (v40 : BA), w36.cell? ⟨b3, 3, none⟩ = some (.string v40) ∧
 ∃ (v41 : Int), w36.cell? ⟨b3, 4, none⟩ = some (.int .u8 v41) ∧
 R (.returned (.tuple #[.agg #[.int .i64 v37, .int .i64 v38, .int .i64 v39, .string v40, .int .u8 v41], .bool false])) w36)) w22

noncomputable def g_newFence.ac (R : EP) : AC :=
  (.seq (.leaf (sel [0] g_newFence.body)) (.seq (.leaf (sel [1, 0] g_newFence.body)) (.seq (.leaf (sel [1, 1, 0] g_newFence.body)) (.seq (.leaf (sel [1, 1, 1, 0] g_newFence.body)) (.seq (.seq (.leaf (sel [1, 1, 1, 1, 0, 0] g_newFence.body)) (.cond 13 (.seq (.seq (.leaf (sel [1, 1, 1, 1, 0, 1, 0, 0, 0] g_newFence.body)) (.mark (leaf [(0, .s .ptr), (4, .s .loc), (6, .s .loc), (7, .s .loc), (8, .s .loc), (20, .s .bool)] (g_newFence.k1 R)) (.cond 20 (.leaf (sel [1, 1, 1, 1, 0, 1, 0, 0, 1, 0] g_newFence.body)) (.seq (.leaf (sel [1, 1, 1, 1, 0, 1, 0, 0, 1, 1, 0] g_newFence.body)) (.mark (leaf [(0, .s .ptr), (4, .s .loc), (6, .s .loc), (7, .s .loc), (8, .s .loc), (31, .s .bool)] (g_newFence.k3 R)) (.leaf (sel [1, 1, 1, 1, 0, 1, 0, 0, 1, 1, 1] g_newFence.body))))))) (.mark (leaf [(0, .s .ptr), (4, .s .loc), (6, .s .loc), (7, .s .loc), (8, .s .loc)] (g_newFence.k2 R)) (.seq (.seq (.leaf (sel [1, 1, 1, 1, 0, 1, 0, 1, 0, 0] g_newFence.body)) (.block 0 (.loop (leaf [(0, .s .ptr), (4, .s .loc), (6, .s .loc), (7, .s .loc), (8, .s .loc), (36, .s .any)] (g_newFence.l1 R)) (sel [1, 1, 1, 1, 0, 1, 0, 1, 0, 1, 0, 0] g_newFence.body)))) (.mark (leaf [(0, .s .ptr), (4, .s .loc), (6, .s .loc), (7, .s .loc), (8, .s .loc)] (g_newFence.k4 R)) (.leaf (sel [1, 1, 1, 1, 0, 1, 0, 1, 1] g_newFence.body)))))) (.leaf (sel [1, 1, 1, 1, 0, 1, 1] g_newFence.body)))) (.leaf (sel [1, 1, 1, 1, 1] g_newFence.body)))))))
theorem g_newFence.good (R : EP) : Good P 57 (g_newFence.ac R) (QF P [.cell 4 107, .tmp 5] R) :=
  ⟨trivial, ⟨trivial, ⟨trivial, ⟨trivial, ⟨⟨trivial, ⟨⟨⟨trivial, ⟨⟨trivial, ⟨trivial, ⟨trivial, cutE (by intro x0 x4 x6 x7 x8 x31 ρ w; kernel_rfl)⟩⟩⟩, cutE (by intro x0 x4 x6 x7 x8 x20 ρ w; kernel_rfl)⟩⟩, ⟨⟨⟨trivial, (loopG (g_newFence.al1 R) (g_newFence.bl1 R) (fun _ => by kernel_rfl) (fun Xa => trivial) (fun Xa => by intro x0 x4 x6 x7 x8 x36 ρ w; kernel_rfl) (fun X h _ _ _ _ _ _ _ g => g X h))⟩, ⟨trivial, cutE (by intro x0 x4 x6 x7 x8 ρ w; kernel_rfl)⟩⟩, cutE (by intro x0 x4 x6 x7 x8 ρ w; kernel_rfl)⟩⟩, trivial⟩⟩, trivial⟩⟩⟩⟩⟩
theorem g_newFence.eq (R : EP) (x0 : OA) (x1_0 : Int) (x1_1 : Int) (x1_2 : Int) (x1_3 : BA) (x1_4 : Int) (w : World) : g_newFence R x0 x1_0 x1_1 x1_2 x1_3 x1_4 w = vcA P 57 (g_newFence.ac R) (QF P [.cell 4 107, .tmp 5] R) (fr0 [.pointer x0, .agg #[.int .i64 x1_0, .int .i64 x1_1, .int .i64 x1_2, .string x1_3, .int .u8 x1_4]]) w := by kernel_rfl
theorem g_newFence.sound {R : EP} {x0 : OA} {x1_0 : Int} {x1_1 : Int} {x1_2 : Int} {x1_3 : ByteArray} {x1_4 : Int} {w : World} (h : g_newFence R x0 x1_0 x1_1 x1_2 x1_3 x1_4 w) : callE P i_newFence #[.pointer x0, .agg #[.int .i64 x1_0, .int .i64 x1_1, .int .i64 x1_2, .string x1_3, .int .u8 x1_4]] R w :=
  callE_fin (c := g_newFence.body) Tryz.func95 Tryz.call95 (by kernel_rfl) (by kernel_rfl) (by kernel_rfl) (by kernel_rfl) (by kernel_rfl) (g_newFence.good R) (g_newFence.eq R x0 x1_0 x1_1 x1_2 x1_3 x1_4 w) h
namespace g_newSetextHeading
noncomputable def body : Code := bodyOf Tryz.f91
def k1 (R : EP) (x0 : OA) (x3 : Nat) (x4 : Nat) (x6 : Nat) (x19 : Bool) (w : World) : Prop :=
 br x19
 (callE P i_parseState_closeBlock #[.pointer x0] (fun e w28 => ∃ (r27 : Value), e = .returned r27 ∧
 callE P i_parseState_last #[.pointer x0] (fun e w30 => ∃ (r29 : Value), e = .returned r29 ∧
 ∃ (r31_0 : OA), ∃ (r31_1 : Bool), ∃ w32, (Instr.typeAssert r29 ty_Block ty_P_Paragraph true).run P w30 = .ok (.tuple #[.pointer r31_0, .bool r31_1]) w32 ∧
 br (!r31_1)
 (∃ (v33 : Int), w32.cell? ⟨x3, 0, none⟩ = some (.int .i64 v33) ∧
 ∃ (v34 : Int), w32.cell? ⟨x3, 1, none⟩ = some (.int .i64 v34) ∧
 ∃ (v35 : Int), w32.cell? ⟨x3, 2, none⟩ = some (.int .i64 v35) ∧
 ∃ (v36 : BA), w32.cell? ⟨x3, 3, none⟩ = some (.string v36) ∧
 ∃ (v37 : Int), w32.cell? ⟨x3, 4, none⟩ = some (.int .u8 v37) ∧
 stV w32 ⟨x4, 0, none⟩ (.int .i64 v33) fun w38 =>
 stV w38 ⟨x4, 1, none⟩ (.int .i64 v34) fun w39 =>
 stV w39 ⟨x4, 2, none⟩ (.int .i64 v35) fun w40 =>
 stV w40 ⟨x4, 3, none⟩ (.string v36) fun w41 =>
 stV w41 ⟨x4, 4, none⟩ (.int .u8 v37) fun w42 =>
 ∃ (v43 : Int), w42.cell? ⟨x4, 0, none⟩ = some (.int .i64 v43) ∧
 ∃ (v44 : Int), w42.cell? ⟨x4, 1, none⟩ = some (.int .i64 v44) ∧
 ∃ (v45 : Int), w42.cell? ⟨x4, 2, none⟩ = some (.int .i64 v45) ∧
 ∃ (v46 : BA), w42.cell? ⟨x4, 3, none⟩ = some (.string v46) ∧
 ∃ (v47 : Int), w42.cell? ⟨x4, 4, none⟩ = some (.int .u8 v47) ∧
 R (.returned (.tuple #[.agg #[.int .i64 v43, .int .i64 v44, .int .i64 v45, .string v46, .int .u8 v47], .bool false])) w42)
 (callE P i_parseState_deleteLast #[.pointer x0] (fun e w49 => e = .returned (.tuple #[]) ∧
 tk w49 fun w50 =>
 nilP r31_0 fun a51 =>
 nilP x0 fun a52 =>
 nilP r31_0 fun a53 =>
 ∃ (v54 : Int), w50.cell? a51 = some (.int .i64 v54) ∧
 ∃ (v55 : Int), w50.cell? (a52.add 3) = some (.int .i64 v55) ∧
 ∃ (v56 : Int), w50.cell? ⟨x6, 0, none⟩ = some (.int .i64 v56) ∧
 ∃ (v57 : OA), w50.cell? (a53.add 2) = some (.pointer v57) ∧
 box w50 #[.int .i64 v54, .int .i64 v55, .int .i64 v56, .pointer v57, .string (ByteArray.mk #[])] ty_Heading fun b58 w59 =>
 callE P i_parseState_doneBlock #[.pointer x0, .iface ty_P_Heading (.pointer (some ⟨b58, 0, none⟩))] (fun e w61 => e = .returned (.tuple #[]) ∧
 stV w61 ⟨x4, 0, none⟩ (.int .i64 0) fun w62 =>
 stV w62 ⟨x4, 1, none⟩ (.int .i64 0) fun w63 =>
 stV w63 ⟨x4, 2, none⟩ (.int .i64 0) fun w64 =>
 stV w64 ⟨x4, 3, none⟩ (.string (ByteArray.mk #[])) fun w65 =>
 stV w65 ⟨x4, 4, none⟩ (.int .u8 0) fun w66 =>
 ∃ (v67 : Int), w66.cell? ⟨x4, 0, none⟩ = some (.int .i64 v67) ∧
 ∃ (v68 : Int), w66.cell? ⟨x4, 1, none⟩ = some (.int .i64 v68) ∧
 ∃ (v69 : Int), w66.cell? ⟨x4, 2, none⟩ = some (.int .i64 v69) ∧
 ∃ (v70 : BA), w66.cell? ⟨x4, 3, none⟩ = some (.string v70) ∧
 ∃ (v71 : Int), w66.cell? ⟨x4, 4, none⟩ = some (.int .u8 v71) ∧
 R (.returned (.tuple #[.agg #[.int .i64 v67, .int .i64 v68, .int .i64 v69, .string v70, .int .u8 v71], .bool true])) w66) w59) w32)) w28) w)
 (∃ (v72 : Int), w.cell? ⟨x3, 0, none⟩ = some (.int .i64 v72) ∧
 ∃ (v73 : Int), w.cell? ⟨x3, 1, none⟩ = some (.int .i64 v73) ∧
 ∃ (v74 : Int), w.cell? ⟨x3, 2, none⟩ = some (.int .i64 v74) ∧
 ∃ (v75 : BA), w.cell? ⟨x3, 3, none⟩ = some (.string v75) ∧
 ∃ (v76 : Int), w.cell? ⟨x3, 4, none⟩ = some (.int .u8 v76) ∧
 stV w ⟨x4, 0, none⟩ (.int .i64 v72) fun w77 =>
 stV w77 ⟨x4, 1, none⟩ (.int .i64 v73) fun w78 =>
 stV w78 ⟨x4, 2, none⟩ (.int .i64 v74) fun w79 =>
 stV w79 ⟨x4, 3, none⟩ (.string v75) fun w80 =>
 stV w80 ⟨x4, 4, none⟩ (.int .u8 v76) fun w81 =>
 ∃ (v82 : Int), w81.cell? ⟨x4, 0, none⟩ = some (.int .i64 v82) ∧
 ∃ (v83 : Int), w81.cell? ⟨x4, 1, none⟩ = some (.int .i64 v83) ∧
 ∃ (v84 : Int), w81.cell? ⟨x4, 2, none⟩ = some (.int .i64 v84) ∧
 ∃ (v85 : BA), w81.cell? ⟨x4, 3, none⟩ = some (.string v85) ∧
 ∃ (v86 : Int), w81.cell? ⟨x4, 4, none⟩ = some (.int .u8 v86) ∧
 R (.returned (.tuple #[.agg #[.int .i64 v82, .int .i64 v83, .int .i64 v84, .string v85, .int .u8 v86], .bool false])) w81)

end g_newSetextHeading
def g_newSetextHeading (R : EP) (x0 : OA) (x1_0 : Int) (x1_1 : Int) (x1_2 : Int) (x1_3 : BA) (x1_4 : Int) (w : World) : Prop :=
 box w #[.int .i64 x1_0, .int .i64 x1_1, .int .i64 x1_2, .string x1_3, .int .u8 x1_4] ty_line fun b1 w2 =>
 box w2 #[.int .i64 0, .int .i64 0, .int .i64 0, .string (ByteArray.mk #[]), .int .u8 0] ty_line fun b3 w4 =>
 box w4 #[.int .i64 0] ty_int fun b5 w6 =>
 ∃ (v7 : Int), w6.cell? ⟨b1, 0, none⟩ = some (.int .i64 v7) ∧
 ∃ (v8 : Int), w6.cell? ⟨b1, 1, none⟩ = some (.int .i64 v8) ∧
 ∃ (v9 : Int), w6.cell? ⟨b1, 2, none⟩ = some (.int .i64 v9) ∧
 ∃ (v10 : BA), w6.cell? ⟨b1, 3, none⟩ = some (.string v10) ∧
 ∃ (v11 : Int), w6.cell? ⟨b1, 4, none⟩ = some (.int .u8 v11) ∧
 box w6 #[.int .i64 0, .int .i64 0, .int .i64 0, .string (ByteArray.mk #[]), .int .u8 0] ty_line fun b12 w13 =>
 stV w13 ⟨b12, 0, none⟩ (.int .i64 v7) fun w14 =>
 stV w14 ⟨b12, 1, none⟩ (.int .i64 v8) fun w15 =>
 stV w15 ⟨b12, 2, none⟩ (.int .i64 v9) fun w16 =>
 stV w16 ⟨b12, 3, none⟩ (.string v10) fun w17 =>
 stV w17 ⟨b12, 4, none⟩ (.int .u8 v11) fun w18 =>
 callE P i_parseState_nextB #[.pointer x0] (fun e w20 => ∃ (r19 : Value), e = .returned r19 ∧
 callE P i_parseState_para #[.pointer x0] (fun e w22 => ∃ (r21 : OA), e = .returned (.pointer r21) ∧
 ∃ (r23 : Bool), ∃ w24, (do eqGuard .eql ty_blockBuilder (.tmp 12) (.tmp 15) r19 (.iface ty_P_paraBuilder (.pointer r21)); binOp .eql ty_blockBuilder r19 (.iface ty_P_paraBuilder (.pointer r21))).run P w22 = .ok (.bool r23) w24 ∧
 br r23
 (callE P i_line_trimSetext #[.pointer (some ⟨b12, 0, none⟩), .pointer (some ⟨b5, 0, none⟩)] (fun e w26 => ∃ (r25 : Bool), e = .returned (.bool r25) ∧
 g_newSetextHeading.k1 R x0 b1 b3 b5 r25 w26) w24)
 (g_newSetextHeading.k1 R x0 b1 b3 b5 false w24)) w20) w18

noncomputable def g_newSetextHeading.ac (R : EP) : AC :=
  (.seq (.leaf (sel [0] g_newSetextHeading.body)) (.seq (.leaf (sel [1, 0] g_newSetextHeading.body)) (.seq (.leaf (sel [1, 1, 0] g_newSetextHeading.body)) (.seq (.seq (.leaf (sel [1, 1, 1, 0, 0] g_newSetextHeading.body)) (.mark (leaf [(0, .s .ptr), (3, .s .loc), (4, .s .loc), (6, .s .loc), (19, .s .bool)] (g_newSetextHeading.k1 R)) (.cond 19 (.seq (.leaf (sel [1, 1, 1, 0, 1, 0, 0] g_newSetextHeading.body)) (.seq (.leaf (sel [1, 1, 1, 0, 1, 0, 1, 0] g_newSetextHeading.body)) (.seq (.leaf (sel [1, 1, 1, 0, 1, 0, 1, 1, 0] g_newSetextHeading.body)) (.seq (.leaf (sel [1, 1, 1, 0, 1, 0, 1, 1, 1, 0] g_newSetextHeading.body)) (.seq (.draw (.pure 0 (.pure 1 (.pure 2 (.pure 3 (.pure 4 (.pure 6 (.pure 7 (.pure 8 (.pure 12 (.pure 13 (.pure 14 (.load 5 (.load 9 (.pure 10 (.load 11 (.load 15 (.pure 16 (.one 17 (.pure 18 (.one 19 .done)))))))))))))))))))) (sel [1, 1, 1, 0, 1, 0, 1, 1, 1, 1, 0] g_newSetextHeading.body)) (.leaf (sel [1, 1, 1, 0, 1, 0, 1, 1, 1, 1, 1] g_newSetextHeading.body))))))) (.leaf (sel [1, 1, 1, 0, 1, 1] g_newSetextHeading.body))))) (.leaf (sel [1, 1, 1, 1] g_newSetextHeading.body))))))
theorem g_newSetextHeading.good (R : EP) : Good P 55 (g_newSetextHeading.ac R) (QF P [.cell 4 107, .tmp 5] R) :=
  ⟨trivial, ⟨trivial, ⟨trivial, ⟨⟨trivial, ⟨⟨⟨trivial, ⟨trivial, ⟨trivial, ⟨trivial, ⟨⟨by kernel_rfl, by kernel_rfl, fun _ _ _ h => h⟩, trivial⟩⟩⟩⟩⟩, trivial⟩, cutE (by intro x0 x3 x4 x6 x19 ρ w; kernel_rfl)⟩⟩, trivial⟩⟩⟩⟩
theorem g_newSetextHeading.eq (R : EP) (x0 : OA) (x1_0 : Int) (x1_1 : Int) (x1_2 : Int) (x1_3 : BA) (x1_4 : Int) (w : World) : g_newSetextHeading R x0 x1_0 x1_1 x1_2 x1_3 x1_4 w = vcA P 55 (g_newSetextHeading.ac R) (QF P [.cell 4 107, .tmp 5] R) (fr0 [.pointer x0, .agg #[.int .i64 x1_0, .int .i64 x1_1, .int .i64 x1_2, .string x1_3, .int .u8 x1_4]]) w := by kernel_rfl
theorem g_newSetextHeading.sound {R : EP} {x0 : OA} {x1_0 : Int} {x1_1 : Int} {x1_2 : Int} {x1_3 : ByteArray} {x1_4 : Int} {w : World} (h : g_newSetextHeading R x0 x1_0 x1_1 x1_2 x1_3 x1_4 w) : callE P i_newSetextHeading #[.pointer x0, .agg #[.int .i64 x1_0, .int .i64 x1_1, .int .i64 x1_2, .string x1_3, .int .u8 x1_4]] R w :=
  callE_fin (c := g_newSetextHeading.body) Tryz.func91 Tryz.call91 (by kernel_rfl) (by kernel_rfl) (by kernel_rfl) (by kernel_rfl) (by kernel_rfl) (g_newSetextHeading.good R) (g_newSetextHeading.eq R x0 x1_0 x1_1 x1_2 x1_3 x1_4 w) h
namespace g_newListItem
noncomputable def body : Code := bodyOf Tryz.f93
def k1 (R : EP) (x0 : OA) (x3 : Nat) (x4 : Nat) (x6 : OA) (x21 : Bool) (w : World) : Prop :=
 br x21
 (nilP x6 fun a13 =>
 ∃ (v14 : Value), w.cell? (a13.add 4) = some v14 ∧
 enterE P (do let d ← Deferred.ofValue v14 #[]; invoke d.target d.args) (fun e w16 => ∃ (r15_0 : Int), ∃ (r15_1 : Int), ∃ (r15_2 : Int), ∃ (r15_3 : BA), ∃ (r15_4 : Int), e = .returned (.agg #[.int .i64 r15_0, .int .i64 r15_1, .int .i64 r15_2, .string r15_3, .int .u8 r15_4]) ∧
 stV w16 ⟨x3, 0, none⟩ (.int .i64 r15_0) fun w17 =>
 stV w17 ⟨x3, 1, none⟩ (.int .i64 r15_1) fun w18 =>
 stV w18 ⟨x3, 2, none⟩ (.int .i64 r15_2) fun w19 =>
 stV w19 ⟨x3, 3, none⟩ (.string r15_3) fun w20 =>
 stV w20 ⟨x3, 4, none⟩ (.int .u8 r15_4) fun w21 =>
 nilP x6 fun a22 =>
 stV w21 ((a22.add 4).add 0) .nilFunc fun w23 =>
 ∃ (v24 : Int), w23.cell? ⟨x3, 0, none⟩ = some (.int .i64 v24) ∧
 ∃ (v25 : Int), w23.cell? ⟨x3, 1, none⟩ = some (.int .i64 v25) ∧
 ∃ (v26 : Int), w23.cell? ⟨x3, 2, none⟩ = some (.int .i64 v26) ∧
 ∃ (v27 : BA), w23.cell? ⟨x3, 3, none⟩ = some (.string v27) ∧
 ∃ (v28 : Int), w23.cell? ⟨x3, 4, none⟩ = some (.int .u8 v28) ∧
 stV w23 ⟨x4, 0, none⟩ (.int .i64 v24) fun w29 =>
 stV w29 ⟨x4, 1, none⟩ (.int .i64 v25) fun w30 =>
 stV w30 ⟨x4, 2, none⟩ (.int .i64 v26) fun w31 =>
 stV w31 ⟨x4, 3, none⟩ (.string v27) fun w32 =>
 stV w32 ⟨x4, 4, none⟩ (.int .u8 v28) fun w33 =>
 ∃ (v34 : Int), w33.cell? ⟨x4, 0, none⟩ = some (.int .i64 v34) ∧
 ∃ (v35 : Int), w33.cell? ⟨x4, 1, none⟩ = some (.int .i64 v35) ∧
 ∃ (v36 : Int), w33.cell? ⟨x4, 2, none⟩ = some (.int .i64 v36) ∧
 ∃ (v37 : BA), w33.cell? ⟨x4, 3, none⟩ = some (.string v37) ∧
 ∃ (v38 : Int), w33.cell? ⟨x4, 4, none⟩ = some (.int .u8 v38) ∧
 R (.returned (.tuple #[.agg #[.int .i64 v34, .int .i64 v35, .int .i64 v36, .string v37, .int .u8 v38], .bool true])) w33) w)
 (callE P i_parseState_startListItem #[.pointer x0, .pointer (some ⟨x3, 0, none⟩)] (fun e w40 => ∃ (r39 : Bool), e = .returned (.bool r39) ∧
 br r39
 (∃ (v41 : Int), w40.cell? ⟨x3, 0, none⟩ = some (.int .i64 v41) ∧
 ∃ (v42 : Int), w40.cell? ⟨x3, 1, none⟩ = some (.int .i64 v42) ∧
 ∃ (v43 : Int), w40.cell? ⟨x3, 2, none⟩ = some (.int .i64 v43) ∧
 ∃ (v44 : BA), w40.cell? ⟨x3, 3, none⟩ = some (.string v44) ∧
 ∃ (v45 : Int), w40.cell? ⟨x3, 4, none⟩ = some (.int .u8 v45) ∧
 stV w40 ⟨x4, 0, none⟩ (.int .i64 v41) fun w46 =>
 stV w46 ⟨x4, 1, none⟩ (.int .i64 v42) fun w47 =>
 stV w47 ⟨x4, 2, none⟩ (.int .i64 v43) fun w48 =>
 stV w48 ⟨x4, 3, none⟩ (.string v44) fun w49 =>
 stV w49 ⟨x4, 4, none⟩ (.int .u8 v45) fun w50 =>
 ∃ (v51 : Int), w50.cell? ⟨x4, 0, none⟩ = some (.int .i64 v51) ∧
 ∃ (v52 : Int), w50.cell? ⟨x4, 1, none⟩ = some (.int .i64 v52) ∧
 ∃ (v53 : Int), w50.cell? ⟨x4, 2, none⟩ = some (.int .i64 v53) ∧
 ∃ (v54 : BA), w50.cell? ⟨x4, 3, none⟩ = some (.string v54) ∧
 ∃ (v55 : Int), w50.cell? ⟨x4, 4, none⟩ = some (.int .u8 v55) ∧
 R (.returned (.tuple #[.agg #[.int .i64 v51, .int .i64 v52, .int .i64 v53, .string v54, .int .u8 v55], .bool true])) w50)
 (∃ (v56 : Int), w40.cell? ⟨x3, 0, none⟩ = some (.int .i64 v56) ∧
 ∃ (v57 : Int), w40.cell? ⟨x3, 1, none⟩ = some (.int .i64 v57) ∧
 ∃ (v58 : Int), w40.cell? ⟨x3, 2, none⟩ = some (.int .i64 v58) ∧
 ∃ (v59 : BA), w40.cell? ⟨x3, 3, none⟩ = some (.string v59) ∧
 ∃ (v60 : Int), w40.cell? ⟨x3, 4, none⟩ = some (.int .u8 v60) ∧
 stV w40 ⟨x4, 0, none⟩ (.int .i64 v56) fun w61 =>
 stV w61 ⟨x4, 1, none⟩ (.int .i64 v57) fun w62 =>
 stV w62 ⟨x4, 2, none⟩ (.int .i64 v58) fun w63 =>
 stV w63 ⟨x4, 3, none⟩ (.string v59) fun w64 =>
 stV w64 ⟨x4, 4, none⟩ (.int .u8 v60) fun w65 =>
 ∃ (v66 : Int), w65.cell? ⟨x4, 0, none⟩ = some (.int .i64 v66) ∧
 ∃ (v67 : Int), w65.cell? ⟨x4, 1, none⟩ = some (.int .i64 v67) ∧
 ∃ (v68 : Int), w65.cell? ⟨x4, 2, none⟩ = some (.int .i64 v68) ∧
 ∃ (v69 : BA), w65.cell? ⟨x4, 3, none⟩ = some (.string v69) ∧
 ∃ (v70 : Int), w65.cell? ⟨x4, 4, none⟩ = some (.int .u8 v70) ∧
 R (.returned (.tuple #[.agg #[.int .i64 v66, .int .i64 v67, .int .i64 v68, .string v69, .int .u8 v70], .bool false])) w65)) w)

end g_newListItem
def g_newListItem (R : EP) (x0 : OA) (x1_0 : Int) (x1_1 : Int) (x1_2 : Int) (x1_3 : BA) (x1_4 : Int) (w : World) : Prop :=
 box w #[.int .i64 x1_0, .int .i64 x1_1, .int .i64 x1_2, .string x1_3, .int .u8 x1_4] ty_line fun b1 w2 =>
 box w2 #[.int .i64 0, .int .i64 0, .int .i64 0, .string (ByteArray.mk #[]), .int .u8 0] ty_line fun b3 w4 =>
 callE P i_parseState_curB #[.pointer x0] (fun e w6 => ∃ (r5 : Value), e = .returned r5 ∧
 ∃ (r7_0 : OA), ∃ (r7_1 : Bool), ∃ w8, (Instr.typeAssert r5 ty_blockBuilder ty_P_listBuilder true).run P w6 = .ok (.tuple #[.pointer r7_0, .bool r7_1]) w8 ∧
 br r7_1
 (nilP r7_0 fun a9 =>
 ∃ (v10 : Value), w8.cell? (a9.add 4) = some v10 ∧
 ∃ (r11 : Bool), ∃ w12, (do eqGuard .neq ty_func_line (.tmp 19) (.const .nilFunc) v10 .nilFunc; binOp .neq ty_func_line v10 .nilFunc).run P w8 = .ok (.bool r11) w12 ∧
 g_newListItem.k1 R x0 b1 b3 r7_0 r11 w12)
 (g_newListItem.k1 R x0 b1 b3 r7_0 false w8)) w4

noncomputable def g_newListItem.ac (R : EP) : AC :=
  (.seq (.leaf (sel [0] g_newListItem.body)) (.seq (.seq (.leaf (sel [1, 0, 0] g_newListItem.body)) (.seq (.leaf (sel [1, 0, 1, 0] g_newListItem.body)) (.mark (leaf [(0, .s .ptr), (3, .s .loc), (4, .s .loc), (6, .s .ptr), (21, .s .bool)] (g_newListItem.k1 R)) (.leaf (sel [1, 0, 1, 1] g_newListItem.body))))) (.leaf (sel [1, 1] g_newListItem.body))))
theorem g_newListItem.good (R : EP) : Good P 35 (g_newListItem.ac R) (QF P [.cell 4 107, .tmp 5] R) :=
  ⟨trivial, ⟨⟨trivial, ⟨trivial, ⟨trivial, cutE (by intro x0 x3 x4 x6 x21 ρ w; kernel_rfl)⟩⟩⟩, trivial⟩⟩
theorem g_newListItem.eq (R : EP) (x0 : OA) (x1_0 : Int) (x1_1 : Int) (x1_2 : Int) (x1_3 : BA) (x1_4 : Int) (w : World) : g_newListItem R x0 x1_0 x1_1 x1_2 x1_3 x1_4 w = vcA P 35 (g_newListItem.ac R) (QF P [.cell 4 107, .tmp 5] R) (fr0 [.pointer x0, .agg #[.int .i64 x1_0, .int .i64 x1_1, .int .i64 x1_2, .string x1_3, .int .u8 x1_4]]) w := by kernel_rfl
theorem g_newListItem.sound {R : EP} {x0 : OA} {x1_0 : Int} {x1_1 : Int} {x1_2 : Int} {x1_3 : ByteArray} {x1_4 : Int} {w : World} (h : g_newListItem R x0 x1_0 x1_1 x1_2 x1_3 x1_4 w) : callE P i_newListItem #[.pointer x0, .agg #[.int .i64 x1_0, .int .i64 x1_1, .int .i64 x1_2, .string x1_3, .int .u8 x1_4]] R w :=
  callE_fin (c := g_newListItem.body) Tryz.func93 Tryz.call93 (by kernel_rfl) (by kernel_rfl) (by kernel_rfl) (by kernel_rfl) (by kernel_rfl) (g_newListItem.good R) (g_newListItem.eq R x0 x1_0 x1_1 x1_2 x1_3 x1_4 w) h
namespace g_parseState_curB
noncomputable def body : Code := bodyOf Tryz.f145
end g_parseState_curB
def g_parseState_curB (R : EP) (x0 : OA) (w : World) : Prop :=
 tk w fun w1 =>
 nilP x0 fun a2 =>
 nilP x0 fun a3 =>
 ∃ (v4 : Int), w1.cell? (a2.add 5) = some (.int .i64 v4) ∧
 ∃ (v5q : OA), ∃ (v5n : Nat), ∃ (v5c : Nat), w1.cell? (a3.add 4) = some (.slice v5q v5n v5c) ∧
 br (decide (v4 < (v5n : Int)))
 (tk w1 fun w6 =>
 nilP x0 fun a7 =>
 nilP x0 fun a8 =>
 ∃ (v9q : OA), ∃ (v9n : Nat), ∃ (v9c : Nat), w6.cell? (a7.add 4) = some (.slice v9q v9n v9c) ∧
 ∃ (v10 : Int), w6.cell? (a8.add 5) = some (.int .i64 v10) ∧
 0 ≤ v10 ∧ v10 < (v9n : Int) ∧
 nilP v9q fun a11 =>
 ∃ (v12 : Value), w6.cell? (a11.add (Int.toNat v10 * 4)) = some v12 ∧
 R (.returned v12) w6)
 (R (.returned .nilIface) w1)

noncomputable def g_parseState_curB.ac (R : EP) : AC :=
  (.seq (.leaf (sel [0] g_parseState_curB.body)) (.seq (.seq (.draw (.pure 0 (.pure 1 (.pure 2 (.pure 4 (.pure 5 (.pure 6 (.load 3 (.load 7 (.pure 8 (.pure 9 .done)))))))))) (sel [1, 0, 0] g_parseState_curB.body)) (.cond 12 (.seq (.draw (.pure 0 (.pure 1 (.pure 2 (.pure 4 (.pure 5 (.pure 6 (.load 3 (.load 7 (.pure 8 (.pure 9 (.load 10 (.pure 11 .done)))))))))))) (sel [1, 0, 1, 0, 0] g_parseState_curB.body)) (.leaf (sel [1, 0, 1, 0, 1] g_parseState_curB.body))) (.leaf (sel [1, 0, 1, 1] g_parseState_curB.body)))) (.leaf (sel [1, 1] g_parseState_curB.body))))
theorem g_parseState_curB.good (R : EP) : Good P 24 (g_parseState_curB.ac R) (QF P [.tmp 2] R) :=
  ⟨trivial, ⟨⟨⟨by kernel_rfl, by kernel_rfl, fun _ _ _ h => h⟩, ⟨⟨⟨by kernel_rfl, by kernel_rfl, fun _ _ _ h => h⟩, trivial⟩, trivial⟩⟩, trivial⟩⟩
theorem g_parseState_curB.eq (R : EP) (x0 : OA) (w : World) : g_parseState_curB R x0 w = vcA P 24 (g_parseState_curB.ac R) (QF P [.tmp 2] R) (fr0 [.pointer x0]) w := by kernel_rfl
theorem g_parseState_curB.sound {R : EP} {x0 : OA} {w : World} (h : g_parseState_curB R x0 w) : callE P i_parseState_curB #[.pointer x0] R w :=
  callE_fin (c := g_parseState_curB.body) Tryz.func145 Tryz.call145 (by kernel_rfl) (by kernel_rfl) (by kernel_rfl) (by kernel_rfl) (by kernel_rfl) (g_parseState_curB.good R) (g_parseState_curB.eq R x0 w) h
namespace g_parseState_nextB
noncomputable def body : Code := bodyOf Tryz.f140
end g_parseState_nextB
def g_parseState_nextB (R : EP) (x0 : OA) (w : World) : Prop :=
 tk w fun w1 =>
 nilP x0 fun a2 =>
 nilP x0 fun a3 =>
 ∃ (v4 : Int), w1.cell? (a2.add 5) = some (.int .i64 v4) ∧
 ∃ (v5q : OA), ∃ (v5n : Nat), ∃ (v5c : Nat), w1.cell? (a3.add 4) = some (.slice v5q v5n v5c) ∧
 br (decide ((IntKind.i64.wrap (v4 + 1)) < (v5n : Int)))
 (tk w1 fun w6 =>
 nilP x0 fun a7 =>
 nilP x0 fun a8 =>
 ∃ (v9q : OA), ∃ (v9n : Nat), ∃ (v9c : Nat), w6.cell? (a7.add 4) = some (.slice v9q v9n v9c) ∧
 ∃ (v10 : Int), w6.cell? (a8.add 5) = some (.int .i64 v10) ∧
 0 ≤ (IntKind.i64.wrap (v10 + 1)) ∧ (IntKind.i64.wrap (v10 + 1)) < (v9n : Int) ∧
 nilP v9q fun a11 =>
 ∃ (v12 : Value), w6.cell? (a11.add (Int.toNat (IntKind.i64.wrap (v10 + 1)) * 4)) = some v12 ∧
 R (.returned v12) w6)
 (R (.returned .nilIface) w1)

noncomputable def g_parseState_nextB.ac (R : EP) : AC :=
  (.seq (.leaf (sel [0] g_parseState_nextB.body)) (.seq (.seq (.draw (.pure 0 (.pure 1 (.pure 2 (.pure 5 (.pure 6 (.pure 7 (.load 3 (.pure 4 (.load 8 (.pure 9 (.pure 10 .done))))))))))) (sel [1, 0, 0] g_parseState_nextB.body)) (.cond 13 (.seq (.draw (.pure 0 (.pure 1 (.pure 2 (.pure 4 (.pure 5 (.pure 6 (.load 3 (.load 7 (.pure 8 (.pure 9 (.pure 10 (.load 11 (.pure 12 .done))))))))))))) (sel [1, 0, 1, 0, 0] g_parseState_nextB.body)) (.leaf (sel [1, 0, 1, 0, 1] g_parseState_nextB.body))) (.leaf (sel [1, 0, 1, 1] g_parseState_nextB.body)))) (.leaf (sel [1, 1] g_parseState_nextB.body))))
theorem g_parseState_nextB.good (R : EP) : Good P 26 (g_parseState_nextB.ac R) (QF P [.tmp 2] R) :=
  ⟨trivial, ⟨⟨⟨by kernel_rfl, by kernel_rfl, fun _ _ _ h => h⟩, ⟨⟨⟨by kernel_rfl, by kernel_rfl, fun _ _ _ h => h⟩, trivial⟩, trivial⟩⟩, trivial⟩⟩
theorem g_parseState_nextB.eq (R : EP) (x0 : OA) (w : World) : g_parseState_nextB R x0 w = vcA P 26 (g_parseState_nextB.ac R) (QF P [.tmp 2] R) (fr0 [.pointer x0]) w := by kernel_rfl
theorem g_parseState_nextB.sound {R : EP} {x0 : OA} {w : World} (h : g_parseState_nextB R x0 w) : callE P i_parseState_nextB #[.pointer x0] R w :=
  callE_fin (c := g_parseState_nextB.body) Tryz.func140 Tryz.call140 (by kernel_rfl) (by kernel_rfl) (by kernel_rfl) (by kernel_rfl) (by kernel_rfl) (g_parseState_nextB.good R) (g_parseState_nextB.eq R x0 w) h
namespace g_parseState_startListItem
noncomputable def body : Code := bodyOf Tryz.f146
def k5 (R : EP) (Xa : Nat → Nat → Int → Int → Int → Nat → Int → Int → WP) (x2 : Nat) (x5 : Nat) (x6 : Int) (x8 : Int) (x9 : Int) (x12 : Nat) (x13 : Int) (x14 : Int) (w : World) : Prop :=
 Xa x2 x5 x6 x8 x9 x12 (IntKind.i64.wrap (x13 + 1)) (IntKind.i64.wrap (x14 + 1)) w

def k9 (R : EP) (Xb : Nat → Nat → Int → Int → Int → WP) (x2 : Nat) (x5 : Nat) (x6 : Int) (x9 : Int) (x10 : Int) (x11 : Int) (w : World) : Prop :=
 ∃ (v63 : Int), w.cell? ⟨x5, 1, none⟩ = some (.int .i64 v63) ∧
 br (decide ((IntKind.i64.wrap (x10 - v63)) ≥ 9))
 (R (.returned (.bool false)) w)
 (Xb x2 x5 x6 (IntKind.i64.wrap ((IntKind.i64.wrap ((IntKind.i64.wrap (x9 * 10)) + (IntKind.i64.wrap x11))) - 48)) (IntKind.i64.wrap (x10 + 1)) w)

def k14 (R : EP) (x2 : Nat) (x5 : Nat) (x15 : Nat) (x18 : Nat) (w : World) : Prop :=
 ∃ (v111 : OA), w.cell? ⟨x15, 0, none⟩ = some (.pointer v111) ∧
 nilP v111 fun a112 =>
 stV w ((a112.add 4).add 0) (.func (.func i_parseState_startListItem_1) #[] #[.pointer (some ⟨x2, 0, none⟩), .pointer (some ⟨x18, 0, none⟩), .pointer (some ⟨x15, 0, none⟩), .pointer (some ⟨x5, 0, none⟩)]) fun w113 =>
 R (.returned (.bool true)) w113

def k13 (R : EP) (x2 : Nat) (x5 : Nat) (x6 : Int) (x15 : Nat) (w : World) : Prop :=
 tk w fun w90 =>
 ∃ (v91 : OA), w90.cell? ⟨x15, 0, none⟩ = some (.pointer v91) ∧
 (callE P i_line_isBlank #[.pointer (some ⟨x5, 0, none⟩)] (fun e w93 => ∃ (r92 : Bool), e = .returned (.bool r92) ∧
 SameC w90 w93 ⟨x15, 0, none⟩ 1 ∧
 (box w93 #[.pointer v91, .int .i64 x6, .bool (!r92)] ty_itemBuilder fun b94 w95 =>
 box w95 #[.pointer none] ty_P_itemBuilder fun b96 w97 =>
 SameC w95 w97 ⟨x15, 0, none⟩ 1 ∧
 stV w97 ⟨b96, 0, none⟩ (.pointer (some ⟨b94, 0, none⟩)) fun w98 =>
 k14 R x2 x5 x15 b96 w98) ∧
 (box w93 #[.pointer none] ty_P_itemBuilder fun b99 w100 =>
 SameC w93 w100 ⟨x15, 0, none⟩ 1 ∧
 box w100 #[.pointer v91, .int .i64 x6, .bool (!r92)] ty_itemBuilder fun b101 w102 =>
 stV w102 ⟨b99, 0, none⟩ (.pointer (some ⟨b101, 0, none⟩)) fun w103 =>
 k14 R x2 x5 x15 b99 w103)) w90) ∧
 (box w90 #[.pointer none] ty_P_itemBuilder fun b104 w105 =>
 SameC w90 w105 ⟨x15, 0, none⟩ 1 ∧
 callE P i_line_isBlank #[.pointer (some ⟨x5, 0, none⟩)] (fun e w107 => ∃ (r106 : Bool), e = .returned (.bool r106) ∧
 SameC w105 w107 ⟨x15, 0, none⟩ 1 ∧
 box w107 #[.pointer v91, .int .i64 x6, .bool (!r106)] ty_itemBuilder fun b108 w109 =>
 stV w109 ⟨b104, 0, none⟩ (.pointer (some ⟨b108, 0, none⟩)) fun w110 =>
 k14 R x2 x5 x15 b104 w110) w105)

def k12 (R : EP) (x2 : Nat) (x5 : Nat) (x6 : Int) (x8 : Int) (x9 : Int) (x15 : Nat) (x158 : Bool) (w : World) : Prop :=
 br x158
 (∃ (v80 : OA), w.cell? ⟨x2, 0, none⟩ = some (.pointer v80) ∧
 nilP v80 fun a81 =>
 stV w ((a81.add 6).add 0) (.bool true) fun w82 =>
 R (.returned (.bool false)) w82)
 (box w #[.int .i32 (IntKind.i32.wrap x8), .int .i64 x9, .bool false, .pointer none, .nilFunc] ty_listBuilder fun b83 w84 =>
 stV w84 ⟨x15, 0, none⟩ (.pointer (some ⟨b83, 0, none⟩)) fun w85 =>
 ∃ (v86 : OA), w85.cell? ⟨x2, 0, none⟩ = some (.pointer v86) ∧
 ∃ (v87 : OA), w85.cell? ⟨x15, 0, none⟩ = some (.pointer v87) ∧
 callE P i_parseState_addBlock #[.pointer v86, .iface ty_P_listBuilder (.pointer v87)] (fun e w89 => e = .returned (.tuple #[]) ∧
 k13 R x2 x5 x6 x15 w89) w85)

def k11 (R : EP) (x2 : Nat) (x5 : Nat) (x6 : Int) (x8 : Int) (x9 : Int) (x15 : Nat) (x136 : Bool) (w : World) : Prop :=
 br x136
 (∃ (v70 : OA), w.cell? ⟨x15, 0, none⟩ = some (.pointer v70) ∧
 ∃ (r71 : Bool), ∃ w72, (do eqGuard .eql ty_P_listBuilder (.tmp 137) (.const (.pointer none)) (.pointer v70) (.pointer none); binOp .eql ty_P_listBuilder (.pointer v70) (.pointer none)).run P w = .ok (.bool r71) w72 ∧
 br r71
 (∃ (v73 : OA), w72.cell? ⟨x2, 0, none⟩ = some (.pointer v73) ∧
 callE P i_parseState_para #[.pointer v73] (fun e w75 => ∃ (r74 : OA), e = .returned (.pointer r74) ∧
 ∃ (r76 : Bool), ∃ w77, (do eqGuard .neq ty_P_paraBuilder (.tmp 141) (.const (.pointer none)) (.pointer r74) (.pointer none); binOp .neq ty_P_paraBuilder (.pointer r74) (.pointer none)).run P w75 = .ok (.bool r76) w77 ∧
 br r76
 (callE P i_line_isBlank #[.pointer (some ⟨x5, 0, none⟩)] (fun e w79 => ∃ (r78 : Bool), e = .returned (.bool r78) ∧
 k12 R x2 x5 x6 x8 x9 x15 (r78 || (((x8 == 46) || (x8 == 41)) && (x9 != 1))) w79) w77)
 (k12 R x2 x5 x6 x8 x9 x15 false w77)) w72)
 (k12 R x2 x5 x6 x8 x9 x15 false w72))
 (k13 R x2 x5 x6 x15 w)

def k10 (R : EP) (x2 : Nat) (x5 : Nat) (x6 : Int) (x8 : Int) (x9 : Int) (x15 : Nat) (w : World) : Prop :=
 ∃ (v64 : OA), w.cell? ⟨x15, 0, none⟩ = some (.pointer v64) ∧
 ∃ (r65 : Bool), ∃ w66, (do eqGuard .eql ty_P_listBuilder (.tmp 126) (.const (.pointer none)) (.pointer v64) (.pointer none); binOp .eql ty_P_listBuilder (.pointer v64) (.pointer none)).run P w = .ok (.bool r65) w66 ∧
 br r65
 (k11 R x2 x5 x6 x8 x9 x15 true w66)
 (∃ (v67 : OA), w66.cell? ⟨x15, 0, none⟩ = some (.pointer v67) ∧
 nilP v67 fun a68 =>
 ∃ (v69 : Int), w66.cell? a68 = some (.int .i32 v69) ∧
 k11 R x2 x5 x6 x8 x9 x15 (v69 != (IntKind.i32.wrap x8)) w66)

def k8 (R : EP) (x2 : Nat) (x5 : Nat) (x6 : Int) (x8 : Int) (x9 : Int) (w : World) : Prop :=
 box w #[.pointer none] ty_P_listBuilder fun b55 w56 =>
 ∃ (v57 : OA), w56.cell? ⟨x2, 0, none⟩ = some (.pointer v57) ∧
 callE P i_parseState_nextB #[.pointer v57] (fun e w59 => ∃ (r58 : Value), e = .returned r58 ∧
 ∃ (r60_0 : OA), ∃ (r60_1 : Bool), ∃ w61, (Instr.typeAssert r58 ty_blockBuilder ty_P_listBuilder true).run P w59 = .ok (.tuple #[.pointer r60_0, .bool r60_1]) w61 ∧
 br r60_1
 (stV w61 ⟨b55, 0, none⟩ (.pointer r60_0) fun w62 =>
 k10 R x2 x5 x6 x8 x9 b55 w62)
 (k10 R x2 x5 x6 x8 x9 b55 w61)) w56

def k6 (R : EP) (x2 : Nat) (x5 : Nat) (x6 : Int) (x8 : Int) (x9 : Int) (x12 : Nat) (x13 : Int) (w : World) : Prop :=
 callE P i_line_trimSpace #[.pointer (some ⟨x12, 0, none⟩), .int .i64 1, .int .i64 1, .bool true] (fun e w42 => ∃ (r41 : Bool), e = .returned (.bool r41) ∧
 br (!r41)
 (∃ (v43 : Int), w42.cell? ⟨x12, 0, none⟩ = some (.int .i64 v43) ∧
 ∃ (v44 : Int), w42.cell? ⟨x12, 1, none⟩ = some (.int .i64 v44) ∧
 ∃ (v45 : Int), w42.cell? ⟨x12, 2, none⟩ = some (.int .i64 v45) ∧
 ∃ (v46 : BA), w42.cell? ⟨x12, 3, none⟩ = some (.string v46) ∧
 ∃ (v47 : Int), w42.cell? ⟨x12, 4, none⟩ = some (.int .u8 v47) ∧
 stV w42 ⟨x5, 0, none⟩ (.int .i64 v43) fun w48 =>
 stV w48 ⟨x5, 1, none⟩ (.int .i64 v44) fun w49 =>
 stV w49 ⟨x5, 2, none⟩ (.int .i64 v45) fun w50 =>
 stV w50 ⟨x5, 3, none⟩ (.string v46) fun w51 =>
 stV w51 ⟨x5, 4, none⟩ (.int .u8 v47) fun w52 =>
 k8 R x2 x5 (IntKind.i64.wrap (x6 + x13)) x8 x9 w52)
 (k8 R x2 x5 x6 x8 x9 w42)) w

def bl2 (R : EP) (Xa : Nat → Nat → Int → Int → Int → Nat → Int → Int → WP) (x2 : Nat) (x5 : Nat) (x6 : Int) (x8 : Int) (x9 : Int) (x12 : Nat) (x13 : Int) (x14 : Int) (w : World) : Prop :=
 br (decide (x14 < 3))
 (callE P i_line_trimSpace #[.pointer (some ⟨x12, 0, none⟩), .int .i64 1, .int .i64 1, .bool false] (fun e w38 => ∃ (r37 : Bool), e = .returned (.bool r37) ∧
 br r37
 (k5 R Xa x2 x5 x6 x8 x9 x12 x13 x14 w38)
 (k6 R x2 x5 x6 x8 x9 x12 x13 w38)) w)
 (k6 R x2 x5 x6 x8 x9 x12 x13 w)
def l2 (R : EP) (x2 : Nat) (x5 : Nat) (x6 : Int) (x8 : Int) (x9 : Int) (x12 : Nat) (x13 : Int) (x14 : Int) (w : World) : Prop :=
  ∀ X : Nat → Nat → Int → Int → Int → Nat → Int → Int → WP, (∀ x2 x5 x6 x8 x9 x12 x13 x14 w, bl2 R X x2 x5 x6 x8 x9 x12 x13 x14 w → X x2 x5 x6 x8 x9 x12 x13 x14 w) → X x2 x5 x6 x8 x9 x12 x13 x14 w

noncomputable def al2 (R : EP) (Xa : Nat → Nat → Int → Int → Int → Nat → Int → Int → WP) : AC :=
  (.seq (.leaf (sel [1, 0, 1, 1, 1, 1, 1, 1, 1, 1, 1, 1, 1, 0, 1, 0, 0, 0] body)) (.mark (leaf [(2, .s .loc), (5, .s .loc), (6, .s (.int .i64)), (8, .s (.int .u8)), (9, .s (.int .i64)), (12, .s .loc), (13, .s (.int .i64)), (14, .s (.int .i64))] (k5 R Xa)) (.leaf (sel [1, 0, 1, 1, 1, 1, 1, 1, 1, 1, 1, 1, 1, 0, 1, 0, 0, 1] body))))
def k3 (R : EP) (x2 : Nat) (x5 : Nat) (x6 : Int) (x8 : Int) (x9 : Int) (w : World) : Prop :=
 callE P i_line_trimSpace #[.pointer (some ⟨x5, 0, none⟩), .int .i64 1, .int .i64 1, .bool true] (fun e w23 => ∃ (r22 : Bool), e = .returned (.bool r22) ∧
 br (!r22)
 (R (.returned (.bool false)) w23)
 (∃ (v24 : Int), w23.cell? ⟨x5, 0, none⟩ = some (.int .i64 v24) ∧
 ∃ (v25 : Int), w23.cell? ⟨x5, 1, none⟩ = some (.int .i64 v25) ∧
 ∃ (v26 : Int), w23.cell? ⟨x5, 2, none⟩ = some (.int .i64 v26) ∧
 ∃ (v27 : BA), w23.cell? ⟨x5, 3, none⟩ = some (.string v27) ∧
 ∃ (v28 : Int), w23.cell? ⟨x5, 4, none⟩ = some (.int .u8 v28) ∧
 box w23 #[.int .i64 0, .int .i64 0, .int .i64 0, .string (ByteArray.mk #[]), .int .u8 0] ty_line fun b29 w30 =>
 stV w30 ⟨b29, 0, none⟩ (.int .i64 v24) fun w31 =>
 stV w31 ⟨b29, 1, none⟩ (.int .i64 v25) fun w32 =>
 stV w32 ⟨b29, 2, none⟩ (.int .i64 v26) fun w33 =>
 stV w33 ⟨b29, 3, none⟩ (.string v27) fun w34 =>
 stV w34 ⟨b29, 4, none⟩ (.int .u8 v28) fun w35 =>
 l2 R x2 x5 (IntKind.i64.wrap (x6 + 1)) x8 x9 b29 0 0 w35)) w

def k7 (R : EP) (Xb : Nat → Nat → Int → Int → Int → WP) (x2 : Nat) (x5 : Nat) (x6 : Int) (x9 : Int) (x10 : Int) (x11 : Int) (x69 : Bool) (w : World) : Prop :=
 br x69
 (∃ (v53 : Int), w.cell? ⟨x5, 1, none⟩ = some (.int .i64 v53) ∧
 stV w ⟨x5, 1, none⟩ (.int .i64 (IntKind.i64.wrap (x10 + 1))) fun w54 =>
 k3 R x2 x5 (IntKind.i64.wrap (x6 + (IntKind.i64.wrap ((IntKind.i64.wrap (x10 + 1)) - v53)))) x11 x9 w54)
 (br ((decide (x11 < 48)) || (decide (57 < x11)))
 (R (.returned (.bool false)) w)
 (k9 R Xb x2 x5 x6 x9 x10 x11 w))

def bl3 (R : EP) (Xb : Nat → Nat → Int → Int → Int → WP) (x2 : Nat) (x5 : Nat) (x6 : Int) (x9 : Int) (x10 : Int) (w : World) : Prop :=
 ∃ (v39 : BA), w.cell? ⟨x5, 3, none⟩ = some (.string v39) ∧
 br (decide (x10 ≥ (v39.size : Int)))
 (R (.returned (.bool false)) w)
 (∃ (v40 : BA), w.cell? ⟨x5, 3, none⟩ = some (.string v40) ∧
 0 ≤ x10 ∧ x10 < (v40.size : Int) ∧
 k7 R Xb x2 x5 x6 x9 x10 (bt v40 x10) (((bt v40 x10) == 46) || ((bt v40 x10) == 41)) w)
def l3 (R : EP) (x2 : Nat) (x5 : Nat) (x6 : Int) (x9 : Int) (x10 : Int) (w : World) : Prop :=
  ∀ X : Nat → Nat → Int → Int → Int → WP, (∀ x2 x5 x6 x9 x10 w, bl3 R X x2 x5 x6 x9 x10 w → X x2 x5 x6 x9 x10 w) → X x2 x5 x6 x9 x10 w

noncomputable def al3 (R : EP) (Xb : Nat → Nat → Int → Int → Int → WP) : AC :=
  (.seq (.block 4 (.seq (.leaf (sel [1, 0, 1, 1, 1, 1, 1, 1, 0, 1, 0, 1, 1, 1, 0, 1, 0, 0, 0, 0, 0] body)) (.seq (.leaf (sel [1, 0, 1, 1, 1, 1, 1, 1, 0, 1, 0, 1, 1, 1, 0, 1, 0, 0, 0, 0, 1, 0] body)) (.seq (.seq (.leaf (sel [1, 0, 1, 1, 1, 1, 1, 1, 0, 1, 0, 1, 1, 1, 0, 1, 0, 0, 0, 0, 1, 1, 0, 0] body)) (.mark (leaf [(2, .s .loc), (5, .s .loc), (6, .s (.int .i64)), (9, .s (.int .i64)), (10, .s (.int .i64)), (11, .s (.int .u8)), (69, .s .bool)] (k7 R Xb)) (.leaf (sel [1, 0, 1, 1, 1, 1, 1, 1, 0, 1, 0, 1, 1, 1, 0, 1, 0, 0, 0, 0, 1, 1, 0, 1] body)))) (.seq (.leaf (sel [1, 0, 1, 1, 1, 1, 1, 1, 0, 1, 0, 1, 1, 1, 0, 1, 0, 0, 0, 0, 1, 1, 1, 0] body)) (.mark (leaf [(2, .s .loc), (5, .s .loc), (6, .s (.int .i64)), (9, .s (.int .i64)), (10, .s (.int .i64)), (11, .s (.int .u8))] (k9 R Xb)) (.leaf (sel [1, 0, 1, 1, 1, 1, 1, 1, 0, 1, 0, 1, 1, 1, 0, 1, 0, 0, 0, 0, 1, 1, 1, 1] body)))))))) (.leaf (sel [1, 0, 1, 1, 1, 1, 1, 1, 0, 1, 0, 1, 1, 1, 0, 1, 0, 0, 1] body)))
def k4 (R : EP) (x2 : Nat) (x5 : Nat) (x6 : Int) (x9 : Int) (x40 : Bool) (w : World) : Prop :=
 br x40
 (∃ (v36 : Int), w.cell? ⟨x5, 1, none⟩ = some (.int .i64 v36) ∧
 l3 R x2 x5 x6 x9 v36 w)
 (R (.returned (.bool false)) w)

def k2 (R : EP) (x2 : Nat) (x5 : Nat) (x6 : Int) (x8 : Int) (x9 : Int) (x31 : Int) (x32 : Bool) (w : World) : Prop :=
 br x32
 (callE P i_line_trim #[.pointer (some ⟨x5, 0, none⟩), .int .u8 x8] (fun e w21 => ∃ (r20 : Bool), e = .returned (.bool r20) ∧
 k3 R x2 x5 (IntKind.i64.wrap (x6 + 1)) x8 x9 w21) w)
 (br (x31 == 48)
 (k4 R x2 x5 x6 x9 true w)
 (br (x31 == 49)
 (k4 R x2 x5 x6 x9 true w)
 (br (x31 == 50)
 (k4 R x2 x5 x6 x9 true w)
 (br (x31 == 51)
 (k4 R x2 x5 x6 x9 true w)
 (br (x31 == 52)
 (k4 R x2 x5 x6 x9 true w)
 (br (x31 == 53)
 (k4 R x2 x5 x6 x9 true w)
 (br (x31 == 54)
 (k4 R x2 x5 x6 x9 true w)
 (br (x31 == 55)
 (k4 R x2 x5 x6 x9 true w)
 (br (x31 == 56)
 (k4 R x2 x5 x6 x9 true w)
 (k4 R x2 x5 x6 x9 (x31 == 57) w))))))))))

def k1 (R : EP) (x2 : Nat) (x5 : Nat) (x6 : Int) (w : World) : Prop :=
 callE P i_line_peek #[.pointer (some ⟨x5, 0, none⟩)] (fun e w19 => ∃ (r18 : Int), e = .returned (.int .u8 r18) ∧
 br (r18 == 45)
 (k2 R x2 x5 x6 r18 0 r18 true w19)
 (br (r18 == 42)
 (k2 R x2 x5 x6 r18 0 r18 true w19)
 (k2 R x2 x5 x6 r18 0 r18 (r18 == 43) w19))) w

def bl1 (R : EP) (Xc : Nat → Nat → Int → Int → WP) (x2 : Nat) (x5 : Nat) (x6 : Int) (x7 : Int) (w : World) : Prop :=
 br (decide (x7 < 3))
 (callE P i_line_trimSpace #[.pointer (some ⟨x5, 0, none⟩), .int .i64 1, .int .i64 1, .bool false] (fun e w17 => ∃ (r16 : Bool), e = .returned (.bool r16) ∧
 br (!r16)
 (k1 R x2 x5 x6 w17)
 (Xc x2 x5 (IntKind.i64.wrap (x6 + 1)) (IntKind.i64.wrap (x7 + 1)) w17)) w)
 (k1 R x2 x5 x6 w)
def l1 (R : EP) (x2 : Nat) (x5 : Nat) (x6 : Int) (x7 : Int) (w : World) : Prop :=
  ∀ X : Nat → Nat → Int → Int → WP, (∀ x2 x5 x6 x7 w, bl1 R X x2 x5 x6 x7 w → X x2 x5 x6 x7 w) → X x2 x5 x6 x7 w

noncomputable def al1 (R : EP) (Xc : Nat → Nat → Int → Int → WP) : AC :=
  (.leaf (sel [1, 0, 1, 1, 0, 1, 0, 0] body))
end g_parseState_startListItem
def g_parseState_startListItem (R : EP) (x0 : OA) (x1 : OA) (w : World) : Prop :=
 box w #[.pointer x0] ty_P_parseState fun b1 w2 =>
 nilP x1 fun a3 =>
 ∃ (v4 : Int), w2.cell? (a3.add 0) = some (.int .i64 v4) ∧
 ∃ (v5 : Int), w2.cell? (a3.add 1) = some (.int .i64 v5) ∧
 ∃ (v6 : Int), w2.cell? (a3.add 2) = some (.int .i64 v6) ∧
 ∃ (v7 : BA), w2.cell? (a3.add 3) = some (.string v7) ∧
 ∃ (v8 : Int), w2.cell? (a3.add 4) = some (.int .u8 v8) ∧
 box w2 #[.int .i64 0, .int .i64 0, .int .i64 0, .string (ByteArray.mk #[]), .int .u8 0] ty_line fun b9 w10 =>
 stV w10 ⟨b9, 0, none⟩ (.int .i64 v4) fun w11 =>
 stV w11 ⟨b9, 1, none⟩ (.int .i64 v5) fun w12 =>
 stV w12 ⟨b9, 2, none⟩ (.int .i64 v6) fun w13 =>
 stV w13 ⟨b9, 3, none⟩ (.string v7) fun w14 =>
 stV w14 ⟨b9, 4, none⟩ (.int .u8 v8) fun w15 =>
 g_parseState_startListItem.l1 R b1 b9 0 0 w15

noncomputable def g_parseState_startListItem.ac (R : EP) : AC :=
  (.seq (.leaf (sel [0] g_parseState_startListItem.body)) (.scope (.seq (.leaf (sel [1, 0, 0] g_parseState_startListItem.body)) (.seq (.leaf (sel [1, 0, 1, 0] g_parseState_startListItem.body)) (.seq (.seq (.leaf (sel [1, 0, 1, 1, 0, 0] g_parseState_startListItem.body)) (.block 0 (.loop (leaf [(2, .s .loc), (5, .s .loc), (6, .s (.int .i64)), (7, .s (.int .i64))] (g_parseState_startListItem.l1 R)) (sel [1, 0, 1, 1, 0, 1, 0, 0] g_parseState_startListItem.body)))) (.mark (leaf [(2, .s .loc), (5, .s .loc), (6, .s (.int .i64))] (g_parseState_startListItem.k1 R)) (.seq (.leaf (sel [1, 0, 1, 1, 1, 0] g_parseState_startListItem.body)) (.seq (.leaf (sel [1, 0, 1, 1, 1, 1, 0] g_parseState_startListItem.body)) (.seq (.leaf (sel [1, 0, 1, 1, 1, 1, 1, 0] g_parseState_startListItem.body)) (.seq (.seq (.leaf (sel [1, 0, 1, 1, 1, 1, 1, 1, 0, 0] g_parseState_startListItem.body)) (.block 2 (.seq (.leaf (sel [1, 0, 1, 1, 1, 1, 1, 1, 0, 1, 0, 0] g_parseState_startListItem.body)) (.mark (leaf [(2, .s .loc), (5, .s .loc), (6, .s (.int .i64)), (8, .s (.int .u8)), (9, .s (.int .i64)), (31, .s (.int .u8)), (32, .s .bool)] (g_parseState_startListItem.k2 R)) (.cond 32 (.leaf (sel [1, 0, 1, 1, 1, 1, 1, 1, 0, 1, 0, 1, 0] g_parseState_startListItem.body)) (.seq (.leaf (sel [1, 0, 1, 1, 1, 1, 1, 1, 0, 1, 0, 1, 1, 0] g_parseState_startListItem.body)) (.mark (leaf [(2, .s .loc), (5, .s .loc), (6, .s (.int .i64)), (9, .s (.int .i64)), (40, .s .bool)] (g_parseState_startListItem.k4 R)) (.cond 40 (.seq (.leaf (sel [1, 0, 1, 1, 1, 1, 1, 1, 0, 1, 0, 1, 1, 1, 0, 0] g_parseState_startListItem.body)) (.block 3 (.loop (leaf [(2, .s .loc), (5, .s .loc), (6, .s (.int .i64)), (9, .s (.int .i64)), (10, .s (.int .i64))] (g_parseState_startListItem.l3 R)) (sel [1, 0, 1, 1, 1, 1, 1, 1, 0, 1, 0, 1, 1, 1, 0, 1, 0, 0] g_parseState_startListItem.body)))) (.leaf (sel [1, 0, 1, 1, 1, 1, 1, 1, 0, 1, 0, 1, 1, 1, 1] g_parseState_startListItem.body)))))))))) (.mark (leaf [(2, .s .loc), (5, .s .loc), (6, .s (.int .i64)), (8, .s (.int .u8)), (9, .s (.int .i64))] (g_parseState_startListItem.k3 R)) (.seq (.leaf (sel [1, 0, 1, 1, 1, 1, 1, 1, 1, 0] g_parseState_startListItem.body)) (.seq (.leaf (sel [1, 0, 1, 1, 1, 1, 1, 1, 1, 1, 0] g_parseState_startListItem.body)) (.seq (.leaf (sel [1, 0, 1, 1, 1, 1, 1, 1, 1, 1, 1, 0] g_parseState_startListItem.body)) (.seq (.leaf (sel [1, 0, 1, 1, 1, 1, 1, 1, 1, 1, 1, 1, 0] g_parseState_startListItem.body)) (.seq (.seq (.leaf (sel [1, 0, 1, 1, 1, 1, 1, 1, 1, 1, 1, 1, 1, 0, 0] g_parseState_startListItem.body)) (.block 5 (.loop (leaf [(2, .s .loc), (5, .s .loc), (6, .s (.int .i64)), (8, .s (.int .u8)), (9, .s (.int .i64)), (12, .s .loc), (13, .s (.int .i64)), (14, .s (.int .i64))] (g_parseState_startListItem.l2 R)) (sel [1, 0, 1, 1, 1, 1, 1, 1, 1, 1, 1, 1, 1, 0, 1, 0, 0] g_parseState_startListItem.body)))) (.mark (leaf [(2, .s .loc), (5, .s .loc), (6, .s (.int .i64)), (8, .s (.int .u8)), (9, .s (.int .i64)), (12, .s .loc), (13, .s (.int .i64))] (g_parseState_startListItem.k6 R)) (.seq (.leaf (sel [1, 0, 1, 1, 1, 1, 1, 1, 1, 1, 1, 1, 1, 1, 0] g_parseState_startListItem.body)) (.mark (leaf [(2, .s .loc), (5, .s .loc), (6, .s (.int .i64)), (8, .s (.int .u8)), (9, .s (.int .i64))] (g_parseState_startListItem.k8 R)) (.seq (.leaf (sel [1, 0, 1, 1, 1, 1, 1, 1, 1, 1, 1, 1, 1, 1, 1, 0] g_parseState_startListItem.body)) (.seq (.leaf (sel [1, 0, 1, 1, 1, 1, 1, 1, 1, 1, 1, 1, 1, 1, 1, 1, 0] g_parseState_startListItem.body)) (.mark (leaf [(2, .s .loc), (5, .s .loc), (6, .s (.int .i64)), (8, .s (.int .u8)), (9, .s (.int .i64)), (15, .s .loc)] (g_parseState_startListItem.k10 R)) (.seq (.seq (.leaf (sel [1, 0, 1, 1, 1, 1, 1, 1, 1, 1, 1, 1, 1, 1, 1, 1, 1, 0, 0] g_parseState_startListItem.body)) (.mark (leaf [(2, .s .loc), (5, .s .loc), (6, .s (.int .i64)), (8, .s (.int .u8)), (9, .s (.int .i64)), (15, .s .loc), (136, .s .bool)] (g_parseState_startListItem.k11 R)) (.cond 136 (.seq (.seq (.leaf (sel [1, 0, 1, 1, 1, 1, 1, 1, 1, 1, 1, 1, 1, 1, 1, 1, 1, 0, 1, 0, 0, 0] g_parseState_startListItem.body)) (.mark (leaf [(2, .s .loc), (5, .s .loc), (6, .s (.int .i64)), (8, .s (.int .u8)), (9, .s (.int .i64)), (15, .s .loc), (158, .s .bool)] (g_parseState_startListItem.k12 R)) (.leaf (sel [1, 0, 1, 1, 1, 1, 1, 1, 1, 1, 1, 1, 1, 1, 1, 1, 1, 0, 1, 0, 0, 1] g_parseState_startListItem.body)))) (.leaf (sel [1, 0, 1, 1, 1, 1, 1, 1, 1, 1, 1, 1, 1, 1, 1, 1, 1, 0, 1, 0, 1] g_parseState_startListItem.body))) (.leaf (sel [1, 0, 1, 1, 1, 1, 1, 1, 1, 1, 1, 1, 1, 1, 1, 1, 1, 0, 1, 1] g_parseState_startListItem.body))))) (.mark (leaf [(2, .s .loc), (5, .s .loc), (6, .s (.int .i64)), (15, .s .loc)] (g_parseState_startListItem.k13 R)) (.seq (.draw (.pure 1 (.load 0 (.two 2 (.pure 3 (.pure 4 (.two 5 (.one 6 (.one 7 .done)) 6 (.one 5 (.one 7 .done))))) 6 (.one 2 (.pure 3 (.pure 4 (.one 5 (.one 7 .done)))))))) (sel [1, 0, 1, 1, 1, 1, 1, 1, 1, 1, 1, 1, 1, 1, 1, 1, 1, 1, 0] g_parseState_startListItem.body)) (.mark (leaf [(2, .s .loc), (5, .s .loc), (15, .s .loc), (18, .s .loc)] (g_parseState_startListItem.k14 R)) (.leaf (sel [1, 0, 1, 1, 1, 1, 1, 1, 1, 1, 1, 1, 1, 1, 1, 1, 1, 1, 1] g_parseState_startListItem.body))))))))))))))))))))))))))))
theorem g_parseState_startListItem.good (R : EP) : Good P 181 (g_parseState_startListItem.ac R) (QF P [.tmp 4] R) :=
  ⟨trivial, ⟨trivial, ⟨trivial, ⟨⟨trivial, (loopG (g_parseState_startListItem.al1 R) (g_parseState_startListItem.bl1 R) (fun _ => by kernel_rfl) (fun Xc => trivial) (fun Xc => by intro x2 x5 x6 x7 ρ w; kernel_rfl) (fun X h _ _ _ _ _ g => g X h))⟩, ⟨⟨trivial, ⟨trivial, ⟨trivial, ⟨⟨trivial, ⟨trivial, ⟨⟨trivial, ⟨trivial, ⟨⟨⟨trivial, (loopG (g_parseState_startListItem.al3 R) (g_parseState_startListItem.bl3 R) (fun _ => by kernel_rfl) (fun Xb => ⟨⟨trivial, ⟨trivial, ⟨⟨trivial, ⟨trivial, cutE (by intro x2 x5 x6 x9 x10 x11 x69 ρ w; kernel_rfl)⟩⟩, ⟨trivial, ⟨trivial, cutE (by intro x2 x5 x6 x9 x10 x11 ρ w; kernel_rfl)⟩⟩⟩⟩⟩, trivial⟩) (fun Xb => by intro x2 x5 x6 x9 x10 ρ w; kernel_rfl) (fun X h _ _ _ _ _ _ g => g X h))⟩, trivial⟩, cutE (by intro x2 x5 x6 x9 x40 ρ w; kernel_rfl)⟩⟩⟩, cutE (by intro x2 x5 x6 x8 x9 x31 x32 ρ w; kernel_rfl)⟩⟩⟩, ⟨⟨trivial, ⟨trivial, ⟨trivial, ⟨trivial, ⟨⟨trivial, (loopG (g_parseState_startListItem.al2 R) (g_parseState_startListItem.bl2 R) (fun _ => by kernel_rfl) (fun Xa => ⟨trivial, ⟨trivial, cutE (by intro x2 x5 x6 x8 x9 x12 x13 x14 ρ w; kernel_rfl)⟩⟩) (fun Xa => by intro x2 x5 x6 x8 x9 x12 x13 x14 ρ w; kernel_rfl) (fun X h _ _ _ _ _ _ _ _ _ g => g X h))⟩, ⟨⟨trivial, ⟨⟨trivial, ⟨trivial, ⟨⟨⟨trivial, ⟨⟨⟨⟨trivial, ⟨trivial, cutE (by intro x2 x5 x6 x8 x9 x15 x158 ρ w; kernel_rfl)⟩⟩, trivial⟩, trivial⟩, cutE (by intro x2 x5 x6 x8 x9 x15 x136 ρ w; kernel_rfl)⟩⟩, ⟨⟨⟨by kernel_rfl, by kernel_rfl, fun _ _ _ h => h⟩, ⟨trivial, cutE (by intro x2 x5 x15 x18 ρ w; kernel_rfl)⟩⟩, cutE (by intro x2 x5 x6 x15 ρ w; kernel_rfl)⟩⟩, cutE (by intro x2 x5 x6 x8 x9 x15 ρ w; kernel_rfl)⟩⟩⟩, cutE (by intro x2 x5 x6 x8 x9 ρ w; kernel_rfl)⟩⟩, cutE (by intro x2 x5 x6 x8 x9 x12 x13 ρ w; kernel_rfl)⟩⟩⟩⟩⟩⟩, cutE (by intro x2 x5 x6 x8 x9 ρ w; kernel_rfl)⟩⟩⟩⟩⟩, cutE (by intro x2 x5 x6 ρ w; kernel_rfl)⟩⟩⟩⟩⟩
theorem g_parseState_startListItem.eq (R : EP) (x0 : OA) (x1 : OA) (w : World) : g_parseState_startListItem R x0 x1 w = vcA P 181 (g_parseState_startListItem.ac R) (QF P [.tmp 4] R) (fr0 [.pointer x0, .pointer x1]) w := by kernel_rfl
theorem g_parseState_startListItem.sound {R : EP} {x0 : OA} {x1 : OA} {w : World} (h : g_parseState_startListItem R x0 x1 w) : callE P i_parseState_startListItem #[.pointer x0, .pointer x1] R w :=
  callE_fin (c := g_parseState_startListItem.body) Tryz.func146 Tryz.call146 (by kernel_rfl) (by kernel_rfl) (by kernel_rfl) (by kernel_rfl) (by kernel_rfl) (g_parseState_startListItem.good R) (g_parseState_startListItem.eq R x0 x1 w) h
namespace g_newHTML
noncomputable def body : Code := bodyOf Tryz.f94
end g_newHTML
def g_newHTML (R : EP) (x0 : OA) (x1_0 : Int) (x1_1 : Int) (x1_2 : Int) (x1_3 : BA) (x1_4 : Int) (w : World) : Prop :=
 box w #[.int .i64 x1_0, .int .i64 x1_1, .int .i64 x1_2, .string x1_3, .int .u8 x1_4] ty_line fun b1 w2 =>
 box w2 #[.int .i64 0, .int .i64 0, .int .i64 0, .string (ByteArray.mk #[]), .int .u8 0] ty_line fun b3 w4 =>
 ∃ (v5 : Int), w4.cell? ⟨b1, 0, none⟩ = some (.int .i64 v5) ∧
 ∃ (v6 : Int), w4.cell? ⟨b1, 1, none⟩ = some (.int .i64 v6) ∧
 ∃ (v7 : Int), w4.cell? ⟨b1, 2, none⟩ = some (.int .i64 v7) ∧
 ∃ (v8 : BA), w4.cell? ⟨b1, 3, none⟩ = some (.string v8) ∧
 ∃ (v9 : Int), w4.cell? ⟨b1, 4, none⟩ = some (.int .u8 v9) ∧
 box w4 #[.int .i64 0, .int .i64 0, .int .i64 0, .string (ByteArray.mk #[]), .int .u8 0] ty_line fun b10 w11 =>
 stV w11 ⟨b10, 0, none⟩ (.int .i64 v5) fun w12 =>
 stV w12 ⟨b10, 1, none⟩ (.int .i64 v6) fun w13 =>
 stV w13 ⟨b10, 2, none⟩ (.int .i64 v7) fun w14 =>
 stV w14 ⟨b10, 3, none⟩ (.string v8) fun w15 =>
 stV w15 ⟨b10, 4, none⟩ (.int .u8 v9) fun w16 =>
 callE P i_parseState_startHTML #[.pointer x0, .pointer (some ⟨b10, 0, none⟩)] (fun e w18 => ∃ (r17 : Bool), e = .returned (.bool r17) ∧
 br r17
 (stV w18 ⟨b3, 0, none⟩ (.int .i64 0) fun w19 =>
 stV w19 ⟨b3, 1, none⟩ (.int .i64 0) fun w20 =>
 stV w20 ⟨b3, 2, none⟩ (.int .i64 0) fun w21 =>
 stV w21 ⟨b3, 3, none⟩ (.string (ByteArray.mk #[])) fun w22 =>
 stV w22 ⟨b3, 4, none⟩ (.int .u8 0) fun w23 =>
 ∃ (v24 : Int), w23.cell? ⟨b3, 0, none⟩ = some (.int .i64 v24) ∧
 ∃ (v25 : Int), w23.cell? ⟨b3, 1, none⟩ = some (.int .i64 v25) ∧
 ∃ (v26 : Int), w23.cell? ⟨b3, 2, none⟩ = some (.int .i64 v26) ∧
 ∃ (v27 : BA), w23.cell? ⟨b3, 3, none⟩ = some (.string v27) ∧
 ∃ (v28 : Int), w23.cell? ⟨b3, 4, none⟩ = some (.int .u8 v28) ∧
 R (.returned (.tuple #[.agg #[.int .i64 v24, .int .i64 v25, .int .i64 v26, .string v27, .int .u8 v28], .bool true])) w23)
 (∃ (v29 : Int), w18.cell? ⟨b1, 0, none⟩ = some (.int .i64 v29) ∧
 ∃ (v30 : Int), w18.cell? ⟨b1, 1, none⟩ = some (.int .i64 v30) ∧
 ∃ (v31 : Int), w18.cell? ⟨b1, 2, none⟩ = some (.int .i64 v31) ∧
 ∃ (v32 : BA), w18.cell? ⟨b1, 3, none⟩ = some (.string v32) ∧
 ∃ (v33 : Int), w18.cell? ⟨b1, 4, none⟩ = some (.int .u8 v33) ∧
 stV w18 ⟨b3, 0, none⟩ (.int .i64 v29) fun w34 =>
 stV w34 ⟨b3, 1, none⟩ (.int .i64 v30) fun w35 =>
 stV w35 ⟨b3, 2, none⟩ (.int .i64 v31) fun w36 =>
 stV w36 ⟨b3, 3, none⟩ (.string v32) fun w37 =>
 stV w37 ⟨b3, 4, none⟩ (.int .u8 v33) fun w38 =>
 ∃ (v39 : Int), w38.cell? ⟨b3, 0, none⟩ = some (.int .i64 v39) ∧
 ∃ (v40 : Int), w38.cell? ⟨b3, 1, none⟩ = some (.int .i64 v40) ∧
 ∃ (v41 : Int), w38.cell? ⟨b3, 2, none⟩ = some (.int .i64 v41) ∧
 ∃ (v42 : BA), w38.cell? ⟨b3, 3, none⟩ = some (.string v42) ∧
 ∃ (v43 : Int), w38.cell? ⟨b3, 4, none⟩ = some (.int .u8 v43) ∧
 R (.returned (.tuple #[.agg #[.int .i64 v39, .int .i64 v40, .int .i64 v41, .string v42, .int .u8 v43], .bool false])) w38)) w16

noncomputable def g_newHTML.ac (R : EP) : AC :=
  (.leaf (sel [] g_newHTML.body))
theorem g_newHTML.good (R : EP) : Good P 12 (g_newHTML.ac R) (QF P [.cell 4 107, .tmp 5] R) :=
  trivial
theorem g_newHTML.eq (R : EP) (x0 : OA) (x1_0 : Int) (x1_1 : Int) (x1_2 : Int) (x1_3 : BA) (x1_4 : Int) (w : World) : g_newHTML R x0 x1_0 x1_1 x1_2 x1_3 x1_4 w = vcA P 12 (g_newHTML.ac R) (QF P [.cell 4 107, .tmp 5] R) (fr0 [.pointer x0, .agg #[.int .i64 x1_0, .int .i64 x1_1, .int .i64 x1_2, .string x1_3, .int .u8 x1_4]]) w := by kernel_rfl
theorem g_newHTML.sound {R : EP} {x0 : OA} {x1_0 : Int} {x1_1 : Int} {x1_2 : Int} {x1_3 : ByteArray} {x1_4 : Int} {w : World} (h : g_newHTML R x0 x1_0 x1_1 x1_2 x1_3 x1_4 w) : callE P i_newHTML #[.pointer x0, .agg #[.int .i64 x1_0, .int .i64 x1_1, .int .i64 x1_2, .string x1_3, .int .u8 x1_4]] R w :=
  callE_fin (c := g_newHTML.body) Tryz.func94 Tryz.call94 (by kernel_rfl) (by kernel_rfl) (by kernel_rfl) (by kernel_rfl) (by kernel_rfl) (g_newHTML.good R) (g_newHTML.eq R x0 x1_0 x1_1 x1_2 x1_3 x1_4 w) h
namespace g_parseState_para
noncomputable def body : Code := bodyOf Tryz.f97
end g_parseState_para
def g_parseState_para (R : EP) (x0 : OA) (w : World) : Prop :=
 tk w fun w1 =>
 nilP x0 fun a2 =>
 nilP x0 fun a3 =>
 ∃ (v4q : OA), ∃ (v4n : Nat), ∃ (v4c : Nat), w1.cell? (a2.add 4) = some (.slice v4q v4n v4c) ∧
 ∃ (v5q : OA), ∃ (v5n : Nat), ∃ (v5c : Nat), w1.cell? (a3.add 4) = some (.slice v5q v5n v5c) ∧
 0 ≤ (IntKind.i64.wrap ((v5n : Int) - 1)) ∧ (IntKind.i64.wrap ((v5n : Int) - 1)) < (v4n : Int) ∧
 nilP v4q fun a6 =>
 ∃ (v7 : Value), w1.cell? (a6.add (Int.toNat (IntKind.i64.wrap ((v5n : Int) - 1)) * 4)) = some v7 ∧
 ∃ (r8_0 : OA), ∃ (r8_1 : Bool), (∀ w, (Instr.typeAssert v7 ty_blockBuilder ty_P_paraBuilder true).run P w = .ok (.tuple #[.pointer r8_0, .bool r8_1]) w) ∧
 br r8_1
 (R (.returned (.pointer r8_0)) w1)
 (R (.returned (.pointer none)) w1)

noncomputable def g_parseState_para.ac (R : EP) : AC :=
  (.seq (.leaf (sel [0] g_parseState_para.body)) (.seq (.seq (.draw (.pure 0 (.pure 1 (.pure 2 (.pure 4 (.pure 5 (.pure 6 (.load 3 (.load 7 (.pure 8 (.pure 9 (.pure 10 (.pure 11 (.load 12 (.pure 13 (.pure 14 (.pure 15 (.pure 16 (.pure 17 (.pure 18 .done))))))))))))))))))) (sel [1, 0, 0] g_parseState_para.body)) (.leaf (sel [1, 0, 1] g_parseState_para.body))) (.leaf (sel [1, 1] g_parseState_para.body))))
theorem g_parseState_para.good (R : EP) : Good P 24 (g_parseState_para.ac R) (QF P [.tmp 2] R) :=
  ⟨trivial, ⟨⟨⟨by kernel_rfl, by kernel_rfl, fun _ _ _ h => h⟩, trivial⟩, trivial⟩⟩
theorem g_parseState_para.eq (R : EP) (x0 : OA) (w : World) : g_parseState_para R x0 w = vcA P 24 (g_parseState_para.ac R) (QF P [.tmp 2] R) (fr0 [.pointer x0]) w := by kernel_rfl
theorem g_parseState_para.sound {R : EP} {x0 : OA} {w : World} (h : g_parseState_para R x0 w) : callE P i_parseState_para #[.pointer x0] R w :=
  callE_fin (c := g_parseState_para.body) Tryz.func97 Tryz.call97 (by kernel_rfl) (by kernel_rfl) (by kernel_rfl) (by kernel_rfl) (by kernel_rfl) (g_parseState_para.good R) (g_parseState_para.eq R x0 w) h
namespace g_parseState_startHTML
noncomputable def body : Code := bodyOf Tryz.f147
def k10 (R : EP) (Xa : OA → OA → BA → Int → OA → Nat → Nat → WP) (x0 : OA) (x1 : OA) (x6 : BA) (x9 : Int) (x10q : OA) (x10n : Nat) (x10c : Nat) (x11 : Int) (w : World) : Prop :=
 ∃ (r64q : OA), ∃ (r64n : Nat), ∃ (r64c : Nat), ∃ w65, (Instr.buildSlice ty_S_uint8 1 #[(0, .int .u8 x11)]).run P w = .ok (.slice r64q r64n r64c) w65 ∧
 ∃ (r66q : OA), ∃ (r66n : Nat), ∃ (r66c : Nat), ∃ w67, (Builtin.append_ #[ty_S_uint8, ty_S_uint8] ty_S_uint8 #[.slice x10q x10n x10c, .slice r64q r64n r64c]).run P w65 = .ok (.slice r66q r66n r66c) w67 ∧
 Xa x0 x1 x6 (IntKind.i64.wrap (x9 + 1)) r66q r66n r66c w67

def k14 (R : EP) (x0 : OA) (x1 : OA) (w : World) : Prop :=
 box w #[.bool true, .slice none 0 0, .nilFunc] ty_htmlBuilder fun b76 w77 =>
 callE P i_parseState_addBlock #[.pointer x0, .iface ty_P_htmlBuilder (.pointer (some ⟨b76, 0, none⟩))] (fun e w79 => e = .returned (.tuple #[]) ∧
 tk w79 fun w80 =>
 ∃ (v81q : OA), ∃ (v81n : Nat), ∃ (v81c : Nat), w80.cell? ⟨b76, 1, none⟩ = some (.slice v81q v81n v81c) ∧
 callE P i_line_string #[.pointer x1] (fun e w83 => ∃ (r82 : BA), e = .returned (.string r82) ∧
 SameC w80 w83 ⟨b76, 1, none⟩ 1 ∧
 ∃ (r84q : OA), ∃ (r84n : Nat), ∃ (r84c : Nat), ∃ w85, (Instr.buildSlice ty_S_string 1 #[(0, .string r82)]).run P w83 = .ok (.slice r84q r84n r84c) w85 ∧
 SameC w83 w85 ⟨b76, 1, none⟩ 1 ∧
 ∃ (r86q : OA), ∃ (r86n : Nat), ∃ (r86c : Nat), ∃ w87, (Builtin.append_ #[ty_S_string, ty_S_string] ty_S_string #[.slice v81q v81n v81c, .slice r84q r84n r84c]).run P w85 = .ok (.slice r86q r86n r86c) w87 ∧
 stV w87 ⟨b76, 1, none⟩ (.slice r86q r86n r86c) fun w88 =>
 R (.returned (.bool true)) w88) w80) w77

def k18 (R : EP) (x0 : OA) (x1 : OA) (w : World) : Prop :=
 box w #[.bool true, .slice none 0 0, .nilFunc] ty_htmlBuilder fun b120 w121 =>
 callE P i_parseState_addBlock #[.pointer x0, .iface ty_P_htmlBuilder (.pointer (some ⟨b120, 0, none⟩))] (fun e w123 => e = .returned (.tuple #[]) ∧
 tk w123 fun w124 =>
 ∃ (v125q : OA), ∃ (v125n : Nat), ∃ (v125c : Nat), w124.cell? ⟨b120, 1, none⟩ = some (.slice v125q v125n v125c) ∧
 callE P i_line_string #[.pointer x1] (fun e w127 => ∃ (r126 : BA), e = .returned (.string r126) ∧
 SameC w124 w127 ⟨b120, 1, none⟩ 1 ∧
 ∃ (r128q : OA), ∃ (r128n : Nat), ∃ (r128c : Nat), ∃ w129, (Instr.buildSlice ty_S_string 1 #[(0, .string r126)]).run P w127 = .ok (.slice r128q r128n r128c) w129 ∧
 SameC w127 w129 ⟨b120, 1, none⟩ 1 ∧
 ∃ (r130q : OA), ∃ (r130n : Nat), ∃ (r130c : Nat), ∃ w131, (Builtin.append_ #[ty_S_string, ty_S_string] ty_S_string #[.slice v125q v125n v125c, .slice r128q r128n r128c]).run P w129 = .ok (.slice r130q r130n r130c) w131 ∧
 stV w131 ⟨b120, 1, none⟩ (.slice r130q r130n r130c) fun w132 =>
 R (.returned (.bool true)) w132) w124) w121

def k19 (R : EP) (x0 : OA) (x1 : OA) (x350 : Bool) (w : World) : Prop :=
 br x350
 (box w #[.bool true, .slice none 0 0, .nilFunc] ty_htmlBuilder fun b133 w134 =>
 callE P i_parseState_addBlock #[.pointer x0, .iface ty_P_htmlBuilder (.pointer (some ⟨b133, 0, none⟩))] (fun e w136 => e = .returned (.tuple #[]) ∧
 tk w136 fun w137 =>
 ∃ (v138q : OA), ∃ (v138n : Nat), ∃ (v138c : Nat), w137.cell? ⟨b133, 1, none⟩ = some (.slice v138q v138n v138c) ∧
 callE P i_line_string #[.pointer x1] (fun e w140 => ∃ (r139 : BA), e = .returned (.string r139) ∧
 SameC w137 w140 ⟨b133, 1, none⟩ 1 ∧
 ∃ (r141q : OA), ∃ (r141n : Nat), ∃ (r141c : Nat), ∃ w142, (Instr.buildSlice ty_S_string 1 #[(0, .string r139)]).run P w140 = .ok (.slice r141q r141n r141c) w142 ∧
 SameC w140 w142 ⟨b133, 1, none⟩ 1 ∧
 ∃ (r143q : OA), ∃ (r143n : Nat), ∃ (r143c : Nat), ∃ w144, (Builtin.append_ #[ty_S_string, ty_S_string] ty_S_string #[.slice v138q v138n v138c, .slice r141q r141n r141c]).run P w142 = .ok (.slice r143q r143n r143c) w144 ∧
 stV w144 ⟨b133, 1, none⟩ (.slice r143q r143n r143c) fun w145 =>
 R (.returned (.bool true)) w145) w137) w134)
 (R (.returned (.bool false)) w)

def k13 (R : EP) (Xb : OA → OA → BA → Int → OA → Nat → Nat → Int → Int → Bool → OA → Nat → Nat → Int → Int → WP) (x0 : OA) (x1 : OA) (x6 : BA) (x9 : Int) (x10q : OA) (x10n : Nat) (x10c : Nat) (x12 : Int) (x13 : Int) (x14 : Bool) (x184q : OA) (x184n : Nat) (x184c : Nat) (x185 : Int) (x186 : Int) (x206 : Bool) (w : World) : Prop :=
 br x206
 (br (x12 == 9)
 (nilP x0 fun a74 =>
 stV w ((a74.add 6).add 0) (.bool true) fun w75 =>
 k14 R x0 x1 w75)
 (k14 R x0 x1 w))
 (Xb x0 x1 x6 x9 x10q x10n x10c x12 x13 x14 x184q x184n x184c x185 (IntKind.i64.wrap (x186 + 1)) w)

def k17 (R : EP) (x0 : OA) (x1 : OA) (x6 : BA) (x20 : Int) (x310 : Bool) (w : World) : Prop :=
 br x310
 (br (x20 != (x6.size : Int))
 (nilP x0 fun a114 =>
 stV w ((a114.add 6).add 0) (.bool true) fun w115 =>
 k18 R x0 x1 w115)
 (k18 R x0 x1 w))
 (callE P i_parseHTMLClosingTag #[.pointer x0, .string x6, .int .i64 0] (fun e w117 => ∃ (r116_0 : Value), ∃ (r116_1 : Int), ∃ (r116_2 : Bool), e = .returned (.tuple #[r116_0, .int .i64 r116_1, .bool r116_2]) ∧
 br r116_2
 (callE P i_skipSpace #[.string x6, .int .i64 r116_1] (fun e w119 => ∃ (r118 : Int), e = .returned (.int .i64 r118) ∧
 k19 R x0 x1 (r118 == (x6.size : Int)) w119) w117)
 (k19 R x0 x1 false w117)) w)

def k16 (R : EP) (x0 : OA) (x1 : OA) (x6 : BA) (w : World) : Prop :=
 callE P i_parseState_para #[.pointer x0] (fun e w107 => ∃ (r106 : OA), e = .returned (.pointer r106) ∧
 ∃ (r108 : Bool), ∃ w109, (do eqGuard .eql ty_P_paraBuilder (.tmp 293) (.const (.pointer none)) (.pointer r106) (.pointer none); binOp .eql ty_P_paraBuilder (.pointer r106) (.pointer none)).run P w107 = .ok (.bool r108) w109 ∧
 br r108
 (callE P i_parseHTMLOpenTag #[.pointer x0, .string x6, .int .i64 0] (fun e w111 => ∃ (r110_0 : Value), ∃ (r110_1 : Int), ∃ (r110_2 : Bool), e = .returned (.tuple #[r110_0, .int .i64 r110_1, .bool r110_2]) ∧
 br r110_2
 (callE P i_skipSpace #[.string x6, .int .i64 r110_1] (fun e w113 => ∃ (r112 : Int), e = .returned (.int .i64 r112) ∧
 k17 R x0 x1 x6 r110_1 (r112 == (x6.size : Int)) w113) w111)
 (k17 R x0 x1 x6 r110_1 false w111)) w109)
 (R (.returned (.bool false)) w109)) w

def k15 (R : EP) (x0 : OA) (x1 : OA) (x6 : BA) (x266 : Bool) (w : World) : Prop :=
 br x266
 (box w #[.bool false, .slice none 0 0, .func (.func i_hasEndPre) #[] #[]] ty_htmlBuilder fun b89 w90 =>
 callE P i_parseState_addBlock #[.pointer x0, .iface ty_P_htmlBuilder (.pointer (some ⟨b89, 0, none⟩))] (fun e w92 => e = .returned (.tuple #[]) ∧
 tk w92 fun w93 =>
 ∃ (v94q : OA), ∃ (v94n : Nat), ∃ (v94c : Nat), w93.cell? ⟨b89, 1, none⟩ = some (.slice v94q v94n v94c) ∧
 callE P i_line_string #[.pointer x1] (fun e w96 => ∃ (r95 : BA), e = .returned (.string r95) ∧
 SameC w93 w96 ⟨b89, 1, none⟩ 1 ∧
 ∃ (r97q : OA), ∃ (r97n : Nat), ∃ (r97c : Nat), ∃ w98, (Instr.buildSlice ty_S_string 1 #[(0, .string r95)]).run P w96 = .ok (.slice r97q r97n r97c) w98 ∧
 SameC w96 w98 ⟨b89, 1, none⟩ 1 ∧
 ∃ (r99q : OA), ∃ (r99n : Nat), ∃ (r99c : Nat), ∃ w100, (Builtin.append_ #[ty_S_string, ty_S_string] ty_S_string #[.slice v94q v94n v94c, .slice r97q r97n r97c]).run P w98 = .ok (.slice r99q r99n r99c) w100 ∧
 stV w100 ⟨b89, 1, none⟩ (.slice r99q r99n r99c) fun w101 =>
 callE P i_hasEndPre #[.string x6] (fun e w103 => ∃ (r102 : Bool), e = .returned (.bool r102) ∧
 br r102
 (callE P i_parseState_closeBlock #[.pointer x0] (fun e w105 => ∃ (r104 : Value), e = .returned r104 ∧
 R (.returned (.bool true)) w105) w103)
 (R (.returned (.bool true)) w103)) w101) w93) w90)
 (k16 R x0 x1 x6 w)

def k12 (R : EP) (x0 : OA) (x1 : OA) (x6 : BA) (x10q : OA) (x10n : Nat) (x10c : Nat) (x263 : Bool) (w : World) : Prop :=
 br x263
 (∃ (r72 : BA), ∃ w73, (convert ty_S_uint8 ty_string (.slice x10q x10n x10c)).run P w = .ok (.string r72) w73 ∧
 br (r72.toList == (ByteArray.mk #[112, 114, 101]).toList)
 (k15 R x0 x1 x6 true w73)
 (br (r72.toList == (ByteArray.mk #[115, 99, 114, 105, 112, 116]).toList)
 (k15 R x0 x1 x6 true w73)
 (br (r72.toList == (ByteArray.mk #[115, 116, 121, 108, 101]).toList)
 (k15 R x0 x1 x6 true w73)
 (k15 R x0 x1 x6 (r72.toList == (ByteArray.mk #[116, 101, 120, 116, 97, 114, 101, 97]).toList) w73))))
 (k16 R x0 x1 x6 w)

def k11 (R : EP) (x0 : OA) (x1 : OA) (x6 : BA) (x9 : Int) (x10q : OA) (x10n : Nat) (x10c : Nat) (w : World) : Prop :=
 ((decide ((x6.size : Int) > 1)) = true → 0 ≤ (1 : Int) ∧ 1 < (x6.size : Int)) ∧
 ((((decide ((x6.size : Int) > 1)) && ((bt x6 1) != 47)) && (!(decide (x9 ≥ (x6.size : Int))))) = true → 0 ≤ x9 ∧ x9 < (x6.size : Int)) ∧
 ((((decide ((x6.size : Int) > 1)) && ((bt x6 1) != 47)) && (!((decide (x9 ≥ (x6.size : Int))) || ((bt x6 x9) == 32)))) = true → 0 ≤ x9 ∧ x9 < (x6.size : Int)) ∧
 ((((decide ((x6.size : Int) > 1)) && ((bt x6 1) != 47)) && (!(((decide (x9 ≥ (x6.size : Int))) || ((bt x6 x9) == 32)) || ((bt x6 x9) == 9)))) = true → 0 ≤ x9 ∧ x9 < (x6.size : Int)) ∧
 k12 R x0 x1 x6 x10q x10n x10c (((decide ((x6.size : Int) > 1)) && ((bt x6 1) != 47)) && ((((decide (x9 ≥ (x6.size : Int))) || ((bt x6 x9) == 32)) || ((bt x6 x9) == 9)) || ((bt x6 x9) == 62))) w

def bl2 (R : EP) (Xb : OA → OA → BA → Int → OA → Nat → Nat → Int → Int → Bool → OA → Nat → Nat → Int → Int → WP) (x0 : OA) (x1 : OA) (x6 : BA) (x9 : Int) (x10q : OA) (x10n : Nat) (x10c : Nat) (x12 : Int) (x13 : Int) (x14 : Bool) (x184q : OA) (x184n : Nat) (x184c : Nat) (x185 : Int) (x186 : Int) (w : World) : Prop :=
 br (decide (x186 < x185))
 (0 ≤ x186 ∧ x186 < (x184n : Int) ∧
 nilP x184q fun a68 =>
 ∃ (v69 : BA), w.cell? (a68.add (Int.toNat x186 * 1)) = some (.string v69) ∧
 0 ≤ (0 : Int) ∧ 0 < (v69.size : Int) ∧
 br (((bt v69 0) == x13) && ((v69.size : Int) == (x10n : Int)))
 (∃ (r70 : BA), ∃ w71, (convert ty_S_uint8 ty_string (.slice x10q x10n x10c)).run P w = .ok (.string r70) w71 ∧
 k13 R Xb x0 x1 x6 x9 x10q x10n x10c x12 x13 x14 x184q x184n x184c x185 x186 (v69.toList == r70.toList) w71)
 (k13 R Xb x0 x1 x6 x9 x10q x10n x10c x12 x13 x14 x184q x184n x184c x185 x186 false w))
 (br (!x14)
 (k11 R x0 x1 x6 x9 x10q x10n x10c w)
 (k14 R x0 x1 w))
def l2 (R : EP) (x0 : OA) (x1 : OA) (x6 : BA) (x9 : Int) (x10q : OA) (x10n : Nat) (x10c : Nat) (x12 : Int) (x13 : Int) (x14 : Bool) (x184q : OA) (x184n : Nat) (x184c : Nat) (x185 : Int) (x186 : Int) (w : World) : Prop :=
  ∀ X : OA → OA → BA → Int → OA → Nat → Nat → Int → Int → Bool → OA → Nat → Nat → Int → Int → WP, (∀ x0 x1 x6 x9 x10q x10n x10c x12 x13 x14 x184q x184n x184c x185 x186 w, bl2 R X x0 x1 x6 x9 x10q x10n x10c x12 x13 x14 x184q x184n x184c x185 x186 w → X x0 x1 x6 x9 x10q x10n x10c x12 x13 x14 x184q x184n x184c x185 x186 w) → X x0 x1 x6 x9 x10q x10n x10c x12 x13 x14 x184q x184n x184c x185 x186 w

noncomputable def al2 (R : EP) (Xb : OA → OA → BA → Int → OA → Nat → Nat → Int → Int → Bool → OA → Nat → Nat → Int → Int → WP) : AC :=
  (.seq (.leaf (sel [1, 0, 1, 1, 1, 1, 1, 1, 1, 1, 1, 1, 1, 1, 1, 1, 0, 1, 1, 0, 1, 0, 0, 0] body)) (.seq (.leaf (sel [1, 0, 1, 1, 1, 1, 1, 1, 1, 1, 1, 1, 1, 1, 1, 1, 0, 1, 1, 0, 1, 0, 0, 1, 0] body)) (.seq (.block 5 (.seq (.leaf (sel [1, 0, 1, 1, 1, 1, 1, 1, 1, 1, 1, 1, 1, 1, 1, 1, 0, 1, 1, 0, 1, 0, 0, 1, 1, 0, 0, 0] body)) (.seq (.leaf (sel [1, 0, 1, 1, 1, 1, 1, 1, 1, 1, 1, 1, 1, 1, 1, 1, 0, 1, 1, 0, 1, 0, 0, 1, 1, 0, 0, 1, 0] body)) (.mark (leaf [(0, .s .ptr), (1, .s .ptr), (6, .s .str), (9, .s (.int .i64)), (10, .s .slice), (12, .s (.int .u8)), (13, .s (.int .u8)), (14, .s .bool), (184, .s .slice), (185, .s (.int .i64)), (186, .s (.int .i64)), (206, .s .bool)] (k13 R Xb)) (.leaf (sel [1, 0, 1, 1, 1, 1, 1, 1, 1, 1, 1, 1, 1, 1, 1, 1, 0, 1, 1, 0, 1, 0, 0, 1, 1, 0, 0, 1, 1] body)))))) (.leaf (sel [1, 0, 1, 1, 1, 1, 1, 1, 1, 1, 1, 1, 1, 1, 1, 1, 0, 1, 1, 0, 1, 0, 0, 1, 1, 1] body)))))
def k9 (R : EP) (x0 : OA) (x1 : OA) (x6 : BA) (x9 : Int) (x10q : OA) (x10n : Nat) (x10c : Nat) (x12 : Int) (w : World) : Prop :=
 br ((x10n : Int) == 0)
 (k11 R x0 x1 x6 x9 x10q x10n x10c w)
 (0 ≤ (0 : Int) ∧ 0 < (x10n : Int) ∧
 nilP x10q fun a60 =>
 ∃ (v61 : Int), w.cell? (a60.add (Int.toNat 0 * 1)) = some (.int .u8 v61) ∧
 callE P i_htmlTags #[] (fun e w63 => ∃ (r62q : OA), ∃ (r62n : Nat), ∃ (r62c : Nat), e = .returned (.slice r62q r62n r62c) ∧
 l2 R x0 x1 x6 x9 x10q x10n x10c x12 v61 false r62q r62n r62c (r62n : Int) 0 w63) w)

def k8 (R : EP) (x0 : OA) (x1 : OA) (x6 : BA) (x9 : Int) (x10q : OA) (x10n : Nat) (x10c : Nat) (x12 : Int) (x156 : Int) (x157 : Bool) (w : World) : Prop :=
 br x157
 (0 ≤ x9 ∧ x9 < (x6.size : Int) ∧
 k9 R x0 x1 x6 x9 x10q x10n x10c (bt x6 x9) w)
 (br (x156 == 47)
 (((!(decide ((IntKind.i64.wrap (x9 + 1)) ≥ (x6.size : Int)))) = true → 0 ≤ (IntKind.i64.wrap (x9 + 1)) ∧ (IntKind.i64.wrap (x9 + 1)) < (x6.size : Int)) ∧
 br ((decide ((IntKind.i64.wrap (x9 + 1)) ≥ (x6.size : Int))) || ((bt x6 (IntKind.i64.wrap (x9 + 1))) != 62))
 (k11 R x0 x1 x6 x9 x10q x10n x10c w)
 (k9 R x0 x1 x6 x9 x10q x10n x10c x12 w))
 (k11 R x0 x1 x6 x9 x10q x10n x10c w))

def k6 (R : EP) (x0 : OA) (x1 : OA) (x6 : BA) (x9 : Int) (x10q : OA) (x10n : Nat) (x10c : Nat) (w : World) : Prop :=
 br (decide (x9 < (x6.size : Int)))
 (0 ≤ x9 ∧ x9 < (x6.size : Int) ∧
 br ((bt x6 x9) == 32)
 (k8 R x0 x1 x6 x9 x10q x10n x10c 0 (bt x6 x9) true w)
 (br ((bt x6 x9) == 9)
 (k8 R x0 x1 x6 x9 x10q x10n x10c 0 (bt x6 x9) true w)
 (k8 R x0 x1 x6 x9 x10q x10n x10c 0 (bt x6 x9) ((bt x6 x9) == 62) w)))
 (k9 R x0 x1 x6 x9 x10q x10n x10c 0 w)

def k7 (R : EP) (Xa : OA → OA → BA → Int → OA → Nat → Nat → WP) (x0 : OA) (x1 : OA) (x6 : BA) (x9 : Int) (x10q : OA) (x10n : Nat) (x10c : Nat) (x11 : Int) (w : World) : Prop :=
 br ((!((decide (97 ≤ x11)) && (decide (x11 ≤ 122)))) && (!((decide (48 ≤ x11)) && (decide (x11 ≤ 57)))))
 (k6 R x0 x1 x6 x9 x10q x10n x10c w)
 (k10 R Xa x0 x1 x6 x9 x10q x10n x10c x11 w)

def k5 (R : EP) (Xa : OA → OA → BA → Int → OA → Nat → Nat → WP) (x0 : OA) (x1 : OA) (x6 : BA) (x9 : Int) (x10q : OA) (x10n : Nat) (x10c : Nat) (w : World) : Prop :=
 0 ≤ x9 ∧ x9 < (x6.size : Int) ∧
 br ((decide (65 ≤ (bt x6 x9))) && (decide ((bt x6 x9) ≤ 90)))
 (k7 R Xa x0 x1 x6 x9 x10q x10n x10c (IntKind.u8.wrap ((bt x6 x9) + 32)) w)
 (k7 R Xa x0 x1 x6 x9 x10q x10n x10c (bt x6 x9) w)

def bl1 (R : EP) (Xa : OA → OA → BA → Int → OA → Nat → Nat → WP) (x0 : OA) (x1 : OA) (x6 : BA) (x9 : Int) (x10q : OA) (x10n : Nat) (x10c : Nat) (w : World) : Prop :=
 br ((decide (x9 < (x6.size : Int))) && (decide ((x10n : Int) < 16)))
 (k5 R Xa x0 x1 x6 x9 x10q x10n x10c w)
 (k6 R x0 x1 x6 x9 x10q x10n x10c w)
def l1 (R : EP) (x0 : OA) (x1 : OA) (x6 : BA) (x9 : Int) (x10q : OA) (x10n : Nat) (x10c : Nat) (w : World) : Prop :=
  ∀ X : OA → OA → BA → Int → OA → Nat → Nat → WP, (∀ x0 x1 x6 x9 x10q x10n x10c w, bl1 R X x0 x1 x6 x9 x10q x10n x10c w → X x0 x1 x6 x9 x10q x10n x10c w) → X x0 x1 x6 x9 x10q x10n x10c w

noncomputable def al1 (R : EP) (Xa : OA → OA → BA → Int → OA → Nat → Nat → WP) : AC :=
  (.seq (.leaf (sel [1, 0, 1, 1, 1, 1, 1, 1, 1, 1, 1, 1, 0, 0, 0, 0] body)) (.mark (leaf [(0, .s .ptr), (1, .s .ptr), (6, .s .str), (9, .s (.int .i64)), (10, .s .slice)] (k5 R Xa)) (.seq (.block 2 (.seq (.leaf (sel [1, 0, 1, 1, 1, 1, 1, 1, 1, 1, 1, 1, 0, 0, 0, 1, 0, 0, 0] body)) (.seq (.leaf (sel [1, 0, 1, 1, 1, 1, 1, 1, 1, 1, 1, 1, 0, 0, 0, 1, 0, 0, 1, 0] body)) (.mark (leaf [(0, .s .ptr), (1, .s .ptr), (6, .s .str), (9, .s (.int .i64)), (10, .s .slice), (11, .s (.int .u8))] (k7 R Xa)) (.seq (.leaf (sel [1, 0, 1, 1, 1, 1, 1, 1, 1, 1, 1, 1, 0, 0, 0, 1, 0, 0, 1, 1, 0] body)) (.mark (leaf [(0, .s .ptr), (1, .s .ptr), (6, .s .str), (9, .s (.int .i64)), (10, .s .slice), (11, .s (.int .u8))] (k10 R Xa)) (.leaf (sel [1, 0, 1, 1, 1, 1, 1, 1, 1, 1, 1, 1, 0, 0, 0, 1, 0, 0, 1, 1, 1] body)))))))) (.leaf (sel [1, 0, 1, 1, 1, 1, 1, 1, 1, 1, 1, 1, 0, 0, 0, 1, 1] body)))))
def k3 (R : EP) (x0 : OA) (x1 : OA) (x6 : BA) (x9 : Int) (w : World) : Prop :=
 ∃ (r54q : OA), ∃ (r54n : Nat), ∃ (r54c : Nat), ∃ w55, (Instr.makeSlice ty_S_uint8 (.int .i64 0) (.int .i64 16)).run P w = .ok (.slice r54q r54n r54c) w55 ∧
 l1 R x0 x1 x6 x9 r54q r54n r54c w55

def k1 (R : EP) (x0 : OA) (x1 : OA) (x6 : BA) (x7 : Nat) (w : World) : Prop :=
 ∃ (v35 : BA), w.cell? ⟨x7, 0, none⟩ = some (.string v35) ∧
 br (!(v35.toList == (ByteArray.mk #[]).toList))
 (box w #[.bool false, .slice none 0 0, .func (.func i_parseState_startHTML_1) #[] #[.pointer (some ⟨x7, 0, none⟩)]] ty_htmlBuilder fun b36 w37 =>
 callE P i_parseState_addBlock #[.pointer x0, .iface ty_P_htmlBuilder (.pointer (some ⟨b36, 0, none⟩))] (fun e w39 => e = .returned (.tuple #[]) ∧
 tk w39 fun w40 =>
 ∃ (v41q : OA), ∃ (v41n : Nat), ∃ (v41c : Nat), w40.cell? ⟨b36, 1, none⟩ = some (.slice v41q v41n v41c) ∧
 callE P i_line_string #[.pointer x1] (fun e w43 => ∃ (r42 : BA), e = .returned (.string r42) ∧
 SameC w40 w43 ⟨b36, 1, none⟩ 1 ∧
 ∃ (r44q : OA), ∃ (r44n : Nat), ∃ (r44c : Nat), ∃ w45, (Instr.buildSlice ty_S_string 1 #[(0, .string r42)]).run P w43 = .ok (.slice r44q r44n r44c) w45 ∧
 SameC w43 w45 ⟨b36, 1, none⟩ 1 ∧
 ∃ (r46q : OA), ∃ (r46n : Nat), ∃ (r46c : Nat), ∃ w47, (Builtin.append_ #[ty_S_string, ty_S_string] ty_S_string #[.slice v41q v41n v41c, .slice r44q r44n r44c]).run P w45 = .ok (.slice r46q r46n r46c) w47 ∧
 stV w47 ⟨b36, 1, none⟩ (.slice r46q r46n r46c) fun w48 =>
 ∃ (v49 : Value), w48.cell? ⟨b36, 2, none⟩ = some v49 ∧
 enterE P (do let d ← Deferred.ofValue v49 #[.string x6]; invoke d.target d.args) (fun e w51 => ∃ (r50 : Bool), e = .returned (.bool r50) ∧
 br r50
 (callE P i_parseState_closeBlock #[.pointer x0] (fun e w53 => ∃ (r52 : Value), e = .returned r52 ∧
 R (.returned (.bool true)) w53) w51)
 (R (.returned (.bool true)) w51)) w48) w40) w37)
 (((decide (1 < (x6.size : Int))) = true → 0 ≤ (1 : Int) ∧ 1 < (x6.size : Int)) ∧
 br ((decide (1 < (x6.size : Int))) && ((bt x6 1) == 47))
 (k3 R x0 x1 x6 (IntKind.i64.wrap (1 + 1)) w)
 (k3 R x0 x1 x6 1 w))

def k4 (R : EP) (x0 : OA) (x1 : OA) (x6 : BA) (x7 : Nat) (x63 : Bool) (w : World) : Prop :=
 br x63
 (nilP x0 fun a56 =>
 stV w ((a56.add 6).add 0) (.bool true) fun w57 =>
 stV w57 ⟨x7, 0, none⟩ (.string (ByteArray.mk #[62])) fun w58 =>
 k1 R x0 x1 x6 x7 w58)
 (stV w ⟨x7, 0, none⟩ (.string (ByteArray.mk #[62])) fun w59 =>
 k1 R x0 x1 x6 x7 w59)

def k2 (R : EP) (x0 : OA) (x1 : OA) (x6 : BA) (x7 : Nat) (x43 : Bool) (w : World) : Prop :=
 br x43
 (0 ≤ (2 : Int) ∧ 2 < (x6.size : Int) ∧
 ((decide (97 ≤ (bt x6 2))) = true → 0 ≤ (2 : Int) ∧ 2 < (x6.size : Int)) ∧
 k4 R x0 x1 x6 x7 ((decide (97 ≤ (bt x6 2))) && (decide ((bt x6 2) ≤ 122))) w)
 (k1 R x0 x1 x6 x7 w)

end g_parseState_startHTML
def g_parseState_startHTML (R : EP) (x0 : OA) (x1 : OA) (w : World) : Prop :=
 nilP x1 fun a1 =>
 ∃ (v2 : Int), w.cell? (a1.add 0) = some (.int .i64 v2) ∧
 ∃ (v3 : Int), w.cell? (a1.add 1) = some (.int .i64 v3) ∧
 ∃ (v4 : Int), w.cell? (a1.add 2) = some (.int .i64 v4) ∧
 ∃ (v5 : BA), w.cell? (a1.add 3) = some (.string v5) ∧
 ∃ (v6 : Int), w.cell? (a1.add 4) = some (.int .u8 v6) ∧
 box w #[.int .i64 0, .int .i64 0, .int .i64 0, .string (ByteArray.mk #[]), .int .u8 0] ty_line fun b7 w8 =>
 stV w8 ⟨b7, 0, none⟩ (.int .i64 v2) fun w9 =>
 stV w9 ⟨b7, 1, none⟩ (.int .i64 v3) fun w10 =>
 stV w10 ⟨b7, 2, none⟩ (.int .i64 v4) fun w11 =>
 stV w11 ⟨b7, 3, none⟩ (.string v5) fun w12 =>
 stV w12 ⟨b7, 4, none⟩ (.int .u8 v6) fun w13 =>
 callE P i_line_trimSpace #[.pointer (some ⟨b7, 0, none⟩), .int .i64 0, .int .i64 3, .bool false] (fun e w15 => ∃ (r14 : Bool), e = .returned (.bool r14) ∧
 callE P i_line_peek #[.pointer (some ⟨b7, 0, none⟩)] (fun e w17 => ∃ (r16 : Int), e = .returned (.int .u8 r16) ∧
 br (r16 != 60)
 (R (.returned (.bool false)) w17)
 (callE P i_line_string #[.pointer (some ⟨b7, 0, none⟩)] (fun e w19 => ∃ (r18 : BA), e = .returned (.string r18) ∧
 box w19 #[.string (ByteArray.mk #[])] ty_string fun b20 w21 =>
 callE P i_strings_HasPrefix #[.string r18, .string (ByteArray.mk #[60, 33, 45, 45])] (fun e w23 => ∃ (r22 : Bool), e = .returned (.bool r22) ∧
 br r22
 (stV w23 ⟨b20, 0, none⟩ (.string (ByteArray.mk #[45, 45, 62])) fun w24 =>
 g_parseState_startHTML.k1 R x0 x1 r18 b20 w24)
 (callE P i_strings_HasPrefix #[.string r18, .string (ByteArray.mk #[60, 63])] (fun e w26 => ∃ (r25 : Bool), e = .returned (.bool r25) ∧
 br r25
 (stV w26 ⟨b20, 0, none⟩ (.string (ByteArray.mk #[63, 62])) fun w27 =>
 g_parseState_startHTML.k1 R x0 x1 r18 b20 w27)
 (callE P i_strings_HasPrefix #[.string r18, .string (ByteArray.mk #[60, 33, 91, 67, 68, 65, 84, 65, 91])] (fun e w29 => ∃ (r28 : Bool), e = .returned (.bool r28) ∧
 br r28
 (stV w29 ⟨b20, 0, none⟩ (.string (ByteArray.mk #[93, 93, 62])) fun w30 =>
 g_parseState_startHTML.k1 R x0 x1 r18 b20 w30)
 (callE P i_strings_HasPrefix #[.string r18, .string (ByteArray.mk #[60, 33])] (fun e w32 => ∃ (r31 : Bool), e = .returned (.bool r31) ∧
 ((r31 && (decide ((r18.size : Int) ≥ 3))) = true → 0 ≤ (2 : Int) ∧ 2 < (r18.size : Int)) ∧
 br (r31 && (decide ((r18.size : Int) ≥ 3)))
 (callE P i_isLetter #[.int .u8 (bt r18 2)] (fun e w34 => ∃ (r33 : Bool), e = .returned (.bool r33) ∧
 g_parseState_startHTML.k2 R x0 x1 r18 b20 r33 w34) w32)
 (g_parseState_startHTML.k2 R x0 x1 r18 b20 false w32)) w29)) w26)) w23)) w21) w17)) w15) w13

noncomputable def g_parseState_startHTML.ac (R : EP) : AC :=
  (.seq (.leaf (sel [0] g_parseState_startHTML.body)) (.jump 0 (leaf [(0, .s .ptr), (1, .s .ptr), (6, .s .str), (9, .s (.int .i64)), (10, .s .slice)] (g_parseState_startHTML.k11 R)) (.seq (.leaf (sel [1, 0, 0] g_parseState_startHTML.body)) (.seq (.leaf (sel [1, 0, 1, 0] g_parseState_startHTML.body)) (.seq (.leaf (sel [1, 0, 1, 1, 0] g_parseState_startHTML.body)) (.seq (.leaf (sel [1, 0, 1, 1, 1, 0] g_parseState_startHTML.body)) (.seq (.leaf (sel [1, 0, 1, 1, 1, 1, 0] g_parseState_startHTML.body)) (.seq (.block 0 (.seq (.leaf (sel [1, 0, 1, 1, 1, 1, 1, 0, 0, 0] g_parseState_startHTML.body)) (.cond 34 (.leaf (sel [1, 0, 1, 1, 1, 1, 1, 0, 0, 1, 0] g_parseState_startHTML.body)) (.seq (.leaf (sel [1, 0, 1, 1, 1, 1, 1, 0, 0, 1, 1, 0] g_parseState_startHTML.body)) (.cond 37 (.leaf (sel [1, 0, 1, 1, 1, 1, 1, 0, 0, 1, 1, 1, 0] g_parseState_startHTML.body)) (.seq (.leaf (sel [1, 0, 1, 1, 1, 1, 1, 0, 0, 1, 1, 1, 1, 0] g_parseState_startHTML.body)) (.cond 40 (.leaf (sel [1, 0, 1, 1, 1, 1, 1, 0, 0, 1, 1, 1, 1, 1, 0] g_parseState_startHTML.body)) (.seq (.leaf (sel [1, 0, 1, 1, 1, 1, 1, 0, 0, 1, 1, 1, 1, 1, 1, 0] g_parseState_startHTML.body)) (.mark (leaf [(0, .s .ptr), (1, .s .ptr), (6, .s .str), (7, .s .loc), (43, .s .bool)] (g_parseState_startHTML.k2 R)) (.cond 43 (.seq (.seq (.leaf (sel [1, 0, 1, 1, 1, 1, 1, 0, 0, 1, 1, 1, 1, 1, 1, 1, 0, 0, 0] g_parseState_startHTML.body)) (.mark (leaf [(0, .s .ptr), (1, .s .ptr), (6, .s .str), (7, .s .loc), (63, .s .bool)] (g_parseState_startHTML.k4 R)) (.leaf (sel [1, 0, 1, 1, 1, 1, 1, 0, 0, 1, 1, 1, 1, 1, 1, 1, 0, 0, 1] g_parseState_startHTML.body)))) (.leaf (sel [1, 0, 1, 1, 1, 1, 1, 0, 0, 1, 1, 1, 1, 1, 1, 1, 0, 1] g_parseState_startHTML.body))) (.leaf (sel [1, 0, 1, 1, 1, 1, 1, 0, 0, 1, 1, 1, 1, 1, 1, 1, 1] g_parseState_startHTML.body)))))))))))) (.mark (leaf [(0, .s .ptr), (1, .s .ptr), (6, .s .str), (7, .s .loc)] (g_parseState_startHTML.k1 R)) (.seq (.seq (.leaf (sel [1, 0, 1, 1, 1, 1, 1, 1, 0, 0] g_parseState_startHTML.body)) (.cond 68 (.seq (.leaf (sel [1, 0, 1, 1, 1, 1, 1, 1, 0, 1, 0, 0] g_parseState_startHTML.body)) (.seq (.leaf (sel [1, 0, 1, 1, 1, 1, 1, 1, 0, 1, 0, 1, 0] g_parseState_startHTML.body)) (.seq (.draw (.pure 0 (.pure 1 (.pure 2 (.pure 3 (.pure 5 (.load 4 (.one 6 (.one 7 (.one 8 (.pure 9 (.pure 10 (.one 11 .done)))))))))))) (sel [1, 0, 1, 1, 1, 1, 1, 1, 0, 1, 0, 1, 1, 0] g_parseState_startHTML.body)) (.leaf (sel [1, 0, 1, 1, 1, 1, 1, 1, 0, 1, 0, 1, 1, 1] g_parseState_startHTML.body))))) (.leaf (sel [1, 0, 1, 1, 1, 1, 1, 1, 0, 1, 1] g_parseState_startHTML.body)))) (.seq (.leaf (sel [1, 0, 1, 1, 1, 1, 1, 1, 1, 0] g_parseState_startHTML.body)) (.seq (.leaf (sel [1, 0, 1, 1, 1, 1, 1, 1, 1, 1, 0] g_parseState_startHTML.body)) (.mark (leaf [(0, .s .ptr), (1, .s .ptr), (6, .s .str), (9, .s (.int .i64))] (g_parseState_startHTML.k3 R)) (.seq (.leaf (sel [1, 0, 1, 1, 1, 1, 1, 1, 1, 1, 1, 0] g_parseState_startHTML.body)) (.seq (.block 1 (.loop (leaf [(0, .s .ptr), (1, .s .ptr), (6, .s .str), (9, .s (.int .i64)), (10, .s .slice)] (g_parseState_startHTML.l1 R)) (sel [1, 0, 1, 1, 1, 1, 1, 1, 1, 1, 1, 1, 0, 0, 0] g_parseState_startHTML.body))) (.mark (leaf [(0, .s .ptr), (1, .s .ptr), (6, .s .str), (9, .s (.int .i64)), (10, .s .slice)] (g_parseState_startHTML.k6 R)) (.seq (.leaf (sel [1, 0, 1, 1, 1, 1, 1, 1, 1, 1, 1, 1, 1, 0] g_parseState_startHTML.body)) (.seq (.seq (.leaf (sel [1, 0, 1, 1, 1, 1, 1, 1, 1, 1, 1, 1, 1, 1, 0, 0] g_parseState_startHTML.body)) (.cond 153 (.seq (.leaf (sel [1, 0, 1, 1, 1, 1, 1, 1, 1, 1, 1, 1, 1, 1, 0, 1, 0, 0] g_parseState_startHTML.body)) (.block 3 (.seq (.leaf (sel [1, 0, 1, 1, 1, 1, 1, 1, 1, 1, 1, 1, 1, 1, 0, 1, 0, 1, 0, 0] g_parseState_startHTML.body)) (.mark (leaf [(0, .s .ptr), (1, .s .ptr), (6, .s .str), (9, .s (.int .i64)), (10, .s .slice), (12, .s (.int .u8)), (156, .s (.int .u8)), (157, .s .bool)] (g_parseState_startHTML.k8 R)) (.leaf (sel [1, 0, 1, 1, 1, 1, 1, 1, 1, 1, 1, 1, 1, 1, 0, 1, 0, 1, 0, 1] g_parseState_startHTML.body)))))) (.leaf (sel [1, 0, 1, 1, 1, 1, 1, 1, 1, 1, 1, 1, 1, 1, 0, 1, 1] g_parseState_startHTML.body)))) (.mark (leaf [(0, .s .ptr), (1, .s .ptr), (6, .s .str), (9, .s (.int .i64)), (10, .s .slice), (12, .s (.int .u8))] (g_parseState_startHTML.k9 R)) (.seq (.leaf (sel [1, 0, 1, 1, 1, 1, 1, 1, 1, 1, 1, 1, 1, 1, 1, 0] g_parseState_startHTML.body)) (.seq (.seq (.leaf (sel [1, 0, 1, 1, 1, 1, 1, 1, 1, 1, 1, 1, 1, 1, 1, 1, 0, 0] g_parseState_startHTML.body)) (.seq (.leaf (sel [1, 0, 1, 1, 1, 1, 1, 1, 1, 1, 1, 1, 1, 1, 1, 1, 0, 1, 0] g_parseState_startHTML.body)) (.seq (.seq (.leaf (sel [1, 0, 1, 1, 1, 1, 1, 1, 1, 1, 1, 1, 1, 1, 1, 1, 0, 1, 1, 0, 0] g_parseState_startHTML.body)) (.block 4 (.loop (leaf [(0, .s .ptr), (1, .s .ptr), (6, .s .str), (9, .s (.int .i64)), (10, .s .slice), (12, .s (.int .u8)), (13, .s (.int .u8)), (14, .s .bool), (184, .s .slice), (185, .s (.int .i64)), (186, .s (.int .i64))] (g_parseState_startHTML.l2 R)) (sel [1, 0, 1, 1, 1, 1, 1, 1, 1, 1, 1, 1, 1, 1, 1, 1, 0, 1, 1, 0, 1, 0, 0] g_parseState_startHTML.body)))) (.leaf (sel [1, 0, 1, 1, 1, 1, 1, 1, 1, 1, 1, 1, 1, 1, 1, 1, 0, 1, 1, 1] g_parseState_startHTML.body))))) (.mark (leaf [(0, .s .ptr), (1, .s .ptr)] (g_parseState_startHTML.k14 R)) (.seq (.seq (.leaf (sel [1, 0, 1, 1, 1, 1, 1, 1, 1, 1, 1, 1, 1, 1, 1, 1, 1, 0, 0] g_parseState_startHTML.body)) (.seq (.leaf (sel [1, 0, 1, 1, 1, 1, 1, 1, 1, 1, 1, 1, 1, 1, 1, 1, 1, 0, 1, 0] g_parseState_startHTML.body)) (.seq (.draw (.pure 0 (.pure 1 (.pure 2 (.pure 3 (.pure 5 (.load 4 (.one 6 (.one 7 (.one 8 (.pure 9 (.pure 10 (.one 11 .done)))))))))))) (sel [1, 0, 1, 1, 1, 1, 1, 1, 1, 1, 1, 1, 1, 1, 1, 1, 1, 0, 1, 1, 0] g_parseState_startHTML.body)) (.leaf (sel [1, 0, 1, 1, 1, 1, 1, 1, 1, 1, 1, 1, 1, 1, 1, 1, 1, 0, 1, 1, 1] g_parseState_startHTML.body))))) (.seq (.leaf (sel [1, 0, 1, 1, 1, 1, 1, 1, 1, 1, 1, 1, 1, 1, 1, 1, 1, 1, 0] g_parseState_startHTML.body)) (.mark (leaf [(0, .s .ptr), (1, .s .ptr), (6, .s .str), (9, .s (.int .i64)), (10, .s .slice)] (g_parseState_startHTML.k11 R)) (.seq (.seq (.leaf (sel [1, 0, 1, 1, 1, 1, 1, 1, 1, 1, 1, 1, 1, 1, 1, 1, 1, 1, 1, 0, 0] g_parseState_startHTML.body)) (.mark (leaf [(0, .s .ptr), (1, .s .ptr), (6, .s .str), (10, .s .slice), (263, .s .bool)] (g_parseState_startHTML.k12 R)) (.cond 263 (.seq (.leaf (sel [1, 0, 1, 1, 1, 1, 1, 1, 1, 1, 1, 1, 1, 1, 1, 1, 1, 1, 1, 0, 1, 0, 0] g_parseState_startHTML.body)) (.block 6 (.seq (.leaf (sel [1, 0, 1, 1, 1, 1, 1, 1, 1, 1, 1, 1, 1, 1, 1, 1, 1, 1, 1, 0, 1, 0, 1, 0, 0] g_parseState_startHTML.body)) (.mark (leaf [(0, .s .ptr), (1, .s .ptr), (6, .s .str), (266, .s .bool)] (g_parseState_startHTML.k15 R)) (.cond 266 (.seq (.leaf (sel [1, 0, 1, 1, 1, 1, 1, 1, 1, 1, 1, 1, 1, 1, 1, 1, 1, 1, 1, 0, 1, 0, 1, 0, 1, 0, 0] g_parseState_startHTML.body)) (.seq (.leaf (sel [1, 0, 1, 1, 1, 1, 1, 1, 1, 1, 1, 1, 1, 1, 1, 1, 1, 1, 1, 0, 1, 0, 1, 0, 1, 0, 1, 0] g_parseState_startHTML.body)) (.seq (.draw (.pure 0 (.pure 1 (.pure 2 (.pure 3 (.pure 5 (.load 4 (.one 6 (.one 7 (.one 8 (.pure 9 (.pure 10 (.one 11 .done)))))))))))) (sel [1, 0, 1, 1, 1, 1, 1, 1, 1, 1, 1, 1, 1, 1, 1, 1, 1, 1, 1, 0, 1, 0, 1, 0, 1, 0, 1, 1, 0] g_parseState_startHTML.body)) (.leaf (sel [1, 0, 1, 1, 1, 1, 1, 1, 1, 1, 1, 1, 1, 1, 1, 1, 1, 1, 1, 0, 1, 0, 1, 0, 1, 0, 1, 1, 1] g_parseState_startHTML.body))))) (.leaf (sel [1, 0, 1, 1, 1, 1, 1, 1, 1, 1, 1, 1, 1, 1, 1, 1, 1, 1, 1, 0, 1, 0, 1, 0, 1, 1] g_parseState_startHTML.body))))))) (.leaf (sel [1, 0, 1, 1, 1, 1, 1, 1, 1, 1, 1, 1, 1, 1, 1, 1, 1, 1, 1, 0, 1, 1] g_parseState_startHTML.body))))) (.mark (leaf [(0, .s .ptr), (1, .s .ptr), (6, .s .str)] (g_parseState_startHTML.k16 R)) (.seq (.seq (.leaf (sel [1, 0, 1, 1, 1, 1, 1, 1, 1, 1, 1, 1, 1, 1, 1, 1, 1, 1, 1, 1, 0, 0] g_parseState_startHTML.body)) (.cond 294 (.seq (.seq (.leaf (sel [1, 0, 1, 1, 1, 1, 1, 1, 1, 1, 1, 1, 1, 1, 1, 1, 1, 1, 1, 1, 0, 1, 0, 0, 0] g_parseState_startHTML.body)) (.seq (.leaf (sel [1, 0, 1, 1, 1, 1, 1, 1, 1, 1, 1, 1, 1, 1, 1, 1, 1, 1, 1, 1, 0, 1, 0, 0, 1, 0] g_parseState_startHTML.body)) (.mark (leaf [(0, .s .ptr), (1, .s .ptr), (6, .s .str), (20, .s (.int .i64)), (310, .s .bool)] (g_parseState_startHTML.k17 R)) (.cond 310 (.seq (.leaf (sel [1, 0, 1, 1, 1, 1, 1, 1, 1, 1, 1, 1, 1, 1, 1, 1, 1, 1, 1, 1, 0, 1, 0, 0, 1, 1, 0, 0] g_parseState_startHTML.body)) (.mark (leaf [(0, .s .ptr), (1, .s .ptr)] (g_parseState_startHTML.k18 R)) (.seq (.leaf (sel [1, 0, 1, 1, 1, 1, 1, 1, 1, 1, 1, 1, 1, 1, 1, 1, 1, 1, 1, 1, 0, 1, 0, 0, 1, 1, 0, 1, 0] g_parseState_startHTML.body)) (.seq (.leaf (sel [1, 0, 1, 1, 1, 1, 1, 1, 1, 1, 1, 1, 1, 1, 1, 1, 1, 1, 1, 1, 0, 1, 0, 0, 1, 1, 0, 1, 1, 0] g_parseState_startHTML.body)) (.seq (.draw (.pure 0 (.pure 1 (.pure 2 (.pure 3 (.pure 5 (.load 4 (.one 6 (.one 7 (.one 8 (.pure 9 (.pure 10 (.one 11 .done)))))))))))) (sel [1, 0, 1, 1, 1, 1, 1, 1, 1, 1, 1, 1, 1, 1, 1, 1, 1, 1, 1, 1, 0, 1, 0, 0, 1, 1, 0, 1, 1, 1, 0] g_parseState_startHTML.body)) (.leaf (sel [1, 0, 1, 1, 1, 1, 1, 1, 1, 1, 1, 1, 1, 1, 1, 1, 1, 1, 1, 1, 0, 1, 0, 0, 1, 1, 0, 1, 1, 1, 1] g_parseState_startHTML.body))))))) (.leaf (sel [1, 0, 1, 1, 1, 1, 1, 1, 1, 1, 1, 1, 1, 1, 1, 1, 1, 1, 1, 1, 0, 1, 0, 0, 1, 1, 1] g_parseState_startHTML.body)))))) (.seq (.leaf (sel [1, 0, 1, 1, 1, 1, 1, 1, 1, 1, 1, 1, 1, 1, 1, 1, 1, 1, 1, 1, 0, 1, 0, 1, 0] g_parseState_startHTML.body)) (.seq (.leaf (sel [1, 0, 1, 1, 1, 1, 1, 1, 1, 1, 1, 1, 1, 1, 1, 1, 1, 1, 1, 1, 0, 1, 0, 1, 1, 0] g_parseState_startHTML.body)) (.mark (leaf [(0, .s .ptr), (1, .s .ptr), (350, .s .bool)] (g_parseState_startHTML.k19 R)) (.cond 350 (.seq (.leaf (sel [1, 0, 1, 1, 1, 1, 1, 1, 1, 1, 1, 1, 1, 1, 1, 1, 1, 1, 1, 1, 0, 1, 0, 1, 1, 1, 0, 0] g_parseState_startHTML.body)) (.seq (.leaf (sel [1, 0, 1, 1, 1, 1, 1, 1, 1, 1, 1, 1, 1, 1, 1, 1, 1, 1, 1, 1, 0, 1, 0, 1, 1, 1, 0, 1, 0] g_parseState_startHTML.body)) (.seq (.draw (.pure 0 (.pure 1 (.pure 2 (.pure 3 (.pure 5 (.load 4 (.one 6 (.one 7 (.one 8 (.pure 9 (.pure 10 (.one 11 .done)))))))))))) (sel [1, 0, 1, 1, 1, 1, 1, 1, 1, 1, 1, 1, 1, 1, 1, 1, 1, 1, 1, 1, 0, 1, 0, 1, 1, 1, 0, 1, 1, 0] g_parseState_startHTML.body)) (.leaf (sel [1, 0, 1, 1, 1, 1, 1, 1, 1, 1, 1, 1, 1, 1, 1, 1, 1, 1, 1, 1, 0, 1, 0, 1, 1, 1, 0, 1, 1, 1] g_parseState_startHTML.body))))) (.leaf (sel [1, 0, 1, 1, 1, 1, 1, 1, 1, 1, 1, 1, 1, 1, 1, 1, 1, 1, 1, 1, 0, 1, 0, 1, 1, 1, 1] g_parseState_startHTML.body))))))) (.leaf (sel [1, 0, 1, 1, 1, 1, 1, 1, 1, 1, 1, 1, 1, 1, 1, 1, 1, 1, 1, 1, 0, 1, 1] g_parseState_startHTML.body)))) (.leaf (sel [1, 0, 1, 1, 1, 1, 1, 1, 1, 1, 1, 1, 1, 1, 1, 1, 1, 1, 1, 1, 1] g_parseState_startHTML.body))))))))))))))))))))))))))))))
theorem g_parseState_startHTML.good (R : EP) : Good P 368 (g_parseState_startHTML.ac R) (QF P [.tmp 4] R) :=
  ⟨trivial, ⟨⟨trivial, ⟨trivial, ⟨trivial, ⟨trivial, ⟨trivial, ⟨⟨trivial, ⟨trivial, ⟨trivial, ⟨trivial, ⟨trivial, ⟨trivial, ⟨trivial, ⟨⟨⟨⟨trivial, ⟨trivial, cutE (by intro x0 x1 x6 x7 x63 ρ w; kernel_rfl)⟩⟩, trivial⟩, trivial⟩, cutE (by intro x0 x1 x6 x7 x43 ρ w; kernel_rfl)⟩⟩⟩⟩⟩⟩⟩⟩, ⟨⟨⟨trivial, ⟨⟨trivial, ⟨trivial, ⟨⟨by kernel_rfl, by kernel_rfl, fun _ _ _ h => h⟩, trivial⟩⟩⟩, trivial⟩⟩, ⟨trivial, ⟨trivial, ⟨⟨trivial, ⟨(loopG (g_parseState_startHTML.al1 R) (g_parseState_startHTML.bl1 R) (fun _ => by kernel_rfl) (fun Xa => ⟨trivial, ⟨⟨⟨trivial, ⟨trivial, ⟨⟨trivial, ⟨trivial, cutE (by intro x0 x1 x6 x9 x10q x10n x10c x11 ρ w; kernel_rfl)⟩⟩, cutE (by intro x0 x1 x6 x9 x10q x10n x10c x11 ρ w; kernel_rfl)⟩⟩⟩, trivial⟩, cutE (by intro x0 x1 x6 x9 x10q x10n x10c ρ w; kernel_rfl)⟩⟩) (fun Xa => by intro x0 x1 x6 x9 x10q x10n x10c ρ w; kernel_rfl) (fun X h _ _ _ _ _ _ _ _ g => g X h)), ⟨⟨trivial, ⟨⟨trivial, ⟨⟨trivial, ⟨trivial, ⟨trivial, cutE (by intro x0 x1 x6 x9 x10q x10n x10c x12 x156 x157 ρ w; kernel_rfl)⟩⟩⟩, trivial⟩⟩, ⟨⟨trivial, ⟨⟨trivial, ⟨trivial, ⟨⟨trivial, (loopG (g_parseState_startHTML.al2 R) (g_parseState_startHTML.bl2 R) (fun _ => by kernel_rfl) (fun Xb => ⟨trivial, ⟨trivial, ⟨⟨trivial, ⟨trivial, ⟨trivial, cutE (by intro x0 x1 x6 x9 x10q x10n x10c x12 x13 x14 x184q x184n x184c x185 x186 x206 ρ w; kernel_rfl)⟩⟩⟩, trivial⟩⟩⟩) (fun Xb => by intro x0 x1 x6 x9 x10q x10n x10c x12 x13 x14 x184q x184n x184c x185 x186 ρ w; kernel_rfl) (fun X h _ _ _ _ _ _ _ _ _ _ _ _ _ _ _ _ g => g X h))⟩, trivial⟩⟩⟩, ⟨⟨⟨trivial, ⟨trivial, ⟨⟨by kernel_rfl, by kernel_rfl, fun _ _ _ h => h⟩, trivial⟩⟩⟩, ⟨trivial, ⟨⟨⟨trivial, ⟨⟨⟨trivial, ⟨trivial, ⟨⟨⟨trivial, ⟨trivial, ⟨⟨by kernel_rfl, by kernel_rfl, fun _ _ _ h => h⟩, trivial⟩⟩⟩, trivial⟩, cutE (by intro x0 x1 x6 x266 ρ w; kernel_rfl)⟩⟩⟩, trivial⟩, cutE (by intro x0 x1 x6 x10q x10n x10c x263 ρ w; kernel_rfl)⟩⟩, ⟨⟨⟨trivial, ⟨⟨⟨trivial, ⟨trivial, ⟨⟨⟨trivial, ⟨⟨trivial, ⟨trivial, ⟨⟨by kernel_rfl, by kernel_rfl, fun _ _ _ h => h⟩, trivial⟩⟩⟩, cutE (by intro x0 x1 ρ w; kernel_rfl)⟩⟩, trivial⟩, cutE (by intro x0 x1 x6 x20 x310 ρ w; kernel_rfl)⟩⟩⟩, ⟨trivial, ⟨trivial, ⟨⟨⟨trivial, ⟨trivial, ⟨⟨by kernel_rfl, by kernel_rfl, fun _ _ _ h => h⟩, trivial⟩⟩⟩, trivial⟩, cutE (by intro x0 x1 x350 ρ w; kernel_rfl)⟩⟩⟩⟩, trivial⟩⟩, trivial⟩, cutE (by intro x0 x1 x6 ρ w; kernel_rfl)⟩⟩, cutE (by intro x0 x1 x6 x9 x10q x10n x10c ρ w; kernel_rfl)⟩⟩⟩, cutE (by intro x0 x1 ρ w; kernel_rfl)⟩⟩⟩, cutE (by intro x0 x1 x6 x9 x10q x10n x10c x12 ρ w; kernel_rfl)⟩⟩⟩, cutE (by intro x0 x1 x6 x9 x10q x10n x10c ρ w; kernel_rfl)⟩⟩⟩, cutE (by intro x0 x1 x6 x9 ρ w; kernel_rfl)⟩⟩⟩⟩, cutE (by intro x0 x1 x6 x7 ρ w; kernel_rfl)⟩⟩⟩⟩⟩⟩⟩, .seq .skip (sel [1, 0, 1, 1, 1, 1, 1, 1, 1, 1, 1, 1, 1, 1, 1, 1, 1, 1, 1] g_parseState_startHTML.body), by kernel_rfl, jumpK (l := 0) (.seq (.leaf .skip) (.seq (.seq (.leaf (sel [1, 0, 1, 1, 1, 1, 1, 1, 1, 1, 1, 1, 1, 1, 1, 1, 1, 1, 1, 0, 0] g_parseState_startHTML.body)) (.mark (leaf [(0, .s .ptr), (1, .s .ptr), (6, .s .str), (10, .s .slice), (263, .s .bool)] (g_parseState_startHTML.k12 R)) (.cond 263 (.seq (.leaf (sel [1, 0, 1, 1, 1, 1, 1, 1, 1, 1, 1, 1, 1, 1, 1, 1, 1, 1, 1, 0, 1, 0, 0] g_parseState_startHTML.body)) (.block 6 (.seq (.leaf (sel [1, 0, 1, 1, 1, 1, 1, 1, 1, 1, 1, 1, 1, 1, 1, 1, 1, 1, 1, 0, 1, 0, 1, 0, 0] g_parseState_startHTML.body)) (.mark (leaf [(0, .s .ptr), (1, .s .ptr), (6, .s .str), (266, .s .bool)] (g_parseState_startHTML.k15 R)) (.cond 266 (.seq (.leaf (sel [1, 0, 1, 1, 1, 1, 1, 1, 1, 1, 1, 1, 1, 1, 1, 1, 1, 1, 1, 0, 1, 0, 1, 0, 1, 0, 0] g_parseState_startHTML.body)) (.seq (.leaf (sel [1, 0, 1, 1, 1, 1, 1, 1, 1, 1, 1, 1, 1, 1, 1, 1, 1, 1, 1, 0, 1, 0, 1, 0, 1, 0, 1, 0] g_parseState_startHTML.body)) (.seq (.draw (.pure 0 (.pure 1 (.pure 2 (.pure 3 (.pure 5 (.load 4 (.one 6 (.one 7 (.one 8 (.pure 9 (.pure 10 (.one 11 .done)))))))))))) (sel [1, 0, 1, 1, 1, 1, 1, 1, 1, 1, 1, 1, 1, 1, 1, 1, 1, 1, 1, 0, 1, 0, 1, 0, 1, 0, 1, 1, 0] g_parseState_startHTML.body)) (.leaf (sel [1, 0, 1, 1, 1, 1, 1, 1, 1, 1, 1, 1, 1, 1, 1, 1, 1, 1, 1, 0, 1, 0, 1, 0, 1, 0, 1, 1, 1] g_parseState_startHTML.body))))) (.leaf (sel [1, 0, 1, 1, 1, 1, 1, 1, 1, 1, 1, 1, 1, 1, 1, 1, 1, 1, 1, 0, 1, 0, 1, 0, 1, 1] g_parseState_startHTML.body))))))) (.leaf (sel [1, 0, 1, 1, 1, 1, 1, 1, 1, 1, 1, 1, 1, 1, 1, 1, 1, 1, 1, 0, 1, 1] g_parseState_startHTML.body))))) (.mark (leaf [(0, .s .ptr), (1, .s .ptr), (6, .s .str)] (g_parseState_startHTML.k16 R)) (.seq (.seq (.leaf (sel [1, 0, 1, 1, 1, 1, 1, 1, 1, 1, 1, 1, 1, 1, 1, 1, 1, 1, 1, 1, 0, 0] g_parseState_startHTML.body)) (.cond 294 (.seq (.seq (.leaf (sel [1, 0, 1, 1, 1, 1, 1, 1, 1, 1, 1, 1, 1, 1, 1, 1, 1, 1, 1, 1, 0, 1, 0, 0, 0] g_parseState_startHTML.body)) (.seq (.leaf (sel [1, 0, 1, 1, 1, 1, 1, 1, 1, 1, 1, 1, 1, 1, 1, 1, 1, 1, 1, 1, 0, 1, 0, 0, 1, 0] g_parseState_startHTML.body)) (.mark (leaf [(0, .s .ptr), (1, .s .ptr), (6, .s .str), (20, .s (.int .i64)), (310, .s .bool)] (g_parseState_startHTML.k17 R)) (.cond 310 (.seq (.leaf (sel [1, 0, 1, 1, 1, 1, 1, 1, 1, 1, 1, 1, 1, 1, 1, 1, 1, 1, 1, 1, 0, 1, 0, 0, 1, 1, 0, 0] g_parseState_startHTML.body)) (.mark (leaf [(0, .s .ptr), (1, .s .ptr)] (g_parseState_startHTML.k18 R)) (.seq (.leaf (sel [1, 0, 1, 1, 1, 1, 1, 1, 1, 1, 1, 1, 1, 1, 1, 1, 1, 1, 1, 1, 0, 1, 0, 0, 1, 1, 0, 1, 0] g_parseState_startHTML.body)) (.seq (.leaf (sel [1, 0, 1, 1, 1, 1, 1, 1, 1, 1, 1, 1, 1, 1, 1, 1, 1, 1, 1, 1, 0, 1, 0, 0, 1, 1, 0, 1, 1, 0] g_parseState_startHTML.body)) (.seq (.draw (.pure 0 (.pure 1 (.pure 2 (.pure 3 (.pure 5 (.load 4 (.one 6 (.one 7 (.one 8 (.pure 9 (.pure 10 (.one 11 .done)))))))))))) (sel [1, 0, 1, 1, 1, 1, 1, 1, 1, 1, 1, 1, 1, 1, 1, 1, 1, 1, 1, 1, 0, 1, 0, 0, 1, 1, 0, 1, 1, 1, 0] g_parseState_startHTML.body)) (.leaf (sel [1, 0, 1, 1, 1, 1, 1, 1, 1, 1, 1, 1, 1, 1, 1, 1, 1, 1, 1, 1, 0, 1, 0, 0, 1, 1, 0, 1, 1, 1, 1] g_parseState_startHTML.body))))))) (.leaf (sel [1, 0, 1, 1, 1, 1, 1, 1, 1, 1, 1, 1, 1, 1, 1, 1, 1, 1, 1, 1, 0, 1, 0, 0, 1, 1, 1] g_parseState_startHTML.body)))))) (.seq (.leaf (sel [1, 0, 1, 1, 1, 1, 1, 1, 1, 1, 1, 1, 1, 1, 1, 1, 1, 1, 1, 1, 0, 1, 0, 1, 0] g_parseState_startHTML.body)) (.seq (.leaf (sel [1, 0, 1, 1, 1, 1, 1, 1, 1, 1, 1, 1, 1, 1, 1, 1, 1, 1, 1, 1, 0, 1, 0, 1, 1, 0] g_parseState_startHTML.body)) (.mark (leaf [(0, .s .ptr), (1, .s .ptr), (350, .s .bool)] (g_parseState_startHTML.k19 R)) (.cond 350 (.seq (.leaf (sel [1, 0, 1, 1, 1, 1, 1, 1, 1, 1, 1, 1, 1, 1, 1, 1, 1, 1, 1, 1, 0, 1, 0, 1, 1, 1, 0, 0] g_parseState_startHTML.body)) (.seq (.leaf (sel [1, 0, 1, 1, 1, 1, 1, 1, 1, 1, 1, 1, 1, 1, 1, 1, 1, 1, 1, 1, 0, 1, 0, 1, 1, 1, 0, 1, 0] g_parseState_startHTML.body)) (.seq (.draw (.pure 0 (.pure 1 (.pure 2 (.pure 3 (.pure 5 (.load 4 (.one 6 (.one 7 (.one 8 (.pure 9 (.pure 10 (.one 11 .done)))))))))))) (sel [1, 0, 1, 1, 1, 1, 1, 1, 1, 1, 1, 1, 1, 1, 1, 1, 1, 1, 1, 1, 0, 1, 0, 1, 1, 1, 0, 1, 1, 0] g_parseState_startHTML.body)) (.leaf (sel [1, 0, 1, 1, 1, 1, 1, 1, 1, 1, 1, 1, 1, 1, 1, 1, 1, 1, 1, 1, 0, 1, 0, 1, 1, 1, 0, 1, 1, 1] g_parseState_startHTML.body))))) (.leaf (sel [1, 0, 1, 1, 1, 1, 1, 1, 1, 1, 1, 1, 1, 1, 1, 1, 1, 1, 1, 1, 0, 1, 0, 1, 1, 1, 1] g_parseState_startHTML.body))))))) (.leaf (sel [1, 0, 1, 1, 1, 1, 1, 1, 1, 1, 1, 1, 1, 1, 1, 1, 1, 1, 1, 1, 0, 1, 1] g_parseState_startHTML.body)))) (.leaf (sel [1, 0, 1, 1, 1, 1, 1, 1, 1, 1, 1, 1, 1, 1, 1, 1, 1, 1, 1, 1, 1] g_parseState_startHTML.body)))))) (by kernel_rfl) (by kernel_rfl) ⟨trivial, ⟨⟨trivial, ⟨⟨⟨trivial, ⟨trivial, ⟨⟨⟨trivial, ⟨trivial, ⟨⟨by kernel_rfl, by kernel_rfl, fun _ _ _ h => h⟩, trivial⟩⟩⟩, trivial⟩, cutE (by intro x0 x1 x6 x266 ρ w; kernel_rfl)⟩⟩⟩, trivial⟩, cutE (by intro x0 x1 x6 x10q x10n x10c x263 ρ w; kernel_rfl)⟩⟩, ⟨⟨⟨trivial, ⟨⟨⟨trivial, ⟨trivial, ⟨⟨⟨trivial, ⟨⟨trivial, ⟨trivial, ⟨⟨by kernel_rfl, by kernel_rfl, fun _ _ _ h => h⟩, trivial⟩⟩⟩, cutE (by intro x0 x1 ρ w; kernel_rfl)⟩⟩, trivial⟩, cutE (by intro x0 x1 x6 x20 x310 ρ w; kernel_rfl)⟩⟩⟩, ⟨trivial, ⟨trivial, ⟨⟨⟨trivial, ⟨trivial, ⟨⟨by kernel_rfl, by kernel_rfl, fun _ _ _ h => h⟩, trivial⟩⟩⟩, trivial⟩, cutE (by intro x0 x1 x350 ρ w; kernel_rfl)⟩⟩⟩⟩, trivial⟩⟩, trivial⟩, cutE (by intro x0 x1 x6 ρ w; kernel_rfl)⟩⟩⟩ (cutE (by intro x0 x1 x6 x9 x10q x10n x10c ρ w; kernel_rfl))⟩⟩
theorem g_parseState_startHTML.eq (R : EP) (x0 : OA) (x1 : OA) (w : World) : g_parseState_startHTML R x0 x1 w = vcA P 368 (g_parseState_startHTML.ac R) (QF P [.tmp 4] R) (fr0 [.pointer x0, .pointer x1]) w := by kernel_rfl
theorem g_parseState_startHTML.sound {R : EP} {x0 : OA} {x1 : OA} {w : World} (h : g_parseState_startHTML R x0 x1 w) : callE P i_parseState_startHTML #[.pointer x0, .pointer x1] R w :=
  callE_fin (c := g_parseState_startHTML.body) Tryz.func147 Tryz.call147 (by kernel_rfl) (by kernel_rfl) (by kernel_rfl) (by kernel_rfl) (by kernel_rfl) (g_parseState_startHTML.good R) (g_parseState_startHTML.eq R x0 x1 w) h
namespace g_line_trimHeading
noncomputable def body : Code := bodyOf Tryz.f132
def k1 (R : EP) (x0 : OA) (x1 : OA) (x5 : Nat) (x6 : Int) (w : World) : Prop :=
 callE P i_line_trimSpace #[.pointer (some ⟨x5, 0, none⟩), .int .i64 1, .int .i64 1, .bool true] (fun e w21 => ∃ (r20 : Bool), e = .returned (.bool r20) ∧
 br (!r20)
 (R (.returned (.bool false)) w21)
 (nilP x1 fun a22 =>
 stV w21 (a22.add 0) (.int .i64 x6) fun w23 =>
 ∃ (v24 : Int), w23.cell? ⟨x5, 0, none⟩ = some (.int .i64 v24) ∧
 ∃ (v25 : Int), w23.cell? ⟨x5, 1, none⟩ = some (.int .i64 v25) ∧
 ∃ (v26 : Int), w23.cell? ⟨x5, 2, none⟩ = some (.int .i64 v26) ∧
 ∃ (v27 : BA), w23.cell? ⟨x5, 3, none⟩ = some (.string v27) ∧
 ∃ (v28 : Int), w23.cell? ⟨x5, 4, none⟩ = some (.int .u8 v28) ∧
 nilP x0 fun a29 =>
 stV w23 (a29.add 0) (.int .i64 v24) fun w30 =>
 stV w30 (a29.add 1) (.int .i64 v25) fun w31 =>
 stV w31 (a29.add 2) (.int .i64 v26) fun w32 =>
 stV w32 (a29.add 3) (.string v27) fun w33 =>
 stV w33 (a29.add 4) (.int .u8 v28) fun w34 =>
 R (.returned (.bool true)) w34)) w

def bl1 (R : EP) (Xa : OA → OA → Nat → Int → WP) (x0 : OA) (x1 : OA) (x5 : Nat) (x6 : Int) (w : World) : Prop :=
 br (decide (x6 < 6))
 (callE P i_line_trim #[.pointer (some ⟨x5, 0, none⟩), .int .u8 35] (fun e w19 => ∃ (r18 : Bool), e = .returned (.bool r18) ∧
 br r18
 (Xa x0 x1 x5 (IntKind.i64.wrap (x6 + 1)) w19)
 (k1 R x0 x1 x5 x6 w19)) w)
 (k1 R x0 x1 x5 x6 w)
def l1 (R : EP) (x0 : OA) (x1 : OA) (x5 : Nat) (x6 : Int) (w : World) : Prop :=
  ∀ X : OA → OA → Nat → Int → WP, (∀ x0 x1 x5 x6 w, bl1 R X x0 x1 x5 x6 w → X x0 x1 x5 x6 w) → X x0 x1 x5 x6 w

noncomputable def al1 (R : EP) (Xa : OA → OA → Nat → Int → WP) : AC :=
  (.leaf (sel [1, 1, 1, 1, 1, 0, 0, 0] body))
end g_line_trimHeading
def g_line_trimHeading (R : EP) (x0 : OA) (x1 : OA) (w : World) : Prop :=
 nilP x0 fun a1 =>
 ∃ (v2 : Int), w.cell? (a1.add 0) = some (.int .i64 v2) ∧
 ∃ (v3 : Int), w.cell? (a1.add 1) = some (.int .i64 v3) ∧
 ∃ (v4 : Int), w.cell? (a1.add 2) = some (.int .i64 v4) ∧
 ∃ (v5 : BA), w.cell? (a1.add 3) = some (.string v5) ∧
 ∃ (v6 : Int), w.cell? (a1.add 4) = some (.int .u8 v6) ∧
 box w #[.int .i64 0, .int .i64 0, .int .i64 0, .string (ByteArray.mk #[]), .int .u8 0] ty_line fun b7 w8 =>
 stV w8 ⟨b7, 0, none⟩ (.int .i64 v2) fun w9 =>
 stV w9 ⟨b7, 1, none⟩ (.int .i64 v3) fun w10 =>
 stV w10 ⟨b7, 2, none⟩ (.int .i64 v4) fun w11 =>
 stV w11 ⟨b7, 3, none⟩ (.string v5) fun w12 =>
 stV w12 ⟨b7, 4, none⟩ (.int .u8 v6) fun w13 =>
 callE P i_line_trimSpace #[.pointer (some ⟨b7, 0, none⟩), .int .i64 0, .int .i64 3, .bool false] (fun e w15 => ∃ (r14 : Bool), e = .returned (.bool r14) ∧
 callE P i_line_trim #[.pointer (some ⟨b7, 0, none⟩), .int .u8 35] (fun e w17 => ∃ (r16 : Bool), e = .returned (.bool r16) ∧
 br (!r16)
 (R (.returned (.bool false)) w17)
 (g_line_trimHeading.l1 R x0 x1 b7 1 w17)) w15) w13

noncomputable def g_line_trimHeading.ac (R : EP) : AC :=
  (.seq (.leaf (sel [0] g_line_trimHeading.body)) (.seq (.leaf (sel [1, 0] g_line_trimHeading.body)) (.seq (.leaf (sel [1, 1, 0] g_line_trimHeading.body)) (.seq (.leaf (sel [1, 1, 1, 0] g_line_trimHeading.body)) (.seq (.leaf (sel [1, 1, 1, 1, 0] g_line_trimHeading.body)) (.seq (.block 0 (.loop (leaf [(0, .s .ptr), (1, .s .ptr), (5, .s .loc), (6, .s (.int .i64))] (g_line_trimHeading.l1 R)) (sel [1, 1, 1, 1, 1, 0, 0, 0] g_line_trimHeading.body))) (.mark (leaf [(0, .s .ptr), (1, .s .ptr), (5, .s .loc), (6, .s (.int .i64))] (g_line_trimHeading.k1 R)) (.leaf (sel [1, 1, 1, 1, 1, 1] g_line_trimHeading.body)))))))))
theorem g_line_trimHeading.good (R : EP) : Good P 28 (g_line_trimHeading.ac R) (QF P [.tmp 4] R) :=
  ⟨trivial, ⟨trivial, ⟨trivial, ⟨trivial, ⟨trivial, ⟨(loopG (g_line_trimHeading.al1 R) (g_line_trimHeading.bl1 R) (fun _ => by kernel_rfl) (fun Xa => trivial) (fun Xa => by intro x0 x1 x5 x6 ρ w; kernel_rfl) (fun X h _ _ _ _ _ g => g X h)), ⟨trivial, cutE (by intro x0 x1 x5 x6 ρ w; kernel_rfl)⟩⟩⟩⟩⟩⟩⟩
theorem g_line_trimHeading.eq (R : EP) (x0 : OA) (x1 : OA) (w : World) : g_line_trimHeading R x0 x1 w = vcA P 28 (g_line_trimHeading.ac R) (QF P [.tmp 4] R) (fr0 [.pointer x0, .pointer x1]) w := by kernel_rfl
theorem g_line_trimHeading.sound {R : EP} {x0 : OA} {x1 : OA} {w : World} (h : g_line_trimHeading R x0 x1 w) : callE P i_line_trimHeading #[.pointer x0, .pointer x1] R w :=
  callE_fin (c := g_line_trimHeading.body) Tryz.func132 Tryz.call132 (by kernel_rfl) (by kernel_rfl) (by kernel_rfl) (by kernel_rfl) (by kernel_rfl) (g_line_trimHeading.good R) (g_line_trimHeading.eq R x0 x1 w) h
namespace g_newATXHeading
noncomputable def body : Code := bodyOf Tryz.f90
def k2 (R : EP) (x0 : OA) (x4 : Nat) (x7 : Nat) (x8 : BA) (x10 : BA) (w : World) : Prop :=
 tk w fun w57 =>
 nilP x0 fun a58 =>
 nilP x0 fun a59 =>
 ∃ (v60 : Int), w57.cell? (a58.add 3) = some (.int .i64 v60) ∧
 ∃ (v61 : Int), w57.cell? (a59.add 3) = some (.int .i64 v61) ∧
 box w57 #[.int .i64 0, .int .i64 0] ty_Position fun b62 w63 =>
 SameC w57 w63 (a59.add 3) 1 ∧
 SameC w57 w63 (a58.add 3) 1 ∧
 stV w63 ⟨b62, 0, none⟩ (.int .i64 v60) fun w64 =>
 stV w64 ⟨b62, 1, none⟩ (.int .i64 v61) fun w65 =>
 tk w65 fun w66 =>
 ∃ (v67 : Int), w66.cell? ⟨b62, 0, none⟩ = some (.int .i64 v67) ∧
 ∃ (v68 : Int), w66.cell? ⟨b62, 1, none⟩ = some (.int .i64 v68) ∧
 ∃ (v69 : Int), w66.cell? ⟨x7, 0, none⟩ = some (.int .i64 v69) ∧
 ∃ (v70 : Int), w66.cell? ⟨b62, 0, none⟩ = some (.int .i64 v70) ∧
 ∃ (v71 : Int), w66.cell? ⟨b62, 1, none⟩ = some (.int .i64 v71) ∧
 callE P i_parseState_newText #[.pointer x0, .agg #[.int .i64 v70, .int .i64 v71], .string x8] (fun e w73 => ∃ (r72 : OA), e = .returned (.pointer r72) ∧
 SameC w66 w73 ⟨x7, 0, none⟩ 1 ∧
 SameC w66 w73 ⟨b62, 0, none⟩ 2 ∧
 box w73 #[.int .i64 v67, .int .i64 v68, .int .i64 v69, .pointer r72, .string x10] ty_Heading fun b74 w75 =>
 callE P i_parseState_doneBlock #[.pointer x0, .iface ty_P_Heading (.pointer (some ⟨b74, 0, none⟩))] (fun e w77 => e = .returned (.tuple #[]) ∧
 stV w77 ⟨x4, 0, none⟩ (.int .i64 0) fun w78 =>
 stV w78 ⟨x4, 1, none⟩ (.int .i64 0) fun w79 =>
 stV w79 ⟨x4, 2, none⟩ (.int .i64 0) fun w80 =>
 stV w80 ⟨x4, 3, none⟩ (.string (ByteArray.mk #[])) fun w81 =>
 stV w81 ⟨x4, 4, none⟩ (.int .u8 0) fun w82 =>
 ∃ (v83 : Int), w82.cell? ⟨x4, 0, none⟩ = some (.int .i64 v83) ∧
 ∃ (v84 : Int), w82.cell? ⟨x4, 1, none⟩ = some (.int .i64 v84) ∧
 ∃ (v85 : Int), w82.cell? ⟨x4, 2, none⟩ = some (.int .i64 v85) ∧
 ∃ (v86 : BA), w82.cell? ⟨x4, 3, none⟩ = some (.string v86) ∧
 ∃ (v87 : Int), w82.cell? ⟨x4, 4, none⟩ = some (.int .u8 v87) ∧
 R (.returned (.tuple #[.agg #[.int .i64 v83, .int .i64 v84, .int .i64 v85, .string v86, .int .u8 v87], .bool true])) w82) w75) w66

def k3 (R : EP) (Xa : OA → Nat → Nat → BA → BA → Value → WP) (x0 : OA) (x4 : Nat) (x7 : Nat) (x8 : BA) (x10 : BA) (x44 : Value) (x55 : Bool) (w : World) : Prop :=
 br x55
 (nilP x0 fun a88 =>
 stV w ((a88.add 6).add 0) (.bool true) fun w89 =>
 Xa x0 x4 x7 x8 x10 x44 w89)
 (Xa x0 x4 x7 x8 x10 x44 w)

def bl1 (R : EP) (Xa : OA → Nat → Nat → BA → BA → Value → WP) (x0 : OA) (x4 : Nat) (x7 : Nat) (x8 : BA) (x10 : BA) (x44 : Value) (w : World) : Prop :=
 (∃ w52, (Instr.next x44 true ty_).run P w = .ok (.tuple #[.bool false]) w52 ∧
 k2 R x0 x4 x7 x8 x10 w52) ∨
 (∃ (r53_0 : Int), ∃ (r53_1 : Int), ∃ w54, (Instr.next x44 true ty_).run P w = .ok (.tuple #[.bool true, .int .i64 r53_0, .int .i32 r53_1]) w54 ∧
 br (decide (r53_1 ≥ 128))
 (k3 R Xa x0 x4 x7 x8 x10 x44 true w54)
 (callE P i_isLetterDigit #[.int .u8 (IntKind.u8.wrap r53_1)] (fun e w56 => ∃ (r55 : Bool), e = .returned (.bool r55) ∧
 k3 R Xa x0 x4 x7 x8 x10 x44 (!r55) w56) w54))
def l1 (R : EP) (x0 : OA) (x4 : Nat) (x7 : Nat) (x8 : BA) (x10 : BA) (x44 : Value) (w : World) : Prop :=
  ∀ X : OA → Nat → Nat → BA → BA → Value → WP, (∀ x0 x4 x7 x8 x10 x44 w, bl1 R X x0 x4 x7 x8 x10 x44 w → X x0 x4 x7 x8 x10 x44 w) → X x0 x4 x7 x8 x10 x44 w

noncomputable def al1 (R : EP) (Xa : OA → Nat → Nat → BA → BA → Value → WP) : AC :=
  (.seq (.leaf (sel [1, 1, 1, 0, 1, 0, 1, 1, 1, 1, 0, 1, 0, 1, 1, 0, 0, 0] body)) (.seq (.leaf (sel [1, 1, 1, 0, 1, 0, 1, 1, 1, 1, 0, 1, 0, 1, 1, 0, 0, 1, 0] body)) (.block 1 (.seq (.leaf (sel [1, 1, 1, 0, 1, 0, 1, 1, 1, 1, 0, 1, 0, 1, 1, 0, 0, 1, 1, 0, 0] body)) (.seq (.leaf (sel [1, 1, 1, 0, 1, 0, 1, 1, 1, 1, 0, 1, 0, 1, 1, 0, 0, 1, 1, 0, 1, 0] body)) (.mark (leaf [(0, .s .ptr), (4, .s .loc), (7, .s .loc), (8, .s .str), (10, .s .str), (44, .s .any), (55, .s .bool)] (k3 R Xa)) (.leaf (sel [1, 1, 1, 0, 1, 0, 1, 1, 1, 1, 0, 1, 0, 1, 1, 0, 0, 1, 1, 0, 1, 1] body))))))))
def k1 (R : EP) (x0 : OA) (x4 : Nat) (x7 : Nat) (x8 : BA) (w : World) : Prop :=
 nilP x0 fun a44 =>
 ∃ (v45 : OA), w.cell? a44 = some (.pointer v45) ∧
 nilP v45 fun a46 =>
 ∃ (v47 : Bool), w.cell? a46 = some (.bool v47) ∧
 br v47
 (callE P i_extractID #[.pointer x0, .string x8] (fun e w49 => ∃ (r48_0 : BA), ∃ (r48_1 : BA), e = .returned (.tuple #[.string r48_0, .string r48_1]) ∧
 ∃ (r50 : Value), ∃ w51, (Instr.range ty_string (.string r48_0)).run P w49 = .ok r50 w51 ∧
 l1 R x0 x4 x7 r48_1 r48_0 r50 w51) w)
 (k2 R x0 x4 x7 x8 (ByteArray.mk #[]) w)

end g_newATXHeading
def g_newATXHeading (R : EP) (x0 : OA) (x1_0 : Int) (x1_1 : Int) (x1_2 : Int) (x1_3 : BA) (x1_4 : Int) (w : World) : Prop :=
 box w #[.int .i64 x1_0, .int .i64 x1_1, .int .i64 x1_2, .string x1_3, .int .u8 x1_4] ty_line fun b1 w2 =>
 box w2 #[.int .i64 0, .int .i64 0, .int .i64 0, .string (ByteArray.mk #[]), .int .u8 0] ty_line fun b3 w4 =>
 ∃ (v5 : Int), w4.cell? ⟨b1, 0, none⟩ = some (.int .i64 v5) ∧
 ∃ (v6 : Int), w4.cell? ⟨b1, 1, none⟩ = some (.int .i64 v6) ∧
 ∃ (v7 : Int), w4.cell? ⟨b1, 2, none⟩ = some (.int .i64 v7) ∧
 ∃ (v8 : BA), w4.cell? ⟨b1, 3, none⟩ = some (.string v8) ∧
 ∃ (v9 : Int), w4.cell? ⟨b1, 4, none⟩ = some (.int .u8 v9) ∧
 box w4 #[.int .i64 0, .int .i64 0, .int .i64 0, .string (ByteArray.mk #[]), .int .u8 0] ty_line fun b10 w11 =>
 stV w11 ⟨b10, 0, none⟩ (.int .i64 v5) fun w12 =>
 stV w12 ⟨b10, 1, none⟩ (.int .i64 v6) fun w13 =>
 stV w13 ⟨b10, 2, none⟩ (.int .i64 v7) fun w14 =>
 stV w14 ⟨b10, 3, none⟩ (.string v8) fun w15 =>
 stV w15 ⟨b10, 4, none⟩ (.int .u8 v9) fun w16 =>
 box w16 #[.int .i64 0] ty_int fun b17 w18 =>
 callE P i_line_trimHeading #[.pointer (some ⟨b10, 0, none⟩), .pointer (some ⟨b17, 0, none⟩)] (fun e w20 => ∃ (r19 : Bool), e = .returned (.bool r19) ∧
 br r19
 (callE P i_line_string #[.pointer (some ⟨b10, 0, none⟩)] (fun e w22 => ∃ (r21 : BA), e = .returned (.string r21) ∧
 callE P i_trimRightSpaceTab #[.string r21] (fun e w24 => ∃ (r23 : BA), e = .returned (.string r23) ∧
 callE P i_zzTrimRight #[.string r23, .string (ByteArray.mk #[35])] (fun e w26 => ∃ (r25 : BA), e = .returned (.string r25) ∧
 callE P i_trimRightSpaceTab #[.string r25] (fun e w28 => ∃ (r27 : BA), e = .returned (.string r27) ∧
 br ((!(r25.toList == r27.toList)) || (r25.toList == (ByteArray.mk #[]).toList))
 (g_newATXHeading.k1 R x0 b3 b17 r25 w28)
 (g_newATXHeading.k1 R x0 b3 b17 r23 w28)) w26) w24) w22) w20)
 (∃ (v29 : Int), w20.cell? ⟨b1, 0, none⟩ = some (.int .i64 v29) ∧
 ∃ (v30 : Int), w20.cell? ⟨b1, 1, none⟩ = some (.int .i64 v30) ∧
 ∃ (v31 : Int), w20.cell? ⟨b1, 2, none⟩ = some (.int .i64 v31) ∧
 ∃ (v32 : BA), w20.cell? ⟨b1, 3, none⟩ = some (.string v32) ∧
 ∃ (v33 : Int), w20.cell? ⟨b1, 4, none⟩ = some (.int .u8 v33) ∧
 stV w20 ⟨b3, 0, none⟩ (.int .i64 v29) fun w34 =>
 stV w34 ⟨b3, 1, none⟩ (.int .i64 v30) fun w35 =>
 stV w35 ⟨b3, 2, none⟩ (.int .i64 v31) fun w36 =>
 stV w36 ⟨b3, 3, none⟩ (.string v32) fun w37 =>
 stV w37 ⟨b3, 4, none⟩ (.int .u8 v33) fun w38 =>
 ∃ (v39 : Int), w38.cell? ⟨b3, 0, none⟩ = some (.int .i64 v39) ∧
 ∃ (v40 : Int), w38.cell? ⟨b3, 1, none⟩ = some (.int .i64 v40) ∧
 ∃ (v41 : Int), w38.cell? ⟨b3, 2, none⟩ = some (.int .i64 v41) ∧
 ∃ (v42 : BA), w38.cell? ⟨b3, 3, none⟩ = some (.string v42) ∧
 ∃ (v43 : Int), w38.cell? ⟨b3, 4, none⟩ = some (.int .u8 v43) ∧
 R (.returned (.tuple #[.agg #[.int .i64 v39, .int .i64 v40, .int .i64 v41, .string v42, .int .u8 v43], .bool false])) w38)) w18

noncomputable def g_newATXHeading.ac (R : EP) : AC :=
  (.seq (.leaf (sel [0] g_newATXHeading.body)) (.seq (.leaf (sel [1, 0] g_newATXHeading.body)) (.seq (.leaf (sel [1, 1, 0] g_newATXHeading.body)) (.seq (.seq (.leaf (sel [1, 1, 1, 0, 0] g_newATXHeading.body)) (.cond 15 (.seq (.leaf (sel [1, 1, 1, 0, 1, 0, 0] g_newATXHeading.body)) (.seq (.leaf (sel [1, 1, 1, 0, 1, 0, 1, 0] g_newATXHeading.body)) (.seq (.leaf (sel [1, 1, 1, 0, 1, 0, 1, 1, 0] g_newATXHeading.body)) (.mark (leaf [(0, .s .ptr), (4, .s .loc), (7, .s .loc), (8, .s .str)] (g_newATXHeading.k1 R)) (.seq (.leaf (sel [1, 1, 1, 0, 1, 0, 1, 1, 1, 0] g_newATXHeading.body)) (.seq (.seq (.leaf (sel [1, 1, 1, 0, 1, 0, 1, 1, 1, 1, 0, 0] g_newATXHeading.body)) (.cond 36 (.seq (.leaf (sel [1, 1, 1, 0, 1, 0, 1, 1, 1, 1, 0, 1, 0, 0] g_newATXHeading.body)) (.seq (.leaf (sel [1, 1, 1, 0, 1, 0, 1, 1, 1, 1, 0, 1, 0, 1, 0] g_newATXHeading.body)) (.block 0 (.loop (leaf [(0, .s .ptr), (4, .s .loc), (7, .s .loc), (8, .s .str), (10, .s .str), (44, .s .any)] (g_newATXHeading.l1 R)) (sel [1, 1, 1, 0, 1, 0, 1, 1, 1, 1, 0, 1, 0, 1, 1, 0, 0] g_newATXHeading.body))))) (.leaf (sel [1, 1, 1, 0, 1, 0, 1, 1, 1, 1, 0, 1, 1] g_newATXHeading.body)))) (.mark (leaf [(0, .s .ptr), (4, .s .loc), (7, .s .loc), (8, .s .str), (10, .s .str)] (g_newATXHeading.k2 R)) (.seq (.draw (.pure 0 (.pure 1 (.pure 2 (.pure 4 (.pure 5 (.pure 6 (.load 3 (.load 7 (.pure 8 (.one 9 (.one 10 .done))))))))))) (sel [1, 1, 1, 0, 1, 0, 1, 1, 1, 1, 1, 0] g_newATXHeading.body)) (.seq (.draw (.pure 0 (.pure 3 (.pure 5 (.pure 7 (.load 1 (.load 2 (.load 4 (.one 6 (.pure 8 (.one 9 (.pure 10 (.one 11 .done)))))))))))) (sel [1, 1, 1, 0, 1, 0, 1, 1, 1, 1, 1, 1, 0] g_newATXHeading.body)) (.leaf (sel [1, 1, 1, 0, 1, 0, 1, 1, 1, 1, 1, 1, 1] g_newATXHeading.body))))))))))) (.leaf (sel [1, 1, 1, 0, 1, 1] g_newATXHeading.body)))) (.leaf (sel [1, 1, 1, 1] g_newATXHeading.body))))))
theorem g_newATXHeading.good (R : EP) : Good P 82 (g_newATXHeading.ac R) (QF P [.cell 4 107, .tmp 5] R) :=
  ⟨trivial, ⟨trivial, ⟨trivial, ⟨⟨trivial, ⟨⟨trivial, ⟨trivial, ⟨trivial, ⟨⟨trivial, ⟨⟨trivial, ⟨⟨trivial, ⟨trivial, (loopG (g_newATXHeading.al1 R) (g_newATXHeading.bl1 R) (fun _ => by kernel_rfl) (fun Xa => ⟨trivial, ⟨trivial, ⟨trivial, ⟨trivial, ⟨trivial, cutE (by intro x0 x4 x7 x8 x10 x44 x55 ρ w; kernel_rfl)⟩⟩⟩⟩⟩) (fun Xa => by intro x0 x4 x7 x8 x10 x44 ρ w; kernel_rfl) (fun X h _ _ _ _ _ _ _ g => g X h))⟩⟩, trivial⟩⟩, ⟨⟨⟨by kernel_rfl, by kernel_rfl, fun _ _ _ h => h⟩, ⟨⟨by kernel_rfl, by kernel_rfl, fun _ _ _ h => h⟩, trivial⟩⟩, cutE (by intro x0 x4 x7 x8 x10 ρ w; kernel_rfl)⟩⟩⟩, cutE (by intro x0 x4 x7 x8 ρ w; kernel_rfl)⟩⟩⟩⟩, trivial⟩⟩, trivial⟩⟩⟩⟩
theorem g_newATXHeading.eq (R : EP) (x0 : OA) (x1_0 : Int) (x1_1 : Int) (x1_2 : Int) (x1_3 : BA) (x1_4 : Int) (w : World) : g_newATXHeading R x0 x1_0 x1_1 x1_2 x1_3 x1_4 w = vcA P 82 (g_newATXHeading.ac R) (QF P [.cell 4 107, .tmp 5] R) (fr0 [.pointer x0, .agg #[.int .i64 x1_0, .int .i64 x1_1, .int .i64 x1_2, .string x1_3, .int .u8 x1_4]]) w := by kernel_rfl
theorem g_newATXHeading.sound {R : EP} {x0 : OA} {x1_0 : Int} {x1_1 : Int} {x1_2 : Int} {x1_3 : ByteArray} {x1_4 : Int} {w : World} (h : g_newATXHeading R x0 x1_0 x1_1 x1_2 x1_3 x1_4 w) : callE P i_newATXHeading #[.pointer x0, .agg #[.int .i64 x1_0, .int .i64 x1_1, .int .i64 x1_2, .string x1_3, .int .u8 x1_4]] R w :=
  callE_fin (c := g_newATXHeading.body) Tryz.func90 Tryz.call90 (by kernel_rfl) (by kernel_rfl) (by kernel_rfl) (by kernel_rfl) (by kernel_rfl) (g_newATXHeading.good R) (g_newATXHeading.eq R x0 x1_0 x1_1 x1_2 x1_3 x1_4 w) h
namespace g_newHR
noncomputable def body : Code := bodyOf Tryz.f92
end g_newHR
def g_newHR (R : EP) (x0 : OA) (x1_0 : Int) (x1_1 : Int) (x1_2 : Int) (x1_3 : BA) (x1_4 : Int) (w : World) : Prop :=
 box w #[.int .i64 x1_0, .int .i64 x1_1, .int .i64 x1_2, .string x1_3, .int .u8 x1_4] ty_line fun b1 w2 =>
 box w2 #[.int .i64 0, .int .i64 0, .int .i64 0, .string (ByteArray.mk #[]), .int .u8 0] ty_line fun b3 w4 =>
 ∃ (v5 : Int), w4.cell? ⟨b1, 0, none⟩ = some (.int .i64 v5) ∧
 ∃ (v6 : Int), w4.cell? ⟨b1, 1, none⟩ = some (.int .i64 v6) ∧
 ∃ (v7 : Int), w4.cell? ⟨b1, 2, none⟩ = some (.int .i64 v7) ∧
 ∃ (v8 : BA), w4.cell? ⟨b1, 3, none⟩ = some (.string v8) ∧
 ∃ (v9 : Int), w4.cell? ⟨b1, 4, none⟩ = some (.int .u8 v9) ∧
 callE P i_isHR #[.agg #[.int .i64 v5, .int .i64 v6, .int .i64 v7, .string v8, .int .u8 v9]] (fun e w11 => ∃ (r10 : Bool), e = .returned (.bool r10) ∧
 br r10
 (tk w11 fun w12 =>
 nilP x0 fun a13 =>
 nilP x0 fun a14 =>
 ∃ (v15 : Int), w12.cell? (a13.add 3) = some (.int .i64 v15) ∧
 ∃ (v16 : Int), w12.cell? (a14.add 3) = some (.int .i64 v16) ∧
 callE P i_line_string #[.pointer (some ⟨b1, 0, none⟩)] (fun e w18 => ∃ (r17 : BA), e = .returned (.string r17) ∧
 SameC w12 w18 (a14.add 3) 1 ∧
 SameC w12 w18 (a13.add 3) 1 ∧
 box w18 #[.int .i64 v15, .int .i64 v16, .string r17] ty_ThematicBreak fun b19 w20 =>
 callE P i_parseState_doneBlock #[.pointer x0, .iface ty_P_ThematicBreak (.pointer (some ⟨b19, 0, none⟩))] (fun e w22 => e = .returned (.tuple #[]) ∧
 stV w22 ⟨b3, 0, none⟩ (.int .i64 0) fun w23 =>
 stV w23 ⟨b3, 1, none⟩ (.int .i64 0) fun w24 =>
 stV w24 ⟨b3, 2, none⟩ (.int .i64 0) fun w25 =>
 stV w25 ⟨b3, 3, none⟩ (.string (ByteArray.mk #[])) fun w26 =>
 stV w26 ⟨b3, 4, none⟩ (.int .u8 0) fun w27 =>
 ∃ (v28 : Int), w27.cell? ⟨b3, 0, none⟩ = some (.int .i64 v28) ∧
 ∃ (v29 : Int), w27.cell? ⟨b3, 1, none⟩ = some (.int .i64 v29) ∧
 ∃ (v30 : Int), w27.cell? ⟨b3, 2, none⟩ = some (.int .i64 v30) ∧
 ∃ (v31 : BA), w27.cell? ⟨b3, 3, none⟩ = some (.string v31) ∧
 ∃ (v32 : Int), w27.cell? ⟨b3, 4, none⟩ = some (.int .u8 v32) ∧
 R (.returned (.tuple #[.agg #[.int .i64 v28, .int .i64 v29, .int .i64 v30, .string v31, .int .u8 v32], .bool true])) w27) w20) w12)
 (∃ (v33 : Int), w11.cell? ⟨b1, 0, none⟩ = some (.int .i64 v33) ∧
 ∃ (v34 : Int), w11.cell? ⟨b1, 1, none⟩ = some (.int .i64 v34) ∧
 ∃ (v35 : Int), w11.cell? ⟨b1, 2, none⟩ = some (.int .i64 v35) ∧
 ∃ (v36 : BA), w11.cell? ⟨b1, 3, none⟩ = some (.string v36) ∧
 ∃ (v37 : Int), w11.cell? ⟨b1, 4, none⟩ = some (.int .u8 v37) ∧
 stV w11 ⟨b3, 0, none⟩ (.int .i64 v33) fun w38 =>
 stV w38 ⟨b3, 1, none⟩ (.int .i64 v34) fun w39 =>
 stV w39 ⟨b3, 2, none⟩ (.int .i64 v35) fun w40 =>
 stV w40 ⟨b3, 3, none⟩ (.string v36) fun w41 =>
 stV w41 ⟨b3, 4, none⟩ (.int .u8 v37) fun w42 =>
 ∃ (v43 : Int), w42.cell? ⟨b3, 0, none⟩ = some (.int .i64 v43) ∧
 ∃ (v44 : Int), w42.cell? ⟨b3, 1, none⟩ = some (.int .i64 v44) ∧
 ∃ (v45 : Int), w42.cell? ⟨b3, 2, none⟩ = some (.int .i64 v45) ∧
 ∃ (v46 : BA), w42.cell? ⟨b3, 3, none⟩ = some (.string v46) ∧
 ∃ (v47 : Int), w42.cell? ⟨b3, 4, none⟩ = some (.int .u8 v47) ∧
 R (.returned (.tuple #[.agg #[.int .i64 v43, .int .i64 v44, .int .i64 v45, .string v46, .int .u8 v47], .bool false])) w42)) w4

noncomputable def g_newHR.ac (R : EP) : AC :=
  (.seq (.leaf (sel [0] g_newHR.body)) (.seq (.seq (.leaf (sel [1, 0, 0] g_newHR.body)) (.cond 7 (.seq (.draw (.pure 0 (.pure 1 (.pure 2 (.pure 3 (.pure 5 (.pure 6 (.pure 7 (.load 4 (.load 8 (.pure 9 (.one 10 (.pure 11 (.one 12 (.pure 13 (.one 14 .done))))))))))))))) (sel [1, 0, 1, 0, 0] g_newHR.body)) (.leaf (sel [1, 0, 1, 0, 1] g_newHR.body))) (.leaf (sel [1, 0, 1, 1] g_newHR.body)))) (.leaf (sel [1, 1] g_newHR.body))))
theorem g_newHR.good (R : EP) : Good P 25 (g_newHR.ac R) (QF P [.cell 4 107, .tmp 5] R) :=
  ⟨trivial, ⟨⟨trivial, ⟨⟨⟨by kernel_rfl, by kernel_rfl, fun _ _ _ h => h⟩, trivial⟩, trivial⟩⟩, trivial⟩⟩
theorem g_newHR.eq (R : EP) (x0 : OA) (x1_0 : Int) (x1_1 : Int) (x1_2 : Int) (x1_3 : BA) (x1_4 : Int) (w : World) : g_newHR R x0 x1_0 x1_1 x1_2 x1_3 x1_4 w = vcA P 25 (g_newHR.ac R) (QF P [.cell 4 107, .tmp 5] R) (fr0 [.pointer x0, .agg #[.int .i64 x1_0, .int .i64 x1_1, .int .i64 x1_2, .string x1_3, .int .u8 x1_4]]) w := by kernel_rfl
theorem g_newHR.sound {R : EP} {x0 : OA} {x1_0 : Int} {x1_1 : Int} {x1_2 : Int} {x1_3 : ByteArray} {x1_4 : Int} {w : World} (h : g_newHR R x0 x1_0 x1_1 x1_2 x1_3 x1_4 w) : callE P i_newHR #[.pointer x0, .agg #[.int .i64 x1_0, .int .i64 x1_1, .int .i64 x1_2, .string x1_3, .int .u8 x1_4]] R w :=
  callE_fin (c := g_newHR.body) Tryz.func92 Tryz.call92 (by kernel_rfl) (by kernel_rfl) (by kernel_rfl) (by kernel_rfl) (by kernel_rfl) (g_newHR.good R) (g_newHR.eq R x0 x1_0 x1_1 x1_2 x1_3 x1_4 w) h
namespace g_newQuote
noncomputable def body : Code := bodyOf Tryz.f89
end g_newQuote
def g_newQuote (R : EP) (x0 : OA) (x1_0 : Int) (x1_1 : Int) (x1_2 : Int) (x1_3 : BA) (x1_4 : Int) (w : World) : Prop :=
 box w #[.int .i64 x1_0, .int .i64 x1_1, .int .i64 x1_2, .string x1_3, .int .u8 x1_4] ty_line fun b1 w2 =>
 box w2 #[.int .i64 0, .int .i64 0, .int .i64 0, .string (ByteArray.mk #[]), .int .u8 0] ty_line fun b3 w4 =>
 ∃ (v5 : Int), w4.cell? ⟨b1, 0, none⟩ = some (.int .i64 v5) ∧
 ∃ (v6 : Int), w4.cell? ⟨b1, 1, none⟩ = some (.int .i64 v6) ∧
 ∃ (v7 : Int), w4.cell? ⟨b1, 2, none⟩ = some (.int .i64 v7) ∧
 ∃ (v8 : BA), w4.cell? ⟨b1, 3, none⟩ = some (.string v8) ∧
 ∃ (v9 : Int), w4.cell? ⟨b1, 4, none⟩ = some (.int .u8 v9) ∧
 callE P i_trimQuote #[.agg #[.int .i64 v5, .int .i64 v6, .int .i64 v7, .string v8, .int .u8 v9]] (fun e w11 => ∃ (r10_0_0 : Int), ∃ (r10_0_1 : Int), ∃ (r10_0_2 : Int), ∃ (r10_0_3 : BA), ∃ (r10_0_4 : Int), ∃ (r10_1 : Bool), e = .returned (.tuple #[.agg #[.int .i64 r10_0_0, .int .i64 r10_0_1, .int .i64 r10_0_2, .string r10_0_3, .int .u8 r10_0_4], .bool r10_1]) ∧
 box w11 #[.int .i64 0, .int .i64 0, .int .i64 0, .string (ByteArray.mk #[]), .int .u8 0] ty_line fun b12 w13 =>
 stV w13 ⟨b12, 0, none⟩ (.int .i64 r10_0_0) fun w14 =>
 stV w14 ⟨b12, 1, none⟩ (.int .i64 r10_0_1) fun w15 =>
 stV w15 ⟨b12, 2, none⟩ (.int .i64 r10_0_2) fun w16 =>
 stV w16 ⟨b12, 3, none⟩ (.string r10_0_3) fun w17 =>
 stV w17 ⟨b12, 4, none⟩ (.int .u8 r10_0_4) fun w18 =>
 br r10_1
 (box w18 #[] ty_quoteBuilder fun b19 w20 =>
 callE P i_parseState_addBlock #[.pointer x0, .iface ty_P_quoteBuilder (.pointer (some ⟨b19, 0, none⟩))] (fun e w22 => e = .returned (.tuple #[]) ∧
 ∃ (v23 : Int), w22.cell? ⟨b12, 0, none⟩ = some (.int .i64 v23) ∧
 ∃ (v24 : Int), w22.cell? ⟨b12, 1, none⟩ = some (.int .i64 v24) ∧
 ∃ (v25 : Int), w22.cell? ⟨b12, 2, none⟩ = some (.int .i64 v25) ∧
 ∃ (v26 : BA), w22.cell? ⟨b12, 3, none⟩ = some (.string v26) ∧
 ∃ (v27 : Int), w22.cell? ⟨b12, 4, none⟩ = some (.int .u8 v27) ∧
 stV w22 ⟨b3, 0, none⟩ (.int .i64 v23) fun w28 =>
 stV w28 ⟨b3, 1, none⟩ (.int .i64 v24) fun w29 =>
 stV w29 ⟨b3, 2, none⟩ (.int .i64 v25) fun w30 =>
 stV w30 ⟨b3, 3, none⟩ (.string v26) fun w31 =>
 stV w31 ⟨b3, 4, none⟩ (.int .u8 v27) fun w32 =>
 ∃ (v33 : Int), w32.cell? ⟨b3, 0, none⟩ = some (.int .i64 v33) ∧
 ∃ (v34 : Int), w32.cell? ⟨b3, 1, none⟩ = some (.int .i64 v34) ∧
 ∃ (v35 : Int), w32.cell? ⟨b3, 2, none⟩ = some (.int .i64 v35) ∧
 ∃ (v36 : BA), w32.cell? ⟨b3, 3, none⟩ = some (.string v36) ∧
 ∃ (v37 : Int), w32.cell? ⟨b3, 4, none⟩ = some (.int .u8 v37) ∧
 R (.returned (.tuple #[.agg #[.int .i64 v33, .int .i64 v34, .int .i64 v35, .string v36, .int .u8 v37], .bool true])) w32) w20)
 (∃ (v38 : Int), w18.cell? ⟨b1, 0, none⟩ = some (.int .i64 v38) ∧
 ∃ (v39 : Int), w18.cell? ⟨b1, 1, none⟩ = some (.int .i64 v39) ∧
 ∃ (v40 : Int), w18.cell? ⟨b1, 2, none⟩ = some (.int .i64 v40) ∧
 ∃ (v41 : BA), w18.cell? ⟨b1, 3, none⟩ = some (.string v41) ∧
 ∃ (v42 : Int), w18.cell? ⟨b1, 4, none⟩ = some (.int .u8 v42) ∧
 stV w18 ⟨b3, 0, none⟩ (.int .i64 v38) fun w43 =>
 stV w43 ⟨b3, 1, none⟩ (.int .i64 v39) fun w44 =>
 stV w44 ⟨b3, 2, none⟩ (.int .i64 v40) fun w45 =>
 stV w45 ⟨b3, 3, none⟩ (.string v41) fun w46 =>
 stV w46 ⟨b3, 4, none⟩ (.int .u8 v42) fun w47 =>
 ∃ (v48 : Int), w47.cell? ⟨b3, 0, none⟩ = some (.int .i64 v48) ∧
 ∃ (v49 : Int), w47.cell? ⟨b3, 1, none⟩ = some (.int .i64 v49) ∧
 ∃ (v50 : Int), w47.cell? ⟨b3, 2, none⟩ = some (.int .i64 v50) ∧
 ∃ (v51 : BA), w47.cell? ⟨b3, 3, none⟩ = some (.string v51) ∧
 ∃ (v52 : Int), w47.cell? ⟨b3, 4, none⟩ = some (.int .u8 v52) ∧
 R (.returned (.tuple #[.agg #[.int .i64 v48, .int .i64 v49, .int .i64 v50, .string v51, .int .u8 v52], .bool false])) w47)) w4

noncomputable def g_newQuote.ac (R : EP) : AC :=
  (.leaf (sel [] g_newQuote.body))
theorem g_newQuote.good (R : EP) : Good P 20 (g_newQuote.ac R) (QF P [.cell 4 107, .tmp 5] R) :=
  trivial
theorem g_newQuote.eq (R : EP) (x0 : OA) (x1_0 : Int) (x1_1 : Int) (x1_2 : Int) (x1_3 : BA) (x1_4 : Int) (w : World) : g_newQuote R x0 x1_0 x1_1 x1_2 x1_3 x1_4 w = vcA P 20 (g_newQuote.ac R) (QF P [.cell 4 107, .tmp 5] R) (fr0 [.pointer x0, .agg #[.int .i64 x1_0, .int .i64 x1_1, .int .i64 x1_2, .string x1_3, .int .u8 x1_4]]) w := by kernel_rfl
theorem g_newQuote.sound {R : EP} {x0 : OA} {x1_0 : Int} {x1_1 : Int} {x1_2 : Int} {x1_3 : ByteArray} {x1_4 : Int} {w : World} (h : g_newQuote R x0 x1_0 x1_1 x1_2 x1_3 x1_4 w) : callE P i_newQuote #[.pointer x0, .agg #[.int .i64 x1_0, .int .i64 x1_1, .int .i64 x1_2, .string x1_3, .int .u8 x1_4]] R w :=
  callE_fin (c := g_newQuote.body) Tryz.func89 Tryz.call89 (by kernel_rfl) (by kernel_rfl) (by kernel_rfl) (by kernel_rfl) (by kernel_rfl) (g_newQuote.good R) (g_newQuote.eq R x0 x1_0 x1_1 x1_2 x1_3 x1_4 w) h
namespace g_isHR
noncomputable def body : Code := bodyOf Tryz.f144
def bl1 (R : EP) (Xa : Nat → Int → Int → WP) (x3 : Nat) (x4 : Int) (x5 : Int) (w : World) : Prop :=
 callE P i_line_trim #[.pointer (some ⟨x3, 0, none⟩), .int .u8 x4] (fun e w20 => ∃ (r19 : Bool), e = .returned (.bool r19) ∧
 br (!r19)
 (br (decide (x5 ≥ 3))
 (callE P i_line_eof #[.pointer (some ⟨x3, 0, none⟩)] (fun e w22 => ∃ (r21 : Bool), e = .returned (.bool r21) ∧
 R (.returned (.bool r21)) w22) w20)
 (R (.returned (.bool false)) w20))
 (callE P i_line_skipSpace #[.pointer (some ⟨x3, 0, none⟩)] (fun e w24 => e = .returned (.tuple #[]) ∧
 Xa x3 x4 (IntKind.i64.wrap (x5 + 1)) w24) w20)) w
def l1 (R : EP) (x3 : Nat) (x4 : Int) (x5 : Int) (w : World) : Prop :=
  ∀ X : Nat → Int → Int → WP, (∀ x3 x4 x5 w, bl1 R X x3 x4 x5 w → X x3 x4 x5 w) → X x3 x4 x5 w

noncomputable def al1 (R : EP) (Xa : Nat → Int → Int → WP) : AC :=
  (.leaf (sel [1, 1, 1, 0, 1, 1, 0, 1, 0, 0, 1, 0, 0] body))
def k1 (R : EP) (x3 : Nat) (x4 : Int) (x10 : Bool) (w : World) : Prop :=
 br x10
 (l1 R x3 x4 0 w)
 (R (.returned (.bool false)) w)

end g_isHR
def g_isHR (R : EP) (x0_0 : Int) (x0_1 : Int) (x0_2 : Int) (x0_3 : BA) (x0_4 : Int) (w : World) : Prop :=
 box w #[.int .i64 x0_0, .int .i64 x0_1, .int .i64 x0_2, .string x0_3, .int .u8 x0_4] ty_line fun b1 w2 =>
 ∃ (v3 : Int), w2.cell? ⟨b1, 0, none⟩ = some (.int .i64 v3) ∧
 ∃ (v4 : Int), w2.cell? ⟨b1, 1, none⟩ = some (.int .i64 v4) ∧
 ∃ (v5 : Int), w2.cell? ⟨b1, 2, none⟩ = some (.int .i64 v5) ∧
 ∃ (v6 : BA), w2.cell? ⟨b1, 3, none⟩ = some (.string v6) ∧
 ∃ (v7 : Int), w2.cell? ⟨b1, 4, none⟩ = some (.int .u8 v7) ∧
 box w2 #[.int .i64 0, .int .i64 0, .int .i64 0, .string (ByteArray.mk #[]), .int .u8 0] ty_line fun b8 w9 =>
 stV w9 ⟨b8, 0, none⟩ (.int .i64 v3) fun w10 =>
 stV w10 ⟨b8, 1, none⟩ (.int .i64 v4) fun w11 =>
 stV w11 ⟨b8, 2, none⟩ (.int .i64 v5) fun w12 =>
 stV w12 ⟨b8, 3, none⟩ (.string v6) fun w13 =>
 stV w13 ⟨b8, 4, none⟩ (.int .u8 v7) fun w14 =>
 callE P i_line_trimSpace #[.pointer (some ⟨b8, 0, none⟩), .int .i64 0, .int .i64 3, .bool false] (fun e w16 => ∃ (r15 : Bool), e = .returned (.bool r15) ∧
 callE P i_line_peek #[.pointer (some ⟨b8, 0, none⟩)] (fun e w18 => ∃ (r17 : Int), e = .returned (.int .u8 r17) ∧
 br (r17 == 45)
 (g_isHR.k1 R b8 r17 true w18)
 (br (r17 == 95)
 (g_isHR.k1 R b8 r17 true w18)
 (g_isHR.k1 R b8 r17 (r17 == 42) w18))) w16) w14

noncomputable def g_isHR.ac (R : EP) : AC :=
  (.seq (.leaf (sel [0] g_isHR.body)) (.seq (.leaf (sel [1, 0] g_isHR.body)) (.seq (.leaf (sel [1, 1, 0] g_isHR.body)) (.seq (.seq (.leaf (sel [1, 1, 1, 0, 0] g_isHR.body)) (.seq (.leaf (sel [1, 1, 1, 0, 1, 0] g_isHR.body)) (.block 0 (.seq (.leaf (sel [1, 1, 1, 0, 1, 1, 0, 0] g_isHR.body)) (.mark (leaf [(3, .s .loc), (4, .s (.int .u8)), (10, .s .bool)] (g_isHR.k1 R)) (.cond 10 (.seq (.seq (.leaf (sel [1, 1, 1, 0, 1, 1, 0, 1, 0, 0, 0] g_isHR.body)) (.block 1 (.loop (leaf [(3, .s .loc), (4, .s (.int .u8)), (5, .s (.int .i64))] (g_isHR.l1 R)) (sel [1, 1, 1, 0, 1, 1, 0, 1, 0, 0, 1, 0, 0] g_isHR.body)))) (.leaf (sel [1, 1, 1, 0, 1, 1, 0, 1, 0, 1] g_isHR.body))) (.leaf (sel [1, 1, 1, 0, 1, 1, 0, 1, 1] g_isHR.body)))))))) (.leaf (sel [1, 1, 1, 1] g_isHR.body))))))
theorem g_isHR.good (R : EP) : Good P 23 (g_isHR.ac R) (QF P [.tmp 2] R) :=
  ⟨trivial, ⟨trivial, ⟨trivial, ⟨⟨trivial, ⟨trivial, ⟨trivial, ⟨⟨⟨⟨trivial, (loopG (g_isHR.al1 R) (g_isHR.bl1 R) (fun _ => by kernel_rfl) (fun Xa => trivial) (fun Xa => by intro x3 x4 x5 ρ w; kernel_rfl) (fun X h _ _ _ _ g => g X h))⟩, trivial⟩, trivial⟩, cutE (by intro x3 x4 x10 ρ w; kernel_rfl)⟩⟩⟩⟩, trivial⟩⟩⟩⟩
theorem g_isHR.eq (R : EP) (x0_0 : Int) (x0_1 : Int) (x0_2 : Int) (x0_3 : BA) (x0_4 : Int) (w : World) : g_isHR R x0_0 x0_1 x0_2 x0_3 x0_4 w = vcA P 23 (g_isHR.ac R) (QF P [.tmp 2] R) (fr0 [.agg #[.int .i64 x0_0, .int .i64 x0_1, .int .i64 x0_2, .string x0_3, .int .u8 x0_4]]) w := by kernel_rfl
theorem g_isHR.sound {R : EP} {x0_0 : Int} {x0_1 : Int} {x0_2 : Int} {x0_3 : ByteArray} {x0_4 : Int} {w : World} (h : g_isHR R x0_0 x0_1 x0_2 x0_3 x0_4 w) : callE P i_isHR #[.agg #[.int .i64 x0_0, .int .i64 x0_1, .int .i64 x0_2, .string x0_3, .int .u8 x0_4]] R w :=
  callE_fin (c := g_isHR.body) Tryz.func144 Tryz.call144 (by kernel_rfl) (by kernel_rfl) (by kernel_rfl) (by kernel_rfl) (by kernel_rfl) (g_isHR.good R) (g_isHR.eq R x0_0 x0_1 x0_2 x0_3 x0_4 w) h
namespace g_trimQuote
noncomputable def body : Code := bodyOf Tryz.f131
end g_trimQuote
def g_trimQuote (R : EP) (x0_0 : Int) (x0_1 : Int) (x0_2 : Int) (x0_3 : BA) (x0_4 : Int) (w : World) : Prop :=
 box w #[.int .i64 x0_0, .int .i64 x0_1, .int .i64 x0_2, .string x0_3, .int .u8 x0_4] ty_line fun b1 w2 =>
 box w2 #[.int .i64 0, .int .i64 0, .int .i64 0, .string (ByteArray.mk #[]), .int .u8 0] ty_line fun b3 w4 =>
 ∃ (v5 : Int), w4.cell? ⟨b1, 0, none⟩ = some (.int .i64 v5) ∧
 ∃ (v6 : Int), w4.cell? ⟨b1, 1, none⟩ = some (.int .i64 v6) ∧
 ∃ (v7 : Int), w4.cell? ⟨b1, 2, none⟩ = some (.int .i64 v7) ∧
 ∃ (v8 : BA), w4.cell? ⟨b1, 3, none⟩ = some (.string v8) ∧
 ∃ (v9 : Int), w4.cell? ⟨b1, 4, none⟩ = some (.int .u8 v9) ∧
 box w4 #[.int .i64 0, .int .i64 0, .int .i64 0, .string (ByteArray.mk #[]), .int .u8 0] ty_line fun b10 w11 =>
 stV w11 ⟨b10, 0, none⟩ (.int .i64 v5) fun w12 =>
 stV w12 ⟨b10, 1, none⟩ (.int .i64 v6) fun w13 =>
 stV w13 ⟨b10, 2, none⟩ (.int .i64 v7) fun w14 =>
 stV w14 ⟨b10, 3, none⟩ (.string v8) fun w15 =>
 stV w15 ⟨b10, 4, none⟩ (.int .u8 v9) fun w16 =>
 callE P i_line_trimSpace #[.pointer (some ⟨b10, 0, none⟩), .int .i64 0, .int .i64 3, .bool false] (fun e w18 => ∃ (r17 : Bool), e = .returned (.bool r17) ∧
 callE P i_line_trim #[.pointer (some ⟨b10, 0, none⟩), .int .u8 62] (fun e w20 => ∃ (r19 : Bool), e = .returned (.bool r19) ∧
 br (!r19)
 (∃ (v21 : Int), w20.cell? ⟨b1, 0, none⟩ = some (.int .i64 v21) ∧
 ∃ (v22 : Int), w20.cell? ⟨b1, 1, none⟩ = some (.int .i64 v22) ∧
 ∃ (v23 : Int), w20.cell? ⟨b1, 2, none⟩ = some (.int .i64 v23) ∧
 ∃ (v24 : BA), w20.cell? ⟨b1, 3, none⟩ = some (.string v24) ∧
 ∃ (v25 : Int), w20.cell? ⟨b1, 4, none⟩ = some (.int .u8 v25) ∧
 stV w20 ⟨b3, 0, none⟩ (.int .i64 v21) fun w26 =>
 stV w26 ⟨b3, 1, none⟩ (.int .i64 v22) fun w27 =>
 stV w27 ⟨b3, 2, none⟩ (.int .i64 v23) fun w28 =>
 stV w28 ⟨b3, 3, none⟩ (.string v24) fun w29 =>
 stV w29 ⟨b3, 4, none⟩ (.int .u8 v25) fun w30 =>
 ∃ (v31 : Int), w30.cell? ⟨b3, 0, none⟩ = some (.int .i64 v31) ∧
 ∃ (v32 : Int), w30.cell? ⟨b3, 1, none⟩ = some (.int .i64 v32) ∧
 ∃ (v33 : Int), w30.cell? ⟨b3, 2, none⟩ = some (.int .i64 v33) ∧
 ∃ (v34 : BA), w30.cell? ⟨b3, 3, none⟩ = some (.string v34) ∧
 ∃ (v35 : Int), w30.cell? ⟨b3, 4, none⟩ = some (.int .u8 v35) ∧
 R (.returned (.tuple #[.agg #[.int .i64 v31, .int .i64 v32, .int .i64 v33, .string v34, .int .u8 v35], .bool false])) w30)
 (callE P i_line_trimSpace #[.pointer (some ⟨b10, 0, none⟩), .int .i64 0, .int .i64 1, .bool true] (fun e w37 => ∃ (r36 : Bool), e = .returned (.bool r36) ∧
 ∃ (v38 : Int), w37.cell? ⟨b10, 0, none⟩ = some (.int .i64 v38) ∧
 ∃ (v39 : Int), w37.cell? ⟨b10, 1, none⟩ = some (.int .i64 v39) ∧
 ∃ (v40 : Int), w37.cell? ⟨b10, 2, none⟩ = some (.int .i64 v40) ∧
 ∃ (v41 : BA), w37.cell? ⟨b10, 3, none⟩ = some (.string v41) ∧
 ∃ (v42 : Int), w37.cell? ⟨b10, 4, none⟩ = some (.int .u8 v42) ∧
 stV w37 ⟨b3, 0, none⟩ (.int .i64 v38) fun w43 =>
 stV w43 ⟨b3, 1, none⟩ (.int .i64 v39) fun w44 =>
 stV w44 ⟨b3, 2, none⟩ (.int .i64 v40) fun w45 =>
 stV w45 ⟨b3, 3, none⟩ (.string v41) fun w46 =>
 stV w46 ⟨b3, 4, none⟩ (.int .u8 v42) fun w47 =>
 ∃ (v48 : Int), w47.cell? ⟨b3, 0, none⟩ = some (.int .i64 v48) ∧
 ∃ (v49 : Int), w47.cell? ⟨b3, 1, none⟩ = some (.int .i64 v49) ∧
 ∃ (v50 : Int), w47.cell? ⟨b3, 2, none⟩ = some (.int .i64 v50) ∧
 ∃ (v51 : BA), w47.cell? ⟨b3, 3, none⟩ = some (.string v51) ∧
 ∃ (v52 : Int), w47.cell? ⟨b3, 4, none⟩ = some (.int .u8 v52) ∧
 R (.returned (.tuple #[.agg #[.int .i64 v48, .int .i64 v49, .int .i64 v50, .string v51, .int .u8 v52], .bool true])) w47) w20)) w18) w16

noncomputable def g_trimQuote.ac (R : EP) : AC :=
  (.leaf (sel [] g_trimQuote.body))
theorem g_trimQuote.good (R : EP) : Good P 12 (g_trimQuote.ac R) (QF P [.cell 2 107, .tmp 3] R) :=
  trivial
theorem g_trimQuote.eq (R : EP) (x0_0 : Int) (x0_1 : Int) (x0_2 : Int) (x0_3 : BA) (x0_4 : Int) (w : World) : g_trimQuote R x0_0 x0_1 x0_2 x0_3 x0_4 w = vcA P 12 (g_trimQuote.ac R) (QF P [.cell 2 107, .tmp 3] R) (fr0 [.agg #[.int .i64 x0_0, .int .i64 x0_1, .int .i64 x0_2, .string x0_3, .int .u8 x0_4]]) w := by kernel_rfl
theorem g_trimQuote.sound {R : EP} {x0_0 : Int} {x0_1 : Int} {x0_2 : Int} {x0_3 : ByteArray} {x0_4 : Int} {w : World} (h : g_trimQuote R x0_0 x0_1 x0_2 x0_3 x0_4 w) : callE P i_trimQuote #[.agg #[.int .i64 x0_0, .int .i64 x0_1, .int .i64 x0_2, .string x0_3, .int .u8 x0_4]] R w :=
  callE_fin (c := g_trimQuote.body) Tryz.func131 Tryz.call131 (by kernel_rfl) (by kernel_rfl) (by kernel_rfl) (by kernel_rfl) (by kernel_rfl) (g_trimQuote.good R) (g_trimQuote.eq R x0_0 x0_1 x0_2 x0_3 x0_4 w) h
namespace g_parseState_addBlock
noncomputable def body : Code := bodyOf Tryz.f51
end g_parseState_addBlock
def g_parseState_addBlock (R : EP) (x0 : OA) (x1 : Value) (w : World) : Prop :=
 nilP x0 fun a1 =>
 ∃ (v2 : Int), w.cell? (a1.add 5) = some (.int .i64 v2) ∧
 callE P i_parseState_trimStack #[.pointer x0, .int .i64 (IntKind.i64.wrap (v2 + 1))] (fun e w4 => e = .returned (.tuple #[]) ∧
 nilP x0 fun a5 =>
 ∃ (v6q : OA), ∃ (v6n : Nat), ∃ (v6c : Nat), w4.cell? (a5.add 4) = some (.slice v6q v6n v6c) ∧
 ∃ (r7q : OA), ∃ (r7n : Nat), ∃ (r7c : Nat), ∃ w8, (Instr.buildSlice ty_S_openBlock 1 #[(0, .agg #[.nilIface, .slice none 0 0, .int .i64 0, .int .i64 0])]).run P w4 = .ok (.slice r7q r7n r7c) w8 ∧
 ∃ (r9q : OA), ∃ (r9n : Nat), ∃ (r9c : Nat), ∃ w10, (Builtin.append_ #[ty_S_openBlock, ty_S_openBlock] ty_S_openBlock #[.slice v6q v6n v6c, .slice r7q r7n r7c]).run P w8 = .ok (.slice r9q r9n r9c) w10 ∧
 nilP x0 fun a11 =>
 stV w10 ((a11.add 4).add 0) (.slice r9q r9n r9c) fun w12 =>
 tk w12 fun w13 =>
 nilP x0 fun a14 =>
 nilP x0 fun a15 =>
 ∃ (v16q : OA), ∃ (v16n : Nat), ∃ (v16c : Nat), w13.cell? (a14.add 4) = some (.slice v16q v16n v16c) ∧
 ∃ (v17q : OA), ∃ (v17n : Nat), ∃ (v17c : Nat), w13.cell? (a15.add 4) = some (.slice v17q v17n v17c) ∧
 0 ≤ (IntKind.i64.wrap ((v17n : Int) - 1)) ∧ (IntKind.i64.wrap ((v17n : Int) - 1)) < (v16n : Int) ∧
 nilP v16q fun a18 =>
 cellV x1 (
 stV w13 ((a18.add (Int.toNat (IntKind.i64.wrap ((v17n : Int) - 1)) * 4)).add 0) x1 fun w19 =>
 nilP x0 fun a20 =>
 ∃ (v21 : Int), w19.cell? (a20.add 3) = some (.int .i64 v21) ∧
 stV w19 (((a18.add (Int.toNat (IntKind.i64.wrap ((v17n : Int) - 1)) * 4)).add 2).add 0) (.int .i64 v21) fun w22 =>
 nilP x0 fun a23 =>
 ∃ (v24 : Int), w22.cell? (a23.add 3) = some (.int .i64 v24) ∧
 stV w22 ((((a18.add (Int.toNat (IntKind.i64.wrap ((v17n : Int) - 1)) * 4)).add 2).add 1).add 0) (.int .i64 v24) fun w25 =>
 R (.returned (.tuple #[])) w25)) w

noncomputable def g_parseState_addBlock.ac (R : EP) : AC :=
  (.seq (.leaf (sel [0] g_parseState_addBlock.body)) (.seq (.leaf (sel [1, 0] g_parseState_addBlock.body)) (.seq (.draw (.pure 0 (.pure 1 (.pure 2 (.pure 4 (.pure 5 (.pure 6 (.load 3 (.load 7 (.pure 8 (.pure 9 (.pure 10 (.pure 11 .done)))))))))))) (sel [1, 1, 0] g_parseState_addBlock.body)) (.leaf (sel [1, 1, 1] g_parseState_addBlock.body)))))
theorem g_parseState_addBlock.good (R : EP) : Good P 53 (g_parseState_addBlock.ac R) (QF P [] R) :=
  ⟨trivial, ⟨trivial, ⟨⟨by kernel_rfl, by kernel_rfl, fun _ _ _ h => h⟩, trivial⟩⟩⟩
theorem g_parseState_addBlock.eq (R : EP) (x0 : OA) (x1 : Value) (w : World) : g_parseState_addBlock R x0 x1 w = vcA P 53 (g_parseState_addBlock.ac R) (QF P [] R) (fr0 [.pointer x0, x1]) w := by kernel_rfl
theorem g_parseState_addBlock.sound {R : EP} {x0 : OA} {x1 : Value} {w : World} (h : g_parseState_addBlock R x0 x1 w) : callE P i_parseState_addBlock #[.pointer x0, x1] R w :=
  callE_fin (c := g_parseState_addBlock.body) Tryz.func51 Tryz.call51 (by kernel_rfl) (by kernel_rfl) (by kernel_rfl) (by kernel_rfl) (by kernel_rfl) (g_parseState_addBlock.good R) (g_parseState_addBlock.eq R x0 x1 w) h
end Go.Proofs.YtejiaegiijokcaaGreatDoor

set_option linter.unusedVariables false
namespace Go.Proofs.YtejiaegiijokcaaGreatDoor
open Go.Proofs Go.IntWalk
variable {σ : Out} {w : World} {L L' : List Chunk} {R : Ending → World → Prop}

theorem addBlock_ok {b : Nat} {p : PS} {l : List OB} {M : List Chunk} {t : TypeId} {v : Value} (h : Sat σ w (p.at b :: M ++ L)) (hs : Stk p l M) (hd : p.depth + 1 = l.length)
    (hl : l.length < 1048575)
    (hR : ∀ w p' M', p' = { p with stq := p'.stq, stn := l.length + 1, stc := p'.stc } → Stk p' (l ++ [⟨.iface t v, none, 0, 0, p.lineno, p.lineno⟩]) M' → Sat σ w (p'.at b :: M' ++ L) → R (.returned (.tuple #[])) w) :
    callE P i_parseState_addBlock #[.pointer (some ⟨b, 0, none⟩), .iface t v] R w := by
  have hn := hs.2.1
  refine g_parseState_addBlock.sound ?_
  repeat (first | refine nilP_some ?_ | refine Sat.tk h fun w h => ?_ | refine ⟨_, Sat.ld h (by first | assumption | (repeat (first | exact .head _ | apply List.Mem.tail))) (by exact rfl), ?_⟩ | refine ⟨_, _, _, Sat.ld h (by first | assumption | (repeat (first | exact .head _ | apply List.Mem.tail))) (by exact rfl), ?_⟩)
  rw [show IntKind.i64.wrap (p.depth + 1) = p.depth + 1 by rw [hd]; exact i64_in _ (by omega)]
  refine trimStack_noop h (by rw [hd, hn]) fun w h => ⟨rfl, ?_⟩
  repeat (first | refine nilP_some ?_ | refine Sat.tk h fun w h => ?_ | refine ⟨_, Sat.ld h (by first | assumption | (repeat (first | exact .head _ | apply List.Mem.tail))) (by exact rfl), ?_⟩ | refine ⟨_, _, _, Sat.ld h (by first | assumption | (repeat (first | exact .head _ | apply List.Mem.tail))) (by exact rfl), ?_⟩)
  have h : Sat σ w (M ++ (p.at b :: L)) := h.re (by intro _; simp only [List.append_eq, cnt_append, cnt_cons, cnt_nil] <;> omega)
  refine Sat.app1 rowOB hs.1 h (v := .agg #[.nilIface, .slice none 0 0, .int .i64 0, .int .i64 0]) rfl (by decide) (by kernel_rfl) (by omega) (by omega) (by decide) fun q' c' w M' hs' h => ?_
  have h : Sat σ w (p.at b :: M' ++ L) := h.re (by intro _; simp only [List.append_eq, cnt_append, cnt_cons, cnt_nil] <;> omega)
  let p' : PS := { p with stq := q', stn := l.length + 1, stc := c' }
  rw [hn] at hs' ⊢
  (first | refine nilP_some ?_ | refine Sat.tk h fun w h => ?_ | refine ⟨_, Sat.ld h (by first | assumption | (repeat (first | exact .head _ | apply List.Mem.tail))) (by exact rfl), ?_⟩ | refine ⟨_, _, _, Sat.ld h (by first | assumption | (repeat (first | exact .head _ | apply List.Mem.tail))) (by exact rfl), ?_⟩ | refine Sat.st h (k := 0) rfl (Nat.le_of_ble_eq_true rfl) trivial (by first | (dsimp only [List.set]; exact rfl) | exact rfl) fun w h => ?_ | refine Sat.st h (k := 1) rfl (Nat.le_of_ble_eq_true rfl) trivial (by first | (dsimp only [List.set]; exact rfl) | exact rfl) fun w h => ?_ | refine Sat.st h (k := 2) rfl (Nat.le_of_ble_eq_true rfl) trivial (by first | (dsimp only [List.set]; exact rfl) | exact rfl) fun w h => ?_ | refine Sat.st h (k := 3) rfl (Nat.le_of_ble_eq_true rfl) trivial (by first | (dsimp only [List.set]; exact rfl) | exact rfl) fun w h => ?_ | refine Sat.st h (k := 4) rfl (Nat.le_of_ble_eq_true rfl) trivial (by first | (dsimp only [List.set]; exact rfl) | exact rfl) fun w h => ?_ | refine Sat.st h (k := 5) rfl (Nat.le_of_ble_eq_true rfl) trivial (by first | (dsimp only [List.set]; exact rfl) | exact rfl) fun w h => ?_ | refine Sat.st h (k := 6) rfl (Nat.le_of_ble_eq_true rfl) trivial (by first | (dsimp only [List.set]; exact rfl) | exact rfl) fun w h => ?_ | refine Sat.bx h fun b0 w h => ?_)
  (first | refine nilP_some ?_ | refine Sat.tk h fun w h => ?_ | refine ⟨_, Sat.ld h (by first | assumption | (repeat (first | exact .head _ | apply List.Mem.tail))) (by exact rfl), ?_⟩ | refine ⟨_, _, _, Sat.ld h (by first | assumption | (repeat (first | exact .head _ | apply List.Mem.tail))) (by exact rfl), ?_⟩ | refine Sat.st h (k := 0) rfl (Nat.le_of_ble_eq_true rfl) trivial (by first | (dsimp only [List.set]; exact rfl) | exact rfl) fun w h => ?_ | refine Sat.st h (k := 1) rfl (Nat.le_of_ble_eq_true rfl) trivial (by first | (dsimp only [List.set]; exact rfl) | exact rfl) fun w h => ?_ | refine Sat.st h (k := 2) rfl (Nat.le_of_ble_eq_true rfl) trivial (by first | (dsimp only [List.set]; exact rfl) | exact rfl) fun w h => ?_ | refine Sat.st h (k := 3) rfl (Nat.le_of_ble_eq_true rfl) trivial (by first | (dsimp only [List.set]; exact rfl) | exact rfl) fun w h => ?_ | refine Sat.st h (k := 4) rfl (Nat.le_of_ble_eq_true rfl) trivial (by first | (dsimp only [List.set]; exact rfl) | exact rfl) fun w h => ?_ | refine Sat.st h (k := 5) rfl (Nat.le_of_ble_eq_true rfl) trivial (by first | (dsimp only [List.set]; exact rfl) | exact rfl) fun w h => ?_ | refine Sat.st h (k := 6) rfl (Nat.le_of_ble_eq_true rfl) trivial (by first | (dsimp only [List.set]; exact rfl) | exact rfl) fun w h => ?_ | refine Sat.bx h fun b0 w h => ?_)
  have h : Sat σ w (p'.at b :: M' ++ L) := h
  have hs2 : Stk p' (l ++ [⟨.nilIface, none, 0, 0, 0, 0⟩]) M' := by
    refine ⟨?_, by simp [p'], by simp; omega⟩
    rw [obCells_snoc]
    exact hs'
  obtain ⟨sb, sp, hq, rfl, hsp⟩ := hs2.split (by simp)
  repeat (first | refine nilP_some ?_ | refine Sat.tk h fun w h => ?_ | refine ⟨_, Sat.ld h (by first | assumption | (repeat (first | exact .head _ | apply List.Mem.tail))) (by exact rfl), ?_⟩ | refine ⟨_, _, _, Sat.ld h (by first | assumption | (repeat (first | exact .head _ | apply List.Mem.tail))) (by exact rfl), ?_⟩)
  rw [show p'.stn = l.length + 1 from rfl, len_dec (by omega)]
  refine ⟨by omega, by omega, ?_⟩
  rw [hq]
  refine nilP_some ?_
  dsimp only [cellV]
  simp only [Addr.add_lit, Nat.zero_add, Int.toNat_natCast, Nat.add_zero]
  have hlen : ∀ (o : OB) (sp : List Value) f, f < 4 → l.length * 4 + f < (obCells (l ++ [o]) ++ sp).length := by
    intro o sp f hf
    rw [List.length_append, obCells_length, List.length_append, List.length_singleton]; omega
  refine Sat.st h (k := 1) rfl (by have := hlen ⟨.nilIface, none, 0, 0, 0, 0⟩ sp 0 (by decide); simpa using this) trivial rfl fun w h => ?_
  have h : Sat σ w (p'.at b :: [(sb, cel (obCells (l ++ [⟨.iface t v, none, 0, 0, 0, 0⟩]) ++ sp) ty_openBlock)] ++ L) := by
    have e := stk_set (l := l) (sp := sp) (o := ⟨.nilIface, none, 0, 0, 0, 0⟩) (o' := ⟨.iface t v, none, 0, 0, 0, 0⟩) (f := 0) (v := .iface t v) (by decide) rfl
    rw [Nat.add_zero] at e
    rw [e] at h
    exact h
  repeat (first | refine nilP_some ?_ | refine Sat.tk h fun w h => ?_ | refine ⟨_, Sat.ld h (by first | assumption | (repeat (first | exact .head _ | apply List.Mem.tail))) (by exact rfl), ?_⟩ | refine ⟨_, _, _, Sat.ld h (by first | assumption | (repeat (first | exact .head _ | apply List.Mem.tail))) (by exact rfl), ?_⟩)
  refine Sat.st h (k := 1) rfl (hlen _ sp 2 (by decide)) trivial rfl fun w h => ?_
  have h : Sat σ w (p'.at b :: [(sb, cel (obCells (l ++ [⟨.iface t v, none, 0, 0, p.lineno, 0⟩]) ++ sp) ty_openBlock)] ++ L) := by
    have e := stk_set (l := l) (sp := sp) (o := ⟨.iface t v, none, 0, 0, 0, 0⟩) (o' := ⟨.iface t v, none, 0, 0, p.lineno, 0⟩) (f := 2) (v := .int .i64 p.lineno) (by decide) rfl
    have h := h
    rw [e] at h
    exact h
  repeat (first | refine nilP_some ?_ | refine Sat.tk h fun w h => ?_ | refine ⟨_, Sat.ld h (by first | assumption | (repeat (first | exact .head _ | apply List.Mem.tail))) (by exact rfl), ?_⟩ | refine ⟨_, _, _, Sat.ld h (by first | assumption | (repeat (first | exact .head _ | apply List.Mem.tail))) (by exact rfl), ?_⟩)
  refine Sat.st h (k := 1) rfl (hlen _ sp 3 (by decide)) trivial rfl fun w h => ?_
  have h : Sat σ w (p'.at b :: [(sb, cel (obCells (l ++ [⟨.iface t v, none, 0, 0, p.lineno, p.lineno⟩]) ++ sp) ty_openBlock)] ++ L) := by
    have e := stk_set (l := l) (sp := sp) (o := ⟨.iface t v, none, 0, 0, p.lineno, 0⟩) (o' := ⟨.iface t v, none, 0, 0, p.lineno, p.lineno⟩) (f := 3) (v := .int .i64 p.lineno) (by decide) rfl
    have h := h
    rw [e] at h
    exact h
  refine hR _ p' _ rfl ?_ h
  refine Stk.mk' hq ?_ (by simp [p']) (by simp; omega)
  rw [← hsp, List.length_append, List.length_append, obCells_length, obCells_length, List.length_append, List.length_append]
  rfl
end Go.Proofs.YtejiaegiijokcaaGreatDoor


set_option linter.unusedVariables false
namespace Go.Proofs.YtejiaegiijokcaaGreatDoor
open Go.Proofs Go.IntWalk
variable {σ : Out} {w : World} {L L' : List Chunk} {R : Ending → World → Prop}

theorem Ln.tsGo_ok {min : Nat} {eol : Bool} : ∀ (k n : Nat) {l l' : Ln}, l.ok → l.tsGo min eol k n = some l' → l'.ok ∧ l'.text = l.text ∧ l'.nl = l.nl
  | 0, n, l, l', hl, h => by simp only [Ln.tsGo, Option.some.injEq] at h; subst h; exact ⟨hl, rfl, rfl⟩
  | k + 1, n, l, l', hl, h => by
    have h1 := hl.i; have h2 := hl.tab; have h3 := hl.sp
    simp only [Ln.tsGo] at h
    split at h
    · exact tsGo_ok k _ (l := { l with sp := l.sp - 1 }) ⟨h1, h2, hl.len, by simp; omega⟩ h
    · split at h
      · exact tsGo_ok k _ hl h
      · split at h
        · rename_i hg
          have := (List.getElem?_eq_some_iff.1 hg).1
          exact tsGo_ok k _ (l := { l with sp := 3 - (l.i - l.tab) % 4, i := l.i + 1, tab := l.i + 1 }) ⟨by simp; omega, by simp, hl.len, by simp⟩ h
        · split at h
          · rename_i hg
            have := (List.getElem?_eq_some_iff.1 hg).1
            exact tsGo_ok k _ (l := { l with i := l.i + 1 }) ⟨by simp; omega, by simp; omega, hl.len, h3⟩ h
          · split at h
            · cases h; exact ⟨hl, rfl, rfl⟩
            · cases h
theorem Ln.tsGo_some {eol : Bool} : ∀ (k n : Nat) (l : Ln), ∃ l', l.tsGo 0 eol k n = some l'
  | 0, n, l => ⟨l, rfl⟩
  | k + 1, n, l => by
    simp only [Ln.tsGo]
    split
    · exact tsGo_some k _ _
    · split
      · exact tsGo_some k _ _
      · split
        · exact tsGo_some k _ _
        · split
          · exact tsGo_some k _ _
          · exact ⟨l, by simp⟩
theorem Ln.trimSp_ok {min max : Nat} {eol : Bool} {l l' : Ln} (hl : l.ok) (h : l.trimSp min max eol = some l') : l'.ok := (Ln.tsGo_ok max 0 hl h).1
def Ln.lead (m : Nat) (eol : Bool) (l : Ln) : Ln := (l.trimSp 0 m eol).getD l
theorem Ln.lead_eq (m : Nat) (eol : Bool) (l : Ln) : l.trimSp 0 m eol = some (l.lead m eol) := by
  obtain ⟨l', h⟩ := Ln.tsGo_some (eol := eol) m 0 l
  rw [Ln.lead, Ln.trimSp, h]; rfl
theorem Ln.lead_ok {m : Nat} {eol : Bool} {l : Ln} (hl : l.ok) : (l.lead m eol).ok := Ln.trimSp_ok hl (l.lead_eq m eol)
theorem lead_ok {b : Nat} {l : Ln} {max : Nat} {eol : Bool} (h : Sat σ w (l.at b :: L)) (hl : l.ok) (h2 : max < 4611686018427387904)
    (hR : ∀ w, Sat σ w ((l.lead max eol).at b :: L) → R (.returned (.bool true)) w) :
    callE P i_line_trimSpace #[.pointer (some ⟨b, 0, none⟩), .int .i64 0, .int .i64 max, .bool eol] R w := by
  refine YtejiaegiijokcaaGreatDoor.trimSp_ok (min := 0) h hl (by omega) h2 ?_
  rw [Ln.lead_eq]
  exact hR

abbrev Ln.val (l : Ln) : Value := .agg #[.int .i64 l.sp, .int .i64 l.i, .int .i64 l.tab, .string (bs l.text), .int .u8 l.nl.toNat]

def Ln.quote (l : Ln) : Option Ln := ((l.lead 3 false).trimC 62).map fun t => t.lead 1 true
theorem trimQuote_ok {l : Ln} (h : Sat σ w L) (hl : l.ok)
    (hR : match l.quote with
      | some l' => ∀ w, Sat σ w L → R (.returned (.tuple #[l'.val, .bool true])) w
      | none => ∀ w, Sat σ w L → R (.returned (.tuple #[l.val, .bool false])) w) : callE P i_trimQuote #[l.val] R w := by
  refine g_trimQuote.sound ?_
  refine Sat.bx h fun b1 w h => ?_
  refine Sat.bx h fun b3 w h => ?_
  repeat (first | refine nilP_some ?_ | refine Sat.tk h fun w h => ?_ | refine ⟨_, Sat.ld h (by first | assumption | (repeat (first | exact .head _ | apply List.Mem.tail))) (by exact rfl), ?_⟩ | refine ⟨_, _, _, Sat.ld h (by first | assumption | (repeat (first | exact .head _ | apply List.Mem.tail))) (by exact rfl), ?_⟩ | refine Sat.st h (k := 0) rfl (Nat.le_of_ble_eq_true rfl) trivial (by first | (dsimp only [List.set]; exact rfl) | exact rfl) fun w h => ?_ | refine Sat.st h (k := 1) rfl (Nat.le_of_ble_eq_true rfl) trivial (by first | (dsimp only [List.set]; exact rfl) | exact rfl) fun w h => ?_ | refine Sat.st h (k := 2) rfl (Nat.le_of_ble_eq_true rfl) trivial (by first | (dsimp only [List.set]; exact rfl) | exact rfl) fun w h => ?_ | refine Sat.st h (k := 3) rfl (Nat.le_of_ble_eq_true rfl) trivial (by first | (dsimp only [List.set]; exact rfl) | exact rfl) fun w h => ?_ | refine Sat.st h (k := 4) rfl (Nat.le_of_ble_eq_true rfl) trivial (by first | (dsimp only [List.set]; exact rfl) | exact rfl) fun w h => ?_ | refine Sat.st h (k := 5) rfl (Nat.le_of_ble_eq_true rfl) trivial (by first | (dsimp only [List.set]; exact rfl) | exact rfl) fun w h => ?_ | refine Sat.st h (k := 6) rfl (Nat.le_of_ble_eq_true rfl) trivial (by first | (dsimp only [List.set]; exact rfl) | exact rfl) fun w h => ?_ | refine Sat.bx h fun b0 w h => ?_)
  have h : Sat σ _ (l.at b0 :: (b3, cel [.int .i64 0, .int .i64 0, .int .i64 0, .string (bs []), .int .u8 0] ty_line) :: l.at b1 :: L) := h
  refine lead_ok (max := 3) h hl (by decide) fun w h => ⟨_, rfl, ?_⟩
  refine trimC_ok (c := 62) rfl h (Ln.lead_ok hl) ?_
  simp only [Ln.quote] at hR
  cases hq : (l.lead 3 false).trimC 62 with
  | none =>
    rw [hq] at hR
    intro w h
    refine ⟨_, rfl, br_true rfl ?_⟩
    repeat (first | refine nilP_some ?_ | refine Sat.tk h fun w h => ?_ | refine ⟨_, Sat.ld h (by first | assumption | (repeat (first | exact .head _ | apply List.Mem.tail))) (by exact rfl), ?_⟩ | refine ⟨_, _, _, Sat.ld h (by first | assumption | (repeat (first | exact .head _ | apply List.Mem.tail))) (by exact rfl), ?_⟩ | refine Sat.st h (k := 0) rfl (Nat.le_of_ble_eq_true rfl) trivial (by first | (dsimp only [List.set]; exact rfl) | exact rfl) fun w h => ?_ | refine Sat.st h (k := 1) rfl (Nat.le_of_ble_eq_true rfl) trivial (by first | (dsimp only [List.set]; exact rfl) | exact rfl) fun w h => ?_ | refine Sat.st h (k := 2) rfl (Nat.le_of_ble_eq_true rfl) trivial (by first | (dsimp only [List.set]; exact rfl) | exact rfl) fun w h => ?_ | refine Sat.st h (k := 3) rfl (Nat.le_of_ble_eq_true rfl) trivial (by first | (dsimp only [List.set]; exact rfl) | exact rfl) fun w h => ?_ | refine Sat.st h (k := 4) rfl (Nat.le_of_ble_eq_true rfl) trivial (by first | (dsimp only [List.set]; exact rfl) | exact rfl) fun w h => ?_ | refine Sat.st h (k := 5) rfl (Nat.le_of_ble_eq_true rfl) trivial (by first | (dsimp only [List.set]; exact rfl) | exact rfl) fun w h => ?_ | refine Sat.st h (k := 6) rfl (Nat.le_of_ble_eq_true rfl) trivial (by first | (dsimp only [List.set]; exact rfl) | exact rfl) fun w h => ?_ | refine Sat.bx h fun b0 w h => ?_)
    exact hR _ h.tail.tail.tail
  | some t =>
    rw [hq] at hR
    intro w h
    refine ⟨_, rfl, br_false rfl ?_⟩
    refine lead_ok (max := 1) h (Ln.trimC_ok (Ln.lead_ok hl) hq) (by decide) fun w h => ⟨_, rfl, ?_⟩
    repeat (first | refine nilP_some ?_ | refine Sat.tk h fun w h => ?_ | refine ⟨_, Sat.ld h (by first | assumption | (repeat (first | exact .head _ | apply List.Mem.tail))) (by exact rfl), ?_⟩ | refine ⟨_, _, _, Sat.ld h (by first | assumption | (repeat (first | exact .head _ | apply List.Mem.tail))) (by exact rfl), ?_⟩ | refine Sat.st h (k := 0) rfl (Nat.le_of_ble_eq_true rfl) trivial (by first | (dsimp only [List.set]; exact rfl) | exact rfl) fun w h => ?_ | refine Sat.st h (k := 1) rfl (Nat.le_of_ble_eq_true rfl) trivial (by first | (dsimp only [List.set]; exact rfl) | exact rfl) fun w h => ?_ | refine Sat.st h (k := 2) rfl (Nat.le_of_ble_eq_true rfl) trivial (by first | (dsimp only [List.set]; exact rfl) | exact rfl) fun w h => ?_ | refine Sat.st h (k := 3) rfl (Nat.le_of_ble_eq_true rfl) trivial (by first | (dsimp only [List.set]; exact rfl) | exact rfl) fun w h => ?_ | refine Sat.st h (k := 4) rfl (Nat.le_of_ble_eq_true rfl) trivial (by first | (dsimp only [List.set]; exact rfl) | exact rfl) fun w h => ?_ | refine Sat.st h (k := 5) rfl (Nat.le_of_ble_eq_true rfl) trivial (by first | (dsimp only [List.set]; exact rfl) | exact rfl) fun w h => ?_ | refine Sat.st h (k := 6) rfl (Nat.le_of_ble_eq_true rfl) trivial (by first | (dsimp only [List.set]; exact rfl) | exact rfl) fun w h => ?_ | refine Sat.bx h fun b0 w h => ?_)
    exact hR _ h.tail.tail.tail
end Go.Proofs.YtejiaegiijokcaaGreatDoor


set_option linter.unusedVariables false
namespace Go.Proofs.YtejiaegiijokcaaGreatDoor
open Go.Proofs Go.IntWalk
variable {σ : Out} {w : World} {L L' : List Chunk} {R : Ending → World → Prop}

theorem u8b (c d : UInt8) (n : Int) (hd : (d.toNat : Int) = n) : (((c.toNat : Nat) : Int) == n) = (c == d) := by subst hd; exact u8_beq c d

def Ln.hrGo (c : UInt8) : Nat → Nat → Ln → Bool
  | 0, _, _ => false
  | f + 1, n, l => match l.trimC c with
    | none => decide (3 ≤ n) && decide (l.text.length ≤ l.i)
    | some l' => l'.skip.hrGo c f (n + 1)
def Ln.isHR (l : Ln) : Bool :=
  let t := l.lead 3 false
  if t.peek = 45 ∨ t.peek = 95 ∨ t.peek = 42 then t.hrGo t.peek (t.text.length + 1) 0 else false
theorem Ln.skip_ge {l : Ln} (hl : l.ok) : l.i ≤ l.skip.i := by
  have h1 := hl.i
  have h3 := (List.dropWhile_sublist isST (l := l.text.drop l.i)).length_le
  rw [List.length_drop] at h3
  simp only [Ln.skip]; omega
theorem isHR_ok {l : Ln} (h : Sat σ w L) (hl : l.ok) (hR : ∀ w, Sat σ w L → R (.returned (.bool l.isHR)) w) : callE P i_isHR #[l.val] R w := by
  refine g_isHR.sound ?_
  refine Sat.bx h fun b1 w h => ?_
  repeat (first | refine nilP_some ?_ | refine Sat.tk h fun w h => ?_ | refine ⟨_, Sat.ld h (by first | assumption | (repeat (first | exact .head _ | apply List.Mem.tail))) (by exact rfl), ?_⟩ | refine ⟨_, _, _, Sat.ld h (by first | assumption | (repeat (first | exact .head _ | apply List.Mem.tail))) (by exact rfl), ?_⟩ | refine Sat.st h (k := 0) rfl (Nat.le_of_ble_eq_true rfl) trivial (by first | (dsimp only [List.set]; exact rfl) | exact rfl) fun w h => ?_ | refine Sat.st h (k := 1) rfl (Nat.le_of_ble_eq_true rfl) trivial (by first | (dsimp only [List.set]; exact rfl) | exact rfl) fun w h => ?_ | refine Sat.st h (k := 2) rfl (Nat.le_of_ble_eq_true rfl) trivial (by first | (dsimp only [List.set]; exact rfl) | exact rfl) fun w h => ?_ | refine Sat.st h (k := 3) rfl (Nat.le_of_ble_eq_true rfl) trivial (by first | (dsimp only [List.set]; exact rfl) | exact rfl) fun w h => ?_ | refine Sat.st h (k := 4) rfl (Nat.le_of_ble_eq_true rfl) trivial (by first | (dsimp only [List.set]; exact rfl) | exact rfl) fun w h => ?_ | refine Sat.st h (k := 5) rfl (Nat.le_of_ble_eq_true rfl) trivial (by first | (dsimp only [List.set]; exact rfl) | exact rfl) fun w h => ?_ | refine Sat.st h (k := 6) rfl (Nat.le_of_ble_eq_true rfl) trivial (by first | (dsimp only [List.set]; exact rfl) | exact rfl) fun w h => ?_ | refine Sat.bx h fun b0 w h => ?_)
  have h : Sat σ _ (l.at b0 :: l.at b1 :: L) := h
  refine lead_ok (max := 3) h hl (by decide) fun w h => ⟨_, rfl, ?_⟩
  have ht := Ln.lead_ok (m := 3) (eol := false) hl
  refine peek_ok h (by first | assumption | (repeat (first | exact .head _ | apply List.Mem.tail))) ht fun w h => ⟨_, rfl, ?_⟩
  generalize hg : l.lead 3 false = t at *
  have hi : l.isHR = if t.peek = 45 ∨ t.peek = 95 ∨ t.peek = 42 then t.hrGo t.peek (t.text.length + 1) 0 else false := by simp only [Ln.isHR, hg]
  have loop : ∀ (c : UInt8), c ≠ 32 → ∀ f n (t : Ln) w, t.ok → t.text.length - t.i < f → n ≤ t.i → Sat σ w (t.at b0 :: l.at b1 :: L) → (∀ w, Sat σ w L → R (.returned (.bool (t.hrGo c f n))) w) →
      g_isHR.l1 R b0 c.toNat n w := by
    intro c hc f n t w ht hf hn h hR X hX
    induction f generalizing n t w with
    | zero => omega
    | succ f ih =>
      refine hX _ _ _ _ ?_
      refine trimC_ok (c := c) rfl h ht ?_
      simp only [Ln.hrGo] at hR
      have h1 := ht.i; have h4 := ht.len
      cases hq : t.trimC c with
      | none =>
        rw [hq] at hR
        intro w h
        refine ⟨_, rfl, br_true rfl ?_⟩
        refine br_split (fun h3 => ?_) (fun h3 => ?_)
        · refine eof_ok h (by first | assumption | (repeat (first | exact .head _ | apply List.Mem.tail))) fun w h => ⟨_, rfl, ?_⟩
          have := hR _ h.tail.tail
          rw [show decide (3 ≤ n) = true by simp at h3 ⊢; omega, Bool.true_and] at this
          exact this
        · have := hR _ h.tail.tail
          rw [show decide (3 ≤ n) = false by simp at h3 ⊢; omega, Bool.false_and] at this
          exact this
      | some t' =>
        rw [hq] at hR
        intro w h
        refine ⟨_, rfl, br_false rfl ?_⟩
        have ht' := Ln.trimC_ok ht hq
        refine skipSpace_ok h ht' fun w h => ⟨rfl, ?_⟩
        have hd : t'.i = t.i + 1 ∧ t'.text = t.text := by
          simp only [Ln.trimC, hc, if_false] at hq
          split at hq
          · cases hq
          · split at hq
            · cases hq; exact ⟨rfl, rfl⟩
            · cases hq
        have hge := Ln.skip_ge ht'
        have htl : t'.skip.text = t.text := hd.2
        rw [i64_inc (by omega)]
        have hge2 := ht'.i
        rw [hd.2] at hge2
        exact ih (n + 1) t'.skip _ (Ln.skip_ok ht') (by rw [htl]; omega) (by omega) h hR
  have fin : (t.peek = 45 ∨ t.peek = 95 ∨ t.peek = 42) → Sat σ w (t.at b0 :: l.at b1 :: L) → g_isHR.k1 R b0 t.peek.toNat true w := by
    intro hp h
    rw [if_pos hp] at hi
    refine br_true rfl ?_
    refine loop t.peek (by rcases hp with hp | hp | hp <;> rw [hp] <;> decide) (t.text.length + 1) 0 t w ht (by omega) (by omega) h (by rw [← hi]; exact hR)
  rw [u8b _ 45 45 rfl, u8b _ 95 95 rfl, u8b _ 42 42 rfl]
  refine br_split (fun hp => fin (.inl (by simpa using hp)) h) (fun h45 => br_split (fun hp => fin (.inr (.inl (by simpa using hp))) h) (fun h95 => ?_))
  by_cases hp : t.peek = 42
  · rw [show (t.peek == 42) = true by simpa using hp]
    exact fin (.inr (.inr hp)) h
  · rw [show (t.peek == 42) = false by simpa using hp]
    have := hR _ h.tail.tail
    rw [hi, if_neg (by simp at h45 h95; simp [h45, h95, hp])] at this
    exact br_false rfl this
end Go.Proofs.YtejiaegiijokcaaGreatDoor


set_option linter.unusedVariables false
namespace Go.Proofs.YtejiaegiijokcaaGreatDoor
open Go.Proofs Go.IntWalk
variable {σ : Out} {w : World} {L L' : List Chunk} {R : Ending → World → Prop}

theorem newQuote_no {x : Value} {q : Option Addr} {l : Ln} (h : Sat σ w L) (hl : l.ok) (hq : l.quote = none)
    (hR : ∀ w, Sat σ w L → R (.returned (.tuple #[l.val, .bool false])) w) : callE P i_newQuote #[.pointer q, l.val] R w := by
  refine g_newQuote.sound ?_
  refine Sat.bx h fun b1 w h => ?_
  refine Sat.bx h fun b3 w h => ?_
  repeat (first | refine nilP_some ?_ | refine Sat.tk h fun w h => ?_ | refine ⟨_, Sat.ld h (by first | assumption | (repeat (first | exact .head _ | apply List.Mem.tail))) (by exact rfl), ?_⟩ | refine ⟨_, _, _, Sat.ld h (by first | assumption | (repeat (first | exact .head _ | apply List.Mem.tail))) (by exact rfl), ?_⟩)
  refine trimQuote_ok (l := l) h hl ?_
  rw [hq]
  intro w h
  refine ⟨_, _, _, _, _, _, rfl, ?_⟩
  refine Sat.bx h fun b4 w h => ?_
  repeat (first | refine nilP_some ?_ | refine Sat.tk h fun w h => ?_ | refine ⟨_, Sat.ld h (by first | assumption | (repeat (first | exact .head _ | apply List.Mem.tail))) (by exact rfl), ?_⟩ | refine ⟨_, _, _, Sat.ld h (by first | assumption | (repeat (first | exact .head _ | apply List.Mem.tail))) (by exact rfl), ?_⟩ | refine Sat.st h (k := 0) rfl (Nat.le_of_ble_eq_true rfl) trivial (by first | (dsimp only [List.set]; exact rfl) | exact rfl) fun w h => ?_ | refine Sat.st h (k := 1) rfl (Nat.le_of_ble_eq_true rfl) trivial (by first | (dsimp only [List.set]; exact rfl) | exact rfl) fun w h => ?_ | refine Sat.st h (k := 2) rfl (Nat.le_of_ble_eq_true rfl) trivial (by first | (dsimp only [List.set]; exact rfl) | exact rfl) fun w h => ?_ | refine Sat.st h (k := 3) rfl (Nat.le_of_ble_eq_true rfl) trivial (by first | (dsimp only [List.set]; exact rfl) | exact rfl) fun w h => ?_ | refine Sat.st h (k := 4) rfl (Nat.le_of_ble_eq_true rfl) trivial (by first | (dsimp only [List.set]; exact rfl) | exact rfl) fun w h => ?_ | refine Sat.st h (k := 5) rfl (Nat.le_of_ble_eq_true rfl) trivial (by first | (dsimp only [List.set]; exact rfl) | exact rfl) fun w h => ?_ | refine Sat.st h (k := 6) rfl (Nat.le_of_ble_eq_true rfl) trivial (by first | (dsimp only [List.set]; exact rfl) | exact rfl) fun w h => ?_ | refine Sat.bx h fun b0 w h => ?_)
  exact hR _ h.tail.tail.tail
theorem newHR_no {q : Option Addr} {l : Ln} (h : Sat σ w L) (hl : l.ok) (hq : l.isHR = false)
    (hR : ∀ w, Sat σ w L → R (.returned (.tuple #[l.val, .bool false])) w) : callE P i_newHR #[.pointer q, l.val] R w := by
  refine g_newHR.sound ?_
  refine Sat.bx h fun b1 w h => ?_
  refine Sat.bx h fun b3 w h => ?_
  repeat (first | refine nilP_some ?_ | refine Sat.tk h fun w h => ?_ | refine ⟨_, Sat.ld h (by first | assumption | (repeat (first | exact .head _ | apply List.Mem.tail))) (by exact rfl), ?_⟩ | refine ⟨_, _, _, Sat.ld h (by first | assumption | (repeat (first | exact .head _ | apply List.Mem.tail))) (by exact rfl), ?_⟩)
  refine isHR_ok (l := l) h hl fun w h => ⟨_, rfl, ?_⟩
  rw [hq]
  repeat (first | refine nilP_some ?_ | refine Sat.tk h fun w h => ?_ | refine ⟨_, Sat.ld h (by first | assumption | (repeat (first | exact .head _ | apply List.Mem.tail))) (by exact rfl), ?_⟩ | refine ⟨_, _, _, Sat.ld h (by first | assumption | (repeat (first | exact .head _ | apply List.Mem.tail))) (by exact rfl), ?_⟩ | refine Sat.st h (k := 0) rfl (Nat.le_of_ble_eq_true rfl) trivial (by first | (dsimp only [List.set]; exact rfl) | exact rfl) fun w h => ?_ | refine Sat.st h (k := 1) rfl (Nat.le_of_ble_eq_true rfl) trivial (by first | (dsimp only [List.set]; exact rfl) | exact rfl) fun w h => ?_ | refine Sat.st h (k := 2) rfl (Nat.le_of_ble_eq_true rfl) trivial (by first | (dsimp only [List.set]; exact rfl) | exact rfl) fun w h => ?_ | refine Sat.st h (k := 3) rfl (Nat.le_of_ble_eq_true rfl) trivial (by first | (dsimp only [List.set]; exact rfl) | exact rfl) fun w h => ?_ | refine Sat.st h (k := 4) rfl (Nat.le_of_ble_eq_true rfl) trivial (by first | (dsimp only [List.set]; exact rfl) | exact rfl) fun w h => ?_ | refine Sat.st h (k := 5) rfl (Nat.le_of_ble_eq_true rfl) trivial (by first | (dsimp only [List.set]; exact rfl) | exact rfl) fun w h => ?_ | refine Sat.st h (k := 6) rfl (Nat.le_of_ble_eq_true rfl) trivial (by first | (dsimp only [List.set]; exact rfl) | exact rfl) fun w h => ?_ | refine Sat.bx h fun b0 w h => ?_)
  exact hR _ h.tail.tail

def Ln.hashes : Nat → Nat → Ln → Nat × Ln
  | 0, n, l => (n, l)
  | k + 1, n, l => match l.trimC 35 with
    | none => (n, l)
    | some l' => l'.hashes k (n + 1)
def Ln.heading (l : Ln) : Option (Nat × Ln) :=
  match (l.lead 3 false).trimC 35 with
  | none => none
  | some t => ((t.hashes 5 1).2.trimSp 1 1 true).map fun t' => ((t.hashes 5 1).1, t')
theorem trimHeading_ok {b nb : Nat} {l : Ln} {v : Int} {e : TypeId} (h : Sat σ w (l.at b :: (nb, cel [.int .i64 v] e) :: L)) (hl : l.ok)
    (hR : match l.heading with
      | some (n, l') => ∀ w, Sat σ w (l'.at b :: (nb, cel [.int .i64 n] e) :: L) → R (.returned (.bool true)) w
      | none => ∀ w, Sat σ w (l.at b :: (nb, cel [.int .i64 v] e) :: L) → R (.returned (.bool false)) w) :
    callE P i_line_trimHeading #[.pointer (some ⟨b, 0, none⟩), .pointer (some ⟨nb, 0, none⟩)] R w := by
  refine g_line_trimHeading.sound ?_
  repeat (first | refine nilP_some ?_ | refine Sat.tk h fun w h => ?_ | refine ⟨_, Sat.ld h (by first | assumption | (repeat (first | exact .head _ | apply List.Mem.tail))) (by exact rfl), ?_⟩ | refine ⟨_, _, _, Sat.ld h (by first | assumption | (repeat (first | exact .head _ | apply List.Mem.tail))) (by exact rfl), ?_⟩ | refine Sat.st h (k := 0) rfl (Nat.le_of_ble_eq_true rfl) trivial (by first | (dsimp only [List.set]; exact rfl) | exact rfl) fun w h => ?_ | refine Sat.st h (k := 1) rfl (Nat.le_of_ble_eq_true rfl) trivial (by first | (dsimp only [List.set]; exact rfl) | exact rfl) fun w h => ?_ | refine Sat.st h (k := 2) rfl (Nat.le_of_ble_eq_true rfl) trivial (by first | (dsimp only [List.set]; exact rfl) | exact rfl) fun w h => ?_ | refine Sat.st h (k := 3) rfl (Nat.le_of_ble_eq_true rfl) trivial (by first | (dsimp only [List.set]; exact rfl) | exact rfl) fun w h => ?_ | refine Sat.st h (k := 4) rfl (Nat.le_of_ble_eq_true rfl) trivial (by first | (dsimp only [List.set]; exact rfl) | exact rfl) fun w h => ?_ | refine Sat.st h (k := 5) rfl (Nat.le_of_ble_eq_true rfl) trivial (by first | (dsimp only [List.set]; exact rfl) | exact rfl) fun w h => ?_ | refine Sat.st h (k := 6) rfl (Nat.le_of_ble_eq_true rfl) trivial (by first | (dsimp only [List.set]; exact rfl) | exact rfl) fun w h => ?_ | refine Sat.bx h fun b0 w h => ?_)
  have h : Sat σ _ (l.at b0 :: l.at b :: (nb, cel [.int .i64 v] e) :: L) := h
  refine lead_ok (max := 3) h hl (by decide) fun w h => ⟨_, rfl, ?_⟩
  have ht := Ln.lead_ok (m := 3) (eol := false) hl
  refine trimC_ok (c := 35) rfl h ht ?_
  simp only [Ln.heading] at hR
  cases hq : (l.lead 3 false).trimC 35 with
  | none =>
    rw [hq] at hR
    exact fun w h => ⟨_, rfl, br_true rfl (hR _ h.tail)⟩
  | some t =>
    rw [hq] at hR
    intro w h
    refine ⟨_, rfl, br_false rfl ?_⟩
    have ht := Ln.trimC_ok ht hq
    have fin : ∀ (n : Nat) (t' : Ln) w, t'.ok → Sat σ w (t'.at b0 :: l.at b :: (nb, cel [.int .i64 v] e) :: L) →
        (match (t'.trimSp 1 1 true).map fun t' => (n, t') with
        | some (n, l') => ∀ w, Sat σ w (l'.at b :: (nb, cel [.int .i64 n] e) :: L) → R (.returned (.bool true)) w
        | none => ∀ w, Sat σ w (l.at b :: (nb, cel [.int .i64 v] e) :: L) → R (.returned (.bool false)) w) →
        g_line_trimHeading.k1 R (some ⟨b, 0, none⟩) (some ⟨nb, 0, none⟩) b0 n w := by
      intro n t' w ht' h hR
      refine YtejiaegiijokcaaGreatDoor.trimSp_ok (min := 1) (max := 1) h ht' (by decide) (by decide) ?_
      cases hs : t'.trimSp 1 1 true with
      | none =>
        rw [hs] at hR
        exact fun w h => ⟨_, rfl, br_true rfl (hR _ h.tail)⟩
      | some t2 =>
        rw [hs] at hR
        intro w h
        refine ⟨_, rfl, br_false rfl ?_⟩
        repeat (first | refine nilP_some ?_ | refine Sat.tk h fun w h => ?_ | refine ⟨_, Sat.ld h (by first | assumption | (repeat (first | exact .head _ | apply List.Mem.tail))) (by exact rfl), ?_⟩ | refine ⟨_, _, _, Sat.ld h (by first | assumption | (repeat (first | exact .head _ | apply List.Mem.tail))) (by exact rfl), ?_⟩ | refine Sat.st h (k := 0) rfl (Nat.le_of_ble_eq_true rfl) trivial (by first | (dsimp only [List.set]; exact rfl) | exact rfl) fun w h => ?_ | refine Sat.st h (k := 1) rfl (Nat.le_of_ble_eq_true rfl) trivial (by first | (dsimp only [List.set]; exact rfl) | exact rfl) fun w h => ?_ | refine Sat.st h (k := 2) rfl (Nat.le_of_ble_eq_true rfl) trivial (by first | (dsimp only [List.set]; exact rfl) | exact rfl) fun w h => ?_ | refine Sat.st h (k := 3) rfl (Nat.le_of_ble_eq_true rfl) trivial (by first | (dsimp only [List.set]; exact rfl) | exact rfl) fun w h => ?_ | refine Sat.st h (k := 4) rfl (Nat.le_of_ble_eq_true rfl) trivial (by first | (dsimp only [List.set]; exact rfl) | exact rfl) fun w h => ?_ | refine Sat.st h (k := 5) rfl (Nat.le_of_ble_eq_true rfl) trivial (by first | (dsimp only [List.set]; exact rfl) | exact rfl) fun w h => ?_ | refine Sat.st h (k := 6) rfl (Nat.le_of_ble_eq_true rfl) trivial (by first | (dsimp only [List.set]; exact rfl) | exact rfl) fun w h => ?_ | refine Sat.bx h fun b0 w h => ?_)
        have h : Sat σ _ (t2.at b0 :: t2.at b :: (nb, cel [.int .i64 n] e) :: L) := h
        exact hR _ h.tail
    have loop : ∀ k n (t : Ln) w, t.ok → k + n = 6 → Sat σ w (t.at b0 :: l.at b :: (nb, cel [.int .i64 v] e) :: L) →
        (match ((t.hashes k n).2.trimSp 1 1 true).map fun t' => ((t.hashes k n).1, t') with
        | some (n, l') => ∀ w, Sat σ w (l'.at b :: (nb, cel [.int .i64 n] e) :: L) → R (.returned (.bool true)) w
        | none => ∀ w, Sat σ w (l.at b :: (nb, cel [.int .i64 v] e) :: L) → R (.returned (.bool false)) w) →
        g_line_trimHeading.l1 R (some ⟨b, 0, none⟩) (some ⟨nb, 0, none⟩) b0 n w := by
      intro k n t w ht hk h hR X hX
      induction k generalizing n t w with
      | zero => exact hX _ _ _ _ _ (br_false (by simp; omega) (fin n t w ht h hR))
      | succ k ih =>
        refine hX _ _ _ _ _ (br_true (by simp; omega) ?_)
        refine trimC_ok (c := 35) rfl h ht ?_
        simp only [Ln.hashes] at hR
        cases hq : t.trimC 35 with
        | none =>
          rw [hq] at hR
          exact fun w h => ⟨_, rfl, br_false rfl (fin n t w ht h hR)⟩
        | some t' =>
          rw [hq] at hR
          intro w h
          refine ⟨_, rfl, br_true rfl ?_⟩
          rw [i64_inc (by omega)]
          exact ih (n + 1) t' w (Ln.trimC_ok ht hq) (by omega) h hR
    exact loop 5 1 t w ht rfl h hR
theorem newATX_no {q : Option Addr} {l : Ln} (h : Sat σ w L) (hl : l.ok) (hq : l.heading = none)
    (hR : ∀ w, Sat σ w L → R (.returned (.tuple #[l.val, .bool false])) w) : callE P i_newATXHeading #[.pointer q, l.val] R w := by
  refine g_newATXHeading.sound ?_
  refine Sat.bx h fun b1 w h => ?_
  refine Sat.bx h fun b3 w h => ?_
  repeat (first | refine nilP_some ?_ | refine Sat.tk h fun w h => ?_ | refine ⟨_, Sat.ld h (by first | assumption | (repeat (first | exact .head _ | apply List.Mem.tail))) (by exact rfl), ?_⟩ | refine ⟨_, _, _, Sat.ld h (by first | assumption | (repeat (first | exact .head _ | apply List.Mem.tail))) (by exact rfl), ?_⟩)
  refine Sat.bx h fun b4 w h => ?_
  repeat (first | refine nilP_some ?_ | refine Sat.tk h fun w h => ?_ | refine ⟨_, Sat.ld h (by first | assumption | (repeat (first | exact .head _ | apply List.Mem.tail))) (by exact rfl), ?_⟩ | refine ⟨_, _, _, Sat.ld h (by first | assumption | (repeat (first | exact .head _ | apply List.Mem.tail))) (by exact rfl), ?_⟩ | refine Sat.st h (k := 0) rfl (Nat.le_of_ble_eq_true rfl) trivial (by first | (dsimp only [List.set]; exact rfl) | exact rfl) fun w h => ?_ | refine Sat.st h (k := 1) rfl (Nat.le_of_ble_eq_true rfl) trivial (by first | (dsimp only [List.set]; exact rfl) | exact rfl) fun w h => ?_ | refine Sat.st h (k := 2) rfl (Nat.le_of_ble_eq_true rfl) trivial (by first | (dsimp only [List.set]; exact rfl) | exact rfl) fun w h => ?_ | refine Sat.st h (k := 3) rfl (Nat.le_of_ble_eq_true rfl) trivial (by first | (dsimp only [List.set]; exact rfl) | exact rfl) fun w h => ?_ | refine Sat.st h (k := 4) rfl (Nat.le_of_ble_eq_true rfl) trivial (by first | (dsimp only [List.set]; exact rfl) | exact rfl) fun w h => ?_ | refine Sat.st h (k := 5) rfl (Nat.le_of_ble_eq_true rfl) trivial (by first | (dsimp only [List.set]; exact rfl) | exact rfl) fun w h => ?_ | refine Sat.st h (k := 6) rfl (Nat.le_of_ble_eq_true rfl) trivial (by first | (dsimp only [List.set]; exact rfl) | exact rfl) fun w h => ?_ | refine Sat.bx h fun b0 w h => ?_)
  have h : Sat σ _ ((b0, cel [.int .i64 0] ty_int) :: l.at b4 :: (b3, cel [.int .i64 0, .int .i64 0, .int .i64 0, .string (bs []), .int .u8 0] ty_line) :: l.at b1 :: L) := h
  refine trimHeading_ok h.up1 hl ?_
  rw [hq]
  intro w h
  refine ⟨_, rfl, br_false rfl ?_⟩
  repeat (first | refine nilP_some ?_ | refine Sat.tk h fun w h => ?_ | refine ⟨_, Sat.ld h (by first | assumption | (repeat (first | exact .head _ | apply List.Mem.tail))) (by exact rfl), ?_⟩ | refine ⟨_, _, _, Sat.ld h (by first | assumption | (repeat (first | exact .head _ | apply List.Mem.tail))) (by exact rfl), ?_⟩ | refine Sat.st h (k := 0) rfl (Nat.le_of_ble_eq_true rfl) trivial (by first | (dsimp only [List.set]; exact rfl) | exact rfl) fun w h => ?_ | refine Sat.st h (k := 1) rfl (Nat.le_of_ble_eq_true rfl) trivial (by first | (dsimp only [List.set]; exact rfl) | exact rfl) fun w h => ?_ | refine Sat.st h (k := 2) rfl (Nat.le_of_ble_eq_true rfl) trivial (by first | (dsimp only [List.set]; exact rfl) | exact rfl) fun w h => ?_ | refine Sat.st h (k := 3) rfl (Nat.le_of_ble_eq_true rfl) trivial (by first | (dsimp only [List.set]; exact rfl) | exact rfl) fun w h => ?_ | refine Sat.st h (k := 4) rfl (Nat.le_of_ble_eq_true rfl) trivial (by first | (dsimp only [List.set]; exact rfl) | exact rfl) fun w h => ?_ | refine Sat.st h (k := 5) rfl (Nat.le_of_ble_eq_true rfl) trivial (by first | (dsimp only [List.set]; exact rfl) | exact rfl) fun w h => ?_ | refine Sat.st h (k := 6) rfl (Nat.le_of_ble_eq_true rfl) trivial (by first | (dsimp only [List.set]; exact rfl) | exact rfl) fun w h => ?_ | refine Sat.bx h fun b0 w h => ?_)
  exact hR _ h.tail.tail.tail.tail
end Go.Proofs.YtejiaegiijokcaaGreatDoor


set_option linter.unusedVariables false
namespace Go.Proofs.YtejiaegiijokcaaGreatDoor
open Go.Proofs Go.IntWalk
variable {σ : Out} {w : World} {L L' : List Chunk} {R : Ending → World → Prop}

theorem startHTML_no {b : Nat} {q : Option Addr} {l : Ln} (h : Sat σ w (l.at b :: L)) (hl : l.ok) (hp : (l.lead 3 false).peek ≠ 60)
    (hR : ∀ w, Sat σ w (l.at b :: L) → R (.returned (.bool false)) w) : callE P i_parseState_startHTML #[.pointer q, .pointer (some ⟨b, 0, none⟩)] R w := by
  refine g_parseState_startHTML.sound ?_
  repeat (first | refine nilP_some ?_ | refine Sat.tk h fun w h => ?_ | refine ⟨_, Sat.ld h (by first | assumption | (repeat (first | exact .head _ | apply List.Mem.tail))) (by exact rfl), ?_⟩ | refine ⟨_, _, _, Sat.ld h (by first | assumption | (repeat (first | exact .head _ | apply List.Mem.tail))) (by exact rfl), ?_⟩ | refine Sat.st h (k := 0) rfl (Nat.le_of_ble_eq_true rfl) trivial (by first | (dsimp only [List.set]; exact rfl) | exact rfl) fun w h => ?_ | refine Sat.st h (k := 1) rfl (Nat.le_of_ble_eq_true rfl) trivial (by first | (dsimp only [List.set]; exact rfl) | exact rfl) fun w h => ?_ | refine Sat.st h (k := 2) rfl (Nat.le_of_ble_eq_true rfl) trivial (by first | (dsimp only [List.set]; exact rfl) | exact rfl) fun w h => ?_ | refine Sat.st h (k := 3) rfl (Nat.le_of_ble_eq_true rfl) trivial (by first | (dsimp only [List.set]; exact rfl) | exact rfl) fun w h => ?_ | refine Sat.st h (k := 4) rfl (Nat.le_of_ble_eq_true rfl) trivial (by first | (dsimp only [List.set]; exact rfl) | exact rfl) fun w h => ?_ | refine Sat.st h (k := 5) rfl (Nat.le_of_ble_eq_true rfl) trivial (by first | (dsimp only [List.set]; exact rfl) | exact rfl) fun w h => ?_ | refine Sat.st h (k := 6) rfl (Nat.le_of_ble_eq_true rfl) trivial (by first | (dsimp only [List.set]; exact rfl) | exact rfl) fun w h => ?_ | refine Sat.bx h fun b0 w h => ?_)
  have h : Sat σ _ (l.at b0 :: l.at b :: L) := h
  refine lead_ok (max := 3) h hl (by decide) fun w h => ⟨_, rfl, ?_⟩
  refine peek_ok h (by first | assumption | (repeat (first | exact .head _ | apply List.Mem.tail))) (Ln.lead_ok hl) fun w h => ⟨_, rfl, ?_⟩
  refine br_true ?_ (hR _ h.tail)
  rw [bne, u8b _ 60 60 rfl]
  simpa using hp
theorem newHTML_no {q : Option Addr} {l : Ln} (h : Sat σ w L) (hl : l.ok) (hp : (l.lead 3 false).peek ≠ 60)
    (hR : ∀ w, Sat σ w L → R (.returned (.tuple #[l.val, .bool false])) w) : callE P i_newHTML #[.pointer q, l.val] R w := by
  refine g_newHTML.sound ?_
  refine Sat.bx h fun b1 w h => ?_
  refine Sat.bx h fun b3 w h => ?_
  repeat (first | refine nilP_some ?_ | refine Sat.tk h fun w h => ?_ | refine ⟨_, Sat.ld h (by first | assumption | (repeat (first | exact .head _ | apply List.Mem.tail))) (by exact rfl), ?_⟩ | refine ⟨_, _, _, Sat.ld h (by first | assumption | (repeat (first | exact .head _ | apply List.Mem.tail))) (by exact rfl), ?_⟩ | refine Sat.st h (k := 0) rfl (Nat.le_of_ble_eq_true rfl) trivial (by first | (dsimp only [List.set]; exact rfl) | exact rfl) fun w h => ?_ | refine Sat.st h (k := 1) rfl (Nat.le_of_ble_eq_true rfl) trivial (by first | (dsimp only [List.set]; exact rfl) | exact rfl) fun w h => ?_ | refine Sat.st h (k := 2) rfl (Nat.le_of_ble_eq_true rfl) trivial (by first | (dsimp only [List.set]; exact rfl) | exact rfl) fun w h => ?_ | refine Sat.st h (k := 3) rfl (Nat.le_of_ble_eq_true rfl) trivial (by first | (dsimp only [List.set]; exact rfl) | exact rfl) fun w h => ?_ | refine Sat.st h (k := 4) rfl (Nat.le_of_ble_eq_true rfl) trivial (by first | (dsimp only [List.set]; exact rfl) | exact rfl) fun w h => ?_ | refine Sat.st h (k := 5) rfl (Nat.le_of_ble_eq_true rfl) trivial (by first | (dsimp only [List.set]; exact rfl) | exact rfl) fun w h => ?_ | refine Sat.st h (k := 6) rfl (Nat.le_of_ble_eq_true rfl) trivial (by first | (dsimp only [List.set]; exact rfl) | exact rfl) fun w h => ?_ | refine Sat.bx h fun b0 w h => ?_)
  have h : Sat σ _ (l.at b0 :: (b3, cel [.int .i64 0, .int .i64 0, .int .i64 0, .string (bs []), .int .u8 0] ty_line) :: l.at b1 :: L) := h
  refine startHTML_no h hl hp fun w h => ⟨_, rfl, br_false rfl ?_⟩
  repeat (first | refine nilP_some ?_ | refine Sat.tk h fun w h => ?_ | refine ⟨_, Sat.ld h (by first | assumption | (repeat (first | exact .head _ | apply List.Mem.tail))) (by exact rfl), ?_⟩ | refine ⟨_, _, _, Sat.ld h (by first | assumption | (repeat (first | exact .head _ | apply List.Mem.tail))) (by exact rfl), ?_⟩ | refine Sat.st h (k := 0) rfl (Nat.le_of_ble_eq_true rfl) trivial (by first | (dsimp only [List.set]; exact rfl) | exact rfl) fun w h => ?_ | refine Sat.st h (k := 1) rfl (Nat.le_of_ble_eq_true rfl) trivial (by first | (dsimp only [List.set]; exact rfl) | exact rfl) fun w h => ?_ | refine Sat.st h (k := 2) rfl (Nat.le_of_ble_eq_true rfl) trivial (by first | (dsimp only [List.set]; exact rfl) | exact rfl) fun w h => ?_ | refine Sat.st h (k := 3) rfl (Nat.le_of_ble_eq_true rfl) trivial (by first | (dsimp only [List.set]; exact rfl) | exact rfl) fun w h => ?_ | refine Sat.st h (k := 4) rfl (Nat.le_of_ble_eq_true rfl) trivial (by first | (dsimp only [List.set]; exact rfl) | exact rfl) fun w h => ?_ | refine Sat.st h (k := 5) rfl (Nat.le_of_ble_eq_true rfl) trivial (by first | (dsimp only [List.set]; exact rfl) | exact rfl) fun w h => ?_ | refine Sat.st h (k := 6) rfl (Nat.le_of_ble_eq_true rfl) trivial (by first | (dsimp only [List.set]; exact rfl) | exact rfl) fun w h => ?_ | refine Sat.bx h fun b0 w h => ?_)
  exact hR _ h.tail.tail.tail

theorem top_ok {b : Nat} {p : PS} {l : List OB} {o : OB} {M : List Chunk} (h : Sat σ w (p.at b :: M ++ L)) (hs : Stk p (l ++ [o]) M) {t : TypeId} {v : Value} (ho : o.bd = .iface t v)
    (hR : ∀ w, Sat σ w (p.at b :: M ++ L) → R (.returned (if t = ty_P_paraBuilder then v else .pointer none)) w) (hv : t = ty_P_paraBuilder → ∃ q, v = .pointer q) :
    callE P i_parseState_para #[.pointer (some ⟨b, 0, none⟩)] R w := by
  obtain ⟨sb, sp, hq, rfl, hsp⟩ := hs.split (by simp)
  have hn := hs.2.1
  have hlt := hs.2.2
  rw [List.length_append, List.length_singleton] at hn hlt
  refine g_parseState_para.sound ?_
  repeat (first | refine nilP_some ?_ | refine Sat.tk h fun w h => ?_ | refine ⟨_, Sat.ld h (by first | assumption | (repeat (first | exact .head _ | apply List.Mem.tail))) (by exact rfl), ?_⟩ | refine ⟨_, _, _, Sat.ld h (by first | assumption | (repeat (first | exact .head _ | apply List.Mem.tail))) (by exact rfl), ?_⟩)
  rw [hn, len_dec (by omega)]
  refine ⟨by omega, by omega, ?_⟩
  rw [hq]
  refine nilP_some ?_
  simp only [Addr.add_lit, Nat.zero_add, Int.toNat_natCast]
  refine ⟨o.bd, Sat.ld h (by first | assumption | (repeat (first | exact .head _ | apply List.Mem.tail))) (stk_get (f := 0) (by decide) (last_get o)), ?_⟩
  rw [ho]
  have hund : P.underlying ty_P_paraBuilder = some (.pointer ty_paraBuilder) := by kernel_rfl
  by_cases ht : t = ty_P_paraBuilder
  · obtain ⟨q, rfl⟩ := hv ht
    subst ht
    have := hR _ h
    rw [if_pos rfl] at this
    exact ⟨q, true, fun w => ta_yes (by rw [hund]; intro ms h; cases h) hund w, br_true rfl this⟩
  · have := hR _ h
    rw [if_neg ht] at this
    refine ⟨none, false, fun w => ?_, br_false rfl this⟩
    exact ta_no (by rw [hund]; intro ms h; cases h) hund ht (i := (P.info? ty_P_paraBuilder).getD default) (by kernel_rfl) (by kernel_rfl) w
end Go.Proofs.YtejiaegiijokcaaGreatDoor

