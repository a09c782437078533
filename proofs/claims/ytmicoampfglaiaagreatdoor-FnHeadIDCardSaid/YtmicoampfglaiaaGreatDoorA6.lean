/- Part 6 of the proof of the law FnHeadID: for every input the law returns true, the inputs read as they did, and memory that was there is as it was; under the conditions of the given row alone. Holds: G_parseState_autoLinkText InlEnd PlainLn OneLine Html Small Num2 Head1 Range Head2 G_parseState_doneBlock Head3 G_Heading_PrintHTML G_laws_printable G_spec_EscapeHTML LawFns HeadPrint Head4 Head5 Head6 Head7 Head8 Scan G_parseDot Dots1 G_Emph_PrintHTML G_Strong_PrintHTML G_AutoLink_PrintHTML G_HardBreak_PrintHTML G_Link_PrintHTML G_SoftBreak_PrintHTML Print5 Print3 Plain1 Lays2 Repeat FnHeadID1. -/
import Derived.Laws.RangeString
import Derived.Shelf.Strings.Repeat
import Derived.Test.YtmicoampfglaiaaGreatDoorA5
set_option linter.all false
set_option linter.unusedVariables false
set_option maxRecDepth 20000
namespace Go.Proofs.YtmicoampfglaiaaGreatDoor
open Go.Proofs
/- 83 (*pub-paratext/pub/rscmarkdown.parseState).autoLinkText -/
namespace g_parseState_autoLinkText
noncomputable def body : Code := bodyOf Tryz.f83
def k1 (R : EP) (Xa : OA → OA → Nat → Nat → OA → Nat → Nat → OA → Nat → Nat → Int → Int → WP) (x0 : OA) (x1q : OA) (x1n : Nat) (x1c : Nat) (x5q : OA) (x5n : Nat) (x5c : Nat) (x9q : OA) (x9n : Nat) (x9c : Nat) (x22q : OA) (x22n : Nat) (x22c : Nat) (x23 : Int) (x24 : Int) (w : World) : Prop :=
 ∃ (r47q : OA), ∃ (r47n : Nat), ∃ (r47c : Nat), ∃ w48, (Builtin.append_ #[ty_S_Inline, ty_S_Inline] ty_S_Inline #[.slice x5q x5n x5c, .slice x9q x9n x9c]).run P w = .ok (.slice r47q r47n r47c) w48 ∧
 Xa x0 x1q x1n x1c r47q r47n r47c x22q x22n x22c x23 (IntKind.i64.wrap (x24 + 1)) w48

def k2 (R : EP) (Xa : OA → OA → Nat → Nat → OA → Nat → Nat → OA → Nat → Nat → Int → Int → WP) (x0 : OA) (x1q : OA) (x1n : Nat) (x1c : Nat) (x5q : OA) (x5n : Nat) (x5c : Nat) (x7 : Value) (x22q : OA) (x22n : Nat) (x22c : Nat) (x23 : Int) (x24 : Int) (w : World) : Prop :=
 ∃ (r49 : Bool), ∃ w50, (do eqGuard .neq ty_S_Inline (.tmp 87) (.const (.slice none 0 0)) (.slice x5q x5n x5c) (.slice none 0 0); binOp .neq ty_S_Inline (.slice x5q x5n x5c) (.slice none 0 0)).run P w = .ok (.bool r49) w50 ∧
 br r49
 (∃ (r51q : OA), ∃ (r51n : Nat), ∃ (r51c : Nat), ∃ w52, (Instr.buildSlice ty_S_Inline 1 #[(0, x7)]).run P w50 = .ok (.slice r51q r51n r51c) w52 ∧
 ∃ (r53q : OA), ∃ (r53n : Nat), ∃ (r53c : Nat), ∃ w54, (Builtin.append_ #[ty_S_Inline, ty_S_Inline] ty_S_Inline #[.slice x5q x5n x5c, .slice r51q r51n r51c]).run P w52 = .ok (.slice r53q r53n r53c) w54 ∧
 Xa x0 x1q x1n x1c r53q r53n r53c x22q x22n x22c x23 (IntKind.i64.wrap (x24 + 1)) w54)
 (Xa x0 x1q x1n x1c x5q x5n x5c x22q x22n x22c x23 (IntKind.i64.wrap (x24 + 1)) w50)

def bl1 (R : EP) (Xa : OA → OA → Nat → Nat → OA → Nat → Nat → OA → Nat → Nat → Int → Int → WP) (x0 : OA) (x1q : OA) (x1n : Nat) (x1c : Nat) (x5q : OA) (x5n : Nat) (x5c : Nat) (x22q : OA) (x22n : Nat) (x22c : Nat) (x23 : Int) (x24 : Int) (w : World) : Prop :=
 br (decide (x24 < x23))
 (0 ≤ x24 ∧ x24 < (x22n : Int) ∧
 nilP x22q fun a5 =>
 ∃ (v6 : Value), w.cell? (a5.add (Int.toNat x24 * 1)) = some v6 ∧
 ∃ (r7_0 : OA), ∃ (r7_1 : Bool), ∃ w8, (Instr.typeAssert v6 ty_Inline ty_P_Plain true).run P w = .ok (.tuple #[.pointer r7_0, .bool r7_1]) w8 ∧
 br r7_1
 (nilP r7_0 fun a9 =>
 ∃ (v10 : BA), w8.cell? a9 = some (.string v10) ∧
 callE P i_parseState_autoLinkPlain #[.pointer x0, .string v10] (fun e w12 => ∃ (r11q : OA), ∃ (r11n : Nat), ∃ (r11c : Nat), e = .returned (.slice r11q r11n r11c) ∧
 ∃ (r13 : Bool), ∃ w14, (do eqGuard .neq ty_S_Inline (.tmp 39) (.const (.slice none 0 0)) (.slice r11q r11n r11c) (.slice none 0 0); binOp .neq ty_S_Inline (.slice r11q r11n r11c) (.slice none 0 0)).run P w12 = .ok (.bool r13) w14 ∧
 br r13
 (∃ (r15 : Bool), ∃ w16, (do eqGuard .eql ty_S_Inline (.tmp 41) (.const (.slice none 0 0)) (.slice x5q x5n x5c) (.slice none 0 0); binOp .eql ty_S_Inline (.slice x5q x5n x5c) (.slice none 0 0)).run P w14 = .ok (.bool r15) w16 ∧
 br r15
 (∃ (r17q : OA), ∃ (r17n : Nat), ∃ (r17c : Nat), ∃ w18, (Instr.sliceAt ty_S_Inline (.slice x1q x1n x1c) none (some (.int .i64 x24)) none).run P w16 = .ok (.slice r17q r17n r17c) w18 ∧
 ∃ (r19q : OA), ∃ (r19n : Nat), ∃ (r19c : Nat), ∃ w20, (Builtin.append_ #[ty_S_Inline, ty_S_Inline] ty_S_Inline #[.slice x5q x5n x5c, .slice r17q r17n r17c]).run P w18 = .ok (.slice r19q r19n r19c) w20 ∧
 k1 R Xa x0 x1q x1n x1c r19q r19n r19c r11q r11n r11c x22q x22n x22c x23 x24 w20)
 (k1 R Xa x0 x1q x1n x1c x5q x5n x5c r11q r11n r11c x22q x22n x22c x23 x24 w16))
 (k2 R Xa x0 x1q x1n x1c x5q x5n x5c v6 x22q x22n x22c x23 x24 w14)) w8)
 (∃ (r21_0 : OA), ∃ (r21_1 : Bool), ∃ w22, (Instr.typeAssert v6 ty_Inline ty_P_Strong true).run P w8 = .ok (.tuple #[.pointer r21_0, .bool r21_1]) w22 ∧
 br r21_1
 (nilP r21_0 fun a23 =>
 ∃ (v24q : OA), ∃ (v24n : Nat), ∃ (v24c : Nat), w22.cell? (a23.add 1) = some (.slice v24q v24n v24c) ∧
 callE P i_parseState_autoLinkText #[.pointer x0, .slice v24q v24n v24c] (fun e w26 => ∃ (r25q : OA), ∃ (r25n : Nat), ∃ (r25c : Nat), e = .returned (.slice r25q r25n r25c) ∧
 nilP r21_0 fun a27 =>
 stV w26 ((a27.add 1).add 0) (.slice r25q r25n r25c) fun w28 =>
 k2 R Xa x0 x1q x1n x1c x5q x5n x5c v6 x22q x22n x22c x23 x24 w28) w22)
 (∃ (r29_0 : OA), ∃ (r29_1 : Bool), ∃ w30, (Instr.typeAssert v6 ty_Inline ty_P_Del true).run P w22 = .ok (.tuple #[.pointer r29_0, .bool r29_1]) w30 ∧
 br r29_1
 (nilP r29_0 fun a31 =>
 ∃ (v32q : OA), ∃ (v32n : Nat), ∃ (v32c : Nat), w30.cell? (a31.add 1) = some (.slice v32q v32n v32c) ∧
 callE P i_parseState_autoLinkText #[.pointer x0, .slice v32q v32n v32c] (fun e w34 => ∃ (r33q : OA), ∃ (r33n : Nat), ∃ (r33c : Nat), e = .returned (.slice r33q r33n r33c) ∧
 nilP r29_0 fun a35 =>
 stV w34 ((a35.add 1).add 0) (.slice r33q r33n r33c) fun w36 =>
 k2 R Xa x0 x1q x1n x1c x5q x5n x5c v6 x22q x22n x22c x23 x24 w36) w30)
 (∃ (r37_0 : OA), ∃ (r37_1 : Bool), ∃ w38, (Instr.typeAssert v6 ty_Inline ty_P_Emph true).run P w30 = .ok (.tuple #[.pointer r37_0, .bool r37_1]) w38 ∧
 br r37_1
 (nilP r37_0 fun a39 =>
 ∃ (v40q : OA), ∃ (v40n : Nat), ∃ (v40c : Nat), w38.cell? (a39.add 1) = some (.slice v40q v40n v40c) ∧
 callE P i_parseState_autoLinkText #[.pointer x0, .slice v40q v40n v40c] (fun e w42 => ∃ (r41q : OA), ∃ (r41n : Nat), ∃ (r41c : Nat), e = .returned (.slice r41q r41n r41c) ∧
 nilP r37_0 fun a43 =>
 stV w42 ((a43.add 1).add 0) (.slice r41q r41n r41c) fun w44 =>
 k2 R Xa x0 x1q x1n x1c x5q x5n x5c v6 x22q x22n x22c x23 x24 w44) w38)
 (k2 R Xa x0 x1q x1n x1c x5q x5n x5c v6 x22q x22n x22c x23 x24 w38)))))
 (∃ (r45 : Bool), ∃ w46, (do eqGuard .eql ty_S_Inline (.tmp 94) (.const (.slice none 0 0)) (.slice x5q x5n x5c) (.slice none 0 0); binOp .eql ty_S_Inline (.slice x5q x5n x5c) (.slice none 0 0)).run P w = .ok (.bool r45) w46 ∧
 br r45
 (R (.returned (.slice x1q x1n x1c)) w46)
 (R (.returned (.slice x5q x5n x5c)) w46))
def l1 (R : EP) (x0 : OA) (x1q : OA) (x1n : Nat) (x1c : Nat) (x5q : OA) (x5n : Nat) (x5c : Nat) (x22q : OA) (x22n : Nat) (x22c : Nat) (x23 : Int) (x24 : Int) (w : World) : Prop :=
  ∀ X : OA → OA → Nat → Nat → OA → Nat → Nat → OA → Nat → Nat → Int → Int → WP, (∀ x0 x1q x1n x1c x5q x5n x5c x22q x22n x22c x23 x24 w, bl1 R X x0 x1q x1n x1c x5q x5n x5c x22q x22n x22c x23 x24 w → X x0 x1q x1n x1c x5q x5n x5c x22q x22n x22c x23 x24 w) → X x0 x1q x1n x1c x5q x5n x5c x22q x22n x22c x23 x24 w

noncomputable def al1 (R : EP) (Xa : OA → OA → Nat → Nat → OA → Nat → Nat → OA → Nat → Nat → Int → Int → WP) : AC :=
  (.seq (.leaf (sel [1, 1, 1, 0, 1, 0, 0, 0] body)) (.seq (.leaf (sel [1, 1, 1, 0, 1, 0, 0, 1, 0] body)) (.seq (.block 1 (.seq (.leaf (sel [1, 1, 1, 0, 1, 0, 0, 1, 1, 0, 0, 0] body)) (.seq (.seq (.leaf (sel [1, 1, 1, 0, 1, 0, 0, 1, 1, 0, 0, 1, 0, 0] body)) (.block 2 (.seq (.leaf (sel [1, 1, 1, 0, 1, 0, 0, 1, 1, 0, 0, 1, 0, 1, 0, 0] body)) (.cond 31 (.seq (.leaf (sel [1, 1, 1, 0, 1, 0, 0, 1, 1, 0, 0, 1, 0, 1, 0, 1, 0, 0] body)) (.seq (.leaf (sel [1, 1, 1, 0, 1, 0, 0, 1, 1, 0, 0, 1, 0, 1, 0, 1, 0, 1, 0] body)) (.seq (.leaf (sel [1, 1, 1, 0, 1, 0, 0, 1, 1, 0, 0, 1, 0, 1, 0, 1, 0, 1, 1, 0] body)) (.cond 40 (.seq (.leaf (sel [1, 1, 1, 0, 1, 0, 0, 1, 1, 0, 0, 1, 0, 1, 0, 1, 0, 1, 1, 1, 0, 0] body)) (.mark (leaf [(0, .s .ptr), (1, .s .slice), (5, .s .slice), (9, .s .slice), (22, .s .slice), (23, .s (.int .i64)), (24, .s (.int .i64))] (k1 R Xa)) (.leaf (sel [1, 1, 1, 0, 1, 0, 0, 1, 1, 0, 0, 1, 0, 1, 0, 1, 0, 1, 1, 1, 0, 1] body)))) (.leaf (sel [1, 1, 1, 0, 1, 0, 0, 1, 1, 0, 0, 1, 0, 1, 0, 1, 0, 1, 1, 1, 1] body)))))) (.leaf (sel [1, 1, 1, 0, 1, 0, 0, 1, 1, 0, 0, 1, 0, 1, 0, 1, 1] body)))))) (.mark (leaf [(0, .s .ptr), (1, .s .slice), (5, .s .slice), (7, .s .any), (22, .s .slice), (23, .s (.int .i64)), (24, .s (.int .i64))] (k2 R Xa)) (.leaf (sel [1, 1, 1, 0, 1, 0, 0, 1, 1, 0, 0, 1, 1] body)))))) (.leaf (sel [1, 1, 1, 0, 1, 0, 0, 1, 1, 1] body)))))
end g_parseState_autoLinkText
def g_parseState_autoLinkText (R : EP) (x0 : OA) (x1q : OA) (x1n : Nat) (x1c : Nat) (w : World) : Prop :=
 nilP x0 fun a1 =>
 ∃ (v2 : OA), w.cell? a1 = some (.pointer v2) ∧
 nilP v2 fun a3 =>
 ∃ (v4 : Bool), w.cell? (a3.add 3) = some (.bool v4) ∧
 br (!v4)
 (R (.returned (.slice x1q x1n x1c)) w)
 (g_parseState_autoLinkText.l1 R x0 x1q x1n x1c none 0 0 x1q x1n x1c (x1n : Int) 0 w)

noncomputable def g_parseState_autoLinkText.ac (R : EP) : AC :=
  (.seq (.leaf (sel [0] g_parseState_autoLinkText.body)) (.seq (.leaf (sel [1, 0] g_parseState_autoLinkText.body)) (.seq (.leaf (sel [1, 1, 0] g_parseState_autoLinkText.body)) (.seq (.seq (.leaf (sel [1, 1, 1, 0, 0] g_parseState_autoLinkText.body)) (.block 0 (.loop (leaf [(0, .s .ptr), (1, .s .slice), (5, .s .slice), (22, .s .slice), (23, .s (.int .i64)), (24, .s (.int .i64))] (g_parseState_autoLinkText.l1 R)) (sel [1, 1, 1, 0, 1, 0, 0] g_parseState_autoLinkText.body)))) (.leaf (sel [1, 1, 1, 1] g_parseState_autoLinkText.body))))))
theorem g_parseState_autoLinkText.good (R : EP) : Good P 98 (g_parseState_autoLinkText.ac R) (QF P [.tmp 4] R) :=
  ⟨trivial, ⟨trivial, ⟨trivial, ⟨⟨trivial, (loopG (g_parseState_autoLinkText.al1 R) (g_parseState_autoLinkText.bl1 R) (fun _ => by kernel_rfl) (fun Xa => ⟨trivial, ⟨trivial, ⟨⟨trivial, ⟨⟨trivial, ⟨trivial, ⟨⟨trivial, ⟨trivial, ⟨trivial, ⟨⟨trivial, ⟨trivial, cutE (by intro x0 x1q x1n x1c x5q x5n x5c x9q x9n x9c x22q x22n x22c x23 x24 ρ w; kernel_rfl)⟩⟩, trivial⟩⟩⟩⟩, trivial⟩⟩⟩, ⟨trivial, cutE (by intro x0 x1q x1n x1c x5q x5n x5c x7 x22q x22n x22c x23 x24 ρ w; kernel_rfl)⟩⟩⟩, trivial⟩⟩⟩) (fun Xa => by intro x0 x1q x1n x1c x5q x5n x5c x22q x22n x22c x23 x24 ρ w; kernel_rfl) (fun X h _ _ _ _ _ _ _ _ _ _ _ _ _ g => g X h))⟩, trivial⟩⟩⟩⟩
theorem g_parseState_autoLinkText.eq (R : EP) (x0 : OA) (x1q : OA) (x1n : Nat) (x1c : Nat) (w : World) : g_parseState_autoLinkText R x0 x1q x1n x1c w = vcA P 98 (g_parseState_autoLinkText.ac R) (QF P [.tmp 4] R) (fr0 [.pointer x0, .slice x1q x1n x1c]) w := by kernel_rfl
theorem g_parseState_autoLinkText.sound {R : EP} {x0 : OA} {x1q : OA} {x1n : Nat} {x1c : Nat} {w : World} (h : g_parseState_autoLinkText R x0 x1q x1n x1c w) : callE P i_parseState_autoLinkText #[.pointer x0, .slice x1q x1n x1c] R w :=
  callE_fin (c := g_parseState_autoLinkText.body) Tryz.func83 Tryz.call83 (by kernel_rfl) (by kernel_rfl) (by kernel_rfl) (by kernel_rfl) (by kernel_rfl) (g_parseState_autoLinkText.good R) (g_parseState_autoLinkText.eq R x0 x1q x1n x1c w) h
end Go.Proofs.YtmicoampfglaiaaGreatDoor

/- The end of inline. -/
set_option linter.unusedVariables false
namespace Go.Proofs.YtmicoampfglaiaaGreatDoor
open Go.Proofs Go.IntWalk Go.RowKit
variable {σ : Out} {w : World} {L L' : List Chunk} {R : Ending → World → Prop}
def EmphOK (ts ts' : List Inl) : Prop :=
  ∀ (σ : Out) (R : Ending → World → Prop) (pq q : Option Addr) (n c : Nat) vs RM EM L w, Sl 1 ty_Inline q n c vs RM → InlsAt ts vs EM → n < 1073741823 → Sat σ w (RM ++ (EM ++ L)) →
    (∀ w q' n' c' vs' RM' EM', Sl 1 ty_Inline q' n' c' vs' RM' → n' ≤ n → InlsAt ts' vs' EM' → Sat σ w (RM' ++ (EM' ++ L)) → R (.returned (.slice q' n' c')) w) →
    callE P i_parseState_emph #[.pointer pq, .slice q 0 c, .slice q n c] R w
theorem emphOK_none {ts : List Inl} (hno : ∀ t ∈ ts, t.ty ≠ ty_P_openPlain ∧ t.ty ≠ ty_P_emphPlain) : EmphOK ts ts := by
  intro σ R pq q n c vs RM EM L w hS hI hn h hR
  exact emph_none_ok hS hI hno (by omega) h fun w h => hR w q n c vs RM EM hS (Nat.le_refl _) hI h
theorem autoOff_ok {b pb : Nat} {p : PS} {o : Opt} {q : Option Addr} {n c : Nat} (hpz : p.pz = some ⟨pb, 0, none⟩) (hp : p.at b ∈ L) (ho : o.at pb ∈ L) (hoff : o.auto = false) (h : Sat σ w L) (hR : R (.returned (.slice q n c)) w) :
    callE P i_parseState_autoLinkText #[.pointer (some ⟨b, 0, none⟩), .slice q n c] R w := by
  refine g_parseState_autoLinkText.sound ?_
  refine nilP_some ⟨_, by rw [← hpz]; exact Sat.ld h hp rfl, nilP_some ?_⟩
  simp only [Addr.add_lit, Nat.zero_add]
  exact ⟨o.auto, Sat.ld h ho rfl, br_true (by rw [hoff]; rfl) hR⟩
theorem inl_end {X : XI} {b pb e : Nat} {p : PS} {o : Opt} {ts ts' : List Inl} {opens : List Nat} {oq : Option Addr} {on oc : Nat} {lo : Int} {bk : Bool} (h : IIn σ b p ts opens oq on oc L w) (he : p.em = e) (hs : p.s.length < 1000000000)
    (hn : ts.length < 1000000000) (hpz : p.pz = some ⟨pb, 0, none⟩) (ho : o.at pb ∈ L) (hoff : o.auto = false) (hE : EmphOK (emitM p.s e p.s.length ts) ts') (hpos : ∀ t ∈ ts', ∀ s, t.plain? = some s → s ≠ []) (hb : plen ts' < 1073741824)
    (hR : ∀ w (p' : PS) q n c vs RM EM, p'.core = p.core → Sl 1 ty_Inline q n c vs RM → n < 1073741824 → InlsAt (mergeM ts') vs EM → Sat σ w (p'.at b :: (RM ++ (EM ++ L))) → R (.returned (.slice q n c)) w) :
    g_parseState_inline.bl1 R X (some ⟨b, 0, none⟩) (bs p.s) oq on oc lo bk (p.s.length : Nat) w := by
  have elen : (emitM p.s e p.s.length ts).length ≤ ts.length + 1 := by unfold emitM; split <;> simp
  refine br_false (by simp) ?_
  rw [bs_size]
  refine emitI_ok h he (Nat.le_refl _) (by omega) fun w p1 hp1 _ _ h => ⟨rfl, ?_⟩
  obtain ⟨vs, RM, EM, OM, hS, hI, hO, hlen, h⟩ := h
  have hvl := hI.length
  have hn0 := hS.1
  have hnc := hS.2.1
  have c1 : p1.pz = p.pz := by have := congrArg PS.pz hp1; exact this
  refine Sat.tk h fun w h => ?_
  refine nilP_some (nilP_some ?_)
  refine ⟨_, _, _, Sat.ld h (by first | assumption | (repeat (first | exact .head _ | apply List.Mem.tail))) (by exact rfl), ?_⟩
  refine ⟨_, _, _, fun w => sliceT rowInl.ht rowInl.hi _ _ _ 0 (by omega) w, ?_⟩
  refine ⟨_, _, _, Sat.ld h (by first | assumption | (repeat (first | exact .head _ | apply List.Mem.tail))) (by exact rfl), ?_⟩
  have h : Sat σ w (RM ++ (EM ++ (p1.at b :: (OM ++ L)))) := h.re (by intro _; simp only [List.append_eq, cnt_append, cnt_cons, cnt_nil] <;> omega)
  refine hE σ _ _ p1.lq p1.ln p1.lc vs RM EM _ w hS hI (by omega) h fun w q' n' c' vs' RM' EM' hS' hnn hI' h => ⟨_, _, _, rfl, nilP_some ?_⟩
  have h : Sat σ w (p1.at b :: (RM' ++ (EM' ++ (OM ++ L)))) := h.re (by intro _; simp only [List.append_eq, cnt_append, cnt_cons, cnt_nil] <;> omega)
  refine Sat.st h (k := 0) rfl (Nat.le_of_ble_eq_true rfl) trivial (by first | (dsimp only [List.set]; exact rfl) | exact rfl) fun w h => ?_
  let p2 : PS := { p1 with lq := q', ln := n', lc := c' }
  have h : Sat σ w (p2.at b :: (RM' ++ (EM' ++ (OM ++ L)))) := h
  refine nilP_some ?_
  refine ⟨_, _, _, Sat.ld h (by first | assumption | (repeat (first | exact .head _ | apply List.Mem.tail))) (by exact rfl), ?_⟩
  have h : Sat σ w (RM' ++ (EM' ++ (p2.at b :: (OM ++ L)))) := h.re (by intro _; simp only [List.append_eq, cnt_append, cnt_cons, cnt_nil] <;> omega)
  refine mergePlain_ok (n := n') hS' hI' hpos hb (by omega) h fun w n2 vs2 RM2 EM2 hS2 hn2 hI2 h => ⟨_, _, _, rfl, nilP_some ?_⟩
  have h : Sat σ w (p2.at b :: (RM2 ++ (EM2 ++ (OM ++ L)))) := h.re (by intro _; simp only [List.append_eq, cnt_append, cnt_cons, cnt_nil] <;> omega)
  refine Sat.st h (k := 0) rfl (Nat.le_of_ble_eq_true rfl) trivial (by first | (dsimp only [List.set]; exact rfl) | exact rfl) fun w h => ?_
  let p3 : PS := { p1 with lq := q', ln := n2, lc := c' }
  have h : Sat σ w (p3.at b :: (RM2 ++ (EM2 ++ (OM ++ L)))) := h
  refine nilP_some ?_
  refine ⟨_, _, _, Sat.ld h (by first | assumption | (repeat (first | exact .head _ | apply List.Mem.tail))) (by exact rfl), ?_⟩
  refine autoOff_ok (p := p3) (by rw [← hpz, ← c1]) (.head _) (.tail _ (List.mem_append_right _ (List.mem_append_right _ (List.mem_append_right _ ho)))) hoff h ⟨_, _, _, rfl, nilP_some ?_⟩
  refine Sat.st h (k := 0) rfl (Nat.le_of_ble_eq_true rfl) trivial (by first | (dsimp only [List.set]; exact rfl) | exact rfl) fun w h => ?_
  refine nilP_some ?_
  refine ⟨_, _, _, Sat.ld h (by first | assumption | (repeat (first | exact .head _ | apply List.Mem.tail))) (by exact rfl), ?_⟩
  have h : Sat σ w (p3.at b :: (RM2 ++ (EM2 ++ (OM ++ L)))) := h
  exact hR w p3 q' n2 c' vs2 RM2 EM2 (by rw [← hp1]; rfl) hS2 (by omega) hI2 (h.less OM (by intro _; simp only [List.append_eq, cnt_append, cnt_cons, cnt_nil] <;> omega))
/-- The beginning of inline. -/
theorem inl_begin {b : Nat} {p : PS} {raw : List UInt8} (h : Sat σ w (p.at b :: L)) (hl : raw.length < 4611686018427387904)
    (hK : ∀ w, IIn σ b { p with s := trimLR isST raw, em := 0, lq := none, ln := 0, lc := 0 } [] [] none 0 0 L w → g_parseState_inline.l1 R (some ⟨b, 0, none⟩) (bs (trimLR isST raw)) none 0 0 0 false 0 w) :
    callE P i_parseState_inline #[.pointer (some ⟨b, 0, none⟩), .string (bs raw)] R w := by
  refine g_parseState_inline.sound ?_
  refine trimSpaceTab_ok hl ⟨_, rfl, nilP_some ?_⟩
  refine Sat.st h (k := 0) rfl (Nat.le_of_ble_eq_true rfl) trivial (by first | (dsimp only [List.set]; exact rfl) | exact rfl) fun w h => ?_
  refine nilP_some ?_
  refine Sat.st h (k := 0) rfl (Nat.le_of_ble_eq_true rfl) trivial (by first | (dsimp only [List.set]; exact rfl) | exact rfl) fun w h => ?_
  refine nilP_some ?_
  refine Sat.st h (k := 0) rfl (Nat.le_of_ble_eq_true rfl) trivial (by first | (dsimp only [List.set]; exact rfl) | exact rfl) fun w h => ?_
  exact hK w ⟨[], [], [], [], Sl.nil _ _, ⟨rfl, rfl⟩, Sl.nil _ _, by simp, h⟩
end Go.Proofs.YtmicoampfglaiaaGreatDoor

/- A line that begins with a byte that no block but a paragraph begins with. -/
set_option linter.unusedVariables false
namespace Go.Proofs.YtmicoampfglaiaaGreatDoor
open Go.Proofs Go.IntWalk
variable {σ : Out} {w : World} {L L' : List Chunk} {R : Ending → World → Prop}
def lnOf (s : List UInt8) (nl : UInt8 := 0) : Ln := ⟨0, 0, 0, s, nl⟩
/-- A byte with which a line begins that no block but a paragraph begins with (signs < and the marks of lists left aside). -/
def plainStart0 (c : UInt8) : Bool := !(isST c || c == 62 || c == 35 || c == 95 || c == 96 || c == 126 || c == 61 || c == 45 || c == 42)
def plainStart (c : UInt8) : Bool := plainStart0 c && c != 60 && !isBullet c
theorem tsGo_first {c nl : UInt8} {s : List UInt8} (hc : isST c = false) (mn k n : Nat) (e : Bool) : (lnOf (c :: s) nl).tsGo mn e (k + 1) n = if mn ≤ n then some (lnOf (c :: s) nl) else none := by
  simp only [isST, Bool.or_eq_false_iff, beq_eq_false_iff_ne, ne_eq] at hc
  simp [Ln.tsGo, lnOf, hc.1, hc.2]
theorem lnOf_ok {nl : UInt8} {s : List UInt8} (hs : s.length < 1000000000) : (lnOf s nl).ok := ⟨by simp [lnOf], by simp [lnOf], by simp [lnOf]; omega, by simp [lnOf]⟩
theorem lead_first {c nl : UInt8} {s : List UInt8} (hc : isST c = false) (e : Bool) : (lnOf (c :: s) nl).lead 3 e = lnOf (c :: s) nl := by
  unfold Ln.lead Ln.trimSp; rw [tsGo_first hc]; rfl
theorem strip_first {c nl : UInt8} {s : List UInt8} (hc : isST c = false) : (lnOf (c :: s) nl).strip 3 0 = (0, lnOf (c :: s) nl) := by
  simp only [Ln.strip, Ln.trimSp]; rw [tsGo_first hc]; rfl
theorem plainStart0_st {c : UInt8} (hc : plainStart0 c = true) : isST c = false := by
  simp only [plainStart0, Bool.not_eq_true', Bool.or_eq_false_iff] at hc
  exact hc.1.1.1.1.1.1.1.1
theorem plain_firstX {c nl : UInt8} {s : List UInt8} (hc : plainStart0 c = true) (hs : s.length < 1000000) (hB : LDecl (lnOf (c :: s) nl)) (hH : HDecl (lnOf (c :: s) nl)) : (lnOf (c :: s) nl).plain := by
  simp only [plainStart0, Bool.not_eq_true', Bool.or_eq_false_iff, beq_eq_false_iff_ne, ne_eq] at hc
  obtain ⟨⟨⟨⟨⟨⟨⟨⟨hst, h62⟩, h35⟩, h95⟩, h96⟩, h126⟩, h61⟩, h45⟩, h42⟩ := hc
  have hlead : ∀ e, (lnOf (c :: s) nl).lead 3 e = lnOf (c :: s) nl := lead_first hst
  have hstrip : (lnOf (c :: s) nl).strip 3 0 = (0, lnOf (c :: s) nl) := strip_first hst
  have hpeek : (lnOf (c :: s) nl).peek = c := rfl
  have htc : ∀ d : UInt8, c ≠ d → (lnOf (c :: s) nl).trimC d = none := by
    intro d hd
    simp [Ln.trimC, lnOf, hd]
  refine ⟨lnOf_ok (by simp; omega), ?_, ?_, ?_, ?_, hB, hH, ?_, ?_⟩
  · show (c :: s).all isST = false
    rw [List.all_cons, hst]; rfl
  · unfold Ln.quote; rw [hlead, htc 62 h62]; rfl
  · unfold Ln.heading; rw [hlead, htc 35 h35]
  · unfold Ln.isHR
    simp only [hlead, hpeek]
    rw [if_neg]
    rintro (h | h | h)
    · exact h45 h
    · exact h95 h
    · exact h42 h
  · rw [hstrip]; exact ⟨h96, h126⟩
  · unfold Ln.trimSp; rw [tsGo_first hst]; rfl
theorem plain_first {c nl : UInt8} {s : List UInt8} (hc : plainStart c = true) (hs : s.length < 1000000) : (lnOf (c :: s) nl).plain := by
  simp only [plainStart, Bool.and_eq_true, Bool.not_eq_true', bne_iff_ne, ne_eq] at hc
  obtain ⟨⟨h0, h60⟩, hbu⟩ := hc
  have hst := plainStart0_st h0
  have hok : (lnOf (c :: s) nl).ok := lnOf_ok (by simp; omega)
  exact plain_firstX h0 hs (LDecl.of_peek hok (by rw [strip_first hst]; exact hbu)) (HDecl.of_peek hok (by rw [lead_first hst]; exact h60))
/-! ### Lines that begin with digits, but are no items of lists -/
def digB (c : UInt8) : Bool := decide (48 ≤ c.toNat) && decide (c.toNat ≤ 57)
/-- Behind the digits that begin the text there is no mark of a list. -/
def numNo (s : List UInt8) : Prop := (s.dropWhile digB).head? ≠ some 46 ∧ (s.dropWhile digB).head? ≠ some 41
theorem startListItem_num {b : Nat} {q : Option Addr} {c nl : UInt8} {s : List UInt8} (h : Sat σ w ((lnOf (c :: s) nl).at b :: L)) (hl : s.length < 1000000) (hc : digB c = true) (hn : numNo (c :: s))
    (hR : ∀ w, Sat σ w ((lnOf (c :: s) nl).at b :: L) → R (.returned (.bool false)) w) : callE P i_parseState_startListItem #[.pointer q, .pointer (some ⟨b, 0, none⟩)] R w := by
  have hcd := hc
  simp only [digB, Bool.and_eq_true, decide_eq_true_eq] at hcd
  have hst : isST c = false := by
    simp only [isST, Bool.or_eq_false_iff, beq_eq_false_iff_ne, ne_eq]
    constructor <;> (rintro rfl; revert hcd; decide)
  have hlok : (lnOf (c :: s) nl).ok := lnOf_ok (by simp; omega)
  refine g_parseState_startListItem.sound ?_
  refine Sat.bx h fun b1 w h => ?_
  repeat (first | refine nilP_some ?_ | refine Sat.tk h fun w h => ?_ | refine ⟨_, Sat.ld h (by first | assumption | (repeat (first | exact .head _ | apply List.Mem.tail))) (by exact rfl), ?_⟩ | refine ⟨_, _, _, Sat.ld h (by first | assumption | (repeat (first | exact .head _ | apply List.Mem.tail))) (by exact rfl), ?_⟩ | refine Sat.st h (k := 0) rfl (Nat.le_of_ble_eq_true rfl) trivial (by first | (dsimp only [List.set]; exact rfl) | exact rfl) fun w h => ?_ | refine Sat.st h (k := 1) rfl (Nat.le_of_ble_eq_true rfl) trivial (by first | (dsimp only [List.set]; exact rfl) | exact rfl) fun w h => ?_ | refine Sat.st h (k := 2) rfl (Nat.le_of_ble_eq_true rfl) trivial (by first | (dsimp only [List.set]; exact rfl) | exact rfl) fun w h => ?_ | refine Sat.st h (k := 3) rfl (Nat.le_of_ble_eq_true rfl) trivial (by first | (dsimp only [List.set]; exact rfl) | exact rfl) fun w h => ?_ | refine Sat.st h (k := 4) rfl (Nat.le_of_ble_eq_true rfl) trivial (by first | (dsimp only [List.set]; exact rfl) | exact rfl) fun w h => ?_ | refine Sat.st h (k := 5) rfl (Nat.le_of_ble_eq_true rfl) trivial (by first | (dsimp only [List.set]; exact rfl) | exact rfl) fun w h => ?_ | refine Sat.st h (k := 6) rfl (Nat.le_of_ble_eq_true rfl) trivial (by first | (dsimp only [List.set]; exact rfl) | exact rfl) fun w h => ?_ | refine Sat.bx h fun b0 w h => ?_)
  have h : Sat σ _ ((lnOf (c :: s) nl).at b0 :: (b1, cel [.pointer q] ty_P_parseState) :: (lnOf (c :: s) nl).at b :: L) := h
  intro X hX
  refine hX _ _ _ _ _ (br_true (by simp) ?_)
  refine YtmicoampfglaiaaGreatDoor.trimSp_ok (min := 1) (max := 1) h hlok (by decide) (by decide) ?_
  have hts : (lnOf (c :: s) nl).trimSp 1 1 false = none := by unfold Ln.trimSp; rw [tsGo_first hst]; rfl
  rw [hts]
  intro w h
  refine ⟨_, rfl, br_true rfl ?_⟩
  refine peek_ok h (by first | assumption | (repeat (first | exact .head _ | apply List.Mem.tail))) hlok fun w h => ⟨_, rfl, ?_⟩
  rw [show (lnOf (c :: s) nl).peek = c from rfl]
  have ne : ∀ (d : UInt8) (n : Int), (d.toNat : Int) = n → (d.toNat < 48 ∨ 57 < d.toNat) → (((c.toNat : Nat) : Int) == n) = false := by
    intro d n hd hn
    refine beqf hd ?_
    rintro rfl; omega
  have k4 : g_parseState_startListItem.k4 R b1 b0 0 0 true w := by
    refine br_true rfl ?_
    refine ⟨_, Sat.ld h (by first | assumption | (repeat (first | exact .head _ | apply List.Mem.tail))) (by exact rfl), ?_⟩
    intro Y hY
    have key : ∀ k j v w, j + k = (c :: s).length → (∀ m, m < j → digB ((c :: s).getD m 0) = true) → Sat σ w ((lnOf (c :: s) nl).at b0 :: (b1, cel [.pointer q] ty_P_parseState) :: (lnOf (c :: s) nl).at b :: L) → Y b1 b0 0 v (j : Int) w := by
      intro k
      induction k with
      | zero =>
        intro j v w hj hall h
        refine hY _ _ _ _ _ _ ?_
        refine ⟨_, Sat.ld h (by first | assumption | (repeat (first | exact .head _ | apply List.Mem.tail))) (by exact rfl), ?_⟩
        exact br_true (by simp [lnOf] at hj ⊢; omega) (hR _ h.tail.tail)
      | succ k ih =>
        intro j v w hj hall h
        refine hY _ _ _ _ _ _ ?_
        refine ⟨_, Sat.ld h (by first | assumption | (repeat (first | exact .head _ | apply List.Mem.tail))) (by exact rfl), ?_⟩
        refine br_false (by simp [lnOf] at hj ⊢; omega) ?_
        refine ⟨_, Sat.ld h (by first | assumption | (repeat (first | exact .head _ | apply List.Mem.tail))) (by exact rfl), ?_⟩
        refine ⟨by omega, by simp [lnOf] at hj ⊢; omega, ?_⟩
        rw [show ((lnOf (c :: s) nl).text) = c :: s from rfl]
        have hjl : j < (c :: s).length := by omega
        rw [bs_bt]
        have hdw : (c :: s).dropWhile digB = ((c :: s).drop j).dropWhile digB := by
          have : ∀ (m : Nat) (l : List UInt8), m ≤ l.length → (∀ i, i < m → digB (l.getD i 0) = true) → l.dropWhile digB = (l.drop m).dropWhile digB := by
            intro m
            induction m with
            | zero => intro l _ _; rfl
            | succ m ihm =>
              intro l hl ha
              cases l with
              | nil => simp at hl
              | cons x l =>
                have h0 : digB x = true := ha 0 (by omega)
                rw [List.dropWhile_cons_of_pos h0, List.drop_succ_cons]
                exact ihm l (by simpa using hl) (fun i hi => ha (i + 1) (by omega))
          exact this j _ (by omega) hall
        have hget : (c :: s).getD j 0 = (c :: s)[j] := by rw [List.getD_eq_getElem?_getD, List.getElem?_eq_getElem hjl]; rfl
        rw [hget]
        generalize hd : (c :: s)[j] = d at *
        by_cases hdig : digB d = true
        · have hd' := hdig
          simp only [digB, Bool.and_eq_true, decide_eq_true_eq] at hd'
          refine br_false ?_ (br_false (by simp; omega) ?_)
          · have a1 := u8b d 46 46 rfl
            have a2 := u8b d 41 41 rfl
            rw [a1, a2]
            have b1 : d ≠ 46 := by rintro rfl; revert hd'; decide
            have b2 : d ≠ 41 := by rintro rfl; revert hd'; decide
            simp [b1, b2]
          unfold g_parseState_startListItem.k9
          refine ⟨_, Sat.ld h (by first | assumption | (repeat (first | exact .head _ | apply List.Mem.tail))) (by exact rfl), ?_⟩
          refine br_split (fun _ => hR _ h.tail.tail) fun _ => ?_
          rw [i64_inc (by simp at hjl; omega)]
          refine ih (j + 1) _ w (by omega) ?_ h
          intro m hm
          rcases Nat.lt_or_ge m j with h1 | h1
          · exact hall m h1
          · obtain rfl : m = j := by omega
            rw [hget]; exact hdig
        · have hdf : digB d = false := by simpa using hdig
          have hh : ((c :: s).dropWhile digB).head? = some d := by
            rw [hdw, List.drop_eq_getElem_cons hjl, hd, List.dropWhile_cons_of_neg (by simp [hdf])]; rfl
          have n1 := hn.1; have n2 := hn.2
          rw [hh] at n1 n2
          refine br_false ?_ (br_true ?_ (hR _ h.tail.tail))
          · have a1 := u8b d 46 46 rfl
            have a2 := u8b d 41 41 rfl
            rw [a1, a2]
            have b1 : d ≠ 46 := fun h => n1 (by rw [h])
            have b2 : d ≠ 41 := fun h => n2 (by rw [h])
            simp [b1, b2]
          · simp only [digB, Bool.and_eq_false_iff, decide_eq_false_iff_not] at hdf
            simp; omega
    exact key (c :: s).length 0 0 w (by simp) (fun m hm => by omega) h
  refine br_false (ne 45 45 rfl (by decide)) (br_false (ne 42 42 rfl (by decide)) ?_)
  rw [ne 43 43 rfl (by decide)]
  refine br_false rfl ?_
  have hcn : c.toNat = 48 ∨ c.toNat = 49 ∨ c.toNat = 50 ∨ c.toNat = 51 ∨ c.toNat = 52 ∨ c.toNat = 53 ∨ c.toNat = 54 ∨ c.toNat = 55 ∨ c.toNat = 56 ∨ c.toNat = 57 := by omega
  rcases hcn with e | e | e | e | e | e | e | e | e | e <;> rw [e]
  · exact br_true rfl k4
  · exact br_false rfl (br_true rfl k4)
  · exact br_false rfl (br_false rfl (br_true rfl k4))
  · exact br_false rfl (br_false rfl (br_false rfl (br_true rfl k4)))
  · exact br_false rfl (br_false rfl (br_false rfl (br_false rfl (br_true rfl k4))))
  · exact br_false rfl (br_false rfl (br_false rfl (br_false rfl (br_false rfl (br_true rfl k4)))))
  · exact br_false rfl (br_false rfl (br_false rfl (br_false rfl (br_false rfl (br_false rfl (br_true rfl k4))))))
  · exact br_false rfl (br_false rfl (br_false rfl (br_false rfl (br_false rfl (br_false rfl (br_false rfl (br_true rfl k4)))))))
  · exact br_false rfl (br_false rfl (br_false rfl (br_false rfl (br_false rfl (br_false rfl (br_false rfl (br_false rfl (br_true rfl k4))))))))
  · exact br_false rfl (br_false rfl (br_false rfl (br_false rfl (br_false rfl (br_false rfl (br_false rfl (br_false rfl (br_false rfl (by exact k4)))))))))
theorem LDecl.num {c nl : UInt8} {s : List UInt8} (hl : s.length < 1000000) (hc : digB c = true) (hn : numNo (c :: s)) : LDecl (lnOf (c :: s) nl) := by
  intro b d p ob o M t v hs hd ho hb ht σ w L R h hR
  refine g_newListItem.sound ?_
  refine Sat.bx h fun b1 w h => ?_
  refine Sat.bx h fun b3 w h => ?_
  have h : Sat σ w (zLn b3 :: (lnOf (c :: s) nl).at b1 :: (p.at b :: M ++ L)) := h
  have h : Sat σ w (p.at b :: M ++ (zLn b3 :: (lnOf (c :: s) nl).at b1 :: L)) := h.re (by intro _; simp only [List.append_eq, cnt_append, cnt_cons, cnt_nil] <;> omega)
  refine curB_ok h hs hd fun w h => ?_
  rw [ho]
  dsimp only
  refine ⟨_, rfl, none, false, w, by rw [hb]; exact ta_listBuilder_no ht w, br_false rfl (br_false rfl ?_)⟩
  have h : Sat σ w ((lnOf (c :: s) nl).at b1 :: zLn b3 :: p.at b :: M ++ L) := h.re (by intro _; simp only [List.append_eq, cnt_append, cnt_cons, cnt_nil] <;> omega)
  refine startListItem_num h hl hc hn fun w h => ⟨_, rfl, br_false rfl ?_⟩
  repeat (first | refine nilP_some ?_ | refine Sat.tk h fun w h => ?_ | refine ⟨_, Sat.ld h (by first | assumption | (repeat (first | exact .head _ | apply List.Mem.tail))) (by exact rfl), ?_⟩ | refine ⟨_, _, _, Sat.ld h (by first | assumption | (repeat (first | exact .head _ | apply List.Mem.tail))) (by exact rfl), ?_⟩ | refine Sat.st h (k := 0) rfl (Nat.le_of_ble_eq_true rfl) trivial (by first | (dsimp only [List.set]; exact rfl) | exact rfl) fun w h => ?_ | refine Sat.st h (k := 1) rfl (Nat.le_of_ble_eq_true rfl) trivial (by first | (dsimp only [List.set]; exact rfl) | exact rfl) fun w h => ?_ | refine Sat.st h (k := 2) rfl (Nat.le_of_ble_eq_true rfl) trivial (by first | (dsimp only [List.set]; exact rfl) | exact rfl) fun w h => ?_ | refine Sat.st h (k := 3) rfl (Nat.le_of_ble_eq_true rfl) trivial (by first | (dsimp only [List.set]; exact rfl) | exact rfl) fun w h => ?_ | refine Sat.st h (k := 4) rfl (Nat.le_of_ble_eq_true rfl) trivial (by first | (dsimp only [List.set]; exact rfl) | exact rfl) fun w h => ?_ | refine Sat.st h (k := 5) rfl (Nat.le_of_ble_eq_true rfl) trivial (by first | (dsimp only [List.set]; exact rfl) | exact rfl) fun w h => ?_ | refine Sat.st h (k := 6) rfl (Nat.le_of_ble_eq_true rfl) trivial (by first | (dsimp only [List.set]; exact rfl) | exact rfl) fun w h => ?_ | refine Sat.bx h fun b0 w h => ?_)
  exact hR _ h.tail.tail
theorem plain_digit {c nl : UInt8} {s : List UInt8} (hl : s.length < 1000000) (hc : digB c = true) (hn : numNo (c :: s)) : (lnOf (c :: s) nl).plain := by
  have hcd := hc
  simp only [digB, Bool.and_eq_true, decide_eq_true_eq] at hcd
  have ne : ∀ d : UInt8, (d.toNat < 48 ∨ 57 < d.toNat) → c ≠ d := by rintro d hd rfl; omega
  have hp : plainStart0 c = true := by
    simp only [plainStart0, isST, Bool.not_eq_true', Bool.or_eq_false_iff, beq_eq_false_iff_ne, ne_eq]
    refine ⟨⟨⟨⟨⟨⟨⟨⟨⟨?_, ?_⟩, ?_⟩, ?_⟩, ?_⟩, ?_⟩, ?_⟩, ?_⟩, ?_⟩, ?_⟩ <;> exact ne _ (by decide)
  have hst := plainStart0_st hp
  exact plain_firstX hp hl (LDecl.num hl hc hn) (HDecl.of_peek (lnOf_ok (by simp; omega)) (by rw [lead_first hst]; exact ne 60 (by decide)))
end Go.Proofs.YtmicoampfglaiaaGreatDoor

/- A document of one line that is a paragraph: parse and print. -/
set_option linter.unusedVariables false
namespace Go.Proofs.YtmicoampfglaiaaGreatDoor
open Go.Proofs Go.IntWalk Go.RowKit
variable {σ : Out} {w : World} {L L' : List Chunk} {R : Ending → World → Prop}
def PS.coreS (p : PS) : PS := ({ p with s := [] } : PS).core
/-- The inlines of the text s print themselves by f. -/
def InlineOK (op : Opt) (s : List UInt8) (f : List UInt8 → List UInt8) : Prop :=
  ∀ (σ : Out) (R : Ending → World → Prop) (b pb : Nat) (p : PS) (L : List Chunk) (w : World), Sat σ w (p.at b :: L) → p.pz = some ⟨pb, 0, none⟩ → op.at pb ∈ L → p.links = none →
    (∀ w (p' : PS) q n c vs RM KM KM', p'.coreS = p.coreS → Sl 1 ty_Inline q n c vs RM → n < 1073741824 → PrintsL "PrintHTML" vs KM KM' f → Sat σ w (p'.at b :: (RM ++ (KM ++ L))) → R (.returned (.slice q n c)) w) →
    callE P i_parseState_inline #[.pointer (some ⟨b, 0, none⟩), .string (bs s)] R w
def PS0 (pz : Option Addr) : PS := ⟨pz, none, none, 0, none, 0, 0, 0, false, [], 0, none, 0, 0, none, 0, 0, none, 0, 0, List.replicate 80 (.int .i64 0) ++ [.bool false]⟩
theorem parseLine_ok {pb : Nat} {op : Opt} {raw : List UInt8} {f : List UInt8 → List UInt8} (h : Sat σ w L) (ho : op.at pb ∈ L) (hp : (lnOf raw).plain) (hlen : raw.length < 1000000) (h0 : idx raw [0] = none) (h10 : idx raw [10] = none) (h13 : idx raw [13] = none)
    (hne : raw.dropWhile isST ≠ []) (hb : ((raw.dropWhile isST).dropWhile isSTN).head? ≠ some 91) (hI : InlineOK op (raw.dropWhile isST) f)
    (hR : ∀ w db k DM DM', Prints "PrintHTML" (.iface ty_P_Document (.pointer (some ⟨db, 0, none⟩))) DM DM' (fun l => f (l ++ pOpen) ++ pClose) → Sat σ w (DM ++ L) → R (.returned (.tuple #[.pointer (some ⟨db, 0, none⟩), .bool k])) w) :
    callE P i_Parser_parse #[.pointer (some ⟨pb, 0, none⟩), .string (bs raw)] R w := by
  have hrl : raw ≠ [] := by intro h; subst h; exact hne rfl
  refine g_Parser_parse.sound ?_
  refine Sat.bx h fun b w h => ?_
  refine Sat.st h (k := 0) rfl (Nat.le_of_ble_eq_true rfl) trivial (by first | (dsimp only [List.set]; exact rfl) | exact rfl) fun w h => ?_
  have h : Sat σ w ((PS0 (some ⟨pb, 0, none⟩)).at b :: L) := h
  refine zzContains_ok (sub := [0]) (by omega) (by decide) ⟨_, rfl, ?_⟩
  rw [h0]
  refine br_false rfl ?_
  refine Sat.st h (k := 0) rfl (Nat.le_of_ble_eq_true rfl) trivial (by first | (dsimp only [List.set]; exact rfl) | exact rfl) fun w h => ?_
  refine Sat.bx h fun rb w h => ?_
  let p0 : PS := { PS0 (some ⟨pb, 0, none⟩) with depth := -1 }
  have h : Sat σ w (p0.at b :: [] ++ ((rb, cel [] ty_rootBuilder) :: L)) := h.up1
  have hstk : Stk p0 [] [] := ⟨Sl.nil 4 ty_openBlock, rfl, by simp⟩
  refine addBlock_ok h hstk rfl (by decide) fun w p1 M hp1 hs1 h => ⟨rfl, ?_⟩
  intro X hX
  refine hX _ _ _ _ (br_true (by rw [bs_toList]; simpa using hrl) ?_)
  refine zzIndex_ok (sub := [10]) (by omega) (by decide) ⟨_, rfl, ?_⟩
  refine zzIndex_ok (sub := [13]) (by omega) (by decide) ⟨_, rfl, ?_⟩
  have e10 : idxInt raw [10] = -1 := by unfold idxInt; rw [h10]
  have e13 : idxInt raw [13] = -1 := by unfold idxInt; rw [h13]
  rw [e10, e13]
  refine br_false rfl (br_false rfl ?_)
  have e1 : p1 = { p0 with stq := p1.stq, stn := 1, stc := p1.stc } := hp1
  have hl1 : p1.lineno = 0 := by rw [e1]; rfl
  refine ⟨_, Sat.ld h (.head _) rfl, ?_⟩
  refine Sat.st h (k := 0) rfl (Nat.le_of_ble_eq_true rfl) trivial (by first | (dsimp only [List.set]; exact rfl) | exact rfl) fun w h => ?_
  rw [hl1] at h
  let p2 : PS := { p1 with lineno := 1 }
  have h : Sat σ w (p2.at b :: M ++ ((rb, cel [] ty_rootBuilder) :: L)) := h
  have hs2 : Stk p2 [⟨.iface ty_P_rootBuilder (.pointer (some ⟨rb, 0, none⟩)), none, 0, 0, 0, 0⟩] M := by
    have := Stk.of (p' := p2) hs1 rfl rfl rfl
    rw [List.nil_append] at this
    exact this
  have hpz2 : p2.pz = some ⟨pb, 0, none⟩ := by show p1.pz = _; rw [e1]; rfl
  refine addLine_para (l := lnOf raw) h hs2 hpz2 (.tail _ ho) rfl (by decide) (by decide) hp fun w p3 M3 qb PM hp3 hs3 hPM h => ⟨rfl, ?_⟩
  refine hX _ _ _ _ (br_false (by rw [mk_toList]; rfl) ?_)
  have hpz3 : p3.pz = some ⟨pb, 0, none⟩ := by rw [hp3]; exact hpz2
  have htx : Txts p3 [] [] := by
    have : p3.tq = none ∧ p3.tn = 0 ∧ p3.tc = 0 := by rw [hp3]; show p1.tq = none ∧ p1.tn = 0 ∧ p1.tc = 0; rw [e1]; exact ⟨rfl, rfl, rfl⟩
    obtain ⟨a, b, c⟩ := this
    unfold Txts
    rw [a, b, c]
    exact ⟨Sl.nil 1 ty_P_Text, rfl, by simp⟩
  have hlk : p3.links = none := by rw [hp3]; show p1.links = none; rw [e1]; rfl
  have hdw : ((lnOf raw).text.drop (lnOf raw).i).dropWhile isST = raw.dropWhile isST := rfl
  rw [hdw] at hPM
  have hsl : (raw.dropWhile isST).length ≤ raw.length := (List.dropWhile_sublist isST).length_le
  have h : Sat σ w (p3.at b :: M3 ++ ([] ++ (PM ++ ((rb, cel [] ty_rootBuilder) :: L)))) := h
  refine finish_ok h hs3 rfl ⟨rfl, rfl, rfl⟩ rfl htx hPM (by omega) hne hb (by show (1 : Nat) < _; decide) fun w p4 TM IM t nb db q c hp4 ht4 hIM h => ⟨rfl, ?_⟩
  refine ⟨_, _, _, Sat.ld h (.head _) rfl, ?_⟩
  have htn : p4.tn = 1 := by rw [hp4]
  have hpz4 : p4.pz = some ⟨pb, 0, none⟩ := by rw [hp4]; exact hpz3
  intro Y hY
  obtain ⟨tb, tsp, htq, htm⟩ := ht4.1.rowAt (by rw [htn]; decide)
  refine hY _ _ _ _ _ _ _ _ (br_true (by rw [htn]; rfl) ⟨by decide, by rw [htn]; decide, ?_⟩)
  rw [htq]
  refine nilP_some ?_
  subst htm
  simp only [Addr.add_lit, Int.toNat_zero, Nat.zero_mul, Nat.add_zero]
  refine ⟨_, Sat.ld h (.tail _ (List.mem_append_left _ (.head _))) rfl, nilP_some ?_⟩
  simp only [Addr.add_lit, Nat.zero_add]
  have h : Sat σ w (p4.at b :: ([(tb, cel ([t].map (fun t => Value.pointer (some ⟨t, 0, none⟩)) ++ tsp) ty_P_Text)] ++ (docC db 0 0 q 1 c p3.links :: (IM ++ (paraC nb 1 1 t :: textC t 1 1 none 0 0 (raw.dropWhile isST) :: ((rb, cel [] ty_rootBuilder) :: L)))))) := h
  have h : Sat σ w (p4.at b :: (textC t 1 1 none 0 0 (raw.dropWhile isST) :: (tb, cel ([t].map (fun t => Value.pointer (some ⟨t, 0, none⟩)) ++ tsp) ty_P_Text) :: (docC db 0 0 q 1 c p3.links :: (IM ++ (paraC nb 1 1 t :: ((rb, cel [] ty_rootBuilder) :: L)))))) := h.re (by intro _; simp only [List.append_eq, cnt_append, cnt_cons, cnt_nil] <;> omega)
  refine ⟨_, Sat.ld h (.tail _ (.head _)) rfl, ?_⟩
  refine hI σ _ b pb p4 _ w h hpz4 (by simp [ho]) (by rw [hp4]; exact hlk) fun w p5 q5 n5 c5 vs RM KM KM' hp5 hS5 hn5 hP5 h => ⟨_, _, _, rfl, nilP_some ?_⟩
  have h : Sat σ w (textC t 1 1 none 0 0 (raw.dropWhile isST) :: (p5.at b :: (RM ++ (KM ++ ((tb, cel ([t].map (fun t => Value.pointer (some ⟨t, 0, none⟩)) ++ tsp) ty_P_Text) :: (docC db 0 0 q 1 c p3.links :: (IM ++ (paraC nb 1 1 t :: ((rb, cel [] ty_rootBuilder) :: L))))))))) := h.re (by intro _; simp only [List.append_eq, cnt_append, cnt_cons, cnt_nil] <;> omega)
  refine Sat.st h (k := 0) rfl (Nat.le_of_ble_eq_true rfl) trivial (by first | (dsimp only [List.set]; exact rfl) | exact rfl) fun w h => ?_
  have h : Sat σ w (textC t 1 1 q5 n5 c5 (raw.dropWhile isST) :: (p5.at b :: (RM ++ (KM ++ ((tb, cel ([t].map (fun t => Value.pointer (some ⟨t, 0, none⟩)) ++ tsp) ty_P_Text) :: (docC db 0 0 q 1 c p3.links :: (IM ++ (paraC nb 1 1 t :: ((rb, cel [] ty_rootBuilder) :: L))))))))) := h
  refine hY _ _ _ _ _ _ _ _ (br_false (by rw [htn]; rfl) (nilP_some ?_))
  simp only [Addr.add_lit, Nat.zero_add]
  have hroot : p5.root = some ⟨db, 0, none⟩ := by have := congrArg PS.root hp5; rw [show p5.root = p4.root from this, hp4]
  have hLL : p5.Lq = none ∧ p5.Ln = 0 ∧ p5.Lc = 0 := by
    have a := congrArg PS.Lq hp5; have b := congrArg PS.Ln hp5; have c := congrArg PS.Lc hp5
    rw [show p5.Lq = p4.Lq from a, show p5.Ln = p4.Ln from b, show p5.Lc = p4.Lc from c, hp4]
    show p3.Lq = none ∧ p3.Ln = 0 ∧ p3.Lc = 0
    rw [hp3]; show p1.Lq = none ∧ p1.Ln = 0 ∧ p1.Lc = 0; rw [e1]; exact ⟨rfl, rfl, rfl⟩
  have hfin : g_Parser_parse.k4 R b w := by
    refine Sat.tk h fun w h => ?_
    refine ⟨_, Sat.ld h (.tail _ (.head _)) rfl, _, Sat.ld h (.tail _ (.head _)) rfl, ?_⟩
    rw [hroot]
    refine hR w db p5.corner (docC db 0 0 q 1 c p3.links :: (IM ++ ((paraC nb 1 1 t :: textC t 1 1 q5 n5 c5 (raw.dropWhile isST) :: (RM ++ KM)) ++ []))) (docC db 0 0 q 1 c p3.links :: (IM ++ ((paraC nb 1 1 t :: textC t 1 1 q5 n5 c5 (raw.dropWhile isST) :: (RM ++ KM')) ++ []))) ?_ ?_
    · exact doc_prints hIM (by decide) (.cons (para_prints hS5 (by omega) hP5) .nil)
    · exact h.less (p5.at b :: (tb, cel ([t].map (fun t => Value.pointer (some ⟨t, 0, none⟩)) ++ tsp) ty_P_Text) :: [(rb, cel [] ty_rootBuilder)]) (by intro _; simp only [List.append_eq, cnt_append, cnt_cons, cnt_nil] <;> omega)
  refine ⟨op.task, Sat.ld h (b := pb) (i := 2) (.tail _ (.tail _ (List.mem_append_right _ (List.mem_append_right _ (.tail _ (.tail _ (List.mem_append_right _ (.tail _ (.tail _ ho))))))))) rfl, br_split (fun _ => ?_) (fun _ => hfin)⟩
  refine ⟨_, _, _, Sat.ld h (.tail _ (.head _)) rfl, ?_⟩
  intro Z hZ
  obtain ⟨l1, l2, l3⟩ := hLL
  rw [l1, l2, l3]
  exact hZ _ _ _ _ _ _ _ (br_false rfl hfin)
end Go.Proofs.YtmicoampfglaiaaGreatDoor

/- impl.HTML, and small functions of the laws. -/
set_option linter.unusedVariables false
namespace Go.Proofs.YtmicoampfglaiaaGreatDoor
open Go.Proofs Go.IntWalk Go.RowKit
variable {σ : Out} {w : World} {L L' : List Chunk} {R : Ending → World → Prop}
/-- What the thin package is handed. -/
def optV (o : Opt) : Value := .agg #[.bool o.strike, .bool o.task, .bool o.auto, .bool o.http, .bool o.table, .bool o.dot, .bool o.dash, .bool o.quote, .bool o.ids, .bool o.emoji]
theorem parser_ok {o : Opt} (h : Sat σ w L) (hR : ∀ w pb, Sat σ w (o.at pb :: L) → R (.returned (.pointer (some ⟨pb, 0, none⟩))) w) : callE P i_impl_parser #[optV o] R w := by
  refine g_impl_parser.sound ?_
  refine Sat.bx h fun b w h => ?_
  have ld : ∀ (k : Nat) (v : Bool), ([Value.bool o.strike, .bool o.task, .bool o.auto, .bool o.http, .bool o.table, .bool o.dot, .bool o.dash, .bool o.quote, .bool o.ids, .bool o.emoji])[k]? = some (.bool v) → w.cell? ⟨b, k, none⟩ = some (.bool v) := fun k v hv => Sat.ld h (.head _) hv
  refine ⟨_, ld 8 _ rfl, _, ld 0 _ rfl, _, ld 1 _ rfl, _, ld 2 _ rfl, _, ld 3 _ rfl, _, ld 4 _ rfl, _, ld 9 _ rfl, _, ld 5 _ rfl, _, ld 6 _ rfl, _, ld 7 _ rfl, ?_⟩
  refine Sat.bx h fun pb w h => hR w pb ?_
  have h : Sat σ w (o.at pb :: (b, cel [Value.bool o.strike, .bool o.task, .bool o.auto, .bool o.http, .bool o.table, .bool o.dot, .bool o.dash, .bool o.quote, .bool o.ids, .bool o.emoji] ty_impl_Options) :: L) := h
  exact (h.less [(b, cel [Value.bool o.strike, .bool o.task, .bool o.auto, .bool o.http, .bool o.table, .bool o.dot, .bool o.dash, .bool o.quote, .bool o.ids, .bool o.emoji] ty_impl_Options)] (by intro _; simp only [List.append_eq, cnt_append, cnt_cons, cnt_nil] <;> omega))
/-- A text is parsed to a document that prints itself so. -/
def ParsesTo (o : Opt) (raw out : List UInt8) : Prop :=
  ∀ (σ : Out) (R : Ending → World → Prop) (L : List Chunk) (w : World) (pb : Nat), Sat σ w L → o.at pb ∈ L →
    (∀ w db k DM DM' f, Prints "PrintHTML" (.iface ty_P_Document (.pointer (some ⟨db, 0, none⟩))) DM DM' f → f [] = out → Sat σ w (DM ++ L) → R (.returned (.tuple #[.pointer (some ⟨db, 0, none⟩), .bool k])) w) →
    callE P i_Parser_parse #[.pointer (some ⟨pb, 0, none⟩), .string (bs raw)] R w
theorem html_ok {o : Opt} {raw out : List UInt8} (hP : ParsesTo o raw out) (hout : out.length ≤ 549755813888) (h : Sat σ w L) (hR : ∀ w, Sat σ w L → R (.returned (.string (bs out))) w) : callE P i_impl_HTML #[optV o, .string (bs raw)] R w := by
  refine g_impl_HTML.sound ?_
  refine Sat.bx h fun b w h => ?_
  have ld : ∀ (k : Nat) (v : Bool), ([Value.bool o.strike, .bool o.task, .bool o.auto, .bool o.http, .bool o.table, .bool o.dot, .bool o.dash, .bool o.quote, .bool o.ids, .bool o.emoji])[k]? = some (.bool v) → w.cell? ⟨b, k, none⟩ = some (.bool v) := fun k v hv => Sat.ld h (.head _) hv
  refine ⟨_, ld 0 _ rfl, _, ld 1 _ rfl, _, ld 2 _ rfl, _, ld 3 _ rfl, _, ld 4 _ rfl, _, ld 5 _ rfl, _, ld 6 _ rfl, _, ld 7 _ rfl, _, ld 8 _ rfl, _, ld 9 _ rfl, ?_⟩
  refine parser_ok h fun w pb h => ⟨_, rfl, ?_⟩
  refine g_Parser_Parse.sound ?_
  refine hP σ _ _ w pb h (.head _) fun w db k DM DM' f hf hfo h => ⟨_, _, rfl, _, rfl, ?_⟩
  subst hfo
  refine toHTML_ok hf h hout fun w h => ⟨_, rfl, hR w ?_⟩
  exact h.less (DM' ++ (o.at pb :: [(b, cel [Value.bool o.strike, .bool o.task, .bool o.auto, .bool o.http, .bool o.table, .bool o.dot, .bool o.dash, .bool o.quote, .bool o.ids, .bool o.emoji] ty_impl_Options)])) (by intro _; simp only [List.append_eq, cnt_append, cnt_cons, cnt_nil] <;> omega)
theorem parses_line {op : Opt} {raw : List UInt8} {f : List UInt8 → List UInt8} (hp : (lnOf raw).plain) (hlen : raw.length < 1000000) (h0 : idx raw [0] = none) (h10 : idx raw [10] = none) (h13 : idx raw [13] = none)
    (hne : raw.dropWhile isST ≠ []) (hb : ((raw.dropWhile isST).dropWhile isSTN).head? ≠ some 91) (hI : InlineOK op (raw.dropWhile isST) f) : ParsesTo op raw (f pOpen ++ pClose) := by
  intro σ R L w pb h ho hR
  refine parseLine_ok h ho hp hlen h0 h10 h13 hne hb hI fun w db k DM DM' hP h => hR w db k DM DM' _ hP rfl h

/-! ### The laws' own functions -/
theorem bs_of (b : ByteArray) : b = bs b.data.toList := by
  cases b; rfl
def onlyM (s set : List UInt8) (n : Nat) : Bool := decide (s.length ≤ n) && s.all fun c => decide (c ∈ set)
theorem only_ok {s set : List UInt8} {n : Nat} (hs : s.length < 4611686018427387904) (hR : R (.returned (.bool (onlyM s set n))) w) : callE P i_laws_only #[.string (bs s), .string (bs set), .int .i64 n] R w := by
  refine g_laws_only.sound ?_
  by_cases hn : n < s.length
  · refine br_true (by simp; omega) ?_
    have : onlyM s set n = false := by unfold onlyM; rw [decide_eq_false (by omega)]; rfl
    rw [← this]; exact hR
  refine br_false (by simp; omega) ?_
  intro X hX
  rw [bs_size]
  have hall : onlyM s set n = s.all fun c => decide (c ∈ set) := by unfold onlyM; rw [decide_eq_true (by omega)]; rfl
  rw [hall] at hR
  have key : ∀ k i, i + k = s.length → (s.all fun c => decide (c ∈ set)) = ((s.drop i).all fun c => decide (c ∈ set)) → X (bs s) (bs set) (s.length : Nat) (i : Int) w := by
    intro k
    induction k with
    | zero =>
      intro i hi ha
      refine hX _ _ _ _ _ (br_false (by simp; omega) ?_)
      rw [List.drop_eq_nil_of_le (by omega)] at ha
      rw [ha] at hR; exact hR
    | succ k ih =>
      intro i hi ha
      have hil : i < s.length := by omega
      rw [List.drop_eq_getElem_cons hil, List.all_cons] at ha
      refine hX _ _ _ _ _ (br_true (by simp; omega) ⟨by omega, by simp; omega, ?_⟩)
      rw [bt_at hil]
      refine indexByte2_ok ⟨_, rfl, ?_⟩
      by_cases hm : s[i] ∈ set
      · refine br_false (by simpa using idxB_nonneg.2 hm) ?_
        rw [i64_inc (by omega)]
        refine ih (i + 1) (by omega) ?_
        rw [ha]; simp [hm]
      · have := mt idxB_nonneg.1 hm
        refine br_true (by simpa using this) ?_
        rw [ha] at hR
        simpa [hm] using hR
  exact key s.length 0 (by omega) (by rw [List.drop_zero])
end Go.Proofs.YtmicoampfglaiaaGreatDoor

/- Small lemmas on lists, and the options that are all off. -/
set_option linter.unusedVariables false
namespace Go.Proofs.YtmicoampfglaiaaGreatDoor
open Go.Proofs
theorem sub_length {s : List UInt8} {i j : Nat} (h : j ≤ s.length) : (sub s i j).length = j - i := by unfold sub; rw [List.length_drop, List.length_take]; omega
theorem getD_app {a b : List UInt8} {k : Nat} (h : a.length ≤ k) : (a ++ b).getD k 0 = b.getD (k - a.length) 0 := by
  rw [List.getD_eq_getElem?_getD, List.getElem?_append_right h, ← List.getD_eq_getElem?_getD]
theorem getD_app' {a b : List UInt8} {k : Nat} {d : UInt8} (h : k < a.length) : (a ++ b).getD k d = a.getD k d := by
  rw [List.getD_eq_getElem?_getD, List.getElem?_append_left h, ← List.getD_eq_getElem?_getD]
theorem sub_mid (A B C : List UInt8) : sub (A ++ (B ++ C)) A.length (A.length + B.length) = B := by
  unfold sub
  rw [← List.append_assoc, show A.length + B.length = (A ++ B).length by simp, List.take_left, List.drop_left]
theorem getD_mid (A C : List UInt8) (b d : UInt8) : (A ++ (b :: C)).getD A.length d = b := by
  rw [List.getD_eq_getElem?_getD, List.getElem?_append_right (Nat.le_refl _), Nat.sub_self]; rfl
theorem getElem_getD {l : List UInt8} {i : Nat} (h : i < l.length) (d : UInt8) : l[i] = l.getD i d := by
  rw [List.getD_eq_getElem?_getD, List.getElem?_eq_getElem h]; rfl
def optOff : Opt := ⟨false, false, false, false, false, false, false, false, false, false⟩
end Go.Proofs.YtmicoampfglaiaaGreatDoor

/- Digits of a number; numeric references as leaves. -/
set_option linter.unusedVariables false
namespace Go.Proofs.YtmicoampfglaiaaGreatDoor
open Go.Proofs Go.IntWalk Go.RowKit
variable {σ : Out} {w : World} {L L' : List Chunk} {R : Ending → World → Prop}
def allDig : List UInt8 := [48, 49, 50, 51, 52, 53, 54, 55, 56, 57, 97, 98, 99, 100, 101, 102]
def digM (b : Nat) : Nat → Nat → List UInt8
  | 0, n => []
  | f + 1, n => if n < b then sub allDig n (n + 1) else digM b f (n / b) ++ sub allDig (n % b) (n % b + 1)
theorem sub_le (s : List UInt8) (i : Nat) : (sub s i (i + 1)).length ≤ 1 := by
  unfold sub; rw [List.length_drop, List.length_take]; omega
theorem digM_length (b : Nat) : ∀ f n, (digM b f n).length ≤ f
  | 0, n => by simp [digM]
  | f + 1, n => by
    have h1 := digM_length b f (n / b)
    have h2 := sub_le allDig n
    have h3 := sub_le allDig (n % b)
    rw [digM]
    split
    · omega
    · rw [List.length_append]; omega
theorem digits_ok {b : Nat} (hb : 2 ≤ b) (hb2 : b ≤ 16) : ∀ (f n : Nat) (R : Ending → World → Prop) (w : World), n < f → f < 1000000 → Sat σ w L → (∀ w, Sat σ w L → R (.returned (.string (bs (digM b f n)))) w) →
    callE P i_laws_digits #[.int .i64 n, .int .i64 b] R w := by
  intro f
  induction f with
  | zero => intro n R w hn; omega
  | succ f ih =>
    intro n R w hn hf h hR
    refine g_laws_digits.sound ?_
    unfold g_laws_digits
    have hall : (ByteArray.mk #[48, 49, 50, 51, 52, 53, 54, 55, 56, 57, 97, 98, 99, 100, 101, 102]) = bs allDig := rfl
    rw [hall]
    have hsz : (bs allDig).size = 16 := rfl
    rw [digM] at hR
    by_cases hlt : n < b
    · rw [if_pos hlt] at hR
      refine br_true (by simp; omega) ?_
      rw [i64_inc (by omega), hsz]
      refine ⟨by omega, by omega, by omega, ?_⟩
      rw [Int.toNat_natCast, Int.toNat_natCast, bs_extract]
      exact hR w h
    · rw [if_neg hlt] at hR
      refine br_false (by simp; omega) ?_
      have hmod : n % b < b := Nat.mod_lt _ (by omega)
      have e1 : Int.tmod (n : Int) (b : Int) = ((n % b : Nat) : Int) := rfl
      have e2 : IntKind.i64.wrap (Int.tdiv (n : Int) (b : Int)) = ((n / b : Nat) : Int) := by
        have : n / b ≤ n := Nat.div_le_self ..
        rw [show Int.tdiv (n : Int) (b : Int) = ((n / b : Nat) : Int) from rfl]
        generalize n / b = q at this ⊢
        exact i64_in _ (by omega)
      have hdiv : n / b < f := by
        have : n / b < n := Nat.div_lt_self (by omega) (by omega)
        omega
      refine Sat.tk h fun w h => ?_
      rw [e1, e2, i64_inc (by omega), hsz]
      refine ⟨by omega, by omega, by omega, by omega, by omega, by omega, ?_⟩
      refine ih (n / b) _ w hdiv (by omega) h fun w h => ⟨_, rfl, ?_⟩
      rw [Int.toNat_natCast, Int.toNat_natCast, bs_extract, bs_append, bs_size, bs_size]
      have l1 := digM_length b f (n / b)
      have l2 := sub_le allDig (n % b)
      have hmax : IntKind.i64.max = 9223372036854775807 := rfl
      refine ⟨?_, hR w h⟩
      rw [hmax]
      show (((digM b f (n / b)).length + (sub allDig (n % b) (n % b + 1)).length : Nat) : Int) ≤ _
      omega
def baseOf (x : Bool) : Nat := if x then 16 else 10
def digOf (x : Bool) (c : UInt8) : List UInt8 := digM (baseOf x) 300 c.toNat
def refT (x : Bool) (c : UInt8) : List UInt8 := [38, 35] ++ (if x then [120] else []) ++ digOf x c ++ [59]
def goodD (x : Bool) (n : Nat) : Bool :=
  let ds := digM (baseOf x) 300 n
  decide (1 ≤ ds.length) && decide (ds.length ≤ 3) && ds.all (if x then hexB else decB) && (valB (baseOf x) ds == n)
theorem good_all : (List.range 128).all (fun n => goodD true n && goodD false n) = true := by kernel_rfl
theorem good_of (x : Bool) {n : Nat} (h : n < 128) : goodD x n = true := by
  have := (List.all_eq_true.1 good_all) n (List.mem_range.2 h)
  rw [Bool.and_eq_true] at this
  cases x
  · exact this.2
  · exact this.1
theorem enc_all : (List.range 128).all (fun n => (Utf8.encode (n : Int)).data.toList == [UInt8.ofNat n]) = true := by kernel_rfl
theorem enc_ascii {n : Nat} (h : n < 128) : Utf8.encode (n : Int) = bs [UInt8.ofNat n] := by
  have := (List.all_eq_true.1 enc_all) n (List.mem_range.2 h)
  rw [bs_of (Utf8.encode (n : Int)), eq_of_beq this]
theorem isDigit_ok {c : UInt8} (hR : R (.returned (.bool (decB c))) w) : callE P i_isDigit #[.int .u8 (c.toNat : Int)] R w := by
  refine g_isDigit.sound ?_
  unfold g_isDigit
  have e : ((decide ((48 : Int) ≤ ((c.toNat : Nat) : Int))) && (decide (((c.toNat : Nat) : Int) ≤ 57))) = decB c := by
    have a : decide ((48 : Int) ≤ ((c.toNat : Nat) : Int)) = decide (48 ≤ c) := u8_le 48 c
    have b : decide (((c.toNat : Nat) : Int) ≤ (57 : Int)) = decide (c ≤ 57) := u8_le c 57
    rw [a, b]; rfl
  rw [e]; exact hR
theorem isHex_ok {c : UInt8} {r : Bool} (h1 : hexB c = true → r = true) (h2 : c = 59 → r = false) (hc : hexB c = true ∨ c = 59) (hR : R (.returned (.bool r)) w) : callE P i_isHexDigit #[.int .u8 (c.toNat : Int)] R w := by
  refine g_isHexDigit.sound ?_
  unfold g_isHexDigit
  rcases hc with hc | hc
  · have hr := h1 hc
    subst hr
    rcases hex_cases hc with ⟨_, _, h3, h4⟩ | ⟨_, _, h3, h4, _⟩
    · have e : ((((decide ((65 : Int) ≤ ((c.toNat : Nat) : Int))) && (decide (((c.toNat : Nat) : Int) ≤ 70))) || ((decide ((97 : Int) ≤ ((c.toNat : Nat) : Int))) && (decide (((c.toNat : Nat) : Int) ≤ 102)))) || ((decide ((48 : Int) ≤ ((c.toNat : Nat) : Int))) && (decide (((c.toNat : Nat) : Int) ≤ 57)))) = true := by
        simp; omega
      rw [e]; exact hR
    · have e : ((((decide ((65 : Int) ≤ ((c.toNat : Nat) : Int))) && (decide (((c.toNat : Nat) : Int) ≤ 70))) || ((decide ((97 : Int) ≤ ((c.toNat : Nat) : Int))) && (decide (((c.toNat : Nat) : Int) ≤ 102)))) || ((decide ((48 : Int) ≤ ((c.toNat : Nat) : Int))) && (decide (((c.toNat : Nat) : Int) ≤ 57)))) = true := by
        simp; omega
      rw [e]; exact hR
  · have hr := h2 hc
    subst hr
    subst hc
    exact hR
theorem ent_k9 {i e n : Nat} (h0 : 0 < n) (h1 : n < 128) (h : Sat σ w L) (hR : ∀ w nb, Sat σ w (plainC nb [UInt8.ofNat n] :: L) → R (.returned (.tuple #[ptrV ty_P_Plain nb, .int .i64 i, .int .i64 e, .bool true])) w) :
    g_parseHTMLEntity.k9 R (i : Int) (n : Int) (e : Int) w := by
  refine br_false (by simp; omega) ?_
  unfold g_parseHTMLEntity.k10
  rw [i32_in _ (by omega), enc_ascii h1]
  exact Sat.bx h fun nb w h => hR w nb h
theorem all_sub {p : UInt8 → Bool} {s : List UInt8} {a k : Nat} (hk : a + k ≤ s.length) (h : ∀ m, m < k → p (s.getD (a + m) 0) = true) : (sub s a (a + k)).all p = true := by
  rw [List.all_eq_true]
  intro c hc
  obtain ⟨m, hm, rfl⟩ := List.mem_iff_getElem.1 hc
  have hl := sub_length (s := s) (i := a) (j := a + k) hk
  have := h m (by omega)
  have e : (sub s a (a + k))[m] = s.getD (a + m) 0 := by
    rw [List.getD_eq_getElem?_getD, List.getElem?_eq_getElem (show a + m < s.length by omega)]
    simp [sub]
  rw [e]; exact this
end Go.Proofs.YtmicoampfglaiaaGreatDoor

/- Headings: small functions. -/
set_option linter.unusedVariables false
namespace Go.Proofs.YtmicoampfglaiaaGreatDoor
open Go.Proofs Go.IntWalk Go.RowKit
variable {σ : Out} {w : World} {L L' : List Chunk} {R : Ending → World → Prop}
/-- trimRightSpaceTab. -/
theorem trimRST_ok {l : List UInt8} (hl : l.length < 4611686018427387904) (h : R (.returned (.string (bs (trimR isST l)))) w) : callE P i_trimRightSpaceTab #[.string (bs l)] R w := by
  refine g_trimRightSpaceTab.sound ?_
  intro Y hY
  rw [bs_size]
  refine scanB (l := l) (X := fun j => Y (bs l) (j : Int) w) (p := isST) (fun i hi hp hx => hY _ _ _ ?_) l.length (Nat.le_refl _) (fun j hj hf he => hY _ _ _ ?_)
  · have hd := i64_dec (n := i + 1) (by omega) (by omega)
    rw [Nat.add_sub_cancel] at hd
    refine ⟨fun _ => ?_, fun _ => ?_, br_true ?_ ?_⟩
    · rw [hd]; exact ⟨by omega, by simp; omega⟩
    · rw [hd]; exact ⟨by omega, by simp; omega⟩
    · rw [hd, bt_beq hi 32 32 rfl, bt_beq hi 9 9 rfl]
      simp only [isST] at hp
      rw [hp]
      simp
    · rw [hd]; exact hx
  · have hfin : g_trimRightSpaceTab.k1 R (bs l) (j : Int) w := by
      refine ⟨by omega, by simp; omega, ?_⟩
      rw [bs_extract]
      simp only [Int.toNat_natCast, List.drop_zero, he, List.take_length]
      exact h
    rcases Nat.eq_zero_or_pos j with hj0 | hj0
    · subst hj0
      exact ⟨fun h => by simp at h, fun h => by simp at h, br_false (by simp) hfin⟩
    · obtain ⟨i, rfl⟩ : ∃ i, j = i + 1 := ⟨j - 1, by omega⟩
      have hd := i64_dec (n := i + 1) (by omega) (by omega)
      rw [Nat.add_sub_cancel] at hd
      refine ⟨fun _ => ?_, fun _ => ?_, br_false ?_ hfin⟩
      · rw [hd]; exact ⟨by omega, by simp; omega⟩
      · rw [hd]; exact ⟨by omega, by simp; omega⟩
      · rw [hd, bt_beq (show i < l.length by omega) 32 32 rfl, bt_beq (show i < l.length by omega) 9 9 rfl]
        have := hf i (by omega) rfl
        simp only [isST] at this
        rw [this]; simp
/-- The last place of a byte. -/
theorem lastIdx_ok {A B : List UInt8} {c : UInt8} (hl : (A ++ c :: B).length < 4611686018427387904) (hc : c ∉ B) (h : R (.returned (.int .i64 (A.length : Nat))) w) : callE P i_strings_LastIndexByte #[.string (bs (A ++ c :: B)), .int .u8 (c.toNat : Int)] R w := by
  refine g_strings_LastIndexByte.sound ?_
  refine g_internal_bytealg_LastIndexByteString.sound ?_
  intro X hX
  have hlen : (A ++ c :: B).length = A.length + B.length + 1 := by simp; omega
  have e0 : IntKind.i64.wrap ((((bs (A ++ c :: B)).size : Nat) : Int) - 1) = ((A.length + B.length : Nat) : Int) := by
    rw [bs_size, hlen]; simp (disch := omega) only [i64_in]; omega
  rw [e0]
  have key : ∀ k, k ≤ B.length → X (bs (A ++ c :: B)) (c.toNat : Int) ((A.length + k : Nat) : Int) w := by
    intro k
    induction k with
    | zero =>
      intro _
      refine hX _ _ _ _ (br_true (decide_eq_true (by omega)) ⟨by omega, by simp; omega, br_true ?_ ?_⟩)
      · rw [Nat.add_zero, bs_bt, getD_mid]; exact beq_self_eq_true _
      · exact ⟨_, rfl, h⟩
    | succ k ih =>
      intro hk
      refine hX _ _ _ _ (br_true (decide_eq_true (by omega)) ⟨by omega, by simp; omega, br_false ?_ ?_⟩)
      · rw [bs_bt, getD_app (by omega), show A.length + (k + 1) - A.length = k + 1 by omega, List.getD_cons_succ, u8_beq]
        have hm : B.getD k 0 ∈ B := by rw [← getElem_getD (show k < B.length by omega)]; exact List.getElem_mem _
        simp only [beq_eq_false_iff_ne, ne_eq]
        intro h0; rw [h0] at hm; exact hc hm
      · rw [i64_dec (by omega) (by omega)]
        exact ih (by omega)
  exact key B.length (Nat.le_refl _)
def dig1 (n : Nat) : List UInt8 := sub allDig n (n + 1)
theorem itoa_ok {n : Nat} (hn : n < 10) (h : R (.returned (.string (bs (dig1 n)))) w) : callE P i_strconv_Itoa #[.int .i64 n] R w := by
  refine g_strconv_Itoa.sound ?_
  refine g_internal_strconv_Itoa.sound ?_
  refine g_internal_strconv_FormatInt.sound ?_
  refine br_true rfl (br_true (by simp; omega) ?_)
  refine g_internal_strconv_small.sound ?_
  refine br_true (by simp; omega) ?_
  have hall : (ByteArray.mk #[48, 49, 50, 51, 52, 53, 54, 55, 56, 57, 97, 98, 99, 100, 101, 102, 103, 104, 105, 106, 107, 108, 109, 110, 111, 112, 113, 114, 115, 116, 117, 118, 119, 120, 121, 122]) = bs [48, 49, 50, 51, 52, 53, 54, 55, 56, 57, 97, 98, 99, 100, 101, 102, 103, 104, 105, 106, 107, 108, 109, 110, 111, 112, 113, 114, 115, 116, 117, 118, 119, 120, 121, 122] := rfl
  rw [hall, i64_inc (by omega)]
  refine ⟨by omega, by omega, by rw [bs_size]; simp; omega, ?_⟩
  rw [Int.toNat_natCast, Int.toNat_natCast, bs_extract]
  have e : (([48, 49, 50, 51, 52, 53, 54, 55, 56, 57, 97, 98, 99, 100, 101, 102, 103, 104, 105, 106, 107, 108, 109, 110, 111, 112, 113, 114, 115, 116, 117, 118, 119, 120, 121, 122] : List UInt8).take (n + 1)).drop n = dig1 n := by
    have : n = 0 ∨ n = 1 ∨ n = 2 ∨ n = 3 ∨ n = 4 ∨ n = 5 ∨ n = 6 ∨ n = 7 ∨ n = 8 ∨ n = 9 := by omega
    rcases this with h | h | h | h | h | h | h | h | h | h <;> (subst h; rfl)
  rw [e]
  exact ⟨_, rfl, _, rfl, _, rfl, h⟩
def wordM (s : List UInt8) : Bool := !s.isEmpty && onlyM s [97, 98, 122, 48, 49, 57] 20
theorem word_ok {s : List UInt8} (hs : s.length < 4611686018427387904) (hR : R (.returned (.bool (wordM s))) w) : callE P i_laws_word #[.string (bs s)] R w := by
  refine g_laws_word.sound ?_
  cases hs0 : s with
  | nil => subst hs0; exact br_false (by rw [bs_toList, mk_toList]; rfl) hR
  | cons c t =>
    rw [← hs0]
    refine br_true (by rw [bs_toList, mk_toList, hs0]; rfl) ?_
    refine only_ok (set := [97, 98, 122, 48, 49, 57]) (n := 20) hs ⟨_, rfl, ?_⟩
    have : wordM s = onlyM s [97, 98, 122, 48, 49, 57] 20 := by unfold wordM; rw [hs0]; rfl
    rw [← this]; exact hR
end Go.Proofs.YtmicoampfglaiaaGreatDoor

/- Ranges over texts. -/
set_option linter.unusedVariables false
namespace Go.Proofs.YtmicoampfglaiaaGreatDoor
open Go.Proofs Go.IntWalk
variable {σ : Out} {w : World} {L L' : List Chunk} {R : Ending → World → Prop}
theorem Sat.allocO (h : Sat σ w L) (o : Obj) : Sat σ (w.alloc o) ((w.heap.size, o) :: L) := by
  refine ⟨h.os, h.out, ?_, fun c hc => ?_⟩
  · simp only [List.map_cons, List.nodup_cons]
    refine ⟨fun hm => ?_, h.nodup⟩
    obtain ⟨c, hc, he⟩ := List.mem_map.1 hm
    exact Nat.lt_irrefl _ (he ▸ h.lt hc)
  · cases hc with
    | head => exact (Array.getElem?_push_size ..).trans rfl
    | tail _ hc =>
      have hlt := h.lt hc
      have := h.at_ _ hc
      show (w.heap.push o)[c.1]? = _
      rw [Array.getElem?_push_lt hlt, ← Array.getElem?_eq_getElem hlt]
      exact this
theorem Sat.setO (b : Nat) (o o' : Obj) (h : Sat σ w ((b, o) :: L)) : Sat σ { w with heap := w.heap.setIfInBounds b o' } ((b, o') :: L) := by
  have hn := h.nodup
  simp only [List.map_cons, List.nodup_cons] at hn
  have hb : b < w.heap.size := h.lt (.head _)
  refine ⟨h.os, h.out, by simp only [List.map_cons, List.nodup_cons]; exact hn, fun c hc => ?_⟩
  cases hc with
  | head => simp [hb]
  | tail _ hc =>
    have hne : c.1 ≠ b := fun he => hn.1 (he ▸ List.mem_map_of_mem hc)
    have := h.at_ _ (.tail _ hc)
    show (w.heap.setIfInBounds b o')[c.1]? = _
    rw [Array.getElem?_setIfInBounds_ne (fun he => hne he.symm)]
    exact this
theorem range_ok {s : ByteArray} (h : Sat σ w L) {K : Value → World → Prop} (hK : ∀ w b, Sat σ w ((b, .stringIter s 0) :: L) → K (.pointer (some ⟨b, 0, none⟩)) w) :
    ∃ v w', (Instr.range ty_string (.string s)).run P w = .ok v w' ∧ K v w' :=
  ⟨_, _, run_range_string (P := P) w ty_string s (by kernel_rfl), hK _ _ (h.allocO _)⟩
theorem next_ok {b pos : Nat} {s : ByteArray} {ty : TypeId} (h : Sat σ w ((b, .stringIter s pos) :: L)) (hp : pos < s.size) (ha : (s[pos]'hp).toNat < 128) {K : Int → Int → World → Prop}
    (hK : ∀ w, Sat σ w ((b, .stringIter s (pos + 1)) :: L) → K pos (s[pos]'hp).toNat w) :
    ∃ r0 r1 w', (Instr.next (.pointer (some ⟨b, 0, none⟩)) true ty).run P w = .ok (.tuple #[.bool true, .int .i64 r0, .int .i32 r1]) w' ∧ K r0 r1 w' := by
  have hb := h.at_ _ (.head _)
  refine ⟨_, _, _, ?_, hK _ (h.setO b _ (.stringIter s (pos + 1)))⟩
  have hd := decode_ascii s pos hp ha
  simp only [Instr.next, getObj, setObj, Sem.run_bind, Sem.run, hb, Result.andThen, hp, if_true, hd]
  simp [goInt, Sem.run, hb]
theorem next_end {b pos : Nat} {s : ByteArray} {ty : TypeId} (h : Sat σ w ((b, .stringIter s pos) :: L)) (hp : ¬ pos < s.size) : (Instr.next (.pointer (some ⟨b, 0, none⟩)) true ty).run P w = .ok (.tuple #[.bool false]) w := by
  have hb := h.at_ _ (.head _)
  simp [Instr.next, getObj, Sem.run, hb, hp]
end Go.Proofs.YtmicoampfglaiaaGreatDoor

/- Headings: the mark of an ID. -/
set_option linter.unusedVariables false
namespace Go.Proofs.YtmicoampfglaiaaGreatDoor
open Go.Proofs Go.IntWalk Go.RowKit
variable {σ : Out} {w : World} {L L' : List Chunk} {R : Ending → World → Prop}
def visB (c : UInt8) : Bool := decide (33 ≤ c.toNat) && decide (c.toNat ≤ 126)
theorem vis_lt {c : UInt8} (h : visB c = true) : c < 128 ∧ 33 ≤ c.toNat ∧ c.toNat ≤ 126 := by
  simp only [visB, Bool.and_eq_true, decide_eq_true_eq] at h
  exact ⟨UInt8.lt_iff_toNat_lt.2 (by have e : (128 : UInt8).toNat = 128 := rfl; omega), h.1, h.2⟩
theorem zzSpace_vis {c : UInt8} (hc : visB c = true) (h : R (.returned (.bool false)) w) : callE P i_zzSpace #[.int .i32 (c.toNat : Int)] R w := by
  have := vis_lt hc
  refine g_zzSpace.sound ?_
  unfold g_zzSpace
  have e : ((((((((((((decide (((c.toNat : Nat) : Int) ≥ 9)) && (decide (((c.toNat : Nat) : Int) ≤ 13))) || (((c.toNat : Nat) : Int) == 32)) || (((c.toNat : Nat) : Int) == 133)) || (((c.toNat : Nat) : Int) == 160)) || (((c.toNat : Nat) : Int) == 5760)) || ((decide (((c.toNat : Nat) : Int) ≥ 8192)) && (decide (((c.toNat : Nat) : Int) ≤ 8202)))) || (((c.toNat : Nat) : Int) == 8232)) || (((c.toNat : Nat) : Int) == 8233)) || (((c.toNat : Nat) : Int) == 8239)) || (((c.toNat : Nat) : Int) == 8287)) || (((c.toNat : Nat) : Int) == 12288)) = false := by
    simp; omega
  rw [e]; exact h
theorem zzTrimSpace_vis {s t m : List UInt8} {c d : UInt8} (hs : s.length < 4611686018427387904) (h1 : s = c :: t) (h2 : s = m ++ [d]) (hc : visB c = true) (hd : visB d = true) (h : R (.returned (.string (bs s))) w) : callE P i_zzTrimSpace #[.string (bs s)] R w := by
  refine g_zzTrimSpace.sound ?_
  intro X hX
  have hl1 : 0 < s.length := by rw [h1]; simp
  refine hX _ _ (br_true (by simp; omega) ?_)
  rw [h1]
  refine decodeRune_ok (vis_lt hc).1 ⟨_, _, rfl, ?_⟩
  refine zzSpace_vis hc ⟨_, rfl, br_true rfl ?_⟩
  rw [← h1]
  intro Y hY
  refine hY _ _ (br_true (by simp; omega) ?_)
  rw [h2]
  have hm : m.length < 4611686018427387904 := by have := congrArg List.length h2; simp at this; omega
  refine decodeLast_ok hm (vis_lt hd).1 ⟨_, _, rfl, ?_⟩
  refine zzSpace_vis hd ⟨_, rfl, br_true rfl ?_⟩
  rw [← h2]; exact h
theorem zzTrimRight_no {m : List UInt8} {d : UInt8} (hs : m.length < 1000000000) (hd : d ≠ 35) (h : Sat σ w L) (hR : ∀ w, Sat σ w L → R (.returned (.string (bs (m ++ [d])))) w) : callE P i_zzTrimRight #[.string (bs (m ++ [d])), .string (bs [35])] R w := by
  refine g_zzTrimRight.sound ?_
  intro X hX
  have hl : (m ++ [d]).length = m.length + 1 := by simp
  rw [bs_size, hl]
  refine hX _ _ _ _ (br_true (decide_eq_true (by omega)) ?_)
  intro Y hY
  refine hY _ _ _ _ _ _ (br_true (by decide) ?_)
  have e1 : IntKind.i64.wrap (((m.length + 1 : Nat) : Int) - 1) = ((m.length : Nat) : Int) := by simp (disch := omega) only [i64_in]; omega
  refine Sat.tk h fun w h => ?_
  rw [e1]
  refine ⟨by decide, by decide, by omega, by rw [bs_size, hl]; omega, ?_⟩
  have e2 : bt (bs [35]) 0 = 35 := rfl
  have e3 : bt (bs (m ++ [d])) ((m.length : Nat) : Int) = (d.toNat : Int) := by rw [bs_bt, getD_mid]
  rw [e2, e3]
  have e4 : ((35 : Int) == (d.toNat : Int)) = false := by
    have := u8_beq 35 d
    have h2 : ((35 : UInt8) == d) = false := by simpa using fun h => hd h.symm
    rw [h2] at this; exact this
  refine br_false e4 ?_
  refine hY _ _ _ _ _ _ (br_false (by decide) (br_true rfl ?_))
  unfold g_zzTrimRight.k1
  refine ⟨by omega, by rw [bs_size, hl]; omega, ?_⟩
  rw [bs_extract, List.drop_zero, Int.toNat_natCast, ← hl, List.take_length]
  exact hR w h
theorem idxB_mid {B : List UInt8} {c : UInt8} (hc : c ∉ B) (C : List UInt8) : idxB (B ++ c :: C) c = (B.length : Nat) := by
  induction B with
  | nil => simp [idxB, Lib.indexByte]
  | cons x B ih =>
    have hx : x ≠ c := fun h => hc (by rw [h]; exact List.mem_cons_self ..)
    have := ih (fun h => hc (List.mem_cons_of_mem _ h))
    unfold idxB at this ⊢
    have hx' : (x == c) = false := by simpa using hx
    have h1 : ((B.length : Int) == -1) = false := by rw [beq_eq_false_iff_ne]; omega
    rw [List.cons_append, Lib.indexByte, this, hx', h1]
    simp
/-- A text that ends with {#id}. -/
theorem extractID_ok {q : Option Addr} {A t m id : List UInt8} {c d : UInt8} (hs : (A ++ 123 :: 35 :: (id ++ [125])).length < 1000000000) (h1 : id = c :: t) (h2 : id = m ++ [d]) (hc : visB c = true) (hd : visB d = true) (h123 : 123 ∉ id) (h125 : 125 ∉ id) (h : Sat σ w L)
    (hR : ∀ w, Sat σ w L → R (.returned (.tuple #[.string (bs id), .string (bs A)])) w) : callE P i_extractID #[.pointer q, .string (bs (A ++ 123 :: 35 :: (id ++ [125])))] R w := by
  refine g_extractID.sound ?_
  have hlen : (A ++ 123 :: 35 :: (id ++ [125])).length = A.length + id.length + 3 := by simp; omega
  have hil : 0 < id.length := by rw [h1]; simp
  refine lastIdx_ok (c := 123) (by omega) (by
    intro hm
    simp only [List.mem_cons, List.mem_append, List.mem_nil_iff, or_false] at hm
    rcases hm with hm | hm | hm
    · exact absurd hm (by decide)
    · exact h123 hm
    · exact absurd hm (by decide)) ⟨_, rfl, ?_⟩
  refine br_false (decide_eq_false (by omega)) ?_
  rw [i64_inc (by omega)]
  refine ⟨fun _ => ⟨by omega, by rw [bs_size, hlen]; omega⟩, ?_⟩
  unfold g_extractID.k1
  have e35 : bt (bs (A ++ 123 :: 35 :: (id ++ [125]))) ((A.length + 1 : Nat) : Int) = 35 := by
    have := getD_mid (A ++ [123]) (id ++ [125]) 35 0
    rw [show (A ++ [123] : List UInt8).length = A.length + 1 by simp] at this
    rw [bs_bt, show A ++ 123 :: 35 :: (id ++ [125]) = (A ++ [123]) ++ 35 :: (id ++ [125]) by simp, this]; rfl
  rw [e35]
  refine br_false (by rw [bs_size, hlen]; simp; omega) ⟨by omega, by rw [bs_size, hlen]; omega, ?_⟩
  rw [bs_size, Int.toNat_natCast, bs_ext, List.drop_left]
  have hi : idxB (123 :: 35 :: (id ++ [125])) 125 = ((id.length + 2 : Nat) : Int) := by
    have := idxB_mid (B := 123 :: 35 :: id) (c := 125) (by
      intro hm
      simp only [List.mem_cons] at hm
      rcases hm with hm | hm | hm
      · exact absurd hm (by decide)
      · exact absurd hm (by decide)
      · exact h125 hm) []
    exact this
  refine indexByte2_ok (c := 125) ⟨_, rfl, ?_⟩
  rw [hi]
  have e1 : IntKind.i64.wrap (((A.length : Nat) : Int) + ((id.length + 2 : Nat) : Int)) = ((A.length + id.length + 2 : Nat) : Int) := by simp (disch := omega) only [i64_in]; omega
  rw [e1, i64_inc (by omega)]
  refine br_false (decide_eq_false (by omega)) ⟨by omega, by omega, ?_⟩
  rw [Int.toNat_natCast, bs_ext, List.drop_eq_nil_of_le (by omega)]
  refine trimRST_ok (l := []) (by decide) ⟨_, rfl, ?_⟩
  refine br_false (by rw [bs_toList, mk_toList]; rfl) ?_
  unfold g_extractID.k2
  have e2 : IntKind.i64.wrap (((A.length : Nat) : Int) + 2) = ((A.length + 2 : Nat) : Int) := by simp (disch := omega) only [i64_in]; omega
  have e3 : bs (((A ++ 123 :: 35 :: (id ++ [125])).take (A.length + id.length + 2)).drop (A.length + 2)) = bs id := by
    have := sub_mid (A ++ [123, 35]) id [125]
    unfold sub at this
    rw [show (A ++ [123, 35] : List UInt8).length = A.length + 2 by simp, show A.length + 2 + id.length = A.length + id.length + 2 by omega, show A ++ [123, 35] ++ (id ++ [125]) = A ++ 123 :: 35 :: (id ++ [125]) by simp] at this
    rw [this]
  rw [e2, Int.toNat_natCast, Int.toNat_natCast, bs_extract, e3]
  refine ⟨by omega, by omega, by rw [bs_size, hlen]; omega, ?_⟩
  refine zzTrimSpace_vis (by omega) h1 h2 hc hd ⟨_, rfl, ?_⟩
  refine br_false (by rw [bs_toList, mk_toList, h1]; rfl) ?_
  refine Sat.tk h fun w h => ?_
  refine ⟨by omega, by omega, by rw [bs_size, hlen]; omega, by omega, by rw [bs_size, hlen]; omega, ?_⟩
  rw [Int.toNat_natCast, bs_extract, List.take_left, List.drop_zero]
  exact hR w h
end Go.Proofs.YtmicoampfglaiaaGreatDoor

set_option linter.unusedVariables false
set_option maxRecDepth 20000
namespace Go.Proofs.YtmicoampfglaiaaGreatDoor
open Go.Proofs
/- 131 (*pub-paratext/pub/rscmarkdown.parseState).doneBlock -/
namespace g_parseState_doneBlock
noncomputable def body : Code := bodyOf Tryz.f131
end g_parseState_doneBlock
def g_parseState_doneBlock (R : EP) (x0 : OA) (x1 : Value) (w : World) : Prop :=
 nilP x0 fun a1 =>
 ∃ (v2 : Int), w.cell? (a1.add 5) = some (.int .i64 v2) ∧
 callE P i_parseState_trimStack #[.pointer x0, .int .i64 (IntKind.i64.wrap (v2 + 1))] (fun e w4 => e = .returned (.tuple #[]) ∧
 tk w4 fun w5 =>
 nilP x0 fun a6 =>
 nilP x0 fun a7 =>
 ∃ (v8q : OA), ∃ (v8n : Nat), ∃ (v8c : Nat), w5.cell? (a6.add 4) = some (.slice v8q v8n v8c) ∧
 ∃ (v9q : OA), ∃ (v9n : Nat), ∃ (v9c : Nat), w5.cell? (a7.add 4) = some (.slice v9q v9n v9c) ∧
 0 ≤ (IntKind.i64.wrap ((v9n : Int) - 1)) ∧ (IntKind.i64.wrap ((v9n : Int) - 1)) < (v8n : Int) ∧
 nilP v8q fun a10 =>
 ∃ (v11q : OA), ∃ (v11n : Nat), ∃ (v11c : Nat), w5.cell? ((a10.add (Int.toNat (IntKind.i64.wrap ((v9n : Int) - 1)) * 4)).add 1) = some (.slice v11q v11n v11c) ∧
 ∃ (r12q : OA), ∃ (r12n : Nat), ∃ (r12c : Nat), ∃ w13, (Instr.buildSlice ty_S_Block 1 #[(0, x1)]).run P w5 = .ok (.slice r12q r12n r12c) w13 ∧
 ∃ (r14q : OA), ∃ (r14n : Nat), ∃ (r14c : Nat), ∃ w15, (Builtin.append_ #[ty_S_Block, ty_S_Block] ty_S_Block #[.slice v11q v11n v11c, .slice r12q r12n r12c]).run P w13 = .ok (.slice r14q r14n r14c) w15 ∧
 stV w15 (((a10.add (Int.toNat (IntKind.i64.wrap ((v9n : Int) - 1)) * 4)).add 1).add 0) (.slice r14q r14n r14c) fun w16 =>
 R (.returned (.tuple #[])) w16) w

noncomputable def g_parseState_doneBlock.ac (R : EP) : AC :=
  (.seq (.leaf (sel [0] g_parseState_doneBlock.body)) (.seq (.draw (.pure 0 (.pure 1 (.pure 2 (.pure 4 (.pure 5 (.pure 6 (.load 3 (.load 7 (.pure 8 (.pure 9 (.pure 10 (.pure 11 .done)))))))))))) (sel [1, 0] g_parseState_doneBlock.body)) (.leaf (sel [1, 1] g_parseState_doneBlock.body))))
theorem g_parseState_doneBlock.good (R : EP) : Good P 33 (g_parseState_doneBlock.ac R) (QF P [] R) :=
  ⟨trivial, ⟨⟨by kernel_rfl, by kernel_rfl, fun _ _ _ h => h⟩, trivial⟩⟩
theorem g_parseState_doneBlock.eq (R : EP) (x0 : OA) (x1 : Value) (w : World) : g_parseState_doneBlock R x0 x1 w = vcA P 33 (g_parseState_doneBlock.ac R) (QF P [] R) (fr0 [.pointer x0, x1]) w := by kernel_rfl
theorem g_parseState_doneBlock.sound {R : EP} {x0 : OA} {x1 : Value} {w : World} (h : g_parseState_doneBlock R x0 x1 w) : callE P i_parseState_doneBlock #[.pointer x0, x1] R w :=
  callE_fin (c := g_parseState_doneBlock.body) Tryz.func131 Tryz.call131 (by kernel_rfl) (by kernel_rfl) (by kernel_rfl) (by kernel_rfl) (by kernel_rfl) (g_parseState_doneBlock.good R) (g_parseState_doneBlock.eq R x0 x1 w) h
end Go.Proofs.YtmicoampfglaiaaGreatDoor

/- A block that is done at once. -/
set_option linter.unusedVariables false
namespace Go.Proofs.YtmicoampfglaiaaGreatDoor
open Go.Proofs Go.IntWalk
variable {σ : Out} {w : World} {L L' : List Chunk} {R : Ending → World → Prop}
theorem doneBlock_ok {b : Nat} {p : PS} {o : OB} {M IM : List Chunk} {inner : List Value} {tb : TypeId} {q : Option Addr} (h : Sat σ w (p.at b :: M ++ (IM ++ L))) (hs : Stk p [o] M) (hd : p.depth = 0) (hI : Sl 1 ty_Block o.q o.n o.c inner IM) (hin : o.n < 1000000)
    (hR : ∀ w M2 IM2 q' c', Stk p [{ o with q := q', n := o.n + 1, c := c' }] M2 → Sl 1 ty_Block q' (o.n + 1) c' (inner ++ [.iface tb (.pointer q)]) IM2 → Sat σ w (p.at b :: M2 ++ (IM2 ++ L)) → R (.returned (.tuple #[])) w) :
    callE P i_parseState_doneBlock #[.pointer (some ⟨b, 0, none⟩), .iface tb (.pointer q)] R w := by
  have hn := hs.2.1
  have hs' : Stk p ([] ++ [o]) M := hs
  obtain ⟨sb, sp, hq, rfl, hsp⟩ := hs.split (by simp)
  simp only [List.length_singleton] at hn
  refine g_parseState_doneBlock.sound ?_
  repeat (first | refine nilP_some ?_ | refine Sat.tk h fun w h => ?_ | refine ⟨_, Sat.ld h (by first | assumption | (repeat (first | exact .head _ | apply List.Mem.tail))) (by exact rfl), ?_⟩ | refine ⟨_, _, _, Sat.ld h (by first | assumption | (repeat (first | exact .head _ | apply List.Mem.tail))) (by exact rfl), ?_⟩)
  rw [hd]
  refine trimStack_noop h (by rw [hn]; rfl) fun w h => ⟨rfl, ?_⟩
  refine Sat.tk h fun w h => ?_
  refine nilP_some (nilP_some ?_)
  refine ⟨_, _, _, Sat.ld h (by first | assumption | (repeat (first | exact .head _ | apply List.Mem.tail))) (by exact rfl), ?_⟩
  refine ⟨_, _, _, Sat.ld h (by first | assumption | (repeat (first | exact .head _ | apply List.Mem.tail))) (by exact rfl), ?_⟩
  rw [hn, show IntKind.i64.wrap (((1 : Nat) : Int) - 1) = ((0 : Nat) : Int) from rfl, hq]
  refine ⟨by omega, by omega, nilP_some ?_⟩
  simp only [Addr.add_lit, Nat.zero_add, Int.toNat_natCast, Nat.add_zero, Nat.zero_mul]
  refine ⟨_, _, _, Sat.ld h (.tail _ (.head _)) (stk_get (j := 0) (f := 1) (by decide) (last_get (l := []) o)), ?_⟩
  have h : Sat σ _ (IM ++ (p.at b :: (sb, cel (obCells [o] ++ sp) ty_openBlock) :: L)) := h.re (by intro _; simp only [List.append_eq, cnt_append, cnt_cons, cnt_nil] <;> omega)
  refine Sat.app1 rowBlock hI h (v := .iface tb (.pointer q)) rfl (by simp [Value.cells, Value.oneCell']) (by kernel_rfl) (by omega) (by omega) (by decide) fun q' c' w IM2 hI' h => ?_
  have h : Sat σ _ (p.at b :: (sb, cel (obCells [o] ++ sp) ty_openBlock) :: (IM2 ++ L)) := h.re (by intro _; simp only [List.append_eq, cnt_append, cnt_cons, cnt_nil] <;> omega)
  refine Sat.st h (k := 1) rfl (by rw [List.length_append, obCells_length, List.length_singleton]; omega) trivial rfl fun w h => ?_
  have e : (obCells [o] ++ sp).set 1 (Value.slice q' (o.n + 1) c') = obCells [{ o with q := q', n := o.n + 1, c := c' }] ++ sp := stk_set (l := []) (sp := sp) (o := o) (o' := { o with q := q', n := o.n + 1, c := c' }) (f := 1) (v := .slice q' (o.n + 1) c') (by decide) rfl
  have h : Sat σ w (p.at b :: (sb, cel (obCells [{ o with q := q', n := o.n + 1, c := c' }] ++ sp) ty_openBlock) :: (IM2 ++ L)) := by
    rw [← e]; exact h
  have hs2 : Stk p [{ o with q := q', n := o.n + 1, c := c' }] [(sb, cel (obCells [{ o with q := q', n := o.n + 1, c := c' }] ++ sp) ty_openBlock)] := by
    refine Stk.mk' hq ?_ (by rw [hn]; rfl) (by simp)
    rw [← hsp]
    simp only [List.length_append, obCells_length, List.length_singleton, List.length_nil]
  exact hR w _ IM2 q' c' hs2 hI' h
end Go.Proofs.YtmicoampfglaiaaGreatDoor

set_option linter.unusedVariables false
set_option maxRecDepth 20000
namespace Go.Proofs.YtmicoampfglaiaaGreatDoor
open Go.Proofs
/- 322 (*pub-paratext/pub/rscmarkdown.Heading).PrintHTML -/
namespace g_Heading_PrintHTML
noncomputable def body : Code := bodyOf Tryz.f322
def k1 (R : EP) (x0 : OA) (x1 : OA) (w : World) : Prop :=
 callE P i_bytes_Buffer_WriteByte #[.pointer x1, .int .u8 62] (fun e w19 => ∃ (r18 : Value), e = .returned r18 ∧
 nilP x0 fun a20 =>
 ∃ (v21 : OA), w19.cell? (a20.add 3) = some (.pointer v21) ∧
 callE P i_Text_PrintHTML #[.pointer v21, .pointer x1] (fun e w23 => e = .returned (.tuple #[]) ∧
 nilP x0 fun a24 =>
 ∃ (v25 : Int), w23.cell? (a24.add 2) = some (.int .i64 v25) ∧
 callE P i_strconv_Itoa #[.int .i64 v25] (fun e w27 => ∃ (r26 : BA), e = .returned (.string r26) ∧
 (((ByteArray.mk #[60, 47, 104]).size + r26.size : Nat) : Int) ≤ IntKind.i64.max ∧
 ((((ByteArray.mk #[60, 47, 104]) ++ r26).size + (ByteArray.mk #[62, 10]).size : Nat) : Int) ≤ IntKind.i64.max ∧
 callE P i_bytes_Buffer_WriteString #[.pointer x1, .string (((ByteArray.mk #[60, 47, 104]) ++ r26) ++ (ByteArray.mk #[62, 10]))] (fun e w29 => ∃ (r28_0 : Int), ∃ (r28_1 : Value), e = .returned (.tuple #[.int .i64 r28_0, r28_1]) ∧
 R (.returned (.tuple #[])) w29) w27) w23) w19) w

end g_Heading_PrintHTML
def g_Heading_PrintHTML (R : EP) (x0 : OA) (x1 : OA) (w : World) : Prop :=
 nilP x0 fun a1 =>
 ∃ (v2 : Int), w.cell? (a1.add 2) = some (.int .i64 v2) ∧
 callE P i_strconv_Itoa #[.int .i64 v2] (fun e w4 => ∃ (r3 : BA), e = .returned (.string r3) ∧
 (((ByteArray.mk #[60, 104]).size + r3.size : Nat) : Int) ≤ IntKind.i64.max ∧
 callE P i_bytes_Buffer_WriteString #[.pointer x1, .string ((ByteArray.mk #[60, 104]) ++ r3)] (fun e w6 => ∃ (r5_0 : Int), ∃ (r5_1 : Value), e = .returned (.tuple #[.int .i64 r5_0, r5_1]) ∧
 nilP x0 fun a7 =>
 ∃ (v8 : BA), w6.cell? (a7.add 4) = some (.string v8) ∧
 br (!(v8.toList == (ByteArray.mk #[]).toList))
 (tk w6 fun w9 =>
 nilP x0 fun a10 =>
 ∃ (v11 : BA), w9.cell? (a10.add 4) = some (.string v11) ∧
 callE P i_htmlQuoteEscaper #[] (fun e w13 => ∃ (r12q : OA), ∃ (r12n : Nat), ∃ (r12c : Nat), e = .returned (.slice r12q r12n r12c) ∧
 SameC w9 w13 (a10.add 4) 1 ∧
 callE P i_zzPairs_Replace #[.slice r12q r12n r12c, .string v11] (fun e w15 => ∃ (r14 : BA), e = .returned (.string r14) ∧
 (((ByteArray.mk #[32, 105, 100, 61, 34]).size + r14.size : Nat) : Int) ≤ IntKind.i64.max ∧
 ((((ByteArray.mk #[32, 105, 100, 61, 34]) ++ r14).size + (ByteArray.mk #[34]).size : Nat) : Int) ≤ IntKind.i64.max ∧
 callE P i_bytes_Buffer_WriteString #[.pointer x1, .string (((ByteArray.mk #[32, 105, 100, 61, 34]) ++ r14) ++ (ByteArray.mk #[34]))] (fun e w17 => ∃ (r16_0 : Int), ∃ (r16_1 : Value), e = .returned (.tuple #[.int .i64 r16_0, r16_1]) ∧
 g_Heading_PrintHTML.k1 R x0 x1 w17) w15) w13) w9)
 (g_Heading_PrintHTML.k1 R x0 x1 w6)) w4) w

noncomputable def g_Heading_PrintHTML.ac (R : EP) : AC :=
  (.seq (.leaf (sel [0] g_Heading_PrintHTML.body)) (.seq (.seq (.leaf (sel [1, 0, 0] g_Heading_PrintHTML.body)) (.cond 16 (.draw (.pure 0 (.pure 2 (.pure 3 (.pure 4 (.load 5 (.one 1 (.one 6 (.pure 7 (.pure 8 (.one 9 .done)))))))))) (sel [1, 0, 1, 0] g_Heading_PrintHTML.body)) (.leaf (sel [1, 0, 1, 1] g_Heading_PrintHTML.body)))) (.mark (leaf [(0, .s .ptr), (1, .s .ptr)] (g_Heading_PrintHTML.k1 R)) (.leaf (sel [1, 1] g_Heading_PrintHTML.body)))))
theorem g_Heading_PrintHTML.good (R : EP) : Good P 44 (g_Heading_PrintHTML.ac R) (QF P [] R) :=
  ⟨trivial, ⟨⟨trivial, ⟨⟨by kernel_rfl, by kernel_rfl, fun _ _ _ h => h⟩, trivial⟩⟩, ⟨trivial, cutE (by intro x0 x1 ρ w; kernel_rfl)⟩⟩⟩
theorem g_Heading_PrintHTML.eq (R : EP) (x0 : OA) (x1 : OA) (w : World) : g_Heading_PrintHTML R x0 x1 w = vcA P 44 (g_Heading_PrintHTML.ac R) (QF P [] R) (fr0 [.pointer x0, .pointer x1]) w := by kernel_rfl
theorem g_Heading_PrintHTML.sound {R : EP} {x0 : OA} {x1 : OA} {w : World} (h : g_Heading_PrintHTML R x0 x1 w) : callE P i_Heading_PrintHTML #[.pointer x0, .pointer x1] R w :=
  callE_fin (c := g_Heading_PrintHTML.body) Tryz.func322 Tryz.call322 (by kernel_rfl) (by kernel_rfl) (by kernel_rfl) (by kernel_rfl) (by kernel_rfl) (g_Heading_PrintHTML.good R) (g_Heading_PrintHTML.eq R x0 x1 w) h
/- 15 pub-paratext/laws.printable -/
namespace g_laws_printable
noncomputable def body : Code := bodyOf Tryz.f15
def bl1 (R : EP) (Xa : BA → Int → Int → WP) (x0 : BA) (x11 : Int) (x12 : Int) (w : World) : Prop :=
 br (decide (x12 < x11))
 (0 ≤ x12 ∧ x12 < (x0.size : Int) ∧
 ((!(decide ((bt x0 x12) < 32))) = true → 0 ≤ x12 ∧ x12 < (x0.size : Int)) ∧
 br ((decide ((bt x0 x12) < 32)) || (decide ((bt x0 x12) > 126)))
 (R (.returned (.bool false)) w)
 (Xa x0 x11 (IntKind.i64.wrap (x12 + 1)) w))
 (R (.returned (.bool true)) w)
def l1 (R : EP) (x0 : BA) (x11 : Int) (x12 : Int) (w : World) : Prop :=
  ∀ X : BA → Int → Int → WP, (∀ x0 x11 x12 w, bl1 R X x0 x11 x12 w → X x0 x11 x12 w) → X x0 x11 x12 w

noncomputable def al1 (R : EP) (Xa : BA → Int → Int → WP) : AC :=
  (.leaf (sel [1, 1, 0, 1, 0, 0] body))
end g_laws_printable
def g_laws_printable (R : EP) (x0 : BA) (x1 : Int) (w : World) : Prop :=
 br (decide ((x0.size : Int) > x1))
 (R (.returned (.bool false)) w)
 (g_laws_printable.l1 R x0 (x0.size : Int) 0 w)

noncomputable def g_laws_printable.ac (R : EP) : AC :=
  (.seq (.leaf (sel [0] g_laws_printable.body)) (.seq (.leaf (sel [1, 0] g_laws_printable.body)) (.seq (.seq (.leaf (sel [1, 1, 0, 0] g_laws_printable.body)) (.block 0 (.loop (leaf [(0, .s .str), (11, .s (.int .i64)), (12, .s (.int .i64))] (g_laws_printable.l1 R)) (sel [1, 1, 0, 1, 0, 0] g_laws_printable.body)))) (.leaf (sel [1, 1, 1] g_laws_printable.body)))))
theorem g_laws_printable.good (R : EP) : Good P 26 (g_laws_printable.ac R) (QF P [.tmp 4] R) :=
  ⟨trivial, ⟨trivial, ⟨⟨trivial, (loopG (g_laws_printable.al1 R) (g_laws_printable.bl1 R) (fun _ => by kernel_rfl) (fun Xa => trivial) (fun Xa => by intro x0 x11 x12 ρ w; kernel_rfl) (fun X h _ _ _ _ g => g X h))⟩, trivial⟩⟩⟩
theorem g_laws_printable.eq (R : EP) (x0 : BA) (x1 : Int) (w : World) : g_laws_printable R x0 x1 w = vcA P 26 (g_laws_printable.ac R) (QF P [.tmp 4] R) (fr0 [.string x0, .int .i64 x1]) w := by kernel_rfl
theorem g_laws_printable.sound {R : EP} {x0 : ByteArray} {x1 : Int} {w : World} (h : g_laws_printable R x0 x1 w) : callE P i_laws_printable #[.string x0, .int .i64 x1] R w :=
  callE_fin (c := g_laws_printable.body) Tryz.func15 Tryz.call15 (by kernel_rfl) (by kernel_rfl) (by kernel_rfl) (by kernel_rfl) (by kernel_rfl) (g_laws_printable.good R) (g_laws_printable.eq R x0 x1 w) h
/- 20 pub-paratext/spec.EscapeHTML -/
namespace g_spec_EscapeHTML
noncomputable def body : Code := bodyOf Tryz.f20
def bl1 (R : EP) (Xa : BA → BA → Int → WP) (x0 : BA) (x3 : BA) (x4 : Int) (w : World) : Prop :=
 br (decide (x4 < (x0.size : Int)))
 (0 ≤ x4 ∧ x4 < (x0.size : Int) ∧
 br ((bt x0 x4) == 38)
 (((x3.size + (ByteArray.mk #[38, 97, 109, 112, 59]).size : Nat) : Int) ≤ IntKind.i64.max ∧
 Xa x0 (x3 ++ (ByteArray.mk #[38, 97, 109, 112, 59])) (IntKind.i64.wrap (x4 + 1)) w)
 (br ((bt x0 x4) == 60)
 (((x3.size + (ByteArray.mk #[38, 108, 116, 59]).size : Nat) : Int) ≤ IntKind.i64.max ∧
 Xa x0 (x3 ++ (ByteArray.mk #[38, 108, 116, 59])) (IntKind.i64.wrap (x4 + 1)) w)
 (br ((bt x0 x4) == 62)
 (((x3.size + (ByteArray.mk #[38, 103, 116, 59]).size : Nat) : Int) ≤ IntKind.i64.max ∧
 Xa x0 (x3 ++ (ByteArray.mk #[38, 103, 116, 59])) (IntKind.i64.wrap (x4 + 1)) w)
 (br ((bt x0 x4) == 34)
 (((x3.size + (ByteArray.mk #[38, 113, 117, 111, 116, 59]).size : Nat) : Int) ≤ IntKind.i64.max ∧
 Xa x0 (x3 ++ (ByteArray.mk #[38, 113, 117, 111, 116, 59])) (IntKind.i64.wrap (x4 + 1)) w)
 (0 ≤ x4 ∧ x4 ≤ (IntKind.i64.wrap (x4 + 1)) ∧ (IntKind.i64.wrap (x4 + 1)) ≤ (x0.size : Int) ∧
 ((x3.size + (x0.extract (Int.toNat x4) (Int.toNat (IntKind.i64.wrap (x4 + 1)))).size : Nat) : Int) ≤ IntKind.i64.max ∧
 Xa x0 (x3 ++ (x0.extract (Int.toNat x4) (Int.toNat (IntKind.i64.wrap (x4 + 1))))) (IntKind.i64.wrap (x4 + 1)) w)))))
 (R (.returned (.string x3)) w)
def l1 (R : EP) (x0 : BA) (x3 : BA) (x4 : Int) (w : World) : Prop :=
  ∀ X : BA → BA → Int → WP, (∀ x0 x3 x4 w, bl1 R X x0 x3 x4 w → X x0 x3 x4 w) → X x0 x3 x4 w

noncomputable def al1 (R : EP) (Xa : BA → BA → Int → WP) : AC :=
  (.leaf (sel [1, 1, 0, 1, 0, 0] body))
end g_spec_EscapeHTML
def g_spec_EscapeHTML (R : EP) (x0 : BA) (w : World) : Prop :=
 g_spec_EscapeHTML.l1 R x0 (ByteArray.mk #[]) 0 w

noncomputable def g_spec_EscapeHTML.ac (R : EP) : AC :=
  (.seq (.leaf (sel [0] g_spec_EscapeHTML.body)) (.seq (.leaf (sel [1, 0] g_spec_EscapeHTML.body)) (.seq (.seq (.leaf (sel [1, 1, 0, 0] g_spec_EscapeHTML.body)) (.block 0 (.loop (leaf [(0, .s .str), (3, .s .str), (4, .s (.int .i64))] (g_spec_EscapeHTML.l1 R)) (sel [1, 1, 0, 1, 0, 0] g_spec_EscapeHTML.body)))) (.leaf (sel [1, 1, 1] g_spec_EscapeHTML.body)))))
theorem g_spec_EscapeHTML.good (R : EP) : Good P 38 (g_spec_EscapeHTML.ac R) (QF P [.tmp 2] R) :=
  ⟨trivial, ⟨trivial, ⟨⟨trivial, (loopG (g_spec_EscapeHTML.al1 R) (g_spec_EscapeHTML.bl1 R) (fun _ => by kernel_rfl) (fun Xa => trivial) (fun Xa => by intro x0 x3 x4 ρ w; kernel_rfl) (fun X h _ _ _ _ g => g X h))⟩, trivial⟩⟩⟩
theorem g_spec_EscapeHTML.eq (R : EP) (x0 : BA) (w : World) : g_spec_EscapeHTML R x0 w = vcA P 38 (g_spec_EscapeHTML.ac R) (QF P [.tmp 2] R) (fr0 [.string x0]) w := by kernel_rfl
theorem g_spec_EscapeHTML.sound {R : EP} {x0 : ByteArray} {w : World} (h : g_spec_EscapeHTML R x0 w) : callE P i_spec_EscapeHTML #[.string x0] R w :=
  callE_fin (c := g_spec_EscapeHTML.body) Tryz.func20 Tryz.call20 (by kernel_rfl) (by kernel_rfl) (by kernel_rfl) (by kernel_rfl) (by kernel_rfl) (g_spec_EscapeHTML.good R) (g_spec_EscapeHTML.eq R x0 w) h
end Go.Proofs.YtmicoampfglaiaaGreatDoor

/- Small functions of the laws and of the reference: printable, EscapeHTML. -/
set_option linter.unusedVariables false
namespace Go.Proofs.YtmicoampfglaiaaGreatDoor
open Go.Proofs Go.IntWalk Go.RowKit
variable {σ : Out} {w : World} {L L' : List Chunk} {R : Ending → World → Prop}
def prB (c : UInt8) : Bool := decide (32 ≤ c.toNat) && decide (c.toNat ≤ 126)
def printM (s : List UInt8) (n : Nat) : Bool := decide (s.length ≤ n) && s.all prB
theorem printable_ok {s : List UInt8} {n : Nat} (hs : s.length < 4611686018427387904) (hR : R (.returned (.bool (printM s n))) w) : callE P i_laws_printable #[.string (bs s), .int .i64 n] R w := by
  refine g_laws_printable.sound ?_
  by_cases hn : n < s.length
  · refine br_true (by simp; omega) ?_
    have : printM s n = false := by unfold printM; rw [decide_eq_false (by omega)]; rfl
    rw [← this]; exact hR
  refine br_false (by simp; omega) ?_
  intro X hX
  rw [bs_size]
  have hall : printM s n = s.all prB := by unfold printM; rw [decide_eq_true (by omega)]; rfl
  rw [hall] at hR
  have key : ∀ k i, i + k = s.length → s.all prB = (s.drop i).all prB → X (bs s) (s.length : Nat) (i : Int) w := by
    intro k
    induction k with
    | zero =>
      intro i hi ha
      refine hX _ _ _ _ (br_false (by simp; omega) ?_)
      rw [List.drop_eq_nil_of_le (by omega)] at ha
      rw [ha] at hR; exact hR
    | succ k ih =>
      intro i hi ha
      have hil : i < s.length := by omega
      rw [List.drop_eq_getElem_cons hil, List.all_cons] at ha
      refine hX _ _ _ _ (br_true (by simp; omega) ⟨by omega, by simp; omega, fun _ => ⟨by omega, by simp; omega⟩, ?_⟩)
      rw [bt_at hil]
      by_cases hm : prB s[i] = true
      · have hm' := hm
        simp only [prB, Bool.and_eq_true, decide_eq_true_eq] at hm'
        refine br_false (by simp; omega) ?_
        rw [i64_inc (by omega)]
        refine ih (i + 1) (by omega) ?_
        rw [ha, hm, Bool.true_and]
      · have hm' : prB s[i] = false := by simpa using hm
        rw [ha, hm', Bool.false_and] at hR
        refine br_true ?_ hR
        simp only [prB, Bool.and_eq_false_iff, decide_eq_false_iff_not] at hm'
        simp; omega
  exact key s.length 0 (by omega) (by rw [List.drop_zero])
theorem escB_cases (c : UInt8) : (c = 38 ∧ escB htmlPs c = [38, 97, 109, 112, 59]) ∨ (c = 60 ∧ escB htmlPs c = [38, 108, 116, 59]) ∨ (c = 62 ∧ escB htmlPs c = [38, 103, 116, 59]) ∨ (c = 34 ∧ escB htmlPs c = [38, 113, 117, 111, 116, 59]) ∨ (c ≠ 38 ∧ c ≠ 60 ∧ c ≠ 62 ∧ c ≠ 34 ∧ escB htmlPs c = [c]) := by
  by_cases h1 : c = 38
  · subst h1; exact .inl ⟨rfl, by decide⟩
  by_cases h2 : c = 60
  · subst h2; exact .inr (.inl ⟨rfl, by decide⟩)
  by_cases h3 : c = 62
  · subst h3; exact .inr (.inr (.inl ⟨rfl, by decide⟩))
  by_cases h4 : c = 34
  · subst h4; exact .inr (.inr (.inr (.inl ⟨rfl, by decide⟩)))
  refine .inr (.inr (.inr (.inr ⟨h1, h2, h3, h4, ?_⟩)))
  have ne : ∀ d : UInt8, c ≠ d → (d == c) = false := fun d hd => by simpa using fun h => hd h.symm
  unfold escB htmlPs
  simp [List.find?, ne 34 h4, ne 38 h1, ne 60 h2, ne 62 h3]
theorem escHTML_ok {s : List UInt8} (hs : s.length < 1000000000) (hR : R (.returned (.string (bs (escS htmlPs s)))) w) : callE P i_spec_EscapeHTML #[.string (bs s)] R w := by
  refine g_spec_EscapeHTML.sound ?_
  intro X hX
  have hmax : IntKind.i64.max = 9223372036854775807 := rfl
  have key : ∀ k i, i + k = s.length → X (bs s) (bs (escS htmlPs (s.take i))) (i : Int) w := by
    intro k
    induction k with
    | zero =>
      intro i hi
      refine hX _ _ _ _ (br_false (by simp; omega) ?_)
      rw [List.take_of_length_le (by omega)]; exact hR
    | succ k ih =>
      intro i hi
      have hil : i < s.length := by omega
      have hlen := escS_length (ps := htmlPs) (by decide) (s.take i)
      rw [List.length_take] at hlen
      have hst : escS htmlPs (s.take (i + 1)) = escS htmlPs (s.take i) ++ escB htmlPs s[i] := by
        rw [List.take_succ_eq_append_getElem hil, escS_append]; simp [escS]
      have next := ih (i + 1) (by omega)
      rw [hst] at next
      refine hX _ _ _ _ (br_true (by simp; omega) ⟨by omega, by simp; omega, ?_⟩)
      rw [bt_beq hil 38 38 rfl, bt_beq hil 60 60 rfl, bt_beq hil 62 62 rfl, bt_beq hil 34 34 rfl, i64_inc (by omega)]
      rw [show ByteArray.mk #[38, 97, 109, 112, 59] = bs [38, 97, 109, 112, 59] from rfl, show ByteArray.mk #[38, 108, 116, 59] = bs [38, 108, 116, 59] from rfl, show ByteArray.mk #[38, 103, 116, 59] = bs [38, 103, 116, 59] from rfl, show ByteArray.mk #[38, 113, 117, 111, 116, 59] = bs [38, 113, 117, 111, 116, 59] from rfl]
      rcases escB_cases s[i] with ⟨h, he⟩ | ⟨h, he⟩ | ⟨h, he⟩ | ⟨h, he⟩ | ⟨h1, h2, h3, h4, he⟩
      · rw [he] at next
        refine br_true (by simpa using h) ⟨by rw [hmax]; simp; omega, ?_⟩
        rw [bs_append]; exact next
      · rw [he] at next
        refine br_false (by rw [h]; decide) (br_true (by simpa using h) ⟨by rw [hmax]; simp; omega, ?_⟩)
        rw [bs_append]; exact next
      · rw [he] at next
        refine br_false (by rw [h]; decide) (br_false (by rw [h]; decide) (br_true (by simpa using h) ⟨by rw [hmax]; simp; omega, ?_⟩))
        rw [bs_append]; exact next
      · rw [he] at next
        refine br_false (by rw [h]; decide) (br_false (by rw [h]; decide) (br_false (by rw [h]; decide) (br_true (by simpa using h) ⟨by rw [hmax]; simp; omega, ?_⟩)))
        rw [bs_append]; exact next
      · rw [he] at next
        refine br_false (by simpa using h1) (br_false (by simpa using h2) (br_false (by simpa using h3) (br_false (by simpa using h4) ?_)))
        have e1 : (s.take (i + 1)).drop i = [s[i]] := by
          rw [List.take_succ_eq_append_getElem hil, List.drop_append_of_le_length (by rw [List.length_take]; omega), List.drop_eq_nil_of_le (by rw [List.length_take]; omega)]; rfl
        rw [Int.toNat_natCast, Int.toNat_natCast, bs_extract, e1, bs_append]
        refine ⟨by omega, by omega, by simp; omega, by rw [hmax]; simp; omega, next⟩
  exact key s.length 0 (by omega)
end Go.Proofs.YtmicoampfglaiaaGreatDoor

/- A heading prints itself. -/
set_option linter.unusedVariables false
namespace Go.Proofs.YtmicoampfglaiaaGreatDoor
open Go.Proofs Go.IntWalk Go.RowKit
variable {σ : Out} {w : World} {L L' : List Chunk} {R : Ending → World → Prop}
def headC (b s e lv t : Nat) (id : List UInt8) : Chunk := (b, cel [.int .i64 s, .int .i64 e, .int .i64 lv, .pointer (some ⟨t, 0, none⟩), .string (bs id)] ty_Heading)
theorem meth_Heading : methB P ty_P_Heading "PrintHTML" i_Heading_PrintHTML = true := by kernel_rfl
/-- What stands ahead of a heading's text, and behind it. -/
def hOpen (lv : Nat) (id : List UInt8) : List UInt8 := [60, 104] ++ dig1 lv ++ (if id = [] then [] else [32, 105, 100, 61, 34] ++ escS htmlPs id ++ [34]) ++ [62]
def hClose (lv : Nat) : List UInt8 := [60, 47, 104] ++ dig1 lv ++ [62, 10]
theorem dig1_length (n : Nat) : (dig1 n).length ≤ 1 := sub_le _ _
theorem head_prints {nb t s e lv : Nat} {s' e' : Nat} {q : Option Addr} {n c : Nat} {raw id : List UInt8} {vs : List Value} {RM KM KM' : List Chunk} {f : List UInt8 → List UInt8} (hS : Sl 1 ty_Inline q n c vs RM) (hn : n < 4611686018427387904) (hlv : lv < 10) (hid : id.length < 1000000)
    (hP : PrintsL "PrintHTML" vs KM KM' f) :
    Prints "PrintHTML" (.iface ty_P_Heading (.pointer (some ⟨nb, 0, none⟩))) (headC nb s e lv t id :: textC t s' e' q n c raw :: (RM ++ KM)) (headC nb s e lv t id :: textC t s' e' q n c raw :: (RM ++ KM')) (fun l => f (l ++ hOpen lv id) ++ hClose lv) := by
  have hmax : IntKind.i64.max = 9223372036854775807 := rfl
  have hd1 := dig1_length lv
  have hesc := escS_length (ps := htmlPs) (by decide) id
  refine ⟨fun l => ?_, fun σ R b l M L w hB h hb hR => enter_meth meth_Heading ?_⟩
  · have := hP.mono (l ++ hOpen lv id)
    simp only [List.length_append] at *; omega
  refine g_Heading_PrintHTML.sound ?_
  have hm := hP.mono (l ++ hOpen lv id)
  rw [List.length_append] at hb hm
  have hlo : (hOpen lv id).length ≤ 8000100 := by
    unfold hOpen
    simp only [List.length_append, List.length_cons, List.length_nil]
    split
    · simp only [List.length_nil]; omega
    · simp only [List.length_append, List.length_cons, List.length_nil]; omega
  refine nilP_some ⟨_, Sat.ld h (List.mem_append_right _ (.head _)) rfl, ?_⟩
  refine itoa_ok hlv ⟨_, rfl, ?_⟩
  rw [show ByteArray.mk #[60, 104] = bs [60, 104] from rfl, bs_append]
  refine ⟨by rw [hmax, bs_size, bs_size]; simp only [List.length_cons, List.length_nil]; omega, ?_⟩
  have tail : ∀ w M, Buf b (l ++ ([60, 104] ++ dig1 lv ++ (if id = [] then [] else [32, 105, 100, 61, 34] ++ escS htmlPs id ++ [34]))) M → Sat σ w (M ++ (headC nb s e lv t id :: textC t s' e' q n c raw :: (RM ++ KM) ++ L)) → g_Heading_PrintHTML.k1 R (some ⟨nb, 0, none⟩) (some ⟨b, 0, none⟩) w := by
    intro w M hB h
    have hl1 : (l ++ ([60, 104] ++ dig1 lv ++ (if id = [] then [] else [32, 105, 100, 61, 34] ++ escS htmlPs id ++ [34]))).length + 1 = l.length + (hOpen lv id).length := by
      unfold hOpen; simp only [List.length_append, List.length_cons, List.length_nil]; omega
    refine writeB_ok (k := 62) hB h (by omega) fun w M hB h => ⟨_, rfl, ?_⟩
    have e1 : l ++ ([60, 104] ++ dig1 lv ++ (if id = [] then [] else [32, 105, 100, 61, 34] ++ escS htmlPs id ++ [34])) ++ [62] = l ++ hOpen lv id := by
      unfold hOpen; simp only [List.append_assoc]
    rw [e1] at hB
    refine nilP_some ⟨_, Sat.ld h (List.mem_append_right _ (.head _)) rfl, ?_⟩
    have h : Sat σ w (M ++ (textC t s' e' q n c raw :: (RM ++ (KM ++ (headC nb s e lv t id :: L))))) := h.re (by intro _; simp only [List.append_eq, cnt_append, cnt_cons, cnt_nil] <;> omega)
    refine textPrint_ok hS hn hP hB h (by omega) fun w M hB h => ⟨rfl, ?_⟩
    have h : Sat σ w (M ++ (headC nb s e lv t id :: (textC t s' e' q n c raw :: (RM ++ KM') ++ L))) := h.re (by intro _; simp only [List.append_eq, cnt_append, cnt_cons, cnt_nil] <;> omega)
    refine nilP_some ⟨_, Sat.ld h (List.mem_append_right _ (.head _)) rfl, ?_⟩
    refine itoa_ok hlv ⟨_, rfl, ?_⟩
    rw [show ByteArray.mk #[60, 47, 104] = bs [60, 47, 104] from rfl, show ByteArray.mk #[62, 10] = bs [62, 10] from rfl, bs_append, bs_append]
    refine ⟨by rw [hmax, bs_size, bs_size]; simp only [List.length_cons, List.length_nil]; omega, by rw [hmax, bs_size, bs_size]; simp only [List.length_append, List.length_cons, List.length_nil]; omega, ?_⟩
    refine writeS_ok (s := hClose lv) hB h (by omega) fun w M hB h => ⟨_, _, rfl, ?_⟩
    exact hR w M hB (h.re (by intro _; simp only [List.append_eq, cnt_append, cnt_cons, cnt_nil] <;> omega))
  refine writeS_ok (s := [60, 104] ++ dig1 lv) hB h (by simp only [List.length_append, List.length_cons, List.length_nil]; omega) fun w M hB h => ⟨_, _, rfl, ?_⟩
  refine nilP_some ⟨_, Sat.ld h (List.mem_append_right _ (.head _)) rfl, ?_⟩
  by_cases hid0 : id = []
  · rw [if_pos hid0, List.append_nil] at tail
    refine br_false (by rw [bs_toList, mk_toList, hid0]; rfl) ?_
    exact tail w M hB h
  · rw [if_neg hid0] at tail
    refine br_true (by rw [bs_toList, mk_toList]; simpa using hid0) ?_
    refine Sat.tk h fun w h => ?_
    refine nilP_some ⟨_, Sat.ld h (List.mem_append_right _ (.head _)) rfl, ?_⟩
    refine htmlQuoteEscaper_ok h fun w1 eb h1 => ⟨_, _, _, rfl, h.same h1 (List.mem_append_right _ (.head _)) (.tail _ (List.mem_append_right _ (.head _))) 1, ?_⟩
    refine pairsReplace_ok (ps := htmlPs) h1 (.head _) (by decide) (by decide) (by omega) fun w h => ⟨_, rfl, ?_⟩
    rw [show ByteArray.mk #[32, 105, 100, 61, 34] = bs [32, 105, 100, 61, 34] from rfl, show ByteArray.mk #[34] = bs [34] from rfl, bs_append, bs_append]
    refine ⟨by rw [hmax, bs_size, bs_size]; simp only [List.length_cons, List.length_nil]; omega, by rw [hmax, bs_size, bs_size]; simp only [List.length_append, List.length_cons, List.length_nil]; omega, ?_⟩
    have h : Sat σ w (M ++ (headC nb s e lv t id :: textC t s' e' q n c raw :: (RM ++ KM) ++ L)) := h.less [(eb, cel (pairC htmlPs) ty_string)] (by intro _; simp only [List.append_eq, cnt_append, cnt_cons, cnt_nil] <;> omega)
    refine writeS_ok (s := [32, 105, 100, 61, 34] ++ escS htmlPs id ++ [34]) hB h (by simp only [List.length_append, List.length_cons, List.length_nil]; omega) fun w M hB h => ⟨_, _, rfl, ?_⟩
    rw [List.append_assoc l] at hB
    exact tail w M hB h
end Go.Proofs.YtmicoampfglaiaaGreatDoor

/- A heading begins. -/
set_option linter.unusedVariables false
namespace Go.Proofs.YtmicoampfglaiaaGreatDoor
open Go.Proofs Go.IntWalk
variable {σ : Out} {w : World} {L L' : List Chunk} {R : Ending → World → Prop}
def zLine : Ln := ⟨0, 0, 0, [], 0⟩
theorem atx_k2 {b b3 nb : Nat} {p : PS} {o : OB} {M TM : List Chunk} {text id : List UInt8} {lv : Nat} {z : Ln} (h : Sat σ w (p.at b :: M ++ (TM ++ (z.at b3 :: (nb, cel [.int .i64 lv] ty_int) :: L)))) (hs : Stk p [o] M) (hd : p.depth = 0) (ho : o.q = none ∧ o.n = 0 ∧ o.c = 0)
    (ht : Txts p [] TM)
    (hR : ∀ w p' M' TM' IM t hb q' c', p' = { p with tq := p'.tq, tn := 1, tc := p'.tc } → Txts p' [t] TM' → Stk p' [{ o with q := q', n := 1, c := c' }] M' → Sl 1 ty_Block q' 1 c' [.iface ty_P_Heading (.pointer (some ⟨hb, 0, none⟩))] IM →
      Sat σ w (p'.at b :: M' ++ (TM' ++ (IM ++ (headC hb p.lineno p.lineno lv t id :: textC t p.lineno p.lineno none 0 0 text :: L)))) → R (.returned (.tuple #[zLine.val, .bool true])) w) :
    g_newATXHeading.k2 R (some ⟨b, 0, none⟩) b3 nb (bs text) (bs id) w := by
  unfold g_newATXHeading.k2
  refine Sat.tk h fun w h => ?_
  refine nilP_some (nilP_some ?_)
  refine ⟨_, Sat.ld h (.head _) rfl, _, Sat.ld h (.head _) rfl, ?_⟩
  have h0 := h
  refine Sat.bx h fun b62 w h => ?_
  refine ⟨h0.same h (.head _) (.tail _ (.head _)) 1, h0.same h (.head _) (.tail _ (.head _)) 1, ?_⟩
  have h : Sat σ w ((b62, cel [.int .i64 0, .int .i64 0] ty_Position) :: (p.at b :: M ++ (TM ++ (z.at b3 :: (nb, cel [.int .i64 lv] ty_int) :: L)))) := h
  refine Sat.st h (k := 0) rfl (Nat.le_of_ble_eq_true rfl) trivial (by first | (dsimp only [List.set]; exact rfl) | exact rfl) fun w h => ?_
  refine Sat.st h (k := 0) rfl (Nat.le_of_ble_eq_true rfl) trivial (by first | (dsimp only [List.set]; exact rfl) | exact rfl) fun w h => ?_
  refine Sat.tk h fun w h => ?_
  have h : Sat σ _ ((b62, cel [.int .i64 p.lineno, .int .i64 p.lineno] ty_Position) :: (p.at b :: M ++ (TM ++ (z.at b3 :: (nb, cel [.int .i64 lv] ty_int) :: L)))) := h
  have h : Sat σ _ ((b62, cel [.int .i64 p.lineno, .int .i64 p.lineno] ty_Position) :: (nb, cel [.int .i64 lv] ty_int) :: (p.at b :: M ++ (TM ++ (z.at b3 :: L)))) := h.re (by intro _; simp only [List.append_eq, cnt_append, cnt_cons, cnt_nil] <;> omega)
  refine ⟨_, Sat.ld h (.head _) rfl, _, Sat.ld h (.head _) rfl, _, Sat.ld h (.tail _ (.head _)) rfl, _, Sat.ld h (.head _) rfl, _, Sat.ld h (.head _) rfl, ?_⟩
  have h1 := h
  have h : Sat σ _ (p.at b :: TM ++ (M ++ ((b62, cel [.int .i64 p.lineno, .int .i64 p.lineno] ty_Position) :: (nb, cel [.int .i64 lv] ty_int) :: z.at b3 :: L))) := h.re (by intro _; simp only [List.append_eq, cnt_append, cnt_cons, cnt_nil] <;> omega)
  refine newText_ok (ts := []) h ht (by decide) fun w p' TM' t hp' ht' h => ⟨_, rfl, ?_⟩
  have h : Sat σ w ((b62, cel [.int .i64 p.lineno, .int .i64 p.lineno] ty_Position) :: (nb, cel [.int .i64 lv] ty_int) :: (p'.at b :: M ++ ([] ++ (TM' ++ (textC t p.lineno p.lineno none 0 0 text :: z.at b3 :: L))))) := h.re (by intro _; simp only [List.append_eq, cnt_append, cnt_cons, cnt_nil] <;> omega)
  refine ⟨h1.same h (.tail _ (.head _)) (.tail _ (.head _)) 1, h1.same h (.head _) (.head _) 2, ?_⟩
  refine Sat.bx h fun hb w h => ?_
  have h : Sat σ w (headC hb p.lineno p.lineno lv t id :: (b62, cel [.int .i64 p.lineno, .int .i64 p.lineno] ty_Position) :: (nb, cel [.int .i64 lv] ty_int) :: (p'.at b :: M ++ ([] ++ (TM' ++ (textC t p.lineno p.lineno none 0 0 text :: z.at b3 :: L))))) := h
  have h : Sat σ w (p'.at b :: M ++ ([] ++ (z.at b3 :: (TM' ++ (headC hb p.lineno p.lineno lv t id :: textC t p.lineno p.lineno none 0 0 text :: L))))) := h.less [(b62, cel [.int .i64 p.lineno, .int .i64 p.lineno] ty_Position), (nb, cel [.int .i64 lv] ty_int)] (by intro _; simp only [List.append_eq, cnt_append, cnt_cons, cnt_nil] <;> omega)
  have hs' : Stk p' [o] M := by rw [hp']; exact hs
  have hd' : p'.depth = 0 := by rw [hp']; exact hd
  obtain ⟨o1, o2, o3⟩ := ho
  refine doneBlock_ok (inner := []) h hs' hd' (by rw [o1, o2, o3]; exact Sl.nil 1 ty_Block) (by omega) fun w M2 IM2 q' c' hs2 hI2 h => ⟨rfl, ?_⟩
  rw [o2] at hs2 hI2
  have h : Sat σ w (z.at b3 :: (p'.at b :: M2 ++ (TM' ++ (IM2 ++ (headC hb p.lineno p.lineno lv t id :: textC t p.lineno p.lineno none 0 0 text :: L))))) := h.re (by intro _; simp only [List.append_eq, cnt_append, cnt_cons, cnt_nil] <;> omega)
  repeat (first | refine nilP_some ?_ | refine Sat.tk h fun w h => ?_ | refine ⟨_, Sat.ld h (by first | assumption | (repeat (first | exact .head _ | apply List.Mem.tail))) (by exact rfl), ?_⟩ | refine ⟨_, _, _, Sat.ld h (by first | assumption | (repeat (first | exact .head _ | apply List.Mem.tail))) (by exact rfl), ?_⟩ | refine Sat.st h (k := 0) rfl (Nat.le_of_ble_eq_true rfl) trivial (by first | (dsimp only [List.set]; exact rfl) | exact rfl) fun w h => ?_ | refine Sat.st h (k := 1) rfl (Nat.le_of_ble_eq_true rfl) trivial (by first | (dsimp only [List.set]; exact rfl) | exact rfl) fun w h => ?_ | refine Sat.st h (k := 2) rfl (Nat.le_of_ble_eq_true rfl) trivial (by first | (dsimp only [List.set]; exact rfl) | exact rfl) fun w h => ?_ | refine Sat.st h (k := 3) rfl (Nat.le_of_ble_eq_true rfl) trivial (by first | (dsimp only [List.set]; exact rfl) | exact rfl) fun w h => ?_ | refine Sat.st h (k := 4) rfl (Nat.le_of_ble_eq_true rfl) trivial (by first | (dsimp only [List.set]; exact rfl) | exact rfl) fun w h => ?_ | refine Sat.st h (k := 5) rfl (Nat.le_of_ble_eq_true rfl) trivial (by first | (dsimp only [List.set]; exact rfl) | exact rfl) fun w h => ?_ | refine Sat.st h (k := 6) rfl (Nat.le_of_ble_eq_true rfl) trivial (by first | (dsimp only [List.set]; exact rfl) | exact rfl) fun w h => ?_ | refine Sat.bx h fun b0 w h => ?_)
  exact hR _ p' M2 TM' IM2 t hb q' c' hp' ht' hs2 hI2 h.tail
end Go.Proofs.YtmicoampfglaiaaGreatDoor

/- newATXHeading, where a heading begins. -/
set_option linter.unusedVariables false
namespace Go.Proofs.YtmicoampfglaiaaGreatDoor
open Go.Proofs Go.IntWalk
variable {σ : Out} {w : World} {L L' : List Chunk} {R : Ending → World → Prop}
def ldB (c : UInt8) : Prop := (97 ≤ c.toNat ∧ c.toNat ≤ 122) ∨ (48 ≤ c.toNat ∧ c.toNat ≤ 57)
theorem isLD_ok {n : Int} (hn : 97 ≤ n ∧ n ≤ 122 ∨ 48 ≤ n ∧ n ≤ 57) (h : R (.returned (.bool true)) w) : callE P i_isLetterDigit #[.int .u8 n] R w := by
  refine g_isLetterDigit.sound ?_
  unfold g_isLetterDigit
  have e : ((((decide ((65 : Int) ≤ n)) && (decide (n ≤ 90))) || ((decide ((97 : Int) ≤ n)) && (decide (n ≤ 122)))) || ((decide ((48 : Int) ≤ n)) && (decide (n ≤ 57)))) = true := by
    simp; omega
  rw [e]; exact h
theorem bs_get {l : List UInt8} {i : Nat} (h : i < (bs l).size) : ((bs l)[i]'h) = l[i]'(by simpa using h) := rfl
theorem atx_id {b b3 nb : Nat} {id : List UInt8} {x8 : ByteArray} {pq : Option Addr} (hid : ∀ c ∈ id, ldB c) (h : Sat σ w L)
    (hR : ∀ w, Sat σ w L → g_newATXHeading.k2 R pq b3 nb x8 (bs id) w) :
    ∃ v w', (Instr.range ty_string (.string (bs id))).run P w = .ok v w' ∧ g_newATXHeading.l1 R pq b3 nb x8 (bs id) v w' := by
  refine range_ok h fun w rb h => ?_
  intro X hX
  have key : ∀ k i w, i + k = id.length → Sat σ w ((rb, .stringIter (bs id) i) :: L) → X pq b3 nb x8 (bs id) (.pointer (some ⟨rb, 0, none⟩)) w := by
    intro k
    induction k with
    | zero =>
      intro i w hi h
      refine hX _ _ _ _ _ _ _ (.inl ⟨_, next_end h (by simp; omega), hR w h.tail⟩)
    | succ k ih =>
      intro i w hi h
      have hil : i < id.length := by omega
      have hlt : i < (bs id).size := by simpa using hil
      have hc := hid id[i] (List.getElem_mem hil)
      have hcb : id[i].toNat ≤ 122 ∧ 48 ≤ id[i].toNat := by rcases hc with hc | hc <;> omega
      refine hX _ _ _ _ _ _ _ (.inr (next_ok h hlt (by rw [bs_get hlt]; omega) fun w h => ?_))
      rw [bs_get hlt]
      refine br_false (by simp; omega) ?_
      have e : IntKind.u8.wrap ((id[i].toNat : Nat) : Int) = ((id[i].toNat : Nat) : Int) := u8_in _ (by omega)
      show callE P i_isLetterDigit #[.int .u8 (IntKind.u8.wrap ((id[i].toNat : Nat) : Int))] _ w
      rw [e]
      refine isLD_ok (by rcases hc with hc | hc <;> omega) ⟨_, rfl, ?_⟩
      unfold g_newATXHeading.k3
      exact br_false rfl (ih (i + 1) w (by omega) h)
  exact key id.length 0 w (by omega) h
theorem trimR_id {m : List UInt8} {d : UInt8} (hd : isST d = false) : trimR isST (m ++ [d]) = m ++ [d] := by
  unfold trimR
  rw [List.reverse_append, List.reverse_singleton, List.singleton_append, List.dropWhile_cons, hd]
  simp
theorem newATX_yes {b pb : Nat} {p : PS} {o : OB} {op : Opt} {l l' : Ln} {M TM : List Chunk} {A m id t0 m0 : List UInt8} {c0 d0 : UInt8} {lv : Nat}
    (h : Sat σ w (p.at b :: M ++ (TM ++ L))) (hs : Stk p [o] M) (hd : p.depth = 0) (ho : o.q = none ∧ o.n = 0 ∧ o.c = 0) (ht : Txts p [] TM) (hpz : p.pz = some ⟨pb, 0, none⟩) (hop : op.at pb ∈ L) (hl : l.ok) (hl' : l'.ok) (hlen : l'.str.length < 1000000) (hh : l.heading = some (lv, l'))
    (hT : trimR isST l'.str = A ++ 123 :: 35 :: (id ++ [125])) (h1 : id = c0 :: t0) (h2 : id = m0 ++ [d0]) (hld : ∀ c ∈ id, ldB c)
    (hR : ∀ w p' M' TM' IM t hb q' c', p' = { p with tq := p'.tq, tn := 1, tc := p'.tc } → Txts p' [t] TM' → Stk p' [{ o with q := q', n := 1, c := c' }] M' → Sl 1 ty_Block q' 1 c' [.iface ty_P_Heading (.pointer (some ⟨hb, 0, none⟩))] IM →
      Sat σ w (p'.at b :: M' ++ (TM' ++ (IM ++ (headC hb p.lineno p.lineno lv t (if op.ids then id else []) :: textC t p.lineno p.lineno none 0 0 (if op.ids then A else A ++ 123 :: 35 :: (id ++ [125])) :: L)))) → R (.returned (.tuple #[zLine.val, .bool true])) w) :
    callE P i_newATXHeading #[.pointer (some ⟨b, 0, none⟩), l.val] R w := by
  have hvis : ∀ c ∈ id, visB c = true := by
    intro c hc
    have := hld c hc
    simp only [visB, Bool.and_eq_true, decide_eq_true_eq]
    rcases this with h | h <;> omega
  have hnot : ∀ d : UInt8, (d.toNat = 123 ∨ d.toNat = 125) → d ∉ id := by
    intro d hd hm
    rcases hld d hm with h | h <;> omega
  have hTl : (A ++ 123 :: 35 :: (id ++ [125])).length ≤ l'.str.length := by
    rw [← hT]
    unfold trimR
    rw [List.length_reverse]
    have := (List.dropWhile_sublist isST (l := l'.str.reverse)).length_le
    simpa using this
  have hTm : A ++ 123 :: 35 :: (id ++ [125]) = (A ++ 123 :: 35 :: id) ++ [125] := by simp
  refine g_newATXHeading.sound ?_
  refine Sat.bx h fun b1 w h => ?_
  refine Sat.bx h fun b3 w h => ?_
  repeat (first | refine nilP_some ?_ | refine Sat.tk h fun w h => ?_ | refine ⟨_, Sat.ld h (by first | assumption | (repeat (first | exact .head _ | apply List.Mem.tail))) (by exact rfl), ?_⟩ | refine ⟨_, _, _, Sat.ld h (by first | assumption | (repeat (first | exact .head _ | apply List.Mem.tail))) (by exact rfl), ?_⟩)
  refine Sat.bx h fun b4 w h => ?_
  repeat (first | refine nilP_some ?_ | refine Sat.tk h fun w h => ?_ | refine ⟨_, Sat.ld h (by first | assumption | (repeat (first | exact .head _ | apply List.Mem.tail))) (by exact rfl), ?_⟩ | refine ⟨_, _, _, Sat.ld h (by first | assumption | (repeat (first | exact .head _ | apply List.Mem.tail))) (by exact rfl), ?_⟩ | refine Sat.st h (k := 0) rfl (Nat.le_of_ble_eq_true rfl) trivial (by first | (dsimp only [List.set]; exact rfl) | exact rfl) fun w h => ?_ | refine Sat.st h (k := 1) rfl (Nat.le_of_ble_eq_true rfl) trivial (by first | (dsimp only [List.set]; exact rfl) | exact rfl) fun w h => ?_ | refine Sat.st h (k := 2) rfl (Nat.le_of_ble_eq_true rfl) trivial (by first | (dsimp only [List.set]; exact rfl) | exact rfl) fun w h => ?_ | refine Sat.st h (k := 3) rfl (Nat.le_of_ble_eq_true rfl) trivial (by first | (dsimp only [List.set]; exact rfl) | exact rfl) fun w h => ?_ | refine Sat.st h (k := 4) rfl (Nat.le_of_ble_eq_true rfl) trivial (by first | (dsimp only [List.set]; exact rfl) | exact rfl) fun w h => ?_ | refine Sat.st h (k := 5) rfl (Nat.le_of_ble_eq_true rfl) trivial (by first | (dsimp only [List.set]; exact rfl) | exact rfl) fun w h => ?_ | refine Sat.st h (k := 6) rfl (Nat.le_of_ble_eq_true rfl) trivial (by first | (dsimp only [List.set]; exact rfl) | exact rfl) fun w h => ?_ | refine Sat.bx h fun b0 w h => ?_)
  have h : Sat σ _ ((b0, cel [.int .i64 0] ty_int) :: l.at b4 :: zLine.at b3 :: l.at b1 :: (p.at b :: M ++ (TM ++ L))) := h
  refine trimHeading_ok h.up1 hl ?_
  rw [hh]
  intro w h
  refine ⟨_, rfl, br_true rfl ?_⟩
  refine string_ok h (.head _) hl' fun w h => ⟨_, rfl, ?_⟩
  refine trimRST_ok (by omega) ⟨_, rfl, ?_⟩
  rw [hT, hTm]
  refine zzTrimRight_no (by rw [hTm] at hTl; simp at hTl ⊢; omega) (by decide) h fun w h => ⟨_, rfl, ?_⟩
  refine trimRST_ok (by rw [← hTm]; omega) ⟨_, rfl, ?_⟩
  rw [trimR_id (by decide)]
  refine br_false (by simp only [bs_toList]; rw [mk_toList]; simp) ?_
  rw [← hTm]
  unfold g_newATXHeading.k1
  have h : Sat σ w (p.at b :: M ++ (TM ++ (zLine.at b3 :: (b0, cel [.int .i64 lv] ty_int) :: L))) := h.less [l'.at b4, l.at b1] (by intro _; simp only [List.append_eq, cnt_append, cnt_cons, cnt_nil] <;> omega)
  refine nilP_some ⟨_, Sat.ld h (.head _) rfl, ?_⟩
  rw [hpz]
  refine nilP_some ⟨op.ids, Sat.ld h (b := pb) (i := 0) (.tail _ (List.mem_append_right _ (List.mem_append_right _ (.tail _ (.tail _ hop))))) rfl, br_split (fun hi => ?_) (fun hi => ?_)⟩
  · rw [hi] at hR
    refine extractID_ok (by omega) h1 h2 (hvis _ (by rw [h1]; exact List.mem_cons_self ..)) (hvis _ (by rw [h2]; simp)) (hnot 123 (.inl rfl)) (hnot 125 (.inr rfl)) h fun w h => ⟨_, _, rfl, ?_⟩
    refine atx_id (b := b) hld h fun w h => ?_
    exact atx_k2 h hs hd ho ht hR
  · rw [hi] at hR
    exact atx_k2 (id := []) h hs hd ho ht hR
end Go.Proofs.YtmicoampfglaiaaGreatDoor

/- addLine, where a heading begins. -/
set_option linter.unusedVariables false
namespace Go.Proofs.YtmicoampfglaiaaGreatDoor
open Go.Proofs Go.IntWalk
variable {σ : Out} {w : World} {L L' : List Chunk} {R : Ending → World → Prop}
theorem addLine_head {b pb : Nat} {p : PS} {o : OB} {op : Opt} {l l' : Ln} {M TM : List Chunk} {A id t0 m0 : List UInt8} {c0 d0 : UInt8} {lv : Nat}
    (h : Sat σ w (p.at b :: M ++ (TM ++ L))) (hs : Stk p [o] M) (ho : o.q = none ∧ o.n = 0 ∧ o.c = 0) (ht : Txts p [] TM) (hpz : p.pz = some ⟨pb, 0, none⟩) (hop : op.at pb ∈ L) (hl : l.ok) (hbl : l.blank = false) (hq : l.quote = none) (hl' : l'.ok) (hlen : l'.str.length < 1000000) (hh : l.heading = some (lv, l'))
    (hT : trimR isST l'.str = A ++ 123 :: 35 :: (id ++ [125])) (h1 : id = c0 :: t0) (h2 : id = m0 ++ [d0]) (hld : ∀ c ∈ id, ldB c)
    (hR : ∀ w p' M' TM' IM t hb q' c', p' = { p with depth := 0, tq := p'.tq, tn := 1, tc := p'.tc } → Txts p' [t] TM' → Stk p' [{ o with q := q', n := 1, c := c' }] M' → Sl 1 ty_Block q' 1 c' [.iface ty_P_Heading (.pointer (some ⟨hb, 0, none⟩))] IM →
      Sat σ w (p'.at b :: M' ++ (TM' ++ (IM ++ (headC hb p.lineno p.lineno lv t (if op.ids then id else []) :: textC t p.lineno p.lineno none 0 0 (if op.ids then A else A ++ 123 :: 35 :: (id ++ [125])) :: L)))) → R (.returned (.tuple #[])) w) :
    callE P i_parseState_addLine #[.pointer (some ⟨b, 0, none⟩), l.val] R w := by
  refine g_parseState_addLine.sound ?_
  refine Sat.bx h fun b1 w h => ?_
  repeat (first | refine nilP_some ?_ | refine Sat.tk h fun w h => ?_ | refine ⟨_, Sat.ld h (by first | assumption | (repeat (first | exact .head _ | apply List.Mem.tail))) (by exact rfl), ?_⟩ | refine ⟨_, _, _, Sat.ld h (by first | assumption | (repeat (first | exact .head _ | apply List.Mem.tail))) (by exact rfl), ?_⟩ | refine Sat.st h (k := 0) rfl (Nat.le_of_ble_eq_true rfl) trivial (by first | (dsimp only [List.set]; exact rfl) | exact rfl) fun w h => ?_ | refine Sat.st h (k := 1) rfl (Nat.le_of_ble_eq_true rfl) trivial (by first | (dsimp only [List.set]; exact rfl) | exact rfl) fun w h => ?_ | refine Sat.st h (k := 2) rfl (Nat.le_of_ble_eq_true rfl) trivial (by first | (dsimp only [List.set]; exact rfl) | exact rfl) fun w h => ?_ | refine Sat.st h (k := 3) rfl (Nat.le_of_ble_eq_true rfl) trivial (by first | (dsimp only [List.set]; exact rfl) | exact rfl) fun w h => ?_ | refine Sat.st h (k := 4) rfl (Nat.le_of_ble_eq_true rfl) trivial (by first | (dsimp only [List.set]; exact rfl) | exact rfl) fun w h => ?_ | refine Sat.st h (k := 5) rfl (Nat.le_of_ble_eq_true rfl) trivial (by first | (dsimp only [List.set]; exact rfl) | exact rfl) fun w h => ?_ | refine Sat.st h (k := 6) rfl (Nat.le_of_ble_eq_true rfl) trivial (by first | (dsimp only [List.set]; exact rfl) | exact rfl) fun w h => ?_ | refine Sat.bx h fun b0 w h => ?_)
  let p1 : PS := { p with depth := 0 }
  have hs1 : Stk p1 [o] M := hs
  have ht1 : Txts p1 [] TM := ht
  have h : Sat σ _ (l.at b1 :: p1.at b :: M ++ (TM ++ L)) := h
  intro X hX
  refine hX _ _ _ ?_
  repeat (first | refine nilP_some ?_ | refine Sat.tk h fun w h => ?_ | refine ⟨_, Sat.ld h (by first | assumption | (repeat (first | exact .head _ | apply List.Mem.tail))) (by exact rfl), ?_⟩ | refine ⟨_, _, _, Sat.ld h (by first | assumption | (repeat (first | exact .head _ | apply List.Mem.tail))) (by exact rfl), ?_⟩)
  have hn : p1.stn = 1 := hs.2.1
  rw [hn]
  refine br_false rfl ?_
  refine isBlank_ok h (by first | assumption | (repeat (first | exact .head _ | apply List.Mem.tail))) hl fun w h => ⟨_, rfl, ?_⟩
  rw [hbl]
  refine br_false rfl ?_
  refine news_ok h fun w nb e h => ⟨_, _, _, rfl, ?_⟩
  intro Y hY
  have g0 : newsC[0]? = some (.func (.func i_newQuote) #[] #[]) := newsC_get rfl
  have g1 : newsC[1]? = some (.func (.func i_newATXHeading) #[] #[]) := newsC_get rfl
  have h : Sat σ w (l.at b1 :: (nb, cel newsC e) :: (p1.at b :: M ++ (TM ++ L))) := h.re (by intro _; simp only [List.append_eq, cnt_append, cnt_cons, cnt_nil] <;> omega)
  refine hY _ _ _ _ _ _ _ _ (br_true rfl ⟨by decide, by decide, nilP_some ?_⟩)
  simp only [Addr.add_lit, Nat.zero_add, Int.toNat_zero, Nat.mul_one]
  refine ⟨_, Sat.ld h (.tail _ (.head _)) g0, ?_⟩
  refine ⟨_, Sat.ld h (.head _) rfl, _, Sat.ld h (.head _) rfl, _, Sat.ld h (.head _) rfl, _, Sat.ld h (.head _) rfl, _, Sat.ld h (.head _) rfl, ?_⟩
  refine enter_fn ?_
  refine newQuote_no (x := .nilIface) h hl hq fun w h => ⟨_, _, _, _, _, _, rfl, ?_⟩
  repeat (first | refine nilP_some ?_ | refine Sat.tk h fun w h => ?_ | refine ⟨_, Sat.ld h (by first | assumption | (repeat (first | exact .head _ | apply List.Mem.tail))) (by exact rfl), ?_⟩ | refine ⟨_, _, _, Sat.ld h (by first | assumption | (repeat (first | exact .head _ | apply List.Mem.tail))) (by exact rfl), ?_⟩ | refine Sat.st h (k := 0) rfl (Nat.le_of_ble_eq_true rfl) trivial (by first | (dsimp only [List.set]; exact rfl) | exact rfl) fun w h => ?_ | refine Sat.st h (k := 1) rfl (Nat.le_of_ble_eq_true rfl) trivial (by first | (dsimp only [List.set]; exact rfl) | exact rfl) fun w h => ?_ | refine Sat.st h (k := 2) rfl (Nat.le_of_ble_eq_true rfl) trivial (by first | (dsimp only [List.set]; exact rfl) | exact rfl) fun w h => ?_ | refine Sat.st h (k := 3) rfl (Nat.le_of_ble_eq_true rfl) trivial (by first | (dsimp only [List.set]; exact rfl) | exact rfl) fun w h => ?_ | refine Sat.st h (k := 4) rfl (Nat.le_of_ble_eq_true rfl) trivial (by first | (dsimp only [List.set]; exact rfl) | exact rfl) fun w h => ?_ | refine Sat.st h (k := 5) rfl (Nat.le_of_ble_eq_true rfl) trivial (by first | (dsimp only [List.set]; exact rfl) | exact rfl) fun w h => ?_ | refine Sat.st h (k := 6) rfl (Nat.le_of_ble_eq_true rfl) trivial (by first | (dsimp only [List.set]; exact rfl) | exact rfl) fun w h => ?_ | refine Sat.bx h fun b0 w h => ?_)
  have h : Sat σ _ (l.at b0 :: (l.at b1 :: (nb, cel newsC e) :: (p1.at b :: M ++ (TM ++ L)))) := h
  have h := h.tail
  have e1 : IntKind.i64.wrap ((0 : Int) + 1) = 1 := by decide
  rw [e1]
  refine hY _ _ _ _ _ _ _ _ (br_true rfl ⟨by decide, by decide, nilP_some ?_⟩)
  simp only [Addr.add_lit, Nat.zero_add, Int.toNat_one, Nat.mul_one]
  refine ⟨_, Sat.ld h (.tail _ (.head _)) g1, ?_⟩
  refine ⟨_, Sat.ld h (.head _) rfl, _, Sat.ld h (.head _) rfl, _, Sat.ld h (.head _) rfl, _, Sat.ld h (.head _) rfl, _, Sat.ld h (.head _) rfl, ?_⟩
  have h : Sat σ _ (p1.at b :: M ++ (TM ++ (l.at b1 :: (nb, cel newsC e) :: L))) := h.re (by intro _; simp only [List.append_eq, cnt_append, cnt_cons, cnt_nil] <;> omega)
  refine enter_fn ?_
  refine newATX_yes (m := []) h hs1 rfl ho ht1 hpz (.tail _ (.tail _ hop)) hl hl' hlen hh hT h1 h2 hld fun w p' M' TM' IM t hb q' c' hp' ht' hs' hI' h => ⟨_, _, _, _, _, _, rfl, ?_⟩
  have h : Sat σ w (p'.at b :: M' ++ (TM' ++ (IM ++ (headC hb p.lineno p.lineno lv t (if op.ids then id else []) :: textC t p.lineno p.lineno none 0 0 (if op.ids then A else A ++ 123 :: 35 :: (id ++ [125])) :: l.at b1 :: (nb, cel newsC e) :: L)))) := h
  have h : Sat σ w (l.at b1 :: (p'.at b :: M' ++ (TM' ++ (IM ++ (headC hb p.lineno p.lineno lv t (if op.ids then id else []) :: textC t p.lineno p.lineno none 0 0 (if op.ids then A else A ++ 123 :: 35 :: (id ++ [125])) :: (nb, cel newsC e) :: L))))) := h.re (by intro _; simp only [List.append_eq, cnt_append, cnt_cons, cnt_nil] <;> omega)
  repeat (first | refine nilP_some ?_ | refine Sat.tk h fun w h => ?_ | refine ⟨_, Sat.ld h (by first | assumption | (repeat (first | exact .head _ | apply List.Mem.tail))) (by exact rfl), ?_⟩ | refine ⟨_, _, _, Sat.ld h (by first | assumption | (repeat (first | exact .head _ | apply List.Mem.tail))) (by exact rfl), ?_⟩ | refine Sat.st h (k := 0) rfl (Nat.le_of_ble_eq_true rfl) trivial (by first | (dsimp only [List.set]; exact rfl) | exact rfl) fun w h => ?_ | refine Sat.st h (k := 1) rfl (Nat.le_of_ble_eq_true rfl) trivial (by first | (dsimp only [List.set]; exact rfl) | exact rfl) fun w h => ?_ | refine Sat.st h (k := 2) rfl (Nat.le_of_ble_eq_true rfl) trivial (by first | (dsimp only [List.set]; exact rfl) | exact rfl) fun w h => ?_ | refine Sat.st h (k := 3) rfl (Nat.le_of_ble_eq_true rfl) trivial (by first | (dsimp only [List.set]; exact rfl) | exact rfl) fun w h => ?_ | refine Sat.st h (k := 4) rfl (Nat.le_of_ble_eq_true rfl) trivial (by first | (dsimp only [List.set]; exact rfl) | exact rfl) fun w h => ?_ | refine Sat.st h (k := 5) rfl (Nat.le_of_ble_eq_true rfl) trivial (by first | (dsimp only [List.set]; exact rfl) | exact rfl) fun w h => ?_ | refine Sat.st h (k := 6) rfl (Nat.le_of_ble_eq_true rfl) trivial (by first | (dsimp only [List.set]; exact rfl) | exact rfl) fun w h => ?_ | refine Sat.bx h fun b0 w h => ?_)
  have h : Sat σ _ (zLine.at b0 :: zLine.at b1 :: (p'.at b :: M' ++ (TM' ++ (IM ++ (headC hb p.lineno p.lineno lv t (if op.ids then id else []) :: textC t p.lineno p.lineno none 0 0 (if op.ids then A else A ++ 123 :: 35 :: (id ++ [125])) :: (nb, cel newsC e) :: L))))) := h
  refine isBlank_ok (l := zLine) h (.tail _ (.head _)) ⟨by decide, by decide, by decide, by decide⟩ fun w h => ⟨_, rfl, ?_⟩
  refine br_true rfl ?_
  exact hR w p' M' TM' IM t hb q' c' hp' ht' hs' hI' (h.less [zLine.at b0, zLine.at b1, (nb, cel newsC e)] (by intro _; simp only [List.append_eq, cnt_append, cnt_cons, cnt_nil] <;> omega))
end Go.Proofs.YtmicoampfglaiaaGreatDoor

/- A document of one line that is a heading: parse. -/
set_option linter.unusedVariables false
namespace Go.Proofs.YtmicoampfglaiaaGreatDoor
open Go.Proofs Go.IntWalk Go.RowKit
variable {σ : Out} {w : World} {L L' : List Chunk} {R : Ending → World → Prop}
theorem finishRoot_ok {b rb : Nat} {p : PS} {r : OB} {M : List Chunk} (h : Sat σ w (p.at b :: M ++ L)) (hs : Stk p [r] M) (hr : r.bd = .iface ty_P_rootBuilder (.pointer (some ⟨rb, 0, none⟩)))
    (hR : ∀ w db, Sat σ w ({ p with stn := 0, root := some ⟨db, 0, none⟩ }.at b :: M ++ (docC db r.s r.e r.q r.n r.c p.links :: L)) → R (.returned (.tuple #[])) w) :
    callE P i_parseState_trimStack #[.pointer (some ⟨b, 0, none⟩), .int .i64 0] R w := by
  have hn := hs.2.1
  refine g_parseState_trimStack.sound ?_
  repeat (first | refine nilP_some ?_ | refine Sat.tk h fun w h => ?_ | refine ⟨_, Sat.ld h (by first | assumption | (repeat (first | exact .head _ | apply List.Mem.tail))) (by exact rfl), ?_⟩ | refine ⟨_, _, _, Sat.ld h (by first | assumption | (repeat (first | exact .head _ | apply List.Mem.tail))) (by exact rfl), ?_⟩)
  rw [hn]
  refine br_false rfl ?_
  intro X hX
  refine hX _ _ _ ?_
  repeat (first | refine nilP_some ?_ | refine Sat.tk h fun w h => ?_ | refine ⟨_, Sat.ld h (by first | assumption | (repeat (first | exact .head _ | apply List.Mem.tail))) (by exact rfl), ?_⟩ | refine ⟨_, _, _, Sat.ld h (by first | assumption | (repeat (first | exact .head _ | apply List.Mem.tail))) (by exact rfl), ?_⟩)
  rw [hn]
  refine br_true rfl ?_
  refine closeRoot_ok h hs hr fun w db h => ⟨_, rfl, hX _ _ _ ?_⟩
  repeat (first | refine nilP_some ?_ | refine Sat.tk h fun w h => ?_ | refine ⟨_, Sat.ld h (by first | assumption | (repeat (first | exact .head _ | apply List.Mem.tail))) (by exact rfl), ?_⟩ | refine ⟨_, _, _, Sat.ld h (by first | assumption | (repeat (first | exact .head _ | apply List.Mem.tail))) (by exact rfl), ?_⟩)
  refine br_false rfl ?_
  exact hR _ db h
theorem parseHead_ok {pb : Nat} {op : Opt} {raw : List UInt8} {l' : Ln} {A id t0 m0 : List UInt8} {c0 d0 : UInt8} {lv : Nat} {f : List UInt8 → List UInt8} (h : Sat σ w L) (ho : op.at pb ∈ L) (hl : (lnOf raw).ok) (hbl : (lnOf raw).blank = false) (hq : (lnOf raw).quote = none)
    (hl' : l'.ok) (hlen' : l'.str.length < 1000000) (hh : (lnOf raw).heading = some (lv, l')) (hT : trimR isST l'.str = A ++ 123 :: 35 :: (id ++ [125])) (h1 : id = c0 :: t0) (h2 : id = m0 ++ [d0]) (hld : ∀ c ∈ id, ldB c) (hlv : lv < 10)
    (hlen : raw.length < 1000000) (hz0 : idx raw [0] = none) (h10 : idx raw [10] = none) (h13 : idx raw [13] = none) (hrl : raw ≠ []) (hI : InlineOK op (if op.ids then A else A ++ 123 :: 35 :: (id ++ [125])) f)
    (hR : ∀ w db k DM DM', Prints "PrintHTML" (.iface ty_P_Document (.pointer (some ⟨db, 0, none⟩))) DM DM' (fun l => f (l ++ hOpen lv (if op.ids then id else [])) ++ hClose lv) → Sat σ w (DM ++ L) → R (.returned (.tuple #[.pointer (some ⟨db, 0, none⟩), .bool k])) w) :
    callE P i_Parser_parse #[.pointer (some ⟨pb, 0, none⟩), .string (bs raw)] R w := by
  have hidl : (if op.ids then id else []).length < 1000000 := by
    have : (A ++ 123 :: 35 :: (id ++ [125])).length ≤ l'.str.length := by
      rw [← hT]
      unfold trimR
      rw [List.length_reverse]
      have := (List.dropWhile_sublist isST (l := l'.str.reverse)).length_le
      simpa using this
    split
    · simp at this; omega
    · simp
  generalize hid' : (if op.ids then id else []) = id' at hidl hR
  generalize htx' : (if op.ids then A else A ++ 123 :: 35 :: (id ++ [125])) = tx at hI
  refine g_Parser_parse.sound ?_
  refine Sat.bx h fun b w h => ?_
  refine Sat.st h (k := 0) rfl (Nat.le_of_ble_eq_true rfl) trivial (by first | (dsimp only [List.set]; exact rfl) | exact rfl) fun w h => ?_
  have h : Sat σ w ((PS0 (some ⟨pb, 0, none⟩)).at b :: L) := h
  refine zzContains_ok (sub := [0]) (by omega) (by decide) ⟨_, rfl, ?_⟩
  rw [hz0]
  refine br_false rfl ?_
  refine Sat.st h (k := 0) rfl (Nat.le_of_ble_eq_true rfl) trivial (by first | (dsimp only [List.set]; exact rfl) | exact rfl) fun w h => ?_
  refine Sat.bx h fun rb w h => ?_
  let p0 : PS := { PS0 (some ⟨pb, 0, none⟩) with depth := -1 }
  have h : Sat σ w (p0.at b :: [] ++ ((rb, cel [] ty_rootBuilder) :: L)) := h.up1
  have hstk : Stk p0 [] [] := ⟨Sl.nil 4 ty_openBlock, rfl, by simp⟩
  refine addBlock_ok h hstk rfl (by decide) fun w p1 M hp1 hs1 h => ⟨rfl, ?_⟩
  intro X hX
  refine hX _ _ _ _ (br_true (by rw [bs_toList]; simpa using hrl) ?_)
  refine zzIndex_ok (sub := [10]) (by omega) (by decide) ⟨_, rfl, ?_⟩
  refine zzIndex_ok (sub := [13]) (by omega) (by decide) ⟨_, rfl, ?_⟩
  have e10 : idxInt raw [10] = -1 := by unfold idxInt; rw [h10]
  have e13 : idxInt raw [13] = -1 := by unfold idxInt; rw [h13]
  rw [e10, e13]
  refine br_false rfl (br_false rfl ?_)
  have e1 : p1 = { p0 with stq := p1.stq, stn := 1, stc := p1.stc } := hp1
  have hl1 : p1.lineno = 0 := by rw [e1]; rfl
  refine ⟨_, Sat.ld h (.head _) rfl, ?_⟩
  refine Sat.st h (k := 0) rfl (Nat.le_of_ble_eq_true rfl) trivial (by first | (dsimp only [List.set]; exact rfl) | exact rfl) fun w h => ?_
  rw [hl1] at h
  let p2 : PS := { p1 with lineno := 1 }
  have h : Sat σ w (p2.at b :: M ++ ([] ++ ((rb, cel [] ty_rootBuilder) :: L))) := h
  have hs2 : Stk p2 [⟨.iface ty_P_rootBuilder (.pointer (some ⟨rb, 0, none⟩)), none, 0, 0, 0, 0⟩] M := by
    have := Stk.of (p' := p2) hs1 rfl rfl rfl
    rw [List.nil_append] at this
    exact this
  have hpz2 : p2.pz = some ⟨pb, 0, none⟩ := by show p1.pz = _; rw [e1]; rfl
  have htx : Txts p2 [] [] := by
    have : p2.tq = none ∧ p2.tn = 0 ∧ p2.tc = 0 := by show p1.tq = none ∧ p1.tn = 0 ∧ p1.tc = 0; rw [e1]; exact ⟨rfl, rfl, rfl⟩
    obtain ⟨a, b, c⟩ := this
    unfold Txts
    rw [a, b, c]
    exact ⟨Sl.nil 1 ty_P_Text, rfl, by simp⟩
  refine addLine_head (l := lnOf raw) h hs2 ⟨rfl, rfl, rfl⟩ htx hpz2 (.tail _ ho) hl hbl hq hl' hlen' hh hT h1 h2 hld fun w p3 M3 TM IM t nb q c hp3 ht3 hs3 hIM h => ⟨rfl, ?_⟩
  rw [hid', htx'] at h
  have hln : p2.lineno = 1 := rfl
  rw [hln] at h
  refine hX _ _ _ _ (br_false (by rw [mk_toList]; rfl) ?_)
  have hlk : p3.links = none := by rw [hp3]; show p1.links = none; rw [e1]; rfl
  refine finishRoot_ok h hs3 rfl fun w db h => ⟨rfl, ?_⟩
  let p4 : PS := { p3 with stn := 0, root := some ⟨db, 0, none⟩ }
  have h : Sat σ w (p4.at b :: M3 ++ (docC db 0 0 q 1 c p3.links :: (TM ++ (IM ++ (headC nb 1 1 lv t id' :: textC t 1 1 none 0 0 tx :: ((rb, cel [] ty_rootBuilder) :: L)))))) := h
  have h : Sat σ w (p4.at b :: (TM ++ (docC db 0 0 q 1 c p3.links :: (IM ++ (headC nb 1 1 lv t id' :: textC t 1 1 none 0 0 tx :: ((rb, cel [] ty_rootBuilder) :: L)))))) := h.less M3 (by intro _; simp only [List.append_eq, cnt_append, cnt_cons, cnt_nil] <;> omega)
  have ht4 : Txts p4 [t] TM := ht3
  refine ⟨_, _, _, Sat.ld h (.head _) rfl, ?_⟩
  have htn : p4.tn = 1 := by show p3.tn = 1; rw [hp3]
  have hpz4 : p4.pz = some ⟨pb, 0, none⟩ := by show p3.pz = _; rw [hp3]; exact hpz2
  intro Y hY
  obtain ⟨tb, tsp, htq, htm⟩ := ht4.1.rowAt (by rw [htn]; decide)
  refine hY _ _ _ _ _ _ _ _ (br_true (by rw [htn]; rfl) ⟨by decide, by rw [htn]; decide, ?_⟩)
  rw [htq]
  refine nilP_some ?_
  subst htm
  simp only [Addr.add_lit, Int.toNat_zero, Nat.zero_mul, Nat.add_zero]
  refine ⟨_, Sat.ld h (.tail _ (List.mem_append_left _ (.head _))) rfl, nilP_some ?_⟩
  simp only [Addr.add_lit, Nat.zero_add]
  have h : Sat σ w (p4.at b :: ([(tb, cel ([t].map (fun t => Value.pointer (some ⟨t, 0, none⟩)) ++ tsp) ty_P_Text)] ++ (docC db 0 0 q 1 c p3.links :: (IM ++ (headC nb 1 1 lv t id' :: textC t 1 1 none 0 0 tx :: ((rb, cel [] ty_rootBuilder) :: L)))))) := h
  have h : Sat σ w (p4.at b :: (textC t 1 1 none 0 0 tx :: (tb, cel ([t].map (fun t => Value.pointer (some ⟨t, 0, none⟩)) ++ tsp) ty_P_Text) :: (docC db 0 0 q 1 c p3.links :: (IM ++ (headC nb 1 1 lv t id' :: ((rb, cel [] ty_rootBuilder) :: L)))))) := h.re (by intro _; simp only [List.append_eq, cnt_append, cnt_cons, cnt_nil] <;> omega)
  refine ⟨_, Sat.ld h (.tail _ (.head _)) rfl, ?_⟩
  refine hI σ _ b pb p4 _ w h hpz4 (by simp [ho]) hlk fun w p5 q5 n5 c5 vs RM KM KM' hp5 hS5 hn5 hP5 h => ⟨_, _, _, rfl, nilP_some ?_⟩
  have h : Sat σ w (textC t 1 1 none 0 0 tx :: (p5.at b :: (RM ++ (KM ++ ((tb, cel ([t].map (fun t => Value.pointer (some ⟨t, 0, none⟩)) ++ tsp) ty_P_Text) :: (docC db 0 0 q 1 c p3.links :: (IM ++ (headC nb 1 1 lv t id' :: ((rb, cel [] ty_rootBuilder) :: L))))))))) := h.re (by intro _; simp only [List.append_eq, cnt_append, cnt_cons, cnt_nil] <;> omega)
  refine Sat.st h (k := 0) rfl (Nat.le_of_ble_eq_true rfl) trivial (by first | (dsimp only [List.set]; exact rfl) | exact rfl) fun w h => ?_
  have h : Sat σ w (textC t 1 1 q5 n5 c5 tx :: (p5.at b :: (RM ++ (KM ++ ((tb, cel ([t].map (fun t => Value.pointer (some ⟨t, 0, none⟩)) ++ tsp) ty_P_Text) :: (docC db 0 0 q 1 c p3.links :: (IM ++ (headC nb 1 1 lv t id' :: ((rb, cel [] ty_rootBuilder) :: L))))))))) := h
  refine hY _ _ _ _ _ _ _ _ (br_false (by rw [htn]; rfl) (nilP_some ?_))
  simp only [Addr.add_lit, Nat.zero_add]
  have hroot : p5.root = some ⟨db, 0, none⟩ := by have := congrArg PS.root hp5; rw [show p5.root = p4.root from this]
  have hLL : p5.Lq = none ∧ p5.Ln = 0 ∧ p5.Lc = 0 := by
    have a := congrArg PS.Lq hp5; have b := congrArg PS.Ln hp5; have c := congrArg PS.Lc hp5
    rw [show p5.Lq = p4.Lq from a, show p5.Ln = p4.Ln from b, show p5.Lc = p4.Lc from c]
    show p3.Lq = none ∧ p3.Ln = 0 ∧ p3.Lc = 0
    rw [hp3]; show p1.Lq = none ∧ p1.Ln = 0 ∧ p1.Lc = 0; rw [e1]; exact ⟨rfl, rfl, rfl⟩
  have hfin : g_Parser_parse.k4 R b w := by
    refine Sat.tk h fun w h => ?_
    refine ⟨_, Sat.ld h (.tail _ (.head _)) rfl, _, Sat.ld h (.tail _ (.head _)) rfl, ?_⟩
    rw [hroot]
    refine hR w db p5.corner (docC db 0 0 q 1 c p3.links :: (IM ++ ((headC nb 1 1 lv t id' :: textC t 1 1 q5 n5 c5 tx :: (RM ++ KM)) ++ []))) (docC db 0 0 q 1 c p3.links :: (IM ++ ((headC nb 1 1 lv t id' :: textC t 1 1 q5 n5 c5 tx :: (RM ++ KM')) ++ []))) ?_ ?_
    · exact doc_prints hIM (by decide) (.cons (head_prints hS5 (by omega) hlv hidl hP5) .nil)
    · exact h.less (p5.at b :: (tb, cel ([t].map (fun t => Value.pointer (some ⟨t, 0, none⟩)) ++ tsp) ty_P_Text) :: [(rb, cel [] ty_rootBuilder)]) (by intro _; simp only [List.append_eq, cnt_append, cnt_cons, cnt_nil] <;> omega)
  refine ⟨op.task, Sat.ld h (b := pb) (i := 2) (.tail _ (.tail _ (List.mem_append_right _ (List.mem_append_right _ (.tail _ (.tail _ (List.mem_append_right _ (.tail _ (.tail _ ho))))))))) rfl, br_split (fun _ => ?_) (fun _ => hfin)⟩
  refine ⟨_, _, _, Sat.ld h (.tail _ (.head _)) rfl, ?_⟩
  intro Z hZ
  obtain ⟨l1, l2, l3⟩ := hLL
  rw [l1, l2, l3]
  exact hZ _ _ _ _ _ _ _ (br_false rfl hfin)
end Go.Proofs.YtmicoampfglaiaaGreatDoor

/- The line of a heading, computed. -/
set_option linter.unusedVariables false
namespace Go.Proofs.YtmicoampfglaiaaGreatDoor
open Go.Proofs Go.IntWalk
variable {σ : Out} {w : World} {L L' : List Chunk} {R : Ending → World → Prop}
def hLine (lv : Nat) (rest : List UInt8) : List UInt8 := List.replicate lv 35 ++ 32 :: rest
theorem hLine_heading {lv : Nat} (h1 : 1 ≤ lv) (h6 : lv ≤ 6) (rest : List UInt8) : (lnOf (hLine lv rest)).heading = some (lv, { lnOf (hLine lv rest) with i := lv + 1 }) := by
  have : lv = 1 ∨ lv = 2 ∨ lv = 3 ∨ lv = 4 ∨ lv = 5 ∨ lv = 6 := by omega
  rcases this with h | h | h | h | h | h <;> subst h <;>
    simp [hLine, lnOf, Ln.heading, Ln.lead, Ln.trimSp, Ln.tsGo, Ln.trimC, Ln.hashes, List.replicate_succ] <;> omega
theorem hLine_quote {lv : Nat} (h1 : 1 ≤ lv) (rest : List UInt8) : (lnOf (hLine lv rest)).quote = none := by
  obtain ⟨k, rfl⟩ : ∃ k, lv = k + 1 := ⟨lv - 1, by omega⟩
  simp [hLine, lnOf, Ln.quote, Ln.lead, Ln.trimSp, Ln.tsGo, Ln.trimC, List.replicate_succ]
theorem hLine_blank {lv : Nat} (h1 : 1 ≤ lv) (rest : List UInt8) : (lnOf (hLine lv rest)).blank = false := by
  obtain ⟨k, rfl⟩ : ∃ k, lv = k + 1 := ⟨lv - 1, by omega⟩
  simp [hLine, lnOf, Ln.blank, List.replicate_succ, isST]
theorem hLine_str {lv : Nat} (rest : List UInt8) : ({ lnOf (hLine lv rest) with i := lv + 1 } : Ln).str = rest := by
  show List.replicate 0 32 ++ (hLine lv rest).drop (lv + 1) = rest
  have : hLine lv rest = (List.replicate lv 35 ++ [32]) ++ rest := by simp [hLine]
  rw [this, show lv + 1 = (List.replicate lv (35 : UInt8) ++ [32]).length by simp, List.drop_left]; rfl
end Go.Proofs.YtmicoampfglaiaaGreatDoor

/- The loop that looks for inlines, round by round (no brackets, no code). -/
set_option linter.unusedVariables false
namespace Go.Proofs.YtmicoampfglaiaaGreatDoor
open Go.Proofs Go.IntWalk Go.RowKit
variable {σ : Out} {w : World} {L L' : List Chunk} {R : Ending → World → Prop}
/-- The loop is at byte i; what lies ahead of e is among the inlines ts. -/
def AtI (X : XI) (σ : Out) (b : Nat) (p0 : PS) (raw : List UInt8) (L : List Chunk) (i e : Nat) (ts : List Inl) : Prop :=
  ∀ w (p : PS) oq on oc, p.coreS = p0.coreS → p.s = raw → p.em = (e : Int) → IIn σ b p ts [] oq on oc L w → X (some ⟨b, 0, none⟩) (bs raw) oq on oc 0 false (i : Int) w
def LoopX (R : Ending → World → Prop) (X : XI) (b : Nat) (raw : List UInt8) : Prop :=
  ∀ oq on oc (i : Int) w, g_parseState_inline.bl1 R X (some ⟨b, 0, none⟩) (bs raw) oq on oc 0 false i w → X (some ⟨b, 0, none⟩) (bs raw) oq on oc 0 false i w
theorem PS.pz_of {p p0 : PS} (h : p.coreS = p0.coreS) : p.pz = p0.pz := by have := congrArg PS.pz h; exact this
theorem PS.coreS_of {p' p p0 : PS} (h1 : p'.core = p.core) (h2 : p.coreS = p0.coreS) : p'.coreS = p0.coreS := by
  rw [← h2]
  have := congrArg (fun q : PS => ({ q with s := [] } : PS)) h1
  exact this
theorem AtI.plain {X : XI} {b pb i e : Nat} {p0 : PS} {raw : List UInt8} {ts : List Inl} {o : Opt} (hX : LoopX R X b raw) (hi : i < raw.length) (hs : raw.length < 1000000000) (hpz : p0.pz = some ⟨pb, 0, none⟩) (ho : o.at pb ∈ L) (hp : parserOf o raw[i] = .nil) (h93 : raw[i] ≠ 93)
    (h : AtI X σ b p0 raw L (i + 1) e ts) : AtI X σ b p0 raw L i e ts := by
  intro w p oq on oc hc hraw he hI
  refine hX _ _ _ _ _ ?_
  obtain ⟨vs, RM, EM, OM, hS, hIn, hO, hlen, hsat⟩ := hI
  refine inl_dispatch (p := p) hi (by omega) (by rw [PS.pz_of hc, hpz]) (.head _) (.tail _ (List.mem_append_right _ (List.mem_append_right _ (List.mem_append_right _ ho)))) hsat ?_
  rw [hp]
  exact inl_none (inl_k5 hi (by omega) (.inl h93) (h w p oq on oc hc hraw he ⟨vs, RM, EM, OM, hS, hIn, hO, hlen, hsat⟩))
theorem AtI.leaf {X : XI} {b pb i e st en : Nat} {p0 : PS} {raw : List UInt8} {ts : List Inl} {o : Opt} {f : FuncId} {t : Inl} {L0 : List Chunk} {Q : PS → PS → Prop} (hX : LoopX R X b raw) (hi : i < raw.length) (hs : raw.length < 1000000000) (hpz : p0.pz = some ⟨pb, 0, none⟩) (ho : o.at pb ∈ L)
    (hp : parserOf o raw[i] = .fn f) (hL0 : ∀ c ∈ L0, c ∈ L) (hf : ∀ p : PS, p.coreS = p0.coreS → p.s = raw → LeafOK b p raw i (.func (.func f) #[] #[]) L0 (some (t, st, en)) (Q p)) (ht : t.isOpen = false) (hst : st ≤ raw.length) (hn : ts.length < 1000000000)
    (h : AtI X σ b p0 raw L en en (emitM raw e st ts ++ [t])) : AtI X σ b p0 raw L i e ts := by
  intro w p oq on oc hc hraw he hI
  refine hX _ _ _ _ _ ?_
  obtain ⟨vs, RM, EM, OM, hS, hIn, hO, hlen, hsat⟩ := hI
  refine inl_dispatch (p := p) hi (by omega) (by rw [PS.pz_of hc, hpz]) (.head _) (.tail _ (List.mem_append_right _ (List.mem_append_right _ (List.mem_append_right _ ho)))) hsat ?_
  rw [hp]
  dsimp only
  have hleaf := hf p hc hraw
  subst hraw
  refine inl_leaf ⟨vs, RM, EM, OM, hS, hIn, hO, hlen, hsat⟩ hL0 hleaf he hst hs hn (by simp) fun w p2 oq on oc hp2 hem2 _ h2 => ?_
  rw [ht] at h2
  refine h w p2 oq on oc (PS.coreS_of hp2 hc) ?_ hem2 h2
  have := congrArg PS.s hp2; exact this
theorem AtI.decl {X : XI} {b pb i e : Nat} {p0 : PS} {raw : List UInt8} {ts : List Inl} {o : Opt} {f : FuncId} {L0 : List Chunk} (hX : LoopX R X b raw) (hi : i < raw.length) (hs : raw.length < 1000000000) (hpz : p0.pz = some ⟨pb, 0, none⟩) (ho : o.at pb ∈ L)
    (hp : parserOf o raw[i] = .fn f) (h93 : raw[i] ≠ 93) (hL0 : ∀ c ∈ L0, c ∈ L) (hf : ∀ p : PS, p.coreS = p0.coreS → p.s = raw → LeafOK b p raw i (.func (.func f) #[] #[]) L0 none (fun p' => p' = p))
    (h : AtI X σ b p0 raw L (i + 1) e ts) : AtI X σ b p0 raw L i e ts := by
  intro w p oq on oc hc hraw he hI
  refine hX _ _ _ _ _ ?_
  obtain ⟨vs, RM, EM, OM, hS, hIn, hO, hlen, hsat⟩ := hI
  refine inl_dispatch (p := p) hi (by omega) (by rw [PS.pz_of hc, hpz]) (.head _) (.tail _ (List.mem_append_right _ (List.mem_append_right _ (List.mem_append_right _ ho)))) hsat ?_
  rw [hp]
  dsimp only
  have hleaf := hf p hc hraw
  subst hraw
  refine inl_decl ⟨vs, RM, EM, OM, hS, hIn, hO, hlen, hsat⟩ hL0 hleaf fun w p2 _ hp2 h2 => ?_
  subst hp2
  exact inl_k5 hi (by omega) (.inl h93) (h w p2 oq on oc hc rfl he h2)
theorem AtI.fin {X : XI} {b pb e : Nat} {p0 : PS} {raw : List UInt8} {ts ts' : List Inl} {o : Opt} (hX : LoopX R X b raw) (hs : raw.length < 1000000000) (hpz : p0.pz = some ⟨pb, 0, none⟩) (ho : o.at pb ∈ L) (hoff : o.auto = false) (hn : ts.length < 1000000000)
    (hE : EmphOK (emitM raw e raw.length ts) ts') (hpos : ∀ t ∈ ts', ∀ s, t.plain? = some s → s ≠ []) (hb : plen ts' < 1073741824)
    (hR : ∀ w (p' : PS) q n c vs RM EM, p'.coreS = p0.coreS → Sl 1 ty_Inline q n c vs RM → n < 1073741824 → InlsAt (mergeM ts') vs EM → Sat σ w (p'.at b :: (RM ++ (EM ++ L))) → R (.returned (.slice q n c)) w) :
    AtI X σ b p0 raw L raw.length e ts := by
  intro w p oq on oc hc hraw he hI
  refine hX _ _ _ _ _ ?_
  subst hraw
  exact inl_end hI he hs hn (by rw [PS.pz_of hc, hpz]) ho hoff hE hpos hb fun w p2 q n c vs RM EM hp2 hS hn hI h => hR w p2 q n c vs RM EM (PS.coreS_of hp2 hc) hS hn hI h
theorem AtI.star {X : XI} {b pb i j e : Nat} {p0 : PS} {raw : List UInt8} {ts : List Inl} {o : Opt} (hX : LoopX R X b raw) (hij : i < j) (hj : j ≤ raw.length) (hs : raw.length < 1000000000) (hpz : p0.pz = some ⟨pb, 0, none⟩) (ho : o.at pb ∈ L)
    (hrun : ∀ k, i ≤ k → k < j → raw.getD k 0 = 42) (hend : j < raw.length → raw.getD j 0 ≠ 42) (ha : befB raw i < 128) (hb : aftB raw j < 128) (hn : ts.length < 1000000000)
    (h : AtI X σ b p0 raw L j j (emitM raw e i ts ++ [.emphP (sub raw i j) (leftF (befB raw i) (aftB raw j)) (rightF (befB raw i) (aftB raw j)) 0 ((j - i : Nat) : Int)])) : AtI X σ b p0 raw L i e ts := by
  have hc : raw[i]'(by omega) = 42 := by
    have := hrun i (by omega) hij
    rw [List.getD_eq_getElem?_getD, List.getElem?_eq_getElem (show i < raw.length by omega)] at this
    exact this
  refine AtI.leaf (Q := fun p p' => p' = p) hX (by omega) hs hpz ho (f := i_parseEmph) ?_ (L0 := []) (by simp) (fun p hp hr => parseStar_leaf (by omega) hij hj hrun hend ha hb) rfl (by omega) hn h
  rw [hc]; rfl
end Go.Proofs.YtmicoampfglaiaaGreatDoor

set_option linter.unusedVariables false
set_option maxRecDepth 20000
namespace Go.Proofs.YtmicoampfglaiaaGreatDoor
open Go.Proofs
/- 72 pub-paratext/pub/rscmarkdown.parseDot -/
namespace g_parseDot
noncomputable def body : Code := bodyOf Tryz.f72
def k1 (R : EP) (x2 : Int) (x28 : Bool) (w : World) : Prop :=
 br x28
 (box w #[.string (ByteArray.mk #[226, 128, 166])] ty_Plain fun b1 w2 =>
 R (.returned (.tuple #[.iface ty_P_Plain (.pointer (some ⟨b1, 0, none⟩)), .int .i64 x2, .int .i64 (IntKind.i64.wrap (x2 + 3)), .bool true])) w2)
 (R (.returned (.tuple #[.nilIface, .int .i64 0, .int .i64 0, .bool false])) w)

end g_parseDot
def g_parseDot (R : EP) (x0 : OA) (x1 : BA) (x2 : Int) (w : World) : Prop :=
 ((decide ((IntKind.i64.wrap (x2 + 2)) < (x1.size : Int))) = true → 0 ≤ (IntKind.i64.wrap (x2 + 1)) ∧ (IntKind.i64.wrap (x2 + 1)) < (x1.size : Int)) ∧
 (((decide ((IntKind.i64.wrap (x2 + 2)) < (x1.size : Int))) && ((bt x1 (IntKind.i64.wrap (x2 + 1))) == 46)) = true → 0 ≤ (IntKind.i64.wrap (x2 + 2)) ∧ (IntKind.i64.wrap (x2 + 2)) < (x1.size : Int)) ∧
 g_parseDot.k1 R x2 (((decide ((IntKind.i64.wrap (x2 + 2)) < (x1.size : Int))) && ((bt x1 (IntKind.i64.wrap (x2 + 1))) == 46)) && ((bt x1 (IntKind.i64.wrap (x2 + 2))) == 46)) w

noncomputable def g_parseDot.ac (R : EP) : AC :=
  (.seq (.leaf (sel [0] g_parseDot.body)) (.seq (.seq (.leaf (sel [1, 0, 0] g_parseDot.body)) (.mark (leaf [(2, .s (.int .i64)), (28, .s .bool)] (g_parseDot.k1 R)) (.leaf (sel [1, 0, 1] g_parseDot.body)))) (.leaf (sel [1, 1] g_parseDot.body))))
theorem g_parseDot.good (R : EP) : Good P 35 (g_parseDot.ac R) (QF P [.tmp 6, .tmp 7, .tmp 8, .tmp 9] R) :=
  ⟨trivial, ⟨⟨trivial, ⟨trivial, cutE (by intro x2 x28 ρ w; kernel_rfl)⟩⟩, trivial⟩⟩
theorem g_parseDot.eq (R : EP) (x0 : OA) (x1 : BA) (x2 : Int) (w : World) : g_parseDot R x0 x1 x2 w = vcA P 35 (g_parseDot.ac R) (QF P [.tmp 6, .tmp 7, .tmp 8, .tmp 9] R) (fr0 [.pointer x0, .string x1, .int .i64 x2]) w := by kernel_rfl
theorem g_parseDot.sound {R : EP} {x0 : OA} {x1 : ByteArray} {x2 : Int} {w : World} (h : g_parseDot R x0 x1 x2 w) : callE P i_parseDot #[.pointer x0, .string x1, .int .i64 x2] R w :=
  callE_fin (c := g_parseDot.body) Tryz.func72 Tryz.call72 (by kernel_rfl) (by kernel_rfl) (by kernel_rfl) (by kernel_rfl) (by kernel_rfl) (g_parseDot.good R) (g_parseDot.eq R x0 x1 x2 w) h
end Go.Proofs.YtmicoampfglaiaaGreatDoor

/- Smart dots: the inlines of a line of letters, spaces and full stops. -/
set_option linter.unusedVariables false
namespace Go.Proofs.YtmicoampfglaiaaGreatDoor
open Go.Proofs Go.IntWalk Go.RowKit
variable {σ : Out} {w : World} {L L' : List Chunk} {R : Ending → World → Prop}
def dots3 (s : List UInt8) (i : Nat) : Bool := decide (i + 2 < s.length) && (s.getD (i + 1) 0 == 46) && (s.getD (i + 2) 0 == 46)
theorem bt_getD {l : List UInt8} {i : Nat} (d : UInt8) (n : Int) (hd : (d.toNat : Int) = n) : (bt (bs l) (i : Int) == n) = (l.getD i 0 == d) := by
  subst hd
  rw [bs_bt, u8_beq]
theorem parseDot_ok {q : Option Addr} {s : List UInt8} {i : Nat} (hs : s.length < 4611686018427387904) (hi : i < s.length) (h : Sat σ w L)
    (hR : if dots3 s i then ∀ w nb, Sat σ w (plainC nb [226, 128, 166] :: L) → R (.returned (.tuple #[ptrV ty_P_Plain nb, .int .i64 i, .int .i64 ((i + 3 : Nat) : Int), .bool true])) w
      else R (.returned (.tuple #[.nilIface, .int .i64 0, .int .i64 0, .bool false])) w) :
    callE P i_parseDot #[.pointer q, .string (bs s), .int .i64 i] R w := by
  refine g_parseDot.sound ?_
  have e1 : IntKind.i64.wrap ((i : Int) + 1) = ((i + 1 : Nat) : Int) := i64_inc (by omega)
  have e2 : IntKind.i64.wrap ((i : Int) + 2) = ((i + 2 : Nat) : Int) := by simp (disch := omega) only [i64_in]; rfl
  have e3 : IntKind.i64.wrap ((i : Int) + 3) = ((i + 3 : Nat) : Int) := by simp (disch := omega) only [i64_in]; rfl
  have hd : (((decide (((i + 2 : Nat) : Int) < ((bs s).size : Int))) && ((bt (bs s) ((i + 1 : Nat) : Int)) == 46)) && ((bt (bs s) ((i + 2 : Nat) : Int)) == 46)) = dots3 s i := by
    rw [bt_getD 46 46 rfl, bt_getD 46 46 rfl, bs_size]
    unfold dots3
    congr 2
    simp only [decide_eq_decide]
    omega
  unfold g_parseDot
  rw [e1, e2, hd]
  refine ⟨fun h => ?_, fun h => ?_, ?_⟩
  · simp at h; simp; omega
  · simp at h; simp; omega
  · unfold g_parseDot.k1
    rw [e3]
    split at hR
    · rename_i hd
      rw [hd]
      exact Sat.bx h fun nb w h => hR w nb h
    · rename_i hd
      rw [Bool.not_eq_true] at hd
      rw [hd]
      exact hR
def dotRes (s : List UInt8) (i : Nat) : Option (Inl × Nat × Nat) := if dots3 s i then some (.plain [226, 128, 166], i, i + 3) else none
theorem parseDot_leaf {b i : Nat} {p : PS} {s : List UInt8} (hs : s.length < 4611686018427387904) (hi : i < s.length) : LeafOK b p s i (.func (.func i_parseDot) #[] #[]) [] (dotRes s i) (fun p' => p' = p) := by
  intro σ R L w _ h hR
  refine enter_fn ?_
  refine parseDot_ok hs hi h ?_
  unfold dotRes at hR
  split
  · rename_i hd
    rw [if_pos hd] at hR
    exact fun w nb h => hR w p _ _ rfl rfl ⟨nb, [], _, rfl, rfl⟩ h.up1
  · rename_i hd
    rw [if_neg hd] at hR
    exact hR w p _ 0 0 rfl rfl h
/-- Each three full stops, from the left. -/
def ell : List UInt8 → List UInt8
  | [] => []
  | [a] => [a]
  | [a, b] => [a, b]
  | a :: b :: c :: s => if a = 46 ∧ b = 46 ∧ c = 46 then [226, 128, 166] ++ ell s else a :: ell (b :: c :: s)
theorem ell_dots {s : List UInt8} {i : Nat} (hi : i < s.length) (h46 : s[i] = 46) (hd : dots3 s i = true) : ell (s.drop i) = [226, 128, 166] ++ ell (s.drop (i + 3)) := by
  simp only [dots3, Bool.and_eq_true, decide_eq_true_eq] at hd
  obtain ⟨⟨h0, h1⟩, h2⟩ := hd
  rw [List.getD_eq_getElem?_getD, List.getElem?_eq_getElem (by omega)] at h1 h2
  simp at h1 h2
  rw [List.drop_eq_getElem_cons hi, List.drop_eq_getElem_cons (show i + 1 < s.length by omega), List.drop_eq_getElem_cons (show i + 2 < s.length by omega), ell, if_pos ⟨h46, h1, h2⟩]
theorem ell_step {s : List UInt8} {i : Nat} (hi : i < s.length) (h : s[i] = 46 → dots3 s i = false) : ell (s.drop i) = s[i] :: ell (s.drop (i + 1)) := by
  rw [List.drop_eq_getElem_cons hi]
  by_cases h1 : i + 1 < s.length
  · rw [List.drop_eq_getElem_cons h1]
    by_cases h2 : i + 2 < s.length
    · rw [List.drop_eq_getElem_cons h2, ell, if_neg]
      rintro ⟨ha, hb, hc⟩
      have := h ha
      simp [dots3, List.getD_eq_getElem?_getD, h2, h1, hb, hc] at this
    · rw [List.drop_eq_nil_of_le (by omega)]; rfl
  · rw [List.drop_eq_nil_of_le (by omega)]; rfl
def isDotText (s : List UInt8) : Bool := s.all fun c => c == 120 || c == 97 || c == 98 || c == 32 || c == 46
theorem parserOf_dot {o : Opt} {c : UInt8} (hd : o.dot = true) (hc : (c == 120 || c == 97 || c == 98 || c == 32 || c == 46) = true) : (c = 46 ∧ parserOf o c = .fn i_parseDot) ∨ (c ≠ 46 ∧ c ≠ 93 ∧ parserOf o c = .nil) := by
  simp only [Bool.or_eq_true, beq_iff_eq] at hc
  rcases hc with (((rfl | rfl) | rfl) | rfl) | rfl
  all_goals simp [parserOf, hd]
theorem sub_append {s : List UInt8} {e i j : Nat} (h1 : e ≤ i) (h2 : i ≤ j) (h3 : j ≤ s.length) : sub s e i ++ sub s i j = sub s e j := by
  unfold sub
  have e1 : (s.take j).take i = s.take i := by rw [List.take_take, Nat.min_eq_left h2]
  have e2 : (s.take j).drop e = ((s.take j).take i ++ (s.take j).drop i).drop e := by rw [List.take_append_drop]
  rw [e2, List.drop_append_of_le_length (by rw [List.length_take, List.length_take]; omega), e1]
theorem sub_one {s : List UInt8} {i : Nat} (h : i < s.length) : sub s i (i + 1) = [s[i]] := by
  unfold sub
  rw [List.take_succ_eq_append_getElem h, List.drop_append_of_le_length (by rw [List.length_take]; omega), List.drop_eq_nil_of_le (by rw [List.length_take]; omega)]
  rfl
theorem sub_self (s : List UInt8) (i : Nat) : sub s i i = [] := List.drop_eq_nil_of_le (by rw [List.length_take]; omega)
theorem emitM_plain {s : List UInt8} {e i : Nat} {us : List (List UInt8)} (he : e ≤ i) (hi : i ≤ s.length) (hne : ∀ u ∈ us, u ≠ []) :
    ∃ us' : List (List UInt8), emitM s e i (us.map .plain) = us'.map .plain ∧ us'.flatten = us.flatten ++ sub s e i ∧ (∀ u ∈ us', u ≠ []) ∧ us'.length ≤ us.length + 1 := by
  unfold emitM
  split
  · rename_i h
    refine ⟨us ++ [sub s e i], by simp, by simp, ?_, by simp⟩
    intro u hu
    rcases List.mem_append.1 hu with hu | hu
    · exact hne u hu
    · simp at hu; subst hu
      intro h0
      have := sub_length (i := e) hi
      rw [h0] at this; simp at this; omega
  · have : e = i := by omega
    subst this
    exact ⟨us, rfl, by rw [sub_self]; simp, hne, by omega⟩
theorem mergeGo_plain : ∀ (us : List (List UInt8)) (p : List (List UInt8)), mergeGo p (us.map .plain) = flushP (p ++ us)
  | [], p => by simp [mergeGo]
  | u :: us, p => by simp [mergeGo, Inl.plain?, mergeGo_plain us]
theorem plen_plain : ∀ us : List (List UInt8), plen (us.map .plain) = us.flatten.length
  | [] => rfl
  | u :: us => by simp [plen, Inl.plain?, plen_plain us]
theorem ell_length : ∀ s : List UInt8, (ell s).length ≤ s.length
  | [] => by simp [ell]
  | [a] => by simp [ell]
  | [a, b] => by simp [ell]
  | a :: b :: c :: s => by
    have h1 := ell_length s
    have h2 := ell_length (b :: c :: s)
    rw [ell]
    split
    · simp; omega
    · simp at h2 ⊢; omega
theorem inlineDots_ok {b pb : Nat} {p : PS} {o : Opt} {raw : List UInt8} (h : Sat σ w (p.at b :: L)) (hpz : p.pz = some ⟨pb, 0, none⟩) (ho : o.at pb ∈ L) (hoff : o.auto = false) (hdot : o.dot = true) (hl : raw.length < 1000000) (hne : raw ≠ [])
    (htr : trimLR isST raw = raw) (hD : isDotText raw = true)
    (hR : ∀ w (p' : PS) q n c vs RM EM, ({ p' with s := [] } : PS).core = ({ p with s := [] } : PS).core → Sl 1 ty_Inline q n c vs RM → n < 1073741824 → InlsAt [.plain (ell raw)] vs EM → Sat σ w (p'.at b :: (RM ++ (EM ++ L))) → R (.returned (.slice q n c)) w) :
    callE P i_parseState_inline #[.pointer (some ⟨b, 0, none⟩), .string (bs raw)] R w := by
  refine inl_begin h (by omega) fun w h => ?_
  rw [htr] at h ⊢
  intro X hX
  have key : ∀ k i e (us : List (List UInt8)) (p1 : PS) oq on oc w, i + k ≤ raw.length + 2 → raw.length ≤ i + k → i ≤ raw.length → e ≤ i → us.length ≤ e → (∀ u ∈ us, u ≠ []) → ({ p1 with s := [] } : PS).core = ({ p with s := [] } : PS).core → p1.s = raw → p1.em = e →
      us.flatten ++ sub raw e i ++ ell (raw.drop i) = ell raw → IIn σ b p1 (us.map .plain) [] oq on oc L w → X (some ⟨b, 0, none⟩) (bs raw) oq on oc 0 false (i : Int) w := by
    intro k
    induction k using Nat.strongRecOn with
    | ind k ih =>
      intro i e us p1 oq on oc w hik hik2 hil he hul hune hc hs hem hel h
      have hpz1 : p1.pz = some ⟨pb, 0, none⟩ := by have := congrArg PS.pz hc; rw [← hpz]; exact this
      refine hX _ _ _ _ _ _ _ _ _ ?_
      rcases Nat.lt_or_ge i raw.length with hlt | hge
      · obtain ⟨vs, RM, EM, OM, hS, hI, hO, hlen, hsat⟩ := h
        have on0 : on = 0 := by have := hO.1; simp at this; omega
        have h : IIn σ b p1 (us.map .plain) [] oq on oc L w := ⟨vs, RM, EM, OM, hS, hI, hO, hlen, hsat⟩
        refine inl_dispatch (p := p1) hlt (by omega) hpz1 (.head _) (.tail _ (List.mem_append_right _ (List.mem_append_right _ (List.mem_append_right _ ho)))) hsat ?_
        have hch : (raw[i] == 120 || raw[i] == 97 || raw[i] == 98 || raw[i] == 32 || raw[i] == 46) = true := (List.all_eq_true.1 hD) raw[i] (List.getElem_mem hlt)
        have next : ∀ (p2 : PS) w, p2 = p1 → IIn σ b p2 (us.map .plain) [] oq on oc L w → (raw[i] = 46 → dots3 raw i = false) → X (some ⟨b, 0, none⟩) (bs raw) oq on oc 0 false ((i + 1 : Nat) : Int) w := by
          intro p2 w hp2 h2 hnd
          rw [hp2] at h2
          refine ih (k - 1) (by omega) (i + 1) e us p1 oq on oc w (by omega) (by omega) (by omega) (by omega) hul hune hc hs hem ?_ h2
          rw [← hel, ell_step hlt hnd, ← sub_append (show e ≤ i from he) (show i ≤ i + 1 by omega) (by omega), sub_one hlt]
          simp
        rcases parserOf_dot hdot hch with ⟨h46, hp⟩ | ⟨h46, h93, hp⟩
        · rw [hp]
          dsimp only
          have hleaf := parseDot_leaf (b := b) (p := p1) (show raw.length < 4611686018427387904 by omega) hlt
          rw [← hs] at hleaf
          cases hd : dots3 raw i with
          | true =>
            have hres : dotRes p1.s i = some (.plain [226, 128, 166], i, i + 3) := by unfold dotRes; rw [hs, hd]; rfl
            rw [hres] at hleaf
            have hi3 : i + 3 ≤ raw.length := by simp [dots3] at hd; omega
            rw [← hs]
            refine inl_leaf h (by simp) hleaf hem (by rw [hs]; omega) (by rw [hs]; omega) (by simp; omega) (by simp) fun w p2 oq on oc hp2 hem2 _ h2 => ?_
            obtain ⟨us', hu1, hu2, hu3, hu4⟩ := emitM_plain (s := p1.s) he (by rw [hs]; omega) hune
            rw [hs]
            refine ih (k - 3) (by omega) (i + 3) (i + 3) (us' ++ [[226, 128, 166]]) p2 oq on oc w (by omega) (by omega) hi3 (Nat.le_refl _) (by simp; omega) ?_ ?_ ?_ hem2 ?_ ?_
            · intro u hu
              rcases List.mem_append.1 hu with hu | hu
              · exact hu3 u hu
              · simp at hu; subst hu; simp
            · rw [← hc]
              have := congrArg (fun q : PS => ({ q with s := [] } : PS)) hp2
              exact this
            · have := congrArg PS.s hp2; rw [← hs]; exact this
            · rw [sub_self, ← hel, ell_dots hlt h46 hd]
              rw [List.flatten_append, hu2, hs]
              simp
            · rw [hu1] at h2
              simpa [Inl.isOpen] using h2
          | false =>
            have hres : dotRes p1.s i = none := by unfold dotRes; rw [hs, hd]; rfl
            rw [hres] at hleaf
            rw [← hs]
            refine inl_decl h (by simp) hleaf fun w p2 _ hp2 h2 => ?_
            rw [hs]
            exact inl_k5 hlt (by omega) (.inr on0) (next p2 w hp2 h2 fun _ => hd)
        · rw [hp]
          exact inl_none (inl_k5 hlt (by omega) (.inr on0) (next p1 w rfl h fun h => absurd h h46))
      · have hi : i = raw.length := by omega
        obtain ⟨us', hu1, hu2, hu3, hu4⟩ := emitM_plain (s := p1.s) (e := e) (i := p1.s.length) (by rw [hs]; omega) (Nat.le_refl _) hune
        have hfl : us'.flatten = ell raw := by
          rw [hu2, hs, ← hel, hi, List.drop_length]; simp [ell]
        have hus : us' ≠ [] := by
          intro h0
          rw [h0] at hfl
          have h1 : ell raw = [] := by rw [← hfl]; rfl
          match raw, hne, h1 with
          | [a], _, h1 => simp [ell] at h1
          | [a, b], _, h1 => simp [ell] at h1
          | a :: b :: c :: s, _, h1 => rw [ell] at h1; split at h1 <;> simp at h1
        have := inl_end (R := R) (X := X) (lo := 0) (bk := false) (ts' := us'.map .plain) h hem (by rw [hs]; omega) (by simp; omega) hpz1 ho hoff (by rw [hu1]; exact emphOK_none (by intro t ht; obtain ⟨u, _, rfl⟩ := List.mem_map.1 ht; exact ⟨by simp only [Inl.ty]; decide, by simp only [Inl.ty]; decide⟩))
          (by intro t ht s hs'; obtain ⟨u, hu, rfl⟩ := List.mem_map.1 ht; simp only [Inl.plain?, Option.some.injEq] at hs'; subst hs'; exact hu3 u hu)
          (by rw [plen_plain, hfl]; have := ell_length raw; omega)
          (fun w p2 q n c vs RM EM hp2 hS hn hI h => hR w p2 q n c vs RM EM (by rw [← hc]; have := congrArg (fun q : PS => ({ q with s := [] } : PS)) hp2; exact this) hS hn (by
            have e : mergeM (us'.map .plain) = [.plain (ell raw)] := by rw [mergeM, mergeGo_plain, List.nil_append, flushP, if_neg hus, hfl]
            rw [← e]; exact hI) h)
        rw [hs] at this
        rw [hi]
        exact this
  have := key raw.length 0 0 [] { p with s := raw, em := 0, lq := none, ln := 0, lc := 0 } none 0 0 w (by omega) (by omega) (by omega) (Nat.le_refl _) (by simp) (by simp) rfl rfl rfl (by rw [sub_self]; simp) h
  exact this
end Go.Proofs.YtmicoampfglaiaaGreatDoor

set_option linter.unusedVariables false
set_option maxRecDepth 20000
namespace Go.Proofs.YtmicoampfglaiaaGreatDoor
open Go.Proofs
/- 309 (*pub-paratext/pub/rscmarkdown.Emph).PrintHTML -/
namespace g_Emph_PrintHTML
noncomputable def body : Code := bodyOf Tryz.f309
def bl1 (R : EP) (Xa : OA → OA → Nat → Nat → Int → Int → WP) (x1 : OA) (x11q : OA) (x11n : Nat) (x11c : Nat) (x12 : Int) (x13 : Int) (w : World) : Prop :=
 br (decide (x13 < x12))
 (0 ≤ x13 ∧ x13 < (x11n : Int) ∧
 nilP x11q fun a5 =>
 ∃ (v6 : Value), w.cell? (a5.add (Int.toNat x13 * 1)) = some v6 ∧
 enterE P (callMethod v6 "PrintHTML" #[.pointer x1]) (fun e w8 => e = .returned (.tuple #[]) ∧
 Xa x1 x11q x11n x11c x12 (IntKind.i64.wrap (x13 + 1)) w8) w)
 (callE P i_bytes_Buffer_WriteString #[.pointer x1, .string (ByteArray.mk #[60, 47, 101, 109, 62])] (fun e w10 => ∃ (r9_0 : Int), ∃ (r9_1 : Value), e = .returned (.tuple #[.int .i64 r9_0, r9_1]) ∧
 R (.returned (.tuple #[])) w10) w)
def l1 (R : EP) (x1 : OA) (x11q : OA) (x11n : Nat) (x11c : Nat) (x12 : Int) (x13 : Int) (w : World) : Prop :=
  ∀ X : OA → OA → Nat → Nat → Int → Int → WP, (∀ x1 x11q x11n x11c x12 x13 w, bl1 R X x1 x11q x11n x11c x12 x13 w → X x1 x11q x11n x11c x12 x13 w) → X x1 x11q x11n x11c x12 x13 w

noncomputable def al1 (R : EP) (Xa : OA → OA → Nat → Nat → Int → Int → WP) : AC :=
  (.leaf (sel [1, 0, 1, 0, 0] body))
end g_Emph_PrintHTML
def g_Emph_PrintHTML (R : EP) (x0 : OA) (x1 : OA) (w : World) : Prop :=
 callE P i_bytes_Buffer_WriteString #[.pointer x1, .string (ByteArray.mk #[60, 101, 109, 62])] (fun e w2 => ∃ (r1_0 : Int), ∃ (r1_1 : Value), e = .returned (.tuple #[.int .i64 r1_0, r1_1]) ∧
 nilP x0 fun a3 =>
 ∃ (v4q : OA), ∃ (v4n : Nat), ∃ (v4c : Nat), w2.cell? (a3.add 1) = some (.slice v4q v4n v4c) ∧
 g_Emph_PrintHTML.l1 R x1 v4q v4n v4c (v4n : Int) 0 w2) w

noncomputable def g_Emph_PrintHTML.ac (R : EP) : AC :=
  (.seq (.leaf (sel [0] g_Emph_PrintHTML.body)) (.seq (.seq (.leaf (sel [1, 0, 0] g_Emph_PrintHTML.body)) (.block 0 (.loop (leaf [(1, .s .ptr), (11, .s .slice), (12, .s (.int .i64)), (13, .s (.int .i64))] (g_Emph_PrintHTML.l1 R)) (sel [1, 0, 1, 0, 0] g_Emph_PrintHTML.body)))) (.leaf (sel [1, 1] g_Emph_PrintHTML.body))))
theorem g_Emph_PrintHTML.good (R : EP) : Good P 23 (g_Emph_PrintHTML.ac R) (QF P [] R) :=
  ⟨trivial, ⟨⟨trivial, (loopG (g_Emph_PrintHTML.al1 R) (g_Emph_PrintHTML.bl1 R) (fun _ => by kernel_rfl) (fun Xa => trivial) (fun Xa => by intro x1 x11q x11n x11c x12 x13 ρ w; kernel_rfl) (fun X h _ _ _ _ _ _ _ g => g X h))⟩, trivial⟩⟩
theorem g_Emph_PrintHTML.eq (R : EP) (x0 : OA) (x1 : OA) (w : World) : g_Emph_PrintHTML R x0 x1 w = vcA P 23 (g_Emph_PrintHTML.ac R) (QF P [] R) (fr0 [.pointer x0, .pointer x1]) w := by kernel_rfl
theorem g_Emph_PrintHTML.sound {R : EP} {x0 : OA} {x1 : OA} {w : World} (h : g_Emph_PrintHTML R x0 x1 w) : callE P i_Emph_PrintHTML #[.pointer x0, .pointer x1] R w :=
  callE_fin (c := g_Emph_PrintHTML.body) Tryz.func309 Tryz.call309 (by kernel_rfl) (by kernel_rfl) (by kernel_rfl) (by kernel_rfl) (by kernel_rfl) (g_Emph_PrintHTML.good R) (g_Emph_PrintHTML.eq R x0 x1 w) h
/- 317 (*pub-paratext/pub/rscmarkdown.Strong).PrintHTML -/
namespace g_Strong_PrintHTML
noncomputable def body : Code := bodyOf Tryz.f317
def bl1 (R : EP) (Xa : OA → OA → Nat → Nat → Int → Int → WP) (x1 : OA) (x11q : OA) (x11n : Nat) (x11c : Nat) (x12 : Int) (x13 : Int) (w : World) : Prop :=
 br (decide (x13 < x12))
 (0 ≤ x13 ∧ x13 < (x11n : Int) ∧
 nilP x11q fun a5 =>
 ∃ (v6 : Value), w.cell? (a5.add (Int.toNat x13 * 1)) = some v6 ∧
 enterE P (callMethod v6 "PrintHTML" #[.pointer x1]) (fun e w8 => e = .returned (.tuple #[]) ∧
 Xa x1 x11q x11n x11c x12 (IntKind.i64.wrap (x13 + 1)) w8) w)
 (callE P i_bytes_Buffer_WriteString #[.pointer x1, .string (ByteArray.mk #[60, 47, 115, 116, 114, 111, 110, 103, 62])] (fun e w10 => ∃ (r9_0 : Int), ∃ (r9_1 : Value), e = .returned (.tuple #[.int .i64 r9_0, r9_1]) ∧
 R (.returned (.tuple #[])) w10) w)
def l1 (R : EP) (x1 : OA) (x11q : OA) (x11n : Nat) (x11c : Nat) (x12 : Int) (x13 : Int) (w : World) : Prop :=
  ∀ X : OA → OA → Nat → Nat → Int → Int → WP, (∀ x1 x11q x11n x11c x12 x13 w, bl1 R X x1 x11q x11n x11c x12 x13 w → X x1 x11q x11n x11c x12 x13 w) → X x1 x11q x11n x11c x12 x13 w

noncomputable def al1 (R : EP) (Xa : OA → OA → Nat → Nat → Int → Int → WP) : AC :=
  (.leaf (sel [1, 0, 1, 0, 0] body))
end g_Strong_PrintHTML
def g_Strong_PrintHTML (R : EP) (x0 : OA) (x1 : OA) (w : World) : Prop :=
 callE P i_bytes_Buffer_WriteString #[.pointer x1, .string (ByteArray.mk #[60, 115, 116, 114, 111, 110, 103, 62])] (fun e w2 => ∃ (r1_0 : Int), ∃ (r1_1 : Value), e = .returned (.tuple #[.int .i64 r1_0, r1_1]) ∧
 nilP x0 fun a3 =>
 ∃ (v4q : OA), ∃ (v4n : Nat), ∃ (v4c : Nat), w2.cell? (a3.add 1) = some (.slice v4q v4n v4c) ∧
 g_Strong_PrintHTML.l1 R x1 v4q v4n v4c (v4n : Int) 0 w2) w

noncomputable def g_Strong_PrintHTML.ac (R : EP) : AC :=
  (.seq (.leaf (sel [0] g_Strong_PrintHTML.body)) (.seq (.seq (.leaf (sel [1, 0, 0] g_Strong_PrintHTML.body)) (.block 0 (.loop (leaf [(1, .s .ptr), (11, .s .slice), (12, .s (.int .i64)), (13, .s (.int .i64))] (g_Strong_PrintHTML.l1 R)) (sel [1, 0, 1, 0, 0] g_Strong_PrintHTML.body)))) (.leaf (sel [1, 1] g_Strong_PrintHTML.body))))
theorem g_Strong_PrintHTML.good (R : EP) : Good P 23 (g_Strong_PrintHTML.ac R) (QF P [] R) :=
  ⟨trivial, ⟨⟨trivial, (loopG (g_Strong_PrintHTML.al1 R) (g_Strong_PrintHTML.bl1 R) (fun _ => by kernel_rfl) (fun Xa => trivial) (fun Xa => by intro x1 x11q x11n x11c x12 x13 ρ w; kernel_rfl) (fun X h _ _ _ _ _ _ _ g => g X h))⟩, trivial⟩⟩
theorem g_Strong_PrintHTML.eq (R : EP) (x0 : OA) (x1 : OA) (w : World) : g_Strong_PrintHTML R x0 x1 w = vcA P 23 (g_Strong_PrintHTML.ac R) (QF P [] R) (fr0 [.pointer x0, .pointer x1]) w := by kernel_rfl
theorem g_Strong_PrintHTML.sound {R : EP} {x0 : OA} {x1 : OA} {w : World} (h : g_Strong_PrintHTML R x0 x1 w) : callE P i_Strong_PrintHTML #[.pointer x0, .pointer x1] R w :=
  callE_fin (c := g_Strong_PrintHTML.body) Tryz.func317 Tryz.call317 (by kernel_rfl) (by kernel_rfl) (by kernel_rfl) (by kernel_rfl) (by kernel_rfl) (g_Strong_PrintHTML.good R) (g_Strong_PrintHTML.eq R x0 x1 w) h
/- 337 (*pub-paratext/pub/rscmarkdown.AutoLink).PrintHTML -/
namespace g_AutoLink_PrintHTML
noncomputable def body : Code := bodyOf Tryz.f337
end g_AutoLink_PrintHTML
def g_AutoLink_PrintHTML (R : EP) (x0 : OA) (x1 : OA) (w : World) : Prop :=
 tk w fun w1 =>
 nilP x0 fun a2 =>
 nilP x0 fun a3 =>
 ∃ (v4 : BA), w1.cell? (a2.add 1) = some (.string v4) ∧
 ∃ (v5 : BA), w1.cell? a3 = some (.string v5) ∧
 callE P i_htmlLinkEscaper #[] (fun e w7 => ∃ (r6q : OA), ∃ (r6n : Nat), ∃ (r6c : Nat), e = .returned (.slice r6q r6n r6c) ∧
 SameC w1 w7 (a3) 1 ∧
 SameC w1 w7 (a2.add 1) 1 ∧
 callE P i_zzPairs_Replace #[.slice r6q r6n r6c, .string v4] (fun e w9 => ∃ (r8 : BA), e = .returned (.string r8) ∧
 SameC w7 w9 (a3) 1 ∧
 (((ByteArray.mk #[60, 97, 32, 104, 114, 101, 102, 61, 34]).size + r8.size : Nat) : Int) ≤ IntKind.i64.max ∧
 ((((ByteArray.mk #[60, 97, 32, 104, 114, 101, 102, 61, 34]) ++ r8).size + (ByteArray.mk #[34, 62]).size : Nat) : Int) ≤ IntKind.i64.max ∧
 callE P i_htmlEscaper #[] (fun e w11 => ∃ (r10q : OA), ∃ (r10n : Nat), ∃ (r10c : Nat), e = .returned (.slice r10q r10n r10c) ∧
 SameC w9 w11 (a3) 1 ∧
 callE P i_zzPairs_Replace #[.slice r10q r10n r10c, .string v5] (fun e w13 => ∃ (r12 : BA), e = .returned (.string r12) ∧
 (((((ByteArray.mk #[60, 97, 32, 104, 114, 101, 102, 61, 34]) ++ r8) ++ (ByteArray.mk #[34, 62])).size + r12.size : Nat) : Int) ≤ IntKind.i64.max ∧
 ((((((ByteArray.mk #[60, 97, 32, 104, 114, 101, 102, 61, 34]) ++ r8) ++ (ByteArray.mk #[34, 62])) ++ r12).size + (ByteArray.mk #[60, 47, 97, 62]).size : Nat) : Int) ≤ IntKind.i64.max ∧
 callE P i_bytes_Buffer_WriteString #[.pointer x1, .string (((((ByteArray.mk #[60, 97, 32, 104, 114, 101, 102, 61, 34]) ++ r8) ++ (ByteArray.mk #[34, 62])) ++ r12) ++ (ByteArray.mk #[60, 47, 97, 62]))] (fun e w15 => ∃ (r14_0 : Int), ∃ (r14_1 : Value), e = .returned (.tuple #[.int .i64 r14_0, r14_1]) ∧
 R (.returned (.tuple #[])) w15) w13) w11) w9) w7) w1

noncomputable def g_AutoLink_PrintHTML.ac (R : EP) : AC :=
  (.draw (.pure 0 (.pure 2 (.pure 3 (.pure 4 (.pure 10 (.pure 11 (.pure 12 (.load 5 (.load 13 (.one 1 (.one 6 (.pure 7 (.pure 8 (.one 9 (.one 14 (.pure 15 (.pure 16 (.one 17 .done)))))))))))))))))) (sel [] g_AutoLink_PrintHTML.body))
theorem g_AutoLink_PrintHTML.good (R : EP) : Good P 22 (g_AutoLink_PrintHTML.ac R) (QF P [] R) :=
  ⟨by kernel_rfl, by kernel_rfl, fun _ _ _ h => h⟩
theorem g_AutoLink_PrintHTML.eq (R : EP) (x0 : OA) (x1 : OA) (w : World) : g_AutoLink_PrintHTML R x0 x1 w = vcA P 22 (g_AutoLink_PrintHTML.ac R) (QF P [] R) (fr0 [.pointer x0, .pointer x1]) w := by kernel_rfl
theorem g_AutoLink_PrintHTML.sound {R : EP} {x0 : OA} {x1 : OA} {w : World} (h : g_AutoLink_PrintHTML R x0 x1 w) : callE P i_AutoLink_PrintHTML #[.pointer x0, .pointer x1] R w :=
  callE_fin (c := g_AutoLink_PrintHTML.body) Tryz.func337 Tryz.call337 (by kernel_rfl) (by kernel_rfl) (by kernel_rfl) (by kernel_rfl) (by kernel_rfl) (g_AutoLink_PrintHTML.good R) (g_AutoLink_PrintHTML.eq R x0 x1 w) h
/- 293 (*pub-paratext/pub/rscmarkdown.HardBreak).PrintHTML -/
namespace g_HardBreak_PrintHTML
noncomputable def body : Code := bodyOf Tryz.f293
end g_HardBreak_PrintHTML
def g_HardBreak_PrintHTML (R : EP) (x0 : OA) (x1 : OA) (w : World) : Prop :=
 callE P i_bytes_Buffer_WriteString #[.pointer x1, .string (ByteArray.mk #[60, 98, 114, 32, 47, 62, 10])] (fun e w2 => ∃ (r1_0 : Int), ∃ (r1_1 : Value), e = .returned (.tuple #[.int .i64 r1_0, r1_1]) ∧
 R (.returned (.tuple #[])) w2) w

noncomputable def g_HardBreak_PrintHTML.ac (R : EP) : AC :=
  (.leaf (sel [] g_HardBreak_PrintHTML.body))
theorem g_HardBreak_PrintHTML.good (R : EP) : Good P 6 (g_HardBreak_PrintHTML.ac R) (QF P [] R) :=
  trivial
theorem g_HardBreak_PrintHTML.eq (R : EP) (x0 : OA) (x1 : OA) (w : World) : g_HardBreak_PrintHTML R x0 x1 w = vcA P 6 (g_HardBreak_PrintHTML.ac R) (QF P [] R) (fr0 [.pointer x0, .pointer x1]) w := by kernel_rfl
theorem g_HardBreak_PrintHTML.sound {R : EP} {x0 : OA} {x1 : OA} {w : World} (h : g_HardBreak_PrintHTML R x0 x1 w) : callE P i_HardBreak_PrintHTML #[.pointer x0, .pointer x1] R w :=
  callE_fin (c := g_HardBreak_PrintHTML.body) Tryz.func293 Tryz.call293 (by kernel_rfl) (by kernel_rfl) (by kernel_rfl) (by kernel_rfl) (by kernel_rfl) (g_HardBreak_PrintHTML.good R) (g_HardBreak_PrintHTML.eq R x0 x1 w) h
/- 260 (*pub-paratext/pub/rscmarkdown.Link).PrintHTML -/
namespace g_Link_PrintHTML
noncomputable def body : Code := bodyOf Tryz.f260
def bl1 (R : EP) (Xa : OA → OA → Nat → Nat → Int → Int → WP) (x1 : OA) (x36q : OA) (x36n : Nat) (x36c : Nat) (x37 : Int) (x38 : Int) (w : World) : Prop :=
 br (decide (x38 < x37))
 (0 ≤ x38 ∧ x38 < (x36n : Int) ∧
 nilP x36q fun a25 =>
 ∃ (v26 : Value), w.cell? (a25.add (Int.toNat x38 * 1)) = some v26 ∧
 enterE P (callMethod v26 "PrintHTML" #[.pointer x1]) (fun e w28 => e = .returned (.tuple #[]) ∧
 Xa x1 x36q x36n x36c x37 (IntKind.i64.wrap (x38 + 1)) w28) w)
 (callE P i_bytes_Buffer_WriteString #[.pointer x1, .string (ByteArray.mk #[60, 47, 97, 62])] (fun e w30 => ∃ (r29_0 : Int), ∃ (r29_1 : Value), e = .returned (.tuple #[.int .i64 r29_0, r29_1]) ∧
 R (.returned (.tuple #[])) w30) w)
def l1 (R : EP) (x1 : OA) (x36q : OA) (x36n : Nat) (x36c : Nat) (x37 : Int) (x38 : Int) (w : World) : Prop :=
  ∀ X : OA → OA → Nat → Nat → Int → Int → WP, (∀ x1 x36q x36n x36c x37 x38 w, bl1 R X x1 x36q x36n x36c x37 x38 w → X x1 x36q x36n x36c x37 x38 w) → X x1 x36q x36n x36c x37 x38 w

noncomputable def al1 (R : EP) (Xa : OA → OA → Nat → Nat → Int → Int → WP) : AC :=
  (.leaf (sel [1, 1, 1, 0, 1, 0, 0] body))
def k1 (R : EP) (x0 : OA) (x1 : OA) (w : World) : Prop :=
 callE P i_bytes_Buffer_WriteString #[.pointer x1, .string (ByteArray.mk #[62])] (fun e w22 => ∃ (r21_0 : Int), ∃ (r21_1 : Value), e = .returned (.tuple #[.int .i64 r21_0, r21_1]) ∧
 nilP x0 fun a23 =>
 ∃ (v24q : OA), ∃ (v24n : Nat), ∃ (v24c : Nat), w22.cell? a23 = some (.slice v24q v24n v24c) ∧
 l1 R x1 v24q v24n v24c (v24n : Int) 0 w22) w

end g_Link_PrintHTML
def g_Link_PrintHTML (R : EP) (x0 : OA) (x1 : OA) (w : World) : Prop :=
 tk w fun w1 =>
 nilP x0 fun a2 =>
 ∃ (v3 : BA), w1.cell? (a2.add 1) = some (.string v3) ∧
 callE P i_htmlLinkEscaper #[] (fun e w5 => ∃ (r4q : OA), ∃ (r4n : Nat), ∃ (r4c : Nat), e = .returned (.slice r4q r4n r4c) ∧
 SameC w1 w5 (a2.add 1) 1 ∧
 callE P i_zzPairs_Replace #[.slice r4q r4n r4c, .string v3] (fun e w7 => ∃ (r6 : BA), e = .returned (.string r6) ∧
 (((ByteArray.mk #[60, 97, 32, 104, 114, 101, 102, 61, 34]).size + r6.size : Nat) : Int) ≤ IntKind.i64.max ∧
 ((((ByteArray.mk #[60, 97, 32, 104, 114, 101, 102, 61, 34]) ++ r6).size + (ByteArray.mk #[34]).size : Nat) : Int) ≤ IntKind.i64.max ∧
 callE P i_bytes_Buffer_WriteString #[.pointer x1, .string (((ByteArray.mk #[60, 97, 32, 104, 114, 101, 102, 61, 34]) ++ r6) ++ (ByteArray.mk #[34]))] (fun e w9 => ∃ (r8_0 : Int), ∃ (r8_1 : Value), e = .returned (.tuple #[.int .i64 r8_0, r8_1]) ∧
 nilP x0 fun a10 =>
 ∃ (v11 : BA), w9.cell? (a10.add 2) = some (.string v11) ∧
 br (!(v11.toList == (ByteArray.mk #[]).toList))
 (tk w9 fun w12 =>
 nilP x0 fun a13 =>
 ∃ (v14 : BA), w12.cell? (a13.add 2) = some (.string v14) ∧
 callE P i_htmlQuoteEscaper #[] (fun e w16 => ∃ (r15q : OA), ∃ (r15n : Nat), ∃ (r15c : Nat), e = .returned (.slice r15q r15n r15c) ∧
 SameC w12 w16 (a13.add 2) 1 ∧
 callE P i_zzPairs_Replace #[.slice r15q r15n r15c, .string v14] (fun e w18 => ∃ (r17 : BA), e = .returned (.string r17) ∧
 (((ByteArray.mk #[32, 116, 105, 116, 108, 101, 61, 34]).size + r17.size : Nat) : Int) ≤ IntKind.i64.max ∧
 ((((ByteArray.mk #[32, 116, 105, 116, 108, 101, 61, 34]) ++ r17).size + (ByteArray.mk #[34]).size : Nat) : Int) ≤ IntKind.i64.max ∧
 callE P i_bytes_Buffer_WriteString #[.pointer x1, .string (((ByteArray.mk #[32, 116, 105, 116, 108, 101, 61, 34]) ++ r17) ++ (ByteArray.mk #[34]))] (fun e w20 => ∃ (r19_0 : Int), ∃ (r19_1 : Value), e = .returned (.tuple #[.int .i64 r19_0, r19_1]) ∧
 g_Link_PrintHTML.k1 R x0 x1 w20) w18) w16) w12)
 (g_Link_PrintHTML.k1 R x0 x1 w9)) w7) w5) w1

noncomputable def g_Link_PrintHTML.ac (R : EP) : AC :=
  (.seq (.draw (.pure 0 (.pure 2 (.pure 3 (.pure 4 (.load 5 (.one 1 (.one 6 (.pure 7 (.pure 8 (.one 9 .done)))))))))) (sel [0] g_Link_PrintHTML.body)) (.seq (.seq (.leaf (sel [1, 0, 0] g_Link_PrintHTML.body)) (.cond 20 (.draw (.pure 0 (.pure 2 (.pure 3 (.pure 4 (.load 5 (.one 1 (.one 6 (.pure 7 (.pure 8 (.one 9 .done)))))))))) (sel [1, 0, 1, 0] g_Link_PrintHTML.body)) (.leaf (sel [1, 0, 1, 1] g_Link_PrintHTML.body)))) (.mark (leaf [(0, .s .ptr), (1, .s .ptr)] (g_Link_PrintHTML.k1 R)) (.seq (.leaf (sel [1, 1, 0] g_Link_PrintHTML.body)) (.seq (.seq (.leaf (sel [1, 1, 1, 0, 0] g_Link_PrintHTML.body)) (.block 0 (.loop (leaf [(1, .s .ptr), (36, .s .slice), (37, .s (.int .i64)), (38, .s (.int .i64))] (g_Link_PrintHTML.l1 R)) (sel [1, 1, 1, 0, 1, 0, 0] g_Link_PrintHTML.body)))) (.leaf (sel [1, 1, 1, 1] g_Link_PrintHTML.body)))))))
theorem g_Link_PrintHTML.good (R : EP) : Good P 48 (g_Link_PrintHTML.ac R) (QF P [] R) :=
  ⟨⟨by kernel_rfl, by kernel_rfl, fun _ _ _ h => h⟩, ⟨⟨trivial, ⟨⟨by kernel_rfl, by kernel_rfl, fun _ _ _ h => h⟩, trivial⟩⟩, ⟨⟨trivial, ⟨⟨trivial, (loopG (g_Link_PrintHTML.al1 R) (g_Link_PrintHTML.bl1 R) (fun _ => by kernel_rfl) (fun Xa => trivial) (fun Xa => by intro x1 x36q x36n x36c x37 x38 ρ w; kernel_rfl) (fun X h _ _ _ _ _ _ _ g => g X h))⟩, trivial⟩⟩, cutE (by intro x0 x1 ρ w; kernel_rfl)⟩⟩⟩
theorem g_Link_PrintHTML.eq (R : EP) (x0 : OA) (x1 : OA) (w : World) : g_Link_PrintHTML R x0 x1 w = vcA P 48 (g_Link_PrintHTML.ac R) (QF P [] R) (fr0 [.pointer x0, .pointer x1]) w := by kernel_rfl
theorem g_Link_PrintHTML.sound {R : EP} {x0 : OA} {x1 : OA} {w : World} (h : g_Link_PrintHTML R x0 x1 w) : callE P i_Link_PrintHTML #[.pointer x0, .pointer x1] R w :=
  callE_fin (c := g_Link_PrintHTML.body) Tryz.func260 Tryz.call260 (by kernel_rfl) (by kernel_rfl) (by kernel_rfl) (by kernel_rfl) (by kernel_rfl) (g_Link_PrintHTML.good R) (g_Link_PrintHTML.eq R x0 x1 w) h
/- 301 (*pub-paratext/pub/rscmarkdown.SoftBreak).PrintHTML -/
namespace g_SoftBreak_PrintHTML
noncomputable def body : Code := bodyOf Tryz.f301
end g_SoftBreak_PrintHTML
def g_SoftBreak_PrintHTML (R : EP) (x0 : OA) (x1 : OA) (w : World) : Prop :=
 callE P i_bytes_Buffer_WriteString #[.pointer x1, .string (ByteArray.mk #[10])] (fun e w2 => ∃ (r1_0 : Int), ∃ (r1_1 : Value), e = .returned (.tuple #[.int .i64 r1_0, r1_1]) ∧
 R (.returned (.tuple #[])) w2) w

noncomputable def g_SoftBreak_PrintHTML.ac (R : EP) : AC :=
  (.leaf (sel [] g_SoftBreak_PrintHTML.body))
theorem g_SoftBreak_PrintHTML.good (R : EP) : Good P 6 (g_SoftBreak_PrintHTML.ac R) (QF P [] R) :=
  trivial
theorem g_SoftBreak_PrintHTML.eq (R : EP) (x0 : OA) (x1 : OA) (w : World) : g_SoftBreak_PrintHTML R x0 x1 w = vcA P 6 (g_SoftBreak_PrintHTML.ac R) (QF P [] R) (fr0 [.pointer x0, .pointer x1]) w := by kernel_rfl
theorem g_SoftBreak_PrintHTML.sound {R : EP} {x0 : OA} {x1 : OA} {w : World} (h : g_SoftBreak_PrintHTML R x0 x1 w) : callE P i_SoftBreak_PrintHTML #[.pointer x0, .pointer x1] R w :=
  callE_fin (c := g_SoftBreak_PrintHTML.body) Tryz.func301 Tryz.call301 (by kernel_rfl) (by kernel_rfl) (by kernel_rfl) (by kernel_rfl) (by kernel_rfl) (g_SoftBreak_PrintHTML.good R) (g_SoftBreak_PrintHTML.eq R x0 x1 w) h
end Go.Proofs.YtmicoampfglaiaaGreatDoor

/- Leaves and links print themselves. -/
set_option linter.unusedVariables false
namespace Go.Proofs.YtmicoampfglaiaaGreatDoor
open Go.Proofs Go.IntWalk Go.RowKit
variable {σ : Out} {w : World} {L L' : List Chunk} {R : Ending → World → Prop}
/-- A method of a struct that is embedded first, met through a pointer. -/
def methB1 (P : Program) (t : TypeId) (name : String) (f : FuncId) : Bool :=
  match P.info? t with
  | some i => match i.methods.find? (·.name == name) with
    | some m => match m.path.toList with
      | [s] => s.deref && (match P.underlying s.struct with
        | some (.struct fields) => match fields[s.index]? with
          | some fd => Nat.beq fd.offset 0 && (match P.info? fd.type with
            | some ti => !(Nat.beq ti.size 0) && (match P.underlying fd.type with
              | some (.struct _) => (match m.func with | some (g, true) => Nat.beq g f | _ => false)
              | _ => false)
            | none => false)
          | none => false
        | _ => false)
      | _ => false
    | none => false
  | none => false
theorem methB1_run {P : Program} {t : TypeId} {name : String} {f : FuncId} (h : methB1 P t name f = true) (b : Nat) (fuel : Nat) (w : World) :
    (Go.method (fuel + 1) t (.pointer (some ⟨b, 0, none⟩)) name).run P w = .ok (f, .pointer (some ⟨b, 0, none⟩)) w := by
  unfold methB1 at h
  split at h
  · rename_i i hi
    split at h
    · rename_i m hm
      split at h
      · rename_i s hp
        simp only [Bool.and_eq_true] at h
        obtain ⟨hd, h⟩ := h
        split at h
        · rename_i fields hu
          split at h
          · rename_i fd hf
            simp only [Bool.and_eq_true] at h
            obtain ⟨h0, h⟩ := h
            have h0 := Nat.eq_of_beq_eq_true h0
            split at h
            · rename_i ti hti
              simp only [Bool.and_eq_true, Bool.not_eq_true'] at h
              obtain ⟨hsz, h⟩ := h
              have hsz : ti.size ≠ 0 := by intro h1; rw [h1] at hsz; simp at hsz
              split at h
              · rename_i fs hfu
                split at h
                · rename_i g hg
                  have hgf := Nat.eq_of_beq_eq_true h
                  subst hgf
                  simp [Go.method, typeInfo, hi, hm, hp, Go.follow, run_underlying hu, hf, hd, Go.Place.get, asAddr, Go.fieldPlace, sizeOf, hti, hsz, h0, hg, Go.receiverAt, run_underlying hfu, Addr.add_lit]
                · cases h
              · cases h
            · cases h
          · cases h
        · cases h
      · cases h
    · cases h
  · cases h
theorem enter_meth1 {t : TypeId} {name : String} {f : FuncId} {b : Nat} {args : Array Value} (hm : methB1 P t name f = true) (h : callE P f (#[.pointer (some ⟨b, 0, none⟩)] ++ args) R w) :
    enterE P (callMethod (.iface t (.pointer (some ⟨b, 0, none⟩))) name args) R w := by
  obtain ⟨n, hn⟩ := depth_succ P
  have hr := methB1_run hm b n w
  have e : (callMethod (.iface t (.pointer (some ⟨b, 0, none⟩))) name args).run P w = (callFunc f (#[.pointer (some ⟨b, 0, none⟩)] ++ args)).run P w := by
    simp only [callMethod, Sem.run_bind, run_program, Result.andThen_ok, hn, hr]
  unfold enterE
  rw [e]
  exact h.imp (fun h => ⟨f, _, w, h.1 _ _, h.2⟩) id
theorem meth_EscapedP : methB1 P ty_P_Escaped "PrintHTML" i_Plain_PrintHTML = true := by kernel_rfl
theorem meth_Soft : methB P ty_P_SoftBreak "PrintHTML" i_SoftBreak_PrintHTML = true := by kernel_rfl
theorem meth_Hard : methB P ty_P_HardBreak "PrintHTML" i_HardBreak_PrintHTML = true := by kernel_rfl
theorem meth_Auto : methB P ty_P_AutoLink "PrintHTML" i_AutoLink_PrintHTML = true := by kernel_rfl
theorem meth_Link : methB P ty_P_Link "PrintHTML" i_Link_PrintHTML = true := by kernel_rfl
theorem esc_prints {pb : Nat} {s : List UInt8} {cs : List Value} {e : TypeId} (hs : s.length < 4294967296) :
    Prints "PrintHTML" (.iface ty_P_Escaped (.pointer (some ⟨pb, 0, none⟩))) [(pb, cel (.string (bs s) :: cs) e)] [(pb, cel (.string (bs s) :: cs) e)] (ab (escS htmlPs s)) := by
  refine ⟨ab_le _, fun σ R b l M L w hB h hb hR => enter_meth1 meth_EscapedP ?_⟩
  exact plainPrint_ok hB h hs (Nat.le_trans (ab_le _ l) hb) hR
def softT : List UInt8 := [10]
def hardT : List UInt8 := [60, 98, 114, 32, 47, 62, 10]
theorem soft_prints {b : Nat} {T : List Chunk} : Prints "PrintHTML" (ptrV ty_P_SoftBreak b) T T (ab softT) := by
  refine ⟨ab_le _, fun σ R bb l M L w hB h hb hR => enter_meth meth_Soft ?_⟩
  refine g_SoftBreak_PrintHTML.sound ?_
  have hb' : (l ++ softT).length ≤ 549755813888 := hb
  rw [List.length_append] at hb'
  exact writeS_ok (s := softT) hB h (by omega) fun w M hB h => ⟨_, _, rfl, hR w M hB h⟩
theorem hard_prints {b : Nat} {T : List Chunk} : Prints "PrintHTML" (ptrV ty_P_HardBreak b) T T (ab hardT) := by
  refine ⟨ab_le _, fun σ R bb l M L w hB h hb hR => enter_meth meth_Hard ?_⟩
  refine g_HardBreak_PrintHTML.sound ?_
  have hb' : (l ++ hardT).length ≤ 549755813888 := hb
  rw [List.length_append] at hb'
  exact writeS_ok (s := hardT) hB h (by omega) fun w M hB h => ⟨_, _, rfl, hR w M hB h⟩
def aHref : List UInt8 := [60, 97, 32, 104, 114, 101, 102, 61, 34]
def aEnd : List UInt8 := [60, 47, 97, 62]
def tAttr : List UInt8 := [32, 116, 105, 116, 108, 101, 61, 34]
theorem linkPs8 : small8 linkPs = true := by decide
theorem linkPs_len : linkPs.length = 170 := by kernel_rfl
theorem linkReplace_ok {pb c : Nat} {e : TypeId} {s : List UInt8} (h : Sat σ w L) (hp : (pb, cel (pairC linkPs) e) ∈ L) (hs : s.length < 4294967296) (hR : ∀ w, Sat σ w L → R (.returned (.string (bs (escS linkPs s)))) w) :
    callE P i_zzPairs_Replace #[.slice (some ⟨pb, 0, none⟩) 340 c, .string (bs s)] R w := by
  have := pairsReplace_ok (c := c) (R := R) h hp linkPs8 (by rw [linkPs_len]; decide) hs hR
  rw [linkPs_len] at this
  exact this
theorem auto_prints {b : Nat} {e : TypeId} {t u : List UInt8} (ht : t.length < 100000000) (hu : u.length < 100000000) :
    Prints "PrintHTML" (ptrV ty_P_AutoLink b) [(b, cel [.string (bs t), .string (bs u)] e)] [(b, cel [.string (bs t), .string (bs u)] e)] (ab (aHref ++ escS linkPs u ++ [34, 62] ++ escS htmlPs t ++ aEnd)) := by
  refine ⟨ab_le _, fun σ R bb l M L w hB h hb hR => enter_meth meth_Auto ?_⟩
  have hmax : IntKind.i64.max = 9223372036854775807 := rfl
  have l1 := escS_length linkPs8 u
  have l2 := escS_length (ps := htmlPs) (by decide) t
  have hb' : (l ++ (aHref ++ escS linkPs u ++ [34, 62] ++ escS htmlPs t ++ aEnd)).length ≤ 549755813888 := hb
  rw [List.length_append] at hb'
  refine g_AutoLink_PrintHTML.sound ?_
  refine Sat.tk h fun w h => ?_
  refine nilP_some (nilP_some ?_)
  have hm : ∀ {M : List Chunk}, (b, cel [.string (bs t), .string (bs u)] e) ∈ M ++ ([(b, cel [.string (bs t), .string (bs u)] e)] ++ L) := List.mem_append_right _ (.head _)
  refine ⟨_, Sat.ld h (i := 1) hm rfl, _, Sat.ld h (i := 0) hm rfl, ?_⟩
  have h0 := h
  refine htmlLinkEscaper_ok h fun w eb h => ⟨_, _, _, rfl, h0.same h hm (.tail _ hm) 1, h0.same h hm (.tail _ hm) 1, ?_⟩
  have h0 := h
  refine linkReplace_ok h (.head _) (by omega) fun w h => ⟨_, rfl, h0.same h (.tail _ hm) (.tail _ hm) 1, ?_⟩
  rw [show ByteArray.mk #[60, 97, 32, 104, 114, 101, 102, 61, 34] = bs aHref from rfl, show ByteArray.mk #[34, 62] = bs [34, 62] from rfl, show ByteArray.mk #[60, 47, 97, 62] = bs aEnd from rfl, bs_append, bs_append]
  refine ⟨by rw [hmax]; simp [aHref]; omega, by rw [hmax]; simp [aHref]; omega, ?_⟩
  have h0 := h
  refine htmlEscaper_ok h fun w eb2 h => ⟨_, _, _, rfl, h0.same h (.tail _ hm) (.tail _ (.tail _ hm)) 1, ?_⟩
  refine pairsReplace_ok (ps := htmlPs) h (.head _) (by decide) (by decide) (by omega) fun w h => ⟨_, rfl, ?_⟩
  rw [bs_append, bs_append]
  refine ⟨by rw [hmax]; simp [aHref]; omega, by rw [hmax]; simp [aHref, aEnd]; omega, ?_⟩
  have h : Sat σ w (M ++ ([(b, cel [.string (bs t), .string (bs u)] e)] ++ L)) := h.tail.tail
  exact writeS_ok hB h (by omega) fun w M hB h => ⟨_, _, rfl, hR w M hB h⟩
/-- What stands ahead of a link's text. -/
def linkO (u t : List UInt8) : List UInt8 := aHref ++ escS linkPs u ++ [34] ++ (if t = [] then [] else tAttr ++ escS htmlPs t ++ [34]) ++ [62]
theorem link_prints {b : Nat} {e : TypeId} {u t : List UInt8} {cs : List Value} {q : Option Addr} {n c : Nat} {vs : List Value} {RM KM KM' : List Chunk} {f : List UInt8 → List UInt8} (hu : u.length < 100000000) (ht : t.length < 100000000) (hS : Sl 1 ty_Inline q n c vs RM) (hn : n < 4611686018427387904) (hP : PrintsL "PrintHTML" vs KM KM' f) :
    Prints "PrintHTML" (ptrV ty_P_Link b) ((b, cel (.slice q n c :: .string (bs u) :: .string (bs t) :: cs) e) :: (RM ++ KM)) ((b, cel (.slice q n c :: .string (bs u) :: .string (bs t) :: cs) e) :: (RM ++ KM')) (fun l => f (l ++ linkO u t) ++ aEnd) := by
  have hmax : IntKind.i64.max = 9223372036854775807 := rfl
  have l1 := escS_length linkPs8 u
  have l2 := escS_length (ps := htmlPs) (by decide) t
  refine ⟨fun l => ?_, fun σ R bb l M L w hB h hb hR => enter_meth meth_Link ?_⟩
  · have := hP.mono (l ++ linkO u t)
    simp only [List.length_append] at *; omega
  have hm := hP.mono (l ++ linkO u t)
  simp only [List.length_append] at hb hm
  refine g_Link_PrintHTML.sound ?_
  have hmem : ∀ {M : List Chunk}, (b, cel (.slice q n c :: .string (bs u) :: .string (bs t) :: cs) e) ∈ M ++ ((b, cel (.slice q n c :: .string (bs u) :: .string (bs t) :: cs) e) :: (RM ++ KM) ++ L) := List.mem_append_right _ (.head _)
  refine Sat.tk h fun w h => ?_
  refine nilP_some ⟨_, Sat.ld h (i := 1) hmem rfl, ?_⟩
  have h0 := h
  refine htmlLinkEscaper_ok h fun w eb h => ⟨_, _, _, rfl, h0.same h hmem (.tail _ hmem) 1, ?_⟩
  refine linkReplace_ok h (.head _) (by omega) fun w h => ⟨_, rfl, ?_⟩
  rw [show ByteArray.mk #[60, 97, 32, 104, 114, 101, 102, 61, 34] = bs aHref from rfl, show ByteArray.mk #[34] = bs [34] from rfl, bs_append, bs_append]
  have hlo : (linkO u t).length = (aHref ++ escS linkPs u ++ [34]).length + (if t = [] then [] else tAttr ++ escS htmlPs t ++ [34] : List UInt8).length + 1 := by simp [linkO]; omega
  refine ⟨by rw [hmax]; simp [aHref]; omega, by rw [hmax]; simp [aHref]; omega, ?_⟩
  have h : Sat σ w (M ++ ((b, cel (.slice q n c :: .string (bs u) :: .string (bs t) :: cs) e) :: (RM ++ KM) ++ L)) := h.tail
  refine writeS_ok hB h (by omega) fun w M hB h => ⟨_, _, rfl, ?_⟩
  refine nilP_some ⟨_, Sat.ld h (i := 2) hmem rfl, ?_⟩
  have k1 : ∀ w M, Buf bb (l ++ (aHref ++ escS linkPs u ++ [34] ++ (if t = [] then [] else tAttr ++ escS htmlPs t ++ [34]))) M → Sat σ w (M ++ ((b, cel (.slice q n c :: .string (bs u) :: .string (bs t) :: cs) e) :: (RM ++ KM) ++ L)) → g_Link_PrintHTML.k1 R (some ⟨b, 0, none⟩) (some ⟨bb, 0, none⟩) w := by
    intro w M hB h
    refine writeS_ok (s := [62]) hB h (by simp only [List.length_append, List.length_cons, List.length_nil] at hlo ⊢; omega) fun w M hB h => ⟨_, _, rfl, ?_⟩
    refine nilP_some ⟨_, _, _, Sat.ld h (i := 0) hmem rfl, ?_⟩
    intro X hX
    have e1 : l ++ (aHref ++ escS linkPs u ++ [34] ++ (if t = [] then [] else tAttr ++ escS htmlPs t ++ [34])) ++ [62] = l ++ linkO u t := by simp [linkO]
    rw [e1] at hB
    have h : Sat σ w (M ++ (RM ++ (KM ++ ((b, cel (.slice q n c :: .string (bs u) :: .string (bs t) :: cs) e) :: L)))) := h.re (by intro _; simp only [List.append_eq, cnt_append, cnt_cons, cnt_nil] <;> omega)
    refine printLoop (X := fun j w => X (some ⟨bb, 0, none⟩) q n c (n : Int) j w) (END := fun w => callE P i_bytes_Buffer_WriteString #[.pointer (some ⟨bb, 0, none⟩), .string (bs aEnd)] (fun e w10 => ∃ (r9_0 : Int), ∃ (r9_1 : Value), e = .returned (.tuple #[.int .i64 r9_0, r9_1]) ∧ R (.returned (.tuple #[])) w10) w) hS (fun j w hj => hX _ _ _ _ _ _ _ hj) hP hB h hn (by simp only [List.length_append] at *; omega) fun w M' hB h => ?_
    refine writeS_ok (s := aEnd) hB h (by simp only [List.length_append] at *; omega) fun w M hB h => ⟨_, _, rfl, ?_⟩
    exact hR w M hB (h.re (by intro _; simp only [List.append_eq, cnt_append, cnt_cons, cnt_nil] <;> omega))
  by_cases ht0 : t = []
  · refine br_false (by rw [ht0, bs_toList, mk_toList]; rfl) (k1 w M ?_ h)
    rw [if_pos ht0, List.append_nil]; exact hB
  · refine br_true (by rw [bs_toList, mk_toList]; simpa using ht0) ?_
    rw [if_neg ht0] at hlo
    simp only [List.length_append, List.length_cons, List.length_nil] at hlo
    refine Sat.tk h fun w h => ?_
    refine nilP_some ⟨_, Sat.ld h (i := 2) hmem rfl, ?_⟩
    have h0 := h
    refine htmlQuoteEscaper_ok h fun w eb h => ⟨_, _, _, rfl, h0.same h hmem (.tail _ hmem) 1, ?_⟩
    refine pairsReplace_ok (ps := htmlPs) h (.head _) (by decide) (by decide) (by omega) fun w h => ⟨_, rfl, ?_⟩
    rw [show ByteArray.mk #[32, 116, 105, 116, 108, 101, 61, 34] = bs tAttr from rfl, bs_append, bs_append]
    refine ⟨by rw [hmax]; simp [tAttr]; omega, by rw [hmax]; simp [tAttr]; omega, ?_⟩
    have h : Sat σ w (M ++ ((b, cel (.slice q n c :: .string (bs u) :: .string (bs t) :: cs) e) :: (RM ++ KM) ++ L)) := h.tail
    refine writeS_ok hB h (by simp only [List.length_append, List.length_cons, List.length_nil] at hlo ⊢; omega) fun w M hB h => ⟨_, _, rfl, k1 w M ?_ h⟩
    rw [if_neg ht0, ← List.append_assoc]; exact hB
end Go.Proofs.YtmicoampfglaiaaGreatDoor

/- Inlines print themselves. -/
set_option linter.unusedVariables false
namespace Go.Proofs.YtmicoampfglaiaaGreatDoor
open Go.Proofs Go.IntWalk Go.RowKit
variable {σ : Out} {w : World} {L L' : List Chunk} {R : Ending → World → Prop}
theorem meth_Strong : methB P ty_P_Strong "PrintHTML" i_Strong_PrintHTML = true := by kernel_rfl
theorem meth_Emph : methB P ty_P_Emph "PrintHTML" i_Emph_PrintHTML = true := by kernel_rfl
def oStrong : List UInt8 := [60, 115, 116, 114, 111, 110, 103, 62]
def cStrong : List UInt8 := [60, 47, 115, 116, 114, 111, 110, 103, 62]
def oEm : List UInt8 := [60, 101, 109, 62]
def cEm : List UInt8 := [60, 47, 101, 109, 62]
theorem strong_prints {b : Nat} {e : TypeId} {m : Value} {q : Option Addr} {n c : Nat} {vs : List Value} {RM KM KM' : List Chunk} {f : List UInt8 → List UInt8} (hS : Sl 1 ty_Inline q n c vs RM) (hn : n < 4611686018427387904) (hP : PrintsL "PrintHTML" vs KM KM' f) :
    Prints "PrintHTML" (.iface ty_P_Strong (.pointer (some ⟨b, 0, none⟩))) ((b, cel [m, .slice q n c] e) :: (RM ++ KM)) ((b, cel [m, .slice q n c] e) :: (RM ++ KM')) (fun l => f (l ++ oStrong) ++ cStrong) := by
  refine ⟨fun l => ?_, fun σ R bb l M L w hB h hb hR => enter_meth meth_Strong ?_⟩
  · have := hP.mono (l ++ oStrong)
    simp only [List.length_append] at *; omega
  refine g_Strong_PrintHTML.sound ?_
  have hm := hP.mono (l ++ oStrong)
  simp only [List.length_append] at hb hm
  refine writeS_ok (s := oStrong) hB h (by omega) fun w M hB h => ⟨_, _, rfl, ?_⟩
  refine nilP_some ?_
  refine ⟨_, _, _, Sat.ld h (List.mem_append_right _ (.head _)) rfl, ?_⟩
  intro X hX
  have h : Sat σ w (M ++ (RM ++ (KM ++ ((b, cel [m, .slice q n c] e) :: L)))) := h.re (by intro _; simp only [List.append_eq, cnt_append, cnt_cons, cnt_nil] <;> omega)
  refine printLoop (X := fun j w => X (some ⟨bb, 0, none⟩) q n c (n : Int) j w) (END := fun w => callE P i_bytes_Buffer_WriteString #[.pointer (some ⟨bb, 0, none⟩), .string (bs cStrong)] (fun e w10 => ∃ (r9_0 : Int), ∃ (r9_1 : Value), e = .returned (.tuple #[.int .i64 r9_0, r9_1]) ∧ R (.returned (.tuple #[])) w10) w) hS (fun j w hj => hX _ _ _ _ _ _ _ hj) hP hB h hn (by omega) fun w M' hB h => ?_
  refine writeS_ok (s := cStrong) hB h (by omega) fun w M hB h => ⟨_, _, rfl, ?_⟩
  exact hR w M hB (h.re (by intro _; simp only [List.append_eq, cnt_append, cnt_cons, cnt_nil] <;> omega))
theorem em_prints {b : Nat} {e : TypeId} {m : Value} {q : Option Addr} {n c : Nat} {vs : List Value} {RM KM KM' : List Chunk} {f : List UInt8 → List UInt8} (hS : Sl 1 ty_Inline q n c vs RM) (hn : n < 4611686018427387904) (hP : PrintsL "PrintHTML" vs KM KM' f) :
    Prints "PrintHTML" (.iface ty_P_Emph (.pointer (some ⟨b, 0, none⟩))) ((b, cel [m, .slice q n c] e) :: (RM ++ KM)) ((b, cel [m, .slice q n c] e) :: (RM ++ KM')) (fun l => f (l ++ oEm) ++ cEm) := by
  refine ⟨fun l => ?_, fun σ R bb l M L w hB h hb hR => enter_meth meth_Emph ?_⟩
  · have := hP.mono (l ++ oEm)
    simp only [List.length_append] at *; omega
  refine g_Emph_PrintHTML.sound ?_
  have hm := hP.mono (l ++ oEm)
  simp only [List.length_append] at hb hm
  refine writeS_ok (s := oEm) hB h (by omega) fun w M hB h => ⟨_, _, rfl, ?_⟩
  refine nilP_some ?_
  refine ⟨_, _, _, Sat.ld h (List.mem_append_right _ (.head _)) rfl, ?_⟩
  intro X hX
  have h : Sat σ w (M ++ (RM ++ (KM ++ ((b, cel [m, .slice q n c] e) :: L)))) := h.re (by intro _; simp only [List.append_eq, cnt_append, cnt_cons, cnt_nil] <;> omega)
  refine printLoop (X := fun j w => X (some ⟨bb, 0, none⟩) q n c (n : Int) j w) (END := fun w => callE P i_bytes_Buffer_WriteString #[.pointer (some ⟨bb, 0, none⟩), .string (bs cEm)] (fun e w10 => ∃ (r9_0 : Int), ∃ (r9_1 : Value), e = .returned (.tuple #[.int .i64 r9_0, r9_1]) ∧ R (.returned (.tuple #[])) w10) w) hS (fun j w hj => hX _ _ _ _ _ _ _ hj) hP hB h hn (by omega) fun w M' hB h => ?_
  refine writeS_ok (s := cEm) hB h (by omega) fun w M hB h => ⟨_, _, rfl, ?_⟩
  exact hR w M hB (h.re (by intro _; simp only [List.append_eq, cnt_append, cnt_cons, cnt_nil] <;> omega))
/-! ### In general -/
mutual
/-- What an inline prints (of the kinds that are covered). -/
def outI : Inl → List UInt8
  | .plain s => escS htmlPs s
  | .strong _ ks => oStrong ++ outL ks ++ cStrong
  | .emph _ ks => oEm ++ outL ks ++ cEm
  | .esc s => escS htmlPs s
  | .auto t u => aHref ++ escS linkPs u ++ [34, 62] ++ escS htmlPs t ++ aEnd
  | .link ks u t _ _ => linkO u t ++ outL ks ++ aEnd
  | .soft => softT
  | .hard => hardT
  | _ => []
def outL : List Inl → List UInt8
  | [] => []
  | t :: ts => outI t ++ outL ts
end
mutual
def okI : Inl → Prop
  | .plain s => s.length < 4294967296
  | .strong _ ks => okL ks ∧ ks.length < 1073741824
  | .emph _ ks => okL ks ∧ ks.length < 1073741824
  | .esc s => s.length < 4294967296
  | .auto t u => t.length < 100000000 ∧ u.length < 100000000
  | .link ks u t _ _ => okL ks ∧ ks.length < 1073741824 ∧ u.length < 100000000 ∧ t.length < 100000000
  | .soft => True
  | .hard => True
  | _ => False
def okL : List Inl → Prop
  | [] => True
  | t :: ts => okI t ∧ okL ts
end
theorem Prints.as {m : String} {v : Value} {T T' : List Chunk} {f g : List UInt8 → List UInt8} (h : Prints m v T T' f) (e : f = g) : Prints m v T T' g := e ▸ h
theorem PrintsL.as {m : String} {v : List Value} {T T' : List Chunk} {f g : List UInt8 → List UInt8} (h : PrintsL m v T T' f) (e : f = g) : PrintsL m v T T' g := e ▸ h
mutual
theorem inl_prints : ∀ (t : Inl) (v : Value) (M : List Chunk), InlAt t v M → okI t → Prints "PrintHTML" v M M (ab (outI t))
  | .plain s, v, M, h, ho => by
    obtain ⟨b, cs, e, rfl, rfl⟩ := h
    exact plain_prints ho
  | .strong m ks, v, M, h, ho => by
    obtain ⟨b, e, q, n, c, vs, RM, KM, rfl, rfl, hS, hI⟩ := h
    have hl := hI.length
    have h0 := hS.1
    have h1 := ho.2
    refine (strong_prints hS (by omega) (inls_print ks vs KM hI ho.1)).as ?_
    funext l
    simp [ab, outI]
  | .emph m ks, v, M, h, ho => by
    obtain ⟨b, e, q, n, c, vs, RM, KM, rfl, rfl, hS, hI⟩ := h
    have hl := hI.length
    have h0 := hS.1
    have h1 := ho.2
    refine (em_prints hS (by omega) (inls_print ks vs KM hI ho.1)).as ?_
    funext l
    simp [ab, outI]
  | .esc s, v, M, h, ho => by
    obtain ⟨b, e, rfl, rfl⟩ := h
    exact esc_prints ho
  | .auto t u, v, M, h, ho => by
    obtain ⟨b, e, rfl, rfl⟩ := h
    exact auto_prints ho.1 ho.2
  | .link ks u t tc k, v, M, h, ho => by
    obtain ⟨b, e, q, n, c, vs, RM, KM, rfl, rfl, hS, hI⟩ := h
    have hl := hI.length
    have h0 := hS.1
    obtain ⟨h1, h2, h3, h4⟩ := ho
    refine (link_prints h3 h4 hS (by omega) (inls_print ks vs KM hI h1)).as ?_
    funext l
    simp [ab, outI]
  | .soft, v, M, h, ho => by
    obtain ⟨b, e, rfl, rfl⟩ := h
    exact soft_prints
  | .hard, v, M, h, ho => by
    obtain ⟨b, e, rfl, rfl⟩ := h
    exact hard_prints
  | .openP _ _, v, M, h, ho => absurd ho id
  | .emphP _ _ _ _ _, v, M, h, ho => absurd ho id
  | .code _, v, M, h, ho => absurd ho id
  | .del _ _, v, M, h, ho => absurd ho id
  | .image _ _ _ _ _, v, M, h, ho => absurd ho id
  | .tag _, v, M, h, ho => absurd ho id
  | .task _, v, M, h, ho => absurd ho id
theorem inls_print : ∀ (ts : List Inl) (vs : List Value) (M : List Chunk), InlsAt ts vs M → okL ts → PrintsL "PrintHTML" vs M M (ab (outL ts))
  | [], vs, M, h, ho => by
    obtain ⟨rfl, rfl⟩ := h
    exact PrintsL.nil.as (by funext l; simp [ab, outL])
  | t :: ts, vs, M, h, ho => by
    obtain ⟨v, vs', M1, M2, rfl, rfl, h1, h2⟩ := h
    refine (PrintsL.cons (inl_prints t v M1 h1 ho.1) (inls_print ts vs' M2 h2 ho.2)).as ?_
    funext l
    simp [ab, outL]
end
end Go.Proofs.YtmicoampfglaiaaGreatDoor

/- A text in which nothing is an inline but plain text. -/
set_option linter.unusedVariables false
namespace Go.Proofs.YtmicoampfglaiaaGreatDoor
open Go.Proofs Go.IntWalk Go.RowKit
variable {σ : Out} {w : World} {L L' : List Chunk} {R : Ending → World → Prop}
theorem AtI.plains {X : XI} {b pb e : Nat} {p0 : PS} {raw : List UInt8} {ts : List Inl} {o : Opt} (hX : LoopX R X b raw) (hs : raw.length < 1000000000) (hpz : p0.pz = some ⟨pb, 0, none⟩) (ho : o.at pb ∈ L) :
    ∀ (k i : Nat), i + k ≤ raw.length → (∀ j (hj : j < raw.length), i ≤ j → j < i + k → parserOf o raw[j] = .nil ∧ raw[j] ≠ 93) → AtI X σ b p0 raw L (i + k) e ts → AtI X σ b p0 raw L i e ts
  | 0, i, _, _, h => h
  | k + 1, i, hk, hall, h => by
    have hi : i < raw.length := by omega
    have h0 := hall i hi (Nat.le_refl _) (by omega)
    refine AtI.plain hX hi hs hpz ho h0.1 h0.2 ?_
    refine AtI.plains hX hs hpz ho k (i + 1) (by omega) (fun j hj h1 h2 => hall j hj (by omega) (by omega)) ?_
    rw [show i + 1 + k = i + (k + 1) by omega]; exact h
theorem plainText_inline {o : Opt} {s : List UInt8} (hoff : o.auto = false) (hs : s.length < 1000000) (hall : ∀ c ∈ trimLR isST s, parserOf o c = .nil ∧ c ≠ 93) (hne : trimLR isST s ≠ []) : InlineOK o s (ab (escS htmlPs (trimLR isST s))) := by
  intro σ R b pb p L w h hpz ho hlk hR
  have htl : (trimLR isST s).length ≤ s.length := by
    unfold trimLR trimR
    have h1 := (List.dropWhile_sublist isST (l := s)).length_le
    have h2 := (List.dropWhile_sublist isST (l := (s.dropWhile isST).reverse)).length_le
    simp at h2 ⊢; omega
  refine inl_begin h (by omega) fun w h => ?_
  generalize hr : trimLR isST s = raw at h hall hne htl hR ⊢
  intro X hX
  have hXL : LoopX R X b raw := fun _ _ _ _ _ h => hX _ _ _ _ _ _ _ _ _ h
  generalize hp0 : ({ p with s := raw, em := 0, lq := none, ln := 0, lc := 0 } : PS) = p0 at h
  have hpz0 : p0.pz = some ⟨pb, 0, none⟩ := by rw [← hp0]; exact hpz
  have hcs : p0.coreS = p.coreS := by rw [← hp0]; rfl
  suffices hat : AtI X σ b p0 raw L 0 0 [] from hat w p0 none 0 0 rfl (by rw [← hp0]) (by rw [← hp0]; rfl) h
  have hpos : 0 < raw.length := List.length_pos_iff.2 hne
  refine AtI.plains hXL (by omega) hpz0 ho raw.length 0 (by omega) (fun j hj _ _ => hall _ (List.getElem_mem hj)) ?_
  rw [Nat.zero_add]
  have e1 : emitM raw 0 raw.length [] = [.plain raw] := by
    unfold emitM; rw [if_pos hpos]
    show [Inl.plain ((raw.take raw.length).drop 0)] = _
    rw [List.take_length, List.drop_zero]
  refine AtI.fin (ts' := [.plain raw]) hXL (by omega) hpz0 ho hoff (by simp) ?_ ?_ ?_ ?_
  · rw [e1]
    exact emphOK_none (by intro t ht; simp at ht; subst ht; exact ⟨by simp only [Inl.ty]; decide, by simp only [Inl.ty]; decide⟩)
  · intro t ht s hs; simp at ht; subst ht; simp [Inl.plain?] at hs; subst hs; exact hne
  · simp [plen, Inl.plain?]; omega
  · intro w p' q n' c vs RM EM hp' hS hn' hI h
    have em : mergeM [.plain raw] = [.plain raw] := by simp [mergeM, mergeGo, flushP, Inl.plain?]
    rw [em] at hI
    have hP := inls_print _ _ _ hI ⟨by show raw.length < _; omega, trivial⟩
    have eo : outL [.plain raw] = escS htmlPs raw := by simp [outL, outI]
    rw [eo] at hP
    exact hR w p' q n' c vs RM EM EM (hp'.trans hcs) hS hn' hP h
end Go.Proofs.YtmicoampfglaiaaGreatDoor

set_option linter.unusedVariables false
namespace Go.Proofs.YtmicoampfglaiaaGreatDoor
open Go.Proofs Go.Shelf
def lays105_ren : Go.Shelf.Ren := ⟨fun | 105 => 11 | 212 => 28 | 99 => 29 | 165 => 30 | 166 => 31 | 170 => 32 | 169 => 18 | 263 => 40 | 264 => 41 | 206 => 42 | 240 => 37 | 241 => 43 | 276 => 47 | 277 => 50 | n => n, fun | 9 => 9 | 3 => 3 | 4 => 4 | 20 => 20 | 0 => 0 | 46 => 50 | 109 => 51 | 5 => 5 | 72 => 37 | 76 => 55 | 51 => 66 | 146 => 67 | 53 => 69 | 148 => 70 | 70 => 34 | 37 => 35 | 75 => 39 | 127 => 64 | 164 => 84 | 80 => 41 | n => n, fun | n => n⟩
theorem lays105 : Go.Proofs.Lays.n105 Tryz.prog lays105_ren := {
  mixed := by kernel_rfl
  f99 := Tryz.func29.trans (congrArg some (by kernel_rfl))
  f105 := Tryz.func11.trans (congrArg some (by kernel_rfl))
  f165 := Tryz.func30.trans (congrArg some (by kernel_rfl))
  f166 := Tryz.func31.trans (congrArg some (by kernel_rfl))
  f169 := Tryz.func18.trans (congrArg some (by kernel_rfl))
  f170 := Tryz.func32.trans (congrArg some (by kernel_rfl))
  f206 := Tryz.func42.trans (congrArg some (by kernel_rfl))
  f212 := Tryz.func28.trans (congrArg some (by kernel_rfl))
  f240 := Tryz.func37.trans (congrArg some (by kernel_rfl))
  f241 := Tryz.func43.trans (congrArg some (by kernel_rfl))
  f263 := Tryz.func40.trans (congrArg some (by kernel_rfl))
  f264 := Tryz.func41.trans (congrArg some (by kernel_rfl))
  f276 := Tryz.func47.trans (congrArg some (by kernel_rfl))
  f277 := Tryz.func50.trans (congrArg some (by kernel_rfl))
  t0 := Tryz.underlying0
  a0 := Tryz.isAgg0
  z0 := Tryz.sizeOf0
  v0 := Tryz.zeroValue0
  t3 := Tryz.underlying3
  a3 := Tryz.isAgg3
  z3 := Tryz.sizeOf3
  v3 := Tryz.zeroValue3
  t4 := Tryz.underlying4
  a4 := Tryz.isAgg4
  z4 := Tryz.sizeOf4
  v4 := Tryz.zeroValue4
  t5 := Tryz.underlying5
  a5 := Tryz.isAgg5
  z5 := Tryz.sizeOf5
  v5 := Tryz.zeroValue5
  t9 := Tryz.underlying9
  a9 := Tryz.isAgg9
  z9 := Tryz.sizeOf9
  v9 := Tryz.zeroValue9
  t20 := Tryz.underlying20
  a20 := Tryz.isAgg20
  z20 := Tryz.sizeOf20
  v20 := Tryz.zeroValue20
  t37 := Tryz.underlying35
  a37 := Tryz.isAgg35
  z37 := Tryz.sizeOf35
  v37 := Tryz.zeroValue35
  t46 := Tryz.underlying50
  a46 := Tryz.isAgg50
  z46 := Tryz.sizeOf50
  v46 := Tryz.zeroValue50
  t51 := Tryz.underlying66
  a51 := Tryz.isAgg66
  z51 := Tryz.sizeOf66
  v51 := Tryz.zeroValue66
  t53 := Tryz.underlying69
  a53 := Tryz.isAgg69
  z53 := Tryz.sizeOf69
  v53 := Tryz.zeroValue69
  t70 := Tryz.underlying34
  a70 := Tryz.isAgg34
  z70 := Tryz.sizeOf34
  v70 := Tryz.zeroValue34
  t72 := Tryz.underlying37
  a72 := Tryz.isAgg37
  z72 := Tryz.sizeOf37
  v72 := Tryz.zeroValue37
  t75 := Tryz.underlying39
  a75 := Tryz.isAgg39
  z75 := Tryz.sizeOf39
  v75 := Tryz.zeroValue39
  t76 := Tryz.underlying55
  a76 := Tryz.isAgg55
  z76 := Tryz.sizeOf55
  v76 := Tryz.zeroValue55
  t109 := Tryz.underlying51
  a109 := Tryz.isAgg51
  z109 := Tryz.sizeOf51
  v109 := Tryz.zeroValue51
  t127 := Tryz.underlying64
  a127 := Tryz.isAgg64
  z127 := Tryz.sizeOf64
  v127 := Tryz.zeroValue64
  t146 := Tryz.underlying67
  a146 := Tryz.isAgg67
  z146 := Tryz.sizeOf67
  v146 := Tryz.zeroValue67
  t148 := Tryz.underlying70
  a148 := Tryz.isAgg70
  z148 := Tryz.sizeOf70
  v148 := Tryz.zeroValue70
  t164 := Tryz.underlying84
  a164 := Tryz.isAgg84
  z164 := Tryz.sizeOf84
  v164 := Tryz.zeroValue84 }
theorem lays105_cf : ∀ args w, (callFunc 11 args).run Tryz.prog w = .ok (.enter 11 args) w := Tryz.call11
end Go.Proofs.YtmicoampfglaiaaGreatDoor

/- strings.Repeat, by the shelf's contract. -/
set_option linter.unusedVariables false
namespace Go.Proofs.YtmicoampfglaiaaGreatDoor
open Go.Proofs Go.IntWalk Go.RowKit Go.Shelf
variable {σ : Out} {w : World} {L L' : List Chunk} {R : Ending → World → Prop}
theorem bExtra : Builder.Extra P lays105_ren := {
  sizeBuilder := by kernel_rfl
  liesBuilder := by kernel_rfl
  t5 := lays105.t5
  a5 := lays105.a5
  z5 := lays105.z5
  v5 := lays105.v5
  infoByte := by kernel_rfl
  cellsByte := by kernel_rfl
  sizeByte := by kernel_rfl
  neB5 := by decide }
theorem Sat.below (h : Sat σ w L) {w' : World} (hb : Below w.heap.size w w') : Sat σ w' L := by
  refine ⟨hb.os.trans h.os, hb.output.trans h.out, h.nodup, ?_⟩
  intro c hc
  rw [hb.block _ (h.lt hc)]
  exact h.at_ _ hc
theorem repeat_ok {s : List UInt8} {c : Nat} (hb : s.length * c ≤ 140737488355328) (hc : c < 9223372036854775807) (h : Sat σ w L) (hR : ∀ w, Sat σ w L → R (.returned (.string (bs (Lib.repeatL s c)))) w) :
    callE P i_strings_Repeat #[.string (bs s), .int .i64 c] R w := by
  refine callE_calls lays105_cf ((Any.strings_Repeat (P := P) lays105 bExtra (bs s) c w (by omega) (by rw [bs_size]; exact hb)).mono ?_)
  rintro e w' ⟨rfl, hbl⟩
  exact hR w' (h.below hbl)
end Go.Proofs.YtmicoampfglaiaaGreatDoor

/- FnHeadID: the law's walk. -/
set_option linter.unusedVariables false
namespace Go.Proofs.YtmicoampfglaiaaGreatDoor
open Go.Proofs Go.IntWalk Go.RowKit
variable {σ : Out} {w : World} {L L' : List Chunk} {R : Ending → World → Prop}
def wset : List UInt8 := [97, 98, 122, 48, 49, 57]
theorem word_of {s : List UInt8} (h : wordM s = true) : s ≠ [] ∧ s.length ≤ 20 ∧ ∀ c ∈ s, c ∈ wset := by
  simp only [wordM, onlyM, Bool.and_eq_true, Bool.not_eq_true', decide_eq_true_eq] at h
  obtain ⟨h1, h2, h3⟩ := h
  refine ⟨fun h0 => by rw [h0] at h1; simp at h1, h2, fun c hc => ?_⟩
  have := (List.all_eq_true.1 h3) c hc
  exact of_decide_eq_true this
theorem wset_facts {c : UInt8} (h : c ∈ wset) : ldB c ∧ isST c = false ∧ escB htmlPs c = [c] ∧ c ≠ 93 ∧ ∀ o : Opt, parserOf o c = .nil := by
  simp only [wset, List.mem_cons, List.mem_nil_iff, or_false] at h
  rcases h with rfl | rfl | rfl | rfl | rfl | rfl
  all_goals exact ⟨by unfold ldB; decide, by decide, by decide, by decide, fun o => rfl⟩
theorem esc_id {s : List UInt8} (h : ∀ c ∈ s, escB htmlPs c = [c]) : escS htmlPs s = s := by
  induction s with
  | nil => rfl
  | cons c s ih => rw [escS_cons, h c (List.mem_cons_self ..), ih (fun d hd => h d (List.mem_cons_of_mem _ hd))]; rfl
theorem trim_word {t : List UInt8} (hne : t ≠ []) (h : ∀ c ∈ t, isST c = false) : trimLR isST (t ++ [32]) = t := by
  obtain ⟨c, s, rfl⟩ : ∃ c s, t = c :: s := by cases t with | nil => exact absurd rfl hne | cons c s => exact ⟨c, s, rfl⟩
  have hc := h c (List.mem_cons_self ..)
  unfold trimLR trimR
  rw [List.cons_append, List.dropWhile_cons, hc]
  obtain ⟨m, d, hm⟩ : ∃ m d, c :: s = m ++ [d] := by
    rcases List.eq_nil_or_concat (c :: s) with h0 | ⟨m, d, h0⟩
    · cases h0
    · exact ⟨m, d, by rw [h0, List.concat_eq_append]⟩
  have hd : isST d = false := h d (by rw [hm]; simp)
  have e : (c :: (s ++ [32])).reverse = 32 :: d :: m.reverse := by
    rw [← List.cons_append, hm]; simp
  simp only [Bool.false_eq_true, if_false]
  rw [e, List.dropWhile_cons_of_pos (by decide), List.dropWhile_cons_of_neg (by simp [hd])]
  rw [hm]; simp
def hTail (t id : List UInt8) : List UInt8 := (t ++ [32]) ++ 123 :: 35 :: (id ++ [125])
theorem html_head {o : Opt} {lv : Nat} {t id : List UInt8} (hoff : o.auto = false) (h1 : 1 ≤ lv) (h6 : lv ≤ 6) (ht : wordM t = true) (hi : wordM id = true) :
    ParsesTo o (hLine lv (hTail t id)) (hOpen lv (if o.ids then id else []) ++ (if o.ids then t else hTail t id) ++ hClose lv) := by
  obtain ⟨t1, t2, t3⟩ := word_of ht
  obtain ⟨i1, i2, i3⟩ := word_of hi
  have hlen : (hLine lv (hTail t id)).length = lv + 1 + (t.length + id.length + 4) := by simp [hLine, hTail]; omega
  have hmemT : ∀ c ∈ hTail t id, c ∈ wset ∨ c = 32 ∨ c = 123 ∨ c = 35 ∨ c = 125 := by
    intro c hc
    simp only [hTail, List.mem_append, List.mem_cons, List.mem_nil_iff, or_false] at hc
    rcases hc with (hc | hc) | hc | hc | hc | hc
    · exact .inl (t3 c hc)
    · exact .inr (.inl hc)
    · exact .inr (.inr (.inl hc))
    · exact .inr (.inr (.inr (.inl hc)))
    · exact .inl (i3 c hc)
    · exact .inr (.inr (.inr (.inr hc)))
  have hmem : ∀ c : UInt8, c.toNat < 32 → c ∉ hLine lv (hTail t id) := by
    intro c hc hm
    simp only [hLine, List.mem_append, List.mem_cons, List.mem_replicate] at hm
    rcases hm with hm | hm | hm
    · rw [hm.2] at hc; exact absurd hc (by decide)
    · rw [hm] at hc; exact absurd hc (by decide)
    · rcases hmemT c hm with h | h | h | h | h
      · have := (wset_facts h).1
        unfold ldB at this; omega
      all_goals (rw [h] at hc; exact absurd hc (by decide))
  have hst := hLine_str (lv := lv) (hTail t id)
  have hTm : hTail t id = ((t ++ [32]) ++ 123 :: 35 :: id) ++ [125] := by simp [hTail]
  obtain ⟨c0, t0, hc0⟩ : ∃ c0 t0, id = c0 :: t0 := by cases id with | nil => exact absurd rfl i1 | cons c s => exact ⟨c, s, rfl⟩
  obtain ⟨m0, d0, hd0⟩ : ∃ m0 d0, id = m0 ++ [d0] := by
    rcases List.eq_nil_or_concat id with h0 | ⟨m, d, h0⟩
    · exact absurd h0 i1
    · exact ⟨m, d, by rw [h0, List.concat_eq_append]⟩
  have hok : (lnOf (hLine lv (hTail t id))).ok := ⟨by simp [lnOf], by simp [lnOf], by show (hLine lv (hTail t id)).length < _; omega, by simp [lnOf]⟩
  have hok' : ({ lnOf (hLine lv (hTail t id)) with i := lv + 1 } : Ln).ok := ⟨by show lv + 1 ≤ (hLine lv (hTail t id)).length; omega, by simp [lnOf], by show (hLine lv (hTail t id)).length < _; omega, by simp [lnOf]⟩
  have hI : InlineOK o (if o.ids then t ++ [32] else (t ++ [32]) ++ 123 :: 35 :: (id ++ [125])) (ab (if o.ids then t else hTail t id)) := by
    split
    · rename_i ho
      have htr := trim_word t1 (fun c hc => (wset_facts (t3 c hc)).2.1)
      have := plainText_inline (o := o) (s := t ++ [32]) hoff (by simp; omega) (by rw [htr]; intro c hc; exact ⟨(wset_facts (t3 c hc)).2.2.2.2 o, (wset_facts (t3 c hc)).2.2.2.1⟩) (by rw [htr]; exact t1)
      rw [htr, esc_id (fun c hc => (wset_facts (t3 c hc)).2.2.1)] at this
      exact this
    · have htr : trimLR isST (hTail t id) = hTail t id := by
        obtain ⟨a, s, ha⟩ : ∃ a s, t = a :: s := by cases t with | nil => exact absurd rfl t1 | cons c s => exact ⟨c, s, rfl⟩
        have hst := (wset_facts (t3 a (by rw [ha]; exact List.mem_cons_self ..))).2.1
        unfold trimLR
        have e1 : (hTail t id).dropWhile isST = hTail t id := by
          rw [hTail, ha, List.cons_append, List.cons_append, List.dropWhile_cons, hst]; rfl
        rw [e1, hTm, trimR_id (by decide)]
      have := plainText_inline (o := o) (s := hTail t id) hoff (by simp [hTail]; omega) (by
        rw [htr]; intro c hc
        rcases hmemT c hc with h | h | h | h | h
        · exact ⟨(wset_facts h).2.2.2.2 o, (wset_facts h).2.2.2.1⟩
        all_goals (subst h; exact ⟨rfl, by decide⟩)) (by rw [htr, hTm]; simp)
      rw [htr, esc_id (fun c hc => by
        rcases hmemT c hc with h | h | h | h | h
        · exact (wset_facts h).2.2.1
        all_goals (subst h; decide))] at this
      exact this
  intro σ R L w pb h ho hR
  refine parseHead_ok (A := t ++ [32]) h ho hok (hLine_blank h1 _) (hLine_quote h1 _) hok' (by rw [hst]; simp [hTail]; omega) (hLine_heading h1 h6 _) (by rw [hst, hTm, trimR_id (by decide)]; simp) hc0 hd0 (fun c hc => (wset_facts (i3 c hc)).1) (by omega) (by omega) (idx_none (hmem 0 (by decide))) (idx_none (hmem 10 (by decide))) (idx_none (hmem 13 (by decide))) (by intro h0; rw [h0] at hlen; simp at hlen) hI fun w db k DM DM' hP h => hR w db k DM DM' _ hP ?_ h
  simp [ab]
def optIds : Opt := ⟨true, false, false, false, false, false, false, false, false, false⟩
theorem repeat_hash : ∀ n, Lib.repeatL [35] n = List.replicate n 35
  | 0 => rfl
  | n + 1 => by rw [Lib.repeatL, repeat_hash n]; simp [List.replicate_succ]
theorem fnHeadID_ok {n : Int} {x y : ByteArray} (h : Sat σ w L) (hR : ∀ w, Sat σ w L → R (.returned (.bool true)) w) : callE P i_laws_FnHeadID #[.int .i64 n, .string x, .string y] R w := by
  rw [bs_of x, bs_of y]
  generalize x.data.toList = t
  generalize y.data.toList = id
  refine g_laws_FnHeadID.sound ?_
  refine br_split (fun _ => hR w h) (fun hsz => ?_)
  have hs : t.length ≤ 2147483647 ∧ id.length ≤ 2147483647 := by simp at hsz; omega
  unfold g_laws_FnHeadID.k1
  refine br_split (fun _ => hR w h) (fun hlv => ?_)
  obtain ⟨lv, rfl⟩ : ∃ lv : Nat, n = lv := ⟨n.toNat, by simp at hlv; omega⟩
  have h16 : 1 ≤ lv ∧ lv ≤ 6 := by simp at hlv; omega
  refine word_ok (by omega) ⟨_, rfl, ?_⟩
  refine br_split (fun _ => hR w h) (fun ht => ?_)
  refine word_ok (by omega) ⟨_, rfl, ?_⟩
  refine br_split (fun _ => hR w h) (fun hi => ?_)
  simp only [Bool.not_eq_false'] at ht hi
  have tl := (word_of ht).2.1
  have il := (word_of hi).2.1
  have hmax : IntKind.i64.max = 9223372036854775807 := rfl
  unfold g_laws_FnHeadID.k2
  refine repeat_ok (s := [35]) (by simp; omega) (by omega) h fun w h => ⟨_, rfl, ?_⟩
  rw [repeat_hash]
  rw [show ByteArray.mk #[32] = bs [32] from rfl, show ByteArray.mk #[32, 123, 35] = bs [32, 123, 35] from rfl, show ByteArray.mk #[125] = bs [125] from rfl, show ByteArray.mk #[104] = bs [104] from rfl, show ByteArray.mk #[60] = bs [60] from rfl, show ByteArray.mk #[32, 105, 100, 61, 34] = bs [32, 105, 100, 61, 34] from rfl, show ByteArray.mk #[34, 62] = bs [34, 62] from rfl, show ByteArray.mk #[60, 47] = bs [60, 47] from rfl, show ByteArray.mk #[62, 10] = bs [62, 10] from rfl, show ByteArray.mk #[62] = bs [62] from rfl, show ByteArray.mk #[125, 60, 47] = bs [125, 60, 47] from rfl]
  simp only [bs_append, bs_size, hmax, List.length_append, List.length_cons, List.length_nil, List.length_replicate]
  refine ⟨by omega, by omega, by omega, by omega, by omega, ?_⟩
  refine digits_ok (b := 10) (by omega) (by omega) 300 lv _ w (by omega) (by omega) h fun w h => ⟨_, rfl, ?_⟩
  have hdg : digM 10 300 lv = dig1 lv := by rw [digM, if_pos (by omega)]; rfl
  have dl := dig1_length lv
  rw [hdg]
  simp only [bs_append, bs_size, List.length_append, List.length_cons, List.length_nil, List.length_replicate]
  have eraw : List.replicate lv 35 ++ [32] ++ t ++ [32, 123, 35] ++ id ++ [125] = hLine lv (hTail t id) := by simp [hLine, hTail]
  rw [eraw]
  refine ⟨by omega, ?_⟩
  have hlo : ∀ id : List UInt8, id.length ≤ 20 → (hOpen lv id).length ≤ 1000 := by
    intro id hid
    have hesc := escS_length (ps := htmlPs) (by decide) id
    unfold hOpen
    simp only [List.length_append, List.length_cons, List.length_nil]
    split
    · simp only [List.length_nil]; omega
    · simp only [List.length_append, List.length_cons, List.length_nil]; omega
  have hlc : (hClose lv).length ≤ 10 := by unfold hClose; simp only [List.length_append, List.length_cons, List.length_nil]; omega
  have hid0 : id ≠ [] := (word_of hi).1
  have hesc : escS htmlPs id = id := esc_id (fun c hc => (wset_facts ((word_of hi).2.2 c hc)).2.2.1)
  show callE P i_impl_HTML #[optV optIds, .string (bs (hLine lv (hTail t id)))] _ w
  refine html_ok (html_head (o := optIds) rfl h16.1 h16.2 ht hi) (by
    have := hlo id il
    show (hOpen lv id ++ t ++ hClose lv).length ≤ _
    simp only [List.length_append]; omega) h fun w h => ⟨_, rfl, ?_⟩
  refine ⟨by omega, by omega, by omega, by omega, by omega, by omega, by omega, by omega, ?_⟩
  refine br_true ?_ ?_
  · simp only [bs_toList]
    show (hOpen lv id ++ t ++ hClose lv == _) = true
    unfold hOpen hClose
    rw [if_neg hid0, hesc]
    simp
  show callE P i_impl_HTML #[optV ⟨false, false, false, false, false, false, false, false, false, false⟩, .string (bs (hLine lv (hTail t id)))] _ w
  refine html_ok (html_head (o := ⟨false, false, false, false, false, false, false, false, false, false⟩) rfl h16.1 h16.2 ht hi) (by
    have := hlo [] (by simp)
    show (hOpen lv [] ++ hTail t id ++ hClose lv).length ≤ _
    simp only [List.length_append, hTail, List.length_cons, List.length_nil]; omega) h fun w h => ⟨_, rfl, ?_⟩
  refine ⟨by omega, by omega, by omega, by omega, by omega, by omega, by omega, by omega, ?_⟩
  have e : (hOpen lv [] ++ hTail t id ++ hClose lv == [60] ++ ([104] ++ dig1 lv) ++ [62] ++ t ++ [32, 123, 35] ++ id ++ [125, 60, 47] ++ ([104] ++ dig1 lv) ++ [62, 10]) = true := by
    unfold hOpen hClose hTail
    simp
  simp only [bs_toList]
  have hfin := hR w h
  rw [← e] at hfin
  exact hfin
end Go.Proofs.YtmicoampfglaiaaGreatDoor
