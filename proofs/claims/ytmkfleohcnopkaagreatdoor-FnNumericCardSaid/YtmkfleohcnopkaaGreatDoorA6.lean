/- Part 6 of the proof of the law FnNumeric: for every input the law returns true, the inputs read as they did, and memory that was there is as it was; under the conditions of the given row alone. Holds: G_parseState_autoLinkText InlEnd Dots1 G_Parser_Parse G_impl_HTML G_impl_parser G_laws_headed G_laws_only G_Parser_parse OneLine Html FnDots1 Num2 Scan Small Num3 G_Emph_PrintHTML G_Strong_PrintHTML Print3 G_laws_printable G_spec_EscapeHTML LawFns FnNumeric1. -/
import Derived.Test.YtmkfleohcnopkaaGreatDoorA5
set_option linter.all false
set_option linter.unusedVariables false
set_option maxRecDepth 20000
namespace Go.Proofs.YtmkfleohcnopkaaGreatDoor
open Go.Proofs
/- 70 (*pub-paratext/pub/rscmarkdown.parseState).autoLinkText -/
noncomputable def g_parseState_autoLinkText.body : Code := bodyOf Tryz.f70
def g_parseState_autoLinkText.k1 (R : Ending → World → Prop) (Xa : Option Addr → Option Addr → Nat → Nat → Option Addr → Nat → Nat → Option Addr → Nat → Nat → Int → Int → World → Prop) (x0 : Option Addr) (x1q : Option Addr) (x1n : Nat) (x1c : Nat) (x5q : Option Addr) (x5n : Nat) (x5c : Nat) (x9q : Option Addr) (x9n : Nat) (x9c : Nat) (x22q : Option Addr) (x22n : Nat) (x22c : Nat) (x23 : Int) (x24 : Int) (w : World) : Prop :=
 ∃ (r47q : Option Addr), ∃ (r47n : Nat), ∃ (r47c : Nat), ∃ w48, (Builtin.append_ #[ty_S_Inline, ty_S_Inline] ty_S_Inline #[.slice x5q x5n x5c, .slice x9q x9n x9c]).run P w = .ok (.slice r47q r47n r47c) w48 ∧
 Xa x0 x1q x1n x1c r47q r47n r47c x22q x22n x22c x23 (IntKind.i64.wrap (x24 + 1)) w48

def g_parseState_autoLinkText.k2 (R : Ending → World → Prop) (Xa : Option Addr → Option Addr → Nat → Nat → Option Addr → Nat → Nat → Option Addr → Nat → Nat → Int → Int → World → Prop) (x0 : Option Addr) (x1q : Option Addr) (x1n : Nat) (x1c : Nat) (x5q : Option Addr) (x5n : Nat) (x5c : Nat) (x7 : Value) (x22q : Option Addr) (x22n : Nat) (x22c : Nat) (x23 : Int) (x24 : Int) (w : World) : Prop :=
 ∃ (r49 : Bool), ∃ w50, (do eqGuard .neq ty_S_Inline (.tmp 87) (.const (.slice none 0 0)) (.slice x5q x5n x5c) (.slice none 0 0); binOp .neq ty_S_Inline (.slice x5q x5n x5c) (.slice none 0 0)).run P w = .ok (.bool r49) w50 ∧
 br r49
 (∃ (r51q : Option Addr), ∃ (r51n : Nat), ∃ (r51c : Nat), ∃ w52, (Instr.buildSlice ty_S_Inline 1 #[(0, x7)]).run P w50 = .ok (.slice r51q r51n r51c) w52 ∧
 ∃ (r53q : Option Addr), ∃ (r53n : Nat), ∃ (r53c : Nat), ∃ w54, (Builtin.append_ #[ty_S_Inline, ty_S_Inline] ty_S_Inline #[.slice x5q x5n x5c, .slice r51q r51n r51c]).run P w52 = .ok (.slice r53q r53n r53c) w54 ∧
 Xa x0 x1q x1n x1c r53q r53n r53c x22q x22n x22c x23 (IntKind.i64.wrap (x24 + 1)) w54)
 (Xa x0 x1q x1n x1c x5q x5n x5c x22q x22n x22c x23 (IntKind.i64.wrap (x24 + 1)) w50)

def g_parseState_autoLinkText.bl1 (R : Ending → World → Prop) (Xa : Option Addr → Option Addr → Nat → Nat → Option Addr → Nat → Nat → Option Addr → Nat → Nat → Int → Int → World → Prop) (x0 : Option Addr) (x1q : Option Addr) (x1n : Nat) (x1c : Nat) (x5q : Option Addr) (x5n : Nat) (x5c : Nat) (x22q : Option Addr) (x22n : Nat) (x22c : Nat) (x23 : Int) (x24 : Int) (w : World) : Prop :=
 br (decide (x24 < x23))
 (0 ≤ x24 ∧ x24 < (x22n : Int) ∧
 nilP x22q fun a5 =>
 ∃ (v6 : Value), w.cell? (a5.add (Int.toNat x24 * 1)) = some v6 ∧
 ∃ (r7_0 : Option Addr), ∃ (r7_1 : Bool), ∃ w8, (Instr.typeAssert v6 ty_Inline ty_P_Plain true).run P w = .ok (.tuple #[.pointer r7_0, .bool r7_1]) w8 ∧
 br r7_1
 (nilP r7_0 fun a9 =>
 ∃ (v10 : ByteArray), w8.cell? a9 = some (.string v10) ∧
 callE P i_parseState_autoLinkPlain #[.pointer x0, .string v10] (fun e w12 => ∃ (r11q : Option Addr), ∃ (r11n : Nat), ∃ (r11c : Nat), e = .returned (.slice r11q r11n r11c) ∧
 ∃ (r13 : Bool), ∃ w14, (do eqGuard .neq ty_S_Inline (.tmp 39) (.const (.slice none 0 0)) (.slice r11q r11n r11c) (.slice none 0 0); binOp .neq ty_S_Inline (.slice r11q r11n r11c) (.slice none 0 0)).run P w12 = .ok (.bool r13) w14 ∧
 br r13
 (∃ (r15 : Bool), ∃ w16, (do eqGuard .eql ty_S_Inline (.tmp 41) (.const (.slice none 0 0)) (.slice x5q x5n x5c) (.slice none 0 0); binOp .eql ty_S_Inline (.slice x5q x5n x5c) (.slice none 0 0)).run P w14 = .ok (.bool r15) w16 ∧
 br r15
 (∃ (r17q : Option Addr), ∃ (r17n : Nat), ∃ (r17c : Nat), ∃ w18, (Instr.sliceAt ty_S_Inline (.slice x1q x1n x1c) none (some (.int .i64 x24)) none).run P w16 = .ok (.slice r17q r17n r17c) w18 ∧
 ∃ (r19q : Option Addr), ∃ (r19n : Nat), ∃ (r19c : Nat), ∃ w20, (Builtin.append_ #[ty_S_Inline, ty_S_Inline] ty_S_Inline #[.slice x5q x5n x5c, .slice r17q r17n r17c]).run P w18 = .ok (.slice r19q r19n r19c) w20 ∧
 g_parseState_autoLinkText.k1 R Xa x0 x1q x1n x1c r19q r19n r19c r11q r11n r11c x22q x22n x22c x23 x24 w20)
 (g_parseState_autoLinkText.k1 R Xa x0 x1q x1n x1c x5q x5n x5c r11q r11n r11c x22q x22n x22c x23 x24 w16))
 (g_parseState_autoLinkText.k2 R Xa x0 x1q x1n x1c x5q x5n x5c v6 x22q x22n x22c x23 x24 w14)) w8)
 (∃ (r21_0 : Option Addr), ∃ (r21_1 : Bool), ∃ w22, (Instr.typeAssert v6 ty_Inline ty_P_Strong true).run P w8 = .ok (.tuple #[.pointer r21_0, .bool r21_1]) w22 ∧
 br r21_1
 (nilP r21_0 fun a23 =>
 ∃ (v24q : Option Addr), ∃ (v24n : Nat), ∃ (v24c : Nat), w22.cell? (a23.add 1) = some (.slice v24q v24n v24c) ∧
 callE P i_parseState_autoLinkText #[.pointer x0, .slice v24q v24n v24c] (fun e w26 => ∃ (r25q : Option Addr), ∃ (r25n : Nat), ∃ (r25c : Nat), e = .returned (.slice r25q r25n r25c) ∧
 nilP r21_0 fun a27 =>
 stV w26 ((a27.add 1).add 0) (.slice r25q r25n r25c) fun w28 =>
 g_parseState_autoLinkText.k2 R Xa x0 x1q x1n x1c x5q x5n x5c v6 x22q x22n x22c x23 x24 w28) w22)
 (∃ (r29_0 : Option Addr), ∃ (r29_1 : Bool), ∃ w30, (Instr.typeAssert v6 ty_Inline ty_P_Del true).run P w22 = .ok (.tuple #[.pointer r29_0, .bool r29_1]) w30 ∧
 br r29_1
 (nilP r29_0 fun a31 =>
 ∃ (v32q : Option Addr), ∃ (v32n : Nat), ∃ (v32c : Nat), w30.cell? (a31.add 1) = some (.slice v32q v32n v32c) ∧
 callE P i_parseState_autoLinkText #[.pointer x0, .slice v32q v32n v32c] (fun e w34 => ∃ (r33q : Option Addr), ∃ (r33n : Nat), ∃ (r33c : Nat), e = .returned (.slice r33q r33n r33c) ∧
 nilP r29_0 fun a35 =>
 stV w34 ((a35.add 1).add 0) (.slice r33q r33n r33c) fun w36 =>
 g_parseState_autoLinkText.k2 R Xa x0 x1q x1n x1c x5q x5n x5c v6 x22q x22n x22c x23 x24 w36) w30)
 (∃ (r37_0 : Option Addr), ∃ (r37_1 : Bool), ∃ w38, (Instr.typeAssert v6 ty_Inline ty_P_Emph true).run P w30 = .ok (.tuple #[.pointer r37_0, .bool r37_1]) w38 ∧
 br r37_1
 (nilP r37_0 fun a39 =>
 ∃ (v40q : Option Addr), ∃ (v40n : Nat), ∃ (v40c : Nat), w38.cell? (a39.add 1) = some (.slice v40q v40n v40c) ∧
 callE P i_parseState_autoLinkText #[.pointer x0, .slice v40q v40n v40c] (fun e w42 => ∃ (r41q : Option Addr), ∃ (r41n : Nat), ∃ (r41c : Nat), e = .returned (.slice r41q r41n r41c) ∧
 nilP r37_0 fun a43 =>
 stV w42 ((a43.add 1).add 0) (.slice r41q r41n r41c) fun w44 =>
 g_parseState_autoLinkText.k2 R Xa x0 x1q x1n x1c x5q x5n x5c v6 x22q x22n x22c x23 x24 w44) w38)
 (g_parseState_autoLinkText.k2 R Xa x0 x1q x1n x1c x5q x5n x5c v6 x22q x22n x22c x23 x24 w38)))))
 (∃ (r45 : Bool), ∃ w46, (do eqGuard .eql ty_S_Inline (.tmp 94) (.const (.slice none 0 0)) (.slice x5q x5n x5c) (.slice none 0 0); binOp .eql ty_S_Inline (.slice x5q x5n x5c) (.slice none 0 0)).run P w = .ok (.bool r45) w46 ∧
 br r45
 (R (.returned (.slice x1q x1n x1c)) w46)
 (R (.returned (.slice x5q x5n x5c)) w46))
def g_parseState_autoLinkText.l1 (R : Ending → World → Prop) (x0 : Option Addr) (x1q : Option Addr) (x1n : Nat) (x1c : Nat) (x5q : Option Addr) (x5n : Nat) (x5c : Nat) (x22q : Option Addr) (x22n : Nat) (x22c : Nat) (x23 : Int) (x24 : Int) (w : World) : Prop :=
  ∀ X : Option Addr → Option Addr → Nat → Nat → Option Addr → Nat → Nat → Option Addr → Nat → Nat → Int → Int → World → Prop, (∀ x0 x1q x1n x1c x5q x5n x5c x22q x22n x22c x23 x24 w, g_parseState_autoLinkText.bl1 R X x0 x1q x1n x1c x5q x5n x5c x22q x22n x22c x23 x24 w → X x0 x1q x1n x1c x5q x5n x5c x22q x22n x22c x23 x24 w) → X x0 x1q x1n x1c x5q x5n x5c x22q x22n x22c x23 x24 w

noncomputable def g_parseState_autoLinkText.al1 (R : Ending → World → Prop) (Xa : Option Addr → Option Addr → Nat → Nat → Option Addr → Nat → Nat → Option Addr → Nat → Nat → Int → Int → World → Prop) : AC :=
  (.seq (.leaf (sel [1, 1, 1, 0, 1, 0, 0, 0] g_parseState_autoLinkText.body)) (.seq (.leaf (sel [1, 1, 1, 0, 1, 0, 0, 1, 0] g_parseState_autoLinkText.body)) (.seq (.block 1 (.seq (.leaf (sel [1, 1, 1, 0, 1, 0, 0, 1, 1, 0, 0, 0] g_parseState_autoLinkText.body)) (.seq (.seq (.leaf (sel [1, 1, 1, 0, 1, 0, 0, 1, 1, 0, 0, 1, 0, 0] g_parseState_autoLinkText.body)) (.block 2 (.seq (.leaf (sel [1, 1, 1, 0, 1, 0, 0, 1, 1, 0, 0, 1, 0, 1, 0, 0] g_parseState_autoLinkText.body)) (.cond 31 (.seq (.leaf (sel [1, 1, 1, 0, 1, 0, 0, 1, 1, 0, 0, 1, 0, 1, 0, 1, 0, 0] g_parseState_autoLinkText.body)) (.seq (.leaf (sel [1, 1, 1, 0, 1, 0, 0, 1, 1, 0, 0, 1, 0, 1, 0, 1, 0, 1, 0] g_parseState_autoLinkText.body)) (.seq (.leaf (sel [1, 1, 1, 0, 1, 0, 0, 1, 1, 0, 0, 1, 0, 1, 0, 1, 0, 1, 1, 0] g_parseState_autoLinkText.body)) (.cond 40 (.seq (.leaf (sel [1, 1, 1, 0, 1, 0, 0, 1, 1, 0, 0, 1, 0, 1, 0, 1, 0, 1, 1, 1, 0, 0] g_parseState_autoLinkText.body)) (.mark (leaf [(0, .s .ptr), (1, .s .slice), (5, .s .slice), (9, .s .slice), (22, .s .slice), (23, .s (.int .i64)), (24, .s (.int .i64))] (g_parseState_autoLinkText.k1 R Xa)) (.leaf (sel [1, 1, 1, 0, 1, 0, 0, 1, 1, 0, 0, 1, 0, 1, 0, 1, 0, 1, 1, 1, 0, 1] g_parseState_autoLinkText.body)))) (.leaf (sel [1, 1, 1, 0, 1, 0, 0, 1, 1, 0, 0, 1, 0, 1, 0, 1, 0, 1, 1, 1, 1] g_parseState_autoLinkText.body)))))) (.leaf (sel [1, 1, 1, 0, 1, 0, 0, 1, 1, 0, 0, 1, 0, 1, 0, 1, 1] g_parseState_autoLinkText.body)))))) (.mark (leaf [(0, .s .ptr), (1, .s .slice), (5, .s .slice), (7, .s .any), (22, .s .slice), (23, .s (.int .i64)), (24, .s (.int .i64))] (g_parseState_autoLinkText.k2 R Xa)) (.leaf (sel [1, 1, 1, 0, 1, 0, 0, 1, 1, 0, 0, 1, 1] g_parseState_autoLinkText.body)))))) (.leaf (sel [1, 1, 1, 0, 1, 0, 0, 1, 1, 1] g_parseState_autoLinkText.body)))))
def g_parseState_autoLinkText (R : Ending → World → Prop) (x0 : Option Addr) (x1q : Option Addr) (x1n : Nat) (x1c : Nat) (w : World) : Prop :=
 nilP x0 fun a1 =>
 ∃ (v2 : Option Addr), w.cell? a1 = some (.pointer v2) ∧
 nilP v2 fun a3 =>
 ∃ (v4 : Bool), w.cell? (a3.add 3) = some (.bool v4) ∧
 br (!v4)
 (R (.returned (.slice x1q x1n x1c)) w)
 (g_parseState_autoLinkText.l1 R x0 x1q x1n x1c none 0 0 x1q x1n x1c (x1n : Int) 0 w)

noncomputable def g_parseState_autoLinkText.ac (R : Ending → World → Prop) : AC :=
  (.seq (.leaf (sel [0] g_parseState_autoLinkText.body)) (.seq (.leaf (sel [1, 0] g_parseState_autoLinkText.body)) (.seq (.leaf (sel [1, 1, 0] g_parseState_autoLinkText.body)) (.seq (.seq (.leaf (sel [1, 1, 1, 0, 0] g_parseState_autoLinkText.body)) (.block 0 (.loop (leaf [(0, .s .ptr), (1, .s .slice), (5, .s .slice), (22, .s .slice), (23, .s (.int .i64)), (24, .s (.int .i64))] (g_parseState_autoLinkText.l1 R)) (sel [1, 1, 1, 0, 1, 0, 0] g_parseState_autoLinkText.body)))) (.leaf (sel [1, 1, 1, 1] g_parseState_autoLinkText.body))))))
theorem g_parseState_autoLinkText.good (R : Ending → World → Prop) : Good P 98 (g_parseState_autoLinkText.ac R) (QF P [.tmp 4] R) :=
  ⟨trivial, ⟨trivial, ⟨trivial, ⟨⟨trivial, (loopG (g_parseState_autoLinkText.al1 R) (g_parseState_autoLinkText.bl1 R) (fun _ => by kernel_rfl) (fun Xa => ⟨trivial, ⟨trivial, ⟨⟨trivial, ⟨⟨trivial, ⟨trivial, ⟨⟨trivial, ⟨trivial, ⟨trivial, ⟨⟨trivial, ⟨trivial, cutE (by intro x0 x1q x1n x1c x5q x5n x5c x9q x9n x9c x22q x22n x22c x23 x24 ρ w; kernel_rfl)⟩⟩, trivial⟩⟩⟩⟩, trivial⟩⟩⟩, ⟨trivial, cutE (by intro x0 x1q x1n x1c x5q x5n x5c x7 x22q x22n x22c x23 x24 ρ w; kernel_rfl)⟩⟩⟩, trivial⟩⟩⟩) (fun Xa => by intro x0 x1q x1n x1c x5q x5n x5c x22q x22n x22c x23 x24 ρ w; kernel_rfl) (fun X h _ _ _ _ _ _ _ _ _ _ _ _ _ g => g X h))⟩, trivial⟩⟩⟩⟩
theorem g_parseState_autoLinkText.eq (R : Ending → World → Prop) (x0 : Option Addr) (x1q : Option Addr) (x1n : Nat) (x1c : Nat) (w : World) : g_parseState_autoLinkText R x0 x1q x1n x1c w = vcA P 98 (g_parseState_autoLinkText.ac R) (QF P [.tmp 4] R) (fr0 [.pointer x0, .slice x1q x1n x1c]) w := by kernel_rfl
theorem g_parseState_autoLinkText.sound {R : Ending → World → Prop} {x0 : Option Addr} {x1q : Option Addr} {x1n : Nat} {x1c : Nat} {w : World} (h : g_parseState_autoLinkText R x0 x1q x1n x1c w) : callE P i_parseState_autoLinkText #[.pointer x0, .slice x1q x1n x1c] R w :=
  callE_fin (c := g_parseState_autoLinkText.body) Tryz.func70 Tryz.call70 (by kernel_rfl) (by kernel_rfl) (by kernel_rfl) (by kernel_rfl) (by kernel_rfl) (g_parseState_autoLinkText.good R) (g_parseState_autoLinkText.eq R x0 x1q x1n x1c w) h
end Go.Proofs.YtmkfleohcnopkaaGreatDoor

/- The end of inline. -/
set_option linter.unusedVariables false
namespace Go.Proofs.YtmkfleohcnopkaaGreatDoor
open Go.Proofs Go.IntWalk Go.RowKit
variable {σ : Out} {w : World} {L L' : List Chunk} {R : Ending → World → Prop}
def EmphOK (ts ts' : List Inl) : Prop :=
  ∀ (σ : Out) (R : Ending → World → Prop) (pq q : Option Addr) (n c : Nat) vs RM EM L w, Sl 1 ty_Inline q n c vs RM → InlsAt ts vs EM → n < 1073741823 → Sat σ w (RM ++ (EM ++ L)) →
    (∀ w q' n' c' vs' RM' EM', Sl 1 ty_Inline q' n' c' vs' RM' → n' ≤ n → InlsAt ts' vs' EM' → Sat σ w (RM' ++ (EM' ++ L)) → R (.returned (.slice q' n' c')) w) →
    callE P i_parseState_emph #[.pointer pq, .slice q 0 c, .slice q n c] R w
theorem emphOK_none {ts : List Inl} (hno : ∀ t ∈ ts, t.ty ≠ ty_P_openPlain ∧ t.ty ≠ ty_P_emphPlain) : EmphOK ts ts := by
  intro σ R pq q n c vs RM EM L w hS hI hn h hR
  exact emph_none_ok hS hI hno (by omega) h fun w h => hR w q n c vs RM EM hS (Nat.le_refl _) hI h
theorem autoOff_ok {b pb : Nat} {p : PS} {o : Opt} {q : Option Addr} {n c : Nat} (hpz : p.pz = some ⟨pb, 0, none⟩) (hp : p.at b ∈ L) (ho : o.at pb ∈ L) (hoff : o.auto = false) (h : Sat σ w L) (hR : R (.returned (.slice q n c)) w) :
    callE P i_parseState_autoLinkText #[.pointer (some ⟨b, 0, none⟩), .slice q n c] R w := by
  refine g_parseState_autoLinkText.sound ?_
  refine nilP_some ⟨_, by rw [← hpz]; exact Sat.ld h hp rfl, nilP_some ?_⟩
  simp only [Addr.add_lit, Nat.zero_add]
  exact ⟨o.auto, Sat.ld h ho rfl, br_true (by rw [hoff]; rfl) hR⟩
theorem inl_end {X : XI} {b pb e : Nat} {p : PS} {o : Opt} {ts ts' : List Inl} {opens : List Nat} {oq : Option Addr} {on oc : Nat} {lo : Int} {bk : Bool} (h : IIn σ b p ts opens oq on oc L w) (he : p.em = e) (hs : p.s.length < 1000000000)
    (hn : ts.length < 1000000000) (hpz : p.pz = some ⟨pb, 0, none⟩) (ho : o.at pb ∈ L) (hoff : o.auto = false) (hE : EmphOK (emitM p.s e p.s.length ts) ts') (hpos : ∀ t ∈ ts', ∀ s, t.plain? = some s → s ≠ []) (hb : plen ts' < 1073741824)
    (hR : ∀ w (p' : PS) q n c vs RM EM, p'.core = p.core → Sl 1 ty_Inline q n c vs RM → n < 1073741824 → InlsAt (mergeM ts') vs EM → Sat σ w (p'.at b :: (RM ++ (EM ++ L))) → R (.returned (.slice q n c)) w) :
    g_parseState_inline.bl1 R X (some ⟨b, 0, none⟩) (bs p.s) oq on oc lo bk (p.s.length : Nat) w := by
  have elen : (emitM p.s e p.s.length ts).length ≤ ts.length + 1 := by unfold emitM; split <;> simp
  refine br_false (by simp) ?_
  rw [bs_size]
  refine emitI_ok h he (Nat.le_refl _) (by omega) fun w p1 hp1 _ _ h => ⟨rfl, ?_⟩
  obtain ⟨vs, RM, EM, OM, hS, hI, hO, hlen, h⟩ := h
  have hvl := hI.length
  have hn0 := hS.1
  have hnc := hS.2.1
  have c1 : p1.pz = p.pz := by have := congrArg PS.pz hp1; exact this
  refine Sat.tk h fun w h => ?_
  refine nilP_some (nilP_some ?_)
  refine ⟨_, _, _, Sat.ld h (by first | assumption | (repeat (first | exact .head _ | apply List.Mem.tail))) (by exact rfl), ?_⟩
  refine ⟨_, _, _, fun w => sliceT rowInl.ht rowInl.hi _ _ _ 0 (by omega) w, ?_⟩
  refine ⟨_, _, _, Sat.ld h (by first | assumption | (repeat (first | exact .head _ | apply List.Mem.tail))) (by exact rfl), ?_⟩
  have h : Sat σ w (RM ++ (EM ++ (p1.at b :: (OM ++ L)))) := h.re (by intro _; simp only [List.append_eq, cnt_append, cnt_cons, cnt_nil] <;> omega)
  refine hE σ _ _ p1.lq p1.ln p1.lc vs RM EM _ w hS hI (by omega) h fun w q' n' c' vs' RM' EM' hS' hnn hI' h => ⟨_, _, _, rfl, nilP_some ?_⟩
  have h : Sat σ w (p1.at b :: (RM' ++ (EM' ++ (OM ++ L)))) := h.re (by intro _; simp only [List.append_eq, cnt_append, cnt_cons, cnt_nil] <;> omega)
  refine Sat.st h (k := 0) rfl (Nat.le_of_ble_eq_true rfl) trivial (by first | (dsimp only [List.set]; exact rfl) | exact rfl) fun w h => ?_
  let p2 : PS := { p1 with lq := q', ln := n', lc := c' }
  have h : Sat σ w (p2.at b :: (RM' ++ (EM' ++ (OM ++ L)))) := h
  refine nilP_some ?_
  refine ⟨_, _, _, Sat.ld h (by first | assumption | (repeat (first | exact .head _ | apply List.Mem.tail))) (by exact rfl), ?_⟩
  have h : Sat σ w (RM' ++ (EM' ++ (p2.at b :: (OM ++ L)))) := h.re (by intro _; simp only [List.append_eq, cnt_append, cnt_cons, cnt_nil] <;> omega)
  refine mergePlain_ok (n := n') hS' hI' hpos hb (by omega) h fun w n2 vs2 RM2 EM2 hS2 hn2 hI2 h => ⟨_, _, _, rfl, nilP_some ?_⟩
  have h : Sat σ w (p2.at b :: (RM2 ++ (EM2 ++ (OM ++ L)))) := h.re (by intro _; simp only [List.append_eq, cnt_append, cnt_cons, cnt_nil] <;> omega)
  refine Sat.st h (k := 0) rfl (Nat.le_of_ble_eq_true rfl) trivial (by first | (dsimp only [List.set]; exact rfl) | exact rfl) fun w h => ?_
  let p3 : PS := { p1 with lq := q', ln := n2, lc := c' }
  have h : Sat σ w (p3.at b :: (RM2 ++ (EM2 ++ (OM ++ L)))) := h
  refine nilP_some ?_
  refine ⟨_, _, _, Sat.ld h (by first | assumption | (repeat (first | exact .head _ | apply List.Mem.tail))) (by exact rfl), ?_⟩
  refine autoOff_ok (p := p3) (by rw [← hpz, ← c1]) (.head _) (.tail _ (List.mem_append_right _ (List.mem_append_right _ (List.mem_append_right _ ho)))) hoff h ⟨_, _, _, rfl, nilP_some ?_⟩
  refine Sat.st h (k := 0) rfl (Nat.le_of_ble_eq_true rfl) trivial (by first | (dsimp only [List.set]; exact rfl) | exact rfl) fun w h => ?_
  refine nilP_some ?_
  refine ⟨_, _, _, Sat.ld h (by first | assumption | (repeat (first | exact .head _ | apply List.Mem.tail))) (by exact rfl), ?_⟩
  have h : Sat σ w (p3.at b :: (RM2 ++ (EM2 ++ (OM ++ L)))) := h
  exact hR w p3 q' n2 c' vs2 RM2 EM2 (by rw [← hp1]; rfl) hS2 (by omega) hI2 (h.less OM (by intro _; simp only [List.append_eq, cnt_append, cnt_cons, cnt_nil] <;> omega))
/-- The beginning of inline. -/
theorem inl_begin {b : Nat} {p : PS} {raw : List UInt8} (h : Sat σ w (p.at b :: L)) (hl : raw.length < 4611686018427387904)
    (hK : ∀ w, IIn σ b { p with s := trimLR isST raw, em := 0, lq := none, ln := 0, lc := 0 } [] [] none 0 0 L w → g_parseState_inline.l1 R (some ⟨b, 0, none⟩) (bs (trimLR isST raw)) none 0 0 0 false 0 w) :
    callE P i_parseState_inline #[.pointer (some ⟨b, 0, none⟩), .string (bs raw)] R w := by
  refine g_parseState_inline.sound ?_
  refine trimSpaceTab_ok hl ⟨_, rfl, nilP_some ?_⟩
  refine Sat.st h (k := 0) rfl (Nat.le_of_ble_eq_true rfl) trivial (by first | (dsimp only [List.set]; exact rfl) | exact rfl) fun w h => ?_
  refine nilP_some ?_
  refine Sat.st h (k := 0) rfl (Nat.le_of_ble_eq_true rfl) trivial (by first | (dsimp only [List.set]; exact rfl) | exact rfl) fun w h => ?_
  refine nilP_some ?_
  refine Sat.st h (k := 0) rfl (Nat.le_of_ble_eq_true rfl) trivial (by first | (dsimp only [List.set]; exact rfl) | exact rfl) fun w h => ?_
  exact hK w ⟨[], [], [], [], Sl.nil _ _, ⟨rfl, rfl⟩, Sl.nil _ _, by simp, h⟩
end Go.Proofs.YtmkfleohcnopkaaGreatDoor

/- Smart dots: the inlines of a line of letters, spaces and full stops. -/
set_option linter.unusedVariables false
namespace Go.Proofs.YtmkfleohcnopkaaGreatDoor
open Go.Proofs Go.IntWalk Go.RowKit
variable {σ : Out} {w : World} {L L' : List Chunk} {R : Ending → World → Prop}
def dots3 (s : List UInt8) (i : Nat) : Bool := decide (i + 2 < s.length) && (s.getD (i + 1) 0 == 46) && (s.getD (i + 2) 0 == 46)
theorem bt_getD {l : List UInt8} {i : Nat} (d : UInt8) (n : Int) (hd : (d.toNat : Int) = n) : (bt (bs l) (i : Int) == n) = (l.getD i 0 == d) := by
  subst hd
  rw [bs_bt, u8_beq]
theorem parseDot_ok {q : Option Addr} {s : List UInt8} {i : Nat} (hs : s.length < 4611686018427387904) (hi : i < s.length) (h : Sat σ w L)
    (hR : if dots3 s i then ∀ w nb, Sat σ w (plainC nb [226, 128, 166] :: L) → R (.returned (.tuple #[ptrV ty_P_Plain nb, .int .i64 i, .int .i64 ((i + 3 : Nat) : Int), .bool true])) w
      else R (.returned (.tuple #[.nilIface, .int .i64 0, .int .i64 0, .bool false])) w) :
    callE P i_parseDot #[.pointer q, .string (bs s), .int .i64 i] R w := by
  refine g_parseDot.sound ?_
  have e1 : IntKind.i64.wrap ((i : Int) + 1) = ((i + 1 : Nat) : Int) := i64_inc (by omega)
  have e2 : IntKind.i64.wrap ((i : Int) + 2) = ((i + 2 : Nat) : Int) := by simp (disch := omega) only [i64_in]; rfl
  have e3 : IntKind.i64.wrap ((i : Int) + 3) = ((i + 3 : Nat) : Int) := by simp (disch := omega) only [i64_in]; rfl
  have hd : (((decide (((i + 2 : Nat) : Int) < ((bs s).size : Int))) && ((bt (bs s) ((i + 1 : Nat) : Int)) == 46)) && ((bt (bs s) ((i + 2 : Nat) : Int)) == 46)) = dots3 s i := by
    rw [bt_getD 46 46 rfl, bt_getD 46 46 rfl, bs_size]
    unfold dots3
    congr 2
    simp only [decide_eq_decide]
    omega
  unfold g_parseDot
  rw [e1, e2, hd]
  refine ⟨fun h => ?_, fun h => ?_, ?_⟩
  · simp at h; simp; omega
  · simp at h; simp; omega
  · unfold g_parseDot.k1
    rw [e3]
    split at hR
    · rename_i hd
      rw [hd]
      exact Sat.bx h fun nb w h => hR w nb h
    · rename_i hd
      rw [Bool.not_eq_true] at hd
      rw [hd]
      exact hR
def dotRes (s : List UInt8) (i : Nat) : Option (Inl × Nat × Nat) := if dots3 s i then some (.plain [226, 128, 166], i, i + 3) else none
theorem parseDot_leaf {b i : Nat} {p : PS} {s : List UInt8} (hs : s.length < 4611686018427387904) (hi : i < s.length) : LeafOK b p s i (.func (.func i_parseDot) #[] #[]) [] (dotRes s i) (fun p' => p' = p) := by
  intro σ R L w _ h hR
  refine enter_fn ?_
  refine parseDot_ok hs hi h ?_
  unfold dotRes at hR
  split
  · rename_i hd
    rw [if_pos hd] at hR
    exact fun w nb h => hR w p _ _ rfl rfl ⟨nb, [], _, rfl, rfl⟩ h.up1
  · rename_i hd
    rw [if_neg hd] at hR
    exact hR w p _ 0 0 rfl rfl h
/-- Each three full stops, from the left. -/
def ell : List UInt8 → List UInt8
  | [] => []
  | [a] => [a]
  | [a, b] => [a, b]
  | a :: b :: c :: s => if a = 46 ∧ b = 46 ∧ c = 46 then [226, 128, 166] ++ ell s else a :: ell (b :: c :: s)
theorem ell_dots {s : List UInt8} {i : Nat} (hi : i < s.length) (h46 : s[i] = 46) (hd : dots3 s i = true) : ell (s.drop i) = [226, 128, 166] ++ ell (s.drop (i + 3)) := by
  simp only [dots3, Bool.and_eq_true, decide_eq_true_eq] at hd
  obtain ⟨⟨h0, h1⟩, h2⟩ := hd
  rw [List.getD_eq_getElem?_getD, List.getElem?_eq_getElem (by omega)] at h1 h2
  simp at h1 h2
  rw [List.drop_eq_getElem_cons hi, List.drop_eq_getElem_cons (show i + 1 < s.length by omega), List.drop_eq_getElem_cons (show i + 2 < s.length by omega), ell, if_pos ⟨h46, h1, h2⟩]
theorem ell_step {s : List UInt8} {i : Nat} (hi : i < s.length) (h : s[i] = 46 → dots3 s i = false) : ell (s.drop i) = s[i] :: ell (s.drop (i + 1)) := by
  rw [List.drop_eq_getElem_cons hi]
  by_cases h1 : i + 1 < s.length
  · rw [List.drop_eq_getElem_cons h1]
    by_cases h2 : i + 2 < s.length
    · rw [List.drop_eq_getElem_cons h2, ell, if_neg]
      rintro ⟨ha, hb, hc⟩
      have := h ha
      simp [dots3, List.getD_eq_getElem?_getD, h2, h1, hb, hc] at this
    · rw [List.drop_eq_nil_of_le (by omega)]; rfl
  · rw [List.drop_eq_nil_of_le (by omega)]; rfl
def isDotText (s : List UInt8) : Bool := s.all fun c => c == 120 || c == 97 || c == 98 || c == 32 || c == 46
theorem parserOf_dot {o : Opt} {c : UInt8} (hd : o.dot = true) (hc : (c == 120 || c == 97 || c == 98 || c == 32 || c == 46) = true) : (c = 46 ∧ parserOf o c = .fn i_parseDot) ∨ (c ≠ 46 ∧ c ≠ 93 ∧ parserOf o c = .nil) := by
  simp only [Bool.or_eq_true, beq_iff_eq] at hc
  rcases hc with (((rfl | rfl) | rfl) | rfl) | rfl
  all_goals simp [parserOf, hd]
theorem sub_append {s : List UInt8} {e i j : Nat} (h1 : e ≤ i) (h2 : i ≤ j) (h3 : j ≤ s.length) : sub s e i ++ sub s i j = sub s e j := by
  unfold sub
  have e1 : (s.take j).take i = s.take i := by rw [List.take_take, Nat.min_eq_left h2]
  have e2 : (s.take j).drop e = ((s.take j).take i ++ (s.take j).drop i).drop e := by rw [List.take_append_drop]
  rw [e2, List.drop_append_of_le_length (by rw [List.length_take, List.length_take]; omega), e1]
theorem sub_one {s : List UInt8} {i : Nat} (h : i < s.length) : sub s i (i + 1) = [s[i]] := by
  unfold sub
  rw [List.take_succ_eq_append_getElem h, List.drop_append_of_le_length (by rw [List.length_take]; omega), List.drop_eq_nil_of_le (by rw [List.length_take]; omega)]
  rfl
theorem sub_self (s : List UInt8) (i : Nat) : sub s i i = [] := List.drop_eq_nil_of_le (by rw [List.length_take]; omega)
theorem sub_length {s : List UInt8} {i j : Nat} (h : j ≤ s.length) : (sub s i j).length = j - i := by unfold sub; rw [List.length_drop, List.length_take]; omega
theorem emitM_plain {s : List UInt8} {e i : Nat} {us : List (List UInt8)} (he : e ≤ i) (hi : i ≤ s.length) (hne : ∀ u ∈ us, u ≠ []) :
    ∃ us' : List (List UInt8), emitM s e i (us.map .plain) = us'.map .plain ∧ us'.flatten = us.flatten ++ sub s e i ∧ (∀ u ∈ us', u ≠ []) ∧ us'.length ≤ us.length + 1 := by
  unfold emitM
  split
  · rename_i h
    refine ⟨us ++ [sub s e i], by simp, by simp, ?_, by simp⟩
    intro u hu
    rcases List.mem_append.1 hu with hu | hu
    · exact hne u hu
    · simp at hu; subst hu
      intro h0
      have := sub_length (i := e) hi
      rw [h0] at this; simp at this; omega
  · have : e = i := by omega
    subst this
    exact ⟨us, rfl, by rw [sub_self]; simp, hne, by omega⟩
theorem mergeGo_plain : ∀ (us : List (List UInt8)) (p : List (List UInt8)), mergeGo p (us.map .plain) = flushP (p ++ us)
  | [], p => by simp [mergeGo]
  | u :: us, p => by simp [mergeGo, Inl.plain?, mergeGo_plain us]
theorem plen_plain : ∀ us : List (List UInt8), plen (us.map .plain) = us.flatten.length
  | [] => rfl
  | u :: us => by simp [plen, Inl.plain?, plen_plain us]
theorem ell_length : ∀ s : List UInt8, (ell s).length ≤ s.length
  | [] => by simp [ell]
  | [a] => by simp [ell]
  | [a, b] => by simp [ell]
  | a :: b :: c :: s => by
    have h1 := ell_length s
    have h2 := ell_length (b :: c :: s)
    rw [ell]
    split
    · simp; omega
    · simp at h2 ⊢; omega
theorem inlineDots_ok {b pb : Nat} {p : PS} {o : Opt} {raw : List UInt8} (h : Sat σ w (p.at b :: L)) (hpz : p.pz = some ⟨pb, 0, none⟩) (ho : o.at pb ∈ L) (hoff : o.auto = false) (hdot : o.dot = true) (hl : raw.length < 1000000) (hne : raw ≠ [])
    (htr : trimLR isST raw = raw) (hD : isDotText raw = true)
    (hR : ∀ w (p' : PS) q n c vs RM EM, ({ p' with s := [] } : PS).core = ({ p with s := [] } : PS).core → Sl 1 ty_Inline q n c vs RM → n < 1073741824 → InlsAt [.plain (ell raw)] vs EM → Sat σ w (p'.at b :: (RM ++ (EM ++ L))) → R (.returned (.slice q n c)) w) :
    callE P i_parseState_inline #[.pointer (some ⟨b, 0, none⟩), .string (bs raw)] R w := by
  refine inl_begin h (by omega) fun w h => ?_
  rw [htr] at h ⊢
  intro X hX
  have key : ∀ k i e (us : List (List UInt8)) (p1 : PS) oq on oc w, i + k ≤ raw.length + 2 → raw.length ≤ i + k → i ≤ raw.length → e ≤ i → us.length ≤ e → (∀ u ∈ us, u ≠ []) → ({ p1 with s := [] } : PS).core = ({ p with s := [] } : PS).core → p1.s = raw → p1.em = e →
      us.flatten ++ sub raw e i ++ ell (raw.drop i) = ell raw → IIn σ b p1 (us.map .plain) [] oq on oc L w → X (some ⟨b, 0, none⟩) (bs raw) oq on oc 0 false (i : Int) w := by
    intro k
    induction k using Nat.strongRecOn with
    | ind k ih =>
      intro i e us p1 oq on oc w hik hik2 hil he hul hune hc hs hem hel h
      have hpz1 : p1.pz = some ⟨pb, 0, none⟩ := by have := congrArg PS.pz hc; rw [← hpz]; exact this
      refine hX _ _ _ _ _ _ _ _ _ ?_
      rcases Nat.lt_or_ge i raw.length with hlt | hge
      · obtain ⟨vs, RM, EM, OM, hS, hI, hO, hlen, hsat⟩ := h
        have on0 : on = 0 := by have := hO.1; simp at this; omega
        have h : IIn σ b p1 (us.map .plain) [] oq on oc L w := ⟨vs, RM, EM, OM, hS, hI, hO, hlen, hsat⟩
        refine inl_dispatch (p := p1) hlt (by omega) hpz1 (.head _) (.tail _ (List.mem_append_right _ (List.mem_append_right _ (List.mem_append_right _ ho)))) hsat ?_
        have hch : (raw[i] == 120 || raw[i] == 97 || raw[i] == 98 || raw[i] == 32 || raw[i] == 46) = true := (List.all_eq_true.1 hD) raw[i] (List.getElem_mem hlt)
        have next : ∀ (p2 : PS) w, p2 = p1 → IIn σ b p2 (us.map .plain) [] oq on oc L w → (raw[i] = 46 → dots3 raw i = false) → X (some ⟨b, 0, none⟩) (bs raw) oq on oc 0 false ((i + 1 : Nat) : Int) w := by
          intro p2 w hp2 h2 hnd
          rw [hp2] at h2
          refine ih (k - 1) (by omega) (i + 1) e us p1 oq on oc w (by omega) (by omega) (by omega) (by omega) hul hune hc hs hem ?_ h2
          rw [← hel, ell_step hlt hnd, ← sub_append (show e ≤ i from he) (show i ≤ i + 1 by omega) (by omega), sub_one hlt]
          simp
        rcases parserOf_dot hdot hch with ⟨h46, hp⟩ | ⟨h46, h93, hp⟩
        · rw [hp]
          dsimp only
          have hleaf := parseDot_leaf (b := b) (p := p1) (show raw.length < 4611686018427387904 by omega) hlt
          rw [← hs] at hleaf
          cases hd : dots3 raw i with
          | true =>
            have hres : dotRes p1.s i = some (.plain [226, 128, 166], i, i + 3) := by unfold dotRes; rw [hs, hd]; rfl
            rw [hres] at hleaf
            have hi3 : i + 3 ≤ raw.length := by simp [dots3] at hd; omega
            rw [← hs]
            refine inl_leaf h (by simp) hleaf hem (by rw [hs]; omega) (by rw [hs]; omega) (by simp; omega) (by simp) fun w p2 oq on oc hp2 hem2 _ h2 => ?_
            obtain ⟨us', hu1, hu2, hu3, hu4⟩ := emitM_plain (s := p1.s) he (by rw [hs]; omega) hune
            rw [hs]
            refine ih (k - 3) (by omega) (i + 3) (i + 3) (us' ++ [[226, 128, 166]]) p2 oq on oc w (by omega) (by omega) hi3 (Nat.le_refl _) (by simp; omega) ?_ ?_ ?_ hem2 ?_ ?_
            · intro u hu
              rcases List.mem_append.1 hu with hu | hu
              · exact hu3 u hu
              · simp at hu; subst hu; simp
            · rw [← hc]
              have := congrArg (fun q : PS => ({ q with s := [] } : PS)) hp2
              exact this
            · have := congrArg PS.s hp2; rw [← hs]; exact this
            · rw [sub_self, ← hel, ell_dots hlt h46 hd]
              rw [List.flatten_append, hu2, hs]
              simp
            · rw [hu1] at h2
              simpa [Inl.isOpen] using h2
          | false =>
            have hres : dotRes p1.s i = none := by unfold dotRes; rw [hs, hd]; rfl
            rw [hres] at hleaf
            rw [← hs]
            refine inl_decl h (by simp) hleaf fun w p2 _ hp2 h2 => ?_
            rw [hs]
            exact inl_k5 hlt (by omega) (.inr on0) (next p2 w hp2 h2 fun _ => hd)
        · rw [hp]
          exact inl_none (inl_k5 hlt (by omega) (.inr on0) (next p1 w rfl h fun h => absurd h h46))
      · have hi : i = raw.length := by omega
        obtain ⟨us', hu1, hu2, hu3, hu4⟩ := emitM_plain (s := p1.s) (e := e) (i := p1.s.length) (by rw [hs]; omega) (Nat.le_refl _) hune
        have hfl : us'.flatten = ell raw := by
          rw [hu2, hs, ← hel, hi, List.drop_length]; simp [ell]
        have hus : us' ≠ [] := by
          intro h0
          rw [h0] at hfl
          have h1 : ell raw = [] := by rw [← hfl]; rfl
          match raw, hne, h1 with
          | [a], _, h1 => simp [ell] at h1
          | [a, b], _, h1 => simp [ell] at h1
          | a :: b :: c :: s, _, h1 => rw [ell] at h1; split at h1 <;> simp at h1
        have := inl_end (R := R) (X := X) (lo := 0) (bk := false) (ts' := us'.map .plain) h hem (by rw [hs]; omega) (by simp; omega) hpz1 ho hoff (by rw [hu1]; exact emphOK_none (by intro t ht; obtain ⟨u, _, rfl⟩ := List.mem_map.1 ht; exact ⟨by simp only [Inl.ty]; decide, by simp only [Inl.ty]; decide⟩))
          (by intro t ht s hs'; obtain ⟨u, hu, rfl⟩ := List.mem_map.1 ht; simp only [Inl.plain?, Option.some.injEq] at hs'; subst hs'; exact hu3 u hu)
          (by rw [plen_plain, hfl]; have := ell_length raw; omega)
          (fun w p2 q n c vs RM EM hp2 hS hn hI h => hR w p2 q n c vs RM EM (by rw [← hc]; have := congrArg (fun q : PS => ({ q with s := [] } : PS)) hp2; exact this) hS hn (by
            have e : mergeM (us'.map .plain) = [.plain (ell raw)] := by rw [mergeM, mergeGo_plain, List.nil_append, flushP, if_neg hus, hfl]
            rw [← e]; exact hI) h)
        rw [hs] at this
        rw [hi]
        exact this
  have := key raw.length 0 0 [] { p with s := raw, em := 0, lq := none, ln := 0, lc := 0 } none 0 0 w (by omega) (by omega) (by omega) (Nat.le_refl _) (by simp) (by simp) rfl rfl rfl (by rw [sub_self]; simp) h
  exact this
end Go.Proofs.YtmkfleohcnopkaaGreatDoor

set_option linter.unusedVariables false
set_option maxRecDepth 20000
namespace Go.Proofs.YtmkfleohcnopkaaGreatDoor
open Go.Proofs
/- 19 (*pub-paratext/pub/rscmarkdown.Parser).Parse -/
noncomputable def g_Parser_Parse.body : Code := bodyOf Tryz.f19
def g_Parser_Parse (R : Ending → World → Prop) (x0 : Option Addr) (x1 : ByteArray) (w : World) : Prop :=
 callE P i_Parser_parse #[.pointer x0, .string x1] (fun e w2 => ∃ (r1_0 : Option Addr), ∃ (r1_1 : Bool), e = .returned (.tuple #[.pointer r1_0, .bool r1_1]) ∧
 R (.returned (.pointer r1_0)) w2) w

noncomputable def g_Parser_Parse.ac (R : Ending → World → Prop) : AC :=
  (.leaf (sel [] g_Parser_Parse.body))
theorem g_Parser_Parse.good (R : Ending → World → Prop) : Good P 14 (g_Parser_Parse.ac R) (QF P [.tmp 4] R) :=
  trivial
theorem g_Parser_Parse.eq (R : Ending → World → Prop) (x0 : Option Addr) (x1 : ByteArray) (w : World) : g_Parser_Parse R x0 x1 w = vcA P 14 (g_Parser_Parse.ac R) (QF P [.tmp 4] R) (fr0 [.pointer x0, .string x1]) w := by kernel_rfl
theorem g_Parser_Parse.sound {R : Ending → World → Prop} {x0 : Option Addr} {x1 : ByteArray} {w : World} (h : g_Parser_Parse R x0 x1 w) : callE P i_Parser_Parse #[.pointer x0, .string x1] R w :=
  callE_fin (c := g_Parser_Parse.body) Tryz.func19 Tryz.call19 (by kernel_rfl) (by kernel_rfl) (by kernel_rfl) (by kernel_rfl) (by kernel_rfl) (g_Parser_Parse.good R) (g_Parser_Parse.eq R x0 x1 w) h
end Go.Proofs.YtmkfleohcnopkaaGreatDoor

set_option linter.unusedVariables false
set_option maxRecDepth 20000
namespace Go.Proofs.YtmkfleohcnopkaaGreatDoor
open Go.Proofs
/- 8 pub-paratext/impl.HTML -/
noncomputable def g_impl_HTML.body : Code := bodyOf Tryz.f8
def g_impl_HTML (R : Ending → World → Prop) (x0_0 : Bool) (x0_1 : Bool) (x0_2 : Bool) (x0_3 : Bool) (x0_4 : Bool) (x0_5 : Bool) (x0_6 : Bool) (x0_7 : Bool) (x0_8 : Bool) (x0_9 : Bool) (x1 : ByteArray) (w : World) : Prop :=
 box w #[.bool x0_0, .bool x0_1, .bool x0_2, .bool x0_3, .bool x0_4, .bool x0_5, .bool x0_6, .bool x0_7, .bool x0_8, .bool x0_9] ty_impl_Options fun b1 w2 =>
 ∃ (v3 : Bool), w2.cell? ⟨b1, 0, none⟩ = some (.bool v3) ∧
 ∃ (v4 : Bool), w2.cell? ⟨b1, 1, none⟩ = some (.bool v4) ∧
 ∃ (v5 : Bool), w2.cell? ⟨b1, 2, none⟩ = some (.bool v5) ∧
 ∃ (v6 : Bool), w2.cell? ⟨b1, 3, none⟩ = some (.bool v6) ∧
 ∃ (v7 : Bool), w2.cell? ⟨b1, 4, none⟩ = some (.bool v7) ∧
 ∃ (v8 : Bool), w2.cell? ⟨b1, 5, none⟩ = some (.bool v8) ∧
 ∃ (v9 : Bool), w2.cell? ⟨b1, 6, none⟩ = some (.bool v9) ∧
 ∃ (v10 : Bool), w2.cell? ⟨b1, 7, none⟩ = some (.bool v10) ∧
 ∃ (v11 : Bool), w2.cell? ⟨b1, 8, none⟩ = some (.bool v11) ∧
 ∃ (v12 : Bool), w2.cell? ⟨b1, 9, none⟩ = some (.bool v12) ∧
 callE P i_impl_parser #[.agg #[.bool v3, .bool v4, .bool v5, .bool v6, .bool v7, .bool v8, .bool v9, .bool v10, .bool v11, .bool v12]] (fun e w14 => ∃ (r13 : Option Addr), e = .returned (.pointer r13) ∧
 callE P i_Parser_Parse #[.pointer r13, .string x1] (fun e w16 => ∃ (r15 : Option Addr), e = .returned (.pointer r15) ∧
 callE P i_ToHTML #[.iface ty_P_Document (.pointer r15)] (fun e w18 => ∃ (r17 : ByteArray), e = .returned (.string r17) ∧
 R (.returned (.string r17)) w18) w16) w14) w2

noncomputable def g_impl_HTML.ac (R : Ending → World → Prop) : AC :=
  (.leaf (sel [] g_impl_HTML.body))
theorem g_impl_HTML.good (R : Ending → World → Prop) : Good P 11 (g_impl_HTML.ac R) (QF P [.tmp 4] R) :=
  trivial
theorem g_impl_HTML.eq (R : Ending → World → Prop) (x0_0 : Bool) (x0_1 : Bool) (x0_2 : Bool) (x0_3 : Bool) (x0_4 : Bool) (x0_5 : Bool) (x0_6 : Bool) (x0_7 : Bool) (x0_8 : Bool) (x0_9 : Bool) (x1 : ByteArray) (w : World) : g_impl_HTML R x0_0 x0_1 x0_2 x0_3 x0_4 x0_5 x0_6 x0_7 x0_8 x0_9 x1 w = vcA P 11 (g_impl_HTML.ac R) (QF P [.tmp 4] R) (fr0 [.agg #[.bool x0_0, .bool x0_1, .bool x0_2, .bool x0_3, .bool x0_4, .bool x0_5, .bool x0_6, .bool x0_7, .bool x0_8, .bool x0_9], .string x1]) w := by kernel_rfl
theorem g_impl_HTML.sound {R : Ending → World → Prop} {x0_0 : Bool} {x0_1 : Bool} {x0_2 : Bool} {x0_3 : Bool} {x0_4 : Bool} {x0_5 : Bool} {x0_6 : Bool} {x0_7 : Bool} {x0_8 : Bool} {x0_9 : Bool} {x1 : ByteArray} {w : World} (h : g_impl_HTML R x0_0 x0_1 x0_2 x0_3 x0_4 x0_5 x0_6 x0_7 x0_8 x0_9 x1 w) : callE P i_impl_HTML #[.agg #[.bool x0_0, .bool x0_1, .bool x0_2, .bool x0_3, .bool x0_4, .bool x0_5, .bool x0_6, .bool x0_7, .bool x0_8, .bool x0_9], .string x1] R w :=
  callE_fin (c := g_impl_HTML.body) Tryz.func8 Tryz.call8 (by kernel_rfl) (by kernel_rfl) (by kernel_rfl) (by kernel_rfl) (by kernel_rfl) (g_impl_HTML.good R) (g_impl_HTML.eq R x0_0 x0_1 x0_2 x0_3 x0_4 x0_5 x0_6 x0_7 x0_8 x0_9 x1 w) h
end Go.Proofs.YtmkfleohcnopkaaGreatDoor

set_option linter.unusedVariables false
set_option maxRecDepth 20000
namespace Go.Proofs.YtmkfleohcnopkaaGreatDoor
open Go.Proofs
/- 18 pub-paratext/impl.parser -/
noncomputable def g_impl_parser.body : Code := bodyOf Tryz.f18
def g_impl_parser (R : Ending → World → Prop) (x0_0 : Bool) (x0_1 : Bool) (x0_2 : Bool) (x0_3 : Bool) (x0_4 : Bool) (x0_5 : Bool) (x0_6 : Bool) (x0_7 : Bool) (x0_8 : Bool) (x0_9 : Bool) (w : World) : Prop :=
 box w #[.bool x0_0, .bool x0_1, .bool x0_2, .bool x0_3, .bool x0_4, .bool x0_5, .bool x0_6, .bool x0_7, .bool x0_8, .bool x0_9] ty_impl_Options fun b1 w2 =>
 ∃ (v3 : Bool), w2.cell? ⟨b1, 8, none⟩ = some (.bool v3) ∧
 ∃ (v4 : Bool), w2.cell? ⟨b1, 0, none⟩ = some (.bool v4) ∧
 ∃ (v5 : Bool), w2.cell? ⟨b1, 1, none⟩ = some (.bool v5) ∧
 ∃ (v6 : Bool), w2.cell? ⟨b1, 2, none⟩ = some (.bool v6) ∧
 ∃ (v7 : Bool), w2.cell? ⟨b1, 3, none⟩ = some (.bool v7) ∧
 ∃ (v8 : Bool), w2.cell? ⟨b1, 4, none⟩ = some (.bool v8) ∧
 ∃ (v9 : Bool), w2.cell? ⟨b1, 9, none⟩ = some (.bool v9) ∧
 ∃ (v10 : Bool), w2.cell? ⟨b1, 5, none⟩ = some (.bool v10) ∧
 ∃ (v11 : Bool), w2.cell? ⟨b1, 6, none⟩ = some (.bool v11) ∧
 ∃ (v12 : Bool), w2.cell? ⟨b1, 7, none⟩ = some (.bool v12) ∧
 box w2 #[.bool v3, .bool v4, .bool v5, .bool v6, .bool v7, .bool v8, .bool v9, .bool v10, .bool v11, .bool v12] ty_Parser fun b13 w14 =>
 R (.returned (.pointer (some ⟨b13, 0, none⟩))) w14

noncomputable def g_impl_parser.ac (R : Ending → World → Prop) : AC :=
  (.leaf (sel [] g_impl_parser.body))
theorem g_impl_parser.good (R : Ending → World → Prop) : Good P 25 (g_impl_parser.ac R) (QF P [.tmp 2] R) :=
  trivial
theorem g_impl_parser.eq (R : Ending → World → Prop) (x0_0 : Bool) (x0_1 : Bool) (x0_2 : Bool) (x0_3 : Bool) (x0_4 : Bool) (x0_5 : Bool) (x0_6 : Bool) (x0_7 : Bool) (x0_8 : Bool) (x0_9 : Bool) (w : World) : g_impl_parser R x0_0 x0_1 x0_2 x0_3 x0_4 x0_5 x0_6 x0_7 x0_8 x0_9 w = vcA P 25 (g_impl_parser.ac R) (QF P [.tmp 2] R) (fr0 [.agg #[.bool x0_0, .bool x0_1, .bool x0_2, .bool x0_3, .bool x0_4, .bool x0_5, .bool x0_6, .bool x0_7, .bool x0_8, .bool x0_9]]) w := by kernel_rfl
theorem g_impl_parser.sound {R : Ending → World → Prop} {x0_0 : Bool} {x0_1 : Bool} {x0_2 : Bool} {x0_3 : Bool} {x0_4 : Bool} {x0_5 : Bool} {x0_6 : Bool} {x0_7 : Bool} {x0_8 : Bool} {x0_9 : Bool} {w : World} (h : g_impl_parser R x0_0 x0_1 x0_2 x0_3 x0_4 x0_5 x0_6 x0_7 x0_8 x0_9 w) : callE P i_impl_parser #[.agg #[.bool x0_0, .bool x0_1, .bool x0_2, .bool x0_3, .bool x0_4, .bool x0_5, .bool x0_6, .bool x0_7, .bool x0_8, .bool x0_9]] R w :=
  callE_fin (c := g_impl_parser.body) Tryz.func18 Tryz.call18 (by kernel_rfl) (by kernel_rfl) (by kernel_rfl) (by kernel_rfl) (by kernel_rfl) (g_impl_parser.good R) (g_impl_parser.eq R x0_0 x0_1 x0_2 x0_3 x0_4 x0_5 x0_6 x0_7 x0_8 x0_9 w) h
end Go.Proofs.YtmkfleohcnopkaaGreatDoor

set_option linter.unusedVariables false
set_option maxRecDepth 20000
namespace Go.Proofs.YtmkfleohcnopkaaGreatDoor
open Go.Proofs
/- 20 pub-paratext/laws.headed -/
noncomputable def g_laws_headed.body : Code := bodyOf Tryz.f20
def g_laws_headed (R : Ending → World → Prop) (x0 : ByteArray) (x1 : ByteArray) (w : World) : Prop :=
 br (decide ((x0.size : Int) ≥ (x1.size : Int)))
 (0 ≤ (x1.size : Int) ∧ (x1.size : Int) ≤ (x0.size : Int) ∧
 R (.returned (.bool ((x0.extract 0 (Int.toNat (x1.size : Int))).toList == x1.toList))) w)
 (R (.returned (.bool false)) w)

noncomputable def g_laws_headed.ac (R : Ending → World → Prop) : AC :=
  (.leaf (sel [] g_laws_headed.body))
theorem g_laws_headed.good (R : Ending → World → Prop) : Good P 18 (g_laws_headed.ac R) (QF P [.tmp 4] R) :=
  trivial
theorem g_laws_headed.eq (R : Ending → World → Prop) (x0 : ByteArray) (x1 : ByteArray) (w : World) : g_laws_headed R x0 x1 w = vcA P 18 (g_laws_headed.ac R) (QF P [.tmp 4] R) (fr0 [.string x0, .string x1]) w := by kernel_rfl
theorem g_laws_headed.sound {R : Ending → World → Prop} {x0 : ByteArray} {x1 : ByteArray} {w : World} (h : g_laws_headed R x0 x1 w) : callE P i_laws_headed #[.string x0, .string x1] R w :=
  callE_fin (c := g_laws_headed.body) Tryz.func20 Tryz.call20 (by kernel_rfl) (by kernel_rfl) (by kernel_rfl) (by kernel_rfl) (by kernel_rfl) (g_laws_headed.good R) (g_laws_headed.eq R x0 x1 w) h
end Go.Proofs.YtmkfleohcnopkaaGreatDoor

set_option linter.unusedVariables false
set_option maxRecDepth 20000
namespace Go.Proofs.YtmkfleohcnopkaaGreatDoor
open Go.Proofs
/- 7 pub-paratext/laws.only -/
noncomputable def g_laws_only.body : Code := bodyOf Tryz.f7
def g_laws_only.bl1 (R : Ending → World → Prop) (Xa : ByteArray → ByteArray → Int → Int → World → Prop) (x0 : ByteArray) (x1 : ByteArray) (x13 : Int) (x14 : Int) (w : World) : Prop :=
 br (decide (x14 < x13))
 (0 ≤ x14 ∧ x14 < (x0.size : Int) ∧
 callE P i_strings_IndexByte #[.string x1, .int .u8 (bt x0 x14)] (fun e w2 => ∃ (r1 : Int), e = .returned (.int .i64 r1) ∧
 br (decide (r1 < 0))
 (R (.returned (.bool false)) w2)
 (Xa x0 x1 x13 (IntKind.i64.wrap (x14 + 1)) w2)) w)
 (R (.returned (.bool true)) w)
def g_laws_only.l1 (R : Ending → World → Prop) (x0 : ByteArray) (x1 : ByteArray) (x13 : Int) (x14 : Int) (w : World) : Prop :=
  ∀ X : ByteArray → ByteArray → Int → Int → World → Prop, (∀ x0 x1 x13 x14 w, g_laws_only.bl1 R X x0 x1 x13 x14 w → X x0 x1 x13 x14 w) → X x0 x1 x13 x14 w

noncomputable def g_laws_only.al1 (R : Ending → World → Prop) (Xa : ByteArray → ByteArray → Int → Int → World → Prop) : AC :=
  (.leaf (sel [1, 1, 0, 1, 0, 0] g_laws_only.body))
def g_laws_only (R : Ending → World → Prop) (x0 : ByteArray) (x1 : ByteArray) (x2 : Int) (w : World) : Prop :=
 br (decide ((x0.size : Int) > x2))
 (R (.returned (.bool false)) w)
 (g_laws_only.l1 R x0 x1 (x0.size : Int) 0 w)

noncomputable def g_laws_only.ac (R : Ending → World → Prop) : AC :=
  (.seq (.leaf (sel [0] g_laws_only.body)) (.seq (.leaf (sel [1, 0] g_laws_only.body)) (.seq (.seq (.leaf (sel [1, 1, 0, 0] g_laws_only.body)) (.block 0 (.loop (leaf [(0, .s .str), (1, .s .str), (13, .s (.int .i64)), (14, .s (.int .i64))] (g_laws_only.l1 R)) (sel [1, 1, 0, 1, 0, 0] g_laws_only.body)))) (.leaf (sel [1, 1, 1] g_laws_only.body)))))
theorem g_laws_only.good (R : Ending → World → Prop) : Good P 24 (g_laws_only.ac R) (QF P [.tmp 6] R) :=
  ⟨trivial, ⟨trivial, ⟨⟨trivial, (loopG (g_laws_only.al1 R) (g_laws_only.bl1 R) (fun _ => by kernel_rfl) (fun Xa => trivial) (fun Xa => by intro x0 x1 x13 x14 ρ w; kernel_rfl) (fun X h _ _ _ _ _ g => g X h))⟩, trivial⟩⟩⟩
theorem g_laws_only.eq (R : Ending → World → Prop) (x0 : ByteArray) (x1 : ByteArray) (x2 : Int) (w : World) : g_laws_only R x0 x1 x2 w = vcA P 24 (g_laws_only.ac R) (QF P [.tmp 6] R) (fr0 [.string x0, .string x1, .int .i64 x2]) w := by kernel_rfl
theorem g_laws_only.sound {R : Ending → World → Prop} {x0 : ByteArray} {x1 : ByteArray} {x2 : Int} {w : World} (h : g_laws_only R x0 x1 x2 w) : callE P i_laws_only #[.string x0, .string x1, .int .i64 x2] R w :=
  callE_fin (c := g_laws_only.body) Tryz.func7 Tryz.call7 (by kernel_rfl) (by kernel_rfl) (by kernel_rfl) (by kernel_rfl) (by kernel_rfl) (g_laws_only.good R) (g_laws_only.eq R x0 x1 x2 w) h
end Go.Proofs.YtmkfleohcnopkaaGreatDoor

set_option linter.unusedVariables false
set_option maxRecDepth 20000
namespace Go.Proofs.YtmkfleohcnopkaaGreatDoor
open Go.Proofs
/- 30 (*pub-paratext/pub/rscmarkdown.Parser).parse -/
noncomputable def g_Parser_parse.body : Code := bodyOf Tryz.f30
def g_Parser_parse.k3 (R : Ending → World → Prop) (Xa : Option Addr → ByteArray → Nat → World → Prop) (x0 : Option Addr) (x1 : ByteArray) (x6 : Nat) (x7 : ByteArray) (x10 : Int) (w : World) : Prop :=
 ∃ (v33 : Int), w.cell? ⟨x6, 3, none⟩ = some (.int .i64 v33) ∧
 stV w ⟨x6, 3, none⟩ (.int .i64 (IntKind.i64.wrap (v33 + 1))) fun w34 =>
 callE P i_parseState_addLine #[.pointer (some ⟨x6, 0, none⟩), .agg #[.int .i64 0, .int .i64 0, .int .i64 0, .string x7, .int .u8 x10]] (fun e w36 => e = .returned (.tuple #[]) ∧
 Xa x0 x1 x6 w36) w34

def g_Parser_parse.k4 (R : Ending → World → Prop) (x6 : Nat) (w : World) : Prop :=
 tk w fun w41 =>
 ∃ (v42 : Option Addr), w41.cell? ⟨x6, 1, none⟩ = some (.pointer v42) ∧
 ∃ (v43 : Bool), w41.cell? ⟨x6, 6, none⟩ = some (.bool v43) ∧
 R (.returned (.tuple #[.pointer v42, .bool v43])) w41

def g_Parser_parse.k2 (R : Ending → World → Prop) (Xa : Option Addr → ByteArray → Nat → World → Prop) (x0 : Option Addr) (x1 : ByteArray) (x6 : Nat) (x8 : Int) (x9 : Int) (x10 : Int) (x34 : Bool) (w : World) : Prop :=
 br x34
 (0 ≤ x9 ∧ x9 ≤ (x1.size : Int) ∧
 br (x8 == (IntKind.i64.wrap (x9 + 1)))
 (0 ≤ (IntKind.i64.wrap (x9 + 2)) ∧ (IntKind.i64.wrap (x9 + 2)) ≤ (x1.size : Int) ∧
 g_Parser_parse.k3 R Xa x0 (x1.extract (Int.toNat (IntKind.i64.wrap (x9 + 2))) x1.size) x6 (x1.extract 0 (Int.toNat x9)) 23 w)
 (0 ≤ (IntKind.i64.wrap (x9 + 1)) ∧ (IntKind.i64.wrap (x9 + 1)) ≤ (x1.size : Int) ∧
 g_Parser_parse.k3 R Xa x0 (x1.extract (Int.toNat (IntKind.i64.wrap (x9 + 1))) x1.size) x6 (x1.extract 0 (Int.toNat x9)) 13 w))
 (br (decide (x8 ≥ 0))
 (tk w fun w21 =>
 0 ≤ x8 ∧ x8 ≤ (x1.size : Int) ∧
 0 ≤ (IntKind.i64.wrap (x8 + 1)) ∧ (IntKind.i64.wrap (x8 + 1)) ≤ (x1.size : Int) ∧
 g_Parser_parse.k3 R Xa x0 (x1.extract (Int.toNat (IntKind.i64.wrap (x8 + 1))) x1.size) x6 (x1.extract 0 (Int.toNat x8)) 10 w21)
 (g_Parser_parse.k3 R Xa x0 (ByteArray.mk #[]) x6 x1 x10 w))

def g_Parser_parse.bl3 (R : Ending → World → Prop) (Xb : Nat → Option Addr → Nat → Nat → Int → Int → World → Prop) (x6 : Nat) (x101q : Option Addr) (x101n : Nat) (x101c : Nat) (x102 : Int) (x103 : Int) (w : World) : Prop :=
 br (decide (x103 < x102))
 (0 ≤ x103 ∧ x103 < (x101n : Int) ∧
 nilP x101q fun a37 =>
 ∃ (v38 : Option Addr), w.cell? (a37.add (Int.toNat x103 * 1)) = some (.pointer v38) ∧
 callE P i_parseState_taskList #[.pointer (some ⟨x6, 0, none⟩), .pointer v38] (fun e w40 => e = .returned (.tuple #[]) ∧
 Xb x6 x101q x101n x101c x102 (IntKind.i64.wrap (x103 + 1)) w40) w)
 (g_Parser_parse.k4 R x6 w)
def g_Parser_parse.l3 (R : Ending → World → Prop) (x6 : Nat) (x101q : Option Addr) (x101n : Nat) (x101c : Nat) (x102 : Int) (x103 : Int) (w : World) : Prop :=
  ∀ X : Nat → Option Addr → Nat → Nat → Int → Int → World → Prop, (∀ x6 x101q x101n x101c x102 x103 w, g_Parser_parse.bl3 R X x6 x101q x101n x101c x102 x103 w → X x6 x101q x101n x101c x102 x103 w) → X x6 x101q x101n x101c x102 x103 w

noncomputable def g_Parser_parse.al3 (R : Ending → World → Prop) (Xb : Nat → Option Addr → Nat → Nat → Int → Int → World → Prop) : AC :=
  (.leaf (sel [1, 1, 1, 1, 1, 1, 1, 1, 1, 0, 1, 0, 1, 0, 0] g_Parser_parse.body))
def g_Parser_parse.bl2 (R : Ending → World → Prop) (Xc : Option Addr → Nat → Option Addr → Nat → Nat → Int → Int → World → Prop) (x0 : Option Addr) (x6 : Nat) (x81q : Option Addr) (x81n : Nat) (x81c : Nat) (x82 : Int) (x83 : Int) (w : World) : Prop :=
 br (decide (x83 < x82))
 (0 ≤ x83 ∧ x83 < (x81n : Int) ∧
 nilP x81q fun a22 =>
 ∃ (v23 : Option Addr), w.cell? (a22.add (Int.toNat x83 * 1)) = some (.pointer v23) ∧
 nilP v23 fun a24 =>
 ∃ (v25 : ByteArray), w.cell? (a24.add 3) = some (.string v25) ∧
 callE P i_parseState_inline #[.pointer (some ⟨x6, 0, none⟩), .string v25] (fun e w27 => ∃ (r26q : Option Addr), ∃ (r26n : Nat), ∃ (r26c : Nat), e = .returned (.slice r26q r26n r26c) ∧
 nilP v23 fun a28 =>
 stV w27 ((a28.add 2).add 0) (.slice r26q r26n r26c) fun w29 =>
 Xc x0 x6 x81q x81n x81c x82 (IntKind.i64.wrap (x83 + 1)) w29) w)
 (nilP x0 fun a30 =>
 ∃ (v31 : Bool), w.cell? (a30.add 2) = some (.bool v31) ∧
 br v31
 (∃ (v32q : Option Addr), ∃ (v32n : Nat), ∃ (v32c : Nat), w.cell? ⟨x6, 10, none⟩ = some (.slice v32q v32n v32c) ∧
 g_Parser_parse.l3 R x6 v32q v32n v32c (v32n : Int) 0 w)
 (g_Parser_parse.k4 R x6 w))
def g_Parser_parse.l2 (R : Ending → World → Prop) (x0 : Option Addr) (x6 : Nat) (x81q : Option Addr) (x81n : Nat) (x81c : Nat) (x82 : Int) (x83 : Int) (w : World) : Prop :=
  ∀ X : Option Addr → Nat → Option Addr → Nat → Nat → Int → Int → World → Prop, (∀ x0 x6 x81q x81n x81c x82 x83 w, g_Parser_parse.bl2 R X x0 x6 x81q x81n x81c x82 x83 w → X x0 x6 x81q x81n x81c x82 x83 w) → X x0 x6 x81q x81n x81c x82 x83 w

noncomputable def g_Parser_parse.al2 (R : Ending → World → Prop) (Xc : Option Addr → Nat → Option Addr → Nat → Nat → Int → Int → World → Prop) : AC :=
  (.leaf (sel [1, 1, 1, 1, 1, 1, 1, 1, 0, 1, 0, 0] g_Parser_parse.body))
def g_Parser_parse.bl1 (R : Ending → World → Prop) (Xa : Option Addr → ByteArray → Nat → World → Prop) (x0 : Option Addr) (x1 : ByteArray) (x6 : Nat) (w : World) : Prop :=
 br (!(x1.toList == (ByteArray.mk #[]).toList))
 (callE P i_zzIndex #[.string x1, .string (ByteArray.mk #[10])] (fun e w15 => ∃ (r14 : Int), e = .returned (.int .i64 r14) ∧
 callE P i_zzIndex #[.string x1, .string (ByteArray.mk #[13])] (fun e w17 => ∃ (r16 : Int), e = .returned (.int .i64 r16) ∧
 g_Parser_parse.k2 R Xa x0 x1 x6 r14 r16 0 ((decide (r16 ≥ 0)) && ((decide (r14 < 0)) || (decide (r16 < r14)))) w17) w15) w)
 (callE P i_parseState_trimStack #[.pointer (some ⟨x6, 0, none⟩), .int .i64 0] (fun e w19 => e = .returned (.tuple #[]) ∧
 ∃ (v20q : Option Addr), ∃ (v20n : Nat), ∃ (v20c : Nat), w19.cell? ⟨x6, 11, none⟩ = some (.slice v20q v20n v20c) ∧
 g_Parser_parse.l2 R x0 x6 v20q v20n v20c (v20n : Int) 0 w19) w)
def g_Parser_parse.l1 (R : Ending → World → Prop) (x0 : Option Addr) (x1 : ByteArray) (x6 : Nat) (w : World) : Prop :=
  ∀ X : Option Addr → ByteArray → Nat → World → Prop, (∀ x0 x1 x6 w, g_Parser_parse.bl1 R X x0 x1 x6 w → X x0 x1 x6 w) → X x0 x1 x6 w

noncomputable def g_Parser_parse.al1 (R : Ending → World → Prop) (Xa : Option Addr → ByteArray → Nat → World → Prop) : AC :=
  (.seq (.leaf (sel [1, 1, 1, 1, 1, 1, 0, 0, 0, 0] g_Parser_parse.body)) (.block 1 (.seq (.leaf (sel [1, 1, 1, 1, 1, 1, 0, 0, 0, 1, 0, 0] g_Parser_parse.body)) (.seq (.leaf (sel [1, 1, 1, 1, 1, 1, 0, 0, 0, 1, 0, 1, 0] g_Parser_parse.body)) (.seq (.leaf (sel [1, 1, 1, 1, 1, 1, 0, 0, 0, 1, 0, 1, 1, 0] g_Parser_parse.body)) (.seq (.leaf (sel [1, 1, 1, 1, 1, 1, 0, 0, 0, 1, 0, 1, 1, 1, 0] g_Parser_parse.body)) (.seq (.block 2 (.seq (.leaf (sel [1, 1, 1, 1, 1, 1, 0, 0, 0, 1, 0, 1, 1, 1, 1, 0, 0, 0] g_Parser_parse.body)) (.mark (leaf [(0, .s .ptr), (1, .s .str), (6, .s .loc), (8, .s (.int .i64)), (9, .s (.int .i64)), (10, .s (.int .u8)), (34, .s .bool)] (g_Parser_parse.k2 R Xa)) (.cond 34 (.leaf (sel [1, 1, 1, 1, 1, 1, 0, 0, 0, 1, 0, 1, 1, 1, 1, 0, 0, 1, 0] g_Parser_parse.body)) (.seq (.leaf (sel [1, 1, 1, 1, 1, 1, 0, 0, 0, 1, 0, 1, 1, 1, 1, 0, 0, 1, 1, 0] g_Parser_parse.body)) (.cond 61 (.seq (.draw (.pure 0 (.pure 1 (.pure 2 (.pure 3 (.pure 4 (.pure 5 (.pure 6 (.pure 7 (.pure 8 .done))))))))) (sel [1, 1, 1, 1, 1, 1, 0, 0, 0, 1, 0, 1, 1, 1, 1, 0, 0, 1, 1, 1, 0, 0] g_Parser_parse.body)) (.leaf (sel [1, 1, 1, 1, 1, 1, 0, 0, 0, 1, 0, 1, 1, 1, 1, 0, 0, 1, 1, 1, 0, 1] g_Parser_parse.body))) (.leaf (sel [1, 1, 1, 1, 1, 1, 0, 0, 0, 1, 0, 1, 1, 1, 1, 0, 0, 1, 1, 1, 1] g_Parser_parse.body)))))))) (.mark (leaf [(0, .s .ptr), (1, .s .str), (6, .s .loc), (7, .s .str), (10, .s (.int .u8))] (g_Parser_parse.k3 R Xa)) (.leaf (sel [1, 1, 1, 1, 1, 1, 0, 0, 0, 1, 0, 1, 1, 1, 1, 1] g_Parser_parse.body))))))))))
def g_Parser_parse.k1 (R : Ending → World → Prop) (x0 : Option Addr) (x1 : ByteArray) (x6 : Nat) (w : World) : Prop :=
 stV w ⟨x6, 5, none⟩ (.int .i64 (-1)) fun w9 =>
 box w9 #[] ty_rootBuilder fun b10 w11 =>
 callE P i_parseState_addBlock #[.pointer (some ⟨x6, 0, none⟩), .iface ty_P_rootBuilder (.pointer (some ⟨b10, 0, none⟩))] (fun e w13 => e = .returned (.tuple #[]) ∧
 g_Parser_parse.l1 R x0 x1 x6 w13) w11

def g_Parser_parse (R : Ending → World → Prop) (x0 : Option Addr) (x1 : ByteArray) (w : World) : Prop :=
 box w #[.pointer none, .pointer none, .map none, .int .i64 0, .slice none 0 0, .int .i64 0, .bool false, .string (ByteArray.mk #[]), .int .i64 0, .slice none 0 0, .slice none 0 0, .slice none 0 0, .int .i64 0, .int .i64 0, .int .i64 0, .int .i64 0, .int .i64 0, .int .i64 0, .int .i64 0, .int .i64 0, .int .i64 0, .int .i64 0, .int .i64 0, .int .i64 0, .int .i64 0, .int .i64 0, .int .i64 0, .int .i64 0, .int .i64 0, .int .i64 0, .int .i64 0, .int .i64 0, .int .i64 0, .int .i64 0, .int .i64 0, .int .i64 0, .int .i64 0, .int .i64 0, .int .i64 0, .int .i64 0, .int .i64 0, .int .i64 0, .int .i64 0, .int .i64 0, .int .i64 0, .int .i64 0, .int .i64 0, .int .i64 0, .int .i64 0, .int .i64 0, .int .i64 0, .int .i64 0, .int .i64 0, .int .i64 0, .int .i64 0, .int .i64 0, .int .i64 0, .int .i64 0, .int .i64 0, .int .i64 0, .int .i64 0, .int .i64 0, .int .i64 0, .int .i64 0, .int .i64 0, .int .i64 0, .int .i64 0, .int .i64 0, .int .i64 0, .int .i64 0, .int .i64 0, .int .i64 0, .int .i64 0, .int .i64 0, .int .i64 0, .int .i64 0, .int .i64 0, .int .i64 0, .int .i64 0, .int .i64 0, .int .i64 0, .int .i64 0, .int .i64 0, .int .i64 0, .int .i64 0, .int .i64 0, .int .i64 0, .int .i64 0, .int .i64 0, .int .i64 0, .int .i64 0, .int .i64 0, .bool false] ty_parseState fun b1 w2 =>
 stV w2 ⟨b1, 0, none⟩ (.pointer x0) fun w3 =>
 callE P i_zzContains #[.string x1, .string (ByteArray.mk #[0])] (fun e w5 => ∃ (r4 : Bool), e = .returned (.bool r4) ∧
 br r4
 (callE P i_zzReplaceAll #[.string x1, .string (ByteArray.mk #[0]), .string (ByteArray.mk #[239, 191, 189])] (fun e w7 => ∃ (r6 : ByteArray), e = .returned (.string r6) ∧
 stV w7 ⟨b1, 6, none⟩ (.bool true) fun w8 =>
 g_Parser_parse.k1 R x0 r6 b1 w8) w5)
 (g_Parser_parse.k1 R x0 x1 b1 w5)) w3

noncomputable def g_Parser_parse.ac (R : Ending → World → Prop) : AC :=
  (.seq (.leaf (sel [0] g_Parser_parse.body)) (.seq (.leaf (sel [1, 0] g_Parser_parse.body)) (.seq (.leaf (sel [1, 1, 0] g_Parser_parse.body)) (.seq (.leaf (sel [1, 1, 1, 0] g_Parser_parse.body)) (.mark (leaf [(0, .s .ptr), (1, .s .str), (6, .s .loc)] (g_Parser_parse.k1 R)) (.seq (.leaf (sel [1, 1, 1, 1, 0] g_Parser_parse.body)) (.seq (.leaf (sel [1, 1, 1, 1, 1, 0] g_Parser_parse.body)) (.seq (.block 0 (.loop (leaf [(0, .s .ptr), (1, .s .str), (6, .s .loc)] (g_Parser_parse.l1 R)) (sel [1, 1, 1, 1, 1, 1, 0, 0, 0] g_Parser_parse.body))) (.seq (.leaf (sel [1, 1, 1, 1, 1, 1, 1, 0] g_Parser_parse.body)) (.seq (.seq (.leaf (sel [1, 1, 1, 1, 1, 1, 1, 1, 0, 0] g_Parser_parse.body)) (.block 3 (.loop (leaf [(0, .s .ptr), (6, .s .loc), (81, .s .slice), (82, .s (.int .i64)), (83, .s (.int .i64))] (g_Parser_parse.l2 R)) (sel [1, 1, 1, 1, 1, 1, 1, 1, 0, 1, 0, 0] g_Parser_parse.body)))) (.seq (.seq (.leaf (sel [1, 1, 1, 1, 1, 1, 1, 1, 1, 0, 0] g_Parser_parse.body)) (.cond 99 (.seq (.leaf (sel [1, 1, 1, 1, 1, 1, 1, 1, 1, 0, 1, 0, 0] g_Parser_parse.body)) (.block 5 (.loop (leaf [(6, .s .loc), (101, .s .slice), (102, .s (.int .i64)), (103, .s (.int .i64))] (g_Parser_parse.l3 R)) (sel [1, 1, 1, 1, 1, 1, 1, 1, 1, 0, 1, 0, 1, 0, 0] g_Parser_parse.body)))) (.leaf (sel [1, 1, 1, 1, 1, 1, 1, 1, 1, 0, 1, 1] g_Parser_parse.body)))) (.mark (leaf [(6, .s .loc)] (g_Parser_parse.k4 R)) (.seq (.draw (.pure 0 (.pure 2 (.load 1 (.pure 4 (.load 3 (.pure 5 .done)))))) (sel [1, 1, 1, 1, 1, 1, 1, 1, 1, 1, 0] g_Parser_parse.body)) (.leaf (sel [1, 1, 1, 1, 1, 1, 1, 1, 1, 1, 1] g_Parser_parse.body)))))))))))))))
theorem g_Parser_parse.good (R : Ending → World → Prop) : Good P 114 (g_Parser_parse.ac R) (QF P [.tmp 4, .tmp 5] R) :=
  ⟨trivial, ⟨trivial, ⟨trivial, ⟨trivial, ⟨⟨trivial, ⟨trivial, ⟨(loopG (g_Parser_parse.al1 R) (g_Parser_parse.bl1 R) (fun _ => by kernel_rfl) (fun Xa => ⟨trivial, ⟨trivial, ⟨trivial, ⟨trivial, ⟨trivial, ⟨⟨trivial, ⟨⟨trivial, ⟨trivial, ⟨⟨⟨by kernel_rfl, by kernel_rfl, fun _ _ _ h => h⟩, trivial⟩, trivial⟩⟩⟩, cutE (by intro x0 x1 x6 x8 x9 x10 x34 ρ w; kernel_rfl)⟩⟩, ⟨trivial, cutE (by intro x0 x1 x6 x7 x10 ρ w; kernel_rfl)⟩⟩⟩⟩⟩⟩⟩) (fun Xa => by intro x0 x1 x6 ρ w; kernel_rfl) (fun X h _ _ _ _ g => g X h)), ⟨trivial, ⟨⟨trivial, (loopG (g_Parser_parse.al2 R) (g_Parser_parse.bl2 R) (fun _ => by kernel_rfl) (fun Xc => trivial) (fun Xc => by intro x0 x6 x81q x81n x81c x82 x83 ρ w; kernel_rfl) (fun X h _ _ _ _ _ _ _ _ g => g X h))⟩, ⟨⟨trivial, ⟨⟨trivial, (loopG (g_Parser_parse.al3 R) (g_Parser_parse.bl3 R) (fun _ => by kernel_rfl) (fun Xb => trivial) (fun Xb => by intro x6 x101q x101n x101c x102 x103 ρ w; kernel_rfl) (fun X h _ _ _ _ _ _ _ g => g X h))⟩, trivial⟩⟩, ⟨⟨⟨by kernel_rfl, by kernel_rfl, fun _ _ _ h => h⟩, trivial⟩, cutE (by intro x6 ρ w; kernel_rfl)⟩⟩⟩⟩⟩⟩⟩, cutE (by intro x0 x1 x6 ρ w; kernel_rfl)⟩⟩⟩⟩⟩
theorem g_Parser_parse.eq (R : Ending → World → Prop) (x0 : Option Addr) (x1 : ByteArray) (w : World) : g_Parser_parse R x0 x1 w = vcA P 114 (g_Parser_parse.ac R) (QF P [.tmp 4, .tmp 5] R) (fr0 [.pointer x0, .string x1]) w := by kernel_rfl
theorem g_Parser_parse.sound {R : Ending → World → Prop} {x0 : Option Addr} {x1 : ByteArray} {w : World} (h : g_Parser_parse R x0 x1 w) : callE P i_Parser_parse #[.pointer x0, .string x1] R w :=
  callE_fin (c := g_Parser_parse.body) Tryz.func30 Tryz.call30 (by kernel_rfl) (by kernel_rfl) (by kernel_rfl) (by kernel_rfl) (by kernel_rfl) (g_Parser_parse.good R) (g_Parser_parse.eq R x0 x1 w) h
end Go.Proofs.YtmkfleohcnopkaaGreatDoor

/- A document of one line that is a paragraph: parse and print. -/
set_option linter.unusedVariables false
namespace Go.Proofs.YtmkfleohcnopkaaGreatDoor
open Go.Proofs Go.IntWalk Go.RowKit
variable {σ : Out} {w : World} {L L' : List Chunk} {R : Ending → World → Prop}
def PS.coreS (p : PS) : PS := ({ p with s := [] } : PS).core
/-- The inlines of the text s print themselves by f. -/
def InlineOK (op : Opt) (s : List UInt8) (f : List UInt8 → List UInt8) : Prop :=
  ∀ (σ : Out) (R : Ending → World → Prop) (b pb : Nat) (p : PS) (L : List Chunk) (w : World), Sat σ w (p.at b :: L) → p.pz = some ⟨pb, 0, none⟩ → op.at pb ∈ L → p.links = none →
    (∀ w (p' : PS) q n c vs RM KM KM', p'.coreS = p.coreS → Sl 1 ty_Inline q n c vs RM → n < 1073741824 → PrintsL "PrintHTML" vs KM KM' f → Sat σ w (p'.at b :: (RM ++ (KM ++ L))) → R (.returned (.slice q n c)) w) →
    callE P i_parseState_inline #[.pointer (some ⟨b, 0, none⟩), .string (bs s)] R w
def PS0 (pz : Option Addr) : PS := ⟨pz, none, none, 0, none, 0, 0, 0, false, [], 0, none, 0, 0, none, 0, 0, none, 0, 0, List.replicate 80 (.int .i64 0) ++ [.bool false]⟩
def lnOf (s : List UInt8) : Ln := ⟨0, 0, 0, s, 0⟩
theorem parseLine_ok {pb : Nat} {op : Opt} {raw : List UInt8} {f : List UInt8 → List UInt8} (h : Sat σ w L) (ho : op.at pb ∈ L) (hp : (lnOf raw).plain) (hlen : raw.length < 1000000) (h0 : idx raw [0] = none) (h10 : idx raw [10] = none) (h13 : idx raw [13] = none)
    (hne : raw.dropWhile isST ≠ []) (hb : ((raw.dropWhile isST).dropWhile isSTN).head? ≠ some 91) (hI : InlineOK op (raw.dropWhile isST) f)
    (hR : ∀ w db k DM DM', Prints "PrintHTML" (.iface ty_P_Document (.pointer (some ⟨db, 0, none⟩))) DM DM' (fun l => f (l ++ pOpen) ++ pClose) → Sat σ w (DM ++ L) → R (.returned (.tuple #[.pointer (some ⟨db, 0, none⟩), .bool k])) w) :
    callE P i_Parser_parse #[.pointer (some ⟨pb, 0, none⟩), .string (bs raw)] R w := by
  have hrl : raw ≠ [] := by intro h; subst h; exact hne rfl
  refine g_Parser_parse.sound ?_
  refine Sat.bx h fun b w h => ?_
  refine Sat.st h (k := 0) rfl (Nat.le_of_ble_eq_true rfl) trivial (by first | (dsimp only [List.set]; exact rfl) | exact rfl) fun w h => ?_
  have h : Sat σ w ((PS0 (some ⟨pb, 0, none⟩)).at b :: L) := h
  refine zzContains_ok (sub := [0]) (by omega) (by decide) ⟨_, rfl, ?_⟩
  rw [h0]
  refine br_false rfl ?_
  refine Sat.st h (k := 0) rfl (Nat.le_of_ble_eq_true rfl) trivial (by first | (dsimp only [List.set]; exact rfl) | exact rfl) fun w h => ?_
  refine Sat.bx h fun rb w h => ?_
  let p0 : PS := { PS0 (some ⟨pb, 0, none⟩) with depth := -1 }
  have h : Sat σ w (p0.at b :: [] ++ ((rb, cel [] ty_rootBuilder) :: L)) := h.up1
  have hstk : Stk p0 [] [] := ⟨Sl.nil 4 ty_openBlock, rfl, by simp⟩
  refine addBlock_ok h hstk rfl (by decide) fun w p1 M hp1 hs1 h => ⟨rfl, ?_⟩
  intro X hX
  refine hX _ _ _ _ (br_true (by rw [bs_toList]; simpa using hrl) ?_)
  refine zzIndex_ok (sub := [10]) (by omega) (by decide) ⟨_, rfl, ?_⟩
  refine zzIndex_ok (sub := [13]) (by omega) (by decide) ⟨_, rfl, ?_⟩
  have e10 : idxInt raw [10] = -1 := by unfold idxInt; rw [h10]
  have e13 : idxInt raw [13] = -1 := by unfold idxInt; rw [h13]
  rw [e10, e13]
  refine br_false rfl (br_false rfl ?_)
  have e1 : p1 = { p0 with stq := p1.stq, stn := 1, stc := p1.stc } := hp1
  have hl1 : p1.lineno = 0 := by rw [e1]; rfl
  refine ⟨_, Sat.ld h (.head _) rfl, ?_⟩
  refine Sat.st h (k := 0) rfl (Nat.le_of_ble_eq_true rfl) trivial (by first | (dsimp only [List.set]; exact rfl) | exact rfl) fun w h => ?_
  rw [hl1] at h
  let p2 : PS := { p1 with lineno := 1 }
  have h : Sat σ w (p2.at b :: M ++ ((rb, cel [] ty_rootBuilder) :: L)) := h
  have hs2 : Stk p2 [⟨.iface ty_P_rootBuilder (.pointer (some ⟨rb, 0, none⟩)), none, 0, 0, 0, 0⟩] M := by
    have := Stk.of (p' := p2) hs1 rfl rfl rfl
    rw [List.nil_append] at this
    exact this
  have hpz2 : p2.pz = some ⟨pb, 0, none⟩ := by show p1.pz = _; rw [e1]; rfl
  refine addLine_para (l := lnOf raw) h hs2 hpz2 (.tail _ ho) rfl (by decide) (by decide) hp fun w p3 M3 qb PM hp3 hs3 hPM h => ⟨rfl, ?_⟩
  refine hX _ _ _ _ (br_false (by rw [mk_toList]; rfl) ?_)
  have hpz3 : p3.pz = some ⟨pb, 0, none⟩ := by rw [hp3]; exact hpz2
  have htx : Txts p3 [] [] := by
    have : p3.tq = none ∧ p3.tn = 0 ∧ p3.tc = 0 := by rw [hp3]; show p1.tq = none ∧ p1.tn = 0 ∧ p1.tc = 0; rw [e1]; exact ⟨rfl, rfl, rfl⟩
    obtain ⟨a, b, c⟩ := this
    unfold Txts
    rw [a, b, c]
    exact ⟨Sl.nil 1 ty_P_Text, rfl, by simp⟩
  have hlk : p3.links = none := by rw [hp3]; show p1.links = none; rw [e1]; rfl
  have hdw : ((lnOf raw).text.drop (lnOf raw).i).dropWhile isST = raw.dropWhile isST := rfl
  rw [hdw] at hPM
  have hsl : (raw.dropWhile isST).length ≤ raw.length := (List.dropWhile_sublist isST).length_le
  have h : Sat σ w (p3.at b :: M3 ++ ([] ++ (PM ++ ((rb, cel [] ty_rootBuilder) :: L)))) := h
  refine finish_ok h hs3 rfl ⟨rfl, rfl, rfl⟩ rfl htx hPM (by omega) hne hb (by show (1 : Nat) < _; decide) fun w p4 TM IM t nb db q c hp4 ht4 hIM h => ⟨rfl, ?_⟩
  refine ⟨_, _, _, Sat.ld h (.head _) rfl, ?_⟩
  have htn : p4.tn = 1 := by rw [hp4]
  have hpz4 : p4.pz = some ⟨pb, 0, none⟩ := by rw [hp4]; exact hpz3
  intro Y hY
  obtain ⟨tb, tsp, htq, htm⟩ := ht4.1.rowAt (by rw [htn]; decide)
  refine hY _ _ _ _ _ _ _ _ (br_true (by rw [htn]; rfl) ⟨by decide, by rw [htn]; decide, ?_⟩)
  rw [htq]
  refine nilP_some ?_
  subst htm
  simp only [Addr.add_lit, Int.toNat_zero, Nat.zero_mul, Nat.add_zero]
  refine ⟨_, Sat.ld h (.tail _ (List.mem_append_left _ (.head _))) rfl, nilP_some ?_⟩
  simp only [Addr.add_lit, Nat.zero_add]
  have h : Sat σ w (p4.at b :: ([(tb, cel ([t].map (fun t => Value.pointer (some ⟨t, 0, none⟩)) ++ tsp) ty_P_Text)] ++ (docC db 0 0 q 1 c p3.links :: (IM ++ (paraC nb 1 1 t :: textC t 1 1 none 0 0 (raw.dropWhile isST) :: ((rb, cel [] ty_rootBuilder) :: L)))))) := h
  have h : Sat σ w (p4.at b :: (textC t 1 1 none 0 0 (raw.dropWhile isST) :: (tb, cel ([t].map (fun t => Value.pointer (some ⟨t, 0, none⟩)) ++ tsp) ty_P_Text) :: (docC db 0 0 q 1 c p3.links :: (IM ++ (paraC nb 1 1 t :: ((rb, cel [] ty_rootBuilder) :: L)))))) := h.re (by intro _; simp only [List.append_eq, cnt_append, cnt_cons, cnt_nil] <;> omega)
  refine ⟨_, Sat.ld h (.tail _ (.head _)) rfl, ?_⟩
  refine hI σ _ b pb p4 _ w h hpz4 (by simp [ho]) (by rw [hp4]; exact hlk) fun w p5 q5 n5 c5 vs RM KM KM' hp5 hS5 hn5 hP5 h => ⟨_, _, _, rfl, nilP_some ?_⟩
  have h : Sat σ w (textC t 1 1 none 0 0 (raw.dropWhile isST) :: (p5.at b :: (RM ++ (KM ++ ((tb, cel ([t].map (fun t => Value.pointer (some ⟨t, 0, none⟩)) ++ tsp) ty_P_Text) :: (docC db 0 0 q 1 c p3.links :: (IM ++ (paraC nb 1 1 t :: ((rb, cel [] ty_rootBuilder) :: L))))))))) := h.re (by intro _; simp only [List.append_eq, cnt_append, cnt_cons, cnt_nil] <;> omega)
  refine Sat.st h (k := 0) rfl (Nat.le_of_ble_eq_true rfl) trivial (by first | (dsimp only [List.set]; exact rfl) | exact rfl) fun w h => ?_
  have h : Sat σ w (textC t 1 1 q5 n5 c5 (raw.dropWhile isST) :: (p5.at b :: (RM ++ (KM ++ ((tb, cel ([t].map (fun t => Value.pointer (some ⟨t, 0, none⟩)) ++ tsp) ty_P_Text) :: (docC db 0 0 q 1 c p3.links :: (IM ++ (paraC nb 1 1 t :: ((rb, cel [] ty_rootBuilder) :: L))))))))) := h
  refine hY _ _ _ _ _ _ _ _ (br_false (by rw [htn]; rfl) (nilP_some ?_))
  simp only [Addr.add_lit, Nat.zero_add]
  have hroot : p5.root = some ⟨db, 0, none⟩ := by have := congrArg PS.root hp5; rw [show p5.root = p4.root from this, hp4]
  have hLL : p5.Lq = none ∧ p5.Ln = 0 ∧ p5.Lc = 0 := by
    have a := congrArg PS.Lq hp5; have b := congrArg PS.Ln hp5; have c := congrArg PS.Lc hp5
    rw [show p5.Lq = p4.Lq from a, show p5.Ln = p4.Ln from b, show p5.Lc = p4.Lc from c, hp4]
    show p3.Lq = none ∧ p3.Ln = 0 ∧ p3.Lc = 0
    rw [hp3]; show p1.Lq = none ∧ p1.Ln = 0 ∧ p1.Lc = 0; rw [e1]; exact ⟨rfl, rfl, rfl⟩
  have hfin : g_Parser_parse.k4 R b w := by
    refine Sat.tk h fun w h => ?_
    refine ⟨_, Sat.ld h (.tail _ (.head _)) rfl, _, Sat.ld h (.tail _ (.head _)) rfl, ?_⟩
    rw [hroot]
    refine hR w db p5.corner (docC db 0 0 q 1 c p3.links :: (IM ++ ((paraC nb 1 1 t :: textC t 1 1 q5 n5 c5 (raw.dropWhile isST) :: (RM ++ KM)) ++ []))) (docC db 0 0 q 1 c p3.links :: (IM ++ ((paraC nb 1 1 t :: textC t 1 1 q5 n5 c5 (raw.dropWhile isST) :: (RM ++ KM')) ++ []))) ?_ ?_
    · exact doc_prints hIM (by decide) (.cons (para_prints hS5 (by omega) hP5) .nil)
    · exact h.less (p5.at b :: (tb, cel ([t].map (fun t => Value.pointer (some ⟨t, 0, none⟩)) ++ tsp) ty_P_Text) :: [(rb, cel [] ty_rootBuilder)]) (by intro _; simp only [List.append_eq, cnt_append, cnt_cons, cnt_nil] <;> omega)
  refine ⟨op.task, Sat.ld h (b := pb) (i := 2) (.tail _ (.tail _ (List.mem_append_right _ (List.mem_append_right _ (.tail _ (.tail _ (List.mem_append_right _ (.tail _ (.tail _ ho))))))))) rfl, br_split (fun _ => ?_) (fun _ => hfin)⟩
  refine ⟨_, _, _, Sat.ld h (.tail _ (.head _)) rfl, ?_⟩
  intro Z hZ
  obtain ⟨l1, l2, l3⟩ := hLL
  rw [l1, l2, l3]
  exact hZ _ _ _ _ _ _ _ (br_false rfl hfin)
end Go.Proofs.YtmkfleohcnopkaaGreatDoor

/- impl.HTML, and small functions of the laws. -/
set_option linter.unusedVariables false
namespace Go.Proofs.YtmkfleohcnopkaaGreatDoor
open Go.Proofs Go.IntWalk Go.RowKit
variable {σ : Out} {w : World} {L L' : List Chunk} {R : Ending → World → Prop}
/-- What the thin package is handed. -/
def optV (o : Opt) : Value := .agg #[.bool o.strike, .bool o.task, .bool o.auto, .bool o.http, .bool o.table, .bool o.dot, .bool o.dash, .bool o.quote, .bool o.ids, .bool o.emoji]
theorem parser_ok {o : Opt} (h : Sat σ w L) (hR : ∀ w pb, Sat σ w (o.at pb :: L) → R (.returned (.pointer (some ⟨pb, 0, none⟩))) w) : callE P i_impl_parser #[optV o] R w := by
  refine g_impl_parser.sound ?_
  refine Sat.bx h fun b w h => ?_
  have ld : ∀ (k : Nat) (v : Bool), ([Value.bool o.strike, .bool o.task, .bool o.auto, .bool o.http, .bool o.table, .bool o.dot, .bool o.dash, .bool o.quote, .bool o.ids, .bool o.emoji])[k]? = some (.bool v) → w.cell? ⟨b, k, none⟩ = some (.bool v) := fun k v hv => Sat.ld h (.head _) hv
  refine ⟨_, ld 8 _ rfl, _, ld 0 _ rfl, _, ld 1 _ rfl, _, ld 2 _ rfl, _, ld 3 _ rfl, _, ld 4 _ rfl, _, ld 9 _ rfl, _, ld 5 _ rfl, _, ld 6 _ rfl, _, ld 7 _ rfl, ?_⟩
  refine Sat.bx h fun pb w h => hR w pb ?_
  have h : Sat σ w (o.at pb :: (b, cel [Value.bool o.strike, .bool o.task, .bool o.auto, .bool o.http, .bool o.table, .bool o.dot, .bool o.dash, .bool o.quote, .bool o.ids, .bool o.emoji] ty_impl_Options) :: L) := h
  exact (h.less [(b, cel [Value.bool o.strike, .bool o.task, .bool o.auto, .bool o.http, .bool o.table, .bool o.dot, .bool o.dash, .bool o.quote, .bool o.ids, .bool o.emoji] ty_impl_Options)] (by intro _; simp only [List.append_eq, cnt_append, cnt_cons, cnt_nil] <;> omega))
/-- A text is parsed to a document that prints itself so. -/
def ParsesTo (o : Opt) (raw out : List UInt8) : Prop :=
  ∀ (σ : Out) (R : Ending → World → Prop) (L : List Chunk) (w : World) (pb : Nat), Sat σ w L → o.at pb ∈ L →
    (∀ w db k DM DM' f, Prints "PrintHTML" (.iface ty_P_Document (.pointer (some ⟨db, 0, none⟩))) DM DM' f → f [] = out → Sat σ w (DM ++ L) → R (.returned (.tuple #[.pointer (some ⟨db, 0, none⟩), .bool k])) w) →
    callE P i_Parser_parse #[.pointer (some ⟨pb, 0, none⟩), .string (bs raw)] R w
theorem html_ok {o : Opt} {raw out : List UInt8} (hP : ParsesTo o raw out) (hout : out.length ≤ 549755813888) (h : Sat σ w L) (hR : ∀ w, Sat σ w L → R (.returned (.string (bs out))) w) : callE P i_impl_HTML #[optV o, .string (bs raw)] R w := by
  refine g_impl_HTML.sound ?_
  refine Sat.bx h fun b w h => ?_
  have ld : ∀ (k : Nat) (v : Bool), ([Value.bool o.strike, .bool o.task, .bool o.auto, .bool o.http, .bool o.table, .bool o.dot, .bool o.dash, .bool o.quote, .bool o.ids, .bool o.emoji])[k]? = some (.bool v) → w.cell? ⟨b, k, none⟩ = some (.bool v) := fun k v hv => Sat.ld h (.head _) hv
  refine ⟨_, ld 0 _ rfl, _, ld 1 _ rfl, _, ld 2 _ rfl, _, ld 3 _ rfl, _, ld 4 _ rfl, _, ld 5 _ rfl, _, ld 6 _ rfl, _, ld 7 _ rfl, _, ld 8 _ rfl, _, ld 9 _ rfl, ?_⟩
  refine parser_ok h fun w pb h => ⟨_, rfl, ?_⟩
  refine g_Parser_Parse.sound ?_
  refine hP σ _ _ w pb h (.head _) fun w db k DM DM' f hf hfo h => ⟨_, _, rfl, _, rfl, ?_⟩
  subst hfo
  refine toHTML_ok hf h hout fun w h => ⟨_, rfl, hR w ?_⟩
  exact h.less (DM' ++ (o.at pb :: [(b, cel [Value.bool o.strike, .bool o.task, .bool o.auto, .bool o.http, .bool o.table, .bool o.dot, .bool o.dash, .bool o.quote, .bool o.ids, .bool o.emoji] ty_impl_Options)])) (by intro _; simp only [List.append_eq, cnt_append, cnt_cons, cnt_nil] <;> omega)
theorem parses_line {op : Opt} {raw : List UInt8} {f : List UInt8 → List UInt8} (hp : (lnOf raw).plain) (hlen : raw.length < 1000000) (h0 : idx raw [0] = none) (h10 : idx raw [10] = none) (h13 : idx raw [13] = none)
    (hne : raw.dropWhile isST ≠ []) (hb : ((raw.dropWhile isST).dropWhile isSTN).head? ≠ some 91) (hI : InlineOK op (raw.dropWhile isST) f) : ParsesTo op raw (f pOpen ++ pClose) := by
  intro σ R L w pb h ho hR
  refine parseLine_ok h ho hp hlen h0 h10 h13 hne hb hI fun w db k DM DM' hP h => hR w db k DM DM' _ hP rfl h

/-! ### The laws' own functions -/
theorem bs_of (b : ByteArray) : b = bs b.data.toList := by
  cases b; rfl
def onlyM (s set : List UInt8) (n : Nat) : Bool := decide (s.length ≤ n) && s.all fun c => decide (c ∈ set)
theorem only_ok {s set : List UInt8} {n : Nat} (hs : s.length < 4611686018427387904) (hR : R (.returned (.bool (onlyM s set n))) w) : callE P i_laws_only #[.string (bs s), .string (bs set), .int .i64 n] R w := by
  refine g_laws_only.sound ?_
  by_cases hn : n < s.length
  · refine br_true (by simp; omega) ?_
    have : onlyM s set n = false := by unfold onlyM; rw [decide_eq_false (by omega)]; rfl
    rw [← this]; exact hR
  refine br_false (by simp; omega) ?_
  intro X hX
  rw [bs_size]
  have hall : onlyM s set n = s.all fun c => decide (c ∈ set) := by unfold onlyM; rw [decide_eq_true (by omega)]; rfl
  rw [hall] at hR
  have key : ∀ k i, i + k = s.length → (s.all fun c => decide (c ∈ set)) = ((s.drop i).all fun c => decide (c ∈ set)) → X (bs s) (bs set) (s.length : Nat) (i : Int) w := by
    intro k
    induction k with
    | zero =>
      intro i hi ha
      refine hX _ _ _ _ _ (br_false (by simp; omega) ?_)
      rw [List.drop_eq_nil_of_le (by omega)] at ha
      rw [ha] at hR; exact hR
    | succ k ih =>
      intro i hi ha
      have hil : i < s.length := by omega
      rw [List.drop_eq_getElem_cons hil, List.all_cons] at ha
      refine hX _ _ _ _ _ (br_true (by simp; omega) ⟨by omega, by simp; omega, ?_⟩)
      rw [bt_at hil]
      refine indexByte2_ok ⟨_, rfl, ?_⟩
      by_cases hm : s[i] ∈ set
      · refine br_false (by simpa using idxB_nonneg.2 hm) ?_
        rw [i64_inc (by omega)]
        refine ih (i + 1) (by omega) ?_
        rw [ha]; simp [hm]
      · have := mt idxB_nonneg.1 hm
        refine br_true (by simpa using this) ?_
        rw [ha] at hR
        simpa [hm] using hR
  exact key s.length 0 (by omega) (by rw [List.drop_zero])
theorem headed_ok {s t : List UInt8} (hR : R (.returned (.bool (decide (s.take t.length = t)))) w) : callE P i_laws_headed #[.string (bs s), .string (bs t)] R w := by
  refine g_laws_headed.sound ?_
  by_cases hl : t.length ≤ s.length
  · refine br_true (by simp; omega) ⟨by omega, by simp; omega, ?_⟩
    rw [bs_size, Int.toNat_natCast, bs_extract, List.drop_zero, bs_toList, bs_toList]
    have e : (s.take t.length == t) = decide (s.take t.length = t) := by rw [Bool.eq_iff_iff]; simp
    rw [e]; exact hR
  · refine br_false (by simp; omega) ?_
    have : decide (s.take t.length = t) = false := decide_eq_false fun h => by have := congrArg List.length h; simp at this; omega
    rw [← this]; exact hR
end Go.Proofs.YtmkfleohcnopkaaGreatDoor

/- FnDots: the law's walk. -/
set_option linter.unusedVariables false
namespace Go.Proofs.YtmkfleohcnopkaaGreatDoor
open Go.Proofs Go.IntWalk Go.RowKit
variable {σ : Out} {w : World} {L L' : List Chunk} {R : Ending → World → Prop}
theorem ell_hd {s : List UInt8} {i : Nat} (hi : i < s.length) (h : (s.drop i).take 3 = [46, 46, 46]) : i + 3 ≤ s.length ∧ ell (s.drop i) = [226, 128, 166] ++ ell (s.drop (i + 3)) := by
  have h3 : i + 3 ≤ s.length := by have := congrArg List.length h; simp at this; omega
  refine ⟨h3, ?_⟩
  rw [List.drop_eq_getElem_cons hi, List.drop_eq_getElem_cons (show i + 1 < s.length by omega), List.drop_eq_getElem_cons (show i + 2 < s.length by omega)] at h ⊢
  simp only [List.take_succ_cons, List.take_zero, List.cons.injEq, and_true] at h
  rw [ell, if_pos ⟨h.1, h.2.1, h.2.2⟩]
theorem ell_nh {s : List UInt8} {i : Nat} (hi : i < s.length) (h : (s.drop i).take 3 ≠ [46, 46, 46]) : ell (s.drop i) = s[i] :: ell (s.drop (i + 1)) := by
  rw [List.drop_eq_getElem_cons hi] at h ⊢
  by_cases h1 : i + 1 < s.length
  · rw [List.drop_eq_getElem_cons h1] at h ⊢
    by_cases h2 : i + 2 < s.length
    · rw [List.drop_eq_getElem_cons h2] at h ⊢
      rw [ell, if_neg]
      rintro ⟨ha, hb, hc⟩
      exact h (by simp [ha, hb, hc])
    · rw [List.drop_eq_nil_of_le (by omega)]; rfl
  · rw [List.drop_eq_nil_of_le (by omega)]; rfl
theorem ellipses_ok {s : List UInt8} (hs : s.length < 1000000000) (h : Sat σ w L) (hR : ∀ w, Sat σ w L → R (.returned (.string (bs (ell s)))) w) : callE P i_laws_ellipses #[.string (bs s)] R w := by
  refine g_laws_ellipses.sound ?_
  refine Sat.bx h fun b w h => ?_
  intro X hX
  have hbound := ell_length s
  have key : ∀ k i l g M w, i + k = s.length → Bld b g l M → Sat σ w (M ++ L) → l ++ ell (s.drop i) = ell s → X (bs s) b (i : Int) w := by
    intro k
    induction k using Nat.strongRecOn with
    | ind k ih =>
      intro i l g M w hi hB h hl
      rcases Nat.lt_or_ge i s.length with hlt | hge
      · have hll : l.length ≤ s.length := by have := congrArg List.length hl; simp at this; omega
        refine hX _ _ _ _ (br_true (by simp; omega) ⟨by omega, by simp; omega, ?_⟩)
        rw [bs_size, Int.toNat_natCast, bs_ext]
        refine headed_ok (t := [46, 46, 46]) ⟨_, rfl, ?_⟩
        by_cases hh : (s.drop i).take 3 = [46, 46, 46]
        · obtain ⟨h3, he⟩ := ell_hd hlt hh
          refine br_true (decide_eq_true hh) ?_
          refine bldS_ok (s := [226, 128, 166]) hB h (.inl (by simp)) (by simp; omega) fun w M hB h => ⟨_, _, rfl, ?_⟩
          have e : IntKind.i64.wrap (IntKind.i64.wrap ((i : Int) + 2) + 1) = ((i + 3 : Nat) : Int) := by simp (disch := omega) only [i64_in]; omega
          rw [e]
          exact ih (k - 3) (by omega) (i + 3) _ true M w (by omega) hB h (by rw [← hl, he]; simp)
        · refine br_false (decide_eq_false hh) ⟨by omega, by simp; omega, ?_⟩
          rw [bt_at hlt]
          refine bldB_ok hB h (by omega) fun w M hB h => ⟨_, rfl, ?_⟩
          rw [i64_inc (by omega)]
          exact ih (k - 1) (by omega) (i + 1) _ true M w (by omega) hB h (by rw [← hl, ell_nh hlt hh]; simp)
      · refine hX _ _ _ _ (br_false (by simp; omega) ?_)
        rw [List.drop_eq_nil_of_le (by omega)] at hl
        simp only [ell, List.append_nil] at hl
        refine bldStr_ok hB h (by rw [hl]; omega) fun w h => ⟨_, rfl, ?_⟩
        rw [hl]; exact hR w h
  exact key s.length 0 [] false _ w (by omega) (bldNew b) h rfl
def dotSet : List UInt8 := [97, 98, 32, 46]
theorem dropWhile_x (s : List UInt8) : (120 :: s).dropWhile isST = 120 :: s := rfl
theorem trim_x (s : List UInt8) : trimLR isST ([120] ++ s ++ [120]) = [120] ++ s ++ [120] := by
  have e : ([120] ++ s ++ [120] : List UInt8).dropWhile isST = [120] ++ s ++ [120] := rfl
  unfold trimLR trimR
  rw [e]
  have e2 : ([120] ++ s ++ [120] : List UInt8).reverse = 120 :: (s.reverse ++ [120]) := by simp
  rw [e2, dropWhile_x]
  simp
/-- A byte with which a line begins that no block but a paragraph begins with. -/
def plainStart (c : UInt8) : Bool := !(isST c || c == 62 || c == 35 || c == 95 || c == 60 || c == 96 || c == 126 || c == 61 || isBullet c)
theorem tsGo_first {c : UInt8} {s : List UInt8} (hc : isST c = false) (mn k n : Nat) (e : Bool) : (lnOf (c :: s)).tsGo mn e (k + 1) n = if mn ≤ n then some (lnOf (c :: s)) else none := by
  simp only [isST, Bool.or_eq_false_iff, beq_eq_false_iff_ne, ne_eq] at hc
  simp [Ln.tsGo, lnOf, hc.1, hc.2]
theorem plain_first {c : UInt8} {s : List UInt8} (hc : plainStart c = true) (hs : s.length < 1000000) : (lnOf (c :: s)).plain := by
  simp only [plainStart, Bool.not_eq_true', Bool.or_eq_false_iff, beq_eq_false_iff_ne, ne_eq] at hc
  obtain ⟨⟨⟨⟨⟨⟨⟨⟨hst, h62⟩, h35⟩, h95⟩, h60⟩, h96⟩, h126⟩, h61⟩, hbu⟩ := hc
  have hlead : ∀ e, (lnOf (c :: s)).lead 3 e = lnOf (c :: s) := by
    intro e; unfold Ln.lead Ln.trimSp; rw [tsGo_first hst]; rfl
  have hstrip : (lnOf (c :: s)).strip 3 0 = (0, lnOf (c :: s)) := by
    simp only [Ln.strip, Ln.trimSp]; rw [tsGo_first hst]; rfl
  have hpeek : (lnOf (c :: s)).peek = c := rfl
  have htc : ∀ d : UInt8, c ≠ d → (lnOf (c :: s)).trimC d = none := by
    intro d hd
    simp [Ln.trimC, lnOf, hd]
  have hnb : c ≠ 45 ∧ c ≠ 42 := by
    constructor
    · intro h; subst h; exact absurd hbu (by decide)
    · intro h; subst h; exact absurd hbu (by decide)
  refine ⟨⟨by simp [lnOf], by simp [lnOf], by simp [lnOf]; omega, by simp [lnOf]⟩, ?_, ?_, ?_, ?_, ?_, ?_, ?_, ?_⟩
  · show (c :: s).all isST = false
    rw [List.all_cons, hst]; rfl
  · unfold Ln.quote; rw [hlead, htc 62 h62]; rfl
  · unfold Ln.heading; rw [hlead, htc 35 h35]
  · unfold Ln.isHR
    simp only [hlead, hpeek]
    rw [if_neg]
    rintro (h | h | h)
    · exact hnb.1 h
    · exact h95 h
    · exact hnb.2 h
  · rw [hstrip]; exact hbu
  · rw [hlead]; exact h60
  · rw [hstrip]; exact ⟨h96, h126⟩
  · unfold Ln.trimSp; rw [tsGo_first hst]; rfl
theorem dots_inline {o : Opt} {raw : List UInt8} (hoff : o.auto = false) (hdot : o.dot = true) (hl : raw.length < 1000000) (hne : raw ≠ []) (htr : trimLR isST raw = raw) (hD : isDotText raw = true) : InlineOK o raw (ab (escS htmlPs (ell raw))) := by
  intro σ R b pb p L w h hpz ho hlk hR
  refine inlineDots_ok h hpz ho hoff hdot hl hne htr hD fun w p' q n c vs RM EM hp' hS hn hI h => ?_
  obtain ⟨v, vs', M1, M2, rfl, rfl, h1, rfl, rfl⟩ := hI
  obtain ⟨pb, cs, e, rfl, rfl⟩ := h1
  refine hR w p' q n c _ RM _ _ hp' hS hn (.cons (plain_prints (by have := ell_length raw; omega)) .nil) h
theorem html_dots {o : Opt} {s : List UInt8} (hoff : o.auto = false) (hdot : o.dot = true) (hs : s.length ≤ 100) (hD : isDotText s = true) :
    ParsesTo o ([120] ++ s ++ [120]) (pOpen ++ escS htmlPs (ell ([120] ++ s ++ [120])) ++ pClose) := by
  have hlen : ([120] ++ s ++ [120] : List UInt8).length < 1000000 := by simp; omega
  have hD2 : isDotText ([120] ++ s ++ [120]) = true := by
    unfold isDotText at hD ⊢
    simp only [List.all_append, hD]; rfl
  have hmem : ∀ c : UInt8, (c == 120 || c == 97 || c == 98 || c == 32 || c == 46) = false → c ∉ ([120] ++ s ++ [120] : List UInt8) := by
    intro c hc hm
    have := (List.all_eq_true.1 hD2) c hm
    rw [hc] at this; cases this
  have hdw : ([120] ++ s ++ [120] : List UInt8).dropWhile isST = [120] ++ s ++ [120] := rfl
  have := parses_line (op := o) (raw := [120] ++ s ++ [120]) (f := ab (escS htmlPs (ell ([120] ++ s ++ [120])))) (plain_first (by decide) (by simp; omega)) hlen (idx_none (hmem 0 (by decide))) (idx_none (hmem 10 (by decide))) (idx_none (hmem 13 (by decide)))
    (by rw [hdw]; simp) (by rw [hdw]; show some (120 : UInt8) ≠ some 91; decide) (by rw [hdw]; exact dots_inline hoff hdot hlen (by simp) (trim_x s) hD2)
  exact this
theorem esc_ell {s : List UInt8} (hD : isDotText s = true) : escS htmlPs (ell s) = ell s := by
  have h1 : ∀ c, (c == 120 || c == 97 || c == 98 || c == 32 || c == 46) = true → escB htmlPs c = [c] := by
    intro c hc
    simp only [Bool.or_eq_true, beq_iff_eq] at hc
    rcases hc with (((rfl | rfl) | rfl) | rfl) | rfl <;> decide
  have key : ∀ (n : Nat) (s : List UInt8), s.length ≤ n → isDotText s = true → escS htmlPs (ell s) = ell s := by
    intro n
    induction n with
    | zero => intro s hs _; obtain rfl : s = [] := List.eq_nil_of_length_eq_zero (by omega); rfl
    | succ n ih =>
      intro s hs hD
      match s, hs, hD with
      | [], _, _ => rfl
      | [a], _, hD =>
        have := (List.all_eq_true.1 hD) a (by simp)
        simp [ell, escS, h1 a this]
      | [a, b], _, hD =>
        have ha := (List.all_eq_true.1 hD) a (by simp)
        have hb := (List.all_eq_true.1 hD) b (by simp)
        simp [ell, escS, h1 a ha, h1 b hb]
      | a :: b :: c :: s, hs, hD =>
        have ha := (List.all_eq_true.1 hD) a (by simp)
        rw [ell]
        split
        · have : isDotText s = true := by
            unfold isDotText at hD ⊢; simp only [List.all_cons, Bool.and_eq_true] at hD; exact hD.2.2.2
          rw [escS_append, ih s (by simp at hs; omega) this]; rfl
        · have : isDotText (b :: c :: s) = true := by
            unfold isDotText at hD ⊢; rw [List.all_cons, Bool.and_eq_true] at hD; exact hD.2
          rw [escS_cons, ih (b :: c :: s) (by simp at hs ⊢; omega) this, h1 a ha]; rfl
  exact key s.length s (Nat.le_refl _) hD
def optDots : Opt := ⟨false, false, false, false, false, false, false, true, false, false⟩
theorem fnDots_ok {x : ByteArray} (h : Sat σ w L) (hR : ∀ w, Sat σ w L → R (.returned (.bool true)) w) : callE P i_laws_FnDots #[.string x] R w := by
  rw [bs_of x]
  generalize x.data.toList = s
  refine g_laws_FnDots.sound ?_
  refine br_split (fun _ => hR w h) (fun hsz => ?_)
  have hs : s.length ≤ 2147483647 := by simp at hsz; omega
  refine only_ok (set := [97, 98, 32, 46]) (n := 100) (by omega) ⟨_, rfl, ?_⟩
  cases ho : onlyM s [97, 98, 32, 46] 100 with
  | false => exact br_true rfl (hR w h)
  | true =>
    simp only [onlyM, Bool.and_eq_true, decide_eq_true_eq] at ho
    obtain ⟨hs100, hall⟩ := ho
    have hD : isDotText s = true := by
      unfold isDotText
      rw [List.all_eq_true] at hall ⊢
      intro c hc
      have := hall c hc
      simp at this
      rcases this with rfl | rfl | rfl | rfl <;> decide
    have hD2 : isDotText ([120] ++ s ++ [120]) = true := by
      unfold isDotText at hD ⊢
      simp only [List.all_append, hD]; rfl
    refine br_false rfl ?_
    have hcat : (ByteArray.mk #[120] ++ bs s) ++ ByteArray.mk #[120] = bs ([120] ++ s ++ [120]) := by
      rw [show ByteArray.mk #[120] = bs [120] from rfl, bs_append, bs_append]
    rw [hcat]
    have hmax : IntKind.i64.max = 9223372036854775807 := rfl
    have hel := ell_length ([120] ++ s ++ [120])
    simp only [List.length_append, List.length_singleton] at hel
    refine ⟨by rw [hmax]; simp [ByteArray.size]; omega, ?_, ?_⟩
    · rw [hmax, show ByteArray.mk #[120] = bs [120] from rfl, bs_append]; simp; omega
    have hesc := esc_ell hD2
    have hP := html_dots (o := optDots) rfl rfl hs100 hD
    rw [hesc] at hP
    have hb : (pOpen ++ ell ([120] ++ s ++ [120]) ++ pClose).length ≤ 549755813888 := by
      rw [List.length_append, List.length_append]
      have h1 : pOpen.length = 3 := rfl
      have h2 : pClose.length = 5 := rfl
      omega
    show callE P i_impl_HTML #[optV optDots, .string (bs ([120] ++ s ++ [120]))] _ w
    refine html_ok hP hb h fun w h => ⟨_, rfl, ?_⟩
    refine ellipses_ok (by simp; omega) h fun w h => ⟨_, rfl, ?_⟩
    rw [show ByteArray.mk #[60, 112, 62] = bs pOpen from rfl, show ByteArray.mk #[60, 47, 112, 62, 10] = bs pClose from rfl, bs_append, bs_append]
    refine ⟨by rw [hmax]; simp [pOpen] at hel ⊢; omega, by rw [hmax]; simp [pOpen, pClose] at hel ⊢; omega, ?_⟩
    rw [bs_toList]
    simpa using hR w h
end Go.Proofs.YtmkfleohcnopkaaGreatDoor

/- Digits of a number; numeric references as leaves. -/
set_option linter.unusedVariables false
namespace Go.Proofs.YtmkfleohcnopkaaGreatDoor
open Go.Proofs Go.IntWalk Go.RowKit
variable {σ : Out} {w : World} {L L' : List Chunk} {R : Ending → World → Prop}
def allDig : List UInt8 := [48, 49, 50, 51, 52, 53, 54, 55, 56, 57, 97, 98, 99, 100, 101, 102]
def digM (b : Nat) : Nat → Nat → List UInt8
  | 0, n => []
  | f + 1, n => if n < b then sub allDig n (n + 1) else digM b f (n / b) ++ sub allDig (n % b) (n % b + 1)
theorem sub_le (s : List UInt8) (i : Nat) : (sub s i (i + 1)).length ≤ 1 := by
  unfold sub; rw [List.length_drop, List.length_take]; omega
theorem digM_length (b : Nat) : ∀ f n, (digM b f n).length ≤ f
  | 0, n => by simp [digM]
  | f + 1, n => by
    have h1 := digM_length b f (n / b)
    have h2 := sub_le allDig n
    have h3 := sub_le allDig (n % b)
    rw [digM]
    split
    · omega
    · rw [List.length_append]; omega
theorem digits_ok {b : Nat} (hb : 2 ≤ b) (hb2 : b ≤ 16) : ∀ (f n : Nat) (R : Ending → World → Prop) (w : World), n < f → f < 1000000 → Sat σ w L → (∀ w, Sat σ w L → R (.returned (.string (bs (digM b f n)))) w) →
    callE P i_laws_digits #[.int .i64 n, .int .i64 b] R w := by
  intro f
  induction f with
  | zero => intro n R w hn; omega
  | succ f ih =>
    intro n R w hn hf h hR
    refine g_laws_digits.sound ?_
    unfold g_laws_digits
    have hall : (ByteArray.mk #[48, 49, 50, 51, 52, 53, 54, 55, 56, 57, 97, 98, 99, 100, 101, 102]) = bs allDig := rfl
    rw [hall]
    have hsz : (bs allDig).size = 16 := rfl
    rw [digM] at hR
    by_cases hlt : n < b
    · rw [if_pos hlt] at hR
      refine br_true (by simp; omega) ?_
      rw [i64_inc (by omega), hsz]
      refine ⟨by omega, by omega, by omega, ?_⟩
      rw [Int.toNat_natCast, Int.toNat_natCast, bs_extract]
      exact hR w h
    · rw [if_neg hlt] at hR
      refine br_false (by simp; omega) ?_
      have hmod : n % b < b := Nat.mod_lt _ (by omega)
      have e1 : Int.tmod (n : Int) (b : Int) = ((n % b : Nat) : Int) := rfl
      have e2 : IntKind.i64.wrap (Int.tdiv (n : Int) (b : Int)) = ((n / b : Nat) : Int) := by
        have : n / b ≤ n := Nat.div_le_self ..
        rw [show Int.tdiv (n : Int) (b : Int) = ((n / b : Nat) : Int) from rfl]
        generalize n / b = q at this ⊢
        exact i64_in _ (by omega)
      have hdiv : n / b < f := by
        have : n / b < n := Nat.div_lt_self (by omega) (by omega)
        omega
      refine Sat.tk h fun w h => ?_
      rw [e1, e2, i64_inc (by omega), hsz]
      refine ⟨by omega, by omega, by omega, by omega, by omega, by omega, ?_⟩
      refine ih (n / b) _ w hdiv (by omega) h fun w h => ⟨_, rfl, ?_⟩
      rw [Int.toNat_natCast, Int.toNat_natCast, bs_extract, bs_append, bs_size, bs_size]
      have l1 := digM_length b f (n / b)
      have l2 := sub_le allDig (n % b)
      have hmax : IntKind.i64.max = 9223372036854775807 := rfl
      refine ⟨?_, hR w h⟩
      rw [hmax]
      show (((digM b f (n / b)).length + (sub allDig (n % b) (n % b + 1)).length : Nat) : Int) ≤ _
      omega
def baseOf (x : Bool) : Nat := if x then 16 else 10
def digOf (x : Bool) (c : UInt8) : List UInt8 := digM (baseOf x) 300 c.toNat
def refT (x : Bool) (c : UInt8) : List UInt8 := [38, 35] ++ (if x then [120] else []) ++ digOf x c ++ [59]
def goodD (x : Bool) (n : Nat) : Bool :=
  let ds := digM (baseOf x) 300 n
  decide (1 ≤ ds.length) && decide (ds.length ≤ 3) && ds.all (if x then hexB else decB) && (valB (baseOf x) ds == n)
theorem good_all : (List.range 128).all (fun n => goodD true n && goodD false n) = true := by kernel_rfl
theorem good_of (x : Bool) {n : Nat} (h : n < 128) : goodD x n = true := by
  have := (List.all_eq_true.1 good_all) n (List.mem_range.2 h)
  rw [Bool.and_eq_true] at this
  cases x
  · exact this.2
  · exact this.1
theorem enc_all : (List.range 128).all (fun n => (Utf8.encode (n : Int)).data.toList == [UInt8.ofNat n]) = true := by kernel_rfl
theorem enc_ascii {n : Nat} (h : n < 128) : Utf8.encode (n : Int) = bs [UInt8.ofNat n] := by
  have := (List.all_eq_true.1 enc_all) n (List.mem_range.2 h)
  rw [bs_of (Utf8.encode (n : Int)), eq_of_beq this]
theorem isDigit_ok {c : UInt8} (hR : R (.returned (.bool (decB c))) w) : callE P i_isDigit #[.int .u8 (c.toNat : Int)] R w := by
  refine g_isDigit.sound ?_
  unfold g_isDigit
  have e : ((decide ((48 : Int) ≤ ((c.toNat : Nat) : Int))) && (decide (((c.toNat : Nat) : Int) ≤ 57))) = decB c := by
    have a : decide ((48 : Int) ≤ ((c.toNat : Nat) : Int)) = decide (48 ≤ c) := u8_le 48 c
    have b : decide (((c.toNat : Nat) : Int) ≤ (57 : Int)) = decide (c ≤ 57) := u8_le c 57
    rw [a, b]; rfl
  rw [e]; exact hR
theorem isHex_ok {c : UInt8} {r : Bool} (h1 : hexB c = true → r = true) (h2 : c = 59 → r = false) (hc : hexB c = true ∨ c = 59) (hR : R (.returned (.bool r)) w) : callE P i_isHexDigit #[.int .u8 (c.toNat : Int)] R w := by
  refine g_isHexDigit.sound ?_
  unfold g_isHexDigit
  rcases hc with hc | hc
  · have hr := h1 hc
    subst hr
    rcases hex_cases hc with ⟨_, _, h3, h4⟩ | ⟨_, _, h3, h4, _⟩
    · have e : ((((decide ((65 : Int) ≤ ((c.toNat : Nat) : Int))) && (decide (((c.toNat : Nat) : Int) ≤ 70))) || ((decide ((97 : Int) ≤ ((c.toNat : Nat) : Int))) && (decide (((c.toNat : Nat) : Int) ≤ 102)))) || ((decide ((48 : Int) ≤ ((c.toNat : Nat) : Int))) && (decide (((c.toNat : Nat) : Int) ≤ 57)))) = true := by
        simp; omega
      rw [e]; exact hR
    · have e : ((((decide ((65 : Int) ≤ ((c.toNat : Nat) : Int))) && (decide (((c.toNat : Nat) : Int) ≤ 70))) || ((decide ((97 : Int) ≤ ((c.toNat : Nat) : Int))) && (decide (((c.toNat : Nat) : Int) ≤ 102)))) || ((decide ((48 : Int) ≤ ((c.toNat : Nat) : Int))) && (decide (((c.toNat : Nat) : Int) ≤ 57)))) = true := by
        simp; omega
      rw [e]; exact hR
  · have hr := h2 hc
    subst hr
    subst hc
    exact hR
theorem ent_k9 {i e n : Nat} (h0 : 0 < n) (h1 : n < 128) (h : Sat σ w L) (hR : ∀ w nb, Sat σ w (plainC nb [UInt8.ofNat n] :: L) → R (.returned (.tuple #[ptrV ty_P_Plain nb, .int .i64 i, .int .i64 e, .bool true])) w) :
    g_parseHTMLEntity.k9 R (i : Int) (n : Int) (e : Int) w := by
  refine br_false (by simp; omega) ?_
  unfold g_parseHTMLEntity.k10
  rw [i32_in _ (by omega), enc_ascii h1]
  exact Sat.bx h fun nb w h => hR w nb h
theorem all_sub {p : UInt8 → Bool} {s : List UInt8} {a k : Nat} (hk : a + k ≤ s.length) (h : ∀ m, m < k → p (s.getD (a + m) 0) = true) : (sub s a (a + k)).all p = true := by
  rw [List.all_eq_true]
  intro c hc
  obtain ⟨m, hm, rfl⟩ := List.mem_iff_getElem.1 hc
  have hl := sub_length (s := s) (i := a) (j := a + k) hk
  have := h m (by omega)
  have e : (sub s a (a + k))[m] = s.getD (a + m) 0 := by
    rw [List.getD_eq_getElem?_getD, List.getElem?_eq_getElem (show a + m < s.length by omega)]
    simp [sub]
  rw [e]; exact this
end Go.Proofs.YtmkfleohcnopkaaGreatDoor

/- The loop that looks for inlines, round by round (no brackets, no code). -/
set_option linter.unusedVariables false
namespace Go.Proofs.YtmkfleohcnopkaaGreatDoor
open Go.Proofs Go.IntWalk Go.RowKit
variable {σ : Out} {w : World} {L L' : List Chunk} {R : Ending → World → Prop}
/-- The loop is at byte i; what lies ahead of e is among the inlines ts. -/
def AtI (X : XI) (σ : Out) (b : Nat) (p0 : PS) (raw : List UInt8) (L : List Chunk) (i e : Nat) (ts : List Inl) : Prop :=
  ∀ w (p : PS) oq on oc, p.coreS = p0.coreS → p.s = raw → p.em = (e : Int) → IIn σ b p ts [] oq on oc L w → X (some ⟨b, 0, none⟩) (bs raw) oq on oc 0 false (i : Int) w
def LoopX (R : Ending → World → Prop) (X : XI) (b : Nat) (raw : List UInt8) : Prop :=
  ∀ oq on oc (i : Int) w, g_parseState_inline.bl1 R X (some ⟨b, 0, none⟩) (bs raw) oq on oc 0 false i w → X (some ⟨b, 0, none⟩) (bs raw) oq on oc 0 false i w
theorem PS.pz_of {p p0 : PS} (h : p.coreS = p0.coreS) : p.pz = p0.pz := by have := congrArg PS.pz h; exact this
theorem PS.coreS_of {p' p p0 : PS} (h1 : p'.core = p.core) (h2 : p.coreS = p0.coreS) : p'.coreS = p0.coreS := by
  rw [← h2]
  have := congrArg (fun q : PS => ({ q with s := [] } : PS)) h1
  exact this
theorem AtI.plain {X : XI} {b pb i e : Nat} {p0 : PS} {raw : List UInt8} {ts : List Inl} {o : Opt} (hX : LoopX R X b raw) (hi : i < raw.length) (hs : raw.length < 1000000000) (hpz : p0.pz = some ⟨pb, 0, none⟩) (ho : o.at pb ∈ L) (hp : parserOf o raw[i] = .nil) (h93 : raw[i] ≠ 93)
    (h : AtI X σ b p0 raw L (i + 1) e ts) : AtI X σ b p0 raw L i e ts := by
  intro w p oq on oc hc hraw he hI
  refine hX _ _ _ _ _ ?_
  obtain ⟨vs, RM, EM, OM, hS, hIn, hO, hlen, hsat⟩ := hI
  refine inl_dispatch (p := p) hi (by omega) (by rw [PS.pz_of hc, hpz]) (.head _) (.tail _ (List.mem_append_right _ (List.mem_append_right _ (List.mem_append_right _ ho)))) hsat ?_
  rw [hp]
  exact inl_none (inl_k5 hi (by omega) (.inl h93) (h w p oq on oc hc hraw he ⟨vs, RM, EM, OM, hS, hIn, hO, hlen, hsat⟩))
theorem AtI.leaf {X : XI} {b pb i e st en : Nat} {p0 : PS} {raw : List UInt8} {ts : List Inl} {o : Opt} {f : FuncId} {t : Inl} {L0 : List Chunk} {Q : PS → PS → Prop} (hX : LoopX R X b raw) (hi : i < raw.length) (hs : raw.length < 1000000000) (hpz : p0.pz = some ⟨pb, 0, none⟩) (ho : o.at pb ∈ L)
    (hp : parserOf o raw[i] = .fn f) (hL0 : ∀ c ∈ L0, c ∈ L) (hf : ∀ p : PS, p.coreS = p0.coreS → p.s = raw → LeafOK b p raw i (.func (.func f) #[] #[]) L0 (some (t, st, en)) (Q p)) (ht : t.isOpen = false) (hst : st ≤ raw.length) (hn : ts.length < 1000000000)
    (h : AtI X σ b p0 raw L en en (emitM raw e st ts ++ [t])) : AtI X σ b p0 raw L i e ts := by
  intro w p oq on oc hc hraw he hI
  refine hX _ _ _ _ _ ?_
  obtain ⟨vs, RM, EM, OM, hS, hIn, hO, hlen, hsat⟩ := hI
  refine inl_dispatch (p := p) hi (by omega) (by rw [PS.pz_of hc, hpz]) (.head _) (.tail _ (List.mem_append_right _ (List.mem_append_right _ (List.mem_append_right _ ho)))) hsat ?_
  rw [hp]
  dsimp only
  have hleaf := hf p hc hraw
  subst hraw
  refine inl_leaf ⟨vs, RM, EM, OM, hS, hIn, hO, hlen, hsat⟩ hL0 hleaf he hst hs hn (by simp) fun w p2 oq on oc hp2 hem2 _ h2 => ?_
  rw [ht] at h2
  refine h w p2 oq on oc (PS.coreS_of hp2 hc) ?_ hem2 h2
  have := congrArg PS.s hp2; exact this
theorem AtI.decl {X : XI} {b pb i e : Nat} {p0 : PS} {raw : List UInt8} {ts : List Inl} {o : Opt} {f : FuncId} {L0 : List Chunk} (hX : LoopX R X b raw) (hi : i < raw.length) (hs : raw.length < 1000000000) (hpz : p0.pz = some ⟨pb, 0, none⟩) (ho : o.at pb ∈ L)
    (hp : parserOf o raw[i] = .fn f) (h93 : raw[i] ≠ 93) (hL0 : ∀ c ∈ L0, c ∈ L) (hf : ∀ p : PS, p.coreS = p0.coreS → p.s = raw → LeafOK b p raw i (.func (.func f) #[] #[]) L0 none (fun p' => p' = p))
    (h : AtI X σ b p0 raw L (i + 1) e ts) : AtI X σ b p0 raw L i e ts := by
  intro w p oq on oc hc hraw he hI
  refine hX _ _ _ _ _ ?_
  obtain ⟨vs, RM, EM, OM, hS, hIn, hO, hlen, hsat⟩ := hI
  refine inl_dispatch (p := p) hi (by omega) (by rw [PS.pz_of hc, hpz]) (.head _) (.tail _ (List.mem_append_right _ (List.mem_append_right _ (List.mem_append_right _ ho)))) hsat ?_
  rw [hp]
  dsimp only
  have hleaf := hf p hc hraw
  subst hraw
  refine inl_decl ⟨vs, RM, EM, OM, hS, hIn, hO, hlen, hsat⟩ hL0 hleaf fun w p2 _ hp2 h2 => ?_
  subst hp2
  exact inl_k5 hi (by omega) (.inl h93) (h w p2 oq on oc hc rfl he h2)
theorem AtI.fin {X : XI} {b pb e : Nat} {p0 : PS} {raw : List UInt8} {ts ts' : List Inl} {o : Opt} (hX : LoopX R X b raw) (hs : raw.length < 1000000000) (hpz : p0.pz = some ⟨pb, 0, none⟩) (ho : o.at pb ∈ L) (hoff : o.auto = false) (hn : ts.length < 1000000000)
    (hE : EmphOK (emitM raw e raw.length ts) ts') (hpos : ∀ t ∈ ts', ∀ s, t.plain? = some s → s ≠ []) (hb : plen ts' < 1073741824)
    (hR : ∀ w (p' : PS) q n c vs RM EM, p'.coreS = p0.coreS → Sl 1 ty_Inline q n c vs RM → n < 1073741824 → InlsAt (mergeM ts') vs EM → Sat σ w (p'.at b :: (RM ++ (EM ++ L))) → R (.returned (.slice q n c)) w) :
    AtI X σ b p0 raw L raw.length e ts := by
  intro w p oq on oc hc hraw he hI
  refine hX _ _ _ _ _ ?_
  subst hraw
  exact inl_end hI he hs hn (by rw [PS.pz_of hc, hpz]) ho hoff hE hpos hb fun w p2 q n c vs RM EM hp2 hS hn hI h => hR w p2 q n c vs RM EM (PS.coreS_of hp2 hc) hS hn hI h
theorem AtI.star {X : XI} {b pb i j e : Nat} {p0 : PS} {raw : List UInt8} {ts : List Inl} {o : Opt} (hX : LoopX R X b raw) (hij : i < j) (hj : j ≤ raw.length) (hs : raw.length < 1000000000) (hpz : p0.pz = some ⟨pb, 0, none⟩) (ho : o.at pb ∈ L)
    (hrun : ∀ k, i ≤ k → k < j → raw.getD k 0 = 42) (hend : j < raw.length → raw.getD j 0 ≠ 42) (ha : befB raw i < 128) (hb : aftB raw j < 128) (hn : ts.length < 1000000000)
    (h : AtI X σ b p0 raw L j j (emitM raw e i ts ++ [.emphP (sub raw i j) (leftF (befB raw i) (aftB raw j)) (rightF (befB raw i) (aftB raw j)) 0 ((j - i : Nat) : Int)])) : AtI X σ b p0 raw L i e ts := by
  have hc : raw[i]'(by omega) = 42 := by
    have := hrun i (by omega) hij
    rw [List.getD_eq_getElem?_getD, List.getElem?_eq_getElem (show i < raw.length by omega)] at this
    exact this
  refine AtI.leaf (Q := fun p p' => p' = p) hX (by omega) hs hpz ho (f := i_parseEmph) ?_ (L0 := []) (by simp) (fun p hp hr => parseStar_leaf (by omega) hij hj hrun hend ha hb) rfl (by omega) hn h
  rw [hc]; rfl
end Go.Proofs.YtmkfleohcnopkaaGreatDoor

/- Small lemmas on lists, and the options that are all off. -/
set_option linter.unusedVariables false
namespace Go.Proofs.YtmkfleohcnopkaaGreatDoor
open Go.Proofs
theorem getD_app {a b : List UInt8} {k : Nat} (h : a.length ≤ k) : (a ++ b).getD k 0 = b.getD (k - a.length) 0 := by
  rw [List.getD_eq_getElem?_getD, List.getElem?_append_right h, ← List.getD_eq_getElem?_getD]
theorem getD_app' {a b : List UInt8} {k : Nat} {d : UInt8} (h : k < a.length) : (a ++ b).getD k d = a.getD k d := by
  rw [List.getD_eq_getElem?_getD, List.getElem?_append_left h, ← List.getD_eq_getElem?_getD]
theorem sub_mid (A B C : List UInt8) : sub (A ++ (B ++ C)) A.length (A.length + B.length) = B := by
  unfold sub
  rw [← List.append_assoc, show A.length + B.length = (A ++ B).length by simp, List.take_left, List.drop_left]
theorem getD_mid (A C : List UInt8) (b d : UInt8) : (A ++ (b :: C)).getD A.length d = b := by
  rw [List.getD_eq_getElem?_getD, List.getElem?_append_right (Nat.le_refl _), Nat.sub_self]; rfl
theorem getElem_getD {l : List UInt8} {i : Nat} (h : i < l.length) (d : UInt8) : l[i] = l.getD i d := by
  rw [List.getD_eq_getElem?_getD, List.getElem?_eq_getElem h]; rfl
def optOff : Opt := ⟨false, false, false, false, false, false, false, false, false, false⟩
end Go.Proofs.YtmkfleohcnopkaaGreatDoor

/- Numeric references: the leaf. -/
set_option linter.unusedVariables false
namespace Go.Proofs.YtmkfleohcnopkaaGreatDoor
open Go.Proofs Go.IntWalk Go.RowKit
variable {σ : Out} {w : World} {L L' : List Chunk} {R : Ending → World → Prop}
theorem entDec_ok {q : Option Addr} {s : List UInt8} {i k : Nat} (hs : s.length < 1000000) (hl : i + 2 + k < s.length) (h35 : s.getD (i + 1) 0 = 35) (hk1 : 1 ≤ k) (hk7 : k ≤ 7) (hd : ∀ m, m < k → decB (s.getD (i + 2 + m) 0) = true) (hend : s.getD (i + 2 + k) 0 = 59)
    (hv0 : 0 < valB 10 (sub s (i + 2) (i + 2 + k))) (hv : valB 10 (sub s (i + 2) (i + 2 + k)) < 128) (h : Sat σ w L)
    (hR : ∀ w nb, Sat σ w (plainC nb [UInt8.ofNat (valB 10 (sub s (i + 2) (i + 2 + k)))] :: L) → R (.returned (.tuple #[ptrV ty_P_Plain nb, .int .i64 i, .int .i64 ((i + 2 + k + 1 : Nat) : Int), .bool true])) w) :
    callE P i_parseHTMLEntity #[.pointer q, .string (bs s), .int .i64 i] R w := by
  refine g_parseHTMLEntity.sound ?_
  unfold g_parseHTMLEntity
  have e1 : IntKind.i64.wrap ((i : Int) + 1) = ((i + 1 : Nat) : Int) := i64_inc (by omega)
  have e2 : IntKind.i64.wrap ((i : Int) + 2) = ((i + 2 : Nat) : Int) := by simp (disch := omega) only [i64_in]; omega
  rw [e1]
  refine ⟨fun _ => ⟨by omega, by simp; omega⟩, ?_⟩
  unfold g_parseHTMLEntity.k1
  rw [e2, bt_getD 35 35 rfl, h35]
  refine br_true (by simp; omega) ⟨fun _ => ⟨by omega, by simp; omega⟩, fun _ => ⟨by omega, by simp; omega⟩, ?_⟩
  have hd0 := hd 0 (by omega)
  rw [Nat.add_zero] at hd0
  have hn : s.getD (i + 2) 0 ≠ 120 ∧ s.getD (i + 2) 0 ≠ 88 := by
    constructor <;> (intro hc; rw [hc] at hd0; exact absurd hd0 (by decide))
  unfold g_parseHTMLEntity.k2
  rw [bt_getD 120 120 rfl, bt_getD 88 88 rfl]
  refine br_false (by rw [beq_false_of_ne hn.1, beq_false_of_ne hn.2]; simp) ?_
  intro X hX
  have key : ∀ j m, m + j = k → X (bs s) ((i + 2 : Nat) : Int) (i : Int) ((i + 2 + m : Nat) : Int) w := by
    intro j
    induction j with
    | zero =>
      intro m hm
      obtain rfl : m = k := hm
      refine hX _ _ _ _ _ ⟨fun _ => ⟨by omega, by simp; omega⟩, br_true (by simp; omega) ?_⟩
      rw [bs_bt, hend]
      refine isDigit_ok ⟨_, rfl, br_false (by decide) ?_⟩
      unfold g_parseHTMLEntity.k6
      refine ⟨fun _ => ⟨by omega, by simp; omega⟩, ?_⟩
      unfold g_parseHTMLEntity.k8
      have e3 : IntKind.i64.wrap (((i + 2 + m : Nat) : Int) - ((i + 2 : Nat) : Int)) = (m : Int) := by simp (disch := omega) only [i64_in]; omega
      have e4 : (bt (bs s) ((i + 2 + m : Nat) : Int) != 59) = false := by rw [bne, bt_getD 59 59 rfl, hend]; rfl
      rw [e3, e4, i64_inc (by omega)]
      refine br_false (by simp; omega) ⟨by omega, by omega, by simp; omega, ?_⟩
      rw [Int.toNat_natCast, Int.toNat_natCast, bs_extract]
      have hsl := sub_length (s := s) (i := i + 2) (j := i + 2 + m) (by omega)
      refine atoi_ok (s := sub s (i + 2) (i + 2 + m)) (by intro h0; rw [h0] at hsl; simp at hsl; omega) (by omega) (all_sub (by omega) hd) (by omega) h fun w h => ⟨_, _, rfl, ?_⟩
      exact ent_k9 hv0 hv h hR
    | succ j ih =>
      intro m hm
      refine hX _ _ _ _ _ ⟨fun _ => ⟨by omega, by simp; omega⟩, br_true (by simp; omega) ?_⟩
      rw [bs_bt]
      refine isDigit_ok ⟨_, rfl, br_true (hd m (by omega)) ?_⟩
      rw [i64_inc (by omega)]
      exact ih (m + 1) (by omega)
  exact key k 0 (by omega)
theorem entHex_ok {q : Option Addr} {s : List UInt8} {i k : Nat} (hs : s.length < 1000000) (hl : i + 3 + k < s.length) (h35 : s.getD (i + 1) 0 = 35) (h120 : s.getD (i + 2) 0 = 120) (hk1 : 1 ≤ k) (hk7 : k ≤ 6) (hd : ∀ m, m < k → hexB (s.getD (i + 3 + m) 0) = true) (hend : s.getD (i + 3 + k) 0 = 59)
    (hv0 : 0 < valB 16 (sub s (i + 3) (i + 3 + k))) (hv : valB 16 (sub s (i + 3) (i + 3 + k)) < 128) (h : Sat σ w L)
    (hR : ∀ w nb, Sat σ w (plainC nb [UInt8.ofNat (valB 16 (sub s (i + 3) (i + 3 + k)))] :: L) → R (.returned (.tuple #[ptrV ty_P_Plain nb, .int .i64 i, .int .i64 ((i + 3 + k + 1 : Nat) : Int), .bool true])) w) :
    callE P i_parseHTMLEntity #[.pointer q, .string (bs s), .int .i64 i] R w := by
  refine g_parseHTMLEntity.sound ?_
  unfold g_parseHTMLEntity
  have e1 : IntKind.i64.wrap ((i : Int) + 1) = ((i + 1 : Nat) : Int) := i64_inc (by omega)
  have e2 : IntKind.i64.wrap ((i : Int) + 2) = ((i + 2 : Nat) : Int) := by simp (disch := omega) only [i64_in]; omega
  rw [e1]
  refine ⟨fun _ => ⟨by omega, by simp; omega⟩, ?_⟩
  unfold g_parseHTMLEntity.k1
  rw [e2, bt_getD 35 35 rfl, h35]
  refine br_true (by simp; omega) ⟨fun _ => ⟨by omega, by simp; omega⟩, fun _ => ⟨by omega, by simp; omega⟩, ?_⟩
  unfold g_parseHTMLEntity.k2
  rw [bt_getD 120 120 rfl, h120]
  refine br_true (by simp; omega) ?_
  rw [i64_inc (by omega)]
  intro X hX
  have key : ∀ j m, m + j = k → X (bs s) ((i + 3 : Nat) : Int) (i : Int) ((i + 3 + m : Nat) : Int) w := by
    intro j
    induction j with
    | zero =>
      intro m hm
      obtain rfl : m = k := hm
      refine hX _ _ _ _ _ ⟨fun _ => ⟨by omega, by simp; omega⟩, br_true (by simp; omega) ?_⟩
      rw [bs_bt, hend]
      refine isHex_ok (r := false) (fun h => absurd h (by decide)) (fun _ => rfl) (.inr rfl) ⟨_, rfl, br_false rfl ?_⟩
      unfold g_parseHTMLEntity.k5
      refine ⟨fun _ => ⟨by omega, by simp; omega⟩, ?_⟩
      unfold g_parseHTMLEntity.k7
      have e3 : IntKind.i64.wrap (((i + 3 + m : Nat) : Int) - ((i + 3 : Nat) : Int)) = (m : Int) := by simp (disch := omega) only [i64_in]; omega
      have e4 : (bt (bs s) ((i + 3 + m : Nat) : Int) != 59) = false := by rw [bne, bt_getD 59 59 rfl, hend]; rfl
      rw [e3, e4, i64_inc (by omega)]
      refine br_false (by simp; omega) ⟨by omega, by omega, by simp; omega, ?_⟩
      rw [Int.toNat_natCast, Int.toNat_natCast, bs_extract]
      have hsl := sub_length (s := s) (i := i + 3) (j := i + 3 + m) (by omega)
      refine parseInt16_ok (s := sub s (i + 3) (i + 3 + m)) (by intro h0; rw [h0] at hsl; simp at hsl; omega) (by omega) (all_sub (by omega) hd) (by omega) h fun w h => ⟨_, _, rfl, ?_⟩
      exact ent_k9 hv0 hv h hR
    | succ j ih =>
      intro m hm
      refine hX _ _ _ _ _ ⟨fun _ => ⟨by omega, by simp; omega⟩, br_true (by simp; omega) ?_⟩
      rw [bs_bt]
      have hdm := hd m (by omega)
      refine isHex_ok (r := true) (fun _ => rfl) (fun h => by rw [h] at hdm; exact absurd hdm (by decide)) (.inl hdm) ⟨_, rfl, br_true rfl ?_⟩
      rw [i64_inc (by omega)]
      exact ih (m + 1) (by omega)
  exact key k 0 (by omega)
theorem refT_length (x : Bool) {c : UInt8} (hc : c < 128) : (refT x c).length = 3 + (if x then 1 else 0) + (digOf x c).length ∧ 1 ≤ (digOf x c).length ∧ (digOf x c).length ≤ 3 := by
  have hc' := UInt8.lt_iff_toNat_lt.1 hc
  have hg := good_of x (n := c.toNat) hc'
  simp only [goodD, Bool.and_eq_true, decide_eq_true_eq] at hg
  refine ⟨?_, hg.1.1.1, hg.1.1.2⟩
  cases x <;> simp [refT] <;> omega
/-- The reference of c in a text, as a leaf. -/
theorem ref_leaf {b : Nat} {p : PS} {x : Bool} {c : UInt8} {A B : List UInt8} (hc : c < 128) (hc0 : c ≠ 0) (hs : (A ++ (refT x c ++ B)).length < 1000000) :
    LeafOK b p (A ++ (refT x c ++ B)) A.length (.func (.func i_parseHTMLEntity) #[] #[]) [] (some (.plain [c], A.length, A.length + (refT x c).length)) (fun p' => p' = p) := by
  intro σ R L w _ h hR
  refine enter_fn ?_
  have hc' := UInt8.lt_iff_toNat_lt.1 hc
  have hcn : c.toNat < 128 := hc'
  have hg := good_of x hcn
  simp only [goodD, Bool.and_eq_true, decide_eq_true_eq, beq_iff_eq] at hg
  obtain ⟨⟨⟨hg1, hg2⟩, hg3⟩, hg4⟩ := hg
  have hrl := refT_length x hc
  have hpos : 0 < c.toNat := by
    rcases Nat.eq_zero_or_pos c.toNat with h0 | h0
    · exact absurd (UInt8.toNat_inj.1 (show c.toNat = (0 : UInt8).toNat from h0)) hc0
    · exact h0
  have hcc : UInt8.ofNat c.toNat = c := by simp
  generalize hD : digOf x c = D at *
  have hD' : digM (baseOf x) 300 c.toNat = D := hD
  rw [hD'] at hg1 hg2 hg3 hg4
  have hall : ∀ m, m < D.length → (if x then hexB else decB) (D.getD m 0) = true := by
    intro m hm
    rw [List.getD_eq_getElem?_getD, List.getElem?_eq_getElem hm]
    exact (List.all_eq_true.1 hg3) _ (List.getElem_mem hm)
  cases x with
  | false =>
    have et : A ++ (refT false c ++ B) = (A ++ [38, 35]) ++ (D ++ (59 :: B)) := by simp [refT, hD]
    rw [et] at hs ⊢
    have hA : (A ++ [38, 35] : List UInt8).length = A.length + 2 := by simp
    have hsub := sub_mid (A ++ [38, 35]) D (59 :: B)
    rw [hA] at hsub
    have hlen : ((A ++ [38, 35]) ++ (D ++ (59 :: B))).length = A.length + 2 + D.length + 1 + B.length := by simp; omega
    have g1 : ((A ++ [38, 35]) ++ (D ++ (59 :: B))).getD (A.length + 1) 0 = 35 := by
      have := getD_mid (A ++ [38]) (D ++ (59 :: B)) 35 0
      rw [show (A ++ [38] : List UInt8).length = A.length + 1 by simp] at this
      rw [← this]; simp
    have gd : ∀ m, m < D.length → ((A ++ [38, 35]) ++ (D ++ (59 :: B))).getD (A.length + 2 + m) 0 = D.getD m 0 := by
      intro m hm
      rw [getD_app (by rw [hA]; omega), hA, show A.length + 2 + m - (A.length + 2) = m by omega, getD_app' hm]
    have ge : ((A ++ [38, 35]) ++ (D ++ (59 :: B))).getD (A.length + 2 + D.length) 0 = 59 := by
      rw [getD_app (by rw [hA]; omega), hA, show A.length + 2 + D.length - (A.length + 2) = D.length by omega]
      exact getD_mid D B 59 0
    have e10 : baseOf false = 10 := rfl
    rw [e10] at hg4
    refine entDec_ok (k := D.length) hs (by omega) g1 hg1 (by omega) (fun m hm => by rw [gd m hm]; exact hall m hm) ge (by rw [hsub, hg4]; exact hpos) (by rw [hsub, hg4]; exact hcn) h ?_
    rw [hsub, hg4, hcc]
    intro w nb h
    have hl : A.length + (refT false c).length = A.length + 2 + D.length + 1 := by rw [hrl.1]; simp; omega
    rw [hl] at hR
    exact hR w p _ _ rfl rfl ⟨nb, [], _, rfl, rfl⟩ h.up1
  | true =>
    have et : A ++ (refT true c ++ B) = (A ++ [38, 35, 120]) ++ (D ++ (59 :: B)) := by simp [refT, hD]
    rw [et] at hs ⊢
    have hA : (A ++ [38, 35, 120] : List UInt8).length = A.length + 3 := by simp
    have hsub := sub_mid (A ++ [38, 35, 120]) D (59 :: B)
    rw [hA] at hsub
    have hlen : ((A ++ [38, 35, 120]) ++ (D ++ (59 :: B))).length = A.length + 3 + D.length + 1 + B.length := by simp; omega
    have g1 : ((A ++ [38, 35, 120]) ++ (D ++ (59 :: B))).getD (A.length + 1) 0 = 35 := by
      have := getD_mid (A ++ [38]) (120 :: (D ++ (59 :: B))) 35 0
      rw [show (A ++ [38] : List UInt8).length = A.length + 1 by simp] at this
      rw [← this]; simp
    have g2 : ((A ++ [38, 35, 120]) ++ (D ++ (59 :: B))).getD (A.length + 2) 0 = 120 := by
      have := getD_mid (A ++ [38, 35]) (D ++ (59 :: B)) 120 0
      rw [show (A ++ [38, 35] : List UInt8).length = A.length + 2 by simp] at this
      rw [← this]; simp
    have gd : ∀ m, m < D.length → ((A ++ [38, 35, 120]) ++ (D ++ (59 :: B))).getD (A.length + 3 + m) 0 = D.getD m 0 := by
      intro m hm
      rw [getD_app (by rw [hA]; omega), hA, show A.length + 3 + m - (A.length + 3) = m by omega, getD_app' hm]
    have ge : ((A ++ [38, 35, 120]) ++ (D ++ (59 :: B))).getD (A.length + 3 + D.length) 0 = 59 := by
      rw [getD_app (by rw [hA]; omega), hA, show A.length + 3 + D.length - (A.length + 3) = D.length by omega]
      exact getD_mid D B 59 0
    have e16 : baseOf true = 16 := rfl
    rw [e16] at hg4
    refine entHex_ok (k := D.length) hs (by omega) g1 g2 hg1 (by omega) (fun m hm => by rw [gd m hm]; exact hall m hm) ge (by rw [hsub, hg4]; exact hpos) (by rw [hsub, hg4]; exact hcn) h ?_
    rw [hsub, hg4, hcc]
    intro w nb h
    have hl : A.length + (refT true c).length = A.length + 3 + D.length + 1 := by rw [hrl.1]; simp; omega
    rw [hl] at hR
    exact hR w p _ _ rfl rfl ⟨nb, [], _, rfl, rfl⟩ h.up1
end Go.Proofs.YtmkfleohcnopkaaGreatDoor

set_option linter.unusedVariables false
set_option maxRecDepth 20000
namespace Go.Proofs.YtmkfleohcnopkaaGreatDoor
open Go.Proofs
/- 296 (*pub-paratext/pub/rscmarkdown.Emph).PrintHTML -/
noncomputable def g_Emph_PrintHTML.body : Code := bodyOf Tryz.f296
def g_Emph_PrintHTML.bl1 (R : Ending → World → Prop) (Xa : Option Addr → Option Addr → Nat → Nat → Int → Int → World → Prop) (x1 : Option Addr) (x11q : Option Addr) (x11n : Nat) (x11c : Nat) (x12 : Int) (x13 : Int) (w : World) : Prop :=
 br (decide (x13 < x12))
 (0 ≤ x13 ∧ x13 < (x11n : Int) ∧
 nilP x11q fun a5 =>
 ∃ (v6 : Value), w.cell? (a5.add (Int.toNat x13 * 1)) = some v6 ∧
 enterE P (callMethod v6 "PrintHTML" #[.pointer x1]) (fun e w8 => e = .returned (.tuple #[]) ∧
 Xa x1 x11q x11n x11c x12 (IntKind.i64.wrap (x13 + 1)) w8) w)
 (callE P i_bytes_Buffer_WriteString #[.pointer x1, .string (ByteArray.mk #[60, 47, 101, 109, 62])] (fun e w10 => ∃ (r9_0 : Int), ∃ (r9_1 : Value), e = .returned (.tuple #[.int .i64 r9_0, r9_1]) ∧
 R (.returned (.tuple #[])) w10) w)
def g_Emph_PrintHTML.l1 (R : Ending → World → Prop) (x1 : Option Addr) (x11q : Option Addr) (x11n : Nat) (x11c : Nat) (x12 : Int) (x13 : Int) (w : World) : Prop :=
  ∀ X : Option Addr → Option Addr → Nat → Nat → Int → Int → World → Prop, (∀ x1 x11q x11n x11c x12 x13 w, g_Emph_PrintHTML.bl1 R X x1 x11q x11n x11c x12 x13 w → X x1 x11q x11n x11c x12 x13 w) → X x1 x11q x11n x11c x12 x13 w

noncomputable def g_Emph_PrintHTML.al1 (R : Ending → World → Prop) (Xa : Option Addr → Option Addr → Nat → Nat → Int → Int → World → Prop) : AC :=
  (.leaf (sel [1, 0, 1, 0, 0] g_Emph_PrintHTML.body))
def g_Emph_PrintHTML (R : Ending → World → Prop) (x0 : Option Addr) (x1 : Option Addr) (w : World) : Prop :=
 callE P i_bytes_Buffer_WriteString #[.pointer x1, .string (ByteArray.mk #[60, 101, 109, 62])] (fun e w2 => ∃ (r1_0 : Int), ∃ (r1_1 : Value), e = .returned (.tuple #[.int .i64 r1_0, r1_1]) ∧
 nilP x0 fun a3 =>
 ∃ (v4q : Option Addr), ∃ (v4n : Nat), ∃ (v4c : Nat), w2.cell? (a3.add 1) = some (.slice v4q v4n v4c) ∧
 g_Emph_PrintHTML.l1 R x1 v4q v4n v4c (v4n : Int) 0 w2) w

noncomputable def g_Emph_PrintHTML.ac (R : Ending → World → Prop) : AC :=
  (.seq (.leaf (sel [0] g_Emph_PrintHTML.body)) (.seq (.seq (.leaf (sel [1, 0, 0] g_Emph_PrintHTML.body)) (.block 0 (.loop (leaf [(1, .s .ptr), (11, .s .slice), (12, .s (.int .i64)), (13, .s (.int .i64))] (g_Emph_PrintHTML.l1 R)) (sel [1, 0, 1, 0, 0] g_Emph_PrintHTML.body)))) (.leaf (sel [1, 1] g_Emph_PrintHTML.body))))
theorem g_Emph_PrintHTML.good (R : Ending → World → Prop) : Good P 23 (g_Emph_PrintHTML.ac R) (QF P [] R) :=
  ⟨trivial, ⟨⟨trivial, (loopG (g_Emph_PrintHTML.al1 R) (g_Emph_PrintHTML.bl1 R) (fun _ => by kernel_rfl) (fun Xa => trivial) (fun Xa => by intro x1 x11q x11n x11c x12 x13 ρ w; kernel_rfl) (fun X h _ _ _ _ _ _ _ g => g X h))⟩, trivial⟩⟩
theorem g_Emph_PrintHTML.eq (R : Ending → World → Prop) (x0 : Option Addr) (x1 : Option Addr) (w : World) : g_Emph_PrintHTML R x0 x1 w = vcA P 23 (g_Emph_PrintHTML.ac R) (QF P [] R) (fr0 [.pointer x0, .pointer x1]) w := by kernel_rfl
theorem g_Emph_PrintHTML.sound {R : Ending → World → Prop} {x0 : Option Addr} {x1 : Option Addr} {w : World} (h : g_Emph_PrintHTML R x0 x1 w) : callE P i_Emph_PrintHTML #[.pointer x0, .pointer x1] R w :=
  callE_fin (c := g_Emph_PrintHTML.body) Tryz.func296 Tryz.call296 (by kernel_rfl) (by kernel_rfl) (by kernel_rfl) (by kernel_rfl) (by kernel_rfl) (g_Emph_PrintHTML.good R) (g_Emph_PrintHTML.eq R x0 x1 w) h
end Go.Proofs.YtmkfleohcnopkaaGreatDoor

set_option linter.unusedVariables false
set_option maxRecDepth 20000
namespace Go.Proofs.YtmkfleohcnopkaaGreatDoor
open Go.Proofs
/- 304 (*pub-paratext/pub/rscmarkdown.Strong).PrintHTML -/
noncomputable def g_Strong_PrintHTML.body : Code := bodyOf Tryz.f304
def g_Strong_PrintHTML.bl1 (R : Ending → World → Prop) (Xa : Option Addr → Option Addr → Nat → Nat → Int → Int → World → Prop) (x1 : Option Addr) (x11q : Option Addr) (x11n : Nat) (x11c : Nat) (x12 : Int) (x13 : Int) (w : World) : Prop :=
 br (decide (x13 < x12))
 (0 ≤ x13 ∧ x13 < (x11n : Int) ∧
 nilP x11q fun a5 =>
 ∃ (v6 : Value), w.cell? (a5.add (Int.toNat x13 * 1)) = some v6 ∧
 enterE P (callMethod v6 "PrintHTML" #[.pointer x1]) (fun e w8 => e = .returned (.tuple #[]) ∧
 Xa x1 x11q x11n x11c x12 (IntKind.i64.wrap (x13 + 1)) w8) w)
 (callE P i_bytes_Buffer_WriteString #[.pointer x1, .string (ByteArray.mk #[60, 47, 115, 116, 114, 111, 110, 103, 62])] (fun e w10 => ∃ (r9_0 : Int), ∃ (r9_1 : Value), e = .returned (.tuple #[.int .i64 r9_0, r9_1]) ∧
 R (.returned (.tuple #[])) w10) w)
def g_Strong_PrintHTML.l1 (R : Ending → World → Prop) (x1 : Option Addr) (x11q : Option Addr) (x11n : Nat) (x11c : Nat) (x12 : Int) (x13 : Int) (w : World) : Prop :=
  ∀ X : Option Addr → Option Addr → Nat → Nat → Int → Int → World → Prop, (∀ x1 x11q x11n x11c x12 x13 w, g_Strong_PrintHTML.bl1 R X x1 x11q x11n x11c x12 x13 w → X x1 x11q x11n x11c x12 x13 w) → X x1 x11q x11n x11c x12 x13 w

noncomputable def g_Strong_PrintHTML.al1 (R : Ending → World → Prop) (Xa : Option Addr → Option Addr → Nat → Nat → Int → Int → World → Prop) : AC :=
  (.leaf (sel [1, 0, 1, 0, 0] g_Strong_PrintHTML.body))
def g_Strong_PrintHTML (R : Ending → World → Prop) (x0 : Option Addr) (x1 : Option Addr) (w : World) : Prop :=
 callE P i_bytes_Buffer_WriteString #[.pointer x1, .string (ByteArray.mk #[60, 115, 116, 114, 111, 110, 103, 62])] (fun e w2 => ∃ (r1_0 : Int), ∃ (r1_1 : Value), e = .returned (.tuple #[.int .i64 r1_0, r1_1]) ∧
 nilP x0 fun a3 =>
 ∃ (v4q : Option Addr), ∃ (v4n : Nat), ∃ (v4c : Nat), w2.cell? (a3.add 1) = some (.slice v4q v4n v4c) ∧
 g_Strong_PrintHTML.l1 R x1 v4q v4n v4c (v4n : Int) 0 w2) w

noncomputable def g_Strong_PrintHTML.ac (R : Ending → World → Prop) : AC :=
  (.seq (.leaf (sel [0] g_Strong_PrintHTML.body)) (.seq (.seq (.leaf (sel [1, 0, 0] g_Strong_PrintHTML.body)) (.block 0 (.loop (leaf [(1, .s .ptr), (11, .s .slice), (12, .s (.int .i64)), (13, .s (.int .i64))] (g_Strong_PrintHTML.l1 R)) (sel [1, 0, 1, 0, 0] g_Strong_PrintHTML.body)))) (.leaf (sel [1, 1] g_Strong_PrintHTML.body))))
theorem g_Strong_PrintHTML.good (R : Ending → World → Prop) : Good P 23 (g_Strong_PrintHTML.ac R) (QF P [] R) :=
  ⟨trivial, ⟨⟨trivial, (loopG (g_Strong_PrintHTML.al1 R) (g_Strong_PrintHTML.bl1 R) (fun _ => by kernel_rfl) (fun Xa => trivial) (fun Xa => by intro x1 x11q x11n x11c x12 x13 ρ w; kernel_rfl) (fun X h _ _ _ _ _ _ _ g => g X h))⟩, trivial⟩⟩
theorem g_Strong_PrintHTML.eq (R : Ending → World → Prop) (x0 : Option Addr) (x1 : Option Addr) (w : World) : g_Strong_PrintHTML R x0 x1 w = vcA P 23 (g_Strong_PrintHTML.ac R) (QF P [] R) (fr0 [.pointer x0, .pointer x1]) w := by kernel_rfl
theorem g_Strong_PrintHTML.sound {R : Ending → World → Prop} {x0 : Option Addr} {x1 : Option Addr} {w : World} (h : g_Strong_PrintHTML R x0 x1 w) : callE P i_Strong_PrintHTML #[.pointer x0, .pointer x1] R w :=
  callE_fin (c := g_Strong_PrintHTML.body) Tryz.func304 Tryz.call304 (by kernel_rfl) (by kernel_rfl) (by kernel_rfl) (by kernel_rfl) (by kernel_rfl) (g_Strong_PrintHTML.good R) (g_Strong_PrintHTML.eq R x0 x1 w) h
end Go.Proofs.YtmkfleohcnopkaaGreatDoor

/- Inlines print themselves. -/
set_option linter.unusedVariables false
namespace Go.Proofs.YtmkfleohcnopkaaGreatDoor
open Go.Proofs Go.IntWalk Go.RowKit
variable {σ : Out} {w : World} {L L' : List Chunk} {R : Ending → World → Prop}
theorem meth_Strong : methB P ty_P_Strong "PrintHTML" i_Strong_PrintHTML = true := by kernel_rfl
theorem meth_Emph : methB P ty_P_Emph "PrintHTML" i_Emph_PrintHTML = true := by kernel_rfl
def oStrong : List UInt8 := [60, 115, 116, 114, 111, 110, 103, 62]
def cStrong : List UInt8 := [60, 47, 115, 116, 114, 111, 110, 103, 62]
def oEm : List UInt8 := [60, 101, 109, 62]
def cEm : List UInt8 := [60, 47, 101, 109, 62]
theorem strong_prints {b : Nat} {e : TypeId} {m : Value} {q : Option Addr} {n c : Nat} {vs : List Value} {RM KM KM' : List Chunk} {f : List UInt8 → List UInt8} (hS : Sl 1 ty_Inline q n c vs RM) (hn : n < 4611686018427387904) (hP : PrintsL "PrintHTML" vs KM KM' f) :
    Prints "PrintHTML" (.iface ty_P_Strong (.pointer (some ⟨b, 0, none⟩))) ((b, cel [m, .slice q n c] e) :: (RM ++ KM)) ((b, cel [m, .slice q n c] e) :: (RM ++ KM')) (fun l => f (l ++ oStrong) ++ cStrong) := by
  refine ⟨fun l => ?_, fun σ R bb l M L w hB h hb hR => enter_meth meth_Strong ?_⟩
  · have := hP.mono (l ++ oStrong)
    simp only [List.length_append] at *; omega
  refine g_Strong_PrintHTML.sound ?_
  have hm := hP.mono (l ++ oStrong)
  simp only [List.length_append] at hb hm
  refine writeS_ok (s := oStrong) hB h (by omega) fun w M hB h => ⟨_, _, rfl, ?_⟩
  refine nilP_some ?_
  refine ⟨_, _, _, Sat.ld h (List.mem_append_right _ (.head _)) rfl, ?_⟩
  intro X hX
  have h : Sat σ w (M ++ (RM ++ (KM ++ ((b, cel [m, .slice q n c] e) :: L)))) := h.re (by intro _; simp only [List.append_eq, cnt_append, cnt_cons, cnt_nil] <;> omega)
  refine printLoop (X := fun j w => X (some ⟨bb, 0, none⟩) q n c (n : Int) j w) (END := fun w => callE P i_bytes_Buffer_WriteString #[.pointer (some ⟨bb, 0, none⟩), .string (bs cStrong)] (fun e w10 => ∃ (r9_0 : Int), ∃ (r9_1 : Value), e = .returned (.tuple #[.int .i64 r9_0, r9_1]) ∧ R (.returned (.tuple #[])) w10) w) hS (fun j w hj => hX _ _ _ _ _ _ _ hj) hP hB h hn (by omega) fun w M' hB h => ?_
  refine writeS_ok (s := cStrong) hB h (by omega) fun w M hB h => ⟨_, _, rfl, ?_⟩
  exact hR w M hB (h.re (by intro _; simp only [List.append_eq, cnt_append, cnt_cons, cnt_nil] <;> omega))
theorem em_prints {b : Nat} {e : TypeId} {m : Value} {q : Option Addr} {n c : Nat} {vs : List Value} {RM KM KM' : List Chunk} {f : List UInt8 → List UInt8} (hS : Sl 1 ty_Inline q n c vs RM) (hn : n < 4611686018427387904) (hP : PrintsL "PrintHTML" vs KM KM' f) :
    Prints "PrintHTML" (.iface ty_P_Emph (.pointer (some ⟨b, 0, none⟩))) ((b, cel [m, .slice q n c] e) :: (RM ++ KM)) ((b, cel [m, .slice q n c] e) :: (RM ++ KM')) (fun l => f (l ++ oEm) ++ cEm) := by
  refine ⟨fun l => ?_, fun σ R bb l M L w hB h hb hR => enter_meth meth_Emph ?_⟩
  · have := hP.mono (l ++ oEm)
    simp only [List.length_append] at *; omega
  refine g_Emph_PrintHTML.sound ?_
  have hm := hP.mono (l ++ oEm)
  simp only [List.length_append] at hb hm
  refine writeS_ok (s := oEm) hB h (by omega) fun w M hB h => ⟨_, _, rfl, ?_⟩
  refine nilP_some ?_
  refine ⟨_, _, _, Sat.ld h (List.mem_append_right _ (.head _)) rfl, ?_⟩
  intro X hX
  have h : Sat σ w (M ++ (RM ++ (KM ++ ((b, cel [m, .slice q n c] e) :: L)))) := h.re (by intro _; simp only [List.append_eq, cnt_append, cnt_cons, cnt_nil] <;> omega)
  refine printLoop (X := fun j w => X (some ⟨bb, 0, none⟩) q n c (n : Int) j w) (END := fun w => callE P i_bytes_Buffer_WriteString #[.pointer (some ⟨bb, 0, none⟩), .string (bs cEm)] (fun e w10 => ∃ (r9_0 : Int), ∃ (r9_1 : Value), e = .returned (.tuple #[.int .i64 r9_0, r9_1]) ∧ R (.returned (.tuple #[])) w10) w) hS (fun j w hj => hX _ _ _ _ _ _ _ hj) hP hB h hn (by omega) fun w M' hB h => ?_
  refine writeS_ok (s := cEm) hB h (by omega) fun w M hB h => ⟨_, _, rfl, ?_⟩
  exact hR w M hB (h.re (by intro _; simp only [List.append_eq, cnt_append, cnt_cons, cnt_nil] <;> omega))
/-! ### In general -/
mutual
/-- What an inline prints (of the kinds that are covered). -/
def outI : Inl → List UInt8
  | .plain s => escS htmlPs s
  | .strong _ ks => oStrong ++ outL ks ++ cStrong
  | .emph _ ks => oEm ++ outL ks ++ cEm
  | _ => []
def outL : List Inl → List UInt8
  | [] => []
  | t :: ts => outI t ++ outL ts
end
mutual
def okI : Inl → Prop
  | .plain s => s.length < 4294967296
  | .strong _ ks => okL ks ∧ ks.length < 1073741824
  | .emph _ ks => okL ks ∧ ks.length < 1073741824
  | _ => False
def okL : List Inl → Prop
  | [] => True
  | t :: ts => okI t ∧ okL ts
end
theorem Prints.as {m : String} {v : Value} {T T' : List Chunk} {f g : List UInt8 → List UInt8} (h : Prints m v T T' f) (e : f = g) : Prints m v T T' g := e ▸ h
theorem PrintsL.as {m : String} {v : List Value} {T T' : List Chunk} {f g : List UInt8 → List UInt8} (h : PrintsL m v T T' f) (e : f = g) : PrintsL m v T T' g := e ▸ h
mutual
theorem inl_prints : ∀ (t : Inl) (v : Value) (M : List Chunk), InlAt t v M → okI t → Prints "PrintHTML" v M M (ab (outI t))
  | .plain s, v, M, h, ho => by
    obtain ⟨b, cs, e, rfl, rfl⟩ := h
    exact plain_prints ho
  | .strong m ks, v, M, h, ho => by
    obtain ⟨b, e, q, n, c, vs, RM, KM, rfl, rfl, hS, hI⟩ := h
    have hl := hI.length
    have h0 := hS.1
    have h1 := ho.2
    refine (strong_prints hS (by omega) (inls_print ks vs KM hI ho.1)).as ?_
    funext l
    simp [ab, outI]
  | .emph m ks, v, M, h, ho => by
    obtain ⟨b, e, q, n, c, vs, RM, KM, rfl, rfl, hS, hI⟩ := h
    have hl := hI.length
    have h0 := hS.1
    have h1 := ho.2
    refine (em_prints hS (by omega) (inls_print ks vs KM hI ho.1)).as ?_
    funext l
    simp [ab, outI]
  | .openP _ _, v, M, h, ho => absurd ho id
  | .emphP _ _ _ _ _, v, M, h, ho => absurd ho id
  | .esc _, v, M, h, ho => absurd ho id
  | .code _, v, M, h, ho => absurd ho id
  | .del _ _, v, M, h, ho => absurd ho id
  | .link _ _ _ _ _, v, M, h, ho => absurd ho id
  | .image _ _ _ _ _, v, M, h, ho => absurd ho id
  | .auto _ _, v, M, h, ho => absurd ho id
  | .tag _, v, M, h, ho => absurd ho id
  | .hard, v, M, h, ho => absurd ho id
  | .soft, v, M, h, ho => absurd ho id
  | .task _, v, M, h, ho => absurd ho id
theorem inls_print : ∀ (ts : List Inl) (vs : List Value) (M : List Chunk), InlsAt ts vs M → okL ts → PrintsL "PrintHTML" vs M M (ab (outL ts))
  | [], vs, M, h, ho => by
    obtain ⟨rfl, rfl⟩ := h
    exact PrintsL.nil.as (by funext l; simp [ab, outL])
  | t :: ts, vs, M, h, ho => by
    obtain ⟨v, vs', M1, M2, rfl, rfl, h1, h2⟩ := h
    refine (PrintsL.cons (inl_prints t v M1 h1 ho.1) (inls_print ts vs' M2 h2 ho.2)).as ?_
    funext l
    simp [ab, outL]
end
end Go.Proofs.YtmkfleohcnopkaaGreatDoor

set_option linter.unusedVariables false
set_option maxRecDepth 20000
namespace Go.Proofs.YtmkfleohcnopkaaGreatDoor
open Go.Proofs
/- 13 pub-paratext/laws.printable -/
noncomputable def g_laws_printable.body : Code := bodyOf Tryz.f13
def g_laws_printable.bl1 (R : Ending → World → Prop) (Xa : ByteArray → Int → Int → World → Prop) (x0 : ByteArray) (x11 : Int) (x12 : Int) (w : World) : Prop :=
 br (decide (x12 < x11))
 (0 ≤ x12 ∧ x12 < (x0.size : Int) ∧
 ((!(decide ((bt x0 x12) < 32))) = true → 0 ≤ x12 ∧ x12 < (x0.size : Int)) ∧
 br ((decide ((bt x0 x12) < 32)) || (decide ((bt x0 x12) > 126)))
 (R (.returned (.bool false)) w)
 (Xa x0 x11 (IntKind.i64.wrap (x12 + 1)) w))
 (R (.returned (.bool true)) w)
def g_laws_printable.l1 (R : Ending → World → Prop) (x0 : ByteArray) (x11 : Int) (x12 : Int) (w : World) : Prop :=
  ∀ X : ByteArray → Int → Int → World → Prop, (∀ x0 x11 x12 w, g_laws_printable.bl1 R X x0 x11 x12 w → X x0 x11 x12 w) → X x0 x11 x12 w

noncomputable def g_laws_printable.al1 (R : Ending → World → Prop) (Xa : ByteArray → Int → Int → World → Prop) : AC :=
  (.leaf (sel [1, 1, 0, 1, 0, 0] g_laws_printable.body))
def g_laws_printable (R : Ending → World → Prop) (x0 : ByteArray) (x1 : Int) (w : World) : Prop :=
 br (decide ((x0.size : Int) > x1))
 (R (.returned (.bool false)) w)
 (g_laws_printable.l1 R x0 (x0.size : Int) 0 w)

noncomputable def g_laws_printable.ac (R : Ending → World → Prop) : AC :=
  (.seq (.leaf (sel [0] g_laws_printable.body)) (.seq (.leaf (sel [1, 0] g_laws_printable.body)) (.seq (.seq (.leaf (sel [1, 1, 0, 0] g_laws_printable.body)) (.block 0 (.loop (leaf [(0, .s .str), (11, .s (.int .i64)), (12, .s (.int .i64))] (g_laws_printable.l1 R)) (sel [1, 1, 0, 1, 0, 0] g_laws_printable.body)))) (.leaf (sel [1, 1, 1] g_laws_printable.body)))))
theorem g_laws_printable.good (R : Ending → World → Prop) : Good P 26 (g_laws_printable.ac R) (QF P [.tmp 4] R) :=
  ⟨trivial, ⟨trivial, ⟨⟨trivial, (loopG (g_laws_printable.al1 R) (g_laws_printable.bl1 R) (fun _ => by kernel_rfl) (fun Xa => trivial) (fun Xa => by intro x0 x11 x12 ρ w; kernel_rfl) (fun X h _ _ _ _ g => g X h))⟩, trivial⟩⟩⟩
theorem g_laws_printable.eq (R : Ending → World → Prop) (x0 : ByteArray) (x1 : Int) (w : World) : g_laws_printable R x0 x1 w = vcA P 26 (g_laws_printable.ac R) (QF P [.tmp 4] R) (fr0 [.string x0, .int .i64 x1]) w := by kernel_rfl
theorem g_laws_printable.sound {R : Ending → World → Prop} {x0 : ByteArray} {x1 : Int} {w : World} (h : g_laws_printable R x0 x1 w) : callE P i_laws_printable #[.string x0, .int .i64 x1] R w :=
  callE_fin (c := g_laws_printable.body) Tryz.func13 Tryz.call13 (by kernel_rfl) (by kernel_rfl) (by kernel_rfl) (by kernel_rfl) (by kernel_rfl) (g_laws_printable.good R) (g_laws_printable.eq R x0 x1 w) h
end Go.Proofs.YtmkfleohcnopkaaGreatDoor

set_option linter.unusedVariables false
set_option maxRecDepth 20000
namespace Go.Proofs.YtmkfleohcnopkaaGreatDoor
open Go.Proofs
/- 15 pub-paratext/spec.EscapeHTML -/
noncomputable def g_spec_EscapeHTML.body : Code := bodyOf Tryz.f15
def g_spec_EscapeHTML.bl1 (R : Ending → World → Prop) (Xa : ByteArray → ByteArray → Int → World → Prop) (x0 : ByteArray) (x3 : ByteArray) (x4 : Int) (w : World) : Prop :=
 br (decide (x4 < (x0.size : Int)))
 (0 ≤ x4 ∧ x4 < (x0.size : Int) ∧
 br ((bt x0 x4) == 38)
 (((x3.size + (ByteArray.mk #[38, 97, 109, 112, 59]).size : Nat) : Int) ≤ IntKind.i64.max ∧
 Xa x0 (x3 ++ (ByteArray.mk #[38, 97, 109, 112, 59])) (IntKind.i64.wrap (x4 + 1)) w)
 (br ((bt x0 x4) == 60)
 (((x3.size + (ByteArray.mk #[38, 108, 116, 59]).size : Nat) : Int) ≤ IntKind.i64.max ∧
 Xa x0 (x3 ++ (ByteArray.mk #[38, 108, 116, 59])) (IntKind.i64.wrap (x4 + 1)) w)
 (br ((bt x0 x4) == 62)
 (((x3.size + (ByteArray.mk #[38, 103, 116, 59]).size : Nat) : Int) ≤ IntKind.i64.max ∧
 Xa x0 (x3 ++ (ByteArray.mk #[38, 103, 116, 59])) (IntKind.i64.wrap (x4 + 1)) w)
 (br ((bt x0 x4) == 34)
 (((x3.size + (ByteArray.mk #[38, 113, 117, 111, 116, 59]).size : Nat) : Int) ≤ IntKind.i64.max ∧
 Xa x0 (x3 ++ (ByteArray.mk #[38, 113, 117, 111, 116, 59])) (IntKind.i64.wrap (x4 + 1)) w)
 (0 ≤ x4 ∧ x4 ≤ (IntKind.i64.wrap (x4 + 1)) ∧ (IntKind.i64.wrap (x4 + 1)) ≤ (x0.size : Int) ∧
 ((x3.size + (x0.extract (Int.toNat x4) (Int.toNat (IntKind.i64.wrap (x4 + 1)))).size : Nat) : Int) ≤ IntKind.i64.max ∧
 Xa x0 (x3 ++ (x0.extract (Int.toNat x4) (Int.toNat (IntKind.i64.wrap (x4 + 1))))) (IntKind.i64.wrap (x4 + 1)) w)))))
 (R (.returned (.string x3)) w)
def g_spec_EscapeHTML.l1 (R : Ending → World → Prop) (x0 : ByteArray) (x3 : ByteArray) (x4 : Int) (w : World) : Prop :=
  ∀ X : ByteArray → ByteArray → Int → World → Prop, (∀ x0 x3 x4 w, g_spec_EscapeHTML.bl1 R X x0 x3 x4 w → X x0 x3 x4 w) → X x0 x3 x4 w

noncomputable def g_spec_EscapeHTML.al1 (R : Ending → World → Prop) (Xa : ByteArray → ByteArray → Int → World → Prop) : AC :=
  (.leaf (sel [1, 1, 0, 1, 0, 0] g_spec_EscapeHTML.body))
def g_spec_EscapeHTML (R : Ending → World → Prop) (x0 : ByteArray) (w : World) : Prop :=
 g_spec_EscapeHTML.l1 R x0 (ByteArray.mk #[]) 0 w

noncomputable def g_spec_EscapeHTML.ac (R : Ending → World → Prop) : AC :=
  (.seq (.leaf (sel [0] g_spec_EscapeHTML.body)) (.seq (.leaf (sel [1, 0] g_spec_EscapeHTML.body)) (.seq (.seq (.leaf (sel [1, 1, 0, 0] g_spec_EscapeHTML.body)) (.block 0 (.loop (leaf [(0, .s .str), (3, .s .str), (4, .s (.int .i64))] (g_spec_EscapeHTML.l1 R)) (sel [1, 1, 0, 1, 0, 0] g_spec_EscapeHTML.body)))) (.leaf (sel [1, 1, 1] g_spec_EscapeHTML.body)))))
theorem g_spec_EscapeHTML.good (R : Ending → World → Prop) : Good P 38 (g_spec_EscapeHTML.ac R) (QF P [.tmp 2] R) :=
  ⟨trivial, ⟨trivial, ⟨⟨trivial, (loopG (g_spec_EscapeHTML.al1 R) (g_spec_EscapeHTML.bl1 R) (fun _ => by kernel_rfl) (fun Xa => trivial) (fun Xa => by intro x0 x3 x4 ρ w; kernel_rfl) (fun X h _ _ _ _ g => g X h))⟩, trivial⟩⟩⟩
theorem g_spec_EscapeHTML.eq (R : Ending → World → Prop) (x0 : ByteArray) (w : World) : g_spec_EscapeHTML R x0 w = vcA P 38 (g_spec_EscapeHTML.ac R) (QF P [.tmp 2] R) (fr0 [.string x0]) w := by kernel_rfl
theorem g_spec_EscapeHTML.sound {R : Ending → World → Prop} {x0 : ByteArray} {w : World} (h : g_spec_EscapeHTML R x0 w) : callE P i_spec_EscapeHTML #[.string x0] R w :=
  callE_fin (c := g_spec_EscapeHTML.body) Tryz.func15 Tryz.call15 (by kernel_rfl) (by kernel_rfl) (by kernel_rfl) (by kernel_rfl) (by kernel_rfl) (g_spec_EscapeHTML.good R) (g_spec_EscapeHTML.eq R x0 w) h
end Go.Proofs.YtmkfleohcnopkaaGreatDoor

/- Small functions of the laws and of the reference: printable, EscapeHTML. -/
set_option linter.unusedVariables false
namespace Go.Proofs.YtmkfleohcnopkaaGreatDoor
open Go.Proofs Go.IntWalk Go.RowKit
variable {σ : Out} {w : World} {L L' : List Chunk} {R : Ending → World → Prop}
def prB (c : UInt8) : Bool := decide (32 ≤ c.toNat) && decide (c.toNat ≤ 126)
def printM (s : List UInt8) (n : Nat) : Bool := decide (s.length ≤ n) && s.all prB
theorem printable_ok {s : List UInt8} {n : Nat} (hs : s.length < 4611686018427387904) (hR : R (.returned (.bool (printM s n))) w) : callE P i_laws_printable #[.string (bs s), .int .i64 n] R w := by
  refine g_laws_printable.sound ?_
  by_cases hn : n < s.length
  · refine br_true (by simp; omega) ?_
    have : printM s n = false := by unfold printM; rw [decide_eq_false (by omega)]; rfl
    rw [← this]; exact hR
  refine br_false (by simp; omega) ?_
  intro X hX
  rw [bs_size]
  have hall : printM s n = s.all prB := by unfold printM; rw [decide_eq_true (by omega)]; rfl
  rw [hall] at hR
  have key : ∀ k i, i + k = s.length → s.all prB = (s.drop i).all prB → X (bs s) (s.length : Nat) (i : Int) w := by
    intro k
    induction k with
    | zero =>
      intro i hi ha
      refine hX _ _ _ _ (br_false (by simp; omega) ?_)
      rw [List.drop_eq_nil_of_le (by omega)] at ha
      rw [ha] at hR; exact hR
    | succ k ih =>
      intro i hi ha
      have hil : i < s.length := by omega
      rw [List.drop_eq_getElem_cons hil, List.all_cons] at ha
      refine hX _ _ _ _ (br_true (by simp; omega) ⟨by omega, by simp; omega, fun _ => ⟨by omega, by simp; omega⟩, ?_⟩)
      rw [bt_at hil]
      by_cases hm : prB s[i] = true
      · have hm' := hm
        simp only [prB, Bool.and_eq_true, decide_eq_true_eq] at hm'
        refine br_false (by simp; omega) ?_
        rw [i64_inc (by omega)]
        refine ih (i + 1) (by omega) ?_
        rw [ha, hm, Bool.true_and]
      · have hm' : prB s[i] = false := by simpa using hm
        rw [ha, hm', Bool.false_and] at hR
        refine br_true ?_ hR
        simp only [prB, Bool.and_eq_false_iff, decide_eq_false_iff_not] at hm'
        simp; omega
  exact key s.length 0 (by omega) (by rw [List.drop_zero])
theorem escB_cases (c : UInt8) : (c = 38 ∧ escB htmlPs c = [38, 97, 109, 112, 59]) ∨ (c = 60 ∧ escB htmlPs c = [38, 108, 116, 59]) ∨ (c = 62 ∧ escB htmlPs c = [38, 103, 116, 59]) ∨ (c = 34 ∧ escB htmlPs c = [38, 113, 117, 111, 116, 59]) ∨ (c ≠ 38 ∧ c ≠ 60 ∧ c ≠ 62 ∧ c ≠ 34 ∧ escB htmlPs c = [c]) := by
  by_cases h1 : c = 38
  · subst h1; exact .inl ⟨rfl, by decide⟩
  by_cases h2 : c = 60
  · subst h2; exact .inr (.inl ⟨rfl, by decide⟩)
  by_cases h3 : c = 62
  · subst h3; exact .inr (.inr (.inl ⟨rfl, by decide⟩))
  by_cases h4 : c = 34
  · subst h4; exact .inr (.inr (.inr (.inl ⟨rfl, by decide⟩)))
  refine .inr (.inr (.inr (.inr ⟨h1, h2, h3, h4, ?_⟩)))
  have ne : ∀ d : UInt8, c ≠ d → (d == c) = false := fun d hd => by simpa using fun h => hd h.symm
  unfold escB htmlPs
  simp [List.find?, ne 34 h4, ne 38 h1, ne 60 h2, ne 62 h3]
theorem escHTML_ok {s : List UInt8} (hs : s.length < 1000000000) (hR : R (.returned (.string (bs (escS htmlPs s)))) w) : callE P i_spec_EscapeHTML #[.string (bs s)] R w := by
  refine g_spec_EscapeHTML.sound ?_
  intro X hX
  have hmax : IntKind.i64.max = 9223372036854775807 := rfl
  have key : ∀ k i, i + k = s.length → X (bs s) (bs (escS htmlPs (s.take i))) (i : Int) w := by
    intro k
    induction k with
    | zero =>
      intro i hi
      refine hX _ _ _ _ (br_false (by simp; omega) ?_)
      rw [List.take_of_length_le (by omega)]; exact hR
    | succ k ih =>
      intro i hi
      have hil : i < s.length := by omega
      have hlen := escS_length (ps := htmlPs) (by decide) (s.take i)
      rw [List.length_take] at hlen
      have hst : escS htmlPs (s.take (i + 1)) = escS htmlPs (s.take i) ++ escB htmlPs s[i] := by
        rw [List.take_succ_eq_append_getElem hil, escS_append]; simp [escS]
      have next := ih (i + 1) (by omega)
      rw [hst] at next
      refine hX _ _ _ _ (br_true (by simp; omega) ⟨by omega, by simp; omega, ?_⟩)
      rw [bt_beq hil 38 38 rfl, bt_beq hil 60 60 rfl, bt_beq hil 62 62 rfl, bt_beq hil 34 34 rfl, i64_inc (by omega)]
      rw [show ByteArray.mk #[38, 97, 109, 112, 59] = bs [38, 97, 109, 112, 59] from rfl, show ByteArray.mk #[38, 108, 116, 59] = bs [38, 108, 116, 59] from rfl, show ByteArray.mk #[38, 103, 116, 59] = bs [38, 103, 116, 59] from rfl, show ByteArray.mk #[38, 113, 117, 111, 116, 59] = bs [38, 113, 117, 111, 116, 59] from rfl]
      rcases escB_cases s[i] with ⟨h, he⟩ | ⟨h, he⟩ | ⟨h, he⟩ | ⟨h, he⟩ | ⟨h1, h2, h3, h4, he⟩
      · rw [he] at next
        refine br_true (by simpa using h) ⟨by rw [hmax]; simp; omega, ?_⟩
        rw [bs_append]; exact next
      · rw [he] at next
        refine br_false (by rw [h]; decide) (br_true (by simpa using h) ⟨by rw [hmax]; simp; omega, ?_⟩)
        rw [bs_append]; exact next
      · rw [he] at next
        refine br_false (by rw [h]; decide) (br_false (by rw [h]; decide) (br_true (by simpa using h) ⟨by rw [hmax]; simp; omega, ?_⟩))
        rw [bs_append]; exact next
      · rw [he] at next
        refine br_false (by rw [h]; decide) (br_false (by rw [h]; decide) (br_false (by rw [h]; decide) (br_true (by simpa using h) ⟨by rw [hmax]; simp; omega, ?_⟩)))
        rw [bs_append]; exact next
      · rw [he] at next
        refine br_false (by simpa using h1) (br_false (by simpa using h2) (br_false (by simpa using h3) (br_false (by simpa using h4) ?_)))
        have e1 : (s.take (i + 1)).drop i = [s[i]] := by
          rw [List.take_succ_eq_append_getElem hil, List.drop_append_of_le_length (by rw [List.length_take]; omega), List.drop_eq_nil_of_le (by rw [List.length_take]; omega)]; rfl
        rw [Int.toNat_natCast, Int.toNat_natCast, bs_extract, e1, bs_append]
        refine ⟨by omega, by omega, by simp; omega, by rw [hmax]; simp; omega, next⟩
  exact key s.length 0 (by omega)
end Go.Proofs.YtmkfleohcnopkaaGreatDoor

/- FnNumeric: the law's walk. -/
set_option linter.unusedVariables false
namespace Go.Proofs.YtmkfleohcnopkaaGreatDoor
open Go.Proofs Go.IntWalk Go.RowKit
variable {σ : Out} {w : World} {L L' : List Chunk} {R : Ending → World → Prop}
def numT (x : Bool) (s : List UInt8) : List UInt8 := s.flatMap (refT x)
theorem numT_append (x : Bool) (a b : List UInt8) : numT x (a ++ b) = numT x a ++ numT x b := by simp [numT]
theorem numT_cons (x : Bool) (c : UInt8) (s : List UInt8) : numT x (c :: s) = refT x c ++ numT x s := by simp [numT]
theorem prB_lt {c : UInt8} (h : prB c = true) : c < 128 ∧ c ≠ 0 := by
  simp only [prB, Bool.and_eq_true, decide_eq_true_eq] at h
  refine ⟨UInt8.lt_iff_toNat_lt.2 (by have e : (128 : UInt8).toNat = 128 := rfl; omega), fun h0 => ?_⟩
  rw [h0] at h
  exact absurd h.1 (by decide)
theorem refT_len7 (x : Bool) {c : UInt8} (h : prB c = true) : 1 ≤ (refT x c).length ∧ (refT x c).length ≤ 7 := by
  have := refT_length x (prB_lt h).1
  have hx : (if x then 1 else 0) ≤ 1 := by split <;> omega
  omega
theorem numT_len (x : Bool) : ∀ {s : List UInt8}, s.all prB = true → (numT x s).length ≤ 7 * s.length
  | [], _ => by simp [numT]
  | c :: s, h => by
    rw [List.all_cons, Bool.and_eq_true] at h
    have := numT_len x h.2
    have := refT_len7 x h.1
    rw [numT_cons, List.length_append, List.length_cons]; omega
theorem digOf_mem (x : Bool) {c d : UInt8} (h : c < 128) (hd : d ∈ digOf x c) : hexB d = true := by
  have hc' := UInt8.lt_iff_toNat_lt.1 h
  have hg := good_of x (n := c.toNat) hc'
  simp only [goodD, Bool.and_eq_true, decide_eq_true_eq] at hg
  have := (List.all_eq_true.1 hg.1.2) d hd
  cases x
  · simp only [hexB, Bool.or_eq_true]; exact .inl this
  · exact this
theorem refT_mem (x : Bool) {c d : UInt8} (h : prB c = true) (hd : d ∈ refT x c) : 35 ≤ d.toNat := by
  simp only [refT, List.mem_append, List.mem_cons, List.mem_nil_iff, or_false] at hd
  rcases hd with (((h1 | h1) | h1) | h1) | h1
  · subst h1; decide
  · subst h1; decide
  · cases x
    · simp at h1
    · simp at h1; subst h1; decide
  · have := digOf_mem x (prB_lt h).1 h1
    rcases hex_cases this with h | h <;> omega
  · subst h1; decide
theorem numT_mem (x : Bool) {s : List UInt8} (h : s.all prB = true) {d : UInt8} (hd : d ∈ numT x s) : 35 ≤ d.toNat := by
  obtain ⟨c, hc, hd⟩ := List.mem_flatMap.1 hd
  exact refT_mem x ((List.all_eq_true.1 h) c hc) hd
theorem trimLR_id {l : List UInt8} {c d : UInt8} {t m : List UInt8} (h1 : l = c :: t) (hc : isST c = false) (h2 : l = m ++ [d]) (hd : isST d = false) : trimLR isST l = l := by
  unfold trimLR trimR
  have e1 : l.dropWhile isST = l := by rw [h1, List.dropWhile_cons, hc]; rfl
  rw [e1]
  have e2 : l.reverse = d :: m.reverse := by rw [h2]; simp
  rw [e2, List.dropWhile_cons, hd]
  simp [h2]
theorem numT_first (x : Bool) (c : UInt8) (s : List UInt8) : ∃ t, numT x (c :: s) = 38 :: t := ⟨_, by rw [numT_cons]; rfl⟩
theorem numT_last (x : Bool) {s : List UInt8} (hne : s ≠ []) : ∃ m, numT x s = m ++ [59] := by
  rcases List.eq_nil_or_concat s with rfl | ⟨l, c, rfl⟩
  · exact absurd rfl hne
  · rw [List.concat_eq_append, numT_append]
    refine ⟨numT x l ++ ([38, 35] ++ (if x then [120] else []) ++ digOf x c), ?_⟩
    simp [numT, refT]
theorem flatten_ones : ∀ l : List UInt8, (l.map fun c => [c]).flatten = l
  | [] => rfl
  | c :: l => by simp [flatten_ones l]
theorem num_inline {o : Opt} {x : Bool} {s : List UInt8} (hoff : o.auto = false) (hs : s.length ≤ 200) (hne : s ≠ []) (hp : s.all prB = true) : InlineOK o (numT x s) (ab (escS htmlPs s)) := by
  intro σ R b pb p L w h hpz ho hlk hR
  have hlen := numT_len x hp
  refine inl_begin h (by omega) fun w h => ?_
  obtain ⟨c0, s0, hs0⟩ : ∃ c0 s0, s = c0 :: s0 := by
    cases s with
    | nil => exact absurd rfl hne
    | cons c0 s0 => exact ⟨c0, s0, rfl⟩
  obtain ⟨t, ht⟩ : ∃ t, numT x s = 38 :: t := by rw [hs0]; exact numT_first x c0 s0
  obtain ⟨m, hm⟩ := numT_last x hne
  rw [trimLR_id ht (by decide) hm (by decide)] at h ⊢
  intro X hX
  have hXL : LoopX R X b (numT x s) := fun _ _ _ _ _ h => hX _ _ _ _ _ _ _ _ _ h
  generalize hp0 : ({ p with s := numT x s, em := 0, lq := none, ln := 0, lc := 0 } : PS) = p0 at h
  have hpz0 : p0.pz = some ⟨pb, 0, none⟩ := by rw [← hp0]; exact hpz
  have hcs : p0.coreS = p.coreS := by rw [← hp0]; rfl
  have ee : ∀ i ts, emitM (numT x s) i i ts = ts := by intro i ts; unfold emitM; rw [if_neg (by omega)]
  have key : ∀ (suf pre : List UInt8), pre ++ suf = s → AtI X σ b p0 (numT x s) L (numT x pre).length (numT x pre).length ((pre.map fun c => [c]).map .plain) := by
    intro suf
    induction suf with
    | nil =>
      intro pre hpre
      rw [List.append_nil] at hpre
      subst hpre
      have hfl := flatten_ones pre
      refine AtI.fin (ts' := (pre.map fun c => [c]).map .plain) hXL (by omega) hpz0 ho hoff (by simp; omega) ?_ ?_ ?_ ?_
      · rw [ee]
        exact emphOK_none (by intro t ht; obtain ⟨u, _, rfl⟩ := List.mem_map.1 ht; exact ⟨by simp only [Inl.ty]; decide, by simp only [Inl.ty]; decide⟩)
      · intro t ht s hs'
        obtain ⟨u, hu, rfl⟩ := List.mem_map.1 ht
        obtain ⟨c, _, rfl⟩ := List.mem_map.1 hu
        simp only [Inl.plain?, Option.some.injEq] at hs'; subst hs'; simp
      · rw [plen_plain, hfl]; omega
      · intro w p' q n' c vs RM EM hp' hS hn' hI h
        have em : mergeM ((pre.map fun c => [c]).map .plain) = [.plain pre] := by
          rw [mergeM, mergeGo_plain, List.nil_append, flushP, if_neg (by simpa using hne), hfl]
        rw [em] at hI
        have hP := inls_print _ _ _ hI ⟨by show pre.length < _; omega, trivial⟩
        have eo : outL [.plain pre] = escS htmlPs pre := by simp [outL, outI]
        rw [eo] at hP
        exact hR w p' q n' c vs RM EM EM (hp'.trans hcs) hS hn' hP h
    | cons c suf ih =>
      intro pre hpre
      have hcm : prB c = true := (List.all_eq_true.1 hp) c (by rw [← hpre]; simp)
      have hlt := prB_lt hcm
      have hrl := refT_len7 x hcm
      have hraw : numT x s = numT x pre ++ (refT x c ++ numT x suf) := by rw [← hpre, numT_append, numT_cons]
      have hil : (numT x pre).length < (numT x s).length := by rw [hraw, List.length_append, List.length_append]; omega
      have hpl : pre.length ≤ 200 := by have := congrArg List.length hpre; simp at this; omega
      have h38 : (numT x s)[(numT x pre).length]'hil = 38 := by
        rw [getElem_getD _ 0]
        rw [hraw]
        exact getD_mid (numT x pre) _ 38 0
      have hleaf : ∀ p : PS, LeafOK b p (numT x s) (numT x pre).length (.func (.func i_parseHTMLEntity) #[] #[]) [] (some (.plain [c], (numT x pre).length, (numT x pre).length + (refT x c).length)) (fun p' => p' = p) := by
        intro p
        rw [hraw]
        exact ref_leaf hlt.1 hlt.2 (by rw [← hraw]; omega)
      refine AtI.leaf (Q := fun p p' => p' = p) (f := i_parseHTMLEntity) (L0 := []) hXL hil (by omega) hpz0 ho (by rw [h38]; rfl) (by simp) (fun p _ _ => hleaf p) rfl (by omega) (by simp; omega) ?_
      rw [ee]
      have := ih (pre ++ [c]) (by simpa using hpre)
      have e1 : (numT x (pre ++ [c])).length = (numT x pre).length + (refT x c).length := by rw [numT_append]; simp [numT]
      rw [e1] at this
      simpa using this
  exact key s [] rfl w p0 none 0 0 rfl (by rw [← hp0]) (by rw [← hp0]; rfl) h
theorem html_num {o : Opt} {x : Bool} {s : List UInt8} (hoff : o.auto = false) (hs : s.length ≤ 200) (hne : s ≠ []) (hp : s.all prB = true) : ParsesTo o (numT x s) (pOpen ++ escS htmlPs s ++ pClose) := by
  have hlen := numT_len x hp
  have hmem : ∀ c : UInt8, c.toNat < 35 → c ∉ numT x s := by
    intro c hc hm
    have := numT_mem x hp hm
    omega
  obtain ⟨c0, s0, hs0⟩ : ∃ c0 s0, s = c0 :: s0 := by
    cases s with
    | nil => exact absurd rfl hne
    | cons c0 s0 => exact ⟨c0, s0, rfl⟩
  obtain ⟨t, ht⟩ : ∃ t, numT x s = 38 :: t := by rw [hs0]; exact numT_first x c0 s0
  have hdw : (numT x s).dropWhile isST = numT x s := by rw [ht]; rfl
  have hdw2 : (numT x s).dropWhile isSTN = numT x s := by rw [ht]; rfl
  have htl : t.length < 1000000 := by have := congrArg List.length ht; simp at this; omega
  have := parses_line (op := o) (raw := numT x s) (f := ab (escS htmlPs s)) (by rw [ht]; exact plain_first (by decide) htl) (by omega) (idx_none (hmem 0 (by decide))) (idx_none (hmem 10 (by decide))) (idx_none (hmem 13 (by decide)))
    (by rw [hdw, ht]; simp) (by rw [hdw, hdw2, ht]; show some (38 : UInt8) ≠ some 91; decide) (by rw [hdw]; exact num_inline hoff hs hne hp)
  exact this
theorem numeric_ok {s : List UInt8} {x : Bool} (hs : s.length ≤ 200) (hp : s.all prB = true) (h : Sat σ w L) (hR : ∀ w, Sat σ w L → R (.returned (.string (bs (numT x s)))) w) : callE P i_laws_numeric #[.string (bs s), .bool x] R w := by
  refine g_laws_numeric.sound ?_
  refine Sat.bx h fun b w h => ?_
  intro X hX
  have hmax : IntKind.i64.max = 9223372036854775807 := rfl
  have key : ∀ (suf pre : List UInt8) g M w, pre ++ suf = s → Bld b g (numT x pre) M → Sat σ w (M ++ L) → X (bs s) x b (s.length : Nat) (pre.length : Nat) w := by
    intro suf
    induction suf with
    | nil =>
      intro pre g M w hpre hB h
      rw [List.append_nil] at hpre
      subst hpre
      refine hX _ _ _ _ _ _ (br_false (by simp) ?_)
      have := numT_len x hp
      refine bldStr_ok hB h (by omega) fun w h => ⟨_, rfl, hR w h⟩
    | cons c suf ih =>
      intro pre g M w hpre hB h
      have hcm : prB c = true := (List.all_eq_true.1 hp) c (by rw [← hpre]; simp)
      have hcl := prB_lt hcm
      have hil : pre.length < s.length := by rw [← hpre]; simp
      have hc : bt (bs s) (pre.length : Nat) = (c.toNat : Int) := by
        rw [bt_at hil]; congr 2
        have : s[pre.length]? = some c := by rw [← hpre]; simp
        rw [List.getElem?_eq_getElem hil] at this
        exact Option.some.inj this
      have hpp : pre.all prB = true := by rw [List.all_eq_true] at hp ⊢; intro d hd; exact hp d (by rw [← hpre]; simp [hd])
      have hl1 := numT_len x hpp
      have hl2 := refT_len7 x hcm
      have hl3 := refT_length x hcl.1
      have hcn : c.toNat < 128 := UInt8.lt_iff_toNat_lt.1 hcl.1
      have nx : ∀ w M g, Bld b g (numT x pre ++ refT x c) M → Sat σ w (M ++ L) → X (bs s) x b (s.length : Nat) (((pre.length + 1 : Nat)) : Int) w := by
        intro w M g hB h
        have := ih (pre ++ [c]) g M w (by simpa using hpre) (by rw [numT_append]; simpa [numT] using hB) h
        simpa using this
      have hw : IntKind.i64.wrap (c.toNat : Int) = (c.toNat : Int) := i64_in _ (by omega)
      refine hX _ _ _ _ _ _ (br_true (by simp; omega) ?_)
      cases x with
      | true =>
        refine br_true rfl ⟨by omega, by simp; omega, ?_⟩
        rw [hc, hw]
        refine digits_ok (b := 16) (by omega) (by omega) 300 c.toNat _ w (by omega) (by omega) h fun w h => ⟨_, rfl, ?_⟩
        rw [show digM 16 300 c.toNat = digOf true c from rfl, show ByteArray.mk #[38, 35, 120] = bs [38, 35, 120] from rfl, show ByteArray.mk #[59] = bs [59] from rfl, bs_append, bs_append]
        refine ⟨by rw [hmax]; simp; omega, by rw [hmax]; simp; omega, ?_⟩
        have er : [38, 35, 120] ++ digOf true c ++ [59] = refT true c := by simp [refT]
        rw [er]
        refine bldS_ok hB h (.inl (by intro h0; rw [h0] at hl2; simp at hl2)) (by omega) fun w M hB h => ⟨_, _, rfl, ?_⟩
        rw [i64_inc (by omega)]
        exact nx w M _ hB h
      | false =>
        refine br_false rfl ⟨by omega, by simp; omega, ?_⟩
        rw [hc, hw]
        refine digits_ok (b := 10) (by omega) (by omega) 300 c.toNat _ w (by omega) (by omega) h fun w h => ⟨_, rfl, ?_⟩
        rw [show digM 10 300 c.toNat = digOf false c from rfl, show ByteArray.mk #[38, 35] = bs [38, 35] from rfl, show ByteArray.mk #[59] = bs [59] from rfl, bs_append, bs_append]
        refine ⟨by rw [hmax]; simp; omega, by rw [hmax]; simp; omega, ?_⟩
        have er : [38, 35] ++ digOf false c ++ [59] = refT false c := by simp [refT]
        rw [er]
        refine bldS_ok hB h (.inl (by intro h0; rw [h0] at hl2; simp at hl2)) (by omega) fun w M hB h => ⟨_, _, rfl, ?_⟩
        rw [i64_inc (by omega)]
        exact nx w M _ hB h
  rw [bs_size]
  exact key s [] false _ w rfl (bldNew b) h
theorem fnNumeric_ok {y : ByteArray} {x : Bool} (h : Sat σ w L) (hR : ∀ w, Sat σ w L → R (.returned (.bool true)) w) : callE P i_laws_FnNumeric #[.string y, .bool x] R w := by
  rw [bs_of y]
  generalize y.data.toList = s
  refine g_laws_FnNumeric.sound ?_
  refine br_split (fun _ => hR w h) (fun hsz => ?_)
  have hs : s.length ≤ 2147483647 := by simp at hsz; omega
  refine printable_ok (n := 200) (by omega) ⟨_, rfl, ?_⟩
  by_cases hg : printM s 200 = true ∧ s ≠ []
  · obtain ⟨hpm, hne⟩ := hg
    simp only [printM, Bool.and_eq_true, decide_eq_true_eq] at hpm
    obtain ⟨hs2, hp⟩ := hpm
    refine br_false (by rw [printM, decide_eq_true hs2, hp, bs_toList, mk_toList]; simpa using hne) ?_
    refine numeric_ok hs2 hp h fun w h => ⟨_, rfl, ?_⟩
    have hmax : IntKind.i64.max = 9223372036854775807 := rfl
    have hel := escS_length (ps := htmlPs) (by decide) s
    have h1 : pOpen.length = 3 := rfl
    have h2 : pClose.length = 5 := rfl
    have hb : (pOpen ++ escS htmlPs s ++ pClose).length ≤ 549755813888 := by simp only [List.length_append, h1, h2]; omega
    show callE P i_impl_HTML #[optV optOff, .string (bs (numT x s))] _ w
    refine html_ok (html_num (o := optOff) rfl hs2 hne hp) hb h fun w h => ⟨_, rfl, ?_⟩
    refine escHTML_ok (by omega) ⟨_, rfl, ?_⟩
    rw [show ByteArray.mk #[60, 112, 62] = bs pOpen from rfl, show ByteArray.mk #[60, 47, 112, 62, 10] = bs pClose from rfl, bs_append, bs_append]
    refine ⟨by rw [hmax, bs_size, bs_size]; omega, by rw [hmax, bs_size, bs_size]; simp only [List.length_append, h1, h2]; omega, ?_⟩
    simp only [bs_toList]
    have e : (pOpen ++ escS htmlPs s ++ pClose == pOpen ++ escS htmlPs s ++ pClose) = true := by simp
    rw [e]; exact hR w h
  · refine br_true ?_ (hR w h)
    rw [bs_toList, mk_toList]
    by_cases h1 : printM s 200 = true
    · have : s = [] := Classical.byContradiction fun h2 => hg ⟨h1, h2⟩
      subst this; simp
    · simp at h1; rw [h1]; rfl
end Go.Proofs.YtmkfleohcnopkaaGreatDoor
