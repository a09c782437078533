/- Part 6 of the proof of the law FnAddress: for every input the law returns true, the inputs read as they did, and memory that was there is as it was; under the conditions of the given row alone. Holds: G_parseHTMLOpenTag Tag2 Tag3 G_parseDot Dots1 G_Emph_PrintHTML G_Strong_PrintHTML G_AutoLink_PrintHTML G_HardBreak_PrintHTML G_Link_PrintHTML G_SoftBreak_PrintHTML Print5 Print3 Plain1 FnAddress1. -/
import Derived.Test.YtmicoampfglaiaaGreatDoorA5
set_option linter.all false
set_option linter.unusedVariables false
set_option maxRecDepth 20000
namespace Go.Proofs.YtmicoampfglaiaaGreatDoor
open Go.Proofs
/- 152 pub-paratext/pub/rscmarkdown.parseHTMLOpenTag -/
namespace g_parseHTMLOpenTag
noncomputable def body : Code := bodyOf Tryz.f152
def k7 (R : EP) (x1 : BA) (x2 : Int) (x10 : Int) (x120 : Bool) (w : World) : Prop :=
 br x120
 (0 ≤ x2 ∧ x2 ≤ (IntKind.i64.wrap (x10 + 1)) ∧ (IntKind.i64.wrap (x10 + 1)) ≤ (x1.size : Int) ∧
 box w #[.string (x1.extract (Int.toNat x2) (Int.toNat (IntKind.i64.wrap (x10 + 1))))] ty_HTMLTag fun b11 w12 =>
 R (.returned (.tuple #[.iface ty_P_HTMLTag (.pointer (some ⟨b11, 0, none⟩)), .int .i64 (IntKind.i64.wrap (x10 + 1)), .bool true])) w12)
 (R (.returned (.tuple #[.nilIface, .int .i64 0, .bool false])) w)

def k6 (R : EP) (x1 : BA) (x2 : Int) (x10 : Int) (w : World) : Prop :=
 ((decide (x10 < (x1.size : Int))) = true → 0 ≤ x10 ∧ x10 < (x1.size : Int)) ∧
 k7 R x1 x2 x10 ((decide (x10 < (x1.size : Int))) && ((bt x1 x10) == 62)) w

def k5 (R : EP) (x1 : BA) (x2 : Int) (x15 : Int) (w : World) : Prop :=
 ((decide (x15 < (x1.size : Int))) = true → 0 ≤ x15 ∧ x15 < (x1.size : Int)) ∧
 br ((decide (x15 < (x1.size : Int))) && ((bt x1 x15) == 47))
 (k6 R x1 x2 (IntKind.i64.wrap (x15 + 1)) w)
 (k6 R x1 x2 x15 w)

def k4 (R : EP) (Xa : OA → BA → Int → Int → WP) (x0 : OA) (x1 : BA) (x2 : Int) (x10 : Int) (w : World) : Prop :=
 callE P i_parseAttr #[.pointer x0, .string x1, .int .i64 x10] (fun e w6 => ∃ (r5_0 : BA), ∃ (r5_1 : Int), ∃ (r5_2 : Bool), e = .returned (.tuple #[.string r5_0, .int .i64 r5_1, .bool r5_2]) ∧
 br (!r5_2)
 (callE P i_skipSpace #[.string x1, .int .i64 x10] (fun e w8 => ∃ (r7 : Int), e = .returned (.int .i64 r7) ∧
 br (r7 != x10)
 (nilP x0 fun a9 =>
 stV w8 ((a9.add 6).add 0) (.bool true) fun w10 =>
 k5 R x1 x2 r7 w10)
 (k5 R x1 x2 r7 w8)) w6)
 (Xa x0 x1 x2 r5_1 w6)) w

def bl1 (R : EP) (Xa : OA → BA → Int → Int → WP) (x0 : OA) (x1 : BA) (x2 : Int) (x10 : Int) (w : World) : Prop :=
 ((!(decide (x10 ≥ (x1.size : Int)))) = true → 0 ≤ x10 ∧ x10 < (x1.size : Int)) ∧
 (((!(decide (x10 ≥ (x1.size : Int)))) && ((bt x1 x10) != 32)) = true → 0 ≤ x10 ∧ x10 < (x1.size : Int)) ∧
 (((!(decide (x10 ≥ (x1.size : Int)))) && (((bt x1 x10) != 32) && ((bt x1 x10) != 9))) = true → 0 ≤ x10 ∧ x10 < (x1.size : Int)) ∧
 (((!(decide (x10 ≥ (x1.size : Int)))) && ((((bt x1 x10) != 32) && ((bt x1 x10) != 9)) && ((bt x1 x10) != 10))) = true → 0 ≤ x10 ∧ x10 < (x1.size : Int)) ∧
 (((!(decide (x10 ≥ (x1.size : Int)))) && (((((bt x1 x10) != 32) && ((bt x1 x10) != 9)) && ((bt x1 x10) != 10)) && ((bt x1 x10) != 47))) = true → 0 ≤ x10 ∧ x10 < (x1.size : Int)) ∧
 br ((decide (x10 ≥ (x1.size : Int))) || ((((((bt x1 x10) != 32) && ((bt x1 x10) != 9)) && ((bt x1 x10) != 10)) && ((bt x1 x10) != 47)) && ((bt x1 x10) != 62)))
 (R (.returned (.tuple #[.nilIface, .int .i64 0, .bool false])) w)
 (k4 R Xa x0 x1 x2 x10 w)
def l1 (R : EP) (x0 : OA) (x1 : BA) (x2 : Int) (x10 : Int) (w : World) : Prop :=
  ∀ X : OA → BA → Int → Int → WP, (∀ x0 x1 x2 x10 w, bl1 R X x0 x1 x2 x10 w → X x0 x1 x2 x10 w) → X x0 x1 x2 x10 w

noncomputable def al1 (R : EP) (Xa : OA → BA → Int → Int → WP) : AC :=
  (.block 2 (.seq (.leaf (sel [1, 1, 0, 1, 1, 0, 1, 0, 0, 0, 0, 0] body)) (.mark (leaf [(0, .s .ptr), (1, .s .str), (2, .s (.int .i64)), (10, .s (.int .i64))] (k4 R Xa)) (.leaf (sel [1, 1, 0, 1, 1, 0, 1, 0, 0, 0, 0, 1] body)))))
def k3 (R : EP) (x0 : OA) (x1 : BA) (x2 : Int) (x10 : Int) (w : World) : Prop :=
 l1 R x0 x1 x2 x10 w

def k2 (R : EP) (x0 : OA) (x1 : BA) (x2 : Int) (x10 : Int) (x36 : Bool) (w : World) : Prop :=
 br x36
 (nilP x0 fun a3 =>
 stV w ((a3.add 6).add 0) (.bool true) fun w4 =>
 k3 R x0 x1 x2 x10 w4)
 (k3 R x0 x1 x2 x10 w)

def k1 (R : EP) (x0 : OA) (x1 : BA) (x2 : Int) (w : World) : Prop :=
 callE P i_parseTagName #[.string x1, .int .i64 (IntKind.i64.wrap (x2 + 1))] (fun e w2 => ∃ (r1_0 : BA), ∃ (r1_1 : Int), ∃ (r1_2 : Bool), e = .returned (.tuple #[.string r1_0, .int .i64 r1_1, .bool r1_2]) ∧
 br r1_2
 (br (r1_0.toList == (ByteArray.mk #[112, 114, 101]).toList)
 (k2 R x0 x1 x2 r1_1 true w2)
 (br (r1_0.toList == (ByteArray.mk #[115, 99, 114, 105, 112, 116]).toList)
 (k2 R x0 x1 x2 r1_1 true w2)
 (br (r1_0.toList == (ByteArray.mk #[115, 116, 121, 108, 101]).toList)
 (k2 R x0 x1 x2 r1_1 true w2)
 (k2 R x0 x1 x2 r1_1 (r1_0.toList == (ByteArray.mk #[116, 101, 120, 116, 97, 114, 101, 97]).toList) w2))))
 (R (.returned (.tuple #[.nilIface, .int .i64 0, .bool false])) w2)) w

end g_parseHTMLOpenTag
def g_parseHTMLOpenTag (R : EP) (x0 : OA) (x1 : BA) (x2 : Int) (w : World) : Prop :=
 ((!(decide (x2 ≥ (x1.size : Int)))) = true → 0 ≤ x2 ∧ x2 < (x1.size : Int)) ∧
 br ((decide (x2 ≥ (x1.size : Int))) || ((bt x1 x2) != 60))
 (R (.returned (.tuple #[.nilIface, .int .i64 0, .bool false])) w)
 (g_parseHTMLOpenTag.k1 R x0 x1 x2 w)

noncomputable def g_parseHTMLOpenTag.ac (R : EP) : AC :=
  (.seq (.leaf (sel [0] g_parseHTMLOpenTag.body)) (.seq (.leaf (sel [1, 0] g_parseHTMLOpenTag.body)) (.mark (leaf [(0, .s .ptr), (1, .s .str), (2, .s (.int .i64))] (g_parseHTMLOpenTag.k1 R)) (.seq (.seq (.leaf (sel [1, 1, 0, 0] g_parseHTMLOpenTag.body)) (.seq (.leaf (sel [1, 1, 0, 1, 0] g_parseHTMLOpenTag.body)) (.cond 34 (.seq (.seq (.leaf (sel [1, 1, 0, 1, 1, 0, 0, 0] g_parseHTMLOpenTag.body)) (.block 0 (.seq (.leaf (sel [1, 1, 0, 1, 1, 0, 0, 1, 0, 0] g_parseHTMLOpenTag.body)) (.mark (leaf [(0, .s .ptr), (1, .s .str), (2, .s (.int .i64)), (10, .s (.int .i64)), (36, .s .bool)] (g_parseHTMLOpenTag.k2 R)) (.leaf (sel [1, 1, 0, 1, 1, 0, 0, 1, 0, 1] g_parseHTMLOpenTag.body)))))) (.mark (leaf [(0, .s .ptr), (1, .s .str), (2, .s (.int .i64)), (10, .s (.int .i64))] (g_parseHTMLOpenTag.k3 R)) (.seq (.block 1 (.loop (leaf [(0, .s .ptr), (1, .s .str), (2, .s (.int .i64)), (10, .s (.int .i64))] (g_parseHTMLOpenTag.l1 R)) (sel [1, 1, 0, 1, 1, 0, 1, 0, 0, 0] g_parseHTMLOpenTag.body))) (.seq (.leaf (sel [1, 1, 0, 1, 1, 0, 1, 1, 0] g_parseHTMLOpenTag.body)) (.seq (.leaf (sel [1, 1, 0, 1, 1, 0, 1, 1, 1, 0] g_parseHTMLOpenTag.body)) (.mark (leaf [(1, .s .str), (2, .s (.int .i64)), (15, .s (.int .i64))] (g_parseHTMLOpenTag.k5 R)) (.seq (.leaf (sel [1, 1, 0, 1, 1, 0, 1, 1, 1, 1, 0] g_parseHTMLOpenTag.body)) (.seq (.leaf (sel [1, 1, 0, 1, 1, 0, 1, 1, 1, 1, 1, 0] g_parseHTMLOpenTag.body)) (.mark (leaf [(1, .s .str), (2, .s (.int .i64)), (10, .s (.int .i64))] (g_parseHTMLOpenTag.k6 R)) (.seq (.leaf (sel [1, 1, 0, 1, 1, 0, 1, 1, 1, 1, 1, 1, 0] g_parseHTMLOpenTag.body)) (.mark (leaf [(1, .s .str), (2, .s (.int .i64)), (10, .s (.int .i64)), (120, .s .bool)] (g_parseHTMLOpenTag.k7 R)) (.leaf (sel [1, 1, 0, 1, 1, 0, 1, 1, 1, 1, 1, 1, 1] g_parseHTMLOpenTag.body))))))))))))) (.leaf (sel [1, 1, 0, 1, 1, 1] g_parseHTMLOpenTag.body))))) (.leaf (sel [1, 1, 1] g_parseHTMLOpenTag.body))))))
theorem g_parseHTMLOpenTag.good (R : EP) : Good P 131 (g_parseHTMLOpenTag.ac R) (QF P [.tmp 6, .tmp 7, .tmp 8] R) :=
  ⟨trivial, ⟨trivial, ⟨⟨⟨trivial, ⟨trivial, ⟨⟨⟨trivial, ⟨trivial, ⟨trivial, cutE (by intro x0 x1 x2 x10 x36 ρ w; kernel_rfl)⟩⟩⟩, ⟨⟨(loopG (g_parseHTMLOpenTag.al1 R) (g_parseHTMLOpenTag.bl1 R) (fun _ => by kernel_rfl) (fun Xa => ⟨trivial, ⟨trivial, cutE (by intro x0 x1 x2 x10 ρ w; kernel_rfl)⟩⟩) (fun Xa => by intro x0 x1 x2 x10 ρ w; kernel_rfl) (fun X h _ _ _ _ _ g => g X h)), ⟨trivial, ⟨trivial, ⟨⟨trivial, ⟨trivial, ⟨⟨trivial, ⟨trivial, cutE (by intro x1 x2 x10 x120 ρ w; kernel_rfl)⟩⟩, cutE (by intro x1 x2 x10 ρ w; kernel_rfl)⟩⟩⟩, cutE (by intro x1 x2 x15 ρ w; kernel_rfl)⟩⟩⟩⟩, cutE (by intro x0 x1 x2 x10 ρ w; kernel_rfl)⟩⟩, trivial⟩⟩⟩, trivial⟩, cutE (by intro x0 x1 x2 ρ w; kernel_rfl)⟩⟩⟩
theorem g_parseHTMLOpenTag.eq (R : EP) (x0 : OA) (x1 : BA) (x2 : Int) (w : World) : g_parseHTMLOpenTag R x0 x1 x2 w = vcA P 131 (g_parseHTMLOpenTag.ac R) (QF P [.tmp 6, .tmp 7, .tmp 8] R) (fr0 [.pointer x0, .string x1, .int .i64 x2]) w := by kernel_rfl
theorem g_parseHTMLOpenTag.sound {R : EP} {x0 : OA} {x1 : ByteArray} {x2 : Int} {w : World} (h : g_parseHTMLOpenTag R x0 x1 x2 w) : callE P i_parseHTMLOpenTag #[.pointer x0, .string x1, .int .i64 x2] R w :=
  callE_fin (c := g_parseHTMLOpenTag.body) Tryz.func152 Tryz.call152 (by kernel_rfl) (by kernel_rfl) (by kernel_rfl) (by kernel_rfl) (by kernel_rfl) (g_parseHTMLOpenTag.good R) (g_parseHTMLOpenTag.eq R x0 x1 x2 w) h
end Go.Proofs.YtmicoampfglaiaaGreatDoor

/- A line that begins with < and is no block of HTML: startHTML declines. -/
set_option linter.unusedVariables false
namespace Go.Proofs.YtmicoampfglaiaaGreatDoor
open Go.Proofs Go.IntWalk Go.RowKit
variable {σ : Out} {w : World} {L L' : List Chunk} {R : Ending → World → Prop}
def lowB (c : UInt8) : Bool := (decide (97 ≤ c.toNat) && decide (c.toNat ≤ 122)) || (decide (48 ≤ c.toNat) && decide (c.toNat ≤ 57))
def preWords : List (List UInt8) := [[112, 114, 101], [115, 99, 114, 105, 112, 116], [115, 116, 121, 108, 101], [116, 101, 120, 116, 97, 114, 101, 97]]
/-- A line that begins with a sign < behind which no block of HTML begins: first the run of small letters and digits, up to the sixteenth, then the name of a tag. -/
structure NoTag (s : List UInt8) (e m : Nat) : Prop where
  len : s.length < 1000000
  hd : s.getD 0 0 = 60
  n1 : s.getD 1 0 ≠ 33 ∧ s.getD 1 0 ≠ 63 ∧ s.getD 1 0 ≠ 47
  e1 : 1 ≤ e ∧ e < s.length ∧ e ≤ 17
  run : ∀ k, 1 ≤ k → k < e → lowB (s.getD k 0) = true
  stop : e = 17 ∨ (lowB (s.getD e 0) = false ∧ letB (s.getD e 0) = false)
  sep : s.getD e 0 ≠ 32 ∧ s.getD e 0 ≠ 9 ∧ s.getD e 0 ≠ 62 ∧ s.getD e 0 ≠ 47
  tag : letB (s.getD 1 0) = false ∨ (RunTo s ldhB 2 m ∧ m < s.length ∧ sub s 1 m ∉ preWords ∧ s.getD m 0 ≠ 32 ∧ s.getD m 0 ≠ 9 ∧ s.getD m 0 ≠ 10 ∧ s.getD m 0 ≠ 47 ∧ s.getD m 0 ≠ 62)
theorem bne_get {s : List UInt8} {i : Nat} (d : UInt8) (n : Int) (hd : (d.toNat : Int) = n) : (bt (bs s) (i : Int) != n) = (s.getD i 0 != d) := by
  rw [bt_get, bne, bne, u8b _ d n hd]
theorem beq_get {s : List UInt8} {i : Nat} (d : UInt8) (n : Int) (hd : (d.toNat : Int) = n) : (bt (bs s) (i : Int) == n) = (s.getD i 0 == d) := by
  rw [bt_get, u8b _ d n hd]
theorem openTag_no {q : Option Addr} {s : List UInt8} {e m : Nat} (hs : NoTag s e m) (h : R (.returned (.tuple #[.nilIface, .int .i64 0, .bool false])) w) :
    callE P i_parseHTMLOpenTag #[.pointer q, .string (bs s), .int .i64 0] R w := by
  have hlen := hs.len
  have he := hs.e1
  refine g_parseHTMLOpenTag.sound ?_
  have e0 : (bt (bs s) 0 != 60) = false := by
    rw [show (0 : Int) = ((0 : Nat) : Int) from rfl, bne_get 60 60 rfl, hs.hd]; rfl
  refine ⟨fun _ => ⟨by omega, by simp; omega⟩, br_false (by rw [e0]; simp; intro h0; rw [h0] at he; simp at he) ?_⟩
  unfold g_parseHTMLOpenTag.k1
  rw [show IntKind.i64.wrap (0 + 1) = ((1 : Nat) : Int) from rfl]
  rcases hs.tag with hl | ⟨hr, hm, hw, h32, h9, h10, h47, h62⟩
  · exact parseTagName_no (fun _ => hl) ⟨_, _, _, rfl, br_false rfl h⟩
  by_cases hl : letB (s.getD 1 0) = true
  · refine parseTagName_ok (by omega) (by omega) hl hr ⟨_, _, _, rfl, br_true rfl ?_⟩
    have hne : ∀ t ∈ preWords, ((bs (sub s 1 m)).toList == (bs t).toList) = false := by
      intro t ht
      rw [bs_toList, bs_toList, beq_eq_false_iff_ne]
      rintro rfl; exact hw ht
    refine br_false (hne [112, 114, 101] (by simp [preWords])) (br_false (hne [115, 99, 114, 105, 112, 116] (by simp [preWords])) (br_false (hne [115, 116, 121, 108, 101] (by simp [preWords])) ?_))
    rw [show ((bs (sub s 1 m)).toList == (ByteArray.mk #[116, 101, 120, 116, 97, 114, 101, 97]).toList) = false from hne [116, 101, 120, 116, 97, 114, 101, 97] (by simp [preWords])]
    refine br_false rfl ?_
    intro X hX
    refine hX _ _ _ _ _ ⟨fun _ => ⟨by omega, by simp; omega⟩, fun _ => ⟨by omega, by simp; omega⟩, fun _ => ⟨by omega, by simp; omega⟩, fun _ => ⟨by omega, by simp; omega⟩, fun _ => ⟨by omega, by simp; omega⟩, br_true ?_ h⟩
    rw [bne_get 32 32 rfl, bne_get 9 9 rfl, bne_get 10 10 rfl, bne_get 47 47 rfl, bne_get 62 62 rfl]
    simp only [Bool.or_eq_true, Bool.and_eq_true, bne_iff_ne, ne_eq]
    exact .inr ⟨⟨⟨⟨h32, h9⟩, h10⟩, h47⟩, h62⟩
  · exact parseTagName_no (fun _ => by simpa using hl) ⟨_, _, _, rfl, br_false rfl h⟩
theorem closeTag_no {q : Option Addr} {s : List UInt8} {e m : Nat} (hs : NoTag s e m) (h : R (.returned (.tuple #[.nilIface, .int .i64 0, .bool false])) w) :
    callE P i_parseHTMLClosingTag #[.pointer q, .string (bs s), .int .i64 0] R w := by
  have hlen := hs.len
  have he := hs.e1
  have hn := hs.n1
  refine g_parseHTMLClosingTag.sound ?_
  unfold g_parseHTMLClosingTag
  rw [show IntKind.i64.wrap (0 + 2) = ((2 : Nat) : Int) from rfl, show IntKind.i64.wrap (0 + 1) = ((1 : Nat) : Int) from rfl]
  refine ⟨fun _ => ⟨by omega, by simp; omega⟩, fun _ => ⟨by omega, by simp; omega⟩, br_true ?_ h⟩
  rw [bne_get 47 47 rfl]
  simp only [Bool.or_eq_true, bne_iff_ne, ne_eq]
  exact .inr hn.2.2
theorem startHTML_decl {b b1 e m : Nat} {p : PS} {ob : List OB} {o : OB} {M : List Chunk} {t : TypeId} {v : Value} {l : Ln} (h : Sat σ w (l.at b1 :: (p.at b :: M ++ L))) (hs : Stk p (ob ++ [o]) M) (hb : o.bd = .iface t v) (ht : t ≠ ty_P_paraBuilder)
    (hl : l.ok) (hp : (l.lead 3 false).peek = 60) (hT : NoTag (l.lead 3 false).str e m) (hR : ∀ w, Sat σ w (l.at b1 :: (p.at b :: M ++ L)) → R (.returned (.bool false)) w) :
    callE P i_parseState_startHTML #[.pointer (some ⟨b, 0, none⟩), .pointer (some ⟨b1, 0, none⟩)] R w := by
  refine g_parseState_startHTML.sound ?_
  repeat (first | refine nilP_some ?_ | refine Sat.tk h fun w h => ?_ | refine ⟨_, Sat.ld h (by first | assumption | (repeat (first | exact .head _ | apply List.Mem.tail))) (by exact rfl), ?_⟩ | refine ⟨_, _, _, Sat.ld h (by first | assumption | (repeat (first | exact .head _ | apply List.Mem.tail))) (by exact rfl), ?_⟩ | refine Sat.st h (k := 0) rfl (Nat.le_of_ble_eq_true rfl) trivial (by first | (dsimp only [List.set]; exact rfl) | exact rfl) fun w h => ?_ | refine Sat.st h (k := 1) rfl (Nat.le_of_ble_eq_true rfl) trivial (by first | (dsimp only [List.set]; exact rfl) | exact rfl) fun w h => ?_ | refine Sat.st h (k := 2) rfl (Nat.le_of_ble_eq_true rfl) trivial (by first | (dsimp only [List.set]; exact rfl) | exact rfl) fun w h => ?_ | refine Sat.st h (k := 3) rfl (Nat.le_of_ble_eq_true rfl) trivial (by first | (dsimp only [List.set]; exact rfl) | exact rfl) fun w h => ?_ | refine Sat.st h (k := 4) rfl (Nat.le_of_ble_eq_true rfl) trivial (by first | (dsimp only [List.set]; exact rfl) | exact rfl) fun w h => ?_ | refine Sat.st h (k := 5) rfl (Nat.le_of_ble_eq_true rfl) trivial (by first | (dsimp only [List.set]; exact rfl) | exact rfl) fun w h => ?_ | refine Sat.st h (k := 6) rfl (Nat.le_of_ble_eq_true rfl) trivial (by first | (dsimp only [List.set]; exact rfl) | exact rfl) fun w h => ?_ | refine Sat.bx h fun b0 w h => ?_)
  have h : Sat σ _ (l.at b0 :: l.at b1 :: (p.at b :: M ++ L)) := h
  refine lead_ok (max := 3) h hl (by decide) fun w h => ⟨_, rfl, ?_⟩
  have hlok := Ln.lead_ok (m := 3) (eol := false) hl
  refine peek_ok h (by first | assumption | (repeat (first | exact .head _ | apply List.Mem.tail))) hlok fun w h => ⟨_, rfl, ?_⟩
  rw [hp]
  refine br_false (by decide) ?_
  refine string_ok h (by first | assumption | (repeat (first | exact .head _ | apply List.Mem.tail))) hlok fun w h => ⟨_, rfl, ?_⟩
  generalize hss : (l.lead 3 false).str = s at hT
  have hlen := hT.len
  have he1 := hT.e1
  have hs0 : s ≠ [] := by intro h0; rw [h0] at he1; simp at he1
  have hsep := hT.sep
  have hn1 := hT.n1
  refine Sat.bx h fun b20 w h => ?_
  have nopre : ∀ (c : UInt8) (t : List UInt8), s.getD 1 0 ≠ c → decide (s.take (60 :: c :: t).length = 60 :: c :: t) = false := by
    intro c t hc
    refine decide_eq_false fun h0 => hc ?_
    have := congrArg (fun z : List UInt8 => z.getD 1 0) h0
    simp only [List.length_cons] at this
    rw [show (60 :: c :: t : List UInt8).getD 1 0 = c from rfl] at this
    rw [← this, List.getD_eq_getElem?_getD, List.getD_eq_getElem?_getD, List.getElem?_take_of_lt (by omega)]
  refine hasPrefix_ok (t := [60, 33, 45, 45]) ⟨_, rfl, br_false (nopre 33 _ hn1.1) ?_⟩
  refine hasPrefix_ok (t := [60, 63]) ⟨_, rfl, br_false (nopre 63 _ hn1.2.1) ?_⟩
  refine hasPrefix_ok (t := [60, 33, 91, 67, 68, 65, 84, 65, 91]) ⟨_, rfl, br_false (nopre 33 _ hn1.1) ?_⟩
  refine hasPrefix_ok (t := [60, 33]) ⟨_, rfl, ?_⟩
  rw [nopre 33 _ hn1.1]
  refine ⟨fun h => by simp at h, br_false rfl (br_false rfl ?_)⟩
  have h : Sat σ w ((b20, cel [.string (bs [])] ty_string) :: (l.lead 3 false).at b0 :: l.at b1 :: (p.at b :: M ++ L)) := h
  unfold g_parseState_startHTML.k1
  refine ⟨_, Sat.ld h (by first | assumption | (repeat (first | exact .head _ | apply List.Mem.tail))) (by exact rfl), ?_⟩
  refine br_false (by rw [bs_toList, mk_toList]; rfl) ?_
  refine ⟨fun _ => ⟨by omega, by simp; omega⟩, ?_⟩
  have e47 : (bt (bs s) 1 == 47) = false := by
    rw [show (1 : Int) = ((1 : Nat) : Int) from rfl, bt_get, u8b _ 47 47 rfl]; simpa using hn1.2.2
  rw [e47]
  refine br_false (by simp) ?_
  unfold g_parseState_startHTML.k3
  have hmk := run_makeSlice (P := P) (w := w) ty_S_uint8 ty_uint8 rowU8.i rowU8.z rowU8.ht rowU8.hi rowU8.hz .i64 .i64 (0 : Int) 16 (by omega) (by omega) (by rw [rowU8.hs]; decide) (by rw [rowU8.hb]; decide) (by omega)
  refine ⟨_, _, _, _, hmk, ?_⟩
  rw [rowU8.hs]
  have hal := h.alc (madeCells rowU8.z.cells ((16 : Int).toNat * 1)).toList ty_uint8
  rw [show YtmicoampfglaiaaGreatDoor.alc w (madeCells rowU8.z.cells ((16 : Int).toNat * 1)).toList.toArray ty_uint8 = w.alloc (.cells (madeCells rowU8.z.cells ((16 : Int).toNat * 1)) ty_uint8) from by rw [Array.toArray_toList]; rfl] at hal
  generalize w.heap.size = g at hal ⊢
  have hB0 : By (some ⟨g, 0, none⟩) 0 16 [] [(g, cel (bc [] ++ (madeCells rowU8.z.cells ((16 : Int).toNat * 1)).toList) ty_uint8)] := by
    refine ⟨by simp, by omega, .inr ⟨g, _, rfl, rfl, ?_⟩⟩
    simp [bc, size_madeCells]
  intro X hX
  have h15 : ∀ q n c (l0 : List UInt8) M0 w, By q n c l0 M0 → Sat σ w (M0 ++ ((b20, cel [.string (bs [])] ty_string) :: (l.lead 3 false).at b0 :: l.at b1 :: (p.at b :: M ++ L))) →
      g_parseState_startHTML.k11 R (some ⟨b, 0, none⟩) (some ⟨b1, 0, none⟩) (bs s) (e : Int) q n c w := by
    intro q n c l0 M0 w hB h
    have a1 : bt (bs s) 1 = ((s.getD 1 0).toNat : Int) := bt_get s 1
    have a2 : (bt (bs s) (e : Int) == 32) = false := by rw [bt_get, u8b _ 32 32 rfl]; simpa using hsep.1
    have a3 : (bt (bs s) (e : Int) == 9) = false := by rw [bt_get, u8b _ 9 9 rfl]; simpa using hsep.2.1
    have a4 : (bt (bs s) (e : Int) == 62) = false := by rw [bt_get, u8b _ 62 62 rfl]; simpa using hsep.2.2.1
    refine ⟨fun _ => ⟨by omega, by simp; omega⟩, fun _ => ⟨by omega, by simp; omega⟩, fun _ => ⟨by omega, by simp; omega⟩, fun _ => ⟨by omega, by simp; omega⟩, ?_⟩
    rw [a2, a3, a4, show decide ((e : Int) ≥ ((bs s).size : Int)) = false from decide_eq_false (by simp; omega)]
    refine br_false (by simp) ?_
    have h : Sat σ w (p.at b :: M ++ (M0 ++ ((b20, cel [.string (bs [])] ty_string) :: (l.lead 3 false).at b0 :: l.at b1 :: L))) := h.re (by intro _; simp only [List.append_eq, cnt_append, cnt_cons, cnt_nil] <;> omega)
    refine top_ok h hs hb (fun w h => ?_) (fun h0 => absurd h0 ht)
    rw [if_neg ht]
    refine ⟨_, rfl, _, _, eq_ptr_nil und_para none _ _ w, br_true rfl ?_⟩
    refine openTag_no hT ⟨_, _, _, rfl, br_false rfl (br_false rfl ?_)⟩
    refine closeTag_no hT ⟨_, _, _, rfl, br_false rfl (br_false rfl ?_)⟩
    exact hR w (h.less (M0 ++ [(b20, cel [.string (bs [])] ty_string), (l.lead 3 false).at b0]) (by intro _; simp only [List.append_eq, cnt_append, cnt_cons, cnt_nil] <;> omega))
  have h16 : ∀ q n c (l0 : List UInt8) M0 w, By q n c l0 M0 → Sat σ w (M0 ++ ((b20, cel [.string (bs [])] ty_string) :: (l.lead 3 false).at b0 :: l.at b1 :: (p.at b :: M ++ L))) →
      g_parseState_startHTML.k6 R (some ⟨b, 0, none⟩) (some ⟨b1, 0, none⟩) (bs s) (e : Int) q n c w := by
    intro q n c l0 M0 w hB h
    have a2 : (bt (bs s) (e : Int) == 32) = false := by rw [bt_get, u8b _ 32 32 rfl]; simpa using hsep.1
    have a3 : (bt (bs s) (e : Int) == 9) = false := by rw [bt_get, u8b _ 9 9 rfl]; simpa using hsep.2.1
    have a4 : (bt (bs s) (e : Int) == 62) = false := by rw [bt_get, u8b _ 62 62 rfl]; simpa using hsep.2.2.1
    have a5 : (bt (bs s) (e : Int) == 47) = false := by rw [bt_get, u8b _ 47 47 rfl]; simpa using hsep.2.2.2
    refine br_true (by simp; omega) ⟨by omega, by simp; omega, br_false a2 (br_false a3 (br_false a4 (br_false a5 ?_)))⟩
    exact h15 q n c l0 M0 w hB h
  have key : ∀ k i q c M0 w, i + k = e → 1 ≤ i → By q (i - 1) c ((s.take i).drop 1) M0 → Sat σ w (M0 ++ ((b20, cel [.string (bs [])] ty_string) :: (l.lead 3 false).at b0 :: l.at b1 :: (p.at b :: M ++ L))) →
      X (some ⟨b, 0, none⟩) (some ⟨b1, 0, none⟩) (bs s) (i : Int) q (i - 1) c w := by
    intro k
    induction k with
    | zero =>
      intro i q c M0 w hi hi1 hB h
      obtain rfl : i = e := hi
      rcases hT.stop with h17 | ⟨hlo, hle⟩
      · exact hX _ _ _ _ _ _ _ _ (br_false (by simp; omega) (h16 _ _ _ _ _ _ hB h))
      · by_cases h17 : i = 17
        · exact hX _ _ _ _ _ _ _ _ (br_false (by simp; omega) (h16 _ _ _ _ _ _ hB h))
        refine hX _ _ _ _ _ _ _ _ (br_true (by simp; omega) ⟨by omega, by simp; omega, ?_⟩)
        simp only [lowB, letB, Bool.or_eq_false_iff, Bool.and_eq_false_iff, decide_eq_false_iff_not] at hlo hle
        rw [bt_get]
        generalize s.getD i 0 = d at hlo hle ⊢
        refine br_false (by simp; omega) (br_true (by simp; omega) ?_)
        exact h16 _ _ _ _ _ _ hB h
    | succ k ih =>
      intro i q c M0 w hi hi1 hB h
      have hlo := hT.run i hi1 (by omega)
      simp only [lowB, Bool.or_eq_true, Bool.and_eq_true, decide_eq_true_eq] at hlo
      refine hX _ _ _ _ _ _ _ _ (br_true (by simp; omega) ⟨by omega, by simp; omega, ?_⟩)
      rw [bt_get]
      have hil : i < s.length := by omega
      generalize hgd : s.getD i 0 = d at hlo ⊢
      refine br_false (by simp; omega) (br_false (by simp; omega) ?_)
      rw [← hgd]
      refine By.app1 hB h (s.getD i 0) (by omega) fun q' c' w' M' hB' h' => ?_
      rw [i64_inc (by omega)]
      have e1 : i - 1 + 1 = i + 1 - 1 := by omega
      rw [e1] at hB' ⊢
      refine ih (i + 1) q' c' M' w' (by omega) (by omega) ?_ h'
      have e2 : (s.take (i + 1)).drop 1 = (s.take i).drop 1 ++ [s.getD i 0] := by
        rw [List.take_succ_eq_append_getElem hil, List.drop_append_of_le_length (by rw [List.length_take]; omega), getElem_getD hil 0]
      rw [e2]; exact hB'
  exact key (e - 1) 1 _ _ _ _ (by omega) (Nat.le_refl _) (by simpa using hB0) hal
theorem newHTML_decl {b e m : Nat} {p : PS} {ob : List OB} {o : OB} {M : List Chunk} {t : TypeId} {v : Value} {l : Ln} (hs : Stk p (ob ++ [o]) M) (hb : o.bd = .iface t v) (ht : t ≠ ty_P_paraBuilder)
    (hl : l.ok) (hp : (l.lead 3 false).peek = 60) (hT : NoTag (l.lead 3 false).str e m) : Decl b p M l i_newHTML := by
  intro σ w L R h hR
  refine g_newHTML.sound ?_
  refine Sat.bx h fun b1 w h => ?_
  refine Sat.bx h fun b3 w h => ?_
  repeat (first | refine nilP_some ?_ | refine Sat.tk h fun w h => ?_ | refine ⟨_, Sat.ld h (by first | assumption | (repeat (first | exact .head _ | apply List.Mem.tail))) (by exact rfl), ?_⟩ | refine ⟨_, _, _, Sat.ld h (by first | assumption | (repeat (first | exact .head _ | apply List.Mem.tail))) (by exact rfl), ?_⟩ | refine Sat.st h (k := 0) rfl (Nat.le_of_ble_eq_true rfl) trivial (by first | (dsimp only [List.set]; exact rfl) | exact rfl) fun w h => ?_ | refine Sat.st h (k := 1) rfl (Nat.le_of_ble_eq_true rfl) trivial (by first | (dsimp only [List.set]; exact rfl) | exact rfl) fun w h => ?_ | refine Sat.st h (k := 2) rfl (Nat.le_of_ble_eq_true rfl) trivial (by first | (dsimp only [List.set]; exact rfl) | exact rfl) fun w h => ?_ | refine Sat.st h (k := 3) rfl (Nat.le_of_ble_eq_true rfl) trivial (by first | (dsimp only [List.set]; exact rfl) | exact rfl) fun w h => ?_ | refine Sat.st h (k := 4) rfl (Nat.le_of_ble_eq_true rfl) trivial (by first | (dsimp only [List.set]; exact rfl) | exact rfl) fun w h => ?_ | refine Sat.st h (k := 5) rfl (Nat.le_of_ble_eq_true rfl) trivial (by first | (dsimp only [List.set]; exact rfl) | exact rfl) fun w h => ?_ | refine Sat.st h (k := 6) rfl (Nat.le_of_ble_eq_true rfl) trivial (by first | (dsimp only [List.set]; exact rfl) | exact rfl) fun w h => ?_ | refine Sat.bx h fun b0 w h => ?_)
  have h : Sat σ _ (l.at b0 :: (b3, cel [.int .i64 0, .int .i64 0, .int .i64 0, .string (bs []), .int .u8 0] ty_line) :: l.at b1 :: (p.at b :: M ++ L)) := h
  have h : Sat σ _ (l.at b0 :: (p.at b :: M ++ ((b3, cel [.int .i64 0, .int .i64 0, .int .i64 0, .string (bs []), .int .u8 0] ty_line) :: l.at b1 :: L))) := h.re (by intro _; simp only [List.append_eq, cnt_append, cnt_cons, cnt_nil] <;> omega)
  refine startHTML_decl h hs hb ht hl hp hT fun w h => ⟨_, rfl, br_false rfl ?_⟩
  have h : Sat σ w (l.at b0 :: (b3, cel [.int .i64 0, .int .i64 0, .int .i64 0, .string (bs []), .int .u8 0] ty_line) :: l.at b1 :: (p.at b :: M ++ L)) := h.re (by intro _; simp only [List.append_eq, cnt_append, cnt_cons, cnt_nil] <;> omega)
  repeat (first | refine nilP_some ?_ | refine Sat.tk h fun w h => ?_ | refine ⟨_, Sat.ld h (by first | assumption | (repeat (first | exact .head _ | apply List.Mem.tail))) (by exact rfl), ?_⟩ | refine ⟨_, _, _, Sat.ld h (by first | assumption | (repeat (first | exact .head _ | apply List.Mem.tail))) (by exact rfl), ?_⟩ | refine Sat.st h (k := 0) rfl (Nat.le_of_ble_eq_true rfl) trivial (by first | (dsimp only [List.set]; exact rfl) | exact rfl) fun w h => ?_ | refine Sat.st h (k := 1) rfl (Nat.le_of_ble_eq_true rfl) trivial (by first | (dsimp only [List.set]; exact rfl) | exact rfl) fun w h => ?_ | refine Sat.st h (k := 2) rfl (Nat.le_of_ble_eq_true rfl) trivial (by first | (dsimp only [List.set]; exact rfl) | exact rfl) fun w h => ?_ | refine Sat.st h (k := 3) rfl (Nat.le_of_ble_eq_true rfl) trivial (by first | (dsimp only [List.set]; exact rfl) | exact rfl) fun w h => ?_ | refine Sat.st h (k := 4) rfl (Nat.le_of_ble_eq_true rfl) trivial (by first | (dsimp only [List.set]; exact rfl) | exact rfl) fun w h => ?_ | refine Sat.st h (k := 5) rfl (Nat.le_of_ble_eq_true rfl) trivial (by first | (dsimp only [List.set]; exact rfl) | exact rfl) fun w h => ?_ | refine Sat.st h (k := 6) rfl (Nat.le_of_ble_eq_true rfl) trivial (by first | (dsimp only [List.set]; exact rfl) | exact rfl) fun w h => ?_ | refine Sat.bx h fun b0 w h => ?_)
  exact hR _ h.tail.tail.tail
end Go.Proofs.YtmicoampfglaiaaGreatDoor

/- Addresses of electronic mail in angle brackets. -/
set_option linter.unusedVariables false
namespace Go.Proofs.YtmicoampfglaiaaGreatDoor
open Go.Proofs Go.IntWalk Go.RowKit
variable {σ : Out} {w : World} {L L' : List Chunk} {R : Ending → World → Prop}
def userL : List UInt8 := [46, 33, 35, 36, 37, 38, 39, 42, 43, 47, 61, 63, 94, 95, 96, 123, 124, 125, 126, 45]
def userB (c : UInt8) : Bool := ldigB c || decide (c ∈ userL)
theorem isUser_ok {c : UInt8} (hR : R (.returned (.bool (userB c))) w) : callE P i_isUser #[.int .u8 (c.toNat : Int)] R w := by
  refine g_isUser.sound ?_
  refine isLetterDigit_ok ⟨_, rfl, ?_⟩
  cases hb : ldigB c with
  | true => exact br_true rfl (by have : userB c = true := by simp [userB, hb]
                                  rw [← this]; exact hR)
  | false =>
    refine br_false rfl ?_
    have hu : userB c = decide (c ∈ userL) := by simp [userB, hb]
    rw [hu] at hR
    intro X hX
    have key : ∀ k i, i + k = userL.length → decide (c ∈ userL) = decide (c ∈ userL.drop i) → X (c.toNat : Int) (bs userL) (i : Int) w := by
      intro k
      induction k with
      | zero =>
        intro i hi hm
        rw [List.drop_eq_nil_of_le (by omega)] at hm
        refine hX _ _ _ _ (br_false (by simp; omega) ?_)
        have : decide (c ∈ userL) = false := by rw [hm]; simp
        rw [← this]; exact hR
      | succ k ih =>
        intro i hi hm
        have hil : i < userL.length := by omega
        refine hX _ _ _ _ (br_true (by simp; omega) ⟨by omega, by simp; omega, ?_⟩)
        rw [bt_at hil, u8_beq]
        rw [List.drop_eq_getElem_cons hil] at hm
        by_cases he : c = userL[i]
        · refine br_true (by simp [← he]) ?_
          have : decide (c ∈ userL) = true := by rw [he]; simp
          rw [← this]; exact hR
        · refine br_false (by simpa using he) ?_
          rw [i64_inc (by have : userL.length = 20 := rfl
                          omega)]
          refine ih (i + 1) (by omega) ?_
          rw [hm, decide_eq_decide, List.mem_cons]; simp only [he, false_or]
    exact key 20 0 rfl (by rw [List.drop_zero])
theorem isScheme_any {c : UInt8} (hR : ∀ r, R (.returned (.bool r)) w) : callE P i_isScheme #[.int .u8 (c.toNat : Int)] R w := by
  refine g_isScheme.sound ?_
  exact isLetterDigit_ok ⟨_, rfl, hR _⟩
/-- No address with a scheme: no colon. -/
theorem uri_no {s : List UInt8} {i : Nat} (hs : s.length < 1000000000) (hi : i + 1 < s.length) (h60 : s.getD i 0 = 60) (h : ∀ k, i < k → k < s.length → s.getD k 0 ≠ 58) (hR : R (.returned (.tuple #[.nilIface, .int .i64 0, .bool false])) w) :
    callE P i_parseAutoLinkURI #[.string (bs s), .int .i64 i] R w := by
  refine g_parseAutoLinkURI.sound ?_
  unfold g_parseAutoLinkURI
  rw [i64_inc (by omega)]
  refine ⟨fun _ => ⟨by omega, by simp; omega⟩, fun _ => ⟨by omega, by simp; omega⟩, br_false ?_ ?_⟩
  · rw [bne_get 60 60 rfl, h60]; simp; omega
  rw [bt_get]
  refine isLetter_ok ⟨_, rfl, br_split (fun _ => hR) fun _ => ?_⟩
  unfold g_parseAutoLinkURI.k1
  rw [i64_inc (by omega)]
  intro X hX
  have fin : ∀ m, i < m → m ≤ s.length → g_parseAutoLinkURI.k2 R (bs s) (i : Int) (m : Int) w := by
    intro m hm hl
    have e0 : decide ((m : Int) ≥ ((bs s).size : Int)) = decide (s.length ≤ m) := by rw [decide_eq_decide]; simp
    refine ⟨fun hh => ⟨by omega, ?_⟩, br_true ?_ hR⟩
    · rw [e0] at hh
      simp only [Bool.not_eq_true', Bool.or_eq_false_iff, decide_eq_false_iff_not] at hh
      have := hh.2
      simp; omega
    · rw [e0, bne_get 58 58 rfl]
      by_cases hml : s.length ≤ m
      · simp [hml]
      · have := h m hm (by omega)
        simp only [Bool.or_eq_true, bne_iff_ne, ne_eq]
        exact .inr this
  have key : ∀ k m, m + k = s.length → i < m → X (bs s) (i : Int) (m : Int) w := by
    intro k
    induction k with
    | zero =>
      intro m hm hi
      exact hX _ _ _ _ ⟨fun h => absurd h (by simp; omega), br_false (by simp; omega) (fin m hi (by omega))⟩
    | succ k ih =>
      intro m hm hi
      refine hX _ _ _ _ ⟨fun _ => ⟨by omega, by simp; omega⟩, br_true (by simp; omega) ?_⟩
      rw [bt_get]
      refine isScheme_any fun r => ⟨_, rfl, br_split (fun _ => ?_) (fun _ => fin m hi (by omega))⟩
      rw [i64_inc (by omega)]
      exact ih (m + 1) (by omega) (by omega)
  exact key (s.length - (i + 1)) (i + 1) (by omega) (by omega)
/-- A part of a domain. -/
structure DomTo (s : List UInt8) (i n : Nat) : Prop where
  pos : 1 ≤ n
  le : n ≤ 63
  len : i + n < s.length
  all : ∀ k, k < n → ldhB (s.getD (i + k) 0) = true
  hd : ldigB (s.getD i 0) = true
  last : ldigB (s.getD (i + n - 1) 0) = true
  stop : ldhB (s.getD (i + n) 0) = false
theorem drop_getD (s : List UInt8) (i k : Nat) (d : UInt8) : (s.drop i).getD k d = s.getD (i + k) d := by
  rw [List.getD_eq_getElem?_getD, List.getD_eq_getElem?_getD, List.getElem?_drop]
theorem skipDomain_ok {s : List UInt8} {i n : Nat} (hs : s.length < 1000000000) (hd : DomTo s i n) (hR : R (.returned (.tuple #[.int .i64 n, .bool true])) w) :
    callE P i_skipDomainElem #[.string (bs (s.drop i))] R w := by
  have h1 := hd.pos; have h2 := hd.le; have h3 := hd.len
  refine g_skipDomainElem.sound ?_
  refine ⟨fun _ => ⟨by omega, by simp; omega⟩, br_false (by simp; omega) ?_⟩
  rw [show (0 : Int) = ((0 : Nat) : Int) from rfl, bt_get, drop_getD, Nat.add_zero]
  refine isLetterDigit_ok ⟨_, rfl, br_false (by rw [hd.hd]; rfl) ?_⟩
  intro X hX
  have key : ∀ k m, m + k = n → 1 ≤ m → X (bs (s.drop i)) (m : Int) w := by
    intro k
    induction k with
    | zero =>
      intro m hm hm1
      obtain rfl : m = n := hm
      refine hX _ _ _ ⟨fun _ => ⟨by omega, by simp; omega⟩, br_true (by simp; omega) ?_⟩
      rw [bt_get, drop_getD]
      refine isLDH_ok ⟨_, rfl, br_false (by rw [hd.stop]; rfl) ?_⟩
      unfold g_skipDomainElem.k2
      rw [i64_dec (by omega) (by omega)]
      refine ⟨fun _ => ⟨by omega, by simp; omega⟩, br_false (by simp; omega) ?_⟩
      rw [bt_get, drop_getD, show i + (m - 1) = i + m - 1 by omega]
      exact isLetterDigit_ok ⟨_, rfl, br_false (by rw [hd.last]; rfl) hR⟩
    | succ k ih =>
      intro m hm hm1
      refine hX _ _ _ ⟨fun _ => ⟨by omega, by simp; omega⟩, br_true (by simp; omega) ?_⟩
      rw [bt_get, drop_getD]
      refine isLDH_ok ⟨_, rfl, br_true (by rw [hd.all m (by omega)]; simp; omega) ?_⟩
      rw [i64_inc (by omega)]
      exact ih (m + 1) (by omega) (by omega)
  exact key (n - 1) 1 (by omega) (Nat.le_refl _)
/-- An address with a name up to j, and a domain of two parts. -/
theorem email_ok {s : List UInt8} {i j n m : Nat} (hs : s.length < 1000000) (h60 : s.getD i 0 = 60) (hj : i + 1 < j) (hu : ∀ k, i < k → k < j → userB (s.getD k 0) = true) (h64 : s.getD j 0 = 64) (h1 : DomTo s (j + 1) n) (h46 : s.getD (j + 1 + n) 0 = 46)
    (h2 : DomTo s (j + 1 + n + 1) m) (h62 : s.getD (j + 1 + n + 1 + m) 0 = 62) (h : Sat σ w L)
    (hR : ∀ w b, Sat σ w ((b, cel [.string (bs (sub s (i + 1) (j + 1 + n + 1 + m))), .string (bs ([109, 97, 105, 108, 116, 111, 58] ++ sub s (i + 1) (j + 1 + n + 1 + m)))] ty_AutoLink) :: L) →
      R (.returned (.tuple #[ptrV ty_P_AutoLink b, .int .i64 ((j + 1 + n + 1 + m + 1 : Nat) : Int), .bool true])) w) :
    callE P i_parseAutoLinkEmail #[.string (bs s), .int .i64 i] R w := by
  have a1 := h1.len; have a2 := h2.len; have a3 := h1.pos; have a4 := h2.pos; have a5 := h1.le; have a6 := h2.le
  refine g_parseAutoLinkEmail.sound ?_
  unfold g_parseAutoLinkEmail
  rw [i64_inc (by omega)]
  refine ⟨fun _ => ⟨by omega, by simp; omega⟩, fun _ => ⟨by omega, by simp; omega⟩, br_false ?_ ?_⟩
  · rw [bne_get 60 60 rfl, h60]; simp; omega
  rw [bt_get]
  refine isUser_ok ⟨_, rfl, br_false (by rw [hu (i + 1) (by omega) hj]; rfl) ?_⟩
  unfold g_parseAutoLinkEmail.k1
  rw [i64_inc (by omega)]
  intro X hX
  have key : ∀ k r, r + k = j → i < r → X (bs s) (i : Int) (r : Int) w := by
    intro k
    induction k with
    | zero =>
      intro r hr hi
      obtain rfl : r = j := hr
      refine hX _ _ _ _ ⟨fun _ => ⟨by omega, by simp; omega⟩, br_true (by simp; omega) ?_⟩
      rw [bt_get, h64]
      refine isUser_ok (c := 64) ⟨_, rfl, br_false (by decide) ?_⟩
      refine ⟨fun _ => ⟨by omega, by simp; omega⟩, br_false ?_ ?_⟩
      · rw [bne_get 64 64 rfl, h64]; simp; omega
      intro Y hY
      refine hY _ _ _ _ ?_
      unfold g_parseAutoLinkEmail.bl2
      rw [i64_inc (by omega)]
      refine ⟨by omega, by simp; omega, ?_⟩
      rw [bs_size, Int.toNat_natCast, bs_ext]
      refine skipDomain_ok (by omega) h1 ⟨_, _, rfl, br_false rfl ?_⟩
      have e1 : IntKind.i64.wrap (((r + 1 : Nat) : Int) + ((n : Nat) : Int)) = ((r + 1 + n : Nat) : Int) := by simp (disch := omega) only [i64_in]; omega
      rw [e1]
      refine ⟨fun _ => ⟨by omega, by simp; omega⟩, fun _ => ⟨by omega, by simp; omega⟩, br_false ?_ ?_⟩
      · rw [bne_get 46 46 rfl, h46]; simp; omega
      refine ⟨by omega, by simp; omega, br_false (by rw [beq_get 62 62 rfl, h46]; rfl) ?_⟩
      refine hY _ _ _ _ ?_
      unfold g_parseAutoLinkEmail.bl2
      rw [i64_inc (by omega)]
      refine ⟨by omega, by simp; omega, ?_⟩
      rw [bs_size, Int.toNat_natCast, bs_ext]
      refine skipDomain_ok (by omega) h2 ⟨_, _, rfl, br_false rfl ?_⟩
      have e2 : IntKind.i64.wrap (((r + 1 + n + 1 : Nat) : Int) + ((m : Nat) : Int)) = ((r + 1 + n + 1 + m : Nat) : Int) := by simp (disch := omega) only [i64_in]; omega
      rw [e2]
      refine ⟨fun _ => ⟨by omega, by simp; omega⟩, fun _ => ⟨by omega, by simp; omega⟩, br_false ?_ ?_⟩
      · rw [bne_get 46 46 rfl, bne_get 62 62 rfl, h62]; simp; omega
      refine ⟨by omega, by simp; omega, br_true (by rw [beq_get 62 62 rfl, h62]; rfl) ?_⟩
      rw [i64_inc (by omega), i64_inc (by omega), Int.toNat_natCast, Int.toNat_natCast, bs_extract, show ByteArray.mk #[109, 97, 105, 108, 116, 111, 58] = bs [109, 97, 105, 108, 116, 111, 58] from rfl, bs_append]
      have hmax : IntKind.i64.max = 9223372036854775807 := rfl
      refine ⟨by omega, by omega, by simp; omega, by rw [hmax]; simp; omega, ?_⟩
      exact Sat.bx h fun b w h => hR w b h
    | succ k ih =>
      intro r hr hi
      refine hX _ _ _ _ ⟨fun _ => ⟨by omega, by simp; omega⟩, br_true (by simp; omega) ?_⟩
      rw [bt_get]
      refine isUser_ok ⟨_, rfl, br_true (hu r hi (by omega)) ?_⟩
      rw [i64_inc (by omega)]
      exact ih (r + 1) (by omega) (by omega)
  exact key (j - (i + 1)) (i + 1) (by omega) (by omega)
end Go.Proofs.YtmicoampfglaiaaGreatDoor

set_option linter.unusedVariables false
set_option maxRecDepth 20000
namespace Go.Proofs.YtmicoampfglaiaaGreatDoor
open Go.Proofs
/- 72 pub-paratext/pub/rscmarkdown.parseDot -/
namespace g_parseDot
noncomputable def body : Code := bodyOf Tryz.f72
def k1 (R : EP) (x2 : Int) (x28 : Bool) (w : World) : Prop :=
 br x28
 (box w #[.string (ByteArray.mk #[226, 128, 166])] ty_Plain fun b1 w2 =>
 R (.returned (.tuple #[.iface ty_P_Plain (.pointer (some ⟨b1, 0, none⟩)), .int .i64 x2, .int .i64 (IntKind.i64.wrap (x2 + 3)), .bool true])) w2)
 (R (.returned (.tuple #[.nilIface, .int .i64 0, .int .i64 0, .bool false])) w)

end g_parseDot
def g_parseDot (R : EP) (x0 : OA) (x1 : BA) (x2 : Int) (w : World) : Prop :=
 ((decide ((IntKind.i64.wrap (x2 + 2)) < (x1.size : Int))) = true → 0 ≤ (IntKind.i64.wrap (x2 + 1)) ∧ (IntKind.i64.wrap (x2 + 1)) < (x1.size : Int)) ∧
 (((decide ((IntKind.i64.wrap (x2 + 2)) < (x1.size : Int))) && ((bt x1 (IntKind.i64.wrap (x2 + 1))) == 46)) = true → 0 ≤ (IntKind.i64.wrap (x2 + 2)) ∧ (IntKind.i64.wrap (x2 + 2)) < (x1.size : Int)) ∧
 g_parseDot.k1 R x2 (((decide ((IntKind.i64.wrap (x2 + 2)) < (x1.size : Int))) && ((bt x1 (IntKind.i64.wrap (x2 + 1))) == 46)) && ((bt x1 (IntKind.i64.wrap (x2 + 2))) == 46)) w

noncomputable def g_parseDot.ac (R : EP) : AC :=
  (.seq (.leaf (sel [0] g_parseDot.body)) (.seq (.seq (.leaf (sel [1, 0, 0] g_parseDot.body)) (.mark (leaf [(2, .s (.int .i64)), (28, .s .bool)] (g_parseDot.k1 R)) (.leaf (sel [1, 0, 1] g_parseDot.body)))) (.leaf (sel [1, 1] g_parseDot.body))))
theorem g_parseDot.good (R : EP) : Good P 35 (g_parseDot.ac R) (QF P [.tmp 6, .tmp 7, .tmp 8, .tmp 9] R) :=
  ⟨trivial, ⟨⟨trivial, ⟨trivial, cutE (by intro x2 x28 ρ w; kernel_rfl)⟩⟩, trivial⟩⟩
theorem g_parseDot.eq (R : EP) (x0 : OA) (x1 : BA) (x2 : Int) (w : World) : g_parseDot R x0 x1 x2 w = vcA P 35 (g_parseDot.ac R) (QF P [.tmp 6, .tmp 7, .tmp 8, .tmp 9] R) (fr0 [.pointer x0, .string x1, .int .i64 x2]) w := by kernel_rfl
theorem g_parseDot.sound {R : EP} {x0 : OA} {x1 : ByteArray} {x2 : Int} {w : World} (h : g_parseDot R x0 x1 x2 w) : callE P i_parseDot #[.pointer x0, .string x1, .int .i64 x2] R w :=
  callE_fin (c := g_parseDot.body) Tryz.func72 Tryz.call72 (by kernel_rfl) (by kernel_rfl) (by kernel_rfl) (by kernel_rfl) (by kernel_rfl) (g_parseDot.good R) (g_parseDot.eq R x0 x1 x2 w) h
end Go.Proofs.YtmicoampfglaiaaGreatDoor

/- Smart dots: the inlines of a line of letters, spaces and full stops. -/
set_option linter.unusedVariables false
namespace Go.Proofs.YtmicoampfglaiaaGreatDoor
open Go.Proofs Go.IntWalk Go.RowKit
variable {σ : Out} {w : World} {L L' : List Chunk} {R : Ending → World → Prop}
def dots3 (s : List UInt8) (i : Nat) : Bool := decide (i + 2 < s.length) && (s.getD (i + 1) 0 == 46) && (s.getD (i + 2) 0 == 46)
theorem bt_getD {l : List UInt8} {i : Nat} (d : UInt8) (n : Int) (hd : (d.toNat : Int) = n) : (bt (bs l) (i : Int) == n) = (l.getD i 0 == d) := by
  subst hd
  rw [bs_bt, u8_beq]
theorem parseDot_ok {q : Option Addr} {s : List UInt8} {i : Nat} (hs : s.length < 4611686018427387904) (hi : i < s.length) (h : Sat σ w L)
    (hR : if dots3 s i then ∀ w nb, Sat σ w (plainC nb [226, 128, 166] :: L) → R (.returned (.tuple #[ptrV ty_P_Plain nb, .int .i64 i, .int .i64 ((i + 3 : Nat) : Int), .bool true])) w
      else R (.returned (.tuple #[.nilIface, .int .i64 0, .int .i64 0, .bool false])) w) :
    callE P i_parseDot #[.pointer q, .string (bs s), .int .i64 i] R w := by
  refine g_parseDot.sound ?_
  have e1 : IntKind.i64.wrap ((i : Int) + 1) = ((i + 1 : Nat) : Int) := i64_inc (by omega)
  have e2 : IntKind.i64.wrap ((i : Int) + 2) = ((i + 2 : Nat) : Int) := by simp (disch := omega) only [i64_in]; rfl
  have e3 : IntKind.i64.wrap ((i : Int) + 3) = ((i + 3 : Nat) : Int) := by simp (disch := omega) only [i64_in]; rfl
  have hd : (((decide (((i + 2 : Nat) : Int) < ((bs s).size : Int))) && ((bt (bs s) ((i + 1 : Nat) : Int)) == 46)) && ((bt (bs s) ((i + 2 : Nat) : Int)) == 46)) = dots3 s i := by
    rw [bt_getD 46 46 rfl, bt_getD 46 46 rfl, bs_size]
    unfold dots3
    congr 2
    simp only [decide_eq_decide]
    omega
  unfold g_parseDot
  rw [e1, e2, hd]
  refine ⟨fun h => ?_, fun h => ?_, ?_⟩
  · simp at h; simp; omega
  · simp at h; simp; omega
  · unfold g_parseDot.k1
    rw [e3]
    split at hR
    · rename_i hd
      rw [hd]
      exact Sat.bx h fun nb w h => hR w nb h
    · rename_i hd
      rw [Bool.not_eq_true] at hd
      rw [hd]
      exact hR
def dotRes (s : List UInt8) (i : Nat) : Option (Inl × Nat × Nat) := if dots3 s i then some (.plain [226, 128, 166], i, i + 3) else none
theorem parseDot_leaf {b i : Nat} {p : PS} {s : List UInt8} (hs : s.length < 4611686018427387904) (hi : i < s.length) : LeafOK b p s i (.func (.func i_parseDot) #[] #[]) [] (dotRes s i) (fun p' => p' = p) := by
  intro σ R L w _ h hR
  refine enter_fn ?_
  refine parseDot_ok hs hi h ?_
  unfold dotRes at hR
  split
  · rename_i hd
    rw [if_pos hd] at hR
    exact fun w nb h => hR w p _ _ rfl rfl ⟨nb, [], _, rfl, rfl⟩ h.up1
  · rename_i hd
    rw [if_neg hd] at hR
    exact hR w p _ 0 0 rfl rfl h
/-- Each three full stops, from the left. -/
def ell : List UInt8 → List UInt8
  | [] => []
  | [a] => [a]
  | [a, b] => [a, b]
  | a :: b :: c :: s => if a = 46 ∧ b = 46 ∧ c = 46 then [226, 128, 166] ++ ell s else a :: ell (b :: c :: s)
theorem ell_dots {s : List UInt8} {i : Nat} (hi : i < s.length) (h46 : s[i] = 46) (hd : dots3 s i = true) : ell (s.drop i) = [226, 128, 166] ++ ell (s.drop (i + 3)) := by
  simp only [dots3, Bool.and_eq_true, decide_eq_true_eq] at hd
  obtain ⟨⟨h0, h1⟩, h2⟩ := hd
  rw [List.getD_eq_getElem?_getD, List.getElem?_eq_getElem (by omega)] at h1 h2
  simp at h1 h2
  rw [List.drop_eq_getElem_cons hi, List.drop_eq_getElem_cons (show i + 1 < s.length by omega), List.drop_eq_getElem_cons (show i + 2 < s.length by omega), ell, if_pos ⟨h46, h1, h2⟩]
theorem ell_step {s : List UInt8} {i : Nat} (hi : i < s.length) (h : s[i] = 46 → dots3 s i = false) : ell (s.drop i) = s[i] :: ell (s.drop (i + 1)) := by
  rw [List.drop_eq_getElem_cons hi]
  by_cases h1 : i + 1 < s.length
  · rw [List.drop_eq_getElem_cons h1]
    by_cases h2 : i + 2 < s.length
    · rw [List.drop_eq_getElem_cons h2, ell, if_neg]
      rintro ⟨ha, hb, hc⟩
      have := h ha
      simp [dots3, List.getD_eq_getElem?_getD, h2, h1, hb, hc] at this
    · rw [List.drop_eq_nil_of_le (by omega)]; rfl
  · rw [List.drop_eq_nil_of_le (by omega)]; rfl
def isDotText (s : List UInt8) : Bool := s.all fun c => c == 120 || c == 97 || c == 98 || c == 32 || c == 46
theorem parserOf_dot {o : Opt} {c : UInt8} (hd : o.dot = true) (hc : (c == 120 || c == 97 || c == 98 || c == 32 || c == 46) = true) : (c = 46 ∧ parserOf o c = .fn i_parseDot) ∨ (c ≠ 46 ∧ c ≠ 93 ∧ parserOf o c = .nil) := by
  simp only [Bool.or_eq_true, beq_iff_eq] at hc
  rcases hc with (((rfl | rfl) | rfl) | rfl) | rfl
  all_goals simp [parserOf, hd]
theorem sub_append {s : List UInt8} {e i j : Nat} (h1 : e ≤ i) (h2 : i ≤ j) (h3 : j ≤ s.length) : sub s e i ++ sub s i j = sub s e j := by
  unfold sub
  have e1 : (s.take j).take i = s.take i := by rw [List.take_take, Nat.min_eq_left h2]
  have e2 : (s.take j).drop e = ((s.take j).take i ++ (s.take j).drop i).drop e := by rw [List.take_append_drop]
  rw [e2, List.drop_append_of_le_length (by rw [List.length_take, List.length_take]; omega), e1]
theorem sub_one {s : List UInt8} {i : Nat} (h : i < s.length) : sub s i (i + 1) = [s[i]] := by
  unfold sub
  rw [List.take_succ_eq_append_getElem h, List.drop_append_of_le_length (by rw [List.length_take]; omega), List.drop_eq_nil_of_le (by rw [List.length_take]; omega)]
  rfl
theorem sub_self (s : List UInt8) (i : Nat) : sub s i i = [] := List.drop_eq_nil_of_le (by rw [List.length_take]; omega)
theorem emitM_plain {s : List UInt8} {e i : Nat} {us : List (List UInt8)} (he : e ≤ i) (hi : i ≤ s.length) (hne : ∀ u ∈ us, u ≠ []) :
    ∃ us' : List (List UInt8), emitM s e i (us.map .plain) = us'.map .plain ∧ us'.flatten = us.flatten ++ sub s e i ∧ (∀ u ∈ us', u ≠ []) ∧ us'.length ≤ us.length + 1 := by
  unfold emitM
  split
  · rename_i h
    refine ⟨us ++ [sub s e i], by simp, by simp, ?_, by simp⟩
    intro u hu
    rcases List.mem_append.1 hu with hu | hu
    · exact hne u hu
    · simp at hu; subst hu
      intro h0
      have := sub_length (i := e) hi
      rw [h0] at this; simp at this; omega
  · have : e = i := by omega
    subst this
    exact ⟨us, rfl, by rw [sub_self]; simp, hne, by omega⟩
theorem mergeGo_plain : ∀ (us : List (List UInt8)) (p : List (List UInt8)), mergeGo p (us.map .plain) = flushP (p ++ us)
  | [], p => by simp [mergeGo]
  | u :: us, p => by simp [mergeGo, Inl.plain?, mergeGo_plain us]
theorem plen_plain : ∀ us : List (List UInt8), plen (us.map .plain) = us.flatten.length
  | [] => rfl
  | u :: us => by simp [plen, Inl.plain?, plen_plain us]
theorem ell_length : ∀ s : List UInt8, (ell s).length ≤ s.length
  | [] => by simp [ell]
  | [a] => by simp [ell]
  | [a, b] => by simp [ell]
  | a :: b :: c :: s => by
    have h1 := ell_length s
    have h2 := ell_length (b :: c :: s)
    rw [ell]
    split
    · simp; omega
    · simp at h2 ⊢; omega
theorem inlineDots_ok {b pb : Nat} {p : PS} {o : Opt} {raw : List UInt8} (h : Sat σ w (p.at b :: L)) (hpz : p.pz = some ⟨pb, 0, none⟩) (ho : o.at pb ∈ L) (hoff : o.auto = false) (hdot : o.dot = true) (hl : raw.length < 1000000) (hne : raw ≠ [])
    (htr : trimLR isST raw = raw) (hD : isDotText raw = true)
    (hR : ∀ w (p' : PS) q n c vs RM EM, ({ p' with s := [] } : PS).core = ({ p with s := [] } : PS).core → Sl 1 ty_Inline q n c vs RM → n < 1073741824 → InlsAt [.plain (ell raw)] vs EM → Sat σ w (p'.at b :: (RM ++ (EM ++ L))) → R (.returned (.slice q n c)) w) :
    callE P i_parseState_inline #[.pointer (some ⟨b, 0, none⟩), .string (bs raw)] R w := by
  refine inl_begin h (by omega) fun w h => ?_
  rw [htr] at h ⊢
  intro X hX
  have key : ∀ k i e (us : List (List UInt8)) (p1 : PS) oq on oc w, i + k ≤ raw.length + 2 → raw.length ≤ i + k → i ≤ raw.length → e ≤ i → us.length ≤ e → (∀ u ∈ us, u ≠ []) → ({ p1 with s := [] } : PS).core = ({ p with s := [] } : PS).core → p1.s = raw → p1.em = e →
      us.flatten ++ sub raw e i ++ ell (raw.drop i) = ell raw → IIn σ b p1 (us.map .plain) [] oq on oc L w → X (some ⟨b, 0, none⟩) (bs raw) oq on oc 0 false (i : Int) w := by
    intro k
    induction k using Nat.strongRecOn with
    | ind k ih =>
      intro i e us p1 oq on oc w hik hik2 hil he hul hune hc hs hem hel h
      have hpz1 : p1.pz = some ⟨pb, 0, none⟩ := by have := congrArg PS.pz hc; rw [← hpz]; exact this
      refine hX _ _ _ _ _ _ _ _ _ ?_
      rcases Nat.lt_or_ge i raw.length with hlt | hge
      · obtain ⟨vs, RM, EM, OM, hS, hI, hO, hlen, hsat⟩ := h
        have on0 : on = 0 := by have := hO.1; simp at this; omega
        have h : IIn σ b p1 (us.map .plain) [] oq on oc L w := ⟨vs, RM, EM, OM, hS, hI, hO, hlen, hsat⟩
        refine inl_dispatch (p := p1) hlt (by omega) hpz1 (.head _) (.tail _ (List.mem_append_right _ (List.mem_append_right _ (List.mem_append_right _ ho)))) hsat ?_
        have hch : (raw[i] == 120 || raw[i] == 97 || raw[i] == 98 || raw[i] == 32 || raw[i] == 46) = true := (List.all_eq_true.1 hD) raw[i] (List.getElem_mem hlt)
        have next : ∀ (p2 : PS) w, p2 = p1 → IIn σ b p2 (us.map .plain) [] oq on oc L w → (raw[i] = 46 → dots3 raw i = false) → X (some ⟨b, 0, none⟩) (bs raw) oq on oc 0 false ((i + 1 : Nat) : Int) w := by
          intro p2 w hp2 h2 hnd
          rw [hp2] at h2
          refine ih (k - 1) (by omega) (i + 1) e us p1 oq on oc w (by omega) (by omega) (by omega) (by omega) hul hune hc hs hem ?_ h2
          rw [← hel, ell_step hlt hnd, ← sub_append (show e ≤ i from he) (show i ≤ i + 1 by omega) (by omega), sub_one hlt]
          simp
        rcases parserOf_dot hdot hch with ⟨h46, hp⟩ | ⟨h46, h93, hp⟩
        · rw [hp]
          dsimp only
          have hleaf := parseDot_leaf (b := b) (p := p1) (show raw.length < 4611686018427387904 by omega) hlt
          rw [← hs] at hleaf
          cases hd : dots3 raw i with
          | true =>
            have hres : dotRes p1.s i = some (.plain [226, 128, 166], i, i + 3) := by unfold dotRes; rw [hs, hd]; rfl
            rw [hres] at hleaf
            have hi3 : i + 3 ≤ raw.length := by simp [dots3] at hd; omega
            rw [← hs]
            refine inl_leaf h (by simp) hleaf hem (by rw [hs]; omega) (by rw [hs]; omega) (by simp; omega) (by simp) fun w p2 oq on oc hp2 hem2 _ h2 => ?_
            obtain ⟨us', hu1, hu2, hu3, hu4⟩ := emitM_plain (s := p1.s) he (by rw [hs]; omega) hune
            rw [hs]
            refine ih (k - 3) (by omega) (i + 3) (i + 3) (us' ++ [[226, 128, 166]]) p2 oq on oc w (by omega) (by omega) hi3 (Nat.le_refl _) (by simp; omega) ?_ ?_ ?_ hem2 ?_ ?_
            · intro u hu
              rcases List.mem_append.1 hu with hu | hu
              · exact hu3 u hu
              · simp at hu; subst hu; simp
            · rw [← hc]
              have := congrArg (fun q : PS => ({ q with s := [] } : PS)) hp2
              exact this
            · have := congrArg PS.s hp2; rw [← hs]; exact this
            · rw [sub_self, ← hel, ell_dots hlt h46 hd]
              rw [List.flatten_append, hu2, hs]
              simp
            · rw [hu1] at h2
              simpa [Inl.isOpen] using h2
          | false =>
            have hres : dotRes p1.s i = none := by unfold dotRes; rw [hs, hd]; rfl
            rw [hres] at hleaf
            rw [← hs]
            refine inl_decl h (by simp) hleaf fun w p2 _ hp2 h2 => ?_
            rw [hs]
            exact inl_k5 hlt (by omega) (.inr on0) (next p2 w hp2 h2 fun _ => hd)
        · rw [hp]
          exact inl_none (inl_k5 hlt (by omega) (.inr on0) (next p1 w rfl h fun h => absurd h h46))
      · have hi : i = raw.length := by omega
        obtain ⟨us', hu1, hu2, hu3, hu4⟩ := emitM_plain (s := p1.s) (e := e) (i := p1.s.length) (by rw [hs]; omega) (Nat.le_refl _) hune
        have hfl : us'.flatten = ell raw := by
          rw [hu2, hs, ← hel, hi, List.drop_length]; simp [ell]
        have hus : us' ≠ [] := by
          intro h0
          rw [h0] at hfl
          have h1 : ell raw = [] := by rw [← hfl]; rfl
          match raw, hne, h1 with
          | [a], _, h1 => simp [ell] at h1
          | [a, b], _, h1 => simp [ell] at h1
          | a :: b :: c :: s, _, h1 => rw [ell] at h1; split at h1 <;> simp at h1
        have := inl_end (R := R) (X := X) (lo := 0) (bk := false) (ts' := us'.map .plain) h hem (by rw [hs]; omega) (by simp; omega) hpz1 ho hoff (by rw [hu1]; exact emphOK_none (by intro t ht; obtain ⟨u, _, rfl⟩ := List.mem_map.1 ht; exact ⟨by simp only [Inl.ty]; decide, by simp only [Inl.ty]; decide⟩))
          (by intro t ht s hs'; obtain ⟨u, hu, rfl⟩ := List.mem_map.1 ht; simp only [Inl.plain?, Option.some.injEq] at hs'; subst hs'; exact hu3 u hu)
          (by rw [plen_plain, hfl]; have := ell_length raw; omega)
          (fun w p2 q n c vs RM EM hp2 hS hn hI h => hR w p2 q n c vs RM EM (by rw [← hc]; have := congrArg (fun q : PS => ({ q with s := [] } : PS)) hp2; exact this) hS hn (by
            have e : mergeM (us'.map .plain) = [.plain (ell raw)] := by rw [mergeM, mergeGo_plain, List.nil_append, flushP, if_neg hus, hfl]
            rw [← e]; exact hI) h)
        rw [hs] at this
        rw [hi]
        exact this
  have := key raw.length 0 0 [] { p with s := raw, em := 0, lq := none, ln := 0, lc := 0 } none 0 0 w (by omega) (by omega) (by omega) (Nat.le_refl _) (by simp) (by simp) rfl rfl rfl (by rw [sub_self]; simp) h
  exact this
end Go.Proofs.YtmicoampfglaiaaGreatDoor

set_option linter.unusedVariables false
set_option maxRecDepth 20000
namespace Go.Proofs.YtmicoampfglaiaaGreatDoor
open Go.Proofs
/- 309 (*pub-paratext/pub/rscmarkdown.Emph).PrintHTML -/
namespace g_Emph_PrintHTML
noncomputable def body : Code := bodyOf Tryz.f309
def bl1 (R : EP) (Xa : OA → OA → Nat → Nat → Int → Int → WP) (x1 : OA) (x11q : OA) (x11n : Nat) (x11c : Nat) (x12 : Int) (x13 : Int) (w : World) : Prop :=
 br (decide (x13 < x12))
 (0 ≤ x13 ∧ x13 < (x11n : Int) ∧
 nilP x11q fun a5 =>
 ∃ (v6 : Value), w.cell? (a5.add (Int.toNat x13 * 1)) = some v6 ∧
 enterE P (callMethod v6 "PrintHTML" #[.pointer x1]) (fun e w8 => e = .returned (.tuple #[]) ∧
 Xa x1 x11q x11n x11c x12 (IntKind.i64.wrap (x13 + 1)) w8) w)
 (callE P i_bytes_Buffer_WriteString #[.pointer x1, .string (ByteArray.mk #[60, 47, 101, 109, 62])] (fun e w10 => ∃ (r9_0 : Int), ∃ (r9_1 : Value), e = .returned (.tuple #[.int .i64 r9_0, r9_1]) ∧
 R (.returned (.tuple #[])) w10) w)
def l1 (R : EP) (x1 : OA) (x11q : OA) (x11n : Nat) (x11c : Nat) (x12 : Int) (x13 : Int) (w : World) : Prop :=
  ∀ X : OA → OA → Nat → Nat → Int → Int → WP, (∀ x1 x11q x11n x11c x12 x13 w, bl1 R X x1 x11q x11n x11c x12 x13 w → X x1 x11q x11n x11c x12 x13 w) → X x1 x11q x11n x11c x12 x13 w

noncomputable def al1 (R : EP) (Xa : OA → OA → Nat → Nat → Int → Int → WP) : AC :=
  (.leaf (sel [1, 0, 1, 0, 0] body))
end g_Emph_PrintHTML
def g_Emph_PrintHTML (R : EP) (x0 : OA) (x1 : OA) (w : World) : Prop :=
 callE P i_bytes_Buffer_WriteString #[.pointer x1, .string (ByteArray.mk #[60, 101, 109, 62])] (fun e w2 => ∃ (r1_0 : Int), ∃ (r1_1 : Value), e = .returned (.tuple #[.int .i64 r1_0, r1_1]) ∧
 nilP x0 fun a3 =>
 ∃ (v4q : OA), ∃ (v4n : Nat), ∃ (v4c : Nat), w2.cell? (a3.add 1) = some (.slice v4q v4n v4c) ∧
 g_Emph_PrintHTML.l1 R x1 v4q v4n v4c (v4n : Int) 0 w2) w

noncomputable def g_Emph_PrintHTML.ac (R : EP) : AC :=
  (.seq (.leaf (sel [0] g_Emph_PrintHTML.body)) (.seq (.seq (.leaf (sel [1, 0, 0] g_Emph_PrintHTML.body)) (.block 0 (.loop (leaf [(1, .s .ptr), (11, .s .slice), (12, .s (.int .i64)), (13, .s (.int .i64))] (g_Emph_PrintHTML.l1 R)) (sel [1, 0, 1, 0, 0] g_Emph_PrintHTML.body)))) (.leaf (sel [1, 1] g_Emph_PrintHTML.body))))
theorem g_Emph_PrintHTML.good (R : EP) : Good P 23 (g_Emph_PrintHTML.ac R) (QF P [] R) :=
  ⟨trivial, ⟨⟨trivial, (loopG (g_Emph_PrintHTML.al1 R) (g_Emph_PrintHTML.bl1 R) (fun _ => by kernel_rfl) (fun Xa => trivial) (fun Xa => by intro x1 x11q x11n x11c x12 x13 ρ w; kernel_rfl) (fun X h _ _ _ _ _ _ _ g => g X h))⟩, trivial⟩⟩
theorem g_Emph_PrintHTML.eq (R : EP) (x0 : OA) (x1 : OA) (w : World) : g_Emph_PrintHTML R x0 x1 w = vcA P 23 (g_Emph_PrintHTML.ac R) (QF P [] R) (fr0 [.pointer x0, .pointer x1]) w := by kernel_rfl
theorem g_Emph_PrintHTML.sound {R : EP} {x0 : OA} {x1 : OA} {w : World} (h : g_Emph_PrintHTML R x0 x1 w) : callE P i_Emph_PrintHTML #[.pointer x0, .pointer x1] R w :=
  callE_fin (c := g_Emph_PrintHTML.body) Tryz.func309 Tryz.call309 (by kernel_rfl) (by kernel_rfl) (by kernel_rfl) (by kernel_rfl) (by kernel_rfl) (g_Emph_PrintHTML.good R) (g_Emph_PrintHTML.eq R x0 x1 w) h
/- 317 (*pub-paratext/pub/rscmarkdown.Strong).PrintHTML -/
namespace g_Strong_PrintHTML
noncomputable def body : Code := bodyOf Tryz.f317
def bl1 (R : EP) (Xa : OA → OA → Nat → Nat → Int → Int → WP) (x1 : OA) (x11q : OA) (x11n : Nat) (x11c : Nat) (x12 : Int) (x13 : Int) (w : World) : Prop :=
 br (decide (x13 < x12))
 (0 ≤ x13 ∧ x13 < (x11n : Int) ∧
 nilP x11q fun a5 =>
 ∃ (v6 : Value), w.cell? (a5.add (Int.toNat x13 * 1)) = some v6 ∧
 enterE P (callMethod v6 "PrintHTML" #[.pointer x1]) (fun e w8 => e = .returned (.tuple #[]) ∧
 Xa x1 x11q x11n x11c x12 (IntKind.i64.wrap (x13 + 1)) w8) w)
 (callE P i_bytes_Buffer_WriteString #[.pointer x1, .string (ByteArray.mk #[60, 47, 115, 116, 114, 111, 110, 103, 62])] (fun e w10 => ∃ (r9_0 : Int), ∃ (r9_1 : Value), e = .returned (.tuple #[.int .i64 r9_0, r9_1]) ∧
 R (.returned (.tuple #[])) w10) w)
def l1 (R : EP) (x1 : OA) (x11q : OA) (x11n : Nat) (x11c : Nat) (x12 : Int) (x13 : Int) (w : World) : Prop :=
  ∀ X : OA → OA → Nat → Nat → Int → Int → WP, (∀ x1 x11q x11n x11c x12 x13 w, bl1 R X x1 x11q x11n x11c x12 x13 w → X x1 x11q x11n x11c x12 x13 w) → X x1 x11q x11n x11c x12 x13 w

noncomputable def al1 (R : EP) (Xa : OA → OA → Nat → Nat → Int → Int → WP) : AC :=
  (.leaf (sel [1, 0, 1, 0, 0] body))
end g_Strong_PrintHTML
def g_Strong_PrintHTML (R : EP) (x0 : OA) (x1 : OA) (w : World) : Prop :=
 callE P i_bytes_Buffer_WriteString #[.pointer x1, .string (ByteArray.mk #[60, 115, 116, 114, 111, 110, 103, 62])] (fun e w2 => ∃ (r1_0 : Int), ∃ (r1_1 : Value), e = .returned (.tuple #[.int .i64 r1_0, r1_1]) ∧
 nilP x0 fun a3 =>
 ∃ (v4q : OA), ∃ (v4n : Nat), ∃ (v4c : Nat), w2.cell? (a3.add 1) = some (.slice v4q v4n v4c) ∧
 g_Strong_PrintHTML.l1 R x1 v4q v4n v4c (v4n : Int) 0 w2) w

noncomputable def g_Strong_PrintHTML.ac (R : EP) : AC :=
  (.seq (.leaf (sel [0] g_Strong_PrintHTML.body)) (.seq (.seq (.leaf (sel [1, 0, 0] g_Strong_PrintHTML.body)) (.block 0 (.loop (leaf [(1, .s .ptr), (11, .s .slice), (12, .s (.int .i64)), (13, .s (.int .i64))] (g_Strong_PrintHTML.l1 R)) (sel [1, 0, 1, 0, 0] g_Strong_PrintHTML.body)))) (.leaf (sel [1, 1] g_Strong_PrintHTML.body))))
theorem g_Strong_PrintHTML.good (R : EP) : Good P 23 (g_Strong_PrintHTML.ac R) (QF P [] R) :=
  ⟨trivial, ⟨⟨trivial, (loopG (g_Strong_PrintHTML.al1 R) (g_Strong_PrintHTML.bl1 R) (fun _ => by kernel_rfl) (fun Xa => trivial) (fun Xa => by intro x1 x11q x11n x11c x12 x13 ρ w; kernel_rfl) (fun X h _ _ _ _ _ _ _ g => g X h))⟩, trivial⟩⟩
theorem g_Strong_PrintHTML.eq (R : EP) (x0 : OA) (x1 : OA) (w : World) : g_Strong_PrintHTML R x0 x1 w = vcA P 23 (g_Strong_PrintHTML.ac R) (QF P [] R) (fr0 [.pointer x0, .pointer x1]) w := by kernel_rfl
theorem g_Strong_PrintHTML.sound {R : EP} {x0 : OA} {x1 : OA} {w : World} (h : g_Strong_PrintHTML R x0 x1 w) : callE P i_Strong_PrintHTML #[.pointer x0, .pointer x1] R w :=
  callE_fin (c := g_Strong_PrintHTML.body) Tryz.func317 Tryz.call317 (by kernel_rfl) (by kernel_rfl) (by kernel_rfl) (by kernel_rfl) (by kernel_rfl) (g_Strong_PrintHTML.good R) (g_Strong_PrintHTML.eq R x0 x1 w) h
/- 337 (*pub-paratext/pub/rscmarkdown.AutoLink).PrintHTML -/
namespace g_AutoLink_PrintHTML
noncomputable def body : Code := bodyOf Tryz.f337
end g_AutoLink_PrintHTML
def g_AutoLink_PrintHTML (R : EP) (x0 : OA) (x1 : OA) (w : World) : Prop :=
 tk w fun w1 =>
 nilP x0 fun a2 =>
 nilP x0 fun a3 =>
 ∃ (v4 : BA), w1.cell? (a2.add 1) = some (.string v4) ∧
 ∃ (v5 : BA), w1.cell? a3 = some (.string v5) ∧
 callE P i_htmlLinkEscaper #[] (fun e w7 => ∃ (r6q : OA), ∃ (r6n : Nat), ∃ (r6c : Nat), e = .returned (.slice r6q r6n r6c) ∧
 SameC w1 w7 (a3) 1 ∧
 SameC w1 w7 (a2.add 1) 1 ∧
 callE P i_zzPairs_Replace #[.slice r6q r6n r6c, .string v4] (fun e w9 => ∃ (r8 : BA), e = .returned (.string r8) ∧
 SameC w7 w9 (a3) 1 ∧
 (((ByteArray.mk #[60, 97, 32, 104, 114, 101, 102, 61, 34]).size + r8.size : Nat) : Int) ≤ IntKind.i64.max ∧
 ((((ByteArray.mk #[60, 97, 32, 104, 114, 101, 102, 61, 34]) ++ r8).size + (ByteArray.mk #[34, 62]).size : Nat) : Int) ≤ IntKind.i64.max ∧
 callE P i_htmlEscaper #[] (fun e w11 => ∃ (r10q : OA), ∃ (r10n : Nat), ∃ (r10c : Nat), e = .returned (.slice r10q r10n r10c) ∧
 SameC w9 w11 (a3) 1 ∧
 callE P i_zzPairs_Replace #[.slice r10q r10n r10c, .string v5] (fun e w13 => ∃ (r12 : BA), e = .returned (.string r12) ∧
 (((((ByteArray.mk #[60, 97, 32, 104, 114, 101, 102, 61, 34]) ++ r8) ++ (ByteArray.mk #[34, 62])).size + r12.size : Nat) : Int) ≤ IntKind.i64.max ∧
 ((((((ByteArray.mk #[60, 97, 32, 104, 114, 101, 102, 61, 34]) ++ r8) ++ (ByteArray.mk #[34, 62])) ++ r12).size + (ByteArray.mk #[60, 47, 97, 62]).size : Nat) : Int) ≤ IntKind.i64.max ∧
 callE P i_bytes_Buffer_WriteString #[.pointer x1, .string (((((ByteArray.mk #[60, 97, 32, 104, 114, 101, 102, 61, 34]) ++ r8) ++ (ByteArray.mk #[34, 62])) ++ r12) ++ (ByteArray.mk #[60, 47, 97, 62]))] (fun e w15 => ∃ (r14_0 : Int), ∃ (r14_1 : Value), e = .returned (.tuple #[.int .i64 r14_0, r14_1]) ∧
 R (.returned (.tuple #[])) w15) w13) w11) w9) w7) w1

noncomputable def g_AutoLink_PrintHTML.ac (R : EP) : AC :=
  (.draw (.pure 0 (.pure 2 (.pure 3 (.pure 4 (.pure 10 (.pure 11 (.pure 12 (.load 5 (.load 13 (.one 1 (.one 6 (.pure 7 (.pure 8 (.one 9 (.one 14 (.pure 15 (.pure 16 (.one 17 .done)))))))))))))))))) (sel [] g_AutoLink_PrintHTML.body))
theorem g_AutoLink_PrintHTML.good (R : EP) : Good P 22 (g_AutoLink_PrintHTML.ac R) (QF P [] R) :=
  ⟨by kernel_rfl, by kernel_rfl, fun _ _ _ h => h⟩
theorem g_AutoLink_PrintHTML.eq (R : EP) (x0 : OA) (x1 : OA) (w : World) : g_AutoLink_PrintHTML R x0 x1 w = vcA P 22 (g_AutoLink_PrintHTML.ac R) (QF P [] R) (fr0 [.pointer x0, .pointer x1]) w := by kernel_rfl
theorem g_AutoLink_PrintHTML.sound {R : EP} {x0 : OA} {x1 : OA} {w : World} (h : g_AutoLink_PrintHTML R x0 x1 w) : callE P i_AutoLink_PrintHTML #[.pointer x0, .pointer x1] R w :=
  callE_fin (c := g_AutoLink_PrintHTML.body) Tryz.func337 Tryz.call337 (by kernel_rfl) (by kernel_rfl) (by kernel_rfl) (by kernel_rfl) (by kernel_rfl) (g_AutoLink_PrintHTML.good R) (g_AutoLink_PrintHTML.eq R x0 x1 w) h
/- 293 (*pub-paratext/pub/rscmarkdown.HardBreak).PrintHTML -/
namespace g_HardBreak_PrintHTML
noncomputable def body : Code := bodyOf Tryz.f293
end g_HardBreak_PrintHTML
def g_HardBreak_PrintHTML (R : EP) (x0 : OA) (x1 : OA) (w : World) : Prop :=
 callE P i_bytes_Buffer_WriteString #[.pointer x1, .string (ByteArray.mk #[60, 98, 114, 32, 47, 62, 10])] (fun e w2 => ∃ (r1_0 : Int), ∃ (r1_1 : Value), e = .returned (.tuple #[.int .i64 r1_0, r1_1]) ∧
 R (.returned (.tuple #[])) w2) w

noncomputable def g_HardBreak_PrintHTML.ac (R : EP) : AC :=
  (.leaf (sel [] g_HardBreak_PrintHTML.body))
theorem g_HardBreak_PrintHTML.good (R : EP) : Good P 6 (g_HardBreak_PrintHTML.ac R) (QF P [] R) :=
  trivial
theorem g_HardBreak_PrintHTML.eq (R : EP) (x0 : OA) (x1 : OA) (w : World) : g_HardBreak_PrintHTML R x0 x1 w = vcA P 6 (g_HardBreak_PrintHTML.ac R) (QF P [] R) (fr0 [.pointer x0, .pointer x1]) w := by kernel_rfl
theorem g_HardBreak_PrintHTML.sound {R : EP} {x0 : OA} {x1 : OA} {w : World} (h : g_HardBreak_PrintHTML R x0 x1 w) : callE P i_HardBreak_PrintHTML #[.pointer x0, .pointer x1] R w :=
  callE_fin (c := g_HardBreak_PrintHTML.body) Tryz.func293 Tryz.call293 (by kernel_rfl) (by kernel_rfl) (by kernel_rfl) (by kernel_rfl) (by kernel_rfl) (g_HardBreak_PrintHTML.good R) (g_HardBreak_PrintHTML.eq R x0 x1 w) h
/- 260 (*pub-paratext/pub/rscmarkdown.Link).PrintHTML -/
namespace g_Link_PrintHTML
noncomputable def body : Code := bodyOf Tryz.f260
def bl1 (R : EP) (Xa : OA → OA → Nat → Nat → Int → Int → WP) (x1 : OA) (x36q : OA) (x36n : Nat) (x36c : Nat) (x37 : Int) (x38 : Int) (w : World) : Prop :=
 br (decide (x38 < x37))
 (0 ≤ x38 ∧ x38 < (x36n : Int) ∧
 nilP x36q fun a25 =>
 ∃ (v26 : Value), w.cell? (a25.add (Int.toNat x38 * 1)) = some v26 ∧
 enterE P (callMethod v26 "PrintHTML" #[.pointer x1]) (fun e w28 => e = .returned (.tuple #[]) ∧
 Xa x1 x36q x36n x36c x37 (IntKind.i64.wrap (x38 + 1)) w28) w)
 (callE P i_bytes_Buffer_WriteString #[.pointer x1, .string (ByteArray.mk #[60, 47, 97, 62])] (fun e w30 => ∃ (r29_0 : Int), ∃ (r29_1 : Value), e = .returned (.tuple #[.int .i64 r29_0, r29_1]) ∧
 R (.returned (.tuple #[])) w30) w)
def l1 (R : EP) (x1 : OA) (x36q : OA) (x36n : Nat) (x36c : Nat) (x37 : Int) (x38 : Int) (w : World) : Prop :=
  ∀ X : OA → OA → Nat → Nat → Int → Int → WP, (∀ x1 x36q x36n x36c x37 x38 w, bl1 R X x1 x36q x36n x36c x37 x38 w → X x1 x36q x36n x36c x37 x38 w) → X x1 x36q x36n x36c x37 x38 w

noncomputable def al1 (R : EP) (Xa : OA → OA → Nat → Nat → Int → Int → WP) : AC :=
  (.leaf (sel [1, 1, 1, 0, 1, 0, 0] body))
def k1 (R : EP) (x0 : OA) (x1 : OA) (w : World) : Prop :=
 callE P i_bytes_Buffer_WriteString #[.pointer x1, .string (ByteArray.mk #[62])] (fun e w22 => ∃ (r21_0 : Int), ∃ (r21_1 : Value), e = .returned (.tuple #[.int .i64 r21_0, r21_1]) ∧
 nilP x0 fun a23 =>
 ∃ (v24q : OA), ∃ (v24n : Nat), ∃ (v24c : Nat), w22.cell? a23 = some (.slice v24q v24n v24c) ∧
 l1 R x1 v24q v24n v24c (v24n : Int) 0 w22) w

end g_Link_PrintHTML
def g_Link_PrintHTML (R : EP) (x0 : OA) (x1 : OA) (w : World) : Prop :=
 tk w fun w1 =>
 nilP x0 fun a2 =>
 ∃ (v3 : BA), w1.cell? (a2.add 1) = some (.string v3) ∧
 callE P i_htmlLinkEscaper #[] (fun e w5 => ∃ (r4q : OA), ∃ (r4n : Nat), ∃ (r4c : Nat), e = .returned (.slice r4q r4n r4c) ∧
 SameC w1 w5 (a2.add 1) 1 ∧
 callE P i_zzPairs_Replace #[.slice r4q r4n r4c, .string v3] (fun e w7 => ∃ (r6 : BA), e = .returned (.string r6) ∧
 (((ByteArray.mk #[60, 97, 32, 104, 114, 101, 102, 61, 34]).size + r6.size : Nat) : Int) ≤ IntKind.i64.max ∧
 ((((ByteArray.mk #[60, 97, 32, 104, 114, 101, 102, 61, 34]) ++ r6).size + (ByteArray.mk #[34]).size : Nat) : Int) ≤ IntKind.i64.max ∧
 callE P i_bytes_Buffer_WriteString #[.pointer x1, .string (((ByteArray.mk #[60, 97, 32, 104, 114, 101, 102, 61, 34]) ++ r6) ++ (ByteArray.mk #[34]))] (fun e w9 => ∃ (r8_0 : Int), ∃ (r8_1 : Value), e = .returned (.tuple #[.int .i64 r8_0, r8_1]) ∧
 nilP x0 fun a10 =>
 ∃ (v11 : BA), w9.cell? (a10.add 2) = some (.string v11) ∧
 br (!(v11.toList == (ByteArray.mk #[]).toList))
 (tk w9 fun w12 =>
 nilP x0 fun a13 =>
 ∃ (v14 : BA), w12.cell? (a13.add 2) = some (.string v14) ∧
 callE P i_htmlQuoteEscaper #[] (fun e w16 => ∃ (r15q : OA), ∃ (r15n : Nat), ∃ (r15c : Nat), e = .returned (.slice r15q r15n r15c) ∧
 SameC w12 w16 (a13.add 2) 1 ∧
 callE P i_zzPairs_Replace #[.slice r15q r15n r15c, .string v14] (fun e w18 => ∃ (r17 : BA), e = .returned (.string r17) ∧
 (((ByteArray.mk #[32, 116, 105, 116, 108, 101, 61, 34]).size + r17.size : Nat) : Int) ≤ IntKind.i64.max ∧
 ((((ByteArray.mk #[32, 116, 105, 116, 108, 101, 61, 34]) ++ r17).size + (ByteArray.mk #[34]).size : Nat) : Int) ≤ IntKind.i64.max ∧
 callE P i_bytes_Buffer_WriteString #[.pointer x1, .string (((ByteArray.mk #[32, 116, 105, 116, 108, 101, 61, 34]) ++ r17) ++ (ByteArray.mk #[34]))] (fun e w20 => ∃ (r19_0 : Int), ∃ (r19_1 : Value), e = .returned (.tuple #[.int .i64 r19_0, r19_1]) ∧
 g_Link_PrintHTML.k1 R x0 x1 w20) w18) w16) w12)
 (g_Link_PrintHTML.k1 R x0 x1 w9)) w7) w5) w1

noncomputable def g_Link_PrintHTML.ac (R : EP) : AC :=
  (.seq (.draw (.pure 0 (.pure 2 (.pure 3 (.pure 4 (.load 5 (.one 1 (.one 6 (.pure 7 (.pure 8 (.one 9 .done)))))))))) (sel [0] g_Link_PrintHTML.body)) (.seq (.seq (.leaf (sel [1, 0, 0] g_Link_PrintHTML.body)) (.cond 20 (.draw (.pure 0 (.pure 2 (.pure 3 (.pure 4 (.load 5 (.one 1 (.one 6 (.pure 7 (.pure 8 (.one 9 .done)))))))))) (sel [1, 0, 1, 0] g_Link_PrintHTML.body)) (.leaf (sel [1, 0, 1, 1] g_Link_PrintHTML.body)))) (.mark (leaf [(0, .s .ptr), (1, .s .ptr)] (g_Link_PrintHTML.k1 R)) (.seq (.leaf (sel [1, 1, 0] g_Link_PrintHTML.body)) (.seq (.seq (.leaf (sel [1, 1, 1, 0, 0] g_Link_PrintHTML.body)) (.block 0 (.loop (leaf [(1, .s .ptr), (36, .s .slice), (37, .s (.int .i64)), (38, .s (.int .i64))] (g_Link_PrintHTML.l1 R)) (sel [1, 1, 1, 0, 1, 0, 0] g_Link_PrintHTML.body)))) (.leaf (sel [1, 1, 1, 1] g_Link_PrintHTML.body)))))))
theorem g_Link_PrintHTML.good (R : EP) : Good P 48 (g_Link_PrintHTML.ac R) (QF P [] R) :=
  ⟨⟨by kernel_rfl, by kernel_rfl, fun _ _ _ h => h⟩, ⟨⟨trivial, ⟨⟨by kernel_rfl, by kernel_rfl, fun _ _ _ h => h⟩, trivial⟩⟩, ⟨⟨trivial, ⟨⟨trivial, (loopG (g_Link_PrintHTML.al1 R) (g_Link_PrintHTML.bl1 R) (fun _ => by kernel_rfl) (fun Xa => trivial) (fun Xa => by intro x1 x36q x36n x36c x37 x38 ρ w; kernel_rfl) (fun X h _ _ _ _ _ _ _ g => g X h))⟩, trivial⟩⟩, cutE (by intro x0 x1 ρ w; kernel_rfl)⟩⟩⟩
theorem g_Link_PrintHTML.eq (R : EP) (x0 : OA) (x1 : OA) (w : World) : g_Link_PrintHTML R x0 x1 w = vcA P 48 (g_Link_PrintHTML.ac R) (QF P [] R) (fr0 [.pointer x0, .pointer x1]) w := by kernel_rfl
theorem g_Link_PrintHTML.sound {R : EP} {x0 : OA} {x1 : OA} {w : World} (h : g_Link_PrintHTML R x0 x1 w) : callE P i_Link_PrintHTML #[.pointer x0, .pointer x1] R w :=
  callE_fin (c := g_Link_PrintHTML.body) Tryz.func260 Tryz.call260 (by kernel_rfl) (by kernel_rfl) (by kernel_rfl) (by kernel_rfl) (by kernel_rfl) (g_Link_PrintHTML.good R) (g_Link_PrintHTML.eq R x0 x1 w) h
/- 301 (*pub-paratext/pub/rscmarkdown.SoftBreak).PrintHTML -/
namespace g_SoftBreak_PrintHTML
noncomputable def body : Code := bodyOf Tryz.f301
end g_SoftBreak_PrintHTML
def g_SoftBreak_PrintHTML (R : EP) (x0 : OA) (x1 : OA) (w : World) : Prop :=
 callE P i_bytes_Buffer_WriteString #[.pointer x1, .string (ByteArray.mk #[10])] (fun e w2 => ∃ (r1_0 : Int), ∃ (r1_1 : Value), e = .returned (.tuple #[.int .i64 r1_0, r1_1]) ∧
 R (.returned (.tuple #[])) w2) w

noncomputable def g_SoftBreak_PrintHTML.ac (R : EP) : AC :=
  (.leaf (sel [] g_SoftBreak_PrintHTML.body))
theorem g_SoftBreak_PrintHTML.good (R : EP) : Good P 6 (g_SoftBreak_PrintHTML.ac R) (QF P [] R) :=
  trivial
theorem g_SoftBreak_PrintHTML.eq (R : EP) (x0 : OA) (x1 : OA) (w : World) : g_SoftBreak_PrintHTML R x0 x1 w = vcA P 6 (g_SoftBreak_PrintHTML.ac R) (QF P [] R) (fr0 [.pointer x0, .pointer x1]) w := by kernel_rfl
theorem g_SoftBreak_PrintHTML.sound {R : EP} {x0 : OA} {x1 : OA} {w : World} (h : g_SoftBreak_PrintHTML R x0 x1 w) : callE P i_SoftBreak_PrintHTML #[.pointer x0, .pointer x1] R w :=
  callE_fin (c := g_SoftBreak_PrintHTML.body) Tryz.func301 Tryz.call301 (by kernel_rfl) (by kernel_rfl) (by kernel_rfl) (by kernel_rfl) (by kernel_rfl) (g_SoftBreak_PrintHTML.good R) (g_SoftBreak_PrintHTML.eq R x0 x1 w) h
end Go.Proofs.YtmicoampfglaiaaGreatDoor

/- Leaves and links print themselves. -/
set_option linter.unusedVariables false
namespace Go.Proofs.YtmicoampfglaiaaGreatDoor
open Go.Proofs Go.IntWalk Go.RowKit
variable {σ : Out} {w : World} {L L' : List Chunk} {R : Ending → World → Prop}
/-- A method of a struct that is embedded first, met through a pointer. -/
def methB1 (P : Program) (t : TypeId) (name : String) (f : FuncId) : Bool :=
  match P.info? t with
  | some i => match i.methods.find? (·.name == name) with
    | some m => match m.path.toList with
      | [s] => s.deref && (match P.underlying s.struct with
        | some (.struct fields) => match fields[s.index]? with
          | some fd => Nat.beq fd.offset 0 && (match P.info? fd.type with
            | some ti => !(Nat.beq ti.size 0) && (match P.underlying fd.type with
              | some (.struct _) => (match m.func with | some (g, true) => Nat.beq g f | _ => false)
              | _ => false)
            | none => false)
          | none => false
        | _ => false)
      | _ => false
    | none => false
  | none => false
theorem methB1_run {P : Program} {t : TypeId} {name : String} {f : FuncId} (h : methB1 P t name f = true) (b : Nat) (fuel : Nat) (w : World) :
    (Go.method (fuel + 1) t (.pointer (some ⟨b, 0, none⟩)) name).run P w = .ok (f, .pointer (some ⟨b, 0, none⟩)) w := by
  unfold methB1 at h
  split at h
  · rename_i i hi
    split at h
    · rename_i m hm
      split at h
      · rename_i s hp
        simp only [Bool.and_eq_true] at h
        obtain ⟨hd, h⟩ := h
        split at h
        · rename_i fields hu
          split at h
          · rename_i fd hf
            simp only [Bool.and_eq_true] at h
            obtain ⟨h0, h⟩ := h
            have h0 := Nat.eq_of_beq_eq_true h0
            split at h
            · rename_i ti hti
              simp only [Bool.and_eq_true, Bool.not_eq_true'] at h
              obtain ⟨hsz, h⟩ := h
              have hsz : ti.size ≠ 0 := by intro h1; rw [h1] at hsz; simp at hsz
              split at h
              · rename_i fs hfu
                split at h
                · rename_i g hg
                  have hgf := Nat.eq_of_beq_eq_true h
                  subst hgf
                  simp [Go.method, typeInfo, hi, hm, hp, Go.follow, run_underlying hu, hf, hd, Go.Place.get, asAddr, Go.fieldPlace, sizeOf, hti, hsz, h0, hg, Go.receiverAt, run_underlying hfu, Addr.add_lit]
                · cases h
              · cases h
            · cases h
          · cases h
        · cases h
      · cases h
    · cases h
  · cases h
theorem enter_meth1 {t : TypeId} {name : String} {f : FuncId} {b : Nat} {args : Array Value} (hm : methB1 P t name f = true) (h : callE P f (#[.pointer (some ⟨b, 0, none⟩)] ++ args) R w) :
    enterE P (callMethod (.iface t (.pointer (some ⟨b, 0, none⟩))) name args) R w := by
  obtain ⟨n, hn⟩ := depth_succ P
  have hr := methB1_run hm b n w
  have e : (callMethod (.iface t (.pointer (some ⟨b, 0, none⟩))) name args).run P w = (callFunc f (#[.pointer (some ⟨b, 0, none⟩)] ++ args)).run P w := by
    simp only [callMethod, Sem.run_bind, run_program, Result.andThen_ok, hn, hr]
  unfold enterE
  rw [e]
  exact h.imp (fun h => ⟨f, _, w, h.1 _ _, h.2⟩) id
theorem meth_EscapedP : methB1 P ty_P_Escaped "PrintHTML" i_Plain_PrintHTML = true := by kernel_rfl
theorem meth_Soft : methB P ty_P_SoftBreak "PrintHTML" i_SoftBreak_PrintHTML = true := by kernel_rfl
theorem meth_Hard : methB P ty_P_HardBreak "PrintHTML" i_HardBreak_PrintHTML = true := by kernel_rfl
theorem meth_Auto : methB P ty_P_AutoLink "PrintHTML" i_AutoLink_PrintHTML = true := by kernel_rfl
theorem meth_Link : methB P ty_P_Link "PrintHTML" i_Link_PrintHTML = true := by kernel_rfl
theorem esc_prints {pb : Nat} {s : List UInt8} {cs : List Value} {e : TypeId} (hs : s.length < 4294967296) :
    Prints "PrintHTML" (.iface ty_P_Escaped (.pointer (some ⟨pb, 0, none⟩))) [(pb, cel (.string (bs s) :: cs) e)] [(pb, cel (.string (bs s) :: cs) e)] (ab (escS htmlPs s)) := by
  refine ⟨ab_le _, fun σ R b l M L w hB h hb hR => enter_meth1 meth_EscapedP ?_⟩
  exact plainPrint_ok hB h hs (Nat.le_trans (ab_le _ l) hb) hR
def softT : List UInt8 := [10]
def hardT : List UInt8 := [60, 98, 114, 32, 47, 62, 10]
theorem soft_prints {b : Nat} {T : List Chunk} : Prints "PrintHTML" (ptrV ty_P_SoftBreak b) T T (ab softT) := by
  refine ⟨ab_le _, fun σ R bb l M L w hB h hb hR => enter_meth meth_Soft ?_⟩
  refine g_SoftBreak_PrintHTML.sound ?_
  have hb' : (l ++ softT).length ≤ 549755813888 := hb
  rw [List.length_append] at hb'
  exact writeS_ok (s := softT) hB h (by omega) fun w M hB h => ⟨_, _, rfl, hR w M hB h⟩
theorem hard_prints {b : Nat} {T : List Chunk} : Prints "PrintHTML" (ptrV ty_P_HardBreak b) T T (ab hardT) := by
  refine ⟨ab_le _, fun σ R bb l M L w hB h hb hR => enter_meth meth_Hard ?_⟩
  refine g_HardBreak_PrintHTML.sound ?_
  have hb' : (l ++ hardT).length ≤ 549755813888 := hb
  rw [List.length_append] at hb'
  exact writeS_ok (s := hardT) hB h (by omega) fun w M hB h => ⟨_, _, rfl, hR w M hB h⟩
def aHref : List UInt8 := [60, 97, 32, 104, 114, 101, 102, 61, 34]
def aEnd : List UInt8 := [60, 47, 97, 62]
def tAttr : List UInt8 := [32, 116, 105, 116, 108, 101, 61, 34]
theorem linkPs8 : small8 linkPs = true := by decide
theorem linkPs_len : linkPs.length = 170 := by kernel_rfl
theorem linkReplace_ok {pb c : Nat} {e : TypeId} {s : List UInt8} (h : Sat σ w L) (hp : (pb, cel (pairC linkPs) e) ∈ L) (hs : s.length < 4294967296) (hR : ∀ w, Sat σ w L → R (.returned (.string (bs (escS linkPs s)))) w) :
    callE P i_zzPairs_Replace #[.slice (some ⟨pb, 0, none⟩) 340 c, .string (bs s)] R w := by
  have := pairsReplace_ok (c := c) (R := R) h hp linkPs8 (by rw [linkPs_len]; decide) hs hR
  rw [linkPs_len] at this
  exact this
theorem auto_prints {b : Nat} {e : TypeId} {t u : List UInt8} (ht : t.length < 100000000) (hu : u.length < 100000000) :
    Prints "PrintHTML" (ptrV ty_P_AutoLink b) [(b, cel [.string (bs t), .string (bs u)] e)] [(b, cel [.string (bs t), .string (bs u)] e)] (ab (aHref ++ escS linkPs u ++ [34, 62] ++ escS htmlPs t ++ aEnd)) := by
  refine ⟨ab_le _, fun σ R bb l M L w hB h hb hR => enter_meth meth_Auto ?_⟩
  have hmax : IntKind.i64.max = 9223372036854775807 := rfl
  have l1 := escS_length linkPs8 u
  have l2 := escS_length (ps := htmlPs) (by decide) t
  have hb' : (l ++ (aHref ++ escS linkPs u ++ [34, 62] ++ escS htmlPs t ++ aEnd)).length ≤ 549755813888 := hb
  rw [List.length_append] at hb'
  refine g_AutoLink_PrintHTML.sound ?_
  refine Sat.tk h fun w h => ?_
  refine nilP_some (nilP_some ?_)
  have hm : ∀ {M : List Chunk}, (b, cel [.string (bs t), .string (bs u)] e) ∈ M ++ ([(b, cel [.string (bs t), .string (bs u)] e)] ++ L) := List.mem_append_right _ (.head _)
  refine ⟨_, Sat.ld h (i := 1) hm rfl, _, Sat.ld h (i := 0) hm rfl, ?_⟩
  have h0 := h
  refine htmlLinkEscaper_ok h fun w eb h => ⟨_, _, _, rfl, h0.same h hm (.tail _ hm) 1, h0.same h hm (.tail _ hm) 1, ?_⟩
  have h0 := h
  refine linkReplace_ok h (.head _) (by omega) fun w h => ⟨_, rfl, h0.same h (.tail _ hm) (.tail _ hm) 1, ?_⟩
  rw [show ByteArray.mk #[60, 97, 32, 104, 114, 101, 102, 61, 34] = bs aHref from rfl, show ByteArray.mk #[34, 62] = bs [34, 62] from rfl, show ByteArray.mk #[60, 47, 97, 62] = bs aEnd from rfl, bs_append, bs_append]
  refine ⟨by rw [hmax]; simp [aHref]; omega, by rw [hmax]; simp [aHref]; omega, ?_⟩
  have h0 := h
  refine htmlEscaper_ok h fun w eb2 h => ⟨_, _, _, rfl, h0.same h (.tail _ hm) (.tail _ (.tail _ hm)) 1, ?_⟩
  refine pairsReplace_ok (ps := htmlPs) h (.head _) (by decide) (by decide) (by omega) fun w h => ⟨_, rfl, ?_⟩
  rw [bs_append, bs_append]
  refine ⟨by rw [hmax]; simp [aHref]; omega, by rw [hmax]; simp [aHref, aEnd]; omega, ?_⟩
  have h : Sat σ w (M ++ ([(b, cel [.string (bs t), .string (bs u)] e)] ++ L)) := h.tail.tail
  exact writeS_ok hB h (by omega) fun w M hB h => ⟨_, _, rfl, hR w M hB h⟩
/-- What stands ahead of a link's text. -/
def linkO (u t : List UInt8) : List UInt8 := aHref ++ escS linkPs u ++ [34] ++ (if t = [] then [] else tAttr ++ escS htmlPs t ++ [34]) ++ [62]
theorem link_prints {b : Nat} {e : TypeId} {u t : List UInt8} {cs : List Value} {q : Option Addr} {n c : Nat} {vs : List Value} {RM KM KM' : List Chunk} {f : List UInt8 → List UInt8} (hu : u.length < 100000000) (ht : t.length < 100000000) (hS : Sl 1 ty_Inline q n c vs RM) (hn : n < 4611686018427387904) (hP : PrintsL "PrintHTML" vs KM KM' f) :
    Prints "PrintHTML" (ptrV ty_P_Link b) ((b, cel (.slice q n c :: .string (bs u) :: .string (bs t) :: cs) e) :: (RM ++ KM)) ((b, cel (.slice q n c :: .string (bs u) :: .string (bs t) :: cs) e) :: (RM ++ KM')) (fun l => f (l ++ linkO u t) ++ aEnd) := by
  have hmax : IntKind.i64.max = 9223372036854775807 := rfl
  have l1 := escS_length linkPs8 u
  have l2 := escS_length (ps := htmlPs) (by decide) t
  refine ⟨fun l => ?_, fun σ R bb l M L w hB h hb hR => enter_meth meth_Link ?_⟩
  · have := hP.mono (l ++ linkO u t)
    simp only [List.length_append] at *; omega
  have hm := hP.mono (l ++ linkO u t)
  simp only [List.length_append] at hb hm
  refine g_Link_PrintHTML.sound ?_
  have hmem : ∀ {M : List Chunk}, (b, cel (.slice q n c :: .string (bs u) :: .string (bs t) :: cs) e) ∈ M ++ ((b, cel (.slice q n c :: .string (bs u) :: .string (bs t) :: cs) e) :: (RM ++ KM) ++ L) := List.mem_append_right _ (.head _)
  refine Sat.tk h fun w h => ?_
  refine nilP_some ⟨_, Sat.ld h (i := 1) hmem rfl, ?_⟩
  have h0 := h
  refine htmlLinkEscaper_ok h fun w eb h => ⟨_, _, _, rfl, h0.same h hmem (.tail _ hmem) 1, ?_⟩
  refine linkReplace_ok h (.head _) (by omega) fun w h => ⟨_, rfl, ?_⟩
  rw [show ByteArray.mk #[60, 97, 32, 104, 114, 101, 102, 61, 34] = bs aHref from rfl, show ByteArray.mk #[34] = bs [34] from rfl, bs_append, bs_append]
  have hlo : (linkO u t).length = (aHref ++ escS linkPs u ++ [34]).length + (if t = [] then [] else tAttr ++ escS htmlPs t ++ [34] : List UInt8).length + 1 := by simp [linkO]; omega
  refine ⟨by rw [hmax]; simp [aHref]; omega, by rw [hmax]; simp [aHref]; omega, ?_⟩
  have h : Sat σ w (M ++ ((b, cel (.slice q n c :: .string (bs u) :: .string (bs t) :: cs) e) :: (RM ++ KM) ++ L)) := h.tail
  refine writeS_ok hB h (by omega) fun w M hB h => ⟨_, _, rfl, ?_⟩
  refine nilP_some ⟨_, Sat.ld h (i := 2) hmem rfl, ?_⟩
  have k1 : ∀ w M, Buf bb (l ++ (aHref ++ escS linkPs u ++ [34] ++ (if t = [] then [] else tAttr ++ escS htmlPs t ++ [34]))) M → Sat σ w (M ++ ((b, cel (.slice q n c :: .string (bs u) :: .string (bs t) :: cs) e) :: (RM ++ KM) ++ L)) → g_Link_PrintHTML.k1 R (some ⟨b, 0, none⟩) (some ⟨bb, 0, none⟩) w := by
    intro w M hB h
    refine writeS_ok (s := [62]) hB h (by simp only [List.length_append, List.length_cons, List.length_nil] at hlo ⊢; omega) fun w M hB h => ⟨_, _, rfl, ?_⟩
    refine nilP_some ⟨_, _, _, Sat.ld h (i := 0) hmem rfl, ?_⟩
    intro X hX
    have e1 : l ++ (aHref ++ escS linkPs u ++ [34] ++ (if t = [] then [] else tAttr ++ escS htmlPs t ++ [34])) ++ [62] = l ++ linkO u t := by simp [linkO]
    rw [e1] at hB
    have h : Sat σ w (M ++ (RM ++ (KM ++ ((b, cel (.slice q n c :: .string (bs u) :: .string (bs t) :: cs) e) :: L)))) := h.re (by intro _; simp only [List.append_eq, cnt_append, cnt_cons, cnt_nil] <;> omega)
    refine printLoop (X := fun j w => X (some ⟨bb, 0, none⟩) q n c (n : Int) j w) (END := fun w => callE P i_bytes_Buffer_WriteString #[.pointer (some ⟨bb, 0, none⟩), .string (bs aEnd)] (fun e w10 => ∃ (r9_0 : Int), ∃ (r9_1 : Value), e = .returned (.tuple #[.int .i64 r9_0, r9_1]) ∧ R (.returned (.tuple #[])) w10) w) hS (fun j w hj => hX _ _ _ _ _ _ _ hj) hP hB h hn (by simp only [List.length_append] at *; omega) fun w M' hB h => ?_
    refine writeS_ok (s := aEnd) hB h (by simp only [List.length_append] at *; omega) fun w M hB h => ⟨_, _, rfl, ?_⟩
    exact hR w M hB (h.re (by intro _; simp only [List.append_eq, cnt_append, cnt_cons, cnt_nil] <;> omega))
  by_cases ht0 : t = []
  · refine br_false (by rw [ht0, bs_toList, mk_toList]; rfl) (k1 w M ?_ h)
    rw [if_pos ht0, List.append_nil]; exact hB
  · refine br_true (by rw [bs_toList, mk_toList]; simpa using ht0) ?_
    rw [if_neg ht0] at hlo
    simp only [List.length_append, List.length_cons, List.length_nil] at hlo
    refine Sat.tk h fun w h => ?_
    refine nilP_some ⟨_, Sat.ld h (i := 2) hmem rfl, ?_⟩
    have h0 := h
    refine htmlQuoteEscaper_ok h fun w eb h => ⟨_, _, _, rfl, h0.same h hmem (.tail _ hmem) 1, ?_⟩
    refine pairsReplace_ok (ps := htmlPs) h (.head _) (by decide) (by decide) (by omega) fun w h => ⟨_, rfl, ?_⟩
    rw [show ByteArray.mk #[32, 116, 105, 116, 108, 101, 61, 34] = bs tAttr from rfl, bs_append, bs_append]
    refine ⟨by rw [hmax]; simp [tAttr]; omega, by rw [hmax]; simp [tAttr]; omega, ?_⟩
    have h : Sat σ w (M ++ ((b, cel (.slice q n c :: .string (bs u) :: .string (bs t) :: cs) e) :: (RM ++ KM) ++ L)) := h.tail
    refine writeS_ok hB h (by simp only [List.length_append, List.length_cons, List.length_nil] at hlo ⊢; omega) fun w M hB h => ⟨_, _, rfl, k1 w M ?_ h⟩
    rw [if_neg ht0, ← List.append_assoc]; exact hB
end Go.Proofs.YtmicoampfglaiaaGreatDoor

/- Inlines print themselves. -/
set_option linter.unusedVariables false
namespace Go.Proofs.YtmicoampfglaiaaGreatDoor
open Go.Proofs Go.IntWalk Go.RowKit
variable {σ : Out} {w : World} {L L' : List Chunk} {R : Ending → World → Prop}
theorem meth_Strong : methB P ty_P_Strong "PrintHTML" i_Strong_PrintHTML = true := by kernel_rfl
theorem meth_Emph : methB P ty_P_Emph "PrintHTML" i_Emph_PrintHTML = true := by kernel_rfl
def oStrong : List UInt8 := [60, 115, 116, 114, 111, 110, 103, 62]
def cStrong : List UInt8 := [60, 47, 115, 116, 114, 111, 110, 103, 62]
def oEm : List UInt8 := [60, 101, 109, 62]
def cEm : List UInt8 := [60, 47, 101, 109, 62]
theorem strong_prints {b : Nat} {e : TypeId} {m : Value} {q : Option Addr} {n c : Nat} {vs : List Value} {RM KM KM' : List Chunk} {f : List UInt8 → List UInt8} (hS : Sl 1 ty_Inline q n c vs RM) (hn : n < 4611686018427387904) (hP : PrintsL "PrintHTML" vs KM KM' f) :
    Prints "PrintHTML" (.iface ty_P_Strong (.pointer (some ⟨b, 0, none⟩))) ((b, cel [m, .slice q n c] e) :: (RM ++ KM)) ((b, cel [m, .slice q n c] e) :: (RM ++ KM')) (fun l => f (l ++ oStrong) ++ cStrong) := by
  refine ⟨fun l => ?_, fun σ R bb l M L w hB h hb hR => enter_meth meth_Strong ?_⟩
  · have := hP.mono (l ++ oStrong)
    simp only [List.length_append] at *; omega
  refine g_Strong_PrintHTML.sound ?_
  have hm := hP.mono (l ++ oStrong)
  simp only [List.length_append] at hb hm
  refine writeS_ok (s := oStrong) hB h (by omega) fun w M hB h => ⟨_, _, rfl, ?_⟩
  refine nilP_some ?_
  refine ⟨_, _, _, Sat.ld h (List.mem_append_right _ (.head _)) rfl, ?_⟩
  intro X hX
  have h : Sat σ w (M ++ (RM ++ (KM ++ ((b, cel [m, .slice q n c] e) :: L)))) := h.re (by intro _; simp only [List.append_eq, cnt_append, cnt_cons, cnt_nil] <;> omega)
  refine printLoop (X := fun j w => X (some ⟨bb, 0, none⟩) q n c (n : Int) j w) (END := fun w => callE P i_bytes_Buffer_WriteString #[.pointer (some ⟨bb, 0, none⟩), .string (bs cStrong)] (fun e w10 => ∃ (r9_0 : Int), ∃ (r9_1 : Value), e = .returned (.tuple #[.int .i64 r9_0, r9_1]) ∧ R (.returned (.tuple #[])) w10) w) hS (fun j w hj => hX _ _ _ _ _ _ _ hj) hP hB h hn (by omega) fun w M' hB h => ?_
  refine writeS_ok (s := cStrong) hB h (by omega) fun w M hB h => ⟨_, _, rfl, ?_⟩
  exact hR w M hB (h.re (by intro _; simp only [List.append_eq, cnt_append, cnt_cons, cnt_nil] <;> omega))
theorem em_prints {b : Nat} {e : TypeId} {m : Value} {q : Option Addr} {n c : Nat} {vs : List Value} {RM KM KM' : List Chunk} {f : List UInt8 → List UInt8} (hS : Sl 1 ty_Inline q n c vs RM) (hn : n < 4611686018427387904) (hP : PrintsL "PrintHTML" vs KM KM' f) :
    Prints "PrintHTML" (.iface ty_P_Emph (.pointer (some ⟨b, 0, none⟩))) ((b, cel [m, .slice q n c] e) :: (RM ++ KM)) ((b, cel [m, .slice q n c] e) :: (RM ++ KM')) (fun l => f (l ++ oEm) ++ cEm) := by
  refine ⟨fun l => ?_, fun σ R bb l M L w hB h hb hR => enter_meth meth_Emph ?_⟩
  · have := hP.mono (l ++ oEm)
    simp only [List.length_append] at *; omega
  refine g_Emph_PrintHTML.sound ?_
  have hm := hP.mono (l ++ oEm)
  simp only [List.length_append] at hb hm
  refine writeS_ok (s := oEm) hB h (by omega) fun w M hB h => ⟨_, _, rfl, ?_⟩
  refine nilP_some ?_
  refine ⟨_, _, _, Sat.ld h (List.mem_append_right _ (.head _)) rfl, ?_⟩
  intro X hX
  have h : Sat σ w (M ++ (RM ++ (KM ++ ((b, cel [m, .slice q n c] e) :: L)))) := h.re (by intro _; simp only [List.append_eq, cnt_append, cnt_cons, cnt_nil] <;> omega)
  refine printLoop (X := fun j w => X (some ⟨bb, 0, none⟩) q n c (n : Int) j w) (END := fun w => callE P i_bytes_Buffer_WriteString #[.pointer (some ⟨bb, 0, none⟩), .string (bs cEm)] (fun e w10 => ∃ (r9_0 : Int), ∃ (r9_1 : Value), e = .returned (.tuple #[.int .i64 r9_0, r9_1]) ∧ R (.returned (.tuple #[])) w10) w) hS (fun j w hj => hX _ _ _ _ _ _ _ hj) hP hB h hn (by omega) fun w M' hB h => ?_
  refine writeS_ok (s := cEm) hB h (by omega) fun w M hB h => ⟨_, _, rfl, ?_⟩
  exact hR w M hB (h.re (by intro _; simp only [List.append_eq, cnt_append, cnt_cons, cnt_nil] <;> omega))
/-! ### In general -/
mutual
/-- What an inline prints (of the kinds that are covered). -/
def outI : Inl → List UInt8
  | .plain s => escS htmlPs s
  | .strong _ ks => oStrong ++ outL ks ++ cStrong
  | .emph _ ks => oEm ++ outL ks ++ cEm
  | .esc s => escS htmlPs s
  | .auto t u => aHref ++ escS linkPs u ++ [34, 62] ++ escS htmlPs t ++ aEnd
  | .link ks u t _ _ => linkO u t ++ outL ks ++ aEnd
  | .soft => softT
  | .hard => hardT
  | _ => []
def outL : List Inl → List UInt8
  | [] => []
  | t :: ts => outI t ++ outL ts
end
mutual
def okI : Inl → Prop
  | .plain s => s.length < 4294967296
  | .strong _ ks => okL ks ∧ ks.length < 1073741824
  | .emph _ ks => okL ks ∧ ks.length < 1073741824
  | .esc s => s.length < 4294967296
  | .auto t u => t.length < 100000000 ∧ u.length < 100000000
  | .link ks u t _ _ => okL ks ∧ ks.length < 1073741824 ∧ u.length < 100000000 ∧ t.length < 100000000
  | .soft => True
  | .hard => True
  | _ => False
def okL : List Inl → Prop
  | [] => True
  | t :: ts => okI t ∧ okL ts
end
theorem Prints.as {m : String} {v : Value} {T T' : List Chunk} {f g : List UInt8 → List UInt8} (h : Prints m v T T' f) (e : f = g) : Prints m v T T' g := e ▸ h
theorem PrintsL.as {m : String} {v : List Value} {T T' : List Chunk} {f g : List UInt8 → List UInt8} (h : PrintsL m v T T' f) (e : f = g) : PrintsL m v T T' g := e ▸ h
mutual
theorem inl_prints : ∀ (t : Inl) (v : Value) (M : List Chunk), InlAt t v M → okI t → Prints "PrintHTML" v M M (ab (outI t))
  | .plain s, v, M, h, ho => by
    obtain ⟨b, cs, e, rfl, rfl⟩ := h
    exact plain_prints ho
  | .strong m ks, v, M, h, ho => by
    obtain ⟨b, e, q, n, c, vs, RM, KM, rfl, rfl, hS, hI⟩ := h
    have hl := hI.length
    have h0 := hS.1
    have h1 := ho.2
    refine (strong_prints hS (by omega) (inls_print ks vs KM hI ho.1)).as ?_
    funext l
    simp [ab, outI]
  | .emph m ks, v, M, h, ho => by
    obtain ⟨b, e, q, n, c, vs, RM, KM, rfl, rfl, hS, hI⟩ := h
    have hl := hI.length
    have h0 := hS.1
    have h1 := ho.2
    refine (em_prints hS (by omega) (inls_print ks vs KM hI ho.1)).as ?_
    funext l
    simp [ab, outI]
  | .esc s, v, M, h, ho => by
    obtain ⟨b, e, rfl, rfl⟩ := h
    exact esc_prints ho
  | .auto t u, v, M, h, ho => by
    obtain ⟨b, e, rfl, rfl⟩ := h
    exact auto_prints ho.1 ho.2
  | .link ks u t tc k, v, M, h, ho => by
    obtain ⟨b, e, q, n, c, vs, RM, KM, rfl, rfl, hS, hI⟩ := h
    have hl := hI.length
    have h0 := hS.1
    obtain ⟨h1, h2, h3, h4⟩ := ho
    refine (link_prints h3 h4 hS (by omega) (inls_print ks vs KM hI h1)).as ?_
    funext l
    simp [ab, outI]
  | .soft, v, M, h, ho => by
    obtain ⟨b, e, rfl, rfl⟩ := h
    exact soft_prints
  | .hard, v, M, h, ho => by
    obtain ⟨b, e, rfl, rfl⟩ := h
    exact hard_prints
  | .openP _ _, v, M, h, ho => absurd ho id
  | .emphP _ _ _ _ _, v, M, h, ho => absurd ho id
  | .code _, v, M, h, ho => absurd ho id
  | .del _ _, v, M, h, ho => absurd ho id
  | .image _ _ _ _ _, v, M, h, ho => absurd ho id
  | .tag _, v, M, h, ho => absurd ho id
  | .task _, v, M, h, ho => absurd ho id
theorem inls_print : ∀ (ts : List Inl) (vs : List Value) (M : List Chunk), InlsAt ts vs M → okL ts → PrintsL "PrintHTML" vs M M (ab (outL ts))
  | [], vs, M, h, ho => by
    obtain ⟨rfl, rfl⟩ := h
    exact PrintsL.nil.as (by funext l; simp [ab, outL])
  | t :: ts, vs, M, h, ho => by
    obtain ⟨v, vs', M1, M2, rfl, rfl, h1, h2⟩ := h
    refine (PrintsL.cons (inl_prints t v M1 h1 ho.1) (inls_print ts vs' M2 h2 ho.2)).as ?_
    funext l
    simp [ab, outL]
end
end Go.Proofs.YtmicoampfglaiaaGreatDoor

/- A text in which nothing is an inline but plain text. -/
set_option linter.unusedVariables false
namespace Go.Proofs.YtmicoampfglaiaaGreatDoor
open Go.Proofs Go.IntWalk Go.RowKit
variable {σ : Out} {w : World} {L L' : List Chunk} {R : Ending → World → Prop}
theorem AtI.plains {X : XI} {b pb e : Nat} {p0 : PS} {raw : List UInt8} {ts : List Inl} {o : Opt} (hX : LoopX R X b raw) (hs : raw.length < 1000000000) (hpz : p0.pz = some ⟨pb, 0, none⟩) (ho : o.at pb ∈ L) :
    ∀ (k i : Nat), i + k ≤ raw.length → (∀ j (hj : j < raw.length), i ≤ j → j < i + k → parserOf o raw[j] = .nil ∧ raw[j] ≠ 93) → AtI X σ b p0 raw L (i + k) e ts → AtI X σ b p0 raw L i e ts
  | 0, i, _, _, h => h
  | k + 1, i, hk, hall, h => by
    have hi : i < raw.length := by omega
    have h0 := hall i hi (Nat.le_refl _) (by omega)
    refine AtI.plain hX hi hs hpz ho h0.1 h0.2 ?_
    refine AtI.plains hX hs hpz ho k (i + 1) (by omega) (fun j hj h1 h2 => hall j hj (by omega) (by omega)) ?_
    rw [show i + 1 + k = i + (k + 1) by omega]; exact h
theorem plainText_inline {o : Opt} {s : List UInt8} (hoff : o.auto = false) (hs : s.length < 1000000) (hall : ∀ c ∈ trimLR isST s, parserOf o c = .nil ∧ c ≠ 93) (hne : trimLR isST s ≠ []) : InlineOK o s (ab (escS htmlPs (trimLR isST s))) := by
  intro σ R b pb p L w h hpz ho hlk hR
  have htl : (trimLR isST s).length ≤ s.length := by
    unfold trimLR trimR
    have h1 := (List.dropWhile_sublist isST (l := s)).length_le
    have h2 := (List.dropWhile_sublist isST (l := (s.dropWhile isST).reverse)).length_le
    simp at h2 ⊢; omega
  refine inl_begin h (by omega) fun w h => ?_
  generalize hr : trimLR isST s = raw at h hall hne htl hR ⊢
  intro X hX
  have hXL : LoopX R X b raw := fun _ _ _ _ _ h => hX _ _ _ _ _ _ _ _ _ h
  generalize hp0 : ({ p with s := raw, em := 0, lq := none, ln := 0, lc := 0 } : PS) = p0 at h
  have hpz0 : p0.pz = some ⟨pb, 0, none⟩ := by rw [← hp0]; exact hpz
  have hcs : p0.coreS = p.coreS := by rw [← hp0]; rfl
  suffices hat : AtI X σ b p0 raw L 0 0 [] from hat w p0 none 0 0 rfl (by rw [← hp0]) (by rw [← hp0]; rfl) h
  have hpos : 0 < raw.length := List.length_pos_iff.2 hne
  refine AtI.plains hXL (by omega) hpz0 ho raw.length 0 (by omega) (fun j hj _ _ => hall _ (List.getElem_mem hj)) ?_
  rw [Nat.zero_add]
  have e1 : emitM raw 0 raw.length [] = [.plain raw] := by
    unfold emitM; rw [if_pos hpos]
    show [Inl.plain ((raw.take raw.length).drop 0)] = _
    rw [List.take_length, List.drop_zero]
  refine AtI.fin (ts' := [.plain raw]) hXL (by omega) hpz0 ho hoff (by simp) ?_ ?_ ?_ ?_
  · rw [e1]
    exact emphOK_none (by intro t ht; simp at ht; subst ht; exact ⟨by simp only [Inl.ty]; decide, by simp only [Inl.ty]; decide⟩)
  · intro t ht s hs; simp at ht; subst ht; simp [Inl.plain?] at hs; subst hs; exact hne
  · simp [plen, Inl.plain?]; omega
  · intro w p' q n' c vs RM EM hp' hS hn' hI h
    have em : mergeM [.plain raw] = [.plain raw] := by simp [mergeM, mergeGo, flushP, Inl.plain?]
    rw [em] at hI
    have hP := inls_print _ _ _ hI ⟨by show raw.length < _; omega, trivial⟩
    have eo : outL [.plain raw] = escS htmlPs raw := by simp [outL, outI]
    rw [eo] at hP
    exact hR w p' q n' c vs RM EM EM (hp'.trans hcs) hS hn' hP h
end Go.Proofs.YtmicoampfglaiaaGreatDoor

/- FnAddress: the law's walk. -/
set_option linter.unusedVariables false
namespace Go.Proofs.YtmicoampfglaiaaGreatDoor
open Go.Proofs Go.IntWalk Go.RowKit
variable {σ : Out} {w : World} {L L' : List Chunk} {R : Ending → World → Prop}
def mailT (nm ho en : List UInt8) : List UInt8 := nm ++ 64 :: (ho ++ 46 :: en)
def addrT (nm ho en : List UInt8) : List UInt8 := 60 :: (mailT nm ho en ++ [62])
def nmSet : List UInt8 := [97, 98, 122, 48, 49, 57, 46, 43, 45, 95]
def hoSet : List UInt8 := [97, 98, 122]
/-- What holds of the three parts. -/
structure Mail (nm ho en : List UInt8) : Prop where
  nm0 : nm ≠ []
  nml : nm.length ≤ 40
  nms : ∀ c ∈ nm, c ∈ nmSet
  ho0 : ho ≠ []
  hol : ho.length ≤ 40
  hos : ∀ c ∈ ho, c ∈ hoSet
  en0 : en ≠ []
  enl : en.length ≤ 40
  ens : ∀ c ∈ en, c ∈ hoSet
theorem onlyM_of {s set : List UInt8} {n : Nat} (h : onlyM s set n = true) : s.length ≤ n ∧ ∀ c ∈ s, c ∈ set := by
  simp only [onlyM, Bool.and_eq_true, decide_eq_true_eq] at h
  exact ⟨h.1, fun c hc => of_decide_eq_true ((List.all_eq_true.1 h.2) c hc)⟩
theorem nmSet_facts : nmSet.all (fun c => userB c && (escB linkPs c == [c]) && (escB htmlPs c == [c]) && !isST c && c != 58 && c != 33 && c != 63 && c != 47 && c != 32 && c != 9 && c != 62 && c != 10 && c != 0 && c != 13 && !(letB c && !lowB c)) = true := by decide
theorem hoSet_facts : hoSet.all (fun c => ldhB c && ldigB c && (escB linkPs c == [c]) && (escB htmlPs c == [c]) && !isST c && c != 58 && c != 10 && c != 0 && c != 13) = true := by decide
theorem nm_facts {c : UInt8} (h : c ∈ nmSet) : userB c = true ∧ escB linkPs c = [c] ∧ escB htmlPs c = [c] ∧ isST c = false ∧ c ≠ 58 ∧ c ≠ 33 ∧ c ≠ 63 ∧ c ≠ 47 ∧ c ≠ 32 ∧ c ≠ 9 ∧ c ≠ 62 ∧ c ≠ 10 ∧ c ≠ 0 ∧ c ≠ 13 ∧ (letB c = true → lowB c = true) := by
  have := (List.all_eq_true.1 nmSet_facts) c h
  simp only [Bool.and_eq_true, beq_iff_eq, Bool.not_eq_true', bne_iff_ne, ne_eq, Bool.and_eq_false_iff] at this
  obtain ⟨⟨⟨⟨⟨⟨⟨⟨⟨⟨⟨⟨⟨⟨h1, h2⟩, h3⟩, h4⟩, h5⟩, h6⟩, h7⟩, h8⟩, h9⟩, h10⟩, h11⟩, h12⟩, h13⟩, h14⟩, h15⟩ := this
  refine ⟨h1, h2, h3, h4, h5, h6, h7, h8, h9, h10, h11, h12, h13, h14, fun hl => ?_⟩
  rcases h15 with h15 | h15
  · rw [hl] at h15; cases h15
  · simpa using h15
theorem ho_facts {c : UInt8} (h : c ∈ hoSet) : ldhB c = true ∧ ldigB c = true ∧ escB linkPs c = [c] ∧ escB htmlPs c = [c] ∧ isST c = false ∧ c ≠ 58 ∧ c ≠ 10 ∧ c ≠ 0 ∧ c ≠ 13 := by
  have := (List.all_eq_true.1 hoSet_facts) c h
  simp only [Bool.and_eq_true, beq_iff_eq, Bool.not_eq_true', bne_iff_ne, ne_eq] at this
  obtain ⟨⟨⟨⟨⟨⟨⟨⟨h1, h2⟩, h3⟩, h4⟩, h5⟩, h6⟩, h7⟩, h8⟩, h9⟩ := this
  exact ⟨h1, h2, h3, h4, h5, h6, h7, h8, h9⟩
theorem escS_id {ps : Prs} {s : List UInt8} (h : ∀ c ∈ s, escB ps c = [c]) : escS ps s = s := by
  induction s with
  | nil => rfl
  | cons c s ih => rw [escS_cons, h c (List.mem_cons_self ..), ih (fun d hd => h d (List.mem_cons_of_mem _ hd))]; rfl
theorem mail_mem {nm ho en : List UInt8} {c : UInt8} (h : c ∈ mailT nm ho en) : c ∈ nm ∨ c = 64 ∨ c ∈ ho ∨ c = 46 ∨ c ∈ en := by
  simpa [mailT] using h
theorem mail_esc {ps : Prs} {nm ho en : List UInt8} (hM : Mail nm ho en) (h1 : ∀ c ∈ nmSet, escB ps c = [c]) (h2 : ∀ c ∈ hoSet, escB ps c = [c]) (h3 : escB ps 64 = [64]) (h4 : escB ps 46 = [46]) : escS ps (mailT nm ho en) = mailT nm ho en := by
  refine escS_id fun c hc => ?_
  rcases mail_mem hc with h | rfl | h | rfl | h
  · exact h1 c (hM.nms c h)
  · exact h3
  · exact h2 c (hM.hos c h)
  · exact h4
  · exact h2 c (hM.ens c h)
theorem addr_len (nm ho en : List UInt8) : (addrT nm ho en).length = nm.length + ho.length + en.length + 4 := by simp [addrT, mailT]; omega
theorem addr_nm {nm ho en : List UInt8} {k : Nat} (h : k < nm.length) : (addrT nm ho en).getD (k + 1) 0 = nm[k] := by
  simp only [addrT, mailT, List.getD_cons_succ, List.append_assoc]
  rw [getD_app' h, ← getElem_getD h]
theorem addr_at {nm ho en : List UInt8} : (addrT nm ho en).getD (nm.length + 1) 0 = 64 := by
  simp only [addrT, mailT, List.getD_cons_succ, List.append_assoc, List.cons_append]
  exact getD_mid nm _ 64 0
theorem addr_ho {nm ho en : List UInt8} {k : Nat} (h : k < ho.length) : (addrT nm ho en).getD (nm.length + 1 + 1 + k) 0 = ho[k] := by
  rw [show nm.length + 1 + 1 + k = (nm.length + (k + 1)) + 1 by omega]
  simp only [addrT, mailT, List.getD_cons_succ, List.append_assoc, List.cons_append]
  rw [getD_app (by omega), show nm.length + (k + 1) - nm.length = k + 1 by omega, List.getD_cons_succ, getD_app' h, ← getElem_getD h]
theorem addr_dot {nm ho en : List UInt8} : (addrT nm ho en).getD (nm.length + 1 + 1 + ho.length) 0 = 46 := by
  rw [show nm.length + 1 + 1 + ho.length = (nm.length + (ho.length + 1)) + 1 by omega]
  simp only [addrT, mailT, List.getD_cons_succ, List.append_assoc, List.cons_append]
  rw [getD_app (by omega), show nm.length + (ho.length + 1) - nm.length = ho.length + 1 by omega, List.getD_cons_succ]
  exact getD_mid ho _ 46 0
theorem addr_en {nm ho en : List UInt8} {k : Nat} (h : k < en.length) : (addrT nm ho en).getD (nm.length + 1 + 1 + ho.length + 1 + k) 0 = en[k] := by
  rw [show nm.length + 1 + 1 + ho.length + 1 + k = (nm.length + (ho.length + (k + 1) + 1)) + 1 by omega]
  simp only [addrT, mailT, List.getD_cons_succ, List.append_assoc, List.cons_append]
  rw [getD_app (by omega), show nm.length + (ho.length + (k + 1) + 1) - nm.length = ho.length + (k + 1) + 1 by omega, List.getD_cons_succ, getD_app (by omega), show ho.length + (k + 1) - ho.length = k + 1 by omega, List.getD_cons_succ, getD_app' h, ← getElem_getD h]
theorem addr_gt {nm ho en : List UInt8} : (addrT nm ho en).getD (nm.length + 1 + 1 + ho.length + 1 + en.length) 0 = 62 := by
  rw [show nm.length + 1 + 1 + ho.length + 1 + en.length = (nm.length + (ho.length + (en.length + 1) + 1)) + 1 by omega]
  simp only [addrT, mailT, List.getD_cons_succ, List.append_assoc, List.cons_append]
  rw [getD_app (by omega), show nm.length + (ho.length + (en.length + 1) + 1) - nm.length = ho.length + (en.length + 1) + 1 by omega, List.getD_cons_succ, getD_app (by omega), show ho.length + (en.length + 1) - ho.length = en.length + 1 by omega, List.getD_cons_succ]
  exact getD_mid en [] 62 0
/-- The length of the run at the beginning that p holds of. -/
def runL (p : UInt8 → Bool) (s : List UInt8) : Nat := (s.takeWhile p).length
theorem runL_le (p : UInt8 → Bool) (s : List UInt8) : runL p s ≤ s.length := (List.takeWhile_sublist p).length_le
theorem runL_all {p : UInt8 → Bool} : ∀ {s : List UInt8} {k : Nat}, k < runL p s → p (s.getD k 0) = true
  | [], k, h => by simp [runL] at h
  | c :: s, k, h => by
    unfold runL at h
    rw [List.takeWhile_cons] at h
    by_cases hc : p c = true
    · rw [if_pos hc] at h
      cases k with
      | zero => exact hc
      | succ k => exact runL_all (s := s) (by simpa [runL] using h)
    · rw [if_neg hc] at h; simp at h
theorem runL_stop {p : UInt8 → Bool} : ∀ {s : List UInt8}, runL p s < s.length → p (s.getD (runL p s) 0) = false
  | [], h => by simp at h
  | c :: s, h => by
    unfold runL at h ⊢
    rw [List.takeWhile_cons] at h ⊢
    by_cases hc : p c = true
    · rw [if_pos hc] at h ⊢
      exact runL_stop (s := s) (by simpa [runL] using h)
    · rw [if_neg hc]
      simpa using hc
theorem sub_pre {s : List UInt8} {m : Nat} {t : List UInt8} (h : sub s 1 m = t) (hm : m ≤ s.length) {k : Nat} (hk : k < t.length) : s.getD (1 + k) 0 = t.getD k 0 := by
  subst h
  have hl := sub_length (s := s) (i := 1) (j := m) hm
  unfold sub at hk ⊢
  rw [drop_getD, List.getD_eq_getElem?_getD, List.getD_eq_getElem?_getD, List.getElem?_take_of_lt (by rw [List.length_drop, List.length_take] at hk; omega)]
theorem addr_one {nm ho en : List UInt8} (hM : Mail nm ho en) {j : Nat} (hj : j ≤ nm.length) : (addrT nm ho en).getD (j + 1) 0 ∈ nmSet ∨ (j = nm.length ∧ (addrT nm ho en).getD (j + 1) 0 = 64) := by
  rcases Nat.lt_or_ge j nm.length with h | h
  · left; rw [addr_nm h]; exact hM.nms _ (List.getElem_mem h)
  · obtain rfl : j = nm.length := by omega
    exact .inr ⟨rfl, addr_at⟩
theorem run_addr {nm ho en : List UInt8} {p : UInt8 → Bool} (hp : p 64 = false) : runL p (mailT nm ho en ++ [62]) ≤ nm.length := by
  rcases Nat.lt_or_ge nm.length (runL p (mailT nm ho en ++ [62])) with h | h
  · have h1 := runL_all h
    have h2 : (mailT nm ho en ++ [62]).getD nm.length 0 = 64 := addr_at (nm := nm) (ho := ho) (en := en)
    rw [h2, hp] at h1; cases h1
  · exact h
theorem addr_noTag {nm ho en : List UInt8} (hM : Mail nm ho en) : ∃ e m, NoTag (addrT nm ho en) e m := by
  have hlen := addr_len nm ho en
  have n1 := hM.nml; have n2 := hM.hol; have n3 := hM.enl
  have n0 := List.length_pos_iff.2 hM.nm0
  have r1 := run_addr (nm := nm) (ho := ho) (en := en) (p := lowB) (by decide)
  have r2 := run_addr (nm := nm) (ho := ho) (en := en) (p := ldhB) (by decide)
  have hT : ∀ k, (addrT nm ho en).getD (k + 1) 0 = (mailT nm ho en ++ [62]).getD k 0 := fun k => rfl
  have htl : (mailT nm ho en ++ [62]).length = nm.length + ho.length + en.length + 3 := by simp [mailT]; omega
  have h0 : (addrT nm ho en).getD 1 0 ∈ nmSet := by
    rcases addr_one hM (j := 0) (by omega) with h | h
    · exact h
    · omega
  have f0 := nm_facts h0
  have sep : ∀ j, j ≤ nm.length → (addrT nm ho en).getD (j + 1) 0 ≠ 32 ∧ (addrT nm ho en).getD (j + 1) 0 ≠ 9 ∧ (addrT nm ho en).getD (j + 1) 0 ≠ 62 ∧ (addrT nm ho en).getD (j + 1) 0 ≠ 47 ∧ (addrT nm ho en).getD (j + 1) 0 ≠ 10 ∧ (letB ((addrT nm ho en).getD (j + 1) 0) = true → lowB ((addrT nm ho en).getD (j + 1) 0) = true) := by
    intro j hj
    rcases addr_one hM hj with h | ⟨_, h⟩
    · have f := nm_facts h
      exact ⟨f.2.2.2.2.2.2.2.2.1, f.2.2.2.2.2.2.2.2.2.1, f.2.2.2.2.2.2.2.2.2.2.1, f.2.2.2.2.2.2.2.1, f.2.2.2.2.2.2.2.2.2.2.2.1, f.2.2.2.2.2.2.2.2.2.2.2.2.2.2⟩
    · rw [h]; decide
  refine ⟨min 16 (runL lowB (mailT nm ho en ++ [62])) + 1, runL ldhB (mailT nm ho en ++ [62]) + 1, ?_⟩
  have s1 := sep (min 16 (runL lowB (mailT nm ho en ++ [62]))) (by omega)
  have s2 := sep (runL ldhB (mailT nm ho en ++ [62])) r2
  refine ⟨by omega, rfl, ⟨f0.2.2.2.2.2.1, f0.2.2.2.2.2.2.1, f0.2.2.2.2.2.2.2.1⟩, ⟨by omega, by omega, by omega⟩, ?_, ?_, ⟨s1.1, s1.2.1, s1.2.2.1, s1.2.2.2.1⟩, ?_⟩
  · intro k hk1 hk2
    obtain ⟨j, rfl⟩ : ∃ j, k = j + 1 := ⟨k - 1, by omega⟩
    rw [hT]; exact runL_all (by omega)
  · rcases Nat.lt_or_ge 15 (runL lowB (mailT nm ho en ++ [62])) with h | h
    · left; omega
    · right
      rw [Nat.min_eq_right (by omega)] at s1 ⊢
      have hf : lowB ((addrT nm ho en).getD (runL lowB (mailT nm ho en ++ [62]) + 1) 0) = false := by rw [hT]; exact runL_stop (by omega)
      refine ⟨hf, ?_⟩
      cases hl : letB ((addrT nm ho en).getD (runL lowB (mailT nm ho en ++ [62]) + 1) 0) with
      | false => rfl
      | true => rw [s1.2.2.2.2.2 hl] at hf; cases hf
  · cases hl : letB ((addrT nm ho en).getD 1 0) with
    | false => exact .inl rfl
    | true =>
      right
      have h1 : 1 ≤ runL ldhB (mailT nm ho en ++ [62]) := by
        rcases Nat.eq_zero_or_pos (runL ldhB (mailT nm ho en ++ [62])) with h | h
        · have := runL_stop (p := ldhB) (s := mailT nm ho en ++ [62]) (by omega)
          rw [h] at this
          have h2 : ldhB ((addrT nm ho en).getD 1 0) = false := this
          simp only [ldhB, ldigB, hl, Bool.true_or] at h2; cases h2
        · exact h
      refine ⟨⟨by omega, by omega, ?_, ?_⟩, by omega, ?_, s2.1, s2.2.1, s2.2.2.2.2.1, s2.2.2.2.1, s2.2.2.1⟩
      · intro k hk1 hk2
        obtain ⟨j, rfl⟩ : ∃ j, k = j + 1 := ⟨k - 1, by omega⟩
        rw [hT]; exact runL_all (by omega)
      · intro _
        rw [hT]; exact runL_stop (by omega)
      · intro hw
        have key : ∀ t : List UInt8, sub (addrT nm ho en) 1 (runL ldhB (mailT nm ho en ++ [62]) + 1) = t → 0 < t.length → t.getD 0 0 ∉ nmSet → False := by
          intro t ht hl hn
          have := sub_pre ht (by omega) hl
          rw [Nat.add_zero] at this
          rw [this] at h0; exact hn h0
        simp only [preWords, List.mem_cons, List.mem_nil_iff, or_false] at hw
        rcases hw with hw | hw | hw | hw
        all_goals exact key _ hw (by decide) (by decide)
theorem addr_leaf {b : Nat} {p : PS} {nm ho en : List UInt8} (hM : Mail nm ho en) :
    LeafOK b p (addrT nm ho en) 0 (.func (.func i_parseAutoLinkOrHTML) #[] #[]) [] (some (.auto (mailT nm ho en) ([109, 97, 105, 108, 116, 111, 58] ++ mailT nm ho en), 0, (addrT nm ho en).length)) (fun p' => p' = p) := by
  intro σ R L w _ h hR
  refine enter_fn ?_
  have hlen := addr_len nm ho en
  have n1 := hM.nml; have n2 := hM.hol; have n3 := hM.enl
  have n0 := List.length_pos_iff.2 hM.nm0; have n4 := List.length_pos_iff.2 hM.ho0; have n5 := List.length_pos_iff.2 hM.en0
  refine g_parseAutoLinkOrHTML.sound ?_
  refine uri_no (i := 0) (by omega) (by omega) rfl (fun k hk hk2 => ?_) ⟨_, _, _, rfl, br_false rfl ?_⟩
  · have hm : (addrT nm ho en).getD k 0 ∈ addrT nm ho en := by rw [← getElem_getD hk2]; exact List.getElem_mem _
    intro h58
    rw [h58] at hm
    simp only [addrT, List.mem_cons, List.mem_append, List.mem_nil_iff, or_false] at hm
    rcases hm with hm | hm | hm
    · exact absurd hm (by decide)
    · rcases mail_mem hm with h | h | h | h | h
      · exact (nm_facts (hM.nms _ h)).2.2.2.2.1 rfl
      · exact absurd h (by decide)
      · exact (ho_facts (hM.hos _ h)).2.2.2.2.2.1 rfl
      · exact absurd h (by decide)
      · exact (ho_facts (hM.ens _ h)).2.2.2.2.2.1 rfl
    · exact absurd hm (by decide)
  have d1 : DomTo (addrT nm ho en) (nm.length + 1 + 1) ho.length := by
    have ha : ∀ k, k < ho.length → (addrT nm ho en).getD (nm.length + 1 + 1 + k) 0 ∈ hoSet := fun k hk => by rw [addr_ho hk]; exact hM.hos _ (List.getElem_mem hk)
    refine ⟨n4, by omega, by omega, fun k hk => (ho_facts (ha k hk)).1, ?_, ?_, by rw [addr_dot]; decide⟩
    · exact (ho_facts (ha 0 n4)).2.1
    · have := (ho_facts (ha (ho.length - 1) (by omega))).2.1
      rw [show nm.length + 1 + 1 + ho.length - 1 = nm.length + 1 + 1 + (ho.length - 1) by omega]; exact this
  have d2 : DomTo (addrT nm ho en) (nm.length + 1 + 1 + ho.length + 1) en.length := by
    have ha : ∀ k, k < en.length → (addrT nm ho en).getD (nm.length + 1 + 1 + ho.length + 1 + k) 0 ∈ hoSet := fun k hk => by rw [addr_en hk]; exact hM.ens _ (List.getElem_mem hk)
    refine ⟨n5, by omega, by omega, fun k hk => (ho_facts (ha k hk)).1, ?_, ?_, by rw [addr_gt]; decide⟩
    · exact (ho_facts (ha 0 n5)).2.1
    · have := (ho_facts (ha (en.length - 1) (by omega))).2.1
      rw [show nm.length + 1 + 1 + ho.length + 1 + en.length - 1 = nm.length + 1 + 1 + ho.length + 1 + (en.length - 1) by omega]; exact this
  have hsub : sub (addrT nm ho en) (0 + 1) (nm.length + 1 + 1 + ho.length + 1 + en.length) = mailT nm ho en := by
    have := sub_mid [60] (mailT nm ho en) [62]
    rw [show ([60] : List UInt8).length + (mailT nm ho en).length = nm.length + 1 + 1 + ho.length + 1 + en.length by simp [mailT]; omega] at this
    exact this
  refine email_ok (i := 0) (j := nm.length + 1) (n := ho.length) (m := en.length) (by omega) rfl (by omega) (fun k hk1 hk2 => ?_) addr_at d1 addr_dot d2 addr_gt h fun w ab h => ⟨_, _, _, rfl, br_true rfl ?_⟩
  · obtain ⟨j, rfl⟩ : ∃ j, k = j + 1 := ⟨k - 1, by omega⟩
    rw [addr_nm (by omega)]
    exact (nm_facts (hM.nms _ (List.getElem_mem _))).1
  · rw [hsub] at h
    have e : nm.length + 1 + 1 + ho.length + 1 + en.length + 1 = (addrT nm ho en).length := by omega
    rw [e]
    exact hR w p _ _ rfl rfl ⟨ab, _, rfl, rfl⟩ h.up1
theorem trim_addr (nm ho en : List UInt8) : trimLR isST (addrT nm ho en) = addrT nm ho en := by
  unfold trimLR trimR
  have e : (addrT nm ho en).dropWhile isST = addrT nm ho en := rfl
  rw [e]
  have e2 : (addrT nm ho en).reverse = 62 :: ((mailT nm ho en).reverse ++ [60]) := by simp [addrT]
  rw [e2, List.dropWhile_cons_of_neg (by decide)]
  simp [addrT]
def addrOut (nm ho en : List UInt8) : List UInt8 := aHref ++ ([109, 97, 105, 108, 116, 111, 58] ++ mailT nm ho en) ++ [34, 62] ++ mailT nm ho en ++ aEnd
theorem addr_inline {o : Opt} {nm ho en : List UInt8} (hoff : o.auto = false) (hM : Mail nm ho en) : InlineOK o (addrT nm ho en) (ab (addrOut nm ho en)) := by
  intro σ R b pb p L w h hpz hop hlk hR
  have hlen := addr_len nm ho en
  have n1 := hM.nml; have n2 := hM.hol; have n3 := hM.enl
  have hml : (mailT nm ho en).length = nm.length + ho.length + en.length + 2 := by simp [mailT]; omega
  refine inl_begin h (by omega) fun w h => ?_
  rw [trim_addr] at h ⊢
  generalize hr : addrT nm ho en = raw at h hlen ⊢
  intro X hX
  have hXL : LoopX R X b raw := fun _ _ _ _ _ h => hX _ _ _ _ _ _ _ _ _ h
  generalize hp0 : ({ p with s := raw, em := 0, lq := none, ln := 0, lc := 0 } : PS) = p0 at h
  have hpz0 : p0.pz = some ⟨pb, 0, none⟩ := by rw [← hp0]; exact hpz
  have hcs : p0.coreS = p.coreS := by rw [← hp0]; rfl
  suffices hat : AtI X σ b p0 raw L 0 0 [] from hat w p0 none 0 0 rfl (by rw [← hp0]) (by rw [← hp0]; rfl) h
  have hpos : 0 < raw.length := by omega
  have hg0 : raw[0] = 60 := by subst hr; rfl
  refine AtI.leaf (Q := fun p p' => p' = p) hXL hpos (by omega) hpz0 hop (f := i_parseAutoLinkOrHTML) (by rw [hg0]; rfl) (L0 := []) (by simp) (fun p _ _ => by subst hr; exact addr_leaf hM) rfl (by omega) (by simp) ?_
  rw [hr]
  have e1 : ∀ t : Inl, emitM raw 0 0 [] ++ [t] = [t] := fun t => rfl
  rw [e1]
  have e2 : ∀ ts, emitM raw raw.length raw.length ts = ts := by intro ts; unfold emitM; rw [if_neg (by omega)]
  generalize hiA : Inl.auto (mailT nm ho en) ([109, 97, 105, 108, 116, 111, 58] ++ mailT nm ho en) = ia
  refine AtI.fin (ts' := [ia]) hXL (by omega) hpz0 hop hoff (by simp) ?_ ?_ ?_ ?_
  · rw [e2]
    exact emphOK_none (by intro t ht; simp at ht; subst ht; subst hiA; exact ⟨by simp only [Inl.ty]; decide, by simp only [Inl.ty]; decide⟩)
  · intro t ht s hs; simp at ht; subst ht; subst hiA; simp [Inl.plain?] at hs
  · subst hiA; simp [plen, Inl.plain?]
  · intro w p' q n' c vs RM EM hp' hS hn' hI h
    have em : mergeM [ia] = [ia] := by subst hiA; simp [mergeM, mergeGo, flushP, Inl.plain?]
    rw [em] at hI
    have hok : okL [ia] := by
      subst hiA
      exact ⟨⟨by omega, by simp; omega⟩, trivial⟩
    have hP := inls_print _ _ _ hI hok
    have eo : outL [ia] = addrOut nm ho en := by
      subst hiA
      have a1 : escS htmlPs (mailT nm ho en) = mailT nm ho en := mail_esc hM (fun c hc => (nm_facts hc).2.2.1) (fun c hc => (ho_facts hc).2.2.2.1) (by decide) (by decide)
      have a2 : escS linkPs (mailT nm ho en) = mailT nm ho en := mail_esc hM (fun c hc => (nm_facts hc).2.1) (fun c hc => (ho_facts hc).2.2.1) (by decide) (by decide)
      have a3 : escS linkPs [109, 97, 105, 108, 116, 111, 58] = [109, 97, 105, 108, 116, 111, 58] := by decide
      simp only [outL, outI, escS_append, a1, a2, a3, addrOut, List.append_nil]
    rw [eo] at hP
    exact hR w p' q n' c vs RM EM EM (hp'.trans hcs) hS hn' hP h
theorem html_addr {o : Opt} {nm ho en : List UInt8} (hoff : o.auto = false) (hM : Mail nm ho en) : ParsesTo o (addrT nm ho en) (pOpen ++ addrOut nm ho en ++ pClose) := by
  have hlen := addr_len nm ho en
  have n1 := hM.nml; have n2 := hM.hol; have n3 := hM.enl
  obtain ⟨e, m, hT⟩ := addr_noTag hM
  have hno : ∀ c : UInt8, c = 0 ∨ c = 10 ∨ c = 13 → c ∉ addrT nm ho en := by
    intro c hc hm
    simp only [addrT, List.mem_cons, List.mem_append, List.mem_nil_iff, or_false] at hm
    rcases hm with hm | hm | hm
    · subst hm; revert hc; decide
    · rcases mail_mem hm with h | h | h | h | h
      · have := nm_facts (hM.nms _ h); rcases hc with rfl | rfl | rfl
        · exact this.2.2.2.2.2.2.2.2.2.2.2.2.1 rfl
        · exact this.2.2.2.2.2.2.2.2.2.2.2.1 rfl
        · exact this.2.2.2.2.2.2.2.2.2.2.2.2.2.1 rfl
      · subst h; revert hc; decide
      · have := ho_facts (hM.hos _ h); rcases hc with rfl | rfl | rfl
        · exact this.2.2.2.2.2.2.2.1 rfl
        · exact this.2.2.2.2.2.2.1 rfl
        · exact this.2.2.2.2.2.2.2.2 rfl
      · subst h; revert hc; decide
      · have := ho_facts (hM.ens _ h); rcases hc with rfl | rfl | rfl
        · exact this.2.2.2.2.2.2.2.1 rfl
        · exact this.2.2.2.2.2.2.1 rfl
        · exact this.2.2.2.2.2.2.2.2 rfl
    · subst hm; revert hc; decide
  have hst : isST 60 = false := by decide
  have hok : (lnOf (addrT nm ho en)).ok := lnOf_ok (by omega)
  have hplain : (lnOf (addrT nm ho en)).plain := by
    refine plain_firstX (c := 60) (by decide) (by have := hlen; simp [addrT] at this ⊢; omega) (LDecl.of_peek hok (by rw [strip_first hst]; rfl)) ?_
    intro b p ob o M t v hs hb ht
    have hlead : (lnOf (addrT nm ho en)).lead 3 false = lnOf (addrT nm ho en) := lead_first hst false
    refine newHTML_decl (e := e) (m := m) hs hb ht hok ?_ ?_
    · show ((lnOf (addrT nm ho en)).lead 3 false).peek = 60
      rw [hlead]; rfl
    · show NoTag ((lnOf (addrT nm ho en)).lead 3 false).str e m
      rw [hlead]; exact hT
  have hdw : (addrT nm ho en).dropWhile isST = addrT nm ho en := rfl
  have := parses_line (op := o) (raw := addrT nm ho en) (f := ab (addrOut nm ho en)) hplain (by omega) (idx_none (hno 0 (.inl rfl))) (idx_none (hno 10 (.inr (.inl rfl)))) (idx_none (hno 13 (.inr (.inr rfl))))
    (by rw [hdw]; simp [addrT]) (by rw [hdw]; show some (60 : UInt8) ≠ some 91; decide) (by rw [hdw]; exact addr_inline hoff hM)
  exact this
theorem fnAddress_ok {x y z : ByteArray} (h : Sat σ w L) (hR : ∀ w, Sat σ w L → R (.returned (.bool true)) w) : callE P i_laws_FnAddress #[.string x, .string y, .string z] R w := by
  rw [bs_of x, bs_of y, bs_of z]
  generalize x.data.toList = nm
  generalize y.data.toList = ho
  generalize z.data.toList = en
  refine g_laws_FnAddress.sound ?_
  refine br_split (fun _ => hR w h) (fun hsz => ?_)
  simp only [Bool.or_eq_false_iff, decide_eq_false_iff_not, bs_size] at hsz
  obtain ⟨⟨s1, s2⟩, s3⟩ := hsz
  have em : ∀ s : List UInt8, ((bs s).toList == (ByteArray.mk #[]).toList) = s.isEmpty := by intro s; rw [bs_toList, mk_toList]; cases s <;> rfl
  refine only_ok (set := nmSet) (n := 40) (by omega) ⟨_, rfl, ?_⟩
  rw [em]
  refine br_split (fun _ => hR w h) (fun hb1 => ?_)
  refine only_ok (set := hoSet) (n := 40) (by omega) ⟨_, rfl, ?_⟩
  rw [em]
  refine br_split (fun _ => hR w h) (fun hb2 => ?_)
  refine only_ok (set := hoSet) (n := 40) (by omega) ⟨_, rfl, ?_⟩
  rw [em]
  refine br_split (fun _ => hR w h) (fun hb3 => ?_)
  simp only [Bool.or_eq_false_iff, Bool.not_eq_false'] at hb1 hb2 hb3
  have o1 := onlyM_of hb1.1; have o2 := onlyM_of hb2.1; have o3 := onlyM_of hb3.1
  have hM : Mail nm ho en := ⟨by intro h; rw [h] at hb1; simp at hb1, o1.1, o1.2, by intro h; rw [h] at hb2; simp at hb2, o2.1, o2.2, by intro h; rw [h] at hb3; simp at hb3, o3.1, o3.2⟩
  have n1 := hM.nml; have n2 := hM.hol; have n3 := hM.enl
  unfold g_laws_FnAddress.k2
  have hmax : IntKind.i64.max = 9223372036854775807 := rfl
  rw [show ByteArray.mk #[64] = bs [64] from rfl, show ByteArray.mk #[46] = bs [46] from rfl, show ByteArray.mk #[60] = bs [60] from rfl, show ByteArray.mk #[62] = bs [62] from rfl, show ByteArray.mk #[34, 62] = bs [34, 62] from rfl,
    show ByteArray.mk #[60, 112, 62, 60, 97, 32, 104, 114, 101, 102, 61, 34, 109, 97, 105, 108, 116, 111, 58] = bs (pOpen ++ aHref ++ [109, 97, 105, 108, 116, 111, 58]) from rfl, show ByteArray.mk #[60, 47, 97, 62, 60, 47, 112, 62, 10] = bs (aEnd ++ pClose) from rfl]
  simp only [bs_append]
  have e1 : nm ++ [64] ++ ho ++ [46] ++ en = mailT nm ho en := by simp [mailT]
  have e2 : [60] ++ mailT nm ho en ++ [62] = addrT nm ho en := by simp [addrT]
  rw [e1, e2]
  have hml : (mailT nm ho en).length = nm.length + ho.length + en.length + 2 := by simp [mailT]; omega
  have b1 : ∀ s : List UInt8, s.length < 10000 → (((bs s).size : Nat) : Int) ≤ IntKind.i64.max := by intro s hs; rw [hmax, bs_size]; omega
  have b2 : ∀ s t : List UInt8, s.length + t.length < 10000 → (((bs s).size + (bs t).size : Nat) : Int) ≤ IntKind.i64.max := by intro s t hs; rw [hmax, bs_size, bs_size]; omega
  refine ⟨b2 _ _ (by simp; omega), b2 _ _ (by simp; omega), b2 _ _ (by simp; omega), b2 _ _ (by simp; omega), b2 _ _ (by simp; omega), b2 _ _ (by simp; omega), ?_⟩
  have hP := html_addr (o := optOff) rfl hM
  have hl1 : aHref.length = 9 := rfl
  have hl2 : aEnd.length = 4 := rfl
  have hl3 : pOpen.length = 3 := rfl
  have hl4 : pClose.length = 5 := rfl
  have hout : (pOpen ++ addrOut nm ho en ++ pClose).length ≤ 549755813888 := by
    simp only [addrOut, List.length_append, List.length_cons, List.length_nil]; omega
  show callE P i_impl_HTML #[optV optOff, .string (bs (addrT nm ho en))] _ w
  refine html_ok hP hout h fun w h => ⟨_, rfl, ?_⟩
  refine ⟨b2 _ _ (by simp; omega), b2 _ _ (by simp; omega), b2 _ _ (by simp; omega), b2 _ _ (by simp; omega), ?_⟩
  rw [bs_toList, bs_toList]
  have e3 : pOpen ++ addrOut nm ho en ++ pClose = pOpen ++ aHref ++ [109, 97, 105, 108, 116, 111, 58] ++ mailT nm ho en ++ [34, 62] ++ mailT nm ho en ++ (aEnd ++ pClose) := by simp [addrOut]
  rw [e3]
  simpa using hR w h
end Go.Proofs.YtmicoampfglaiaaGreatDoor
