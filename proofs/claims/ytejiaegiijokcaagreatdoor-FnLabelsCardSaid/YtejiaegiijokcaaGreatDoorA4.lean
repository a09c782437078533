/- Part 4 of the proof of the law FnLabels: for every input the law returns true, the inputs read as they did, and memory that was there is as it was; under the conditions of the given row alone. -/
import Derived.Laws.Slices
import Derived.Lib.UnsafeStr
import Derived.Lib.BufferWrite
import Derived.Lib.BufferRead
import Derived.Laws.IdiomStrings
import Derived.Laws.MakeOwn
import Derived.Shelf.Bytes.GrowSlice
import Derived.Laws.Externs
import Derived.Lib.Bytealg
import Derived.Lib.MakeNoZero
import Derived.Lib.Builder
import Derived.Test.YtejiaegiijokcaaGreatDoorA3
set_option linter.all false
set_option linter.unusedVariables false
namespace Go.Proofs.YtejiaegiijokcaaGreatDoor
open Go.Proofs Go.IntWalk
variable {σ : Out} {w : World} {L L' : List Chunk} {R : Ending → World → Prop}

def Ln.strip : Nat → Nat → Ln → Nat × Ln
  | 0, n, l => (n, l)
  | k + 1, n, l => match l.trimSp 1 1 false with
    | none => (n, l)
    | some l' => l'.strip k (n + 1)
def isBullet (c : UInt8) : Bool := c == 45 || c == 42 || c == 43 || (48 ≤ c && c ≤ 57)
theorem beqf {c d : UInt8} {n : Int} (hd : (d.toNat : Int) = n) (h : c ≠ d) : (((c.toNat : Nat) : Int) == n) = false := by
  rw [u8b _ d n hd]; simpa using h
theorem startListItem_no {b : Nat} {q : Option Addr} {l : Ln} (h : Sat σ w (l.at b :: L)) (hl : l.ok) (hp : isBullet (l.strip 3 0).2.peek = false)
    (hR : ∀ w, Sat σ w (l.at b :: L) → R (.returned (.bool false)) w) : callE P i_parseState_startListItem #[.pointer q, .pointer (some ⟨b, 0, none⟩)] R w := by
  refine g_parseState_startListItem.sound ?_
  refine Sat.bx h fun b1 w h => ?_
  repeat (first | refine nilP_some ?_ | refine Sat.tk h fun w h => ?_ | refine ⟨_, Sat.ld h (by first | assumption | (repeat (first | exact .head _ | apply List.Mem.tail))) (by exact rfl), ?_⟩ | refine ⟨_, _, _, Sat.ld h (by first | assumption | (repeat (first | exact .head _ | apply List.Mem.tail))) (by exact rfl), ?_⟩ | refine Sat.st h (k := 0) rfl (Nat.le_of_ble_eq_true rfl) trivial (by first | (dsimp only [List.set]; exact rfl) | exact rfl) fun w h => ?_ | refine Sat.st h (k := 1) rfl (Nat.le_of_ble_eq_true rfl) trivial (by first | (dsimp only [List.set]; exact rfl) | exact rfl) fun w h => ?_ | refine Sat.st h (k := 2) rfl (Nat.le_of_ble_eq_true rfl) trivial (by first | (dsimp only [List.set]; exact rfl) | exact rfl) fun w h => ?_ | refine Sat.st h (k := 3) rfl (Nat.le_of_ble_eq_true rfl) trivial (by first | (dsimp only [List.set]; exact rfl) | exact rfl) fun w h => ?_ | refine Sat.st h (k := 4) rfl (Nat.le_of_ble_eq_true rfl) trivial (by first | (dsimp only [List.set]; exact rfl) | exact rfl) fun w h => ?_ | refine Sat.st h (k := 5) rfl (Nat.le_of_ble_eq_true rfl) trivial (by first | (dsimp only [List.set]; exact rfl) | exact rfl) fun w h => ?_ | refine Sat.st h (k := 6) rfl (Nat.le_of_ble_eq_true rfl) trivial (by first | (dsimp only [List.set]; exact rfl) | exact rfl) fun w h => ?_ | refine Sat.bx h fun b0 w h => ?_)
  have h : Sat σ _ (l.at b0 :: (b1, cel [.pointer q] ty_P_parseState) :: l.at b :: L) := h
  have fin : ∀ (n : Nat) (t : Ln) w, t.ok → isBullet t.peek = false → Sat σ w (t.at b0 :: (b1, cel [.pointer q] ty_P_parseState) :: l.at b :: L) → g_parseState_startListItem.k1 R b1 b0 n w := by
    intro n t w ht hp h
    refine peek_ok h (by first | assumption | (repeat (first | exact .head _ | apply List.Mem.tail))) ht fun w h => ⟨_, rfl, ?_⟩
    generalize t.peek = c at *
    simp only [isBullet, Bool.or_eq_false_iff, beq_eq_false_iff_ne, Bool.and_eq_false_iff, decide_eq_false_iff_not] at hp
    obtain ⟨⟨⟨h1, h2⟩, h3⟩, h4⟩ := hp
    have hd : ∀ d : UInt8, 48 ≤ d → d ≤ 57 → c ≠ d := by
      intro d hd1 hd2 hc
      subst hc
      rcases h4 with h4 | h4
      · exact h4 hd1
      · exact h4 hd2
    have h43 := beqf (n := 43) rfl h3
    have h57 := beqf (n := 57) rfl (hd 57 (by decide) (by decide))
    refine br_false (beqf (d := 45) rfl h1) (br_false (beqf (d := 42) rfl h2) ?_)
    rw [h43]
    refine br_false rfl ?_
    refine br_false (beqf (d := 48) rfl (hd _ (by decide) (by decide))) ?_
    refine br_false (beqf (d := 49) rfl (hd _ (by decide) (by decide))) ?_
    refine br_false (beqf (d := 50) rfl (hd _ (by decide) (by decide))) ?_
    refine br_false (beqf (d := 51) rfl (hd _ (by decide) (by decide))) ?_
    refine br_false (beqf (d := 52) rfl (hd _ (by decide) (by decide))) ?_
    refine br_false (beqf (d := 53) rfl (hd _ (by decide) (by decide))) ?_
    refine br_false (beqf (d := 54) rfl (hd _ (by decide) (by decide))) ?_
    refine br_false (beqf (d := 55) rfl (hd _ (by decide) (by decide))) ?_
    refine br_false (beqf (d := 56) rfl (hd _ (by decide) (by decide))) ?_
    rw [h57]
    exact br_false rfl (hR _ h.tail.tail)
  intro X hX
  have loop : ∀ k n (t : Ln) w, t.ok → k + n = 3 → isBullet (t.strip k n).2.peek = false → Sat σ w (t.at b0 :: (b1, cel [.pointer q] ty_P_parseState) :: l.at b :: L) → X b1 b0 n n w := by
    intro k n t w ht hk hp h
    induction k generalizing n t w with
    | zero => exact hX _ _ _ _ _ (br_false (by simp; omega) (fin n t w ht hp h))
    | succ k ih =>
      refine hX _ _ _ _ _ (br_true (by simp; omega) ?_)
      refine YtejiaegiijokcaaGreatDoor.trimSp_ok (min := 1) (max := 1) h ht (by decide) (by decide) ?_
      simp only [Ln.strip] at hp
      cases hs : t.trimSp 1 1 false with
      | none =>
        rw [hs] at hp
        exact fun w h => ⟨_, rfl, br_true rfl (fin n t w ht hp h)⟩
      | some t' =>
        rw [hs] at hp
        intro w h
        refine ⟨_, rfl, br_false rfl ?_⟩
        rw [i64_inc (by omega)]
        exact ih (n + 1) t' w (Ln.trimSp_ok ht hs) (by omega) hp h
  exact loop 3 0 l _ hl rfl hp h
end Go.Proofs.YtejiaegiijokcaaGreatDoor


set_option linter.unusedVariables false
namespace Go.Proofs.YtejiaegiijokcaaGreatDoor
open Go.Proofs Go.IntWalk
variable {σ : Out} {w : World} {L L' : List Chunk} {R : Ending → World → Prop}

abbrev zLn (b : Nat) : Chunk := (b, cel [.int .i64 0, .int .i64 0, .int .i64 0, .string (bs []), .int .u8 0] ty_line)
theorem curB_ok {b d : Nat} {p : PS} {l : List OB} {M : List Chunk} (h : Sat σ w (p.at b :: M ++ L)) (hs : Stk p l M) (hd : p.depth = d)
    (hR : ∀ w, Sat σ w (p.at b :: M ++ L) → R (.returned (match l[d]? with | some o => o.bd | none => .nilIface)) w) :
    callE P i_parseState_curB #[.pointer (some ⟨b, 0, none⟩)] R w := by
  have hn := hs.2.1
  have hlt := hs.2.2
  refine g_parseState_curB.sound ?_
  repeat (first | refine nilP_some ?_ | refine Sat.tk h fun w h => ?_ | refine ⟨_, Sat.ld h (by first | assumption | (repeat (first | exact .head _ | apply List.Mem.tail))) (by exact rfl), ?_⟩ | refine ⟨_, _, _, Sat.ld h (by first | assumption | (repeat (first | exact .head _ | apply List.Mem.tail))) (by exact rfl), ?_⟩)
  rw [hn, hd]
  by_cases hdl : d < l.length
  · obtain ⟨sb, sp, hq, rfl, hsp⟩ := hs.split (by intro h; subst h; simp at hdl)
    refine br_true (by simpa using hdl) ?_
    repeat (first | refine nilP_some ?_ | refine Sat.tk h fun w h => ?_ | refine ⟨_, Sat.ld h (by first | assumption | (repeat (first | exact .head _ | apply List.Mem.tail))) (by exact rfl), ?_⟩ | refine ⟨_, _, _, Sat.ld h (by first | assumption | (repeat (first | exact .head _ | apply List.Mem.tail))) (by exact rfl), ?_⟩)
    rw [hn, hd]
    refine ⟨by omega, by omega, ?_⟩
    rw [hq]
    refine nilP_some ?_
    simp only [Addr.add_lit, Nat.zero_add, Int.toNat_natCast]
    refine ⟨l[d].bd, Sat.ld h (by first | assumption | (repeat (first | exact .head _ | apply List.Mem.tail))) (stk_get (f := 0) (by decide) (List.getElem?_eq_getElem hdl)), ?_⟩
    have := hR _ h
    rw [List.getElem?_eq_getElem hdl] at this
    exact this
  · have := hR _ h
    rw [List.getElem?_eq_none (by omega)] at this
    exact br_false (by simpa using hdl) this
theorem nextB_ok {b d : Nat} {p : PS} {l : List OB} {M : List Chunk} (h : Sat σ w (p.at b :: M ++ L)) (hs : Stk p l M) (hd : p.depth = d) (hdb : d < 1048577)
    (hR : ∀ w, Sat σ w (p.at b :: M ++ L) → R (.returned (match l[d + 1]? with | some o => o.bd | none => .nilIface)) w) :
    callE P i_parseState_nextB #[.pointer (some ⟨b, 0, none⟩)] R w := by
  have hn := hs.2.1
  have hlt := hs.2.2
  refine g_parseState_nextB.sound ?_
  repeat (first | refine nilP_some ?_ | refine Sat.tk h fun w h => ?_ | refine ⟨_, Sat.ld h (by first | assumption | (repeat (first | exact .head _ | apply List.Mem.tail))) (by exact rfl), ?_⟩ | refine ⟨_, _, _, Sat.ld h (by first | assumption | (repeat (first | exact .head _ | apply List.Mem.tail))) (by exact rfl), ?_⟩)
  rw [hn, hd, i64_inc (by omega)]
  by_cases hdl : d + 1 < l.length
  · obtain ⟨sb, sp, hq, rfl, hsp⟩ := hs.split (by intro h; subst h; simp at hdl)
    refine br_true (by simp; omega) ?_
    repeat (first | refine nilP_some ?_ | refine Sat.tk h fun w h => ?_ | refine ⟨_, Sat.ld h (by first | assumption | (repeat (first | exact .head _ | apply List.Mem.tail))) (by exact rfl), ?_⟩ | refine ⟨_, _, _, Sat.ld h (by first | assumption | (repeat (first | exact .head _ | apply List.Mem.tail))) (by exact rfl), ?_⟩)
    rw [hn, hd, i64_inc (by omega)]
    refine ⟨by omega, by omega, ?_⟩
    rw [hq]
    refine nilP_some ?_
    simp only [Addr.add_lit, Nat.zero_add, Int.toNat_natCast]
    refine ⟨l[d + 1].bd, Sat.ld h (by first | assumption | (repeat (first | exact .head _ | apply List.Mem.tail))) (stk_get (f := 0) (by decide) (List.getElem?_eq_getElem hdl)), ?_⟩
    have := hR _ h
    rw [List.getElem?_eq_getElem hdl] at this
    exact this
  · have := hR _ h
    rw [List.getElem?_eq_none (by omega)] at this
    exact br_false (by simp; omega) this

theorem ta_listBuilder_no {v : Value} {t : TypeId} (ht : t ≠ ty_P_listBuilder) (w : World) :
    (Instr.typeAssert (.iface t v) ty_blockBuilder ty_P_listBuilder true).run P w = .ok (.tuple #[.pointer none, .bool false]) w := by
  have hund : P.underlying ty_P_listBuilder = some (.pointer ty_listBuilder) := by kernel_rfl
  exact ta_no (by rw [hund]; intro ms h; cases h) hund ht (i := (P.info? ty_P_listBuilder).getD default) (by kernel_rfl) (by kernel_rfl) w
theorem newListItem_no {b d : Nat} {p : PS} {ob : List OB} {o : OB} {M : List Chunk} {t : TypeId} {v : Value} {l : Ln} (h : Sat σ w (p.at b :: M ++ L)) (hs : Stk p ob M) (hd : p.depth = d)
    (ho : ob[d]? = some o) (hb : o.bd = .iface t v) (ht : t ≠ ty_P_listBuilder) (hl : l.ok) (hp : isBullet (l.strip 3 0).2.peek = false)
    (hR : ∀ w, Sat σ w (p.at b :: M ++ L) → R (.returned (.tuple #[l.val, .bool false])) w) : callE P i_newListItem #[.pointer (some ⟨b, 0, none⟩), l.val] R w := by
  refine g_newListItem.sound ?_
  refine Sat.bx h fun b1 w h => ?_
  refine Sat.bx h fun b3 w h => ?_
  have h : Sat σ w (zLn b3 :: l.at b1 :: (p.at b :: M ++ L)) := h
  have h : Sat σ w (p.at b :: M ++ (zLn b3 :: l.at b1 :: L)) := h.re (by intro _; simp only [List.append_eq, cnt_append, cnt_cons, cnt_nil] <;> omega)
  refine curB_ok h hs hd fun w h => ?_
  rw [ho]
  dsimp only
  refine ⟨_, rfl, none, false, w, by rw [hb]; exact ta_listBuilder_no ht w, br_false rfl (br_false rfl ?_)⟩
  have h : Sat σ w (l.at b1 :: zLn b3 :: p.at b :: M ++ L) := h.re (by intro _; simp only [List.append_eq, cnt_append, cnt_cons, cnt_nil] <;> omega)
  refine startListItem_no h hl hp fun w h => ⟨_, rfl, br_false rfl ?_⟩
  repeat (first | refine nilP_some ?_ | refine Sat.tk h fun w h => ?_ | refine ⟨_, Sat.ld h (by first | assumption | (repeat (first | exact .head _ | apply List.Mem.tail))) (by exact rfl), ?_⟩ | refine ⟨_, _, _, Sat.ld h (by first | assumption | (repeat (first | exact .head _ | apply List.Mem.tail))) (by exact rfl), ?_⟩ | refine Sat.st h (k := 0) rfl (Nat.le_of_ble_eq_true rfl) trivial (by first | (dsimp only [List.set]; exact rfl) | exact rfl) fun w h => ?_ | refine Sat.st h (k := 1) rfl (Nat.le_of_ble_eq_true rfl) trivial (by first | (dsimp only [List.set]; exact rfl) | exact rfl) fun w h => ?_ | refine Sat.st h (k := 2) rfl (Nat.le_of_ble_eq_true rfl) trivial (by first | (dsimp only [List.set]; exact rfl) | exact rfl) fun w h => ?_ | refine Sat.st h (k := 3) rfl (Nat.le_of_ble_eq_true rfl) trivial (by first | (dsimp only [List.set]; exact rfl) | exact rfl) fun w h => ?_ | refine Sat.st h (k := 4) rfl (Nat.le_of_ble_eq_true rfl) trivial (by first | (dsimp only [List.set]; exact rfl) | exact rfl) fun w h => ?_ | refine Sat.st h (k := 5) rfl (Nat.le_of_ble_eq_true rfl) trivial (by first | (dsimp only [List.set]; exact rfl) | exact rfl) fun w h => ?_ | refine Sat.st h (k := 6) rfl (Nat.le_of_ble_eq_true rfl) trivial (by first | (dsimp only [List.set]; exact rfl) | exact rfl) fun w h => ?_ | refine Sat.bx h fun b0 w h => ?_)
  exact hR _ h.tail.tail
end Go.Proofs.YtejiaegiijokcaaGreatDoor


set_option linter.unusedVariables false
namespace Go.Proofs.YtejiaegiijokcaaGreatDoor
open Go.Proofs Go.IntWalk
variable {σ : Out} {w : World} {L L' : List Chunk} {R : Ending → World → Prop}

theorem equalIn_nil_iface {t u : TypeId} {v : Value} {ms : Array (String × TypeId)} (hu : P.underlying t = some (.interface ms)) (d : Nat) (w : World) :
    (Op.equalIn (d + 1) t .nilIface (.iface u v)).run P w = .ok false w := by
  simp [Op.equalIn, run_underlying hu]
theorem equalIn_ptr_nil {t e : TypeId} (hu : P.underlying t = some (.pointer e)) (q : Option Addr) (d : Nat) (w : World) :
    (Op.equalIn (d + 1) t (.pointer q) (.pointer none)).run P w = .ok q.isNone w := by
  cases q <;> simp [Op.equalIn, run_underlying hu]
theorem bin_eq {t : TypeId} {a b : Value} {r : Bool} {w : World} {x y : Operand} (h1 : (eqGuard .eql t x y a b).run P w = .ok () w) (h2 : binOp .eql t a b = (do pure (.bool (← Op.equal t a b))))
    (h : (Op.equal t a b).run P w = .ok r w) : (do eqGuard .eql t x y a b; binOp .eql t a b).run P w = .ok (.bool r) w := by
  rw [h2]
  simp only [Sem.run_bind, h1, h, Result.andThen_ok]
  rfl
theorem eq_nil_iface {t u : TypeId} {v : Value} {ms : Array (String × TypeId)} (hu : P.underlying t = some (.interface ms)) (x y : Operand) (w : World) :
    (do eqGuard .eql t x y .nilIface (.iface u v); binOp .eql t .nilIface (.iface u v)).run P w = .ok (.bool false) w :=
  bin_eq rfl rfl (equalIn_nil_iface hu 9999 w)
theorem eq_ptr_nil {t e : TypeId} (hu : P.underlying t = some (.pointer e)) (q : Option Addr) (x y : Operand) (w : World) :
    (do eqGuard .eql t x y (.pointer q) (.pointer none); binOp .eql t (.pointer q) (.pointer none)).run P w = .ok (.bool q.isNone) w :=
  bin_eq rfl rfl (equalIn_ptr_nil hu q 9999 w)
theorem und_bb : P.underlying ty_blockBuilder = some (.interface ((match P.underlying ty_blockBuilder with | some (.interface ms) => ms | _ => #[]))) := by kernel_rfl
theorem und_para : P.underlying ty_P_paraBuilder = some (.pointer ty_paraBuilder) := by kernel_rfl

theorem newSetext_no {b d : Nat} {p : PS} {ob : List OB} {o : OB} {M : List Chunk} {t : TypeId} {v : Value} {l : Ln} (h : Sat σ w (p.at b :: M ++ L)) (hs : Stk p (ob ++ [o]) M) (hd : p.depth = d)
    (hlen : ob.length = d) (hb : o.bd = .iface t v) (ht : t ≠ ty_P_paraBuilder) (hl : l.ok)
    (hR : ∀ w, Sat σ w (p.at b :: M ++ L) → R (.returned (.tuple #[l.val, .bool false])) w) : callE P i_newSetextHeading #[.pointer (some ⟨b, 0, none⟩), l.val] R w := by
  have hlt := hs.2.2
  rw [List.length_append, List.length_singleton] at hlt
  refine g_newSetextHeading.sound ?_
  refine Sat.bx h fun b1 w h => ?_
  refine Sat.bx h fun b3 w h => ?_
  refine Sat.bx h fun b5 w h => ?_
  repeat (first | refine nilP_some ?_ | refine Sat.tk h fun w h => ?_ | refine ⟨_, Sat.ld h (by first | assumption | (repeat (first | exact .head _ | apply List.Mem.tail))) (by exact rfl), ?_⟩ | refine ⟨_, _, _, Sat.ld h (by first | assumption | (repeat (first | exact .head _ | apply List.Mem.tail))) (by exact rfl), ?_⟩ | refine Sat.st h (k := 0) rfl (Nat.le_of_ble_eq_true rfl) trivial (by first | (dsimp only [List.set]; exact rfl) | exact rfl) fun w h => ?_ | refine Sat.st h (k := 1) rfl (Nat.le_of_ble_eq_true rfl) trivial (by first | (dsimp only [List.set]; exact rfl) | exact rfl) fun w h => ?_ | refine Sat.st h (k := 2) rfl (Nat.le_of_ble_eq_true rfl) trivial (by first | (dsimp only [List.set]; exact rfl) | exact rfl) fun w h => ?_ | refine Sat.st h (k := 3) rfl (Nat.le_of_ble_eq_true rfl) trivial (by first | (dsimp only [List.set]; exact rfl) | exact rfl) fun w h => ?_ | refine Sat.st h (k := 4) rfl (Nat.le_of_ble_eq_true rfl) trivial (by first | (dsimp only [List.set]; exact rfl) | exact rfl) fun w h => ?_ | refine Sat.st h (k := 5) rfl (Nat.le_of_ble_eq_true rfl) trivial (by first | (dsimp only [List.set]; exact rfl) | exact rfl) fun w h => ?_ | refine Sat.st h (k := 6) rfl (Nat.le_of_ble_eq_true rfl) trivial (by first | (dsimp only [List.set]; exact rfl) | exact rfl) fun w h => ?_ | refine Sat.bx h fun b0 w h => ?_)
  have h : Sat σ _ (l.at b0 :: (b5, cel [.int .i64 0] ty_int) :: zLn b3 :: l.at b1 :: (p.at b :: M ++ L)) := h
  have h : Sat σ _ (p.at b :: M ++ (l.at b0 :: (b5, cel [.int .i64 0] ty_int) :: zLn b3 :: l.at b1 :: L)) := h.re (by intro _; simp only [List.append_eq, cnt_append, cnt_cons, cnt_nil] <;> omega)
  refine nextB_ok h hs hd (by omega) fun w h => ?_
  rw [List.getElem?_eq_none (by simp; omega)]
  refine ⟨_, rfl, ?_⟩
  refine top_ok h hs hb (fun w h => ?_) (fun hc => absurd hc ht)
  rw [if_neg ht]
  refine ⟨_, rfl, false, w, eq_nil_iface und_bb _ _ w, br_false rfl ?_⟩
  have h : Sat σ _ (zLn b3 :: l.at b1 :: (b5, cel [.int .i64 0] ty_int) :: l.at b0 :: (p.at b :: M ++ L)) := h.re (by intro _; simp only [List.append_eq, cnt_append, cnt_cons, cnt_nil] <;> omega)
  refine br_false rfl ?_
  repeat (first | refine nilP_some ?_ | refine Sat.tk h fun w h => ?_ | refine ⟨_, Sat.ld h (by first | assumption | (repeat (first | exact .head _ | apply List.Mem.tail))) (by exact rfl), ?_⟩ | refine ⟨_, _, _, Sat.ld h (by first | assumption | (repeat (first | exact .head _ | apply List.Mem.tail))) (by exact rfl), ?_⟩ | refine Sat.st h (k := 0) rfl (Nat.le_of_ble_eq_true rfl) trivial (by first | (dsimp only [List.set]; exact rfl) | exact rfl) fun w h => ?_ | refine Sat.st h (k := 1) rfl (Nat.le_of_ble_eq_true rfl) trivial (by first | (dsimp only [List.set]; exact rfl) | exact rfl) fun w h => ?_ | refine Sat.st h (k := 2) rfl (Nat.le_of_ble_eq_true rfl) trivial (by first | (dsimp only [List.set]; exact rfl) | exact rfl) fun w h => ?_ | refine Sat.st h (k := 3) rfl (Nat.le_of_ble_eq_true rfl) trivial (by first | (dsimp only [List.set]; exact rfl) | exact rfl) fun w h => ?_ | refine Sat.st h (k := 4) rfl (Nat.le_of_ble_eq_true rfl) trivial (by first | (dsimp only [List.set]; exact rfl) | exact rfl) fun w h => ?_ | refine Sat.st h (k := 5) rfl (Nat.le_of_ble_eq_true rfl) trivial (by first | (dsimp only [List.set]; exact rfl) | exact rfl) fun w h => ?_ | refine Sat.st h (k := 6) rfl (Nat.le_of_ble_eq_true rfl) trivial (by first | (dsimp only [List.set]; exact rfl) | exact rfl) fun w h => ?_ | refine Sat.bx h fun b0 w h => ?_)
  have h : Sat σ _ (l.at b3 :: l.at b1 :: (b5, cel [.int .i64 0] ty_int) :: l.at b0 :: (p.at b :: M ++ L)) := h
  exact hR _ h.tail.tail.tail.tail
end Go.Proofs.YtejiaegiijokcaaGreatDoor


set_option linter.unusedVariables false
namespace Go.Proofs.YtejiaegiijokcaaGreatDoor
open Go.Proofs Go.IntWalk
variable {σ : Out} {w : World} {L L' : List Chunk} {R : Ending → World → Prop}

theorem trimFence_no {b nb : Nat} {q1 q2 : Option Addr} {l : Ln} {v : Int} {e : TypeId} (h : Sat σ w (l.at b :: (nb, cel [.int .i64 v] e) :: L)) (hl : l.ok)
    (hp : (l.strip 3 0).2.peek ≠ 96 ∧ (l.strip 3 0).2.peek ≠ 126)
    (hR : ∀ w v, Sat σ w (l.at b :: (nb, cel [.int .i64 v] e) :: L) → R (.returned (.bool false)) w) :
    callE P i_line_trimFence #[.pointer (some ⟨b, 0, none⟩), .pointer q1, .pointer q2, .pointer (some ⟨nb, 0, none⟩)] R w := by
  refine g_line_trimFence.sound ?_
  repeat (first | refine nilP_some ?_ | refine Sat.tk h fun w h => ?_ | refine ⟨_, Sat.ld h (by first | assumption | (repeat (first | exact .head _ | apply List.Mem.tail))) (by exact rfl), ?_⟩ | refine ⟨_, _, _, Sat.ld h (by first | assumption | (repeat (first | exact .head _ | apply List.Mem.tail))) (by exact rfl), ?_⟩ | refine Sat.st h (k := 0) rfl (Nat.le_of_ble_eq_true rfl) trivial (by first | (dsimp only [List.set]; exact rfl) | exact rfl) fun w h => ?_ | refine Sat.st h (k := 1) rfl (Nat.le_of_ble_eq_true rfl) trivial (by first | (dsimp only [List.set]; exact rfl) | exact rfl) fun w h => ?_ | refine Sat.st h (k := 2) rfl (Nat.le_of_ble_eq_true rfl) trivial (by first | (dsimp only [List.set]; exact rfl) | exact rfl) fun w h => ?_ | refine Sat.st h (k := 3) rfl (Nat.le_of_ble_eq_true rfl) trivial (by first | (dsimp only [List.set]; exact rfl) | exact rfl) fun w h => ?_ | refine Sat.st h (k := 4) rfl (Nat.le_of_ble_eq_true rfl) trivial (by first | (dsimp only [List.set]; exact rfl) | exact rfl) fun w h => ?_ | refine Sat.st h (k := 5) rfl (Nat.le_of_ble_eq_true rfl) trivial (by first | (dsimp only [List.set]; exact rfl) | exact rfl) fun w h => ?_ | refine Sat.st h (k := 6) rfl (Nat.le_of_ble_eq_true rfl) trivial (by first | (dsimp only [List.set]; exact rfl) | exact rfl) fun w h => ?_ | refine Sat.bx h fun b0 w h => ?_)
  have h : Sat σ _ (l.at b0 :: l.at b :: (nb, cel [.int .i64 0] e) :: L) := h
  have fin : ∀ (n : Nat) (t : Ln) w, t.ok → t.peek ≠ 96 ∧ t.peek ≠ 126 → Sat σ w (t.at b0 :: l.at b :: (nb, cel [.int .i64 n] e) :: L) → g_line_trimFence.k2 R (some ⟨b, 0, none⟩) q1 q2 b0 w := by
    intro n t w ht hp h
    refine peek_ok h (by first | assumption | (repeat (first | exact .head _ | apply List.Mem.tail))) ht fun w h => ⟨_, rfl, ?_⟩
    rw [beqf (d := 126) (n := 126) rfl hp.2]
    exact br_false (beqf (d := 96) rfl hp.1) (br_false rfl (hR _ _ h.tail))
  intro X hX
  have loop : ∀ k n (t : Ln) w, t.ok → k + n = 3 → (t.strip k n).2.peek ≠ 96 ∧ (t.strip k n).2.peek ≠ 126 → Sat σ w (t.at b0 :: l.at b :: (nb, cel [.int .i64 n] e) :: L) →
      X (some ⟨b, 0, none⟩) q1 q2 (some ⟨nb, 0, none⟩) b0 w := by
    intro k n t w ht hk hp h
    induction k generalizing n t w with
    | zero =>
      refine hX _ _ _ _ _ _ ?_
      repeat (first | refine nilP_some ?_ | refine Sat.tk h fun w h => ?_ | refine ⟨_, Sat.ld h (by first | assumption | (repeat (first | exact .head _ | apply List.Mem.tail))) (by exact rfl), ?_⟩ | refine ⟨_, _, _, Sat.ld h (by first | assumption | (repeat (first | exact .head _ | apply List.Mem.tail))) (by exact rfl), ?_⟩)
      exact br_false (by simp; omega) (fin n t w ht hp h)
    | succ k ih =>
      refine hX _ _ _ _ _ _ ?_
      repeat (first | refine nilP_some ?_ | refine Sat.tk h fun w h => ?_ | refine ⟨_, Sat.ld h (by first | assumption | (repeat (first | exact .head _ | apply List.Mem.tail))) (by exact rfl), ?_⟩ | refine ⟨_, _, _, Sat.ld h (by first | assumption | (repeat (first | exact .head _ | apply List.Mem.tail))) (by exact rfl), ?_⟩)
      refine br_true (by simp; omega) ?_
      refine YtejiaegiijokcaaGreatDoor.trimSp_ok (min := 1) (max := 1) h ht (by decide) (by decide) ?_
      simp only [Ln.strip] at hp
      cases hs : t.trimSp 1 1 false with
      | none =>
        rw [hs] at hp
        exact fun w h => ⟨_, rfl, br_false rfl (fin n t w ht hp h)⟩
      | some t' =>
        rw [hs] at hp
        intro w h
        refine ⟨_, rfl, br_true rfl ?_⟩
        repeat (first | refine nilP_some ?_ | refine Sat.tk h fun w h => ?_ | refine ⟨_, Sat.ld h (by first | assumption | (repeat (first | exact .head _ | apply List.Mem.tail))) (by exact rfl), ?_⟩ | refine ⟨_, _, _, Sat.ld h (by first | assumption | (repeat (first | exact .head _ | apply List.Mem.tail))) (by exact rfl), ?_⟩ | refine Sat.st h (k := 0) rfl (Nat.le_of_ble_eq_true rfl) trivial (by first | (dsimp only [List.set]; exact rfl) | exact rfl) fun w h => ?_ | refine Sat.st h (k := 1) rfl (Nat.le_of_ble_eq_true rfl) trivial (by first | (dsimp only [List.set]; exact rfl) | exact rfl) fun w h => ?_ | refine Sat.st h (k := 2) rfl (Nat.le_of_ble_eq_true rfl) trivial (by first | (dsimp only [List.set]; exact rfl) | exact rfl) fun w h => ?_ | refine Sat.st h (k := 3) rfl (Nat.le_of_ble_eq_true rfl) trivial (by first | (dsimp only [List.set]; exact rfl) | exact rfl) fun w h => ?_ | refine Sat.st h (k := 4) rfl (Nat.le_of_ble_eq_true rfl) trivial (by first | (dsimp only [List.set]; exact rfl) | exact rfl) fun w h => ?_ | refine Sat.st h (k := 5) rfl (Nat.le_of_ble_eq_true rfl) trivial (by first | (dsimp only [List.set]; exact rfl) | exact rfl) fun w h => ?_ | refine Sat.st h (k := 6) rfl (Nat.le_of_ble_eq_true rfl) trivial (by first | (dsimp only [List.set]; exact rfl) | exact rfl) fun w h => ?_ | refine Sat.bx h fun b0 w h => ?_)
        rw [i64_inc (by omega)] at h
        exact ih (n + 1) t' _ (Ln.trimSp_ok ht hs) (by omega) hp h
  exact loop 3 0 l _ hl rfl hp h
theorem newFence_no {q : Option Addr} {l : Ln} (h : Sat σ w L) (hl : l.ok) (hp : (l.strip 3 0).2.peek ≠ 96 ∧ (l.strip 3 0).2.peek ≠ 126)
    (hR : ∀ w, Sat σ w L → R (.returned (.tuple #[l.val, .bool false])) w) : callE P i_newFence #[.pointer q, l.val] R w := by
  refine g_newFence.sound ?_
  refine Sat.bx h fun b1 w h => ?_
  refine Sat.bx h fun b3 w h => ?_
  refine Sat.bx h fun b5 w h => ?_
  refine Sat.bx h fun b7 w h => ?_
  refine Sat.bx h fun b9 w h => ?_
  repeat (first | refine nilP_some ?_ | refine Sat.tk h fun w h => ?_ | refine ⟨_, Sat.ld h (by first | assumption | (repeat (first | exact .head _ | apply List.Mem.tail))) (by exact rfl), ?_⟩ | refine ⟨_, _, _, Sat.ld h (by first | assumption | (repeat (first | exact .head _ | apply List.Mem.tail))) (by exact rfl), ?_⟩ | refine Sat.st h (k := 0) rfl (Nat.le_of_ble_eq_true rfl) trivial (by first | (dsimp only [List.set]; exact rfl) | exact rfl) fun w h => ?_ | refine Sat.st h (k := 1) rfl (Nat.le_of_ble_eq_true rfl) trivial (by first | (dsimp only [List.set]; exact rfl) | exact rfl) fun w h => ?_ | refine Sat.st h (k := 2) rfl (Nat.le_of_ble_eq_true rfl) trivial (by first | (dsimp only [List.set]; exact rfl) | exact rfl) fun w h => ?_ | refine Sat.st h (k := 3) rfl (Nat.le_of_ble_eq_true rfl) trivial (by first | (dsimp only [List.set]; exact rfl) | exact rfl) fun w h => ?_ | refine Sat.st h (k := 4) rfl (Nat.le_of_ble_eq_true rfl) trivial (by first | (dsimp only [List.set]; exact rfl) | exact rfl) fun w h => ?_ | refine Sat.st h (k := 5) rfl (Nat.le_of_ble_eq_true rfl) trivial (by first | (dsimp only [List.set]; exact rfl) | exact rfl) fun w h => ?_ | refine Sat.st h (k := 6) rfl (Nat.le_of_ble_eq_true rfl) trivial (by first | (dsimp only [List.set]; exact rfl) | exact rfl) fun w h => ?_ | refine Sat.bx h fun b0 w h => ?_)
  have h : Sat σ _ (l.at b0 :: (b9, cel [.int .i64 0] ty_int) :: (b7, cel [.string (bs [])] ty_string) :: (b5, cel [.string (bs [])] ty_string) :: zLn b3 :: l.at b1 :: L) := h
  refine trimFence_no h hl hp fun w v h => ⟨_, rfl, ?_⟩
  refine br_false rfl ?_
  repeat (first | refine nilP_some ?_ | refine Sat.tk h fun w h => ?_ | refine ⟨_, Sat.ld h (by first | assumption | (repeat (first | exact .head _ | apply List.Mem.tail))) (by exact rfl), ?_⟩ | refine ⟨_, _, _, Sat.ld h (by first | assumption | (repeat (first | exact .head _ | apply List.Mem.tail))) (by exact rfl), ?_⟩ | refine Sat.st h (k := 0) rfl (Nat.le_of_ble_eq_true rfl) trivial (by first | (dsimp only [List.set]; exact rfl) | exact rfl) fun w h => ?_ | refine Sat.st h (k := 1) rfl (Nat.le_of_ble_eq_true rfl) trivial (by first | (dsimp only [List.set]; exact rfl) | exact rfl) fun w h => ?_ | refine Sat.st h (k := 2) rfl (Nat.le_of_ble_eq_true rfl) trivial (by first | (dsimp only [List.set]; exact rfl) | exact rfl) fun w h => ?_ | refine Sat.st h (k := 3) rfl (Nat.le_of_ble_eq_true rfl) trivial (by first | (dsimp only [List.set]; exact rfl) | exact rfl) fun w h => ?_ | refine Sat.st h (k := 4) rfl (Nat.le_of_ble_eq_true rfl) trivial (by first | (dsimp only [List.set]; exact rfl) | exact rfl) fun w h => ?_ | refine Sat.st h (k := 5) rfl (Nat.le_of_ble_eq_true rfl) trivial (by first | (dsimp only [List.set]; exact rfl) | exact rfl) fun w h => ?_ | refine Sat.st h (k := 6) rfl (Nat.le_of_ble_eq_true rfl) trivial (by first | (dsimp only [List.set]; exact rfl) | exact rfl) fun w h => ?_ | refine Sat.bx h fun b0 w h => ?_)
  exact hR _ h.tail.tail.tail.tail.tail.tail
end Go.Proofs.YtejiaegiijokcaaGreatDoor


set_option linter.unusedVariables false
namespace Go.Proofs.YtejiaegiijokcaaGreatDoor
open Go.Proofs Go.IntWalk
variable {σ : Out} {w : World} {L L' : List Chunk} {R : Ending → World → Prop}

theorem bin_ne {t : TypeId} {a b : Value} {r : Bool} {w : World} {x y : Operand} (h1 : (eqGuard .neq t x y a b).run P w = .ok () w) (h2 : binOp .neq t a b = (do pure (.bool (!(← Op.equal t a b)))))
    (h : (Op.equal t a b).run P w = .ok r w) : (do eqGuard .neq t x y a b; binOp .neq t a b).run P w = .ok (.bool (!r)) w := by
  rw [h2]
  simp only [Sem.run_bind, h1, h, Result.andThen_ok]
  rfl
theorem ne_ptr_nil {t e : TypeId} (hu : P.underlying t = some (.pointer e)) (q : Option Addr) (x y : Operand) (w : World) :
    (do eqGuard .neq t x y (.pointer q) (.pointer none); binOp .neq t (.pointer q) (.pointer none)).run P w = .ok (.bool (!q.isNone)) w :=
  bin_ne rfl rfl (equalIn_ptr_nil hu q 9999 w)

structure Opt where
  ids : Bool
  strike : Bool
  task : Bool
  auto : Bool
  http : Bool
  table : Bool
  emoji : Bool
  dot : Bool
  dash : Bool
  quote : Bool
def Opt.cells (o : Opt) : List Value := [.bool o.ids, .bool o.strike, .bool o.task, .bool o.auto, .bool o.http, .bool o.table, .bool o.emoji, .bool o.dot, .bool o.dash, .bool o.quote]
abbrev Opt.at (b : Nat) (o : Opt) : Chunk := (b, cel o.cells ty_Parser)

theorem newPre_no {b : Nat} {p : PS} {ob : List OB} {o : OB} {M : List Chunk} {t : TypeId} {v : Value} {l : Ln} (h : Sat σ w (p.at b :: M ++ L)) (hs : Stk p (ob ++ [o]) M)
    (hb : o.bd = .iface t v) (hv : t = ty_P_paraBuilder → ∃ q, v = .pointer q) (hl : l.ok) (hp : l.trimSp 4 4 false = none)
    (hR : ∀ w, Sat σ w (p.at b :: M ++ L) → R (.returned (.tuple #[l.val, .bool false])) w) : callE P i_newPre #[.pointer (some ⟨b, 0, none⟩), l.val] R w := by
  refine g_newPre.sound ?_
  refine Sat.bx h fun b1 w h => ?_
  refine Sat.bx h fun b3 w h => ?_
  repeat (first | refine nilP_some ?_ | refine Sat.tk h fun w h => ?_ | refine ⟨_, Sat.ld h (by first | assumption | (repeat (first | exact .head _ | apply List.Mem.tail))) (by exact rfl), ?_⟩ | refine ⟨_, _, _, Sat.ld h (by first | assumption | (repeat (first | exact .head _ | apply List.Mem.tail))) (by exact rfl), ?_⟩ | refine Sat.st h (k := 0) rfl (Nat.le_of_ble_eq_true rfl) trivial (by first | (dsimp only [List.set]; exact rfl) | exact rfl) fun w h => ?_ | refine Sat.st h (k := 1) rfl (Nat.le_of_ble_eq_true rfl) trivial (by first | (dsimp only [List.set]; exact rfl) | exact rfl) fun w h => ?_ | refine Sat.st h (k := 2) rfl (Nat.le_of_ble_eq_true rfl) trivial (by first | (dsimp only [List.set]; exact rfl) | exact rfl) fun w h => ?_ | refine Sat.st h (k := 3) rfl (Nat.le_of_ble_eq_true rfl) trivial (by first | (dsimp only [List.set]; exact rfl) | exact rfl) fun w h => ?_ | refine Sat.st h (k := 4) rfl (Nat.le_of_ble_eq_true rfl) trivial (by first | (dsimp only [List.set]; exact rfl) | exact rfl) fun w h => ?_ | refine Sat.st h (k := 5) rfl (Nat.le_of_ble_eq_true rfl) trivial (by first | (dsimp only [List.set]; exact rfl) | exact rfl) fun w h => ?_ | refine Sat.st h (k := 6) rfl (Nat.le_of_ble_eq_true rfl) trivial (by first | (dsimp only [List.set]; exact rfl) | exact rfl) fun w h => ?_ | refine Sat.bx h fun b0 w h => ?_)
  have h : Sat σ _ (l.at b0 :: zLn b3 :: l.at b1 :: (p.at b :: M ++ L)) := h
  have h : Sat σ _ (p.at b :: M ++ (l.at b0 :: zLn b3 :: l.at b1 :: L)) := h.re (by intro _; simp only [List.append_eq, cnt_append, cnt_cons, cnt_nil] <;> omega)
  have fin : ∀ w, Sat σ w (l.at b0 :: (zLn b3 :: l.at b1 :: (p.at b :: M ++ L))) → g_newPre.k1 R (some ⟨b, 0, none⟩) b1 b3 b0 false w := by
    intro w h
    refine br_false rfl ?_
    repeat (first | refine nilP_some ?_ | refine Sat.tk h fun w h => ?_ | refine ⟨_, Sat.ld h (by first | assumption | (repeat (first | exact .head _ | apply List.Mem.tail))) (by exact rfl), ?_⟩ | refine ⟨_, _, _, Sat.ld h (by first | assumption | (repeat (first | exact .head _ | apply List.Mem.tail))) (by exact rfl), ?_⟩ | refine Sat.st h (k := 0) rfl (Nat.le_of_ble_eq_true rfl) trivial (by first | (dsimp only [List.set]; exact rfl) | exact rfl) fun w h => ?_ | refine Sat.st h (k := 1) rfl (Nat.le_of_ble_eq_true rfl) trivial (by first | (dsimp only [List.set]; exact rfl) | exact rfl) fun w h => ?_ | refine Sat.st h (k := 2) rfl (Nat.le_of_ble_eq_true rfl) trivial (by first | (dsimp only [List.set]; exact rfl) | exact rfl) fun w h => ?_ | refine Sat.st h (k := 3) rfl (Nat.le_of_ble_eq_true rfl) trivial (by first | (dsimp only [List.set]; exact rfl) | exact rfl) fun w h => ?_ | refine Sat.st h (k := 4) rfl (Nat.le_of_ble_eq_true rfl) trivial (by first | (dsimp only [List.set]; exact rfl) | exact rfl) fun w h => ?_ | refine Sat.st h (k := 5) rfl (Nat.le_of_ble_eq_true rfl) trivial (by first | (dsimp only [List.set]; exact rfl) | exact rfl) fun w h => ?_ | refine Sat.st h (k := 6) rfl (Nat.le_of_ble_eq_true rfl) trivial (by first | (dsimp only [List.set]; exact rfl) | exact rfl) fun w h => ?_ | refine Sat.bx h fun b0 w h => ?_)
    have h : Sat σ _ (l.at b0 :: l.at b3 :: l.at b1 :: (p.at b :: M ++ L)) := h
    exact hR _ h.tail.tail.tail
  refine top_ok h hs hb (fun w h => ?_) hv
  have h : Sat σ _ (l.at b0 :: (zLn b3 :: l.at b1 :: (p.at b :: M ++ L))) := h.re (by intro _; simp only [List.append_eq, cnt_append, cnt_cons, cnt_nil] <;> omega)
  by_cases ht : t = ty_P_paraBuilder
  · obtain ⟨q, rfl⟩ := hv ht
    rw [if_pos ht]
    refine ⟨q, rfl, q.isNone, w, eq_ptr_nil und_para _ _ _ w, br_split (fun hq => ?_) (fun _ => fin _ h)⟩
    refine YtejiaegiijokcaaGreatDoor.trimSp_ok (min := 4) (max := 4) h hl (by decide) (by decide) ?_
    rw [hp]
    exact fun w h => ⟨_, rfl, br_false rfl (fin _ h)⟩
  · rw [if_neg ht]
    refine ⟨none, rfl, _, w, eq_ptr_nil und_para _ _ _ w, br_true rfl ?_⟩
    refine YtejiaegiijokcaaGreatDoor.trimSp_ok (min := 4) (max := 4) h hl (by decide) (by decide) ?_
    rw [hp]
    exact fun w h => ⟨_, rfl, br_false rfl (fin _ h)⟩
end Go.Proofs.YtejiaegiijokcaaGreatDoor


set_option linter.unusedVariables false
namespace Go.Proofs.YtejiaegiijokcaaGreatDoor
open Go.Proofs Go.IntWalk
variable {σ : Out} {w : World} {L L' : List Chunk} {R : Ending → World → Prop}

def Ln.zero : Ln := ⟨0, 0, 0, [], 0⟩
noncomputable def rowStr : Row P ty_S_string ty_string 1 16 :=
  ⟨(P.info? ty_string).getD default, ((P.info? ty_string).bind (·.zero)).getD default, by kernel_rfl, by kernel_rfl, by kernel_rfl, by kernel_rfl, by kernel_rfl, by kernel_rfl, by decide⟩
def ParaAt (qb : Nat) (ts : List (List UInt8)) (M : List Chunk) : Prop :=
  ∃ q c TM, Sl 1 ty_string q ts.length c (ts.map fun t => .string (bs t)) TM ∧ M = (qb, cel [.slice q ts.length c, .pointer none] ty_paraBuilder) :: TM

theorem para_append {qb : Nat} {ts : List (List UInt8)} {s : List UInt8} {b4 : Nat} {M : List Chunk} (h : Sat σ w (zLn b4 :: M ++ L)) (hp : ParaAt qb ts M) (hlen : ts.length < 1048576)
    (hR : ∀ w M', ParaAt qb (ts ++ [s]) M' → Sat σ w (M' ++ L) → R (.returned (.tuple #[Ln.zero.val, .bool true])) w) :
    g_newPara.k5 R b4 (some ⟨qb, 0, none⟩) (bs s) w := by
  obtain ⟨q, c, TM, hS, rfl⟩ := hp
  repeat (first | refine nilP_some ?_ | refine Sat.tk h fun w h => ?_ | refine ⟨_, Sat.ld h (by first | assumption | (repeat (first | exact .head _ | apply List.Mem.tail))) (by exact rfl), ?_⟩ | refine ⟨_, _, _, Sat.ld h (by first | assumption | (repeat (first | exact .head _ | apply List.Mem.tail))) (by exact rfl), ?_⟩)
  have h : Sat σ w (TM ++ ((qb, cel [.slice q ts.length c, .pointer none] ty_paraBuilder) :: zLn b4 :: L)) := h.re (by intro _; simp only [List.append_eq, cnt_append, cnt_cons, cnt_nil] <;> omega)
  refine Sat.app1 rowStr hS h (v := .string (bs s)) rfl (by simp [Value.cells, Value.oneCell']) (by kernel_rfl) (by omega) (by omega) (by decide) fun q' c' w TM' hS' h => ?_
  have h : Sat σ w ((qb, cel [.slice q ts.length c, .pointer none] ty_paraBuilder) :: zLn b4 :: (TM' ++ L)) := h.re (by intro _; simp only [List.append_eq, cnt_append, cnt_cons, cnt_nil] <;> omega)
  repeat (first | refine nilP_some ?_ | refine Sat.tk h fun w h => ?_ | refine ⟨_, Sat.ld h (by first | assumption | (repeat (first | exact .head _ | apply List.Mem.tail))) (by exact rfl), ?_⟩ | refine ⟨_, _, _, Sat.ld h (by first | assumption | (repeat (first | exact .head _ | apply List.Mem.tail))) (by exact rfl), ?_⟩ | refine Sat.st h (k := 0) rfl (Nat.le_of_ble_eq_true rfl) trivial (by first | (dsimp only [List.set]; exact rfl) | exact rfl) fun w h => ?_ | refine Sat.st h (k := 1) rfl (Nat.le_of_ble_eq_true rfl) trivial (by first | (dsimp only [List.set]; exact rfl) | exact rfl) fun w h => ?_ | refine Sat.st h (k := 2) rfl (Nat.le_of_ble_eq_true rfl) trivial (by first | (dsimp only [List.set]; exact rfl) | exact rfl) fun w h => ?_ | refine Sat.st h (k := 3) rfl (Nat.le_of_ble_eq_true rfl) trivial (by first | (dsimp only [List.set]; exact rfl) | exact rfl) fun w h => ?_ | refine Sat.st h (k := 4) rfl (Nat.le_of_ble_eq_true rfl) trivial (by first | (dsimp only [List.set]; exact rfl) | exact rfl) fun w h => ?_ | refine Sat.st h (k := 5) rfl (Nat.le_of_ble_eq_true rfl) trivial (by first | (dsimp only [List.set]; exact rfl) | exact rfl) fun w h => ?_ | refine Sat.st h (k := 6) rfl (Nat.le_of_ble_eq_true rfl) trivial (by first | (dsimp only [List.set]; exact rfl) | exact rfl) fun w h => ?_ | refine Sat.bx h fun b0 w h => ?_)
  have h : Sat σ _ ((qb, cel [.slice q' (ts.length + 1) c', .pointer none] ty_paraBuilder) :: zLn b4 :: (TM' ++ L)) := h
  refine hR _ ((qb, cel [.slice q' (ts.length + 1) c', .pointer none] ty_paraBuilder) :: TM') ⟨q', c', TM', ?_, ?_⟩ (h.less [zLn b4] (by intro _; simp only [List.append_eq, cnt_append, cnt_cons, cnt_nil] <;> omega))
  · rw [List.length_append, List.map_append]; exact hS'
  · rw [List.length_append]; rfl

theorem newPara_new {b pb : Nat} {p : PS} {ob : List OB} {o : OB} {M : List Chunk} {t : TypeId} {v : Value} {l : Ln} {op : Opt} (h : Sat σ w (p.at b :: M ++ L)) (hs : Stk p (ob ++ [o]) M)
    (hpz : p.pz = some ⟨pb, 0, none⟩) (hop : op.at pb ∈ L) (hd : p.depth = ob.length) (hb : o.bd = .iface t v) (ht : t ≠ ty_P_paraBuilder) (hl : l.ok) (hlen : ob.length < 1000000)
    (hR : ∀ w p' M' qb PM, p' = { p with stq := p'.stq, stn := ob.length + 2, stc := p'.stc } → Stk p' (ob ++ [o] ++ [⟨.iface ty_P_paraBuilder (.pointer (some ⟨qb, 0, none⟩)), none, 0, 0, p.lineno, p.lineno⟩]) M' →
      ParaAt qb [(l.text.drop l.i).dropWhile isST] PM → Sat σ w (p'.at b :: M' ++ (PM ++ L)) → R (.returned (.tuple #[Ln.zero.val, .bool true])) w) :
    callE P i_newPara #[.pointer (some ⟨b, 0, none⟩), l.val] R w := by
  refine g_newPara.sound ?_
  refine Sat.bx h fun b1 w h => ?_
  refine Sat.bx h fun b3 w h => ?_
  have h : Sat σ _ (zLn b3 :: l.at b1 :: (p.at b :: M ++ L)) := h
  have h : Sat σ _ (p.at b :: M ++ (zLn b3 :: l.at b1 :: L)) := h.re (by intro _; simp only [List.append_eq, cnt_append, cnt_cons, cnt_nil] <;> omega)
  refine top_ok h hs hb (fun w h => ?_) (fun hc => absurd hc ht)
  rw [if_neg ht]
  refine ⟨_, rfl, ?_⟩
  repeat (first | refine nilP_some ?_ | refine Sat.tk h fun w h => ?_ | refine ⟨_, Sat.ld h (by first | assumption | (repeat (first | exact .head _ | apply List.Mem.tail))) (by exact rfl), ?_⟩ | refine ⟨_, _, _, Sat.ld h (by first | assumption | (repeat (first | exact .head _ | apply List.Mem.tail))) (by exact rfl), ?_⟩)
  have h : Sat σ _ (l.at b1 :: (p.at b :: M ++ (zLn b3 :: L))) := h.re (by intro _; simp only [List.append_eq, cnt_append, cnt_cons, cnt_nil] <;> omega)
  refine trimSpaceString_ok h (by first | assumption | (repeat (first | exact .head _ | apply List.Mem.tail))) hl fun w h => ⟨_, rfl, ?_⟩
  refine ⟨_, w, ne_ptr_nil und_para _ _ _ w, br_false rfl (br_false rfl ?_)⟩
  have h : Sat σ _ (p.at b :: (l.at b1 :: (M ++ (zLn b3 :: L)))) := h.re (by intro _; simp only [List.append_eq, cnt_append, cnt_cons, cnt_nil] <;> omega)
  refine Sat.tk h fun w h => ?_
  refine nilP_some ?_
  refine ⟨_, Sat.ld h (.head _) rfl, ?_⟩
  rw [hpz]
  refine nilP_some ?_
  have hm : op.at pb ∈ (p.at b :: (l.at b1 :: (M ++ (zLn b3 :: L)))) := by simp [hop]
  refine ⟨op.table, Sat.ld h hm rfl, ?_⟩
  have fin : g_newPara.k4 R (some ⟨b, 0, none⟩) b3 none (bs ((l.text.drop l.i).dropWhile isST)) false w := by
    refine br_false rfl ⟨_, w, ne_ptr_nil und_para _ _ _ w, br_false rfl ?_⟩
    refine Sat.bx h fun qb w h => ?_
    have h : Sat σ _ ((qb, cel [.slice none 0 0, .pointer none] ty_paraBuilder) :: p.at b :: (l.at b1 :: (M ++ (zLn b3 :: L)))) := h
    have h : Sat σ _ (p.at b :: M ++ (zLn b3 :: (qb, cel [.slice none 0 0, .pointer none] ty_paraBuilder) :: L)) := h.less [l.at b1] (by intro _; simp only [List.append_eq, cnt_append, cnt_cons, cnt_nil] <;> omega)
    refine addBlock_ok h hs (by rw [hd]; simp) (by simp; omega) fun w p' M' hp' hs' h => ⟨rfl, ?_⟩
    have h : Sat σ w (zLn b3 :: [(qb, cel [.slice none 0 0, .pointer none] ty_paraBuilder)] ++ (p'.at b :: M' ++ L)) := h.re (by intro _; simp only [List.append_eq, cnt_append, cnt_cons, cnt_nil] <;> omega)
    refine para_append h (ts := []) ⟨none, 0, [], Sl.nil 1 ty_string, rfl⟩ (by decide) fun w PM hPM h => ?_
    refine hR w p' M' qb PM ?_ hs' hPM (h.re (by intro _; simp only [List.append_eq, cnt_append, cnt_cons, cnt_nil] <;> omega))
    rw [hp']; simp
  refine br_split (fun _ => ⟨_, ne_ptr_nil und_para _ _ _, br_false rfl fin⟩) (fun _ => fin)
end Go.Proofs.YtejiaegiijokcaaGreatDoor


set_option linter.unusedVariables false
namespace Go.Proofs.YtejiaegiijokcaaGreatDoor
open Go.Proofs Go.IntWalk
variable {σ : Out} {w : World} {L L' : List Chunk} {R : Ending → World → Prop}

theorem enter_fn {f : FuncId} {args first captured : Array Value} (h : callE P f (first ++ args ++ captured) R w) :
    enterE P (do let d ← Deferred.ofValue (.func (.func f) first captured) args; invoke d.target d.args) R w :=
  h.imp (fun h => ⟨f, _, w, h.1 _ _, h.2⟩) id

def newsF : List FuncId := [i_newQuote, i_newATXHeading, i_newSetextHeading, i_newHR, i_newListItem, i_newHTML, i_newFence, i_newPre]
def newsC : List Value := newsF.map fun f => .func (.func f) #[] #[]
theorem news_ok (h : Sat σ w L) (hR : ∀ w b e, Sat σ w ((b, cel newsC e) :: L) → R (.returned (.slice (some ⟨b, 0, none⟩) 8 8)) w) : callE P i_news #[] R w := by
  refine g_news.sound ?_
  have hu : P.underlying ty_S_func_P_parseState_line_line_bool = some (.slice ty_func_P_parseState_line_line_bool) := by kernel_rfl
  have hrun := run_buildSlice (P := P) w ty_S_func_P_parseState_line_line_bool ty_func_P_parseState_line_line_bool 8
    #[(0, .func (.func i_newQuote) #[] #[]), (1, .func (.func i_newATXHeading) #[] #[]), (2, .func (.func i_newSetextHeading) #[] #[]), (3, .func (.func i_newHR) #[] #[]),
      (4, .func (.func i_newListItem) #[] #[]), (5, .func (.func i_newHTML) #[] #[]), (6, .func (.func i_newFence) #[] #[]), (7, .func (.func i_newPre) #[] #[])] newsC.toArray
    ((P.info? ty_func_P_parseState_line_line_bool).getD default) (((P.info? ty_func_P_parseState_line_line_bool).bind (·.zero)).getD default) hu (by kernel_rfl) (by kernel_rfl)
    (by rw [show ((P.info? ty_func_P_parseState_line_line_bool).getD default).size = 1 by kernel_rfl]; decide) (by rw [show ((P.info? ty_func_P_parseState_line_line_bool).getD default).size = 1 by kernel_rfl]; decide) (by kernel_rfl)
  exact ⟨_, _, _, _, hrun, hR _ _ _ (h.alc newsC _)⟩
end Go.Proofs.YtejiaegiijokcaaGreatDoor


set_option linter.unusedVariables false
namespace Go.Proofs.YtejiaegiijokcaaGreatDoor
open Go.Proofs Go.IntWalk
variable {σ : Out} {w : World} {L L' : List Chunk} {R : Ending → World → Prop}

def Decl (b : Nat) (p : PS) (M : List Chunk) (l : Ln) (f : FuncId) : Prop :=
  ∀ (σ : Out) (w : World) (L : List Chunk) (R : Ending → World → Prop), Sat σ w (p.at b :: M ++ L) → (∀ w, Sat σ w (p.at b :: M ++ L) → R (.returned (.tuple #[l.val, .bool false])) w) →
    callE P f #[.pointer (some ⟨b, 0, none⟩), l.val] R w
def HDecl (l : Ln) : Prop :=
  ∀ (b : Nat) (p : PS) (ob : List OB) (o : OB) (M : List Chunk) (t : TypeId) (v : Value), Stk p (ob ++ [o]) M → o.bd = .iface t v → t ≠ ty_P_paraBuilder → Decl b p M l i_newHTML
theorem HDecl.of_peek {l : Ln} (hl : l.ok) (hp : (l.lead 3 false).peek ≠ 60) : HDecl l :=
  fun _ _ _ _ _ _ _ _ _ _ _ _ _ _ h hR => newHTML_no h hl hp hR
def LDecl (l : Ln) : Prop :=
  ∀ (b d : Nat) (p : PS) (ob : List OB) (o : OB) (M : List Chunk) (t : TypeId) (v : Value), Stk p ob M → p.depth = d → ob[d]? = some o → o.bd = .iface t v → t ≠ ty_P_listBuilder → Decl b p M l i_newListItem
theorem LDecl.of_peek {l : Ln} (hl : l.ok) (hp : isBullet (l.strip 3 0).2.peek = false) : LDecl l :=
  fun _ _ _ _ _ _ _ _ hs hd ho hb ht _ _ _ _ h hR => newListItem_no h hs hd ho hb ht hl hp hR
structure Ln.plain (l : Ln) : Prop where
  ok : l.ok
  blank : l.blank = false
  quote : l.quote = none
  heading : l.heading = none
  hr : l.isHR = false
  bullet : LDecl l
  html : HDecl l
  fence : (l.strip 3 0).2.peek ≠ 96 ∧ (l.strip 3 0).2.peek ≠ 126
  pre : l.trimSp 4 4 false = none

theorem decl_all {b : Nat} {p : PS} {ob : List OB} {o : OB} {M : List Chunk} {t : TypeId} {v : Value} {l : Ln} (hs : Stk p (ob ++ [o]) M) (hd : p.depth = ob.length)
    (hb : o.bd = .iface t v) (h1 : t ≠ ty_P_paraBuilder) (h2 : t ≠ ty_P_listBuilder) (hl : l.plain) : ∀ f ∈ newsF, Decl b p M l f := by
  intro f hf
  have hg : (ob ++ [o])[ob.length]? = some o := by simp
  simp only [newsF, List.mem_cons, List.not_mem_nil, or_false] at hf
  intro σ w L R h hR
  rcases hf with rfl | rfl | rfl | rfl | rfl | rfl | rfl | rfl
  · exact newQuote_no (x := .nilIface) h hl.ok hl.quote hR
  · exact newATX_no h hl.ok hl.heading hR
  · exact newSetext_no h hs hd rfl hb h1 hl.ok hR
  · exact newHR_no h hl.ok hl.hr hR
  · exact hl.bullet b ob.length p (ob ++ [o]) o M t v hs hd hg hb h2 σ w L R h hR
  · exact hl.html b p ob o M t v hs hb h1 σ w L R h hR
  · exact newFence_no h hl.ok hl.fence hR
  · exact newPre_no h hs hb (fun hc => absurd hc h1) hl.ok hl.pre hR

theorem newsC_get {i : Nat} {f : FuncId} (h : newsF[i]? = some f) : newsC[i]? = some (.func (.func f) #[] #[]) := by
  rw [newsC, List.getElem?_map, h]; rfl

theorem addLine_para {b pb : Nat} {p : PS} {o : OB} {M : List Chunk} {t : TypeId} {v : Value} {l : Ln} {op : Opt} (h : Sat σ w (p.at b :: M ++ L)) (hs : Stk p [o] M)
    (hpz : p.pz = some ⟨pb, 0, none⟩) (hop : op.at pb ∈ L) (hb : o.bd = .iface t v) (h1 : t ≠ ty_P_paraBuilder) (h2 : t ≠ ty_P_listBuilder) (hl : l.plain)
    (hR : ∀ w p' M' qb PM, p' = { p with depth := 0, stq := p'.stq, stn := 2, stc := p'.stc } → Stk p' [o, ⟨.iface ty_P_paraBuilder (.pointer (some ⟨qb, 0, none⟩)), none, 0, 0, p.lineno, p.lineno⟩] M' →
      ParaAt qb [(l.text.drop l.i).dropWhile isST] PM → Sat σ w (p'.at b :: M' ++ (PM ++ L)) → R (.returned (.tuple #[])) w) :
    callE P i_parseState_addLine #[.pointer (some ⟨b, 0, none⟩), l.val] R w := by
  refine g_parseState_addLine.sound ?_
  refine Sat.bx h fun b1 w h => ?_
  repeat (first | refine nilP_some ?_ | refine Sat.tk h fun w h => ?_ | refine ⟨_, Sat.ld h (by first | assumption | (repeat (first | exact .head _ | apply List.Mem.tail))) (by exact rfl), ?_⟩ | refine ⟨_, _, _, Sat.ld h (by first | assumption | (repeat (first | exact .head _ | apply List.Mem.tail))) (by exact rfl), ?_⟩ | refine Sat.st h (k := 0) rfl (Nat.le_of_ble_eq_true rfl) trivial (by first | (dsimp only [List.set]; exact rfl) | exact rfl) fun w h => ?_ | refine Sat.st h (k := 1) rfl (Nat.le_of_ble_eq_true rfl) trivial (by first | (dsimp only [List.set]; exact rfl) | exact rfl) fun w h => ?_ | refine Sat.st h (k := 2) rfl (Nat.le_of_ble_eq_true rfl) trivial (by first | (dsimp only [List.set]; exact rfl) | exact rfl) fun w h => ?_ | refine Sat.st h (k := 3) rfl (Nat.le_of_ble_eq_true rfl) trivial (by first | (dsimp only [List.set]; exact rfl) | exact rfl) fun w h => ?_ | refine Sat.st h (k := 4) rfl (Nat.le_of_ble_eq_true rfl) trivial (by first | (dsimp only [List.set]; exact rfl) | exact rfl) fun w h => ?_ | refine Sat.st h (k := 5) rfl (Nat.le_of_ble_eq_true rfl) trivial (by first | (dsimp only [List.set]; exact rfl) | exact rfl) fun w h => ?_ | refine Sat.st h (k := 6) rfl (Nat.le_of_ble_eq_true rfl) trivial (by first | (dsimp only [List.set]; exact rfl) | exact rfl) fun w h => ?_ | refine Sat.bx h fun b0 w h => ?_)
  let p1 : PS := { p with depth := 0 }
  have hs1 : Stk p1 ([] ++ [o]) M := hs
  have h : Sat σ _ (l.at b1 :: p1.at b :: M ++ L) := h
  intro X hX
  refine hX _ _ _ ?_
  repeat (first | refine nilP_some ?_ | refine Sat.tk h fun w h => ?_ | refine ⟨_, Sat.ld h (by first | assumption | (repeat (first | exact .head _ | apply List.Mem.tail))) (by exact rfl), ?_⟩ | refine ⟨_, _, _, Sat.ld h (by first | assumption | (repeat (first | exact .head _ | apply List.Mem.tail))) (by exact rfl), ?_⟩)
  have hn : p1.stn = 1 := hs.2.1
  rw [hn]
  refine br_false rfl ?_
  refine isBlank_ok h (by first | assumption | (repeat (first | exact .head _ | apply List.Mem.tail))) hl.ok fun w h => ⟨_, rfl, ?_⟩
  rw [hl.blank]
  refine br_false rfl ?_
  refine news_ok h fun w nb e h => ⟨_, _, _, rfl, ?_⟩
  intro Y hY
  have h : Sat σ w (p1.at b :: M ++ (l.at b1 :: (nb, cel newsC e) :: L)) := h.re (by intro _; simp only [List.append_eq, cnt_append, cnt_cons, cnt_nil] <;> omega)
  have loop : ∀ (k i : Nat) w, i + k = 8 → Sat σ w (p1.at b :: M ++ (l.at b1 :: (nb, cel newsC e) :: L)) → Y (some ⟨b, 0, none⟩) b1 (some ⟨nb, 0, none⟩) 8 8 8 i w := by
    intro k i w hk h
    induction k generalizing i w with
    | zero =>
      refine hY _ _ _ _ _ _ _ _ (br_false (by simp; omega) ?_)
      have h : Sat σ w (l.at b1 :: p1.at b :: (M ++ ((nb, cel newsC e) :: L))) := h.re (by intro _; simp only [List.append_eq, cnt_append, cnt_cons, cnt_nil] <;> omega)
      repeat (first | refine nilP_some ?_ | refine Sat.tk h fun w h => ?_ | refine ⟨_, Sat.ld h (by first | assumption | (repeat (first | exact .head _ | apply List.Mem.tail))) (by exact rfl), ?_⟩ | refine ⟨_, _, _, Sat.ld h (by first | assumption | (repeat (first | exact .head _ | apply List.Mem.tail))) (by exact rfl), ?_⟩)
      have h : Sat σ w (p1.at b :: M ++ (l.at b1 :: (nb, cel newsC e) :: L)) := h.re (by intro _; simp only [List.append_eq, cnt_append, cnt_cons, cnt_nil] <;> omega)
      refine newPara_new (ob := []) h hs1 hpz (.tail _ (.tail _ hop)) rfl hb h1 hl.ok (by decide) fun w p' M' qb PM hp' hs' hPM h => ⟨_, _, _, _, _, _, rfl, ?_⟩
      exact hR w p' M' qb PM hp' hs' hPM (h.less [l.at b1, (nb, cel newsC e)] (by intro _; simp only [List.append_eq, cnt_append, cnt_cons, cnt_nil] <;> omega))
    | succ k ih =>
      refine hY _ _ _ _ _ _ _ _ (br_true (by simp; omega) ⟨by omega, by omega, ?_⟩)
      have hi : i < newsF.length := by show i < 8; omega
      have hf := List.getElem?_eq_getElem hi
      refine nilP_some ?_
      simp only [Addr.add_lit, Nat.zero_add, Int.toNat_natCast, Nat.mul_one]
      have h : Sat σ w (l.at b1 :: (nb, cel newsC e) :: (p1.at b :: (M ++ L))) := h.re (by intro _; simp only [List.append_eq, cnt_append, cnt_cons, cnt_nil] <;> omega)
      refine ⟨_, Sat.ld h (.tail _ (.head _)) (newsC_get hf), ?_⟩
      refine ⟨_, Sat.ld h (.head _) rfl, _, Sat.ld h (.head _) rfl, _, Sat.ld h (.head _) rfl, _, Sat.ld h (.head _) rfl, _, Sat.ld h (.head _) rfl, ?_⟩
      have h : Sat σ w (p1.at b :: M ++ (l.at b1 :: (nb, cel newsC e) :: L)) := h.re (by intro _; simp only [List.append_eq, cnt_append, cnt_cons, cnt_nil] <;> omega)
      refine enter_fn ?_
      refine decl_all hs1 rfl hb h1 h2 hl _ (List.getElem_mem hi) σ w _ _ h fun w h => ⟨_, _, _, _, _, _, rfl, ?_⟩
      repeat (first | refine nilP_some ?_ | refine Sat.tk h fun w h => ?_ | refine ⟨_, Sat.ld h (by first | assumption | (repeat (first | exact .head _ | apply List.Mem.tail))) (by exact rfl), ?_⟩ | refine ⟨_, _, _, Sat.ld h (by first | assumption | (repeat (first | exact .head _ | apply List.Mem.tail))) (by exact rfl), ?_⟩ | refine Sat.st h (k := 0) rfl (Nat.le_of_ble_eq_true rfl) trivial (by first | (dsimp only [List.set]; exact rfl) | exact rfl) fun w h => ?_ | refine Sat.st h (k := 1) rfl (Nat.le_of_ble_eq_true rfl) trivial (by first | (dsimp only [List.set]; exact rfl) | exact rfl) fun w h => ?_ | refine Sat.st h (k := 2) rfl (Nat.le_of_ble_eq_true rfl) trivial (by first | (dsimp only [List.set]; exact rfl) | exact rfl) fun w h => ?_ | refine Sat.st h (k := 3) rfl (Nat.le_of_ble_eq_true rfl) trivial (by first | (dsimp only [List.set]; exact rfl) | exact rfl) fun w h => ?_ | refine Sat.st h (k := 4) rfl (Nat.le_of_ble_eq_true rfl) trivial (by first | (dsimp only [List.set]; exact rfl) | exact rfl) fun w h => ?_ | refine Sat.st h (k := 5) rfl (Nat.le_of_ble_eq_true rfl) trivial (by first | (dsimp only [List.set]; exact rfl) | exact rfl) fun w h => ?_ | refine Sat.st h (k := 6) rfl (Nat.le_of_ble_eq_true rfl) trivial (by first | (dsimp only [List.set]; exact rfl) | exact rfl) fun w h => ?_ | refine Sat.bx h fun b0 w h => ?_)
      rw [i64_inc (by omega)]
      have h : Sat σ _ (l.at b0 :: (p1.at b :: M ++ (l.at b1 :: (nb, cel newsC e) :: L))) := h
      exact ih (i + 1) _ (by omega) h.tail
  exact loop 8 0 w rfl h
end Go.Proofs.YtejiaegiijokcaaGreatDoor


set_option linter.unusedVariables false
set_option maxRecDepth 20000
namespace Go.Proofs.YtejiaegiijokcaaGreatDoor
open Go.Proofs
namespace g_zzContains
noncomputable def body : Code := bodyOf Tryz.f49
end g_zzContains
def g_zzContains (R : EP) (x0 : BA) (x1 : BA) (w : World) : Prop :=
 callE P i_zzIndex #[.string x0, .string x1] (fun e w2 => ∃ (r1 : Int), e = .returned (.int .i64 r1) ∧
 R (.returned (.bool (decide (r1 ≥ 0)))) w2) w

noncomputable def g_zzContains.ac (R : EP) : AC :=
  (.leaf (sel [] g_zzContains.body))
theorem g_zzContains.good (R : EP) : Good P 9 (g_zzContains.ac R) (QF P [.tmp 4] R) :=
  trivial
theorem g_zzContains.eq (R : EP) (x0 : BA) (x1 : BA) (w : World) : g_zzContains R x0 x1 w = vcA P 9 (g_zzContains.ac R) (QF P [.tmp 4] R) (fr0 [.string x0, .string x1]) w := by kernel_rfl
theorem g_zzContains.sound {R : EP} {x0 : ByteArray} {x1 : ByteArray} {w : World} (h : g_zzContains R x0 x1 w) : callE P i_zzContains #[.string x0, .string x1] R w :=
  callE_fin (c := g_zzContains.body) Tryz.func49 Tryz.call49 (by kernel_rfl) (by kernel_rfl) (by kernel_rfl) (by kernel_rfl) (by kernel_rfl) (g_zzContains.good R) (g_zzContains.eq R x0 x1 w) h
namespace g_zzIndex
noncomputable def body : Code := bodyOf Tryz.f52
def bl1 (R : EP) (Xa : BA → BA → Int → WP) (x0 : BA) (x1 : BA) (x5 : Int) (w : World) : Prop :=
 br (decide ((IntKind.i64.wrap (x5 + (x1.size : Int))) ≤ (x0.size : Int)))
 (0 ≤ x5 ∧ x5 ≤ (IntKind.i64.wrap (x5 + (x1.size : Int))) ∧ (IntKind.i64.wrap (x5 + (x1.size : Int))) ≤ (x0.size : Int) ∧
 br ((x0.extract (Int.toNat x5) (Int.toNat (IntKind.i64.wrap (x5 + (x1.size : Int))))).toList == x1.toList)
 (R (.returned (.int .i64 x5)) w)
 (Xa x0 x1 (IntKind.i64.wrap (x5 + 1)) w))
 (R (.returned (.int .i64 (-1))) w)
def l1 (R : EP) (x0 : BA) (x1 : BA) (x5 : Int) (w : World) : Prop :=
  ∀ X : BA → BA → Int → WP, (∀ x0 x1 x5 w, bl1 R X x0 x1 x5 w → X x0 x1 x5 w) → X x0 x1 x5 w

noncomputable def al1 (R : EP) (Xa : BA → BA → Int → WP) : AC :=
  (.leaf (sel [1, 0, 1, 0, 0] body))
end g_zzIndex
def g_zzIndex (R : EP) (x0 : BA) (x1 : BA) (w : World) : Prop :=
 g_zzIndex.l1 R x0 x1 0 w

noncomputable def g_zzIndex.ac (R : EP) : AC :=
  (.seq (.leaf (sel [0] g_zzIndex.body)) (.seq (.seq (.leaf (sel [1, 0, 0] g_zzIndex.body)) (.block 0 (.loop (leaf [(0, .s .str), (1, .s .str), (5, .s (.int .i64))] (g_zzIndex.l1 R)) (sel [1, 0, 1, 0, 0] g_zzIndex.body)))) (.leaf (sel [1, 1] g_zzIndex.body))))
theorem g_zzIndex.good (R : EP) : Good P 25 (g_zzIndex.ac R) (QF P [.tmp 4] R) :=
  ⟨trivial, ⟨⟨trivial, (loopG (g_zzIndex.al1 R) (g_zzIndex.bl1 R) (fun _ => by kernel_rfl) (fun Xa => trivial) (fun Xa => by intro x0 x1 x5 ρ w; kernel_rfl) (fun X h _ _ _ _ g => g X h))⟩, trivial⟩⟩
theorem g_zzIndex.eq (R : EP) (x0 : BA) (x1 : BA) (w : World) : g_zzIndex R x0 x1 w = vcA P 25 (g_zzIndex.ac R) (QF P [.tmp 4] R) (fr0 [.string x0, .string x1]) w := by kernel_rfl
theorem g_zzIndex.sound {R : EP} {x0 : ByteArray} {x1 : ByteArray} {w : World} (h : g_zzIndex R x0 x1 w) : callE P i_zzIndex #[.string x0, .string x1] R w :=
  callE_fin (c := g_zzIndex.body) Tryz.func52 Tryz.call52 (by kernel_rfl) (by kernel_rfl) (by kernel_rfl) (by kernel_rfl) (by kernel_rfl) (g_zzIndex.good R) (g_zzIndex.eq R x0 x1 w) h
end Go.Proofs.YtejiaegiijokcaaGreatDoor

set_option linter.unusedVariables false
namespace Go.Proofs.YtejiaegiijokcaaGreatDoor
open Go.Proofs Go.IntWalk
variable {σ : Out} {w : World} {L L' : List Chunk} {R : Ending → World → Prop}

def findSub (sub l : List UInt8) : Nat → Nat → Option Nat
  | 0, _ => none
  | k + 1, i => if i + sub.length ≤ l.length then (if (l.drop i).take sub.length = sub then some i else findSub sub l k (i + 1)) else none
def idx (l sub : List UInt8) : Option Nat := findSub sub l (l.length + 1) 0
def idxInt (l sub : List UInt8) : Int := match idx l sub with
  | some i => (i : Int)
  | none => -1
theorem zzIndex_ok {l sub : List UInt8} (hl : l.length < 4611686018427387904) (hs : sub.length < 4611686018427387904) (hR : R (.returned (.int .i64 (idxInt l sub))) w) : callE P i_zzIndex #[.string (bs l), .string (bs sub)] R w := by
  refine g_zzIndex.sound ?_
  intro X hX
  have loop : ∀ (k i : Nat), l.length < k + i → i ≤ l.length + 1 → (match findSub sub l k i with | some i => (i : Int) | none => -1) = idxInt l sub → X (bs l) (bs sub) i w := by
    intro k
    induction k with
    | zero =>
      intro i hk hi he
      have hw : IntKind.i64.wrap ((i : Int) + (sub.length : Int)) = ((i + sub.length : Nat) : Int) := by rw [i64_in _ (by omega)]; omega
      refine hX _ _ _ _ (br_false (by rw [bs_size, bs_size, hw]; simp; omega) ?_)
      rw [← he] at hR
      exact hR
    | succ k ih =>
      intro i hk hi he
      have hw : IntKind.i64.wrap ((i : Int) + (sub.length : Int)) = ((i + sub.length : Nat) : Int) := by rw [i64_in _ (by omega)]; omega
      simp only [findSub] at he
      by_cases h1 : i + sub.length ≤ l.length
      · rw [if_pos h1] at he
        refine hX _ _ _ _ (br_true (by rw [bs_size, bs_size, hw]; simp; omega) ?_)
        rw [bs_size, bs_size, hw]
        refine ⟨by omega, by omega, by omega, ?_⟩
        rw [Int.toNat_natCast, Int.toNat_natCast, bs_extract, bs_toList, bs_toList]
        have ht : (l.take (i + sub.length)).drop i = (l.drop i).take sub.length := by rw [List.drop_take]; congr 1; omega
        rw [ht]
        by_cases h2 : (l.drop i).take sub.length = sub
        · rw [if_pos h2] at he
          rw [← he] at hR
          exact br_true (by simpa using h2) hR
        · rw [if_neg h2] at he
          refine br_false (by simpa using h2) ?_
          rw [i64_inc (by omega)]
          exact ih (i + 1) (by omega) (by omega) he
      · rw [if_neg h1] at he
        refine hX _ _ _ _ (br_false (by rw [bs_size, bs_size, hw]; simp; omega) ?_)
        rw [← he] at hR
        exact hR
  exact loop (l.length + 1) 0 (by omega) (by omega) rfl
theorem zzContains_ok {l sub : List UInt8} (hl : l.length < 4611686018427387904) (hs : sub.length < 4611686018427387904) (hR : R (.returned (.bool (idx l sub).isSome)) w) : callE P i_zzContains #[.string (bs l), .string (bs sub)] R w := by
  refine g_zzContains.sound ?_
  refine zzIndex_ok hl hs ⟨_, rfl, ?_⟩
  have : decide (idxInt l sub ≥ 0) = (idx l sub).isSome := by
    unfold idxInt
    cases idx l sub with
    | none => rfl
    | some i => simp
  rw [this]
  exact hR
theorem findSub_none {c : UInt8} {l : List UInt8} (hc : c ∉ l) : ∀ k i, findSub [c] l k i = none
  | 0, i => rfl
  | k + 1, i => by
    simp only [findSub]
    split
    · rename_i h
      simp only [List.length_singleton] at h
      rw [if_neg]
      · exact findSub_none hc k (i + 1)
      · intro he
        have hm : c ∈ (l.drop i).take 1 := by
          have he' : (l.drop i).take 1 = [c] := he
          rw [he']; exact List.mem_singleton.2 rfl
        exact hc (List.mem_of_mem_drop (List.mem_of_mem_take hm))
    · rfl
theorem idx_none {c : UInt8} {l : List UInt8} (hc : c ∉ l) : idx l [c] = none := findSub_none hc _ _
end Go.Proofs.YtejiaegiijokcaaGreatDoor


set_option linter.unusedVariables false
namespace Go.Proofs.YtejiaegiijokcaaGreatDoor
open Go.Proofs Go.IntWalk
variable {σ : Out} {w : World} {L L' : List Chunk} {R : Ending → World → Prop}

def methB (P : Program) (t : TypeId) (name : String) (f : FuncId) : Bool :=
  match P.info? t, P.underlying t with
  | some i, some (.pointer _) => match i.methods.find? (·.name == name) with
    | some m => m.path.isEmpty && (match m.func with | some (g, true) => Nat.beq g f | _ => false)
    | none => false
  | _, _ => false
theorem methB_run {P : Program} {t : TypeId} {name : String} {f : FuncId} (h : methB P t name f = true) (q : Option Addr) (fuel : Nat) (w : World) :
    (Go.method (fuel + 1) t (.pointer q) name).run P w = .ok (f, .pointer q) w := by
  unfold methB at h
  split at h
  · rename_i i e hi hu
    split at h
    · rename_i m hm
      simp only [Bool.and_eq_true] at h
      obtain ⟨hp, h⟩ := h
      split at h
      · rename_i g hf
        have hg := Nat.eq_of_beq_eq_true h
        subst hg
        have hp' : m.path = #[] := by simpa using hp
        simp [Go.method, typeInfo, hi, hm, hp', Go.follow, hf, Go.receiverAt, run_underlying hu, Go.Place.get]
      · cases h
    · cases h
  · cases h
theorem depth_succ (P : Program) : ∃ n, P.types.size + Made.depth = n + 1 := by
  have h : 0 < Made.depth := by decide
  exact ⟨P.types.size + (Made.depth - 1), by omega⟩
theorem enter_meth {t : TypeId} {name : String} {f : FuncId} {q : Option Addr} {args : Array Value} (hm : methB P t name f = true) (h : callE P f (#[.pointer q] ++ args) R w) :
    enterE P (callMethod (.iface t (.pointer q)) name args) R w := by
  obtain ⟨n, hn⟩ := depth_succ P
  have hr := methB_run hm q n w
  have e : (callMethod (.iface t (.pointer q)) name args).run P w = (callFunc f (#[.pointer q] ++ args)).run P w := by
    simp only [callMethod, Sem.run_bind, run_program, Result.andThen_ok, hn, hr]
  unfold enterE
  rw [e]
  exact h.imp (fun h => ⟨f, _, w, h.1 _ _, h.2⟩) id
theorem Sat.same {σ' : Out} {w w' : World} {L L' : List Chunk} (h : Sat σ w L) (h' : Sat σ' w' L') {b i : Nat} {o : Obj} (hm : (b, o) ∈ L) (hm' : (b, o) ∈ L') (n : Nat) : SameC w w' ⟨b, i, none⟩ n := by
  intro k _
  rw [Addr.add_lit]
  unfold World.cell?
  rw [h.at_ _ hm, h'.at_ _ hm']
theorem meth_pos : methB P ty_P_parseState "pub-paratext/pub/rscmarkdown.pos" i_parseState_pos = true := by kernel_rfl
theorem meth_blocks : methB P ty_P_parseState "pub-paratext/pub/rscmarkdown.blocks" i_parseState_blocks = true := by kernel_rfl
theorem meth_newText : methB P ty_P_parseState "pub-paratext/pub/rscmarkdown.newText" i_parseState_newText = true := by kernel_rfl
theorem meth_paraBuild : methB P ty_P_paraBuilder "pub-paratext/pub/rscmarkdown.build" i_paraBuilder_build = true := by kernel_rfl
theorem meth_rootBuild : methB P ty_P_rootBuilder "pub-paratext/pub/rscmarkdown.build" i_rootBuilder_build = true := by kernel_rfl
end Go.Proofs.YtejiaegiijokcaaGreatDoor


set_option linter.unusedVariables false
namespace Go.Proofs.YtejiaegiijokcaaGreatDoor
open Go.Proofs Go.IntWalk
variable {σ : Out} {w : World} {L L' : List Chunk} {R : Ending → World → Prop}

def isSTN (c : UInt8) : Bool := c == 32 || c == 9 || c == 10
def pastSTN (l : List UInt8) (i : Nat) : Nat := l.length - ((l.drop i).dropWhile isSTN).length
theorem skipSp_ok {l : List UInt8} {i : Nat} (hl : l.length < 4611686018427387904) (hi : i ≤ l.length) (hR : R (.returned (.int .i64 (pastSTN l i))) w) : callE P i_skipSpace #[.string (bs l), .int .i64 i] R w := by
  refine g_skipSpace.sound ?_
  intro X hX
  refine scanF (l := l) (X := fun i => X (bs l) (i : Int) w) (p := isSTN) (fun i hi hp hx => hX _ _ _ ?_) i hi (fun j hj hf he => hX _ _ _ ?_)
  · refine ⟨fun _ => ⟨by omega, by simp; omega⟩, fun _ => ⟨by omega, by simp; omega⟩, fun _ => ⟨by omega, by simp; omega⟩, br_true ?_ ?_⟩
    · rw [bt_beq hi 32 32 rfl, bt_beq hi 9 9 rfl, bt_beq hi 10 10 rfl]
      simpa [hi, isSTN] using hp
    · rw [i64_inc (by omega)]; exact hx
  · have hlt : ∀ {b : Bool}, (decide ((j : Int) < ((bs l).size : Int)) && b) = true → j < l.length := by
      intro b h
      simp only [Bool.and_eq_true, decide_eq_true_eq, bs_size] at h
      omega
    refine ⟨fun h => ⟨by omega, by simpa using h⟩, fun h => ⟨by omega, by have := hlt h; simp; omega⟩, fun h => ⟨by omega, by have := hlt h; simp; omega⟩, br_false ?_ ?_⟩
    · by_cases hi' : j < l.length
      · rw [bt_beq hi' 32 32 rfl, bt_beq hi' 9 9 rfl, bt_beq hi' 10 10 rfl]
        simpa [hi', isSTN] using hf hi'
      · simp [hi']
    · have : pastSTN l i = j := by
        rw [pastSTN, ← he, List.length_drop]; omega
      rw [← this]; exact hR

theorem ta_yes1 {t xt : TypeId} {v : Value} (hu : ∀ ms, P.underlying t ≠ some (.interface ms)) {d : TypeDesc} (hd : P.underlying t = some d) (w : World) :
    (Instr.typeAssert (.iface t v) xt t false).run P w = .ok v w := by
  cases d <;> first | (exact absurd hd (hu _)) | simp [Instr.typeAssert, run_underlying hd]
theorem und_ps : P.underlying ty_P_parseState = some (.pointer ty_parseState) := by kernel_rfl
theorem ta_ps (q : Option Addr) (w : World) : (Instr.typeAssert (.iface ty_P_parseState (.pointer q)) ty_buildState ty_P_parseState false).run P w = .ok (.pointer q) w :=
  ta_yes1 (by rw [und_ps]; intro ms h; cases h) und_ps w

theorem parseLinkRefDef_no {q : Option Addr} {l : List UInt8} (hl : l.length < 4611686018427387904) (hb : (l.dropWhile isSTN).head? ≠ some 91) (hR : R (.returned (.tuple #[.int .i64 0, .bool false])) w) :
    callE P i_parseLinkRefDef #[.iface ty_P_parseState (.pointer q), .string (bs l)] R w := by
  refine g_parseLinkRefDef.sound ?_
  refine skipSp_ok (i := 0) hl (Nat.zero_le _) ⟨_, rfl, q, w, ta_ps q w, ?_⟩
  generalize hj : pastSTN l 0 = j
  have hle : (l.dropWhile isSTN).length ≤ l.length := (List.dropWhile_sublist isSTN).length_le
  have hjd : j + (l.dropWhile isSTN).length = l.length := by rw [← hj, pastSTN, List.drop_zero]; omega
  have hsuf : l.drop j = l.dropWhile isSTN := by
    obtain ⟨pre, hp⟩ := List.dropWhile_suffix isSTN (l := l)
    have hpl : pre.length = j := by have := congrArg List.length hp; simp at this; omega
    exact (congrArg (List.drop j) hp).symm.trans (by rw [← hpl, List.drop_left])
  refine g_parseLinkLabel.sound ?_
  have hlt : (!(decide ((j : Int) ≥ ((bs l).size : Int)))) = true → j < l.length := by
    intro h; simp at h; exact h
  refine ⟨fun h => ⟨by omega, by have := hlt h; simp; omega⟩, br_true ?_ ⟨_, _, _, rfl, ?_⟩⟩
  · by_cases hjl : j < l.length
    · have : l[j] ≠ 91 := by
        intro h91
        apply hb
        rw [← hsuf, List.drop_eq_getElem_cons hjl, h91]
        rfl
      rw [bne, bt_beq hjl 91 91 rfl]
      simp [this]
    · simp; omega
  · refine ⟨fun h => by simp at h, br_true rfl hR⟩

def NoRef (l : List UInt8) : Prop := ∀ (R : Ending → World → Prop) (w : World) (q : Option Addr), R (.returned (.tuple #[.int .i64 0, .bool false])) w → callE P i_parseLinkRefDef #[.iface ty_P_parseState (.pointer q), .string (bs l)] R w
theorem noRef_of {l : List UInt8} (hl : l.length < 4611686018427387904) (hb : (l.dropWhile isSTN).head? ≠ some 91) : NoRef l := fun _ _ _ hR => parseLinkRefDef_no hl hb hR
theorem join_one {q : Option Addr} {c : Nat} {s sep : List UInt8} {TM : List Chunk} (h : Sat σ w (TM ++ L)) (hS : Sl 1 ty_string q 1 c [.string (bs s)] TM)
    (hR : ∀ w, Sat σ w (TM ++ L) → R (.returned (.string (bs s))) w) : callE P i_strings_Join #[.slice q 1 c, .string (bs sep)] R w := by
  refine g_strings_Join.sound ?_
  obtain ⟨_, _, hz | ⟨tb, sp, rfl, rfl, _⟩⟩ := hS
  · omega
  · refine br_false rfl (br_true rfl ⟨by decide, by decide, nilP_some ?_⟩)
    exact ⟨_, Sat.ld h (.head _) rfl, hR _ h⟩
end Go.Proofs.YtejiaegiijokcaaGreatDoor


set_option linter.unusedVariables false
namespace Go.Proofs.YtejiaegiijokcaaGreatDoor
open Go.Proofs Go.IntWalk
variable {σ : Out} {w : World} {L L' : List Chunk} {R : Ending → World → Prop}

theorem pos_ok {b : Nat} {p : PS} {l : List OB} {o : OB} {M : List Chunk} (h : Sat σ w (p.at b :: M ++ L)) (hs : Stk p (l ++ [o]) M)
    (hR : ∀ w, Sat σ w (p.at b :: M ++ L) → R (.returned (.agg #[.int .i64 o.s, .int .i64 o.e])) w) : callE P i_parseState_pos #[.pointer (some ⟨b, 0, none⟩)] R w := by
  obtain ⟨sb, sp, hq, rfl, hsp⟩ := hs.split (by simp)
  have hn := hs.2.1
  have hlt := hs.2.2
  rw [List.length_append, List.length_singleton] at hn hlt
  refine g_parseState_pos.sound ?_
  refine Sat.bx h fun b1 w h => ?_
  repeat (first | refine nilP_some ?_ | refine Sat.tk h fun w h => ?_ | refine ⟨_, Sat.ld h (by first | assumption | (repeat (first | exact .head _ | apply List.Mem.tail))) (by exact rfl), ?_⟩ | refine ⟨_, _, _, Sat.ld h (by first | assumption | (repeat (first | exact .head _ | apply List.Mem.tail))) (by exact rfl), ?_⟩)
  rw [hn, len_dec (by omega)]
  refine ⟨by omega, by omega, ?_⟩
  rw [hq]
  refine nilP_some ?_
  simp only [Addr.add_lit, Nat.zero_add, Int.toNat_natCast, Nat.add_zero]
  refine ⟨_, Sat.ld h (by first | assumption | (repeat (first | exact .head _ | apply List.Mem.tail))) (stk_get (f := 2) (by decide) (last_get o)), ?_⟩
  refine ⟨_, Sat.ld h (by first | assumption | (repeat (first | exact .head _ | apply List.Mem.tail))) (stk_get (f := 3) (by decide) (last_get o)), ?_⟩
  repeat (first | refine nilP_some ?_ | refine Sat.tk h fun w h => ?_ | refine ⟨_, Sat.ld h (by first | assumption | (repeat (first | exact .head _ | apply List.Mem.tail))) (by exact rfl), ?_⟩ | refine ⟨_, _, _, Sat.ld h (by first | assumption | (repeat (first | exact .head _ | apply List.Mem.tail))) (by exact rfl), ?_⟩ | refine Sat.st h (k := 0) rfl (Nat.le_of_ble_eq_true rfl) trivial (by first | (dsimp only [List.set]; exact rfl) | exact rfl) fun w h => ?_ | refine Sat.st h (k := 1) rfl (Nat.le_of_ble_eq_true rfl) trivial (by first | (dsimp only [List.set]; exact rfl) | exact rfl) fun w h => ?_ | refine Sat.st h (k := 2) rfl (Nat.le_of_ble_eq_true rfl) trivial (by first | (dsimp only [List.set]; exact rfl) | exact rfl) fun w h => ?_ | refine Sat.st h (k := 3) rfl (Nat.le_of_ble_eq_true rfl) trivial (by first | (dsimp only [List.set]; exact rfl) | exact rfl) fun w h => ?_ | refine Sat.st h (k := 4) rfl (Nat.le_of_ble_eq_true rfl) trivial (by first | (dsimp only [List.set]; exact rfl) | exact rfl) fun w h => ?_ | refine Sat.st h (k := 5) rfl (Nat.le_of_ble_eq_true rfl) trivial (by first | (dsimp only [List.set]; exact rfl) | exact rfl) fun w h => ?_ | refine Sat.st h (k := 6) rfl (Nat.le_of_ble_eq_true rfl) trivial (by first | (dsimp only [List.set]; exact rfl) | exact rfl) fun w h => ?_ | refine Sat.bx h fun b0 w h => ?_)
  exact hR _ h.tail

noncomputable def rowText : Row P ty_S_P_Text ty_P_Text 1 8 :=
  ⟨(P.info? ty_P_Text).getD default, ((P.info? ty_P_Text).bind (·.zero)).getD default, by kernel_rfl, by kernel_rfl, by kernel_rfl, by kernel_rfl, by kernel_rfl, by kernel_rfl, by decide⟩
def Txts (p : PS) (ts : List Nat) (M : List Chunk) : Prop := Sl 1 ty_P_Text p.tq p.tn p.tc (ts.map fun t => .pointer (some ⟨t, 0, none⟩)) M ∧ p.tn = ts.length ∧ ts.length < 1048576
def textC (t : Nat) (s e : Nat) (q : Option Addr) (n c : Nat) (raw : List UInt8) : Chunk := (t, cel [.int .i64 s, .int .i64 e, .slice q n c, .string (bs raw)] ty_Text)
theorem newText_ok {b s e : Nat} {p : PS} {ts : List Nat} {TM : List Chunk} {raw : List UInt8} (h : Sat σ w (p.at b :: TM ++ L)) (ht : Txts p ts TM) (hlen : ts.length < 1048575)
    (hR : ∀ w p' TM' t, p' = { p with tq := p'.tq, tn := ts.length + 1, tc := p'.tc } → Txts p' (ts ++ [t]) TM' → Sat σ w (p'.at b :: TM' ++ (textC t s e none 0 0 raw :: L)) →
      R (.returned (.pointer (some ⟨t, 0, none⟩))) w) :
    callE P i_parseState_newText #[.pointer (some ⟨b, 0, none⟩), .agg #[.int .i64 s, .int .i64 e], .string (bs raw)] R w := by
  have hn := ht.2.1
  refine g_parseState_newText.sound ?_
  refine Sat.bx h fun b1 w h => ?_
  repeat (first | refine nilP_some ?_ | refine Sat.tk h fun w h => ?_ | refine ⟨_, Sat.ld h (by first | assumption | (repeat (first | exact .head _ | apply List.Mem.tail))) (by exact rfl), ?_⟩ | refine ⟨_, _, _, Sat.ld h (by first | assumption | (repeat (first | exact .head _ | apply List.Mem.tail))) (by exact rfl), ?_⟩)
  refine Sat.bx h fun t w h => ?_
  repeat (first | refine nilP_some ?_ | refine Sat.tk h fun w h => ?_ | refine ⟨_, Sat.ld h (by first | assumption | (repeat (first | exact .head _ | apply List.Mem.tail))) (by exact rfl), ?_⟩ | refine ⟨_, _, _, Sat.ld h (by first | assumption | (repeat (first | exact .head _ | apply List.Mem.tail))) (by exact rfl), ?_⟩)
  have h : Sat σ w (textC t s e none 0 0 raw :: (b1, cel [.int .i64 s, .int .i64 e] ty_Position) :: (p.at b :: TM ++ L)) := h
  have h : Sat σ w (TM ++ (p.at b :: textC t s e none 0 0 raw :: L)) := h.less [(b1, cel [.int .i64 s, .int .i64 e] ty_Position)] (by intro _; simp only [List.append_eq, cnt_append, cnt_cons, cnt_nil] <;> omega)
  refine Sat.app1 rowText ht.1 h (v := .pointer (some ⟨t, 0, none⟩)) rfl (by simp [Value.cells, Value.oneCell']) (by kernel_rfl) (by omega) (by omega) (by decide) fun q' c' w TM' hS' h => ?_
  have h : Sat σ w (p.at b :: TM' ++ (textC t s e none 0 0 raw :: L)) := h.re (by intro _; simp only [List.append_eq, cnt_append, cnt_cons, cnt_nil] <;> omega)
  rw [hn] at hS' ⊢
  let p' : PS := { p with tq := q', tn := ts.length + 1, tc := c' }
  repeat (first | refine nilP_some ?_ | refine Sat.tk h fun w h => ?_ | refine ⟨_, Sat.ld h (by first | assumption | (repeat (first | exact .head _ | apply List.Mem.tail))) (by exact rfl), ?_⟩ | refine ⟨_, _, _, Sat.ld h (by first | assumption | (repeat (first | exact .head _ | apply List.Mem.tail))) (by exact rfl), ?_⟩ | refine Sat.st h (k := 0) rfl (Nat.le_of_ble_eq_true rfl) trivial (by first | (dsimp only [List.set]; exact rfl) | exact rfl) fun w h => ?_ | refine Sat.st h (k := 1) rfl (Nat.le_of_ble_eq_true rfl) trivial (by first | (dsimp only [List.set]; exact rfl) | exact rfl) fun w h => ?_ | refine Sat.st h (k := 2) rfl (Nat.le_of_ble_eq_true rfl) trivial (by first | (dsimp only [List.set]; exact rfl) | exact rfl) fun w h => ?_ | refine Sat.st h (k := 3) rfl (Nat.le_of_ble_eq_true rfl) trivial (by first | (dsimp only [List.set]; exact rfl) | exact rfl) fun w h => ?_ | refine Sat.st h (k := 4) rfl (Nat.le_of_ble_eq_true rfl) trivial (by first | (dsimp only [List.set]; exact rfl) | exact rfl) fun w h => ?_ | refine Sat.st h (k := 5) rfl (Nat.le_of_ble_eq_true rfl) trivial (by first | (dsimp only [List.set]; exact rfl) | exact rfl) fun w h => ?_ | refine Sat.st h (k := 6) rfl (Nat.le_of_ble_eq_true rfl) trivial (by first | (dsimp only [List.set]; exact rfl) | exact rfl) fun w h => ?_ | refine Sat.bx h fun b0 w h => ?_)
  refine hR _ p' TM' t rfl ⟨?_, by simp [p'], by simp; omega⟩ h
  rw [List.map_append]
  exact hS'
end Go.Proofs.YtejiaegiijokcaaGreatDoor


set_option linter.unusedVariables false
namespace Go.Proofs.YtejiaegiijokcaaGreatDoor
open Go.Proofs Go.IntWalk
variable {σ : Out} {w : World} {L L' : List Chunk} {R : Ending → World → Prop}

theorem und_table : P.underlying ty_P_tableBuilder = some (.pointer ty_tableBuilder) := by kernel_rfl
def paraC (nb s e t : Nat) : Chunk := (nb, cel [.int .i64 s, .int .i64 e, .pointer (some ⟨t, 0, none⟩)] ty_Paragraph)
theorem Stk.of {p p' : PS} {l : List OB} {M : List Chunk} (h : Stk p l M) (h1 : p'.stq = p.stq) (h2 : p'.stn = p.stn) (h3 : p'.stc = p.stc) : Stk p' l M := by
  unfold Stk at *; rw [h1, h2, h3]; exact h
theorem Txts.of {p p' : PS} {l : List Nat} {M : List Chunk} (h : Txts p l M) (h1 : p'.tq = p.tq) (h2 : p'.tn = p.tn) (h3 : p'.tc = p.tc) : Txts p' l M := by
  unfold Txts at *; rw [h1, h2, h3]; exact h
end Go.Proofs.YtejiaegiijokcaaGreatDoor


set_option linter.unusedVariables false
namespace Go.Proofs.YtejiaegiijokcaaGreatDoor
open Go.Proofs Go.IntWalk
variable {σ : Out} {w : World} {L L' : List Chunk} {R : Ending → World → Prop}

theorem equalIn_iface_nil {t u : TypeId} {v : Value} {ms : Array (String × TypeId)} (hu : P.underlying t = some (.interface ms)) (d : Nat) (w : World) :
    (Op.equalIn (d + 1) t (.iface u v) .nilIface).run P w = .ok false w := by
  simp [Op.equalIn, run_underlying hu]
theorem eq_iface_nil {t u : TypeId} {v : Value} {ms : Array (String × TypeId)} (hu : P.underlying t = some (.interface ms)) (x y : Operand) (w : World) :
    (do eqGuard .eql t x y (.iface u v) .nilIface; binOp .eql t (.iface u v) .nilIface).run P w = .ok (.bool false) w :=
  bin_eq rfl rfl (equalIn_iface_nil hu 9999 w)
theorem ta_list_no {t : TypeId} {v : Value} (ht : t ≠ ty_P_List) (w : World) :
    (Instr.typeAssert (.iface t v) ty_Block ty_P_List true).run P w = .ok (.tuple #[.pointer none, .bool false]) w := by
  have hund : P.underlying ty_P_List = some (.pointer ty_List) := by kernel_rfl
  exact ta_no (by rw [hund]; intro ms h; cases h) hund ht (i := (P.info? ty_P_List).getD default) (by kernel_rfl) (by kernel_rfl) w
theorem sliceTo {P : Program} {t e : TypeId} {i : TypeInfo} (ht : P.underlying t = some (.slice e)) (hi : P.info? e = some i) (b n c m : Nat) (hm : m ≤ n) (hc : n ≤ c) (w : World) :
    (Instr.sliceAt t (.slice (some ⟨b, 0, none⟩) n c) none (some (.int .i64 m)) none).run P w = .ok (.slice (some ⟨b, 0, none⟩) m c) w := by
  have h1 : ¬ ((m : Int) < 0) := by omega
  have h2 : ¬ ((c : Int) < (m : Int)) := by omega
  simp [Instr.sliceAt, Instr.slice, Instr.sliceBounds, run_underlying ht, sizeOf, typeInfo, hi, run_sliceBound w .i64 (m : Int) c .sliceAcap (by omega) (by omega), Addr.add_lit]
end Go.Proofs.YtejiaegiijokcaaGreatDoor


set_option linter.unusedVariables false
namespace Go.Proofs.YtejiaegiijokcaaGreatDoor
open Go.Proofs Go.IntWalk
variable {σ : Out} {w : World} {L L' : List Chunk} {R : Ending → World → Prop}

noncomputable def rowBlock : Row P ty_S_Block ty_Block 1 16 :=
  ⟨(P.info? ty_Block).getD default, ((P.info? ty_Block).bind (·.zero)).getD default, by kernel_rfl, by kernel_rfl, by kernel_rfl, by kernel_rfl, by kernel_rfl, by kernel_rfl, by decide⟩
theorem closeBlock_ok {b : Nat} {p : PS} {ob : List OB} {par o : OB} {M IM : List Chunk} {inner : List Value} {t : TypeId} {v : Value} (Post : PS → List Chunk → TypeId → Option Addr → Prop)
    (h : Sat σ w (p.at b :: M ++ (IM ++ L))) (hs : Stk p (ob ++ [par] ++ [o]) M) (ho : o.bd = .iface t v) (hI : Sl 1 ty_Block par.q par.n par.c inner IM) (hin : par.n < 1000000)
    (hb : ∀ (R' : Ending → World → Prop) w, Sat σ w (p.at b :: M ++ (IM ++ L)) →
      (∀ w p1 L1 tb q, p1.stq = p.stq → p1.stn = p.stn → p1.stc = p.stc → tb ≠ ty_P_List → Post p1 L1 tb q → Sat σ w (p1.at b :: M ++ (IM ++ L1)) → R' (.returned (.iface tb (.pointer q))) w) →
      enterE P (callMethod o.bd "pub-paratext/pub/rscmarkdown.build" #[.iface ty_P_parseState (.pointer (some ⟨b, 0, none⟩))]) R' w)
    (hR : ∀ w p2 M2 IM2 p1 L1 tb q q' c', Post p1 L1 tb q → p2 = { p1 with stn := ob.length + 1 } → Stk p2 (ob ++ [{ par with q := q', n := par.n + 1, c := c' }]) M2 →
      Sl 1 ty_Block q' (par.n + 1) c' (inner ++ [.iface tb (.pointer q)]) IM2 → Sat σ w (p2.at b :: M2 ++ (IM2 ++ L1)) → R (.returned (.iface tb (.pointer q))) w) :
    callE P i_parseState_closeBlock #[.pointer (some ⟨b, 0, none⟩)] R w := by
  have hlt := hs.2.2
  have hn := hs.2.1
  obtain ⟨sb, sp, hq, rfl, hsp⟩ := hs.split (by simp)
  simp only [List.length_append, List.length_singleton] at hn hlt
  refine g_parseState_closeBlock.sound ?_
  refine Sat.tk h fun w h => ?_
  refine nilP_some (nilP_some ?_)
  refine ⟨_, _, _, Sat.ld h (by first | assumption | (repeat (first | exact .head _ | apply List.Mem.tail))) (by exact rfl), ?_⟩
  refine ⟨_, _, _, Sat.ld h (by first | assumption | (repeat (first | exact .head _ | apply List.Mem.tail))) (by exact rfl), ?_⟩
  rw [hn, len_dec (by omega)]
  refine ⟨by omega, by omega, ?_⟩
  rw [hq]
  refine nilP_some ?_
  simp only [Addr.add_lit, Nat.zero_add, Int.toNat_natCast]
  have hg : ((ob ++ [par]) ++ [o])[ob.length + 1]? = some o := by simp
  refine ⟨o.bd, Sat.ld h (.tail _ (.head _)) (stk_get (f := 0) (by decide) hg), false, w, by rw [ho]; exact eq_iface_nil und_bb _ _ w, br_false rfl ?_⟩
  refine nilP_some ?_
  refine ⟨o.bd, Sat.ld h (.tail _ (.head _)) (stk_get (f := 0) (by decide) hg), ?_⟩
  refine hb _ w h fun w p1 L1 tb q h1 h2 h3 htb hpost h => ⟨_, rfl, none, false, w, ta_list_no htb w, br_false rfl ?_⟩
  have hq1 : p1.stq = some ⟨sb, 0, none⟩ := by rw [h1, hq]
  have hn1 : p1.stn = ob.length + 1 + 1 := by rw [h2, hn]
  refine Sat.tk h fun w h => ?_
  refine nilP_some (nilP_some ?_)
  refine ⟨_, _, _, Sat.ld h (by first | assumption | (repeat (first | exact .head _ | apply List.Mem.tail))) (by exact rfl), ?_⟩
  refine ⟨_, _, _, Sat.ld h (by first | assumption | (repeat (first | exact .head _ | apply List.Mem.tail))) (by exact rfl), ?_⟩
  rw [hn1, len_dec (by omega), hq1]
  have hcap : ob.length + 1 + 1 ≤ p1.stc := by have := hs.1.2.1; rw [hn] at this; rw [h3]; exact this
  refine ⟨_, _, _, fun w => sliceTo rowOB.ht rowOB.hi sb (ob.length + 1 + 1) p1.stc (ob.length + 1) (by omega) hcap w, ?_⟩
  refine nilP_some ?_
  refine Sat.st h (k := 0) rfl (Nat.le_of_ble_eq_true rfl) trivial (by first | (dsimp only [List.set]; exact rfl) | exact rfl) fun w h => ?_
  let p2 : PS := { p1 with stq := some ⟨sb, 0, none⟩, stn := ob.length + 1 }
  have hp2 : p2 = { p1 with stn := ob.length + 1 } := by simp only [p2, ← hq1]
  have h : Sat σ w (p2.at b :: [(sb, cel (obCells (ob ++ [par]) ++ (o.cells ++ sp)) ty_openBlock)] ++ (IM ++ L1)) := by
    rw [obCells_snoc, List.append_assoc] at h
    exact h
  refine nilP_some ?_
  refine ⟨_, _, _, Sat.ld h (by first | assumption | (repeat (first | exact .head _ | apply List.Mem.tail))) (by exact rfl), ?_⟩
  refine br_true (by simp [p2]) ?_
  refine Sat.tk h fun w h => ?_
  refine nilP_some (nilP_some ?_)
  refine ⟨_, _, _, Sat.ld h (by first | assumption | (repeat (first | exact .head _ | apply List.Mem.tail))) (by exact rfl), ?_⟩
  refine ⟨_, _, _, Sat.ld h (by first | assumption | (repeat (first | exact .head _ | apply List.Mem.tail))) (by exact rfl), ?_⟩
  rw [show p2.stn = ob.length + 1 from rfl, len_dec (by omega), show p2.stq = some ⟨sb, 0, none⟩ from rfl]
  refine ⟨by omega, by omega, nilP_some ?_⟩
  simp only [Addr.add_lit, Nat.zero_add, Int.toNat_natCast, Nat.add_zero]
  refine ⟨_, _, _, Sat.ld h (.tail _ (.head _)) (stk_get (f := 1) (by decide) (last_get par)), ?_⟩
  have h : Sat σ _ (IM ++ (p2.at b :: (sb, cel (obCells (ob ++ [par]) ++ (o.cells ++ sp)) ty_openBlock) :: L1)) := h.re (by intro _; simp only [List.append_eq, cnt_append, cnt_cons, cnt_nil] <;> omega)
  refine Sat.app1 rowBlock hI h (v := .iface tb (.pointer q)) rfl (by simp [Value.cells, Value.oneCell']) (by kernel_rfl) (by omega) (by omega) (by decide) fun q' c' w IM2 hI' h => ?_
  have h : Sat σ _ (p2.at b :: (sb, cel (obCells (ob ++ [par]) ++ (o.cells ++ sp)) ty_openBlock) :: (IM2 ++ L1)) := h.re (by intro _; simp only [List.append_eq, cnt_append, cnt_cons, cnt_nil] <;> omega)
  refine Sat.st h (k := 1) rfl (by rw [List.length_append, obCells_length, List.length_append, List.length_singleton]; omega) trivial rfl fun w h => ?_
  have e := stk_set (l := ob) (sp := o.cells ++ sp) (o := par) (o' := { par with q := q', n := par.n + 1, c := c' }) (f := 1) (v := .slice q' (par.n + 1) c') (by decide) rfl
  have h : Sat σ w (p2.at b :: (sb, cel (obCells (ob ++ [{ par with q := q', n := par.n + 1, c := c' }]) ++ (o.cells ++ sp)) ty_openBlock) :: (IM2 ++ L1)) := by
    rw [← e]; exact h
  have hs2 : Stk p2 (ob ++ [{ par with q := q', n := par.n + 1, c := c' }]) [(sb, cel (obCells (ob ++ [{ par with q := q', n := par.n + 1, c := c' }]) ++ (o.cells ++ sp)) ty_openBlock)] := by
    refine Stk.mk' rfl ?_ (by simp [p2]) (by simp; omega)
    show _ = p1.stc * 4
    rw [h3, ← hsp]
    simp only [List.length_append, obCells_length, List.length_singleton, OB.cells, List.length_cons, List.length_nil]
    omega
  refine hR w p2 _ IM2 p1 L1 tb q q' c' hpost hp2 hs2 hI' h
end Go.Proofs.YtejiaegiijokcaaGreatDoor


set_option linter.unusedVariables false
namespace Go.Proofs.YtejiaegiijokcaaGreatDoor
open Go.Proofs Go.IntWalk
variable {σ : Out} {w : World} {L L' : List Chunk} {R : Ending → World → Prop}

def docC (db s e : Nat) (q : Option Addr) (n c : Nat) (links : Option Nat) : Chunk := (db, cel [.int .i64 s, .int .i64 e, .slice q n c, .map links] ty_Document)
theorem rootBuild_ok {b : Nat} {rq : Option Addr} {p : PS} {ob : List OB} {o : OB} {M : List Chunk} (h : Sat σ w (p.at b :: M ++ L)) (hs : Stk p (ob ++ [o]) M)
    (hR : ∀ w db, Sat σ w (p.at b :: M ++ (docC db o.s o.e o.q o.n o.c p.links :: L)) → R (.returned (.iface ty_P_Document (.pointer (some ⟨db, 0, none⟩)))) w) :
    callE P i_rootBuilder_build #[.pointer rq, .iface ty_P_parseState (.pointer (some ⟨b, 0, none⟩))] R w := by
  refine g_rootBuilder_build.sound ?_
  refine Sat.tk h fun w h => ?_
  refine ⟨_, ta_ps _, nilP_some ?_⟩
  refine ⟨_, Sat.ld h (by first | assumption | (repeat (first | exact .head _ | apply List.Mem.tail))) (by exact rfl), ?_⟩
  have h0 := h
  refine enter_meth meth_pos ?_
  refine pos_ok h hs fun w h => ⟨_, _, rfl, h0.same h (.head _) (.head _) 1, ?_⟩
  have h1 := h
  refine enter_meth meth_blocks ?_
  refine blocks_ok h hs fun w h => ⟨_, _, _, rfl, h1.same h (.head _) (.head _) 1, ?_⟩
  refine Sat.bx h fun db w h => ?_
  have h : Sat σ w (docC db o.s o.e o.q o.n o.c p.links :: (p.at b :: M ++ L)) := h
  exact hR w db (h.re (by intro _; simp only [List.append_eq, cnt_append, cnt_cons, cnt_nil] <;> omega))
theorem ta_doc (q : Option Addr) (w : World) : (Instr.typeAssert (.iface ty_P_Document (.pointer q)) ty_Block ty_P_Document false).run P w = .ok (.pointer q) w := by
  have hund : P.underlying ty_P_Document = some (.pointer ty_Document) := by kernel_rfl
  exact ta_yes1 (by rw [hund]; intro ms h; cases h) hund w
theorem closeRoot_ok {b rb : Nat} {p : PS} {o : OB} {M : List Chunk} (h : Sat σ w (p.at b :: M ++ L)) (hs : Stk p [o] M) (ho : o.bd = .iface ty_P_rootBuilder (.pointer (some ⟨rb, 0, none⟩)))
    (hR : ∀ w db, Sat σ w ({ p with stn := 0, root := some ⟨db, 0, none⟩ }.at b :: M ++ (docC db o.s o.e o.q o.n o.c p.links :: L)) → R (.returned (.iface ty_P_Document (.pointer (some ⟨db, 0, none⟩)))) w) :
    callE P i_parseState_closeBlock #[.pointer (some ⟨b, 0, none⟩)] R w := by
  have hn := hs.2.1
  have hs' : Stk p ([] ++ [o]) M := hs
  obtain ⟨sb, sp, hq, rfl, hsp⟩ := hs.split (by simp)
  simp only [List.length_singleton] at hn
  refine g_parseState_closeBlock.sound ?_
  refine Sat.tk h fun w h => ?_
  refine nilP_some (nilP_some ?_)
  refine ⟨_, _, _, Sat.ld h (by first | assumption | (repeat (first | exact .head _ | apply List.Mem.tail))) (by exact rfl), ?_⟩
  refine ⟨_, _, _, Sat.ld h (by first | assumption | (repeat (first | exact .head _ | apply List.Mem.tail))) (by exact rfl), ?_⟩
  rw [hn, show IntKind.i64.wrap (((1 : Nat) : Int) - 1) = ((0 : Nat) : Int) from rfl]
  refine ⟨by omega, by omega, ?_⟩
  rw [hq]
  refine nilP_some ?_
  simp only [Addr.add_lit, Nat.zero_add, Int.toNat_natCast, Nat.zero_mul]
  have hg : (([] : List OB) ++ [o])[0]? = some o := rfl
  refine ⟨o.bd, Sat.ld h (.tail _ (.head _)) rfl, false, w, by rw [ho]; exact eq_iface_nil und_bb _ _ w, br_false rfl ?_⟩
  refine nilP_some ?_
  refine ⟨o.bd, Sat.ld h (.tail _ (.head _)) rfl, ?_⟩
  rw [ho]
  refine enter_meth meth_rootBuild ?_
  refine rootBuild_ok (ob := []) h hs' fun w db h => ⟨_, rfl, none, false, w, ta_list_no (by decide) w, br_false rfl ?_⟩
  refine Sat.tk h fun w h => ?_
  refine nilP_some (nilP_some ?_)
  refine ⟨_, _, _, Sat.ld h (by first | assumption | (repeat (first | exact .head _ | apply List.Mem.tail))) (by exact rfl), ?_⟩
  refine ⟨_, _, _, Sat.ld h (by first | assumption | (repeat (first | exact .head _ | apply List.Mem.tail))) (by exact rfl), ?_⟩
  have hcap : 1 ≤ p.stc := by have := hs.1.2.1; rw [hn] at this; exact this
  rw [hn, show IntKind.i64.wrap (((1 : Nat) : Int) - 1) = ((0 : Nat) : Int) from rfl, hq]
  refine ⟨_, _, _, fun w => sliceTo rowOB.ht rowOB.hi sb 1 p.stc 0 (by omega) hcap w, ?_⟩
  refine nilP_some ?_
  refine Sat.st h (k := 0) rfl (Nat.le_of_ble_eq_true rfl) trivial (by first | (dsimp only [List.set]; exact rfl) | exact rfl) fun w h => ?_
  refine nilP_some ?_
  refine ⟨_, _, _, Sat.ld h (by first | assumption | (repeat (first | exact .head _ | apply List.Mem.tail))) (by exact rfl), ?_⟩
  refine br_false rfl ?_
  refine ⟨_, _, ta_doc _ _, nilP_some ?_⟩
  refine Sat.st h (k := 0) rfl (Nat.le_of_ble_eq_true rfl) trivial (by first | (dsimp only [List.set]; exact rfl) | exact rfl) fun w h => ?_
  refine hR _ db ?_
  have e : ({ p with stn := 0, root := some ⟨db, 0, none⟩ } : PS) = { p with stq := some ⟨sb, 0, none⟩, stn := 0, root := some ⟨db, 0, none⟩ } := by rw [← hq]
  rw [e]
  exact h
end Go.Proofs.YtejiaegiijokcaaGreatDoor


set_option linter.unusedVariables false
namespace Go.Proofs.YtejiaegiijokcaaGreatDoor
open Go.Proofs Go.IntWalk
variable {σ : Out} {w : World} {L L' : List Chunk} {R : Ending → World → Prop}

noncomputable def rowInl : Row P ty_S_Inline ty_Inline 1 16 :=
  ⟨(P.info? ty_Inline).getD default, ((P.info? ty_Inline).bind (·.zero)).getD default, by kernel_rfl, by kernel_rfl, by kernel_rfl, by kernel_rfl, by kernel_rfl, by kernel_rfl, by decide⟩
def Inls (p : PS) (vs : List Value) (M : List Chunk) : Prop := Sl 1 ty_Inline p.lq p.ln p.lc vs M ∧ vs.length < 4294967296
def plainC (b : Nat) (s : List UInt8) : Chunk := (b, cel [.string (bs s)] ty_Plain)

theorem skipTo_ok {b : Nat} {p : PS} {i : Int} (h : Sat σ w (p.at b :: L)) (hR : ∀ w, Sat σ w ({ p with em := i }.at b :: L) → R (.returned (.tuple #[])) w) :
    callE P i_parseState_skip #[.pointer (some ⟨b, 0, none⟩), .int .i64 i] R w := by
  refine g_parseState_skip.sound ?_
  refine nilP_some ?_
  refine Sat.st h (k := 0) rfl (Nat.le_of_ble_eq_true rfl) trivial (by first | (dsimp only [List.set]; exact rfl) | exact rfl) fun w h => ?_
  exact hR _ h
theorem emit_no {b : Nat} {p : PS} {i : Int} (h : Sat σ w (p.at b :: L)) (hi : i ≤ p.em) (hR : ∀ w, Sat σ w (p.at b :: L) → R (.returned (.tuple #[])) w) :
    callE P i_parseState_emit #[.pointer (some ⟨b, 0, none⟩), .int .i64 i] R w := by
  refine g_parseState_emit.sound ?_
  refine nilP_some ?_
  refine ⟨_, Sat.ld h (by first | assumption | (repeat (first | exact .head _ | apply List.Mem.tail))) (by exact rfl), ?_⟩
  exact br_false (by simpa using hi) (hR _ h)
theorem emit_ok {b i e : Nat} {p : PS} {vs : List Value} {M : List Chunk} (h : Sat σ w (p.at b :: M ++ L)) (hv : Inls p vs M) (he : p.em = e) (hi : e < i) (hl : i ≤ p.s.length) (hn : vs.length < 4294967295)
    (hR : ∀ w p' M' nb, p' = { p with em := i, lq := p'.lq, ln := vs.length + 1, lc := p'.lc } → Inls p' (vs ++ [.iface ty_P_Plain (.pointer (some ⟨nb, 0, none⟩))]) M' →
      Sat σ w (p'.at b :: M' ++ (plainC nb ((p.s.take i).drop e) :: L)) → R (.returned (.tuple #[])) w) :
    callE P i_parseState_emit #[.pointer (some ⟨b, 0, none⟩), .int .i64 i] R w := by
  have hln : p.ln = vs.length := by have := hv.1.1; omega
  refine g_parseState_emit.sound ?_
  refine nilP_some ?_
  refine ⟨_, Sat.ld h (by first | assumption | (repeat (first | exact .head _ | apply List.Mem.tail))) (by exact rfl), ?_⟩
  rw [he]
  refine br_true (by simpa using hi) ?_
  refine Sat.tk h fun w h => ?_
  refine nilP_some (nilP_some (nilP_some ?_))
  refine ⟨_, _, _, Sat.ld h (by first | assumption | (repeat (first | exact .head _ | apply List.Mem.tail))) (by exact rfl), ?_⟩
  refine ⟨_, Sat.ld h (by first | assumption | (repeat (first | exact .head _ | apply List.Mem.tail))) (by exact rfl), ?_⟩
  refine ⟨_, Sat.ld h (by first | assumption | (repeat (first | exact .head _ | apply List.Mem.tail))) (by exact rfl), ?_⟩
  rw [he]
  refine ⟨by omega, by omega, by simp; omega, ?_⟩
  rw [Int.toNat_natCast, Int.toNat_natCast, bs_extract]
  have h0 := h
  refine Sat.bx h fun nb w h => ?_
  refine ⟨h0.same h (.head _) (.tail _ (.head _)) 1, ?_⟩
  have h : Sat σ w (M ++ (p.at b :: plainC nb ((p.s.take i).drop e) :: L)) := Sat.re (L := plainC nb ((p.s.take i).drop e) :: (p.at b :: M ++ L)) h (by intro _; simp only [List.append_eq, cnt_append, cnt_cons, cnt_nil] <;> omega)
  have hs0 := h0
  refine Sat.app1S rowInl hv.1 h (v := .iface ty_P_Plain (.pointer (some ⟨nb, 0, none⟩))) rfl (by simp [Value.cells, Value.oneCell']) (by kernel_rfl) (by omega) (by omega) (by decide)
    (C := fun w1 => SameC _ w1 _ 1) (fun w1 X h' => Sat.same h h' (b := b) (o := cel p.cells ty_parseState) (by simp) (by simp) 1) fun q' c' w M' hS' h => ?_
  have h : Sat σ w (p.at b :: M' ++ (plainC nb ((p.s.take i).drop e) :: L)) := h.re (by intro _; simp only [List.append_eq, cnt_append, cnt_cons, cnt_nil] <;> omega)
  let p' : PS := { p with em := i, lq := q', ln := p.ln + 1, lc := c' }
  refine nilP_some ?_
  refine Sat.st h (k := 0) rfl (Nat.le_of_ble_eq_true rfl) trivial (by first | (dsimp only [List.set]; exact rfl) | exact rfl) fun w h => ?_
  refine nilP_some ?_
  refine Sat.st h (k := 0) rfl (Nat.le_of_ble_eq_true rfl) trivial (by first | (dsimp only [List.set]; exact rfl) | exact rfl) fun w h => ?_
  refine hR _ p' M' nb (by simp [p', hln]) ⟨hS', by simp; omega⟩ h
end Go.Proofs.YtejiaegiijokcaaGreatDoor


set_option linter.unusedVariables false
set_option maxRecDepth 20000
namespace Go.Proofs.YtejiaegiijokcaaGreatDoor
open Go.Proofs
namespace g_Document_PrintHTML
noncomputable def body : Code := bodyOf Tryz.f252
def bl1 (R : EP) (Xa : OA → OA → Nat → Nat → Int → Int → WP) (x1 : OA) (x9q : OA) (x9n : Nat) (x9c : Nat) (x10 : Int) (x11 : Int) (w : World) : Prop :=
 br (decide (x11 < x10))
 (0 ≤ x11 ∧ x11 < (x9n : Int) ∧
 nilP x9q fun a3 =>
 ∃ (v4 : Value), w.cell? (a3.add (Int.toNat x11 * 1)) = some v4 ∧
 enterE P (callMethod v4 "PrintHTML" #[.pointer x1]) (fun e w6 => e = .returned (.tuple #[]) ∧
 Xa x1 x9q x9n x9c x10 (IntKind.i64.wrap (x11 + 1)) w6) w)
 (R (.returned (.tuple #[])) w)
def l1 (R : EP) (x1 : OA) (x9q : OA) (x9n : Nat) (x9c : Nat) (x10 : Int) (x11 : Int) (w : World) : Prop :=
  ∀ X : OA → OA → Nat → Nat → Int → Int → WP, (∀ x1 x9q x9n x9c x10 x11 w, bl1 R X x1 x9q x9n x9c x10 x11 w → X x1 x9q x9n x9c x10 x11 w) → X x1 x9q x9n x9c x10 x11 w

noncomputable def al1 (R : EP) (Xa : OA → OA → Nat → Nat → Int → Int → WP) : AC :=
  (.leaf (sel [1, 0, 0] body))
end g_Document_PrintHTML
def g_Document_PrintHTML (R : EP) (x0 : OA) (x1 : OA) (w : World) : Prop :=
 nilP x0 fun a1 =>
 ∃ (v2q : OA), ∃ (v2n : Nat), ∃ (v2c : Nat), w.cell? (a1.add 2) = some (.slice v2q v2n v2c) ∧
 g_Document_PrintHTML.l1 R x1 v2q v2n v2c (v2n : Int) 0 w

noncomputable def g_Document_PrintHTML.ac (R : EP) : AC :=
  (.seq (.leaf (sel [0] g_Document_PrintHTML.body)) (.block 0 (.loop (leaf [(1, .s .ptr), (9, .s .slice), (10, .s (.int .i64)), (11, .s (.int .i64))] (g_Document_PrintHTML.l1 R)) (sel [1, 0, 0] g_Document_PrintHTML.body))))
theorem g_Document_PrintHTML.good (R : EP) : Good P 19 (g_Document_PrintHTML.ac R) (QF P [] R) :=
  ⟨trivial, (loopG (g_Document_PrintHTML.al1 R) (g_Document_PrintHTML.bl1 R) (fun _ => by kernel_rfl) (fun Xa => trivial) (fun Xa => by intro x1 x9q x9n x9c x10 x11 ρ w; kernel_rfl) (fun X h _ _ _ _ _ _ _ g => g X h))⟩
theorem g_Document_PrintHTML.eq (R : EP) (x0 : OA) (x1 : OA) (w : World) : g_Document_PrintHTML R x0 x1 w = vcA P 19 (g_Document_PrintHTML.ac R) (QF P [] R) (fr0 [.pointer x0, .pointer x1]) w := by kernel_rfl
theorem g_Document_PrintHTML.sound {R : EP} {x0 : OA} {x1 : OA} {w : World} (h : g_Document_PrintHTML R x0 x1 w) : callE P i_Document_PrintHTML #[.pointer x0, .pointer x1] R w :=
  callE_fin (c := g_Document_PrintHTML.body) Tryz.func252 Tryz.call252 (by kernel_rfl) (by kernel_rfl) (by kernel_rfl) (by kernel_rfl) (by kernel_rfl) (g_Document_PrintHTML.good R) (g_Document_PrintHTML.eq R x0 x1 w) h
namespace g_Paragraph_PrintHTML
noncomputable def body : Code := bodyOf Tryz.f289
end g_Paragraph_PrintHTML
def g_Paragraph_PrintHTML (R : EP) (x0 : OA) (x1 : OA) (w : World) : Prop :=
 callE P i_bytes_Buffer_WriteString #[.pointer x1, .string (ByteArray.mk #[60, 112, 62])] (fun e w2 => ∃ (r1_0 : Int), ∃ (r1_1 : Value), e = .returned (.tuple #[.int .i64 r1_0, r1_1]) ∧
 nilP x0 fun a3 =>
 ∃ (v4 : OA), w2.cell? (a3.add 2) = some (.pointer v4) ∧
 callE P i_Text_PrintHTML #[.pointer v4, .pointer x1] (fun e w6 => e = .returned (.tuple #[]) ∧
 callE P i_bytes_Buffer_WriteString #[.pointer x1, .string (ByteArray.mk #[60, 47, 112, 62, 10])] (fun e w8 => ∃ (r7_0 : Int), ∃ (r7_1 : Value), e = .returned (.tuple #[.int .i64 r7_0, r7_1]) ∧
 R (.returned (.tuple #[])) w8) w6) w2) w

noncomputable def g_Paragraph_PrintHTML.ac (R : EP) : AC :=
  (.leaf (sel [] g_Paragraph_PrintHTML.body))
theorem g_Paragraph_PrintHTML.good (R : EP) : Good P 14 (g_Paragraph_PrintHTML.ac R) (QF P [] R) :=
  trivial
theorem g_Paragraph_PrintHTML.eq (R : EP) (x0 : OA) (x1 : OA) (w : World) : g_Paragraph_PrintHTML R x0 x1 w = vcA P 14 (g_Paragraph_PrintHTML.ac R) (QF P [] R) (fr0 [.pointer x0, .pointer x1]) w := by kernel_rfl
theorem g_Paragraph_PrintHTML.sound {R : EP} {x0 : OA} {x1 : OA} {w : World} (h : g_Paragraph_PrintHTML R x0 x1 w) : callE P i_Paragraph_PrintHTML #[.pointer x0, .pointer x1] R w :=
  callE_fin (c := g_Paragraph_PrintHTML.body) Tryz.func289 Tryz.call289 (by kernel_rfl) (by kernel_rfl) (by kernel_rfl) (by kernel_rfl) (by kernel_rfl) (g_Paragraph_PrintHTML.good R) (g_Paragraph_PrintHTML.eq R x0 x1 w) h
namespace g_Text_PrintHTML
noncomputable def body : Code := bodyOf Tryz.f256
def bl1 (R : EP) (Xa : OA → OA → Nat → Nat → Int → Int → WP) (x1 : OA) (x9q : OA) (x9n : Nat) (x9c : Nat) (x10 : Int) (x11 : Int) (w : World) : Prop :=
 br (decide (x11 < x10))
 (0 ≤ x11 ∧ x11 < (x9n : Int) ∧
 nilP x9q fun a3 =>
 ∃ (v4 : Value), w.cell? (a3.add (Int.toNat x11 * 1)) = some v4 ∧
 enterE P (callMethod v4 "PrintHTML" #[.pointer x1]) (fun e w6 => e = .returned (.tuple #[]) ∧
 Xa x1 x9q x9n x9c x10 (IntKind.i64.wrap (x11 + 1)) w6) w)
 (R (.returned (.tuple #[])) w)
def l1 (R : EP) (x1 : OA) (x9q : OA) (x9n : Nat) (x9c : Nat) (x10 : Int) (x11 : Int) (w : World) : Prop :=
  ∀ X : OA → OA → Nat → Nat → Int → Int → WP, (∀ x1 x9q x9n x9c x10 x11 w, bl1 R X x1 x9q x9n x9c x10 x11 w → X x1 x9q x9n x9c x10 x11 w) → X x1 x9q x9n x9c x10 x11 w

noncomputable def al1 (R : EP) (Xa : OA → OA → Nat → Nat → Int → Int → WP) : AC :=
  (.leaf (sel [1, 0, 0] body))
end g_Text_PrintHTML
def g_Text_PrintHTML (R : EP) (x0 : OA) (x1 : OA) (w : World) : Prop :=
 nilP x0 fun a1 =>
 ∃ (v2q : OA), ∃ (v2n : Nat), ∃ (v2c : Nat), w.cell? (a1.add 2) = some (.slice v2q v2n v2c) ∧
 g_Text_PrintHTML.l1 R x1 v2q v2n v2c (v2n : Int) 0 w

noncomputable def g_Text_PrintHTML.ac (R : EP) : AC :=
  (.seq (.leaf (sel [0] g_Text_PrintHTML.body)) (.block 0 (.loop (leaf [(1, .s .ptr), (9, .s .slice), (10, .s (.int .i64)), (11, .s (.int .i64))] (g_Text_PrintHTML.l1 R)) (sel [1, 0, 0] g_Text_PrintHTML.body))))
theorem g_Text_PrintHTML.good (R : EP) : Good P 19 (g_Text_PrintHTML.ac R) (QF P [] R) :=
  ⟨trivial, (loopG (g_Text_PrintHTML.al1 R) (g_Text_PrintHTML.bl1 R) (fun _ => by kernel_rfl) (fun Xa => trivial) (fun Xa => by intro x1 x9q x9n x9c x10 x11 ρ w; kernel_rfl) (fun X h _ _ _ _ _ _ _ g => g X h))⟩
theorem g_Text_PrintHTML.eq (R : EP) (x0 : OA) (x1 : OA) (w : World) : g_Text_PrintHTML R x0 x1 w = vcA P 19 (g_Text_PrintHTML.ac R) (QF P [] R) (fr0 [.pointer x0, .pointer x1]) w := by kernel_rfl
theorem g_Text_PrintHTML.sound {R : EP} {x0 : OA} {x1 : OA} {w : World} (h : g_Text_PrintHTML R x0 x1 w) : callE P i_Text_PrintHTML #[.pointer x0, .pointer x1] R w :=
  callE_fin (c := g_Text_PrintHTML.body) Tryz.func256 Tryz.call256 (by kernel_rfl) (by kernel_rfl) (by kernel_rfl) (by kernel_rfl) (by kernel_rfl) (g_Text_PrintHTML.good R) (g_Text_PrintHTML.eq R x0 x1 w) h
namespace g_ToHTML
noncomputable def body : Code := bodyOf Tryz.f30
end g_ToHTML
def g_ToHTML (R : EP) (x0 : Value) (w : World) : Prop :=
 box w #[.slice none 0 0, .int .i64 0, .int .i8 0] ty_bytes_Buffer fun b1 w2 =>
 enterE P (callMethod x0 "PrintHTML" #[.pointer (some ⟨b1, 0, none⟩)]) (fun e w4 => e = .returned (.tuple #[]) ∧
 callE P i_bytes_Buffer_String #[.pointer (some ⟨b1, 0, none⟩)] (fun e w6 => ∃ (r5 : BA), e = .returned (.string r5) ∧
 R (.returned (.string r5)) w6) w4) w2

noncomputable def g_ToHTML.ac (R : EP) : AC :=
  (.leaf (sel [] g_ToHTML.body))
theorem g_ToHTML.good (R : EP) : Good P 7 (g_ToHTML.ac R) (QF P [.tmp 2] R) :=
  trivial
theorem g_ToHTML.eq (R : EP) (x0 : Value) (w : World) : g_ToHTML R x0 w = vcA P 7 (g_ToHTML.ac R) (QF P [.tmp 2] R) (fr0 [x0]) w := by kernel_rfl
theorem g_ToHTML.sound {R : EP} {x0 : Value} {w : World} (h : g_ToHTML R x0 w) : callE P i_ToHTML #[x0] R w :=
  callE_fin (c := g_ToHTML.body) Tryz.func30 Tryz.call30 (by kernel_rfl) (by kernel_rfl) (by kernel_rfl) (by kernel_rfl) (by kernel_rfl) (g_ToHTML.good R) (g_ToHTML.eq R x0 w) h
namespace g_Plain_PrintHTML
noncomputable def body : Code := bodyOf Tryz.f269
end g_Plain_PrintHTML
def g_Plain_PrintHTML (R : EP) (x0 : OA) (x1 : OA) (w : World) : Prop :=
 tk w fun w1 =>
 nilP x0 fun a2 =>
 ∃ (v3 : BA), w1.cell? a2 = some (.string v3) ∧
 callE P i_htmlEscaper #[] (fun e w5 => ∃ (r4q : OA), ∃ (r4n : Nat), ∃ (r4c : Nat), e = .returned (.slice r4q r4n r4c) ∧
 SameC w1 w5 (a2) 1 ∧
 callE P i_zzPairs_WriteString #[.slice r4q r4n r4c, .pointer x1, .string v3] (fun e w7 => e = .returned (.tuple #[]) ∧
 R (.returned (.tuple #[])) w7) w5) w1

noncomputable def g_Plain_PrintHTML.ac (R : EP) : AC :=
  (.draw (.pure 1 (.pure 2 (.pure 3 (.pure 4 (.load 5 (.one 0 (.one 6 .done))))))) (sel [] g_Plain_PrintHTML.body))
theorem g_Plain_PrintHTML.good (R : EP) : Good P 11 (g_Plain_PrintHTML.ac R) (QF P [] R) :=
  ⟨by kernel_rfl, by kernel_rfl, fun _ _ _ h => h⟩
theorem g_Plain_PrintHTML.eq (R : EP) (x0 : OA) (x1 : OA) (w : World) : g_Plain_PrintHTML R x0 x1 w = vcA P 11 (g_Plain_PrintHTML.ac R) (QF P [] R) (fr0 [.pointer x0, .pointer x1]) w := by kernel_rfl
theorem g_Plain_PrintHTML.sound {R : EP} {x0 : OA} {x1 : OA} {w : World} (h : g_Plain_PrintHTML R x0 x1 w) : callE P i_Plain_PrintHTML #[.pointer x0, .pointer x1] R w :=
  callE_fin (c := g_Plain_PrintHTML.body) Tryz.func269 Tryz.call269 (by kernel_rfl) (by kernel_rfl) (by kernel_rfl) (by kernel_rfl) (by kernel_rfl) (g_Plain_PrintHTML.good R) (g_Plain_PrintHTML.eq R x0 x1 w) h
namespace g_htmlEscaper
noncomputable def body : Code := bodyOf Tryz.f272
end g_htmlEscaper
def g_htmlEscaper (R : EP) (w : World) : Prop :=
 ∃ (r1q : OA), ∃ (r1n : Nat), ∃ (r1c : Nat), ∃ w2, (Instr.buildSlice ty_zzPairs 8 #[(0, .string (ByteArray.mk #[34])), (1, .string (ByteArray.mk #[38, 113, 117, 111, 116, 59])), (2, .string (ByteArray.mk #[38])), (3, .string (ByteArray.mk #[38, 97, 109, 112, 59])), (4, .string (ByteArray.mk #[60])), (5, .string (ByteArray.mk #[38, 108, 116, 59])), (6, .string (ByteArray.mk #[62])), (7, .string (ByteArray.mk #[38, 103, 116, 59]))]).run P w = .ok (.slice r1q r1n r1c) w2 ∧
 R (.returned (.slice r1q r1n r1c)) w2

noncomputable def g_htmlEscaper.ac (R : EP) : AC :=
  (.leaf (sel [] g_htmlEscaper.body))
theorem g_htmlEscaper.good (R : EP) : Good P 2 (g_htmlEscaper.ac R) (QF P [.tmp 0] R) :=
  trivial
theorem g_htmlEscaper.eq (R : EP) (w : World) : g_htmlEscaper R w = vcA P 2 (g_htmlEscaper.ac R) (QF P [.tmp 0] R) (fr0 []) w := by kernel_rfl
theorem g_htmlEscaper.sound {R : EP} {w : World} (h : g_htmlEscaper R w) : callE P i_htmlEscaper #[] R w :=
  callE_fin (c := g_htmlEscaper.body) Tryz.func272 Tryz.call272 (by kernel_rfl) (by kernel_rfl) (by kernel_rfl) (by kernel_rfl) (by kernel_rfl) (g_htmlEscaper.good R) (g_htmlEscaper.eq R w) h
namespace g_htmlLinkEscaper
noncomputable def body : Code := bodyOf Tryz.f279
end g_htmlLinkEscaper
def g_htmlLinkEscaper (R : EP) (w : World) : Prop :=
 ∃ (r1q : OA), ∃ (r1n : Nat), ∃ (r1c : Nat), ∃ w2, (Instr.buildSlice ty_zzPairs 340 #[(0, .string (ByteArray.mk #[34])), (1, .string (ByteArray.mk #[37, 50, 50])), (2, .string (ByteArray.mk #[38])), (3, .string (ByteArray.mk #[38, 97, 109, 112, 59])), (4, .string (ByteArray.mk #[60])), (5, .string (ByteArray.mk #[37, 51, 67])), (6, .string (ByteArray.mk #[62])), (7, .string (ByteArray.mk #[37, 51, 69])), (8, .string (ByteArray.mk #[92])), (9, .string (ByteArray.mk #[37, 53, 67])), (10, .string (ByteArray.mk #[32])), (11, .string (ByteArray.mk #[37, 50, 48])), (12, .string (ByteArray.mk #[96])), (13, .string (ByteArray.mk #[37, 54, 48])), (14, .string (ByteArray.mk #[91])), (15, .string (ByteArray.mk #[37, 53, 66])), (16, .string (ByteArray.mk #[93])), (17, .string (ByteArray.mk #[37, 53, 68])), (18, .string (ByteArray.mk #[94])), (19, .string (ByteArray.mk #[37, 53, 69])), (20, .string (ByteArray.mk #[123])), (21, .string (ByteArray.mk #[37, 55, 66])), (22, .string (ByteArray.mk #[125])), (23, .string (ByteArray.mk #[37, 55, 68])), (24, .string (ByteArray.mk #[0])), (25, .string (ByteArray.mk #[37, 48, 48])), (26, .string (ByteArray.mk #[1])), (27, .string (ByteArray.mk #[37, 48, 49])), (28, .string (ByteArray.mk #[2])), (29, .string (ByteArray.mk #[37, 48, 50])), (30, .string (ByteArray.mk #[3])), (31, .string (ByteArray.mk #[37, 48, 51])), (32, .string (ByteArray.mk #[4])), (33, .string (ByteArray.mk #[37, 48, 52])), (34, .string (ByteArray.mk #[5])), (35, .string (ByteArray.mk #[37, 48, 53])), (36, .string (ByteArray.mk #[6])), (37, .string (ByteArray.mk #[37, 48, 54])), (38, .string (ByteArray.mk #[7])), (39, .string (ByteArray.mk #[37, 48, 55])), (40, .string (ByteArray.mk #[8])), (41, .string (ByteArray.mk #[37, 48, 56])), (42, .string (ByteArray.mk #[11])), (43, .string (ByteArray.mk #[37, 48, 66])), (44, .string (ByteArray.mk #[12])), (45, .string (ByteArray.mk #[37, 48, 67])), (46, .string (ByteArray.mk #[14])), (47, .string (ByteArray.mk #[37, 48, 69])), (48, .string (ByteArray.mk #[15])), (49, .string (ByteArray.mk #[37, 48, 70])), (50, .string (ByteArray.mk #[16])), (51, .string (ByteArray.mk #[37, 49, 48])), (52, .string (ByteArray.mk #[17])), (53, .string (ByteArray.mk #[37, 49, 49])), (54, .string (ByteArray.mk #[18])), (55, .string (ByteArray.mk #[37, 49, 50])), (56, .string (ByteArray.mk #[19])), (57, .string (ByteArray.mk #[37, 49, 51])), (58, .string (ByteArray.mk #[20])), (59, .string (ByteArray.mk #[37, 49, 52])), (60, .string (ByteArray.mk #[21])), (61, .string (ByteArray.mk #[37, 49, 53])), (62, .string (ByteArray.mk #[22])), (63, .string (ByteArray.mk #[37, 49, 54])), (64, .string (ByteArray.mk #[23])), (65, .string (ByteArray.mk #[37, 49, 55])), (66, .string (ByteArray.mk #[24])), (67, .string (ByteArray.mk #[37, 49, 56])), (68, .string (ByteArray.mk #[25])), (69, .string (ByteArray.mk #[37, 49, 57])), (70, .string (ByteArray.mk #[26])), (71, .string (ByteArray.mk #[37, 49, 65])), (72, .string (ByteArray.mk #[27])), (73, .string (ByteArray.mk #[37, 49, 66])), (74, .string (ByteArray.mk #[28])), (75, .string (ByteArray.mk #[37, 49, 67])), (76, .string (ByteArray.mk #[29])), (77, .string (ByteArray.mk #[37, 49, 68])), (78, .string (ByteArray.mk #[30])), (79, .string (ByteArray.mk #[37, 49, 69])), (80, .string (ByteArray.mk #[31])), (81, .string (ByteArray.mk #[37, 49, 70])), (82, .string (ByteArray.mk #[127])), (83, .string (ByteArray.mk #[37, 55, 70])), (84, .string (ByteArray.mk #[128])), (85, .string (ByteArray.mk #[37, 56, 48])), (86, .string (ByteArray.mk #[129])), (87, .string (ByteArray.mk #[37, 56, 49])), (88, .string (ByteArray.mk #[130])), (89, .string (ByteArray.mk #[37, 56, 50])), (90, .string (ByteArray.mk #[131])), (91, .string (ByteArray.mk #[37, 56, 51])), (92, .string (ByteArray.mk #[132])), (93, .string (ByteArray.mk #[37, 56, 52])), (94, .string (ByteArray.mk #[133])), (95, .string (ByteArray.mk #[37, 56, 53])), (96, .string (ByteArray.mk #[134])), (97, .string (ByteArray.mk #[37, 56, 54])), (98, .string (ByteArray.mk #[135])), (99, .string (ByteArray.mk #[37, 56, 55])), (100, .string (ByteArray.mk #[136])), (101, .string (ByteArray.mk #[37, 56, 56])), (102, .string (ByteArray.mk #[137])), (103, .string (ByteArray.mk #[37, 56, 57])), (104, .string (ByteArray.mk #[138])), (105, .string (ByteArray.mk #[37, 56, 65])), (106, .string (ByteArray.mk #[139])), (107, .string (ByteArray.mk #[37, 56, 66])), (108, .string (ByteArray.mk #[140])), (109, .string (ByteArray.mk #[37, 56, 67])), (110, .string (ByteArray.mk #[141])), (111, .string (ByteArray.mk #[37, 56, 68])), (112, .string (ByteArray.mk #[142])), (113, .string (ByteArray.mk #[37, 56, 69])), (114, .string (ByteArray.mk #[143])), (115, .string (ByteArray.mk #[37, 56, 70])), (116, .string (ByteArray.mk #[144])), (117, .string (ByteArray.mk #[37, 57, 48])), (118, .string (ByteArray.mk #[145])), (119, .string (ByteArray.mk #[37, 57, 49])), (120, .string (ByteArray.mk #[146])), (121, .string (ByteArray.mk #[37, 57, 50])), (122, .string (ByteArray.mk #[147])), (123, .string (ByteArray.mk #[37, 57, 51])), (124, .string (ByteArray.mk #[148])), (125, .string (ByteArray.mk #[37, 57, 52])), (126, .string (ByteArray.mk #[149])), (127, .string (ByteArray.mk #[37, 57, 53])), (128, .string (ByteArray.mk #[150])), (129, .string (ByteArray.mk #[37, 57, 54])), (130, .string (ByteArray.mk #[151])), (131, .string (ByteArray.mk #[37, 57, 55])), (132, .string (ByteArray.mk #[152])), (133, .string (ByteArray.mk #[37, 57, 56])), (134, .string (ByteArray.mk #[153])), (135, .string (ByteArray.mk #[37, 57, 57])), (136, .string (ByteArray.mk #[154])), (137, .string (ByteArray.mk #[37, 57, 65])), (138, .string (ByteArray.mk #[155])), (139, .string (ByteArray.mk #[37, 57, 66])), (140, .string (ByteArray.mk #[156])), (141, .string (ByteArray.mk #[37, 57, 67])), (142, .string (ByteArray.mk #[157])), (143, .string (ByteArray.mk #[37, 57, 68])), (144, .string (ByteArray.mk #[158])), (145, .string (ByteArray.mk #[37, 57, 69])), (146, .string (ByteArray.mk #[159])), (147, .string (ByteArray.mk #[37, 57, 70])), (148, .string (ByteArray.mk #[160])), (149, .string (ByteArray.mk #[37, 65, 48])), (150, .string (ByteArray.mk #[161])), (151, .string (ByteArray.mk #[37, 65, 49])), (152, .string (ByteArray.mk #[162])), (153, .string (ByteArray.mk #[37, 65, 50])), (154, .string (ByteArray.mk #[163])), (155, .string (ByteArray.mk #[37, 65, 51])), (156, .string (ByteArray.mk #[164])), (157, .string (ByteArray.mk #[37, 65, 52])), (158, .string (ByteArray.mk #[165])), (159, .string (ByteArray.mk #[37, 65, 53])), (160, .string (ByteArray.mk #[166])), (161, .string (ByteArray.mk #[37, 65, 54])), (162, .string (ByteArray.mk #[167])), (163, .string (ByteArray.mk #[37, 65, 55])), (164, .string (ByteArray.mk #[168])), (165, .string (ByteArray.mk #[37, 65, 56])), (166, .string (ByteArray.mk #[169])), (167, .string (ByteArray.mk #[37, 65, 57])), (168, .string (ByteArray.mk #[170])), (169, .string (ByteArray.mk #[37, 65, 65])), (170, .string (ByteArray.mk #[171])), (171, .string (ByteArray.mk #[37, 65, 66])), (172, .string (ByteArray.mk #[172])), (173, .string (ByteArray.mk #[37, 65, 67])), (174, .string (ByteArray.mk #[173])), (175, .string (ByteArray.mk #[37, 65, 68])), (176, .string (ByteArray.mk #[174])), (177, .string (ByteArray.mk #[37, 65, 69])), (178, .string (ByteArray.mk #[175])), (179, .string (ByteArray.mk #[37, 65, 70])), (180, .string (ByteArray.mk #[176])), (181, .string (ByteArray.mk #[37, 66, 48])), (182, .string (ByteArray.mk #[177])), (183, .string (ByteArray.mk #[37, 66, 49])), (184, .string (ByteArray.mk #[178])), (185, .string (ByteArray.mk #[37, 66, 50])), (186, .string (ByteArray.mk #[179])), (187, .string (ByteArray.mk #[37, 66, 51])), (188, .string (ByteArray.mk #[180])), (189, .string (ByteArray.mk #[37, 66, 52])), (190, .string (ByteArray.mk #[181])), (191, .string (ByteArray.mk #[37, 66, 53])), (192, .string (ByteArray.mk #[182])), (193, .string (ByteArray.mk #[37, 66, 54])), (194, .string (ByteArray.mk #[183])), (195, .string (ByteArray.mk #[37, 66, 55])), (196, .string (ByteArray.mk #[184])), (197, .string (ByteArray.mk #[37, 66, 56])), (198, .string (ByteArray.mk #[185])), (199, .string (ByteArray.mk #[37, 66, 57])), (200, .string (ByteArray.mk #[186])), (201, .string (ByteArray.mk #[37, 66, 65])), (202, .string (ByteArray.mk #[187])), (203, .string (ByteArray.mk #[37, 66, 66])), (204, .string (ByteArray.mk #[188])), (205, .string (ByteArray.mk #[37, 66, 67])), (206, .string (ByteArray.mk #[189])), (207, .string (ByteArray.mk #[37, 66, 68])), (208, .string (ByteArray.mk #[190])), (209, .string (ByteArray.mk #[37, 66, 69])), (210, .string (ByteArray.mk #[191])), (211, .string (ByteArray.mk #[37, 66, 70])), (212, .string (ByteArray.mk #[192])), (213, .string (ByteArray.mk #[37, 67, 48])), (214, .string (ByteArray.mk #[193])), (215, .string (ByteArray.mk #[37, 67, 49])), (216, .string (ByteArray.mk #[194])), (217, .string (ByteArray.mk #[37, 67, 50])), (218, .string (ByteArray.mk #[195])), (219, .string (ByteArray.mk #[37, 67, 51])), (220, .string (ByteArray.mk #[196])), (221, .string (ByteArray.mk #[37, 67, 52])), (222, .string (ByteArray.mk #[197])), (223, .string (ByteArray.mk #[37, 67, 53])), (224, .string (ByteArray.mk #[198])), (225, .string (ByteArray.mk #[37, 67, 54])), (226, .string (ByteArray.mk #[199])), (227, .string (ByteArray.mk #[37, 67, 55])), (228, .string (ByteArray.mk #[200])), (229, .string (ByteArray.mk #[37, 67, 56])), (230, .string (ByteArray.mk #[201])), (231, .string (ByteArray.mk #[37, 67, 57])), (232, .string (ByteArray.mk #[202])), (233, .string (ByteArray.mk #[37, 67, 65])), (234, .string (ByteArray.mk #[203])), (235, .string (ByteArray.mk #[37, 67, 66])), (236, .string (ByteArray.mk #[204])), (237, .string (ByteArray.mk #[37, 67, 67])), (238, .string (ByteArray.mk #[205])), (239, .string (ByteArray.mk #[37, 67, 68])), (240, .string (ByteArray.mk #[206])), (241, .string (ByteArray.mk #[37, 67, 69])), (242, .string (ByteArray.mk #[207])), (243, .string (ByteArray.mk #[37, 67, 70])), (244, .string (ByteArray.mk #[208])), (245, .string (ByteArray.mk #[37, 68, 48])), (246, .string (ByteArray.mk #[209])), (247, .string (ByteArray.mk #[37, 68, 49])), (248, .string (ByteArray.mk #[210])), (249, .string (ByteArray.mk #[37, 68, 50])), (250, .string (ByteArray.mk #[211])), (251, .string (ByteArray.mk #[37, 68, 51])), (252, .string (ByteArray.mk #[212])), (253, .string (ByteArray.mk #[37, 68, 52])), (254, .string (ByteArray.mk #[213])), (255, .string (ByteArray.mk #[37, 68, 53])), (256, .string (ByteArray.mk #[214])), (257, .string (ByteArray.mk #[37, 68, 54])), (258, .string (ByteArray.mk #[215])), (259, .string (ByteArray.mk #[37, 68, 55])), (260, .string (ByteArray.mk #[216])), (261, .string (ByteArray.mk #[37, 68, 56])), (262, .string (ByteArray.mk #[217])), (263, .string (ByteArray.mk #[37, 68, 57])), (264, .string (ByteArray.mk #[218])), (265, .string (ByteArray.mk #[37, 68, 65])), (266, .string (ByteArray.mk #[219])), (267, .string (ByteArray.mk #[37, 68, 66])), (268, .string (ByteArray.mk #[220])), (269, .string (ByteArray.mk #[37, 68, 67])), (270, .string (ByteArray.mk #[221])), (271, .string (ByteArray.mk #[37, 68, 68])), (272, .string (ByteArray.mk #[222])), (273, .string (ByteArray.mk #[37, 68, 69])), (274, .string (ByteArray.mk #[223])), (275, .string (ByteArray.mk #[37, 68, 70])), (276, .string (ByteArray.mk #[224])), (277, .string (ByteArray.mk #[37, 69, 48])), (278, .string (ByteArray.mk #[225])), (279, .string (ByteArray.mk #[37, 69, 49])), (280, .string (ByteArray.mk #[226])), (281, .string (ByteArray.mk #[37, 69, 50])), (282, .string (ByteArray.mk #[227])), (283, .string (ByteArray.mk #[37, 69, 51])), (284, .string (ByteArray.mk #[228])), (285, .string (ByteArray.mk #[37, 69, 52])), (286, .string (ByteArray.mk #[229])), (287, .string (ByteArray.mk #[37, 69, 53])), (288, .string (ByteArray.mk #[230])), (289, .string (ByteArray.mk #[37, 69, 54])), (290, .string (ByteArray.mk #[231])), (291, .string (ByteArray.mk #[37, 69, 55])), (292, .string (ByteArray.mk #[232])), (293, .string (ByteArray.mk #[37, 69, 56])), (294, .string (ByteArray.mk #[233])), (295, .string (ByteArray.mk #[37, 69, 57])), (296, .string (ByteArray.mk #[234])), (297, .string (ByteArray.mk #[37, 69, 65])), (298, .string (ByteArray.mk #[235])), (299, .string (ByteArray.mk #[37, 69, 66])), (300, .string (ByteArray.mk #[236])), (301, .string (ByteArray.mk #[37, 69, 67])), (302, .string (ByteArray.mk #[237])), (303, .string (ByteArray.mk #[37, 69, 68])), (304, .string (ByteArray.mk #[238])), (305, .string (ByteArray.mk #[37, 69, 69])), (306, .string (ByteArray.mk #[239])), (307, .string (ByteArray.mk #[37, 69, 70])), (308, .string (ByteArray.mk #[240])), (309, .string (ByteArray.mk #[37, 70, 48])), (310, .string (ByteArray.mk #[241])), (311, .string (ByteArray.mk #[37, 70, 49])), (312, .string (ByteArray.mk #[242])), (313, .string (ByteArray.mk #[37, 70, 50])), (314, .string (ByteArray.mk #[243])), (315, .string (ByteArray.mk #[37, 70, 51])), (316, .string (ByteArray.mk #[244])), (317, .string (ByteArray.mk #[37, 70, 52])), (318, .string (ByteArray.mk #[245])), (319, .string (ByteArray.mk #[37, 70, 53])), (320, .string (ByteArray.mk #[246])), (321, .string (ByteArray.mk #[37, 70, 54])), (322, .string (ByteArray.mk #[247])), (323, .string (ByteArray.mk #[37, 70, 55])), (324, .string (ByteArray.mk #[248])), (325, .string (ByteArray.mk #[37, 70, 56])), (326, .string (ByteArray.mk #[249])), (327, .string (ByteArray.mk #[37, 70, 57])), (328, .string (ByteArray.mk #[250])), (329, .string (ByteArray.mk #[37, 70, 65])), (330, .string (ByteArray.mk #[251])), (331, .string (ByteArray.mk #[37, 70, 66])), (332, .string (ByteArray.mk #[252])), (333, .string (ByteArray.mk #[37, 70, 67])), (334, .string (ByteArray.mk #[253])), (335, .string (ByteArray.mk #[37, 70, 68])), (336, .string (ByteArray.mk #[254])), (337, .string (ByteArray.mk #[37, 70, 69])), (338, .string (ByteArray.mk #[255])), (339, .string (ByteArray.mk #[37, 70, 70]))]).run P w = .ok (.slice r1q r1n r1c) w2 ∧
 R (.returned (.slice r1q r1n r1c)) w2

noncomputable def g_htmlLinkEscaper.ac (R : EP) : AC :=
  (.leaf (sel [] g_htmlLinkEscaper.body))
theorem g_htmlLinkEscaper.good (R : EP) : Good P 2 (g_htmlLinkEscaper.ac R) (QF P [.tmp 0] R) :=
  trivial
theorem g_htmlLinkEscaper.eq (R : EP) (w : World) : g_htmlLinkEscaper R w = vcA P 2 (g_htmlLinkEscaper.ac R) (QF P [.tmp 0] R) (fr0 []) w := by kernel_rfl
theorem g_htmlLinkEscaper.sound {R : EP} {w : World} (h : g_htmlLinkEscaper R w) : callE P i_htmlLinkEscaper #[] R w :=
  callE_fin (c := g_htmlLinkEscaper.body) Tryz.func279 Tryz.call279 (by kernel_rfl) (by kernel_rfl) (by kernel_rfl) (by kernel_rfl) (by kernel_rfl) (g_htmlLinkEscaper.good R) (g_htmlLinkEscaper.eq R w) h
namespace g_htmlQuoteEscaper
noncomputable def body : Code := bodyOf Tryz.f281
end g_htmlQuoteEscaper
def g_htmlQuoteEscaper (R : EP) (w : World) : Prop :=
 ∃ (r1q : OA), ∃ (r1n : Nat), ∃ (r1c : Nat), ∃ w2, (Instr.buildSlice ty_zzPairs 8 #[(0, .string (ByteArray.mk #[34])), (1, .string (ByteArray.mk #[38, 113, 117, 111, 116, 59])), (2, .string (ByteArray.mk #[38])), (3, .string (ByteArray.mk #[38, 97, 109, 112, 59])), (4, .string (ByteArray.mk #[60])), (5, .string (ByteArray.mk #[38, 108, 116, 59])), (6, .string (ByteArray.mk #[62])), (7, .string (ByteArray.mk #[38, 103, 116, 59]))]).run P w = .ok (.slice r1q r1n r1c) w2 ∧
 R (.returned (.slice r1q r1n r1c)) w2

noncomputable def g_htmlQuoteEscaper.ac (R : EP) : AC :=
  (.leaf (sel [] g_htmlQuoteEscaper.body))
theorem g_htmlQuoteEscaper.good (R : EP) : Good P 2 (g_htmlQuoteEscaper.ac R) (QF P [.tmp 0] R) :=
  trivial
theorem g_htmlQuoteEscaper.eq (R : EP) (w : World) : g_htmlQuoteEscaper R w = vcA P 2 (g_htmlQuoteEscaper.ac R) (QF P [.tmp 0] R) (fr0 []) w := by kernel_rfl
theorem g_htmlQuoteEscaper.sound {R : EP} {w : World} (h : g_htmlQuoteEscaper R w) : callE P i_htmlQuoteEscaper #[] R w :=
  callE_fin (c := g_htmlQuoteEscaper.body) Tryz.func281 Tryz.call281 (by kernel_rfl) (by kernel_rfl) (by kernel_rfl) (by kernel_rfl) (by kernel_rfl) (g_htmlQuoteEscaper.good R) (g_htmlQuoteEscaper.eq R w) h
namespace g_zzPairs_Replace
noncomputable def body : Code := bodyOf Tryz.f280
end g_zzPairs_Replace
def g_zzPairs_Replace (R : EP) (x0q : OA) (x0n : Nat) (x0c : Nat) (x1 : BA) (w : World) : Prop :=
 box w #[.slice none 0 0, .int .i64 0, .int .i8 0] ty_bytes_Buffer fun b1 w2 =>
 callE P i_zzPairs_WriteString #[.slice x0q x0n x0c, .pointer (some ⟨b1, 0, none⟩), .string x1] (fun e w4 => e = .returned (.tuple #[]) ∧
 callE P i_bytes_Buffer_String #[.pointer (some ⟨b1, 0, none⟩)] (fun e w6 => ∃ (r5 : BA), e = .returned (.string r5) ∧
 R (.returned (.string r5)) w6) w4) w2

noncomputable def g_zzPairs_Replace.ac (R : EP) : AC :=
  (.leaf (sel [] g_zzPairs_Replace.body))
theorem g_zzPairs_Replace.good (R : EP) : Good P 10 (g_zzPairs_Replace.ac R) (QF P [.tmp 4] R) :=
  trivial
theorem g_zzPairs_Replace.eq (R : EP) (x0q : OA) (x0n : Nat) (x0c : Nat) (x1 : BA) (w : World) : g_zzPairs_Replace R x0q x0n x0c x1 w = vcA P 10 (g_zzPairs_Replace.ac R) (QF P [.tmp 4] R) (fr0 [.slice x0q x0n x0c, .string x1]) w := by kernel_rfl
theorem g_zzPairs_Replace.sound {R : EP} {x0q : OA} {x0n : Nat} {x0c : Nat} {x1 : ByteArray} {w : World} (h : g_zzPairs_Replace R x0q x0n x0c x1 w) : callE P i_zzPairs_Replace #[.slice x0q x0n x0c, .string x1] R w :=
  callE_fin (c := g_zzPairs_Replace.body) Tryz.func280 Tryz.call280 (by kernel_rfl) (by kernel_rfl) (by kernel_rfl) (by kernel_rfl) (by kernel_rfl) (g_zzPairs_Replace.good R) (g_zzPairs_Replace.eq R x0q x0n x0c x1 w) h
namespace g_zzPairs_WriteString
noncomputable def body : Code := bodyOf Tryz.f273
def bl2 (R : EP) (X0_1_1_0 : OA → Nat → Nat → OA → BA → Int → WP) (X0_1_1_0_0_1_0_0_0_1_0 : OA → Nat → Nat → OA → BA → Int → Int → WP) (x0q : OA) (x0n : Nat) (x0c : Nat) (x1 : OA) (x2 : BA) (x6 : Int) (x7 : Int) (w : World) : Prop :=
 br (decide (x7 < (x0n : Int)))
 (tk w fun w1 =>
 0 ≤ x6 ∧ x6 < (x2.size : Int) ∧
 0 ≤ x7 ∧ x7 < (x0n : Int) ∧
 nilP x0q fun a2 =>
 ∃ (v3 : BA), w1.cell? (a2.add (Int.toNat x7 * 1)) = some (.string v3) ∧
 0 ≤ (0 : Int) ∧ 0 < (v3.size : Int) ∧
 br ((bt x2 x6) == (bt v3 0))
 (0 ≤ (IntKind.i64.wrap (x7 + 1)) ∧ (IntKind.i64.wrap (x7 + 1)) < (x0n : Int) ∧
 nilP x0q fun a4 =>
 ∃ (v5 : BA), w1.cell? (a4.add (Int.toNat (IntKind.i64.wrap (x7 + 1)) * 1)) = some (.string v5) ∧
 callE P i_bytes_Buffer_WriteString #[.pointer x1, .string v5] (fun e w7 => ∃ (r6_0 : Int), ∃ (r6_1 : Value), e = .returned (.tuple #[.int .i64 r6_0, r6_1]) ∧
 X0_1_1_0 x0q x0n x0c x1 x2 (IntKind.i64.wrap (x6 + 1)) w7) w1)
 (X0_1_1_0_0_1_0_0_0_1_0 x0q x0n x0c x1 x2 x6 (IntKind.i64.wrap (x7 + 2)) w1))
 (0 ≤ x6 ∧ x6 < (x2.size : Int) ∧
 callE P i_bytes_Buffer_WriteByte #[.pointer x1, .int .u8 (bt x2 x6)] (fun e w9 => ∃ (r8 : Value), e = .returned r8 ∧
 X0_1_1_0 x0q x0n x0c x1 x2 (IntKind.i64.wrap (x6 + 1)) w9) w)
def l2 (R : EP) (X0_1_1_0 : OA → Nat → Nat → OA → BA → Int → WP) (x0q : OA) (x0n : Nat) (x0c : Nat) (x1 : OA) (x2 : BA) (x6 : Int) (x7 : Int) (w : World) : Prop :=
  ∀ X : OA → Nat → Nat → OA → BA → Int → Int → WP, (∀ x0q x0n x0c x1 x2 x6 x7 w, bl2 R X0_1_1_0 X x0q x0n x0c x1 x2 x6 x7 w → X x0q x0n x0c x1 x2 x6 x7 w) → X x0q x0n x0c x1 x2 x6 x7 w

noncomputable def al2 (R : EP) (X0_1_1_0 : OA → Nat → Nat → OA → BA → Int → WP) (X0_1_1_0_0_1_0_0_0_1_0 : OA → Nat → Nat → OA → BA → Int → Int → WP) : AC :=
  (.seq (.leaf (sel [0, 1, 1, 0, 0, 1, 0, 0, 0, 1, 0, 0, 0] body)) (.seq (.block 3 (.seq (.draw (.pure 0 (.pure 1 (.pure 2 (.pure 3 (.pure 4 (.pure 5 (.load 6 (.pure 7 (.pure 8 .done))))))))) (sel [0, 1, 1, 0, 0, 1, 0, 0, 0, 1, 0, 0, 1, 0, 0, 0] body)) (.leaf (sel [0, 1, 1, 0, 0, 1, 0, 0, 0, 1, 0, 0, 1, 0, 0, 1] body)))) (.leaf (sel [0, 1, 1, 0, 0, 1, 0, 0, 0, 1, 0, 0, 1, 1] body))))
def bl1 (R : EP) (X0_1_1_0 : OA → Nat → Nat → OA → BA → Int → WP) (x0q : OA) (x0n : Nat) (x0c : Nat) (x1 : OA) (x2 : BA) (x6 : Int) (w : World) : Prop :=
 br (decide (x6 < (x2.size : Int)))
 (l2 R X0_1_1_0 x0q x0n x0c x1 x2 x6 0 w)
 (R (.returned (.tuple #[])) w)
def l1 (R : EP) (x0q : OA) (x0n : Nat) (x0c : Nat) (x1 : OA) (x2 : BA) (x6 : Int) (w : World) : Prop :=
  ∀ X : OA → Nat → Nat → OA → BA → Int → WP, (∀ x0q x0n x0c x1 x2 x6 w, bl1 R X x0q x0n x0c x1 x2 x6 w → X x0q x0n x0c x1 x2 x6 w) → X x0q x0n x0c x1 x2 x6 w

noncomputable def al1 (R : EP) (X0_1_1_0 : OA → Nat → Nat → OA → BA → Int → WP) : AC :=
  (.seq (.leaf (sel [0, 1, 1, 0, 0, 0] body)) (.seq (.block 1 (.seq (.seq (.leaf (sel [0, 1, 1, 0, 0, 1, 0, 0, 0, 0] body)) (.block 2 (.loop (leaf [(0, .s .slice), (1, .s .ptr), (2, .s .str), (6, .s (.int .i64)), (7, .s (.int .i64))] (l2 R X0_1_1_0)) (sel [0, 1, 1, 0, 0, 1, 0, 0, 0, 1, 0, 0] body)))) (.leaf (sel [0, 1, 1, 0, 0, 1, 0, 0, 1] body)))) (.leaf (sel [0, 1, 1, 0, 0, 1, 1] body))))
end g_zzPairs_WriteString
def g_zzPairs_WriteString (R : EP) (x0q : OA) (x0n : Nat) (x0c : Nat) (x1 : OA) (x2 : BA) (w : World) : Prop :=
 g_zzPairs_WriteString.l1 R x0q x0n x0c x1 x2 0 w

noncomputable def g_zzPairs_WriteString.ac (R : EP) : AC :=
  (.scope (.seq (.leaf (sel [0, 0] g_zzPairs_WriteString.body)) (.seq (.leaf (sel [0, 1, 0] g_zzPairs_WriteString.body)) (.block 0 (.loop (leaf [(0, .s .slice), (1, .s .ptr), (2, .s .str), (6, .s (.int .i64))] (g_zzPairs_WriteString.l1 R)) (sel [0, 1, 1, 0, 0] g_zzPairs_WriteString.body))))))
theorem g_zzPairs_WriteString.good (R : EP) : Good P 41 (g_zzPairs_WriteString.ac R) (QF P [] R) :=
  ⟨trivial, ⟨trivial, (loopG (g_zzPairs_WriteString.al1 R) (g_zzPairs_WriteString.bl1 R) (fun _ => by kernel_rfl) (fun X0_1_1_0 => ⟨trivial, ⟨⟨⟨trivial, (loopG (g_zzPairs_WriteString.al2 R X0_1_1_0) (g_zzPairs_WriteString.bl2 R X0_1_1_0) (fun _ => by kernel_rfl) (fun X0_1_1_0_0_1_0_0_0_1_0 => ⟨trivial, ⟨⟨⟨by kernel_rfl, by kernel_rfl, fun _ _ _ h => h⟩, trivial⟩, trivial⟩⟩) (fun X0_1_1_0_0_1_0_0_0_1_0 => by intro x0q x0n x0c x1 x2 x6 x7 ρ w; kernel_rfl) (fun X h _ _ _ _ _ _ _ _ g => g X h))⟩, trivial⟩, trivial⟩⟩) (fun X0_1_1_0 => by intro x0q x0n x0c x1 x2 x6 ρ w; kernel_rfl) (fun X h _ _ _ _ _ _ _ g => g X h))⟩⟩
theorem g_zzPairs_WriteString.eq (R : EP) (x0q : OA) (x0n : Nat) (x0c : Nat) (x1 : OA) (x2 : BA) (w : World) : g_zzPairs_WriteString R x0q x0n x0c x1 x2 w = vcA P 41 (g_zzPairs_WriteString.ac R) (QF P [] R) (fr0 [.slice x0q x0n x0c, .pointer x1, .string x2]) w := by kernel_rfl
theorem g_zzPairs_WriteString.sound {R : EP} {x0q : OA} {x0n : Nat} {x0c : Nat} {x1 : OA} {x2 : ByteArray} {w : World} (h : g_zzPairs_WriteString R x0q x0n x0c x1 x2 w) : callE P i_zzPairs_WriteString #[.slice x0q x0n x0c, .pointer x1, .string x2] R w :=
  callE_fin (c := g_zzPairs_WriteString.body) Tryz.func273 Tryz.call273 (by kernel_rfl) (by kernel_rfl) (by kernel_rfl) (by kernel_rfl) (by kernel_rfl) (g_zzPairs_WriteString.good R) (g_zzPairs_WriteString.eq R x0q x0n x0c x1 x2 w) h
namespace g_strings_Builder_String
noncomputable def body : Code := bodyOf Tryz.f15
end g_strings_Builder_String
def g_strings_Builder_String (R : EP) (x0 : OA) (w : World) : Prop :=
 tk w fun w1 =>
 nilP x0 fun a2 =>
 nilP x0 fun a3 =>
 ∃ (v4q : OA), ∃ (v4n : Nat), ∃ (v4c : Nat), w1.cell? (a2.add 1) = some (.slice v4q v4n v4c) ∧
 ∃ (v5q : OA), ∃ (v5n : Nat), ∃ (v5c : Nat), w1.cell? (a3.add 1) = some (.slice v5q v5n v5c) ∧
 ∃ (r6 : OA), ∃ w7, (Builtin.unsafeSliceData_ #[ty_S_uint8] ty_P_uint8 #[.slice v4q v4n v4c]).run P w1 = .ok (.pointer r6) w7 ∧
 SameC w1 w7 (a3.add 1) 1 ∧
 ∃ (r8 : BA), ∃ w9, (Builtin.unsafeString_ #[ty_P_uint8, ty_int] ty_string #[.pointer r6, .int .i64 (v5n : Int)]).run P w7 = .ok (.string r8) w9 ∧
 R (.returned (.string r8)) w9

noncomputable def g_strings_Builder_String.ac (R : EP) : AC :=
  (.seq (.leaf (sel [0] g_strings_Builder_String.body)) (.seq (.draw (.pure 0 (.pure 1 (.pure 2 (.pure 5 (.pure 6 (.pure 7 (.load 3 (.load 8 (.pure 9 (.one 4 (.one 10 (.pure 11 .done)))))))))))) (sel [1, 0] g_strings_Builder_String.body)) (.leaf (sel [1, 1] g_strings_Builder_String.body))))
theorem g_strings_Builder_String.good (R : EP) : Good P 14 (g_strings_Builder_String.ac R) (QF P [.tmp 2] R) :=
  ⟨trivial, ⟨⟨by kernel_rfl, by kernel_rfl, fun _ _ _ h => h⟩, trivial⟩⟩
theorem g_strings_Builder_String.eq (R : EP) (x0 : OA) (w : World) : g_strings_Builder_String R x0 w = vcA P 14 (g_strings_Builder_String.ac R) (QF P [.tmp 2] R) (fr0 [.pointer x0]) w := by kernel_rfl
theorem g_strings_Builder_String.sound {R : EP} {x0 : OA} {w : World} (h : g_strings_Builder_String R x0 w) : callE P i_strings_Builder_String #[.pointer x0] R w :=
  callE_fin (c := g_strings_Builder_String.body) Tryz.func15 Tryz.call15 (by kernel_rfl) (by kernel_rfl) (by kernel_rfl) (by kernel_rfl) (by kernel_rfl) (g_strings_Builder_String.good R) (g_strings_Builder_String.eq R x0 w) h
namespace g_strings_Builder_WriteByte
noncomputable def body : Code := bodyOf Tryz.f178
end g_strings_Builder_WriteByte
def g_strings_Builder_WriteByte (R : EP) (x0 : OA) (x1 : Int) (w : World) : Prop :=
 callE P i_strings_Builder_copyCheck #[.pointer x0] (fun e w2 => e = .returned (.tuple #[]) ∧
 nilP x0 fun a3 =>
 ∃ (v4q : OA), ∃ (v4n : Nat), ∃ (v4c : Nat), w2.cell? (a3.add 1) = some (.slice v4q v4n v4c) ∧
 ∃ (r5q : OA), ∃ (r5n : Nat), ∃ (r5c : Nat), ∃ w6, (Instr.buildSlice ty_S_uint8 1 #[(0, .int .u8 x1)]).run P w2 = .ok (.slice r5q r5n r5c) w6 ∧
 ∃ (r7q : OA), ∃ (r7n : Nat), ∃ (r7c : Nat), ∃ w8, (Builtin.append_ #[ty_S_uint8, ty_S_uint8] ty_S_uint8 #[.slice v4q v4n v4c, .slice r5q r5n r5c]).run P w6 = .ok (.slice r7q r7n r7c) w8 ∧
 nilP x0 fun a9 =>
 stV w8 ((a9.add 1).add 0) (.slice r7q r7n r7c) fun w10 =>
 R (.returned .nilIface) w10) w

noncomputable def g_strings_Builder_WriteByte.ac (R : EP) : AC :=
  (.leaf (sel [] g_strings_Builder_WriteByte.body))
theorem g_strings_Builder_WriteByte.good (R : EP) : Good P 17 (g_strings_Builder_WriteByte.ac R) (QF P [.tmp 4] R) :=
  trivial
theorem g_strings_Builder_WriteByte.eq (R : EP) (x0 : OA) (x1 : Int) (w : World) : g_strings_Builder_WriteByte R x0 x1 w = vcA P 17 (g_strings_Builder_WriteByte.ac R) (QF P [.tmp 4] R) (fr0 [.pointer x0, .int .u8 x1]) w := by kernel_rfl
theorem g_strings_Builder_WriteByte.sound {R : EP} {x0 : OA} {x1 : Int} {w : World} (h : g_strings_Builder_WriteByte R x0 x1 w) : callE P i_strings_Builder_WriteByte #[.pointer x0, .int .u8 x1] R w :=
  callE_fin (c := g_strings_Builder_WriteByte.body) Tryz.func178 Tryz.call178 (by kernel_rfl) (by kernel_rfl) (by kernel_rfl) (by kernel_rfl) (by kernel_rfl) (g_strings_Builder_WriteByte.good R) (g_strings_Builder_WriteByte.eq R x0 x1 w) h
namespace g_strings_Builder_WriteString
noncomputable def body : Code := bodyOf Tryz.f12
end g_strings_Builder_WriteString
def g_strings_Builder_WriteString (R : EP) (x0 : OA) (x1 : BA) (w : World) : Prop :=
 callE P i_strings_Builder_copyCheck #[.pointer x0] (fun e w2 => e = .returned (.tuple #[]) ∧
 nilP x0 fun a3 =>
 ∃ (v4q : OA), ∃ (v4n : Nat), ∃ (v4c : Nat), w2.cell? (a3.add 1) = some (.slice v4q v4n v4c) ∧
 ∃ (r5q : OA), ∃ (r5n : Nat), ∃ (r5c : Nat), ∃ w6, (Builtin.append_ #[ty_S_uint8, ty_string] ty_S_uint8 #[.slice v4q v4n v4c, .string x1]).run P w2 = .ok (.slice r5q r5n r5c) w6 ∧
 nilP x0 fun a7 =>
 stV w6 ((a7.add 1).add 0) (.slice r5q r5n r5c) fun w8 =>
 R (.returned (.tuple #[.int .i64 (x1.size : Int), .nilIface])) w8) w

noncomputable def g_strings_Builder_WriteString.ac (R : EP) : AC :=
  (.leaf (sel [] g_strings_Builder_WriteString.body))
theorem g_strings_Builder_WriteString.good (R : EP) : Good P 19 (g_strings_Builder_WriteString.ac R) (QF P [.tmp 4, .tmp 5] R) :=
  trivial
theorem g_strings_Builder_WriteString.eq (R : EP) (x0 : OA) (x1 : BA) (w : World) : g_strings_Builder_WriteString R x0 x1 w = vcA P 19 (g_strings_Builder_WriteString.ac R) (QF P [.tmp 4, .tmp 5] R) (fr0 [.pointer x0, .string x1]) w := by kernel_rfl
theorem g_strings_Builder_WriteString.sound {R : EP} {x0 : OA} {x1 : ByteArray} {w : World} (h : g_strings_Builder_WriteString R x0 x1 w) : callE P i_strings_Builder_WriteString #[.pointer x0, .string x1] R w :=
  callE_fin (c := g_strings_Builder_WriteString.body) Tryz.func12 Tryz.call12 (by kernel_rfl) (by kernel_rfl) (by kernel_rfl) (by kernel_rfl) (by kernel_rfl) (g_strings_Builder_WriteString.good R) (g_strings_Builder_WriteString.eq R x0 x1 w) h
namespace g_strings_Builder_copyCheck
noncomputable def body : Code := bodyOf Tryz.f29
end g_strings_Builder_copyCheck
def g_strings_Builder_copyCheck (R : EP) (x0 : OA) (w : World) : Prop :=
 nilP x0 fun a1 =>
 ∃ (v2 : OA), w.cell? a1 = some (.pointer v2) ∧
 ∃ (r3 : Bool), ∃ w4, (do eqGuard .eql ty_P_strings_Builder (.tmp 5) (.const (.pointer none)) (.pointer v2) (.pointer none); binOp .eql ty_P_strings_Builder (.pointer v2) (.pointer none)).run P w = .ok (.bool r3) w4 ∧
 br r3
 (∃ (r5 : OA), ∃ w6, (convert ty_P_strings_Builder ty_unsafe_Pointer (.pointer x0)).run P w4 = .ok (.pointer r5) w6 ∧
 callE P i_internal_abi_NoEscape #[.pointer r5] (fun e w8 => ∃ (r7 : OA), e = .returned (.pointer r7) ∧
 ∃ (r9 : OA), ∃ w10, (convert ty_unsafe_Pointer ty_P_strings_Builder (.pointer r7)).run P w8 = .ok (.pointer r9) w10 ∧
 nilP x0 fun a11 =>
 stV w10 (a11.add 0) (.pointer r9) fun w12 =>
 R (.returned (.tuple #[])) w12) w6)
 (nilP x0 fun a13 =>
 ∃ (v14 : OA), w4.cell? a13 = some (.pointer v14) ∧
 ∃ (r15 : Bool), ∃ w16, (do eqGuard .neq ty_P_strings_Builder (.tmp 17) (.tmp 18) (.pointer v14) (.pointer x0); binOp .neq ty_P_strings_Builder (.pointer v14) (.pointer x0)).run P w4 = .ok (.bool r15) w16 ∧
 br r15
 (False)
 (R (.returned (.tuple #[])) w16))

noncomputable def g_strings_Builder_copyCheck.ac (R : EP) : AC :=
  (.leaf (sel [] g_strings_Builder_copyCheck.body))
theorem g_strings_Builder_copyCheck.good (R : EP) : Good P 20 (g_strings_Builder_copyCheck.ac R) (QF P [] R) :=
  trivial
theorem g_strings_Builder_copyCheck.eq (R : EP) (x0 : OA) (w : World) : g_strings_Builder_copyCheck R x0 w = vcA P 20 (g_strings_Builder_copyCheck.ac R) (QF P [] R) (fr0 [.pointer x0]) w := by kernel_rfl
theorem g_strings_Builder_copyCheck.sound {R : EP} {x0 : OA} {w : World} (h : g_strings_Builder_copyCheck R x0 w) : callE P i_strings_Builder_copyCheck #[.pointer x0] R w :=
  callE_fin (c := g_strings_Builder_copyCheck.body) Tryz.func29 Tryz.call29 (by kernel_rfl) (by kernel_rfl) (by kernel_rfl) (by kernel_rfl) (by kernel_rfl) (g_strings_Builder_copyCheck.good R) (g_strings_Builder_copyCheck.eq R x0 w) h
namespace g_bytes_Buffer_String
noncomputable def body : Code := bodyOf Tryz.f42
end g_bytes_Buffer_String
def g_bytes_Buffer_String (R : EP) (x0 : OA) (w : World) : Prop :=
 ∃ (r1 : Bool), ∃ w2, (do eqGuard .eql ty_P_bytes_Buffer (.tmp 3) (.const (.pointer none)) (.pointer x0) (.pointer none); binOp .eql ty_P_bytes_Buffer (.pointer x0) (.pointer none)).run P w = .ok (.bool r1) w2 ∧
 br r1
 (R (.returned (.string (ByteArray.mk #[60, 110, 105, 108, 62]))) w2)
 (tk w2 fun w3 =>
 nilP x0 fun a4 =>
 nilP x0 fun a5 =>
 ∃ (v6q : OA), ∃ (v6n : Nat), ∃ (v6c : Nat), w3.cell? a4 = some (.slice v6q v6n v6c) ∧
 ∃ (v7 : Int), w3.cell? (a5.add 1) = some (.int .i64 v7) ∧
 ∃ (r8q : OA), ∃ (r8n : Nat), ∃ (r8c : Nat), (∀ w, (Instr.sliceAt ty_S_uint8 (.slice v6q v6n v6c) (some (.int .i64 v7)) none none).run P w = .ok (.slice r8q r8n r8c) w) ∧
 ∃ (r9 : BA), ∃ w10, (convert ty_S_uint8 ty_string (.slice r8q r8n r8c)).run P w3 = .ok (.string r9) w10 ∧
 R (.returned (.string r9)) w10)

noncomputable def g_bytes_Buffer_String.ac (R : EP) : AC :=
  (.seq (.leaf (sel [0] g_bytes_Buffer_String.body)) (.seq (.leaf (sel [1, 0] g_bytes_Buffer_String.body)) (.seq (.draw (.pure 0 (.pure 1 (.pure 2 (.pure 4 (.pure 5 (.pure 6 (.load 3 (.load 7 (.pure 8 (.one 9 (.pure 10 .done))))))))))) (sel [1, 1, 0] g_bytes_Buffer_String.body)) (.leaf (sel [1, 1, 1] g_bytes_Buffer_String.body)))))
theorem g_bytes_Buffer_String.good (R : EP) : Good P 15 (g_bytes_Buffer_String.ac R) (QF P [.tmp 2] R) :=
  ⟨trivial, ⟨trivial, ⟨⟨by kernel_rfl, by kernel_rfl, fun _ _ _ h => h⟩, trivial⟩⟩⟩
theorem g_bytes_Buffer_String.eq (R : EP) (x0 : OA) (w : World) : g_bytes_Buffer_String R x0 w = vcA P 15 (g_bytes_Buffer_String.ac R) (QF P [.tmp 2] R) (fr0 [.pointer x0]) w := by kernel_rfl
theorem g_bytes_Buffer_String.sound {R : EP} {x0 : OA} {w : World} (h : g_bytes_Buffer_String R x0 w) : callE P i_bytes_Buffer_String #[.pointer x0] R w :=
  callE_fin (c := g_bytes_Buffer_String.body) Tryz.func42 Tryz.call42 (by kernel_rfl) (by kernel_rfl) (by kernel_rfl) (by kernel_rfl) (by kernel_rfl) (g_bytes_Buffer_String.good R) (g_bytes_Buffer_String.eq R x0 w) h
namespace g_bytes_Buffer_WriteByte
noncomputable def body : Code := bodyOf Tryz.f274
def k1 (R : EP) (x0 : OA) (x1 : Int) (x5 : Int) (w : World) : Prop :=
 nilP x0 fun a7 =>
 ∃ (v8q : OA), ∃ (v8n : Nat), ∃ (v8c : Nat), w.cell? a7 = some (.slice v8q v8n v8c) ∧
 0 ≤ x5 ∧ x5 < (v8n : Int) ∧
 nilP v8q fun a9 =>
 stV w ((a9.add (Int.toNat x5 * 1)).add 0) (.int .u8 x1) fun w10 =>
 R (.returned .nilIface) w10

end g_bytes_Buffer_WriteByte
def g_bytes_Buffer_WriteByte (R : EP) (x0 : OA) (x1 : Int) (w : World) : Prop :=
 nilP x0 fun a1 =>
 stV w ((a1.add 2).add 0) (.int .i8 0) fun w2 =>
 callE P i_bytes_Buffer_tryGrowByReslice #[.pointer x0, .int .i64 1] (fun e w4 => ∃ (r3_0 : Int), ∃ (r3_1 : Bool), e = .returned (.tuple #[.int .i64 r3_0, .bool r3_1]) ∧
 br (!r3_1)
 (callE P i_bytes_Buffer_grow #[.pointer x0, .int .i64 1] (fun e w6 => ∃ (r5 : Int), e = .returned (.int .i64 r5) ∧
 g_bytes_Buffer_WriteByte.k1 R x0 x1 r5 w6) w4)
 (g_bytes_Buffer_WriteByte.k1 R x0 x1 r3_0 w4)) w2

noncomputable def g_bytes_Buffer_WriteByte.ac (R : EP) : AC :=
  (.seq (.leaf (sel [0] g_bytes_Buffer_WriteByte.body)) (.seq (.leaf (sel [1, 0] g_bytes_Buffer_WriteByte.body)) (.seq (.leaf (sel [1, 1, 0] g_bytes_Buffer_WriteByte.body)) (.seq (.leaf (sel [1, 1, 1, 0] g_bytes_Buffer_WriteByte.body)) (.mark (leaf [(0, .s .ptr), (1, .s (.int .u8)), (5, .s (.int .i64))] (g_bytes_Buffer_WriteByte.k1 R)) (.leaf (sel [1, 1, 1, 1] g_bytes_Buffer_WriteByte.body)))))))
theorem g_bytes_Buffer_WriteByte.good (R : EP) : Good P 26 (g_bytes_Buffer_WriteByte.ac R) (QF P [.tmp 4] R) :=
  ⟨trivial, ⟨trivial, ⟨trivial, ⟨trivial, ⟨trivial, cutE (by intro x0 x1 x5 ρ w; kernel_rfl)⟩⟩⟩⟩⟩
theorem g_bytes_Buffer_WriteByte.eq (R : EP) (x0 : OA) (x1 : Int) (w : World) : g_bytes_Buffer_WriteByte R x0 x1 w = vcA P 26 (g_bytes_Buffer_WriteByte.ac R) (QF P [.tmp 4] R) (fr0 [.pointer x0, .int .u8 x1]) w := by kernel_rfl
theorem g_bytes_Buffer_WriteByte.sound {R : EP} {x0 : OA} {x1 : Int} {w : World} (h : g_bytes_Buffer_WriteByte R x0 x1 w) : callE P i_bytes_Buffer_WriteByte #[.pointer x0, .int .u8 x1] R w :=
  callE_fin (c := g_bytes_Buffer_WriteByte.body) Tryz.func274 Tryz.call274 (by kernel_rfl) (by kernel_rfl) (by kernel_rfl) (by kernel_rfl) (by kernel_rfl) (g_bytes_Buffer_WriteByte.good R) (g_bytes_Buffer_WriteByte.eq R x0 x1 w) h
namespace g_bytes_Buffer_WriteString
noncomputable def body : Code := bodyOf Tryz.f260
def k1 (R : EP) (x0 : OA) (x1 : BA) (x6 : Int) (w : World) : Prop :=
 nilP x0 fun a7 =>
 ∃ (v8q : OA), ∃ (v8n : Nat), ∃ (v8c : Nat), w.cell? a7 = some (.slice v8q v8n v8c) ∧
 ∃ (r9q : OA), ∃ (r9n : Nat), ∃ (r9c : Nat), ∃ w10, (Instr.sliceAt ty_S_uint8 (.slice v8q v8n v8c) (some (.int .i64 x6)) none none).run P w = .ok (.slice r9q r9n r9c) w10 ∧
 ∃ (r11 : Int), ∃ w12, (Builtin.copy_ #[ty_S_uint8, ty_string] ty_int #[.slice r9q r9n r9c, .string x1]).run P w10 = .ok (.int .i64 r11) w12 ∧
 R (.returned (.tuple #[.int .i64 r11, .nilIface])) w12

end g_bytes_Buffer_WriteString
def g_bytes_Buffer_WriteString (R : EP) (x0 : OA) (x1 : BA) (w : World) : Prop :=
 nilP x0 fun a1 =>
 stV w ((a1.add 2).add 0) (.int .i8 0) fun w2 =>
 callE P i_bytes_Buffer_tryGrowByReslice #[.pointer x0, .int .i64 (x1.size : Int)] (fun e w4 => ∃ (r3_0 : Int), ∃ (r3_1 : Bool), e = .returned (.tuple #[.int .i64 r3_0, .bool r3_1]) ∧
 br (!r3_1)
 (callE P i_bytes_Buffer_grow #[.pointer x0, .int .i64 (x1.size : Int)] (fun e w6 => ∃ (r5 : Int), e = .returned (.int .i64 r5) ∧
 g_bytes_Buffer_WriteString.k1 R x0 x1 r5 w6) w4)
 (g_bytes_Buffer_WriteString.k1 R x0 x1 r3_0 w4)) w2

noncomputable def g_bytes_Buffer_WriteString.ac (R : EP) : AC :=
  (.seq (.leaf (sel [0] g_bytes_Buffer_WriteString.body)) (.seq (.leaf (sel [1, 0] g_bytes_Buffer_WriteString.body)) (.seq (.leaf (sel [1, 1, 0] g_bytes_Buffer_WriteString.body)) (.seq (.leaf (sel [1, 1, 1, 0] g_bytes_Buffer_WriteString.body)) (.mark (leaf [(0, .s .ptr), (1, .s .str), (6, .s (.int .i64))] (g_bytes_Buffer_WriteString.k1 R)) (.leaf (sel [1, 1, 1, 1] g_bytes_Buffer_WriteString.body)))))))
theorem g_bytes_Buffer_WriteString.good (R : EP) : Good P 32 (g_bytes_Buffer_WriteString.ac R) (QF P [.tmp 4, .tmp 5] R) :=
  ⟨trivial, ⟨trivial, ⟨trivial, ⟨trivial, ⟨trivial, cutE (by intro x0 x1 x6 ρ w; kernel_rfl)⟩⟩⟩⟩⟩
theorem g_bytes_Buffer_WriteString.eq (R : EP) (x0 : OA) (x1 : BA) (w : World) : g_bytes_Buffer_WriteString R x0 x1 w = vcA P 32 (g_bytes_Buffer_WriteString.ac R) (QF P [.tmp 4, .tmp 5] R) (fr0 [.pointer x0, .string x1]) w := by kernel_rfl
theorem g_bytes_Buffer_WriteString.sound {R : EP} {x0 : OA} {x1 : ByteArray} {w : World} (h : g_bytes_Buffer_WriteString R x0 x1 w) : callE P i_bytes_Buffer_WriteString #[.pointer x0, .string x1] R w :=
  callE_fin (c := g_bytes_Buffer_WriteString.body) Tryz.func260 Tryz.call260 (by kernel_rfl) (by kernel_rfl) (by kernel_rfl) (by kernel_rfl) (by kernel_rfl) (g_bytes_Buffer_WriteString.good R) (g_bytes_Buffer_WriteString.eq R x0 x1 w) h
namespace g_bytes_Buffer_grow
noncomputable def body : Code := bodyOf Tryz.f262
def k3 (R : EP) (x0 : OA) (x1 : Int) (x5 : Int) (w : World) : Prop :=
 nilP x0 fun a44 =>
 stV w ((a44.add 1).add 0) (.int .i64 0) fun w45 =>
 nilP x0 fun a46 =>
 ∃ (v47q : OA), ∃ (v47n : Nat), ∃ (v47c : Nat), w45.cell? a46 = some (.slice v47q v47n v47c) ∧
 ∃ (r48q : OA), ∃ (r48n : Nat), ∃ (r48c : Nat), ∃ w49, (Instr.sliceAt ty_S_uint8 (.slice v47q v47n v47c) none (some (.int .i64 (IntKind.i64.wrap (x5 + x1)))) none).run P w45 = .ok (.slice r48q r48n r48c) w49 ∧
 nilP x0 fun a50 =>
 stV w49 (a50.add 0) (.slice r48q r48n r48c) fun w51 =>
 R (.returned (.int .i64 x5)) w51

def k2 (R : EP) (x0 : OA) (x1 : Int) (x5 : Int) (x38 : Bool) (w : World) : Prop :=
 br x38
 (∃ (r13q : OA), ∃ (r13n : Nat), ∃ (r13c : Nat), ∃ w14, (Instr.makeSlice ty_S_uint8 (.int .i64 x1) (.int .i64 64)).run P w = .ok (.slice r13q r13n r13c) w14 ∧
 nilP x0 fun a15 =>
 stV w14 (a15.add 0) (.slice r13q r13n r13c) fun w16 =>
 R (.returned (.int .i64 0)) w16)
 (nilP x0 fun a17 =>
 ∃ (v18q : OA), ∃ (v18n : Nat), ∃ (v18c : Nat), w.cell? a17 = some (.slice v18q v18n v18c) ∧
 ∃ (r19 : Int), ∃ w20, (Builtin.cap_ #[ty_S_uint8] ty_int #[.slice v18q v18n v18c]).run P w = .ok (.int .i64 r19) w20 ∧
 (2 : Int) ≠ 0 ∧
 br (decide (x1 ≤ (IntKind.i64.wrap ((IntKind.i64.wrap (Int.tdiv r19 2)) - x5))))
 (tk w20 fun w21 =>
 nilP x0 fun a22 =>
 nilP x0 fun a23 =>
 nilP x0 fun a24 =>
 ∃ (v25q : OA), ∃ (v25n : Nat), ∃ (v25c : Nat), w21.cell? a22 = some (.slice v25q v25n v25c) ∧
 ∃ (v26q : OA), ∃ (v26n : Nat), ∃ (v26c : Nat), w21.cell? a23 = some (.slice v26q v26n v26c) ∧
 ∃ (v27 : Int), w21.cell? (a24.add 1) = some (.int .i64 v27) ∧
 ∃ (r28q : OA), ∃ (r28n : Nat), ∃ (r28c : Nat), (∀ w, (Instr.sliceAt ty_S_uint8 (.slice v26q v26n v26c) (some (.int .i64 v27)) none none).run P w = .ok (.slice r28q r28n r28c) w) ∧
 ∃ (r29 : Int), ∃ w30, (Builtin.copy_ #[ty_S_uint8, ty_S_uint8] ty_int #[.slice v25q v25n v25c, .slice r28q r28n r28c]).run P w21 = .ok (.int .i64 r29) w30 ∧
 k3 R x0 x1 x5 w30)
 (br (decide (r19 > (IntKind.i64.wrap ((IntKind.i64.wrap (9223372036854775807 - r19)) - x1))))
 (∃ (v31 : Value), w20.cell? ⟨9, 0, none⟩ = some v31 ∧
 False)
 (tk w20 fun w32 =>
 nilP x0 fun a33 =>
 nilP x0 fun a34 =>
 nilP x0 fun a35 =>
 ∃ (v36q : OA), ∃ (v36n : Nat), ∃ (v36c : Nat), w32.cell? a33 = some (.slice v36q v36n v36c) ∧
 ∃ (v37 : Int), w32.cell? (a34.add 1) = some (.int .i64 v37) ∧
 ∃ (r38q : OA), ∃ (r38n : Nat), ∃ (r38c : Nat), (∀ w, (Instr.sliceAt ty_S_uint8 (.slice v36q v36n v36c) (some (.int .i64 v37)) none none).run P w = .ok (.slice r38q r38n r38c) w) ∧
 ∃ (v39 : Int), w32.cell? (a35.add 1) = some (.int .i64 v39) ∧
 callE P i_bytes_growSlice #[.slice r38q r38n r38c, .int .i64 (IntKind.i64.wrap (v39 + x1))] (fun e w41 => ∃ (r40q : OA), ∃ (r40n : Nat), ∃ (r40c : Nat), e = .returned (.slice r40q r40n r40c) ∧
 nilP x0 fun a42 =>
 stV w41 (a42.add 0) (.slice r40q r40n r40c) fun w43 =>
 k3 R x0 x1 x5 w43) w32)))

def k1 (R : EP) (x0 : OA) (x1 : Int) (x5 : Int) (w : World) : Prop :=
 callE P i_bytes_Buffer_tryGrowByReslice #[.pointer x0, .int .i64 x1] (fun e w8 => ∃ (r7_0 : Int), ∃ (r7_1 : Bool), e = .returned (.tuple #[.int .i64 r7_0, .bool r7_1]) ∧
 br r7_1
 (R (.returned (.int .i64 r7_0)) w8)
 (nilP x0 fun a9 =>
 ∃ (v10q : OA), ∃ (v10n : Nat), ∃ (v10c : Nat), w8.cell? a9 = some (.slice v10q v10n v10c) ∧
 ∃ (r11 : Bool), ∃ w12, (do eqGuard .eql ty_S_uint8 (.tmp 33) (.const (.slice none 0 0)) (.slice v10q v10n v10c) (.slice none 0 0); binOp .eql ty_S_uint8 (.slice v10q v10n v10c) (.slice none 0 0)).run P w8 = .ok (.bool r11) w12 ∧
 k2 R x0 x1 x5 (r11 && (decide (x1 ≤ 64))) w12)) w

end g_bytes_Buffer_grow
def g_bytes_Buffer_grow (R : EP) (x0 : OA) (x1 : Int) (w : World) : Prop :=
 callE P i_bytes_Buffer_Len #[.pointer x0] (fun e w2 => ∃ (r1 : Int), e = .returned (.int .i64 r1) ∧
 br (r1 == 0)
 (nilP x0 fun a3 =>
 ∃ (v4 : Int), w2.cell? (a3.add 1) = some (.int .i64 v4) ∧
 br (v4 != 0)
 (callE P i_bytes_Buffer_Reset #[.pointer x0] (fun e w6 => e = .returned (.tuple #[]) ∧
 g_bytes_Buffer_grow.k1 R x0 x1 r1 w6) w2)
 (g_bytes_Buffer_grow.k1 R x0 x1 r1 w2))
 (g_bytes_Buffer_grow.k1 R x0 x1 r1 w2)) w

noncomputable def g_bytes_Buffer_grow.ac (R : EP) : AC :=
  (.seq (.leaf (sel [0] g_bytes_Buffer_grow.body)) (.seq (.leaf (sel [1, 0] g_bytes_Buffer_grow.body)) (.seq (.leaf (sel [1, 1, 0] g_bytes_Buffer_grow.body)) (.mark (leaf [(0, .s .ptr), (1, .s (.int .i64)), (5, .s (.int .i64))] (g_bytes_Buffer_grow.k1 R)) (.seq (.leaf (sel [1, 1, 1, 0] g_bytes_Buffer_grow.body)) (.seq (.seq (.leaf (sel [1, 1, 1, 1, 0, 0] g_bytes_Buffer_grow.body)) (.mark (leaf [(0, .s .ptr), (1, .s (.int .i64)), (5, .s (.int .i64)), (38, .s .bool)] (g_bytes_Buffer_grow.k2 R)) (.leaf (sel [1, 1, 1, 1, 0, 1] g_bytes_Buffer_grow.body)))) (.seq (.leaf (sel [1, 1, 1, 1, 1, 0] g_bytes_Buffer_grow.body)) (.seq (.seq (.leaf (sel [1, 1, 1, 1, 1, 1, 0, 0] g_bytes_Buffer_grow.body)) (.cond 54 (.draw (.pure 0 (.pure 1 (.pure 2 (.pure 4 (.pure 5 (.pure 6 (.pure 8 (.pure 9 (.pure 10 (.load 3 (.load 7 (.load 11 (.pure 12 (.one 13 .done)))))))))))))) (sel [1, 1, 1, 1, 1, 1, 0, 1, 0] g_bytes_Buffer_grow.body)) (.seq (.leaf (sel [1, 1, 1, 1, 1, 1, 0, 1, 1, 0] g_bytes_Buffer_grow.body)) (.cond 74 (.leaf (sel [1, 1, 1, 1, 1, 1, 0, 1, 1, 1, 0] g_bytes_Buffer_grow.body)) (.draw (.pure 0 (.pure 1 (.pure 2 (.pure 3 (.pure 5 (.pure 6 (.pure 7 (.pure 10 (.pure 11 (.pure 12 (.pure 14 (.load 4 (.load 8 (.pure 9 (.load 13 (.pure 15 (.one 16 (.pure 17 (.pure 18 (.one 19 .done)))))))))))))))))))) (sel [1, 1, 1, 1, 1, 1, 0, 1, 1, 1, 1] g_bytes_Buffer_grow.body)))))) (.mark (leaf [(0, .s .ptr), (1, .s (.int .i64)), (5, .s (.int .i64))] (g_bytes_Buffer_grow.k3 R)) (.leaf (sel [1, 1, 1, 1, 1, 1, 1] g_bytes_Buffer_grow.body)))))))))))
theorem g_bytes_Buffer_grow.good (R : EP) : Good P 110 (g_bytes_Buffer_grow.ac R) (QF P [.tmp 4] R) :=
  ⟨trivial, ⟨trivial, ⟨trivial, ⟨⟨trivial, ⟨⟨trivial, ⟨trivial, cutE (by intro x0 x1 x5 x38 ρ w; kernel_rfl)⟩⟩, ⟨trivial, ⟨⟨trivial, ⟨⟨by kernel_rfl, by kernel_rfl, fun _ _ _ h => h⟩, ⟨trivial, ⟨trivial, ⟨by kernel_rfl, by kernel_rfl, fun _ _ _ h => h⟩⟩⟩⟩⟩, ⟨trivial, cutE (by intro x0 x1 x5 ρ w; kernel_rfl)⟩⟩⟩⟩⟩, cutE (by intro x0 x1 x5 ρ w; kernel_rfl)⟩⟩⟩⟩
theorem g_bytes_Buffer_grow.eq (R : EP) (x0 : OA) (x1 : Int) (w : World) : g_bytes_Buffer_grow R x0 x1 w = vcA P 110 (g_bytes_Buffer_grow.ac R) (QF P [.tmp 4] R) (fr0 [.pointer x0, .int .i64 x1]) w := by kernel_rfl
theorem g_bytes_Buffer_grow.sound {R : EP} {x0 : OA} {x1 : Int} {w : World} (h : g_bytes_Buffer_grow R x0 x1 w) : callE P i_bytes_Buffer_grow #[.pointer x0, .int .i64 x1] R w :=
  callE_fin (c := g_bytes_Buffer_grow.body) Tryz.func262 Tryz.call262 (by kernel_rfl) (by kernel_rfl) (by kernel_rfl) (by kernel_rfl) (by kernel_rfl) (g_bytes_Buffer_grow.good R) (g_bytes_Buffer_grow.eq R x0 x1 w) h
namespace g_internal_stringslite_IndexByte
noncomputable def body : Code := bodyOf Tryz.f44
end g_internal_stringslite_IndexByte
def g_internal_stringslite_IndexByte (R : EP) (x0 : BA) (x1 : Int) (w : World) : Prop :=
 callE P i_internal_bytealg_IndexByteString #[.string x0, .int .u8 x1] (fun e w2 => ∃ (r1 : Int), e = .returned (.int .i64 r1) ∧
 R (.returned (.int .i64 r1)) w2) w

noncomputable def g_internal_stringslite_IndexByte.ac (R : EP) : AC :=
  (.leaf (sel [] g_internal_stringslite_IndexByte.body))
theorem g_internal_stringslite_IndexByte.good (R : EP) : Good P 8 (g_internal_stringslite_IndexByte.ac R) (QF P [.tmp 4] R) :=
  trivial
theorem g_internal_stringslite_IndexByte.eq (R : EP) (x0 : BA) (x1 : Int) (w : World) : g_internal_stringslite_IndexByte R x0 x1 w = vcA P 8 (g_internal_stringslite_IndexByte.ac R) (QF P [.tmp 4] R) (fr0 [.string x0, .int .u8 x1]) w := by kernel_rfl
theorem g_internal_stringslite_IndexByte.sound {R : EP} {x0 : ByteArray} {x1 : Int} {w : World} (h : g_internal_stringslite_IndexByte R x0 x1 w) : callE P i_internal_stringslite_IndexByte #[.string x0, .int .u8 x1] R w :=
  callE_fin (c := g_internal_stringslite_IndexByte.body) Tryz.func44 Tryz.call44 (by kernel_rfl) (by kernel_rfl) (by kernel_rfl) (by kernel_rfl) (by kernel_rfl) (g_internal_stringslite_IndexByte.good R) (g_internal_stringslite_IndexByte.eq R x0 x1 w) h
namespace g_strings_IndexByte
noncomputable def body : Code := bodyOf Tryz.f33
end g_strings_IndexByte
def g_strings_IndexByte (R : EP) (x0 : BA) (x1 : Int) (w : World) : Prop :=
 callE P i_internal_stringslite_IndexByte #[.string x0, .int .u8 x1] (fun e w2 => ∃ (r1 : Int), e = .returned (.int .i64 r1) ∧
 R (.returned (.int .i64 r1)) w2) w

noncomputable def g_strings_IndexByte.ac (R : EP) : AC :=
  (.leaf (sel [] g_strings_IndexByte.body))
theorem g_strings_IndexByte.good (R : EP) : Good P 8 (g_strings_IndexByte.ac R) (QF P [.tmp 4] R) :=
  trivial
theorem g_strings_IndexByte.eq (R : EP) (x0 : BA) (x1 : Int) (w : World) : g_strings_IndexByte R x0 x1 w = vcA P 8 (g_strings_IndexByte.ac R) (QF P [.tmp 4] R) (fr0 [.string x0, .int .u8 x1]) w := by kernel_rfl
theorem g_strings_IndexByte.sound {R : EP} {x0 : ByteArray} {x1 : Int} {w : World} (h : g_strings_IndexByte R x0 x1 w) : callE P i_strings_IndexByte #[.string x0, .int .u8 x1] R w :=
  callE_fin (c := g_strings_IndexByte.body) Tryz.func33 Tryz.call33 (by kernel_rfl) (by kernel_rfl) (by kernel_rfl) (by kernel_rfl) (by kernel_rfl) (g_strings_IndexByte.good R) (g_strings_IndexByte.eq R x0 x1 w) h
namespace g_bytes_Buffer_Len
noncomputable def body : Code := bodyOf Tryz.f263
end g_bytes_Buffer_Len
def g_bytes_Buffer_Len (R : EP) (x0 : OA) (w : World) : Prop :=
 tk w fun w1 =>
 nilP x0 fun a2 =>
 nilP x0 fun a3 =>
 ∃ (v4q : OA), ∃ (v4n : Nat), ∃ (v4c : Nat), w1.cell? a2 = some (.slice v4q v4n v4c) ∧
 ∃ (v5 : Int), w1.cell? (a3.add 1) = some (.int .i64 v5) ∧
 R (.returned (.int .i64 (IntKind.i64.wrap ((v4n : Int) - v5)))) w1

noncomputable def g_bytes_Buffer_Len.ac (R : EP) : AC :=
  (.seq (.leaf (sel [0] g_bytes_Buffer_Len.body)) (.seq (.draw (.pure 0 (.pure 1 (.pure 2 (.pure 5 (.pure 6 (.pure 7 (.load 3 (.pure 4 (.load 8 (.pure 9 (.pure 10 .done))))))))))) (sel [1, 0] g_bytes_Buffer_Len.body)) (.leaf (sel [1, 1] g_bytes_Buffer_Len.body))))
theorem g_bytes_Buffer_Len.good (R : EP) : Good P 13 (g_bytes_Buffer_Len.ac R) (QF P [.tmp 2] R) :=
  ⟨trivial, ⟨⟨by kernel_rfl, by kernel_rfl, fun _ _ _ h => h⟩, trivial⟩⟩
theorem g_bytes_Buffer_Len.eq (R : EP) (x0 : OA) (w : World) : g_bytes_Buffer_Len R x0 w = vcA P 13 (g_bytes_Buffer_Len.ac R) (QF P [.tmp 2] R) (fr0 [.pointer x0]) w := by kernel_rfl
theorem g_bytes_Buffer_Len.sound {R : EP} {x0 : OA} {w : World} (h : g_bytes_Buffer_Len R x0 w) : callE P i_bytes_Buffer_Len #[.pointer x0] R w :=
  callE_fin (c := g_bytes_Buffer_Len.body) Tryz.func263 Tryz.call263 (by kernel_rfl) (by kernel_rfl) (by kernel_rfl) (by kernel_rfl) (by kernel_rfl) (g_bytes_Buffer_Len.good R) (g_bytes_Buffer_Len.eq R x0 w) h
namespace g_bytes_Buffer_tryGrowByReslice
noncomputable def body : Code := bodyOf Tryz.f261
end g_bytes_Buffer_tryGrowByReslice
def g_bytes_Buffer_tryGrowByReslice (R : EP) (x0 : OA) (x1 : Int) (w : World) : Prop :=
 nilP x0 fun a1 =>
 ∃ (v2q : OA), ∃ (v2n : Nat), ∃ (v2c : Nat), w.cell? a1 = some (.slice v2q v2n v2c) ∧
 nilP x0 fun a3 =>
 ∃ (v4q : OA), ∃ (v4n : Nat), ∃ (v4c : Nat), w.cell? a3 = some (.slice v4q v4n v4c) ∧
 ∃ (r5 : Int), ∃ w6, (Builtin.cap_ #[ty_S_uint8] ty_int #[.slice v4q v4n v4c]).run P w = .ok (.int .i64 r5) w6 ∧
 br (decide (x1 ≤ (IntKind.i64.wrap (r5 - (v2n : Int)))))
 (nilP x0 fun a7 =>
 ∃ (v8q : OA), ∃ (v8n : Nat), ∃ (v8c : Nat), w6.cell? a7 = some (.slice v8q v8n v8c) ∧
 ∃ (r9q : OA), ∃ (r9n : Nat), ∃ (r9c : Nat), ∃ w10, (Instr.sliceAt ty_S_uint8 (.slice v8q v8n v8c) none (some (.int .i64 (IntKind.i64.wrap ((v2n : Int) + x1)))) none).run P w6 = .ok (.slice r9q r9n r9c) w10 ∧
 nilP x0 fun a11 =>
 stV w10 (a11.add 0) (.slice r9q r9n r9c) fun w12 =>
 R (.returned (.tuple #[.int .i64 (v2n : Int), .bool true])) w12)
 (R (.returned (.tuple #[.int .i64 0, .bool false])) w6)

noncomputable def g_bytes_Buffer_tryGrowByReslice.ac (R : EP) : AC :=
  (.leaf (sel [] g_bytes_Buffer_tryGrowByReslice.body))
theorem g_bytes_Buffer_tryGrowByReslice.good (R : EP) : Good P 33 (g_bytes_Buffer_tryGrowByReslice.ac R) (QF P [.tmp 4, .tmp 5] R) :=
  trivial
theorem g_bytes_Buffer_tryGrowByReslice.eq (R : EP) (x0 : OA) (x1 : Int) (w : World) : g_bytes_Buffer_tryGrowByReslice R x0 x1 w = vcA P 33 (g_bytes_Buffer_tryGrowByReslice.ac R) (QF P [.tmp 4, .tmp 5] R) (fr0 [.pointer x0, .int .i64 x1]) w := by kernel_rfl
theorem g_bytes_Buffer_tryGrowByReslice.sound {R : EP} {x0 : OA} {x1 : Int} {w : World} (h : g_bytes_Buffer_tryGrowByReslice R x0 x1 w) : callE P i_bytes_Buffer_tryGrowByReslice #[.pointer x0, .int .i64 x1] R w :=
  callE_fin (c := g_bytes_Buffer_tryGrowByReslice.body) Tryz.func261 Tryz.call261 (by kernel_rfl) (by kernel_rfl) (by kernel_rfl) (by kernel_rfl) (by kernel_rfl) (g_bytes_Buffer_tryGrowByReslice.good R) (g_bytes_Buffer_tryGrowByReslice.eq R x0 x1 w) h
end Go.Proofs.YtejiaegiijokcaaGreatDoor

set_option linter.unusedVariables false
namespace Go.Proofs.YtejiaegiijokcaaGreatDoor
open Go.Proofs Go.IntWalk
variable {σ : Out} {w : World} {L L' : List Chunk} {R : Ending → World → Prop}

noncomputable def rowU8 : Row P ty_S_uint8 ty_uint8 1 1 :=
  ⟨(P.info? ty_uint8).getD default, ((P.info? ty_uint8).bind (·.zero)).getD default, by kernel_rfl, by kernel_rfl, by kernel_rfl, by kernel_rfl, by kernel_rfl, by kernel_rfl, by decide⟩
def bc (l : List UInt8) : List Value := l.map fun c => .int .u8 (c.toNat : Int)
@[simp] theorem bc_length (l : List UInt8) : (bc l).length = l.length := by simp [bc]
theorem bc_append (a b : List UInt8) : bc (a ++ b) = bc a ++ bc b := by simp [bc]
theorem bc_get {l : List UInt8} {j : Nat} (h : j < l.length) : (bc l)[j]? = some (.int .u8 (l[j].toNat : Int)) := by simp [bc, h]
theorem bc_one {l : List UInt8} : ∀ v ∈ bc l, v.oneCell' = true := by
  intro v hv
  obtain ⟨c, _, rfl⟩ := List.mem_map.1 hv
  rfl
abbrev By (q : Option Addr) (n c : Nat) (l : List UInt8) (M : List Chunk) : Prop := Sl 1 ty_uint8 q n c (bc l) M
theorem By.len {q : Option Addr} {n c : Nat} {l : List UInt8} {M : List Chunk} (h : By q n c l M) : n = l.length := by
  have := h.1
  rw [bc_length] at this
  omega
theorem By.nil : By none 0 0 [] [] := Sl.nil 1 ty_uint8

theorem byteCells_bs (s : List UInt8) : Go.byteCells (bs s) = bc s := by
  simp [Go.byteCells, bc, bs]
theorem By.appS {q : Option Addr} {n c : Nat} {l : List UInt8} {M : List Chunk} (hS : By q n c l M) (h : Sat σ w (M ++ L)) (s : List UInt8) (h0 : s ≠ [] ∨ q ≠ none) (hb : n + s.length ≤ 1099511627776)
    {K : Option Addr → Nat → Nat → World → Prop} (hK : ∀ q' c' w' M', By q' (n + s.length) c' (l ++ s) M' → Sat σ w' (M' ++ L) → q' ≠ none → c ≤ c' → K q' (n + s.length) c' w') :
    ∃ q' n' c' w', (Builtin.append_ #[ty_S_uint8, ty_string] ty_S_uint8 #[.slice q n c, .string (bs s)]).run P w = .ok (.slice q' n' c') w' ∧ K q' n' c' w' := by
  have hsrc := Src.ofString (P := P) (w := w) (tx := ty_string) (by kernel_rfl) (bs s)
  rw [bs_size, byteCells_bs] at hsrc
  have h0' : 0 < s.length ∨ q ≠ none := by
    rcases h0 with h | h
    · exact .inl (List.length_pos_iff.2 h)
    · exact .inr h
  obtain ⟨q', c', w', M', hr, hS', h', h1, h2⟩ := Sat.app rowU8 (ty := ty_S_uint8) hS h hsrc h0' (by omega) (by omega)
  refine ⟨q', _, c', w', hr, hK q' c' w' M' ?_ h' h1 h2⟩
  show Sl _ _ _ _ _ (bc (l ++ s)) _
  rw [bc_append]
  exact hS'
theorem By.app1 {q : Option Addr} {n c : Nat} {l : List UInt8} {M : List Chunk} (hS : By q n c l M) (h : Sat σ w (M ++ L)) (k : UInt8) (hb : n + 1 ≤ 1099511627776)
    {K : Option Addr → Nat → Nat → World → Prop} (hK : ∀ q' c' w' M', By q' (n + 1) c' (l ++ [k]) M' → Sat σ w' (M' ++ L) → K q' (n + 1) c' w') :
    ∃ rq rn rc w1, (Instr.buildSlice ty_S_uint8 1 #[(0, .int .u8 (k.toNat : Int))]).run P w = .ok (.slice rq rn rc) w1 ∧
    ∃ q' n' c' w', (Builtin.append_ #[ty_S_uint8, ty_S_uint8] ty_S_uint8 #[.slice q n c, .slice rq rn rc]).run P w1 = .ok (.slice q' n' c') w' ∧ K q' n' c' w' := by
  refine Sat.app1 rowU8 hS h (v := .int .u8 (k.toNat : Int)) rfl (by simp [Value.cells, Value.oneCell']) (by kernel_rfl) (by omega) (by omega) (by decide) fun q' c' w' M' h1 h2 => hK q' c' w' M' ?_ h2
  show Sl _ _ _ _ _ (bc (l ++ [k])) _
  rw [bc_append]
  exact h1
theorem By.str {q : Option Addr} {n c : Nat} {l : List UInt8} {M : List Chunk} (hS : By q n c l M) (h : Sat σ w (M ++ L)) :
    (convert ty_S_uint8 ty_string (.slice q n c)).run P w = .ok (.string (bs l)) w := by
  have hn := hS.len
  subst hn
  obtain ⟨_, _, ⟨rfl, hn0, rfl, rfl⟩ | ⟨b, sp, rfl, rfl, h3⟩⟩ := hS
  · obtain rfl := List.eq_nil_of_length_eq_zero hn0
    exact Lib.run_convert_nil_bytes w _ _ ty_uint8 0 (by kernel_rfl) (by kernel_rfl) (by kernel_rfl)
  · refine run_convert_bytes_back w _ _ ty_uint8 ⟨b, 0, none⟩ c l (by kernel_rfl) (by kernel_rfl) (by kernel_rfl) fun j hj => ?_
    rw [Addr.add_zero_lit]
    refine h.ld (.head _) ?_
    rw [List.getElem?_append_left (by rw [bc_length]; exact hj), bc_get hj]
theorem sliceLH {P : Program} {t e : TypeId} {i : TypeInfo} (ht : P.underlying t = some (.slice e)) (hi : P.info? e = some i) (a : Option Addr) (n c l m : Nat) (h1 : l ≤ m) (h2 : m ≤ c) (w : World) :
    (Instr.sliceAt t (.slice a n c) (some (.int .i64 l)) (some (.int .i64 m)) none).run P w = .ok (.slice (if c = l then a else a.map (·.add (l * i.size))) (m - l) (c - l)) w := by
  simp [Instr.sliceAt, Instr.slice, Instr.sliceBounds, run_underlying ht, sizeOf, typeInfo, hi, run_sliceBound w .i64 (m : Int) c .sliceAcap (by omega) (by omega), run_sliceBound w .i64 (l : Int) m .sliceB (by omega) (by omega)]
theorem sliceF {P : Program} {t e : TypeId} {i : TypeInfo} (ht : P.underlying t = some (.slice e)) (hi : P.info? e = some i) (a : Option Addr) (n c l : Nat) (h1 : l ≤ n) (w : World) :
    (Instr.sliceAt t (.slice a n c) (some (.int .i64 l)) none none).run P w = .ok (.slice (if c = l then a else a.map (·.add (l * i.size))) (n - l) (c - l)) w := by
  simp [Instr.sliceAt, Instr.slice, Instr.sliceBounds, run_underlying ht, sizeOf, typeInfo, hi, run_sliceBound w .i64 (l : Int) n .sliceB (by omega) (by omega)]
theorem sliceT {P : Program} {t e : TypeId} {i : TypeInfo} (ht : P.underlying t = some (.slice e)) (hi : P.info? e = some i) (a : Option Addr) (n c m : Nat) (h2 : m ≤ c) (w : World) :
    (Instr.sliceAt t (.slice a n c) none (some (.int .i64 m)) none).run P w = .ok (.slice a m c) w := by
  have e1 : ∀ a : Addr, a.add 0 = a := fun a => rfl
  simp [Instr.sliceAt, Instr.slice, Instr.sliceBounds, run_underlying ht, sizeOf, typeInfo, hi, run_sliceBound w .i64 (m : Int) c .sliceAcap (by omega) (by omega), e1]

theorem capRun {P : Program} (t ty : TypeId) (q : Option Addr) (n c : Nat) (e : TypeId) (ht : P.underlying t = some (.slice e)) (w : World) : (Builtin.cap_ #[t] ty #[.slice q n c]).run P w = .ok (.int .i64 c) w := by
  simp [Builtin.cap_, underlying, ht, goInt]
abbrev bufC (b : Nat) (q : Option Addr) (n c : Nat) (lr : Int) : Chunk := (b, cel [.slice q n c, .int .i64 0, .int .i8 lr] ty_bytes_Buffer)
def Buf (b : Nat) (l : List UInt8) (M : List Chunk) : Prop := ∃ q c lr M0, M = bufC b q l.length c lr :: M0 ∧ By q l.length c l M0 ∧ c ≤ 9223372036854775807
theorem tryGrow_ok {b : Nat} {q : Option Addr} {n c m : Nat} {lr : Int} (h : Sat σ w (bufC b q n c lr :: L)) (hnc : n ≤ c) (hc : c ≤ 9223372036854775807) (hn : n < 4611686018427387904) (hm : m < 4611686018427387904)
    (h1 : n + m ≤ c → ∀ w, Sat σ w (bufC b q (n + m) c lr :: L) → R (.returned (.tuple #[.int .i64 n, .bool true])) w)
    (h0 : c < n + m → ∀ w, Sat σ w (bufC b q n c lr :: L) → R (.returned (.tuple #[.int .i64 0, .bool false])) w) :
    callE P i_bytes_Buffer_tryGrowByReslice #[.pointer (some ⟨b, 0, none⟩), .int .i64 m] R w := by
  refine g_bytes_Buffer_tryGrowByReslice.sound ?_
  refine nilP_some ?_
  refine ⟨_, _, _, Sat.ld h (by first | assumption | (repeat (first | exact .head _ | apply List.Mem.tail))) (by exact rfl), ?_⟩
  refine nilP_some ?_
  refine ⟨_, _, _, Sat.ld h (by first | assumption | (repeat (first | exact .head _ | apply List.Mem.tail))) (by exact rfl), ?_⟩
  refine ⟨_, _, capRun _ _ _ _ _ _ rowU8.ht w, ?_⟩
  rw [i64_in _ (by omega)]
  by_cases hm' : n + m ≤ c
  · refine br_true (by simp; omega) ?_
    refine nilP_some ?_
    refine ⟨_, _, _, Sat.ld h (by first | assumption | (repeat (first | exact .head _ | apply List.Mem.tail))) (by exact rfl), ?_⟩
    rw [i64_in _ (by omega), show ((n : Int) + m) = ((n + m : Nat) : Int) by omega]
    refine ⟨_, _, _, _, sliceT rowU8.ht rowU8.hi q n c (n + m) hm' w, ?_⟩
    refine nilP_some ?_
    refine Sat.st h (k := 0) rfl (Nat.le_of_ble_eq_true rfl) trivial (by first | (dsimp only [List.set]; exact rfl) | exact rfl) fun w h => ?_
    exact h1 hm' _ h
  · refine br_false (by simp; omega) ?_
    exact h0 (by omega) _ h
theorem bufLen_ok {b : Nat} {q : Option Addr} {n c : Nat} {lr : Int} (h : Sat σ w (bufC b q n c lr :: L)) (hn : n < 4611686018427387904) (hR : ∀ w, Sat σ w (bufC b q n c lr :: L) → R (.returned (.int .i64 n)) w) :
    callE P i_bytes_Buffer_Len #[.pointer (some ⟨b, 0, none⟩)] R w := by
  refine g_bytes_Buffer_Len.sound ?_
  refine Sat.tk h fun w h => ?_
  refine nilP_some (nilP_some ?_)
  refine ⟨_, _, _, Sat.ld h (by first | assumption | (repeat (first | exact .head _ | apply List.Mem.tail))) (by exact rfl), ?_⟩
  refine ⟨_, Sat.ld h (by first | assumption | (repeat (first | exact .head _ | apply List.Mem.tail))) (by exact rfl), ?_⟩
  rw [i64_in _ (by omega), Int.sub_zero]
  exact hR _ h
end Go.Proofs.YtejiaegiijokcaaGreatDoor


set_option linter.unusedVariables false
set_option maxRecDepth 20000
namespace Go.Proofs.YtejiaegiijokcaaGreatDoor
open Go.Proofs
noncomputable abbrev x_internal_abi_NoEscape : Func := Tryz.f41
theorem xf_internal_abi_NoEscape : P.funcs[i_internal_abi_NoEscape]? = some x_internal_abi_NoEscape := Tryz.func41
noncomputable abbrev x_internal_bytealg_IndexByteString : Func := Tryz.f57
theorem xf_internal_bytealg_IndexByteString : P.funcs[i_internal_bytealg_IndexByteString]? = some x_internal_bytealg_IndexByteString := Tryz.func57
noncomputable abbrev x_internal_bytealg_MakeNoZero : Func := Tryz.f214
theorem xf_internal_bytealg_MakeNoZero : P.funcs[i_internal_bytealg_MakeNoZero]? = some x_internal_bytealg_MakeNoZero := Tryz.func214
theorem cf_bytes_growSlice : ∀ args w, (callFunc i_bytes_growSlice args).run P w = .ok (.enter i_bytes_growSlice args) w := Tryz.call264
end Go.Proofs.YtejiaegiijokcaaGreatDoor


set_option linter.unusedVariables false
namespace Go.Proofs.YtejiaegiijokcaaGreatDoor
open Go.Proofs Go.Shelf
def lays290_ren : Go.Shelf.Ren := ⟨fun | 290 => 264 | 324 => 265 | n => n, fun | 37 => 22 | 3 => 3 | 0 => 0 | 4 => 4 | 20 => 20 | 75 => 28 | 5 => 5 | 80 => 35 | 9 => 9 | n => n, fun | 14 => 9 | n => n⟩
theorem lays290 : Go.Proofs.LaysM.n290 Tryz.prog lays290_ren := {
  mixed := by kernel_rfl
  f290 := Tryz.func264.trans (congrArg some (by kernel_rfl))
  f324 := Tryz.func265.trans (congrArg some (by kernel_rfl))
  t0 := Tryz.underlying0
  a0 := Tryz.isAgg0
  z0 := Tryz.sizeOf0
  v0 := Tryz.zeroValue0
  t3 := Tryz.underlying3
  a3 := Tryz.isAgg3
  z3 := Tryz.sizeOf3
  v3 := Tryz.zeroValue3
  t4 := Tryz.underlying4
  a4 := Tryz.isAgg4
  z4 := Tryz.sizeOf4
  v4 := Tryz.zeroValue4
  t20 := Tryz.underlying20
  a20 := Tryz.isAgg20
  z20 := Tryz.sizeOf20
  v20 := Tryz.zeroValue20
  t37 := Tryz.underlying22
  a37 := Tryz.isAgg22
  z37 := Tryz.sizeOf22
  v37 := Tryz.zeroValue22
  t75 := Tryz.underlying28
  a75 := Tryz.isAgg28
  z75 := Tryz.sizeOf28
  v75 := Tryz.zeroValue28
  g14 := by kernel_rfl
  t5 := Tryz.underlying5
  a5 := Tryz.isAgg5
  z5 := Tryz.sizeOf5
  v5 := Tryz.zeroValue5
  t9 := Tryz.underlying9
  a9 := Tryz.isAgg9
  z9 := Tryz.sizeOf9
  v9 := Tryz.zeroValue9
  t80 := Tryz.underlying35
  a80 := Tryz.isAgg35
  z80 := Tryz.sizeOf35
  v80 := Tryz.zeroValue35
  i0 := by kernel_rfl
  i3 := by kernel_rfl
  i4 := by kernel_rfl
  i5 := by kernel_rfl
  i9 := by kernel_rfl
  i20 := by kernel_rfl
  i37 := by kernel_rfl
  i75 := by kernel_rfl
  i80 := by kernel_rfl
  m14 := by kernel_rfl }
end Go.Proofs.YtejiaegiijokcaaGreatDoor


set_option linter.unusedVariables false
namespace Go.Proofs.YtejiaegiijokcaaGreatDoor
open Go.Proofs Go.IntWalk
variable {σ : Out} {w : World} {L L' : List Chunk} {R : Ending → World → Prop}

theorem ext_of {f : FuncId} {fn : Func} {e : Array Value → Sem Value} {args : Array Value} {v : Value} {w' : World} (hf : P.funcs[f]? = some fn) (hname : (fn.name == "runtime.NumGoroutine") = false)
    (hb : fn.body.isNone = true) (hn : Extern.findNext fn = none) (he : Extern.find fn = some e) (hr : (e args).run P w = .ok v w') (h : R (.returned v) w') : callE P f args R w := by
  refine .inr ⟨v, w', ?_, h⟩
  rw [run_callFunc_extern hf hname hb hn he, hr]
  rfl
theorem noEscape_ok {x : Value} (h : R (.returned x) w) : callE P i_internal_abi_NoEscape #[x] R w :=
  ext_of (e := Extern.AbiNoEscape.same) xf_internal_abi_NoEscape (by kernel_rfl) (by kernel_rfl) (by kernel_rfl) (by kernel_rfl) rfl h
def idxB (l : List UInt8) (c : UInt8) : Int := Lib.indexByte l c
theorem indexByte_ok {l : List UInt8} {c : UInt8} (h : R (.returned (.int .i64 (idxB l c))) w) : callE P i_internal_bytealg_IndexByteString #[.string (bs l), .int .u8 (c.toNat : Int)] R w := by
  refine ext_of (e := Extern.BytealgIndexByte.indexByte) xf_internal_bytealg_IndexByteString (by kernel_rfl) (by kernel_rfl) (by kernel_rfl) (by kernel_rfl) (Lib.run_indexByteString _ _ w) ?_
  have e : ((c.toNat : Int)).toNat.toUInt8 = c := by simp
  rw [e]
  exact h
theorem indexByte2_ok {l : List UInt8} {c : UInt8} (h : R (.returned (.int .i64 (idxB l c))) w) : callE P i_strings_IndexByte #[.string (bs l), .int .u8 (c.toNat : Int)] R w := by
  refine g_strings_IndexByte.sound ?_
  refine g_internal_stringslite_IndexByte.sound ?_
  refine indexByte_ok ⟨_, rfl, ⟨_, rfl, h⟩⟩
theorem idxB_nonneg : ∀ {l : List UInt8} {c : UInt8}, 0 ≤ idxB l c ↔ c ∈ l
  | [], c => by simp [idxB, Lib.indexByte]
  | b :: l, c => by
    have ih := @idxB_nonneg l c
    have h2 := Lib.indexByte_ge l c
    unfold idxB at *
    simp only [Lib.indexByte, List.mem_cons]
    split
    · rename_i hb; simp at hb; simp [hb]
    · rename_i hb
      simp at hb
      have hb' : ¬ c = b := fun h => hb h.symm
      simp only [hb', false_or]
      split
      · rename_i hm; simp at hm; rw [hm] at ih; rw [← ih]
      · rw [← ih]; rename_i hm; simp at hm; omega
end Go.Proofs.YtejiaegiijokcaaGreatDoor


set_option linter.unusedVariables false
namespace Go.Proofs.YtejiaegiijokcaaGreatDoor
open Go.Proofs
theorem bin_eql {P : Program} {t : TypeId} {a b : Value} {r : Bool} {w : World} {x y : Operand} (h1 : (eqGuard .eql t x y a b).run P w = .ok () w) (h2 : binOp .eql t a b = (do pure (.bool (← Op.equal t a b))))
    (h : (Op.equal t a b).run P w = .ok r w) : (do eqGuard .eql t x y a b; binOp .eql t a b).run P w = .ok (.bool r) w := by
  rw [h2]
  simp only [Sem.run_bind, h1, h, Result.andThen_ok]
  rfl
theorem bin_neq {P : Program} {t : TypeId} {a b : Value} {r : Bool} {w : World} {x y : Operand} (h1 : (eqGuard .neq t x y a b).run P w = .ok () w) (h2 : binOp .neq t a b = (do pure (.bool (!(← Op.equal t a b)))))
    (h : (Op.equal t a b).run P w = .ok r w) : (do eqGuard .neq t x y a b; binOp .neq t a b).run P w = .ok (.bool (!r)) w := by
  rw [h2]
  simp only [Sem.run_bind, h1, h, Result.andThen_ok]
  rfl
variable {P : Program}
theorem equal_slice_nil {t e : TypeId} (hu : P.underlying t = some (.slice e)) (q : Option Addr) (n c : Nat) (w : World) : (Op.equal t (.slice q n c) (.slice none 0 0)).run P w = .ok q.isNone w :=
  have h : ∀ d, (Op.equalIn (d + 1) t (.slice q n c) (.slice none 0 0)).run P w = .ok q.isNone w := fun d => by
    cases q <;> simp [Op.equalIn, run_underlying hu]
  h 9999
theorem eq_slice_nil {t e : TypeId} {x y : Operand} (hu : P.underlying t = some (.slice e)) (q : Option Addr) (n c : Nat) (w : World) :
    (do eqGuard .eql t x y (.slice q n c) (.slice none 0 0); binOp .eql t (.slice q n c) (.slice none 0 0)).run P w = .ok (.bool q.isNone) w :=
  bin_eql rfl rfl (equal_slice_nil hu q n c w)
theorem equal_ptr_nil {t e : TypeId} (hu : P.underlying t = some (.pointer e)) (q : Option Addr) (w : World) : (Op.equal t (.pointer q) (.pointer none)).run P w = .ok q.isNone w :=
  have h : ∀ d, (Op.equalIn (d + 1) t (.pointer q) (.pointer none)).run P w = .ok q.isNone w := fun d => by
    cases q <;> simp [Op.equalIn, run_underlying hu]
  h 9999
theorem ptrNil_eq {t e : TypeId} {x y : Operand} (hu : P.underlying t = some (.pointer e)) (q : Option Addr) (w : World) :
    (do eqGuard .eql t x y (.pointer q) (.pointer none); binOp .eql t (.pointer q) (.pointer none)).run P w = .ok (.bool q.isNone) w :=
  bin_eql rfl rfl (equal_ptr_nil hu q w)
theorem neq_ptr_nil {t e : TypeId} {x y : Operand} (hu : P.underlying t = some (.pointer e)) (q : Option Addr) (w : World) :
    (do eqGuard .neq t x y (.pointer q) (.pointer none); binOp .neq t (.pointer q) (.pointer none)).run P w = .ok (.bool (!q.isNone)) w :=
  bin_neq rfl rfl (equal_ptr_nil hu q w)
theorem equal_ptr_same {t e : TypeId} (hu : P.underlying t = some (.pointer e)) {i : TypeInfo} (hi : P.info? e = some i) (hs : i.size ≠ 0) (b : Nat) (w : World) : (Op.equal t (.pointer (some ⟨b, 0, none⟩)) (.pointer (some ⟨b, 0, none⟩))).run P w = .ok true w :=
  have h : ∀ d, (Op.equalIn (d + 1) t (.pointer (some ⟨b, 0, none⟩)) (.pointer (some ⟨b, 0, none⟩))).run P w = .ok true w := fun d => by
    simp [Op.equalIn, run_underlying hu, sizeOf, typeInfo, hi, hs, sameAddr]
  h 9999
theorem neq_ptr_same {t e : TypeId} {x y : Operand} (hu : P.underlying t = some (.pointer e)) {i : TypeInfo} (hi : P.info? e = some i) (hs : i.size ≠ 0) (b : Nat) (w : World) :
    (do eqGuard .neq t x y (.pointer (some ⟨b, 0, none⟩)) (.pointer (some ⟨b, 0, none⟩)); binOp .neq t (.pointer (some ⟨b, 0, none⟩)) (.pointer (some ⟨b, 0, none⟩))).run P w = .ok (.bool false) w :=
  bin_neq rfl rfl (equal_ptr_same hu hi hs b w)
theorem neq_func_nil {t : TypeId} {ps rs : Array TypeId} {vr : Bool} {x y : Operand} (hu : P.underlying t = some (.func ps rs vr)) (k : FuncId) (f g : Array Value) (w : World) :
    (do eqGuard .neq t x y (.func (.func k) f g) .nilFunc; binOp .neq t (.func (.func k) f g) .nilFunc).run P w = .ok (.bool true) w := by
  have h : ∀ d, (Op.equalIn (d + 1) t (.func (.func k) f g) .nilFunc).run P w = .ok false w := fun d => by
    simp [Op.equalIn, run_underlying hu]
  exact bin_neq rfl rfl (h 9999)
theorem neq_nil_nil {t : TypeId} {ps rs : Array TypeId} {vr : Bool} {x y : Operand} (hu : P.underlying t = some (.func ps rs vr)) (w : World) :
    (do eqGuard .neq t x y .nilFunc .nilFunc; binOp .neq t .nilFunc .nilFunc).run P w = .ok (.bool false) w := by
  have h : ∀ d, (Op.equalIn (d + 1) t .nilFunc .nilFunc).run P w = .ok true w := fun d => by
    simp [Op.equalIn, run_underlying hu]
  exact bin_neq rfl rfl (h 9999)
end Go.Proofs.YtejiaegiijokcaaGreatDoor


set_option linter.unusedVariables false
namespace Go.Proofs.YtejiaegiijokcaaGreatDoor
open Go.Proofs Go.IntWalk Go.RowKit
variable {σ : Out} {w : World} {L L' : List Chunk} {R : Ending → World → Prop}

theorem Sat.newRow (h : Sat σ w L) {w' : World} (hb : Below w.heap.size w w') {cs : Array Value} {e : TypeId} (hr : w'.heap[w.heap.size]? = some (.cells cs e)) : Sat σ w' ((w.heap.size, cel cs.toList e) :: L) := by
  refine ⟨hb.os.trans h.os, hb.output.trans h.out, ?_, ?_⟩
  · simp only [List.map_cons, List.nodup_cons]
    refine ⟨fun hm => ?_, h.nodup⟩
    obtain ⟨c, hc, he⟩ := List.mem_map.1 hm
    exact Nat.lt_irrefl _ (he ▸ h.lt hc)
  · intro c hc
    cases hc with
    | head => simpa [cel] using hr
    | tail _ hc =>
      rw [hb.block _ (h.lt hc)]
      exact h.at_ _ hc
theorem callE_calls {f : FuncId} {args : Array Value} (hc : ∀ args w, (callFunc f args).run P w = .ok (.enter f args) w) (h : Calls P f args w R) : callE P f args R w := .inl ⟨hc, h⟩

theorem growSlice_ok {q : Option Addr} {n c m : Nat} {l : List UInt8} {M : List Chunk} (hS : By q n c l M) (h : Sat σ w (M ++ L)) (hm : 1 ≤ m) (hcm : c < n + m) (hb : n + m ≤ 1099511627776)
    (hR : ∀ w b c' sp, n + m ≤ c' → c' ≤ 9223372036854775807 → By (some ⟨b, 0, none⟩) n c' l [(b, cel (bc l ++ sp) ty_uint8)] → Sat σ w ((b, cel (bc l ++ sp) ty_uint8) :: (M ++ L)) → R (.returned (.slice (some ⟨b, 0, none⟩) n c')) w) :
    callE P i_bytes_growSlice #[.slice q n c, .int .i64 m] R w := by
  have hn := hS.len
  have hS0 := hS
  obtain ⟨hl, hnc, ⟨rfl, rfl, rfl, rfl⟩ | ⟨b, sp, rfl, rfl, h3⟩⟩ := hS
  · have hl0 : l = [] := List.eq_nil_of_length_eq_zero (by omega)
    subst hl0
    refine callE_calls cf_bytes_growSlice ((Any.bytes_growSlice_nil (P := P) lays290 m w hm (by omega)).mono ?_)
    rintro e w' ⟨cap2, cells, rfl, hr, hsz, hge, hle, hbl⟩
    have := h.newRow hbl hr
    have ht5 : lays290_ren.t 5 = ty_uint8 := rfl
    rw [ht5] at this
    refine hR w' _ cap2 cells.toList (by omega) (by unfold maxLen at hle; exact hle) ⟨by simp [bc], by omega, .inr ⟨_, cells.toList, rfl, rfl, ?_⟩⟩ this
    simp [bc, hsz]
  · have hg := h.at_ _ (.head _)
    refine callE_calls cf_bytes_growSlice ((Any.bytes_growSlice_row (P := P) lays290 b n c m (bc l ++ sp).toArray w hg (by simpa using h3) hnc hm (by omega) (by omega) ?_).mono ?_)
    · intro v hv
      rw [hn] at hv
      rw [show (bc l ++ sp).toArray.toList.take l.length = bc l from by rw [← bc_length l]; simp] at hv
      exact bc_one v hv
    · rintro e w' ⟨cap2, cells, rfl, hr, hsz, htk, hge, hle, hbl⟩
      have htk' : cells.toList.take n = bc l := by rw [htk, hn, ← bc_length l]; simp
      have hcs : cells.toList = bc l ++ cells.toList.drop n := by rw [← htk', List.take_append_drop]
      have := h.newRow hbl hr
      rw [hcs] at this
      refine hR w' _ cap2 (cells.toList.drop n) hge (by unfold maxLen at hle; exact hle) ⟨by simp; omega, by omega, .inr ⟨_, _, rfl, rfl, ?_⟩⟩ this
      rw [← hcs, Array.length_toList]; omega
theorem By.raw {q : Option Addr} {n c : Nat} {l : List UInt8} {M : List Chunk} (h : By q n c l M) : (q = none ∧ n = 0 ∧ c = 0 ∧ M = []) ∨ ∃ b sp, q = some ⟨b, 0, none⟩ ∧ M = [(b, cel (bc l ++ sp) ty_uint8)] ∧ (bc l ++ sp).length = c := by
  obtain ⟨_, _, h | ⟨b, sp, h1, h2, h3⟩⟩ := h
  · exact .inl h
  · exact .inr ⟨b, sp, h1, h2, by omega⟩
theorem grow_ok {b : Nat} {q : Option Addr} {c m : Nat} {lr : Int} {l : List UInt8} {M : List Chunk} (h : Sat σ w (bufC b q l.length c lr :: (M ++ L))) (hS : By q l.length c l M) (hm : 1 ≤ m) (hcm : c < l.length + m) (hb : l.length + m ≤ 1099511627776)
    (hR : ∀ w g c' sp lr, l.length + m ≤ c' → c' ≤ 9223372036854775807 → (bc l ++ sp).length = c' → Sat σ w (bufC b (some ⟨g, 0, none⟩) (l.length + m) c' lr :: (g, cel (bc l ++ sp) ty_uint8) :: L) → R (.returned (.int .i64 l.length)) w) :
    callE P i_bytes_Buffer_grow #[.pointer (some ⟨b, 0, none⟩), .int .i64 m] R w := by
  have hnc := hS.2.1
  refine g_bytes_Buffer_grow.sound ?_
  refine bufLen_ok h (by omega) fun w h => ⟨_, rfl, ?_⟩
  have key2 : ∀ w, Sat σ w (bufC b q l.length c lr :: (M ++ L)) → 1 ≤ m → tk w fun w32 =>
      nilP (some ⟨b, 0, none⟩) fun a33 => nilP (some ⟨b, 0, none⟩) fun a34 => nilP (some ⟨b, 0, none⟩) fun a35 =>
      ∃ (v36q : Option Addr), ∃ (v36n : Nat), ∃ (v36c : Nat), w32.cell? a33 = some (.slice v36q v36n v36c) ∧
      ∃ (v37 : Int), w32.cell? (a34.add 1) = some (.int .i64 v37) ∧
      ∃ (r38q : Option Addr), ∃ (r38n : Nat), ∃ (r38c : Nat), (∀ w, (Instr.sliceAt ty_S_uint8 (.slice v36q v36n v36c) (some (.int .i64 v37)) none none).run P w = .ok (.slice r38q r38n r38c) w) ∧
      ∃ (v39 : Int), w32.cell? (a35.add 1) = some (.int .i64 v39) ∧
      callE P i_bytes_growSlice #[.slice r38q r38n r38c, .int .i64 (IntKind.i64.wrap (v39 + (m : Int)))] (fun e w41 => ∃ (r40q : Option Addr), ∃ (r40n : Nat), ∃ (r40c : Nat), e = .returned (.slice r40q r40n r40c) ∧
      nilP (some ⟨b, 0, none⟩) fun a42 => stV w41 (a42.add 0) (.slice r40q r40n r40c) fun w43 => g_bytes_Buffer_grow.k3 R (some ⟨b, 0, none⟩) m l.length w43) w32 := by
    intro w h _
    refine Sat.tk h fun w h => ?_
    refine nilP_some (nilP_some (nilP_some ?_))
    refine ⟨_, _, _, Sat.ld h (by first | assumption | (repeat (first | exact .head _ | apply List.Mem.tail))) (by exact rfl), ?_⟩
    refine ⟨_, Sat.ld h (by first | assumption | (repeat (first | exact .head _ | apply List.Mem.tail))) (by exact rfl), ?_⟩
    refine ⟨_, _, _, fun w => sliceF rowU8.ht rowU8.hi q l.length c 0 (by omega) w, ?_⟩
    refine ⟨_, Sat.ld h (by first | assumption | (repeat (first | exact .head _ | apply List.Mem.tail))) (by exact rfl), ?_⟩
    rw [Int.zero_add, i64_in _ (by omega)]
    have e0 : (if c = 0 then q else q.map (·.add (0 * rowU8.i.size))) = q := by
      rw [Nat.zero_mul]
      split
      · rfl
      · cases q <;> rfl
    rw [e0, Nat.sub_zero, Nat.sub_zero]
    have h : Sat σ w (M ++ (bufC b q l.length c lr :: L)) := h.re (by intro _; simp only [List.append_eq, cnt_append, cnt_cons, cnt_nil] <;> omega)
    refine growSlice_ok hS h hm hcm hb fun w g c' sp h1 h2 h3 h => ⟨_, _, _, rfl, nilP_some ?_⟩
    have h : Sat σ w (bufC b q l.length c lr :: (g, cel (bc l ++ sp) ty_uint8) :: (M ++ L)) := h.re (by intro _; simp only [List.append_eq, cnt_append, cnt_cons, cnt_nil] <;> omega)
    refine Sat.st h (k := 0) rfl (Nat.le_of_ble_eq_true rfl) trivial (by first | (dsimp only [List.set]; exact rfl) | exact rfl) fun w h => ?_
    refine nilP_some ?_
    refine Sat.st h (k := 0) rfl (Nat.le_of_ble_eq_true rfl) trivial (by first | (dsimp only [List.set]; exact rfl) | exact rfl) fun w h => ?_
    refine nilP_some ?_
    refine ⟨_, _, _, Sat.ld h (by first | assumption | (repeat (first | exact .head _ | apply List.Mem.tail))) (by exact rfl), ?_⟩
    rw [i64_in _ (by omega), show ((l.length : Int) + m) = ((l.length + m : Nat) : Int) by omega]
    refine ⟨_, _, _, _, sliceT rowU8.ht rowU8.hi _ _ c' (l.length + m) h1 w, ?_⟩
    refine nilP_some ?_
    refine Sat.st h (k := 0) rfl (Nat.le_of_ble_eq_true rfl) trivial (by first | (dsimp only [List.set]; exact rfl) | exact rfl) fun w h => ?_
    have h4 : (bc l ++ sp).length = c' := by
      obtain ⟨_, _, ⟨h, _⟩ | ⟨b', sp', e1, e2, h3⟩⟩ := h3
      · cases h
      · simp only [List.cons.injEq, Prod.mk.injEq] at e2
        have : cel (bc l ++ sp) ty_uint8 = cel (bc l ++ sp') ty_uint8 := e2.1.2
        simp only [cel, Obj.cells.injEq, and_true] at this
        have e3 : bc l ++ sp = bc l ++ sp' := by simpa using congrArg Array.toList this
        rw [e3]; omega
    refine hR w g c' sp lr h1 h2 h4 ?_
    have h : Sat σ w (bufC b (some ⟨g, 0, none⟩) (l.length + m) c' lr :: (g, cel (bc l ++ sp) ty_uint8) :: (M ++ L)) := h
    exact h.less M (by intro _; simp only [List.append_eq, cnt_append, cnt_cons, cnt_nil] <;> omega)
  have key : ∀ w, Sat σ w (bufC b q l.length c lr :: (M ++ L)) → g_bytes_Buffer_grow.k1 R (some ⟨b, 0, none⟩) m l.length w := by
    intro w h
    refine tryGrow_ok h hnc (by omega) (by omega) (by omega) (fun hh => absurd hh (by omega)) fun _ w h => ⟨_, _, rfl, ?_⟩
    refine br_false rfl ?_
    refine nilP_some ?_
    refine ⟨_, _, _, Sat.ld h (by first | assumption | (repeat (first | exact .head _ | apply List.Mem.tail))) (by exact rfl), ?_⟩
    refine ⟨_, _, eq_slice_nil rowU8.ht q _ c w, ?_⟩
    rcases hS.raw with ⟨rfl, hl0, rfl, rfl⟩ | ⟨g, sp, rfl, rfl, h3⟩
    · obtain rfl := List.eq_nil_of_length_eq_zero hl0
      by_cases h64 : m ≤ 64
      · refine br_true (by simp; omega) ?_
        have hmk := run_makeSlice (P := P) (w := w) ty_S_uint8 ty_uint8 rowU8.i rowU8.z rowU8.ht rowU8.hi rowU8.hz .i64 .i64 (m : Int) 64 (by omega) (by omega) (by rw [rowU8.hs]; decide) (by rw [rowU8.hb]; decide) (by omega)
        refine ⟨_, _, _, _, hmk, nilP_some ?_⟩
        rw [rowU8.hs]
        have hal := h.alc (madeCells rowU8.z.cells ((64 : Int).toNat * 1)).toList ty_uint8
        rw [show YtejiaegiijokcaaGreatDoor.alc w (madeCells rowU8.z.cells ((64 : Int).toNat * 1)).toList.toArray ty_uint8 = w.alloc (.cells (madeCells rowU8.z.cells ((64 : Int).toNat * 1)) ty_uint8) from by rw [Array.toArray_toList]; rfl] at hal
        generalize w.heap.size = g at hal ⊢
        refine Sat.st hal (k := 1) rfl (Nat.le_of_ble_eq_true rfl) trivial rfl fun w h => ?_
        refine hR w g 64 (madeCells rowU8.z.cells ((64 : Int).toNat * 1)).toList lr (by simpa using h64) (by omega) ?_ ?_
        · show ([] ++ (madeCells rowU8.z.cells ((64 : Int).toNat * 1)).toList).length = 64
          rw [List.nil_append, Array.length_toList, size_madeCells]; decide
        · have e : m = ([] : List UInt8).length + m := by simp
          rw [← e]
          have h : Sat σ w ((g, cel (madeCells rowU8.z.cells ((64 : Int).toNat * 1)).toList ty_uint8) :: bufC b (some ⟨g, 0, none⟩) m 64 lr :: L) := h
          exact h.up1
      · refine br_false (by simp; omega) ?_
        refine nilP_some ?_
        refine ⟨_, _, _, Sat.ld h (by first | assumption | (repeat (first | exact .head _ | apply List.Mem.tail))) (by exact rfl), ?_⟩
        refine ⟨_, _, capRun _ _ _ _ _ _ rowU8.ht w, by decide, ?_⟩
        refine br_false (by rw [show Int.tdiv ((0 : Nat) : Int) 2 = 0 from rfl]; simp (disch := omega) only [i64_in]; simp; omega) ?_
        refine br_false (by simp (disch := omega) only [i64_in]; simp; omega) ?_
        exact key2 w h (by omega)
    · refine br_false (by simp) ?_
      refine nilP_some ?_
      refine ⟨_, _, _, Sat.ld h (by first | assumption | (repeat (first | exact .head _ | apply List.Mem.tail))) (by exact rfl), ?_⟩
      refine ⟨_, _, capRun _ _ _ _ _ _ rowU8.ht w, by decide, ?_⟩
      have hd : Int.tdiv (c : Int) 2 = ((c / 2 : Nat) : Int) := by rw [Int.tdiv_eq_ediv_of_nonneg (by omega)]; omega
      rw [hd]
      refine br_false (by simp (disch := omega) only [i64_in]; simp; omega) ?_
      refine br_false (by simp (disch := omega) only [i64_in]; simp; omega) ?_
      exact key2 w h (by omega)
  refine br_split (fun h0 => ?_) (fun _ => key w h)
  refine nilP_some ?_
  refine ⟨_, Sat.ld h (by first | assumption | (repeat (first | exact .head _ | apply List.Mem.tail))) (by exact rfl), ?_⟩
  exact br_false rfl (key w h)
theorem u8size : (P.info? ty_uint8).map (·.size) = some 1 := by kernel_rfl
theorem byS_mk {b n c : Nat} {l : List UInt8} {sp : List Value} (hn : n = l.length) (h : (bc l ++ sp).length = c) : By (some ⟨b, 0, none⟩) n c l [(b, cel (bc l ++ sp) ty_uint8)] := by
  refine ⟨by rw [bc_length]; omega, ?_, .inr ⟨b, sp, rfl, rfl, by omega⟩⟩
  rw [List.length_append, bc_length] at h
  omega
theorem Sat.row {g : Nat} {cs : List Value} {e : TypeId} (h : Sat σ w ((g, cel cs e) :: L)) (o : Nat) (vs : List Value) (hl : o + vs.length ≤ cs.length) :
    Sat σ (w.setRow g (cs.take o ++ vs ++ cs.drop (o + vs.length)).toArray) ((g, cel (cs.take o ++ vs ++ cs.drop (o + vs.length)) e) :: L) := by
  have hg := h.at_ _ (.head _)
  refine ⟨h.os, h.out, h.nodup, fun c hc => ?_⟩
  cases hc with
  | head =>
    simp only [World.setRow, Array.getElem?_modify, if_true]
    rw [show w.heap[g]? = _ from hg]
    simp [cel]
  | tail _ hc =>
    have hne : g ≠ c.1 := by
      intro h1
      have := h.nodup
      simp only [List.map_cons, List.nodup_cons] at this
      exact this.1 (by rw [h1]; exact List.mem_map.2 ⟨c, hc, rfl⟩)
    simp only [World.setRow, Array.getElem?_modify, if_neg hne]
    exact h.at_ _ (.tail _ hc)
theorem writeK_ok {b g c : Nat} {lr : Int} {l s : List UInt8} {sp : List Value} (h : Sat σ w (bufC b (some ⟨g, 0, none⟩) (l.length + s.length) c lr :: (g, cel (bc l ++ sp) ty_uint8) :: L)) (hc : (bc l ++ sp).length = c) (hle : l.length + s.length ≤ c) (hc2 : c ≤ 9223372036854775807)
    (hR : ∀ w M, Buf b (l ++ s) M → Sat σ w (M ++ L) → R (.returned (.tuple #[.int .i64 s.length, .nilIface])) w) : g_bytes_Buffer_WriteString.k1 R (some ⟨b, 0, none⟩) (bs s) l.length w := by
  refine nilP_some ?_
  refine ⟨_, _, _, Sat.ld h (by first | assumption | (repeat (first | exact .head _ | apply List.Mem.tail))) (by exact rfl), ?_⟩
  refine ⟨_, _, _, _, sliceF rowU8.ht rowU8.hi _ (l.length + s.length) c l.length (by omega) w, ?_⟩
  have h : Sat σ w ((g, cel (bc l ++ sp) ty_uint8) :: bufC b (some ⟨g, 0, none⟩) (l.length + s.length) c lr :: L) := h.up1
  have hg := h.at_ _ (.head _)
  by_cases h0 : c = l.length
  · have hs : s = [] := List.eq_nil_of_length_eq_zero (by omega)
    subst hs
    rw [if_pos h0]
    have hcp := Lib.run_copy_row_string (P := P) w ty_S_uint8 ty_string ty_int ty_uint8 g 0 (l.length + ([] : List UInt8).length - l.length) (c - l.length) (bs []) (bc l ++ sp).toArray ty_uint8 rowU8.ht u8size hg (by simp) (by simp)
    refine ⟨_, _, hcp, ?_⟩
    have hrow := h.row 0 [] (by simp)
    have e1 : ((bc l ++ sp).toArray.toList.take 0 ++ Lib.byteCells (bs []).data.toList ++ (bc l ++ sp).toArray.toList.drop (0 + (bs []).size)) = (bc l ++ sp).take 0 ++ [] ++ (bc l ++ sp).drop (0 + ([] : List Value).length) := by
      simp [Lib.byteCells]
    rw [e1]
    have e2 : (bc l ++ sp).take 0 ++ [] ++ (bc l ++ sp).drop (0 + ([] : List Value).length) = bc l ++ sp := by simp
    rw [e2] at hrow ⊢
    refine hR _ (bufC b (some ⟨g, 0, none⟩) (l ++ []).length c lr :: [(g, cel (bc (l ++ []) ++ sp) ty_uint8)]) ⟨_, c, lr, _, rfl, byS_mk rfl (by rw [List.append_nil]; exact hc), hc2⟩ ?_
    rw [List.append_nil]
    exact hrow.up1
  · rw [if_neg h0]
    rw [rowU8.hs, Nat.mul_one]
    have e1 : (some (⟨g, 0, none⟩ : Addr)).map (·.add l.length) = some ⟨g, l.length, none⟩ := by simp [Addr.add_zero_lit]
    rw [e1]
    have hcp := Lib.run_copy_row_string (P := P) w ty_S_uint8 ty_string ty_int ty_uint8 g l.length (l.length + s.length - l.length) (c - l.length) (bs s) (bc l ++ sp).toArray ty_uint8 rowU8.ht u8size hg (by simp) (by simp at hc ⊢; omega)
    refine ⟨_, _, hcp, ?_⟩
    have hb : Lib.byteCells (bs s).data.toList = bc s := by simp [Lib.byteCells, bc, bs]
    rw [hb, bs_size]
    have hrow := h.row l.length (bc s) (by simp at hc ⊢; omega)
    rw [bc_length] at hrow
    have e2 : (bc l ++ sp).take l.length = bc l := by rw [← bc_length l, List.take_left]
    have e3 : (bc l ++ sp).drop (l.length + s.length) = sp.drop s.length := by
      rw [List.drop_append, List.drop_eq_nil_of_le (by rw [bc_length]; omega), bc_length, Nat.add_sub_cancel_left]; rfl
    rw [e2, e3] at hrow
    refine hR _ (bufC b (some ⟨g, 0, none⟩) (l ++ s).length c lr :: [(g, cel (bc (l ++ s) ++ sp.drop s.length) ty_uint8)]) ⟨_, c, lr, _, rfl, byS_mk rfl ?_, hc2⟩ ?_
    · simp at hc ⊢; omega
    · rw [List.length_append, bc_append]
      simp only [e2, e3]
      exact hrow.up1
end Go.Proofs.YtejiaegiijokcaaGreatDoor


set_option linter.unusedVariables false
namespace Go.Proofs.YtejiaegiijokcaaGreatDoor
open Go.Proofs Go.IntWalk Go.RowKit
variable {σ : Out} {w : World} {L L' : List Chunk} {R : Ending → World → Prop}
theorem copyNil (w : World) : (Builtin.copy_ #[ty_S_uint8, ty_string] ty_int #[.slice none 0 0, .string (bs [])]).run P w = .ok (.int .i64 0) w := by
  have h : P.underlying ty_S_uint8 = some (.slice ty_uint8) := rowU8.ht
  have h2 : P.info? ty_uint8 = some rowU8.i := rowU8.hi
  have h3 := firstCells_string (P := P) (bs []) w
  have h4 : (Builtin.lenOf (.string (bs []))).run P w = .ok 0 w := rfl
  have h5 : rowU8.i.size = 1 := rowU8.hs
  have h6 : (Builtin.firstCells 1 0 (.string (bs []))).run P w = .ok (Go.byteCells (bs [])).toArray w := h3
  simp [Builtin.copy_, run_underlying h, sizeOf, typeInfo, h2, goInt, h4, h5, h6]
theorem writeS_ok {b : Nat} {l s : List UInt8} {M : List Chunk} (hB : Buf b l M) (h : Sat σ w (M ++ L)) (hb : l.length + s.length ≤ 1099511627776)
    (hR : ∀ w M', Buf b (l ++ s) M' → Sat σ w (M' ++ L) → R (.returned (.tuple #[.int .i64 s.length, .nilIface])) w) : callE P i_bytes_Buffer_WriteString #[.pointer (some ⟨b, 0, none⟩), .string (bs s)] R w := by
  obtain ⟨q, c, lr, M0, rfl, hS, hc⟩ := hB
  have hnc := hS.2.1
  refine g_bytes_Buffer_WriteString.sound ?_
  refine nilP_some ?_
  refine Sat.st h (k := 0) rfl (Nat.le_of_ble_eq_true rfl) trivial (by first | (dsimp only [List.set]; exact rfl) | exact rfl) fun w h => ?_
  have h : Sat σ w (bufC b q l.length c 0 :: (M0 ++ L)) := h
  rw [bs_size]
  refine tryGrow_ok h hnc hc (by omega) (by omega) (fun hh w h => ⟨_, _, rfl, br_false rfl ?_⟩) (fun hh w h => ⟨_, _, rfl, br_true rfl ?_⟩)
  · rcases hS.raw with ⟨rfl, hl0, rfl, rfl⟩ | ⟨g, sp, rfl, rfl, h3⟩
    · obtain rfl := List.eq_nil_of_length_eq_zero hl0
      obtain rfl : s = [] := List.eq_nil_of_length_eq_zero (by simpa using hh)
      refine nilP_some ?_
      refine ⟨_, _, _, Sat.ld h (by first | assumption | (repeat (first | exact .head _ | apply List.Mem.tail))) (by exact rfl), ?_⟩
      refine ⟨_, _, _, _, sliceF rowU8.ht rowU8.hi none 0 0 0 (by omega) w, ?_⟩
      refine ⟨_, _, copyNil w, ?_⟩
      exact hR w _ ⟨none, 0, 0, [], rfl, By.nil, by omega⟩ h
    · exact writeK_ok h h3 hh hc fun w M' hB h => hR w M' hB h
  · refine grow_ok h hS (by omega) hh hb fun w g c' sp lr h1 h2 h3 h => ⟨_, rfl, ?_⟩
    exact writeK_ok h h3 h1 h2 fun w M' hB h => hR w M' hB h
theorem writeB_ok {b : Nat} {l : List UInt8} {k : UInt8} {M : List Chunk} (hB : Buf b l M) (h : Sat σ w (M ++ L)) (hb : l.length + 1 ≤ 1099511627776)
    (hR : ∀ w M', Buf b (l ++ [k]) M' → Sat σ w (M' ++ L) → R (.returned .nilIface) w) : callE P i_bytes_Buffer_WriteByte #[.pointer (some ⟨b, 0, none⟩), .int .u8 (k.toNat : Int)] R w := by
  obtain ⟨q, c, lr, M0, rfl, hS, hc⟩ := hB
  have hnc := hS.2.1
  refine g_bytes_Buffer_WriteByte.sound ?_
  refine nilP_some ?_
  refine Sat.st h (k := 0) rfl (Nat.le_of_ble_eq_true rfl) trivial (by first | (dsimp only [List.set]; exact rfl) | exact rfl) fun w h => ?_
  have h : Sat σ w (bufC b q l.length c 0 :: (M0 ++ L)) := h
  have key : ∀ w g c' sp lr, l.length + 1 ≤ c' → c' ≤ 9223372036854775807 → (bc l ++ sp).length = c' → Sat σ w (bufC b (some ⟨g, 0, none⟩) (l.length + 1) c' lr :: (g, cel (bc l ++ sp) ty_uint8) :: L) →
      g_bytes_Buffer_WriteByte.k1 R (some ⟨b, 0, none⟩) (k.toNat : Int) (l.length : Int) w := by
    intro w g c' sp lr h1 h2 h3 h
    refine nilP_some ?_
    refine ⟨_, _, _, Sat.ld h (by first | assumption | (repeat (first | exact .head _ | apply List.Mem.tail))) (by exact rfl), ?_⟩
    refine ⟨by omega, by omega, nilP_some ?_⟩
    simp only [Addr.add_lit, Int.toNat_natCast, Nat.mul_one, Nat.zero_add, Nat.add_zero]
    simp only [List.length_append, bc_length] at h3
    refine Sat.st h (k := 1) rfl (by simp; omega) trivial rfl fun w h => ?_
    have e : (bc l ++ sp).set l.length (.int .u8 (k.toNat : Int)) = bc (l ++ [k]) ++ sp.drop 1 := by
      rw [List.set_append_right _ _ (by simp), bc_length, Nat.sub_self, bc_append]
      cases sp with
      | nil => simp at h3; omega
      | cons x sp => simp [bc]
    have h : Sat σ w (bufC b (some ⟨g, 0, none⟩) (l.length + 1) c' lr :: (g, cel ((bc l ++ sp).set l.length (.int .u8 (k.toNat : Int))) ty_uint8) :: L) := h
    rw [e] at h
    refine hR w (bufC b (some ⟨g, 0, none⟩) (l ++ [k]).length c' lr :: [(g, cel (bc (l ++ [k]) ++ sp.drop 1) ty_uint8)]) ⟨_, c', lr, _, rfl, byS_mk rfl (by simp; omega), h2⟩ ?_
    rw [List.length_append]
    exact h
  refine tryGrow_ok (m := 1) h hnc hc (by omega) (by omega) (fun hh w h => ⟨_, _, rfl, br_false rfl ?_⟩) (fun hh w h => ⟨_, _, rfl, br_true rfl ?_⟩)
  · rcases hS.raw with ⟨rfl, hl0, rfl, rfl⟩ | ⟨g, sp, rfl, rfl, h3⟩
    · omega
    · exact key w g c sp 0 hh hc h3 h
  · exact grow_ok (m := 1) h hS (by omega) hh hb fun w g c' sp lr h1 h2 h3 h => ⟨_, rfl, key w g c' sp lr h1 h2 h3 h⟩
theorem bufStr_ok {b : Nat} {l : List UInt8} {M : List Chunk} (hB : Buf b l M) (h : Sat σ w (M ++ L)) (hR : ∀ w, Sat σ w (M ++ L) → R (.returned (.string (bs l))) w) :
    callE P i_bytes_Buffer_String #[.pointer (some ⟨b, 0, none⟩)] R w := by
  obtain ⟨q, c, lr, M0, rfl, hS, hc⟩ := hB
  refine g_bytes_Buffer_String.sound ?_
  refine ⟨_, _, ptrNil_eq (e := ty_bytes_Buffer) (by kernel_rfl) _ w, br_false rfl ?_⟩
  refine Sat.tk h fun w h => ?_
  refine nilP_some (nilP_some ?_)
  refine ⟨_, _, _, Sat.ld h (by first | assumption | (repeat (first | exact .head _ | apply List.Mem.tail))) (by exact rfl), ?_⟩
  refine ⟨_, Sat.ld h (by first | assumption | (repeat (first | exact .head _ | apply List.Mem.tail))) (by exact rfl), ?_⟩
  refine ⟨_, _, _, fun w => sliceF rowU8.ht rowU8.hi q l.length c 0 (by omega) w, ?_⟩
  have e0 : (if c = 0 then q else q.map (·.add (0 * rowU8.i.size))) = q := by
    rw [Nat.zero_mul]
    split
    · rfl
    · cases q <;> rfl
  rw [e0, Nat.sub_zero, Nat.sub_zero]
  have h' : Sat σ w (M0 ++ (bufC b q l.length c lr :: L)) := h.re (by intro _; simp only [List.append_eq, cnt_append, cnt_cons, cnt_nil] <;> omega)
  exact ⟨_, _, hS.str h', hR w h⟩
theorem bufNew (b : Nat) : Buf b [] [(b, cel [.slice none 0 0, .int .i64 0, .int .i8 0] ty_bytes_Buffer)] := ⟨none, 0, 0, [], rfl, By.nil, by omega⟩
end Go.Proofs.YtejiaegiijokcaaGreatDoor


set_option linter.unusedVariables false
namespace Go.Proofs.YtejiaegiijokcaaGreatDoor
open Go.Proofs Go.IntWalk Go.RowKit
variable {σ : Out} {w : World} {L L' : List Chunk} {R : Ending → World → Prop}
abbrev bldC (b : Nat) (p q : Option Addr) (n c : Nat) : Chunk := (b, cel [.pointer p, .slice q n c] ty_strings_Builder)
def Bld (b : Nat) (g : Bool) (l : List UInt8) (M : List Chunk) : Prop :=
  ∃ p q c M0, M = bldC b p q l.length c :: M0 ∧ By q l.length c l M0 ∧ (p = none ∨ p = some ⟨b, 0, none⟩) ∧ q.isSome = g ∧ (g = true → 0 < c)
theorem bldNew (b : Nat) : Bld b false [] [(b, cel [.pointer none, .slice none 0 0] ty_strings_Builder)] := ⟨none, none, 0, [], rfl, By.nil, .inl rfl, rfl, by simp⟩
theorem Sat.shape (h : Sat σ w L) {b : Nat} {cs : List Value} {e : TypeId} (hm : (b, cel cs e) ∈ L) : w.shape? b = some (e, cs.length) := by
  have := h.at_ _ hm
  simp only [cel] at this
  simp [World.shape?, this]
theorem copyCheck_ok {b : Nat} {p q : Option Addr} {n c : Nat} (h : Sat σ w (bldC b p q n c :: L)) (hp : p = none ∨ p = some ⟨b, 0, none⟩)
    (hR : ∀ w, Sat σ w (bldC b (some ⟨b, 0, none⟩) q n c :: L) → R (.returned (.tuple #[])) w) : callE P i_strings_Builder_copyCheck #[.pointer (some ⟨b, 0, none⟩)] R w := by
  have hu : P.underlying ty_P_strings_Builder = some (.pointer ty_strings_Builder) := by kernel_rfl
  have hun : P.underlying ty_unsafe_Pointer = some .unsafePointer := by kernel_rfl
  have hi : P.info? ty_strings_Builder = some ((P.info? ty_strings_Builder).getD default) := by kernel_rfl
  have hs : ((P.info? ty_strings_Builder).getD default).size = 2 := by kernel_rfl
  have hsh := h.shape (.head _)
  refine g_strings_Builder_copyCheck.sound ?_
  refine nilP_some ?_
  refine ⟨_, Sat.ld h (by first | assumption | (repeat (first | exact .head _ | apply List.Mem.tail))) (by exact rfl), ?_⟩
  refine ⟨_, _, ptrNil_eq hu _ w, ?_⟩
  rcases hp with rfl | rfl
  · refine br_true rfl ?_
    refine ⟨_, _, Lib.run_to_unsafe w ⟨b, 0, none⟩ hu hun hi (by rw [hs]; decide) hsh (Nat.zero_lt_succ _), ?_⟩
    refine noEscape_ok ⟨_, rfl, ?_⟩
    refine ⟨_, _, Lib.run_from_unsafe w ⟨b, 0, none⟩ hun hu hi hsh (by kernel_rfl), ?_⟩
    refine nilP_some ?_
    refine Sat.st h (k := 0) rfl (Nat.le_of_ble_eq_true rfl) trivial (by first | (dsimp only [List.set]; exact rfl) | exact rfl) fun w h => ?_
    exact hR _ h
  · refine br_false rfl ?_
    refine nilP_some ?_
    refine ⟨_, Sat.ld h (by first | assumption | (repeat (first | exact .head _ | apply List.Mem.tail))) (by exact rfl), ?_⟩
    refine ⟨_, _, neq_ptr_same hu hi (by rw [hs]; decide) b w, br_false rfl ?_⟩
    exact hR _ h
theorem bldS_ok {b : Nat} {g : Bool} {l s : List UInt8} {M : List Chunk} (hB : Bld b g l M) (h : Sat σ w (M ++ L)) (h0 : s ≠ [] ∨ g = true) (hb : l.length + s.length ≤ 1099511627776)
    (hR : ∀ w M', Bld b true (l ++ s) M' → Sat σ w (M' ++ L) → R (.returned (.tuple #[.int .i64 s.length, .nilIface])) w) : callE P i_strings_Builder_WriteString #[.pointer (some ⟨b, 0, none⟩), .string (bs s)] R w := by
  obtain ⟨p, q, c, M0, rfl, hS, hp, hg, hc⟩ := hB
  refine g_strings_Builder_WriteString.sound ?_
  refine copyCheck_ok h hp fun w h => ⟨rfl, ?_⟩
  refine nilP_some ?_
  refine ⟨_, _, _, Sat.ld h (by first | assumption | (repeat (first | exact .head _ | apply List.Mem.tail))) (by exact rfl), ?_⟩
  have h : Sat σ w (M0 ++ (bldC b (some ⟨b, 0, none⟩) q l.length c :: L)) := h.re (by intro _; simp only [List.append_eq, cnt_append, cnt_cons, cnt_nil] <;> omega)
  have h0' : s ≠ [] ∨ q ≠ none := h0.imp id (fun hg1 => by rw [← hg] at hg1; intro h; rw [h] at hg1; cases hg1)
  refine hS.appS h s h0' hb fun q' c' w M' hS' h hq' hcc => ?_
  have h : Sat σ w (bldC b (some ⟨b, 0, none⟩) q l.length c :: (M' ++ L)) := h.re (by intro _; simp only [List.append_eq, cnt_append, cnt_cons, cnt_nil] <;> omega)
  refine nilP_some ?_
  refine Sat.st h (k := 0) rfl (Nat.le_of_ble_eq_true rfl) trivial (by first | (dsimp only [List.set]; exact rfl) | exact rfl) fun w h => ?_
  rw [bs_size]
  have hc' : 0 < c' := by
    rcases h0 with h0 | h0
    · have := hS'.2.1
      have := List.length_pos_iff.2 h0
      omega
    · have := hc h0; omega
  rw [← List.length_append] at hS'
  refine hR w (bldC b (some ⟨b, 0, none⟩) q' (l ++ s).length c' :: M') ⟨_, _, _, _, rfl, hS', .inr rfl, Option.isSome_iff_ne_none.2 hq', fun _ => hc'⟩ ?_
  rw [List.length_append]
  exact h
theorem bldB_ok {b : Nat} {g : Bool} {l : List UInt8} {k : UInt8} {M : List Chunk} (hB : Bld b g l M) (h : Sat σ w (M ++ L)) (hb : l.length + 1 ≤ 1099511627776)
    (hR : ∀ w M', Bld b true (l ++ [k]) M' → Sat σ w (M' ++ L) → R (.returned .nilIface) w) : callE P i_strings_Builder_WriteByte #[.pointer (some ⟨b, 0, none⟩), .int .u8 (k.toNat : Int)] R w := by
  obtain ⟨p, q, c, M0, rfl, hS, hp, hg, hc⟩ := hB
  refine g_strings_Builder_WriteByte.sound ?_
  refine copyCheck_ok h hp fun w h => ⟨rfl, ?_⟩
  refine nilP_some ?_
  refine ⟨_, _, _, Sat.ld h (by first | assumption | (repeat (first | exact .head _ | apply List.Mem.tail))) (by exact rfl), ?_⟩
  have h : Sat σ w (M0 ++ (bldC b (some ⟨b, 0, none⟩) q l.length c :: L)) := h.re (by intro _; simp only [List.append_eq, cnt_append, cnt_cons, cnt_nil] <;> omega)
  refine hS.app1 h k hb fun q' c' w M' hS' h => ?_
  have h : Sat σ w (bldC b (some ⟨b, 0, none⟩) q l.length c :: (M' ++ L)) := h.re (by intro _; simp only [List.append_eq, cnt_append, cnt_cons, cnt_nil] <;> omega)
  refine nilP_some ?_
  refine Sat.st h (k := 0) rfl (Nat.le_of_ble_eq_true rfl) trivial (by first | (dsimp only [List.set]; exact rfl) | exact rfl) fun w h => ?_
  have hq' : q'.isSome = true := by
    rcases hS'.raw with ⟨_, h2, _, _⟩ | ⟨b', sp, rfl, _, _⟩
    · omega
    · rfl
  refine hR w (bldC b (some ⟨b, 0, none⟩) q' (l ++ [k]).length c' :: M') ⟨_, _, _, _, rfl, by rw [List.length_append]; exact hS', .inr rfl, hq', fun _ => by have := hS'.2.1; omega⟩ ?_
  rw [List.length_append]
  exact h
theorem Sat.freeze {b : Nat} {cs : List Value} {e : TypeId} (h : Sat σ w ((b, cel cs e) :: L)) (n : Nat) : Sat σ (w.freeze ⟨b, 0, none⟩ n) L := by
  unfold World.freeze
  split
  · exact h.tail
  · refine ⟨h.os, h.out, h.tail.nodup, fun c hc => ?_⟩
    have hne : b ≠ c.1 := by
      intro h1
      have := h.nodup
      simp only [List.map_cons, List.nodup_cons] at this
      exact this.1 (by rw [h1]; exact List.mem_map.2 ⟨c, hc, rfl⟩)
    simp only [Array.getElem?_modify, if_neg hne]
    exact h.at_ _ (.tail _ hc)
theorem bldStr_ok {b : Nat} {g : Bool} {l : List UInt8} {M : List Chunk} (hB : Bld b g l M) (h : Sat σ w (M ++ L)) (hl : l.length < 4611686018427387904) (hR : ∀ w, Sat σ w L → R (.returned (.string (bs l))) w) :
    callE P i_strings_Builder_String #[.pointer (some ⟨b, 0, none⟩)] R w := by
  obtain ⟨p, q, c, M0, rfl, hS, hp, hg, hc⟩ := hB
  refine g_strings_Builder_String.sound ?_
  refine Sat.tk h fun w h => ?_
  refine nilP_some (nilP_some ?_)
  refine ⟨_, _, _, Sat.ld h (by first | assumption | (repeat (first | exact .head _ | apply List.Mem.tail))) (by exact rfl), ?_⟩
  refine ⟨_, _, _, Sat.ld h (by first | assumption | (repeat (first | exact .head _ | apply List.Mem.tail))) (by exact rfl), ?_⟩
  rcases hS.raw with ⟨rfl, hl0, rfl, rfl⟩ | ⟨gb, sp, rfl, rfl, h3⟩
  · obtain rfl := List.eq_nil_of_length_eq_zero hl0
    refine ⟨_, _, Lib.run_unsafeSliceData_nil (P := P) (w := w) _ _ _ _, fun _ _ => rfl, ?_⟩
    refine ⟨_, _, Lib.run_unsafeString_none (P := P) (w := w) _ _ _ _, hR _ h.tail⟩
  · refine ⟨_, _, Lib.run_unsafeSliceData_row (P := P) (w := w) _ _ _ _ _ (by have := hc (by rw [← hg]; rfl); omega), fun _ _ => rfl, ?_⟩
    have h' : Sat σ w ((gb, cel (bc l ++ sp) ty_uint8) :: L) := h.tail
    by_cases hl0 : l = []
    · subst hl0
      refine ⟨_, _, Lib.run_unsafeString_none (P := P) (w := w) _ _ _ _, hR _ h'.tail⟩
    · refine ⟨_, _, Lib.run_unsafeString_row (w := w) ty_P_uint8 ty_int ty_string ty_uint8 (by kernel_rfl) (by kernel_rfl) gb _ (h'.shape (.head _)) l hl0 (by simp) (by omega) (fun j x hj => ?_), hR _ (h'.freeze _)⟩
      rw [Addr.add_zero_lit]
      have hj' := (List.getElem?_eq_some_iff.1 hj).1
      refine h'.ld (.head _) ?_
      rw [List.getElem?_append_left (by rw [bc_length]; exact hj'), bc_get hj']
      rw [(List.getElem?_eq_some_iff.1 hj).2]
end Go.Proofs.YtejiaegiijokcaaGreatDoor


set_option linter.unusedVariables false
namespace Go.Proofs.YtejiaegiijokcaaGreatDoor
open Go.Proofs Go.IntWalk Go.RowKit
variable {σ : Out} {w : World} {L L' : List Chunk} {R : Ending → World → Prop}
abbrev Prs := List (UInt8 × List UInt8)
def escB (ps : Prs) (c : UInt8) : List UInt8 := match ps.find? (fun p => p.1 == c) with | some p => p.2 | none => [c]
def escS (ps : Prs) (s : List UInt8) : List UInt8 := s.flatMap (escB ps)
def pairC : Prs → List Value
  | [] => []
  | p :: ps => .string (bs [p.1]) :: .string (bs p.2) :: pairC ps
theorem pairC_key : ∀ {ps : Prs} {j : Nat} (h : j < ps.length), (pairC ps)[2 * j]? = some (.string (bs [ps[j].1]))
  | p :: ps, 0, h => rfl
  | p :: ps, j + 1, h => by
    rw [show 2 * (j + 1) = 2 * j + 1 + 1 by omega]
    simp only [pairC, List.getElem?_cons_succ, List.getElem_cons_succ]
    exact pairC_key (by simpa using h)
theorem pairC_val : ∀ {ps : Prs} {j : Nat} (h : j < ps.length), (pairC ps)[2 * j + 1]? = some (.string (bs ps[j].2))
  | p :: ps, 0, h => rfl
  | p :: ps, j + 1, h => by
    rw [show 2 * (j + 1) + 1 = 2 * j + 1 + 1 + 1 by omega]
    simp only [pairC, List.getElem?_cons_succ, List.getElem_cons_succ]
    exact pairC_val (by simpa using h)
def small8 (ps : Prs) : Bool := ps.all fun p => p.2.length ≤ 8
theorem escB_length {ps : Prs} (h : small8 ps = true) (c : UInt8) : (escB ps c).length ≤ 8 := by
  unfold escB
  split
  · rename_i p hp
    have := List.mem_of_find?_eq_some hp
    simpa using (List.all_eq_true.1 h) p this
  · simp
theorem escS_length {ps : Prs} (h : small8 ps = true) : ∀ s : List UInt8, (escS ps s).length ≤ 8 * s.length
  | [] => by simp [escS]
  | c :: s => by
    have := escS_length h s
    have := escB_length h c
    simp only [escS, List.flatMap_cons, List.length_append, List.length_cons] at *
    omega
theorem escS_cons (ps : Prs) (c : UInt8) (s : List UInt8) : escS ps (c :: s) = escB ps c ++ escS ps s := by simp [escS]
theorem writePairs_ok {b pb c : Nat} {e : TypeId} {l s : List UInt8} {ps : Prs} {M : List Chunk} (hB : Buf b l M) (h : Sat σ w (M ++ L)) (hp : (pb, cel (pairC ps) e) ∈ L) (h8 : small8 ps = true) (hpl : ps.length < 100000)
    (hs : s.length < 4611686018427387904) (hb : l.length + 8 * s.length ≤ 1099511627776)
    (hR : ∀ w M', Buf b (l ++ escS ps s) M' → Sat σ w (M' ++ L) → R (.returned (.tuple #[])) w) :
    callE P i_zzPairs_WriteString #[.slice (some ⟨pb, 0, none⟩) (2 * ps.length) c, .pointer (some ⟨b, 0, none⟩), .string (bs s)] R w := by
  refine g_zzPairs_WriteString.sound ?_
  intro X hX
  have key : ∀ k i l w M, i + k = s.length → Buf b l M → Sat σ w (M ++ L) → l.length + 8 * k ≤ 1099511627776 → (∀ w M', Buf b (l ++ escS ps (s.drop i)) M' → Sat σ w (M' ++ L) → R (.returned (.tuple #[])) w) →
      X (some ⟨pb, 0, none⟩) (2 * ps.length) c (some ⟨b, 0, none⟩) (bs s) i w := by
    intro k
    induction k with
    | zero =>
      intro i l w M hi hB h hb hR
      refine hX _ _ _ _ _ _ _ (br_false (by simp; omega) ?_)
      refine hR w M ?_ h
      rw [List.drop_eq_nil_of_le (by omega)]
      simpa [escS] using hB
    | succ k ih =>
      intro i l w M hi hB h hb hR
      have hil : i < s.length := by omega
      rw [List.drop_eq_getElem_cons hil, escS_cons, ← List.append_assoc] at hR
      have hlen8 := escB_length h8 s[i]
      refine hX _ _ _ _ _ _ _ (br_true (by simp; omega) ?_)
      intro Y hY
      have key2 : ∀ m j w, j + m = ps.length → ps.find? (fun p => p.1 == s[i]) = (ps.drop j).find? (fun p => p.1 == s[i]) → Sat σ w (M ++ L) → Y (some ⟨pb, 0, none⟩) (2 * ps.length) c (some ⟨b, 0, none⟩) (bs s) i ((2 * j : Nat) : Int) w := by
        intro m
        induction m with
        | zero =>
          intro j w hj hf h
          refine hY _ _ _ _ _ _ _ _ (br_false (by simp; omega) ?_)
          refine ⟨by omega, by simp; omega, ?_⟩
          rw [bt_at hil]
          have he : escB ps s[i] = [s[i]] := by
            unfold escB
            rw [hf, List.drop_eq_nil_of_le (by omega)]
            rfl
          rw [he] at hR hlen8
          refine writeB_ok hB h (by omega) fun w M' hB h => ⟨_, rfl, ?_⟩
          rw [i64_inc (by omega)]
          exact ih (i + 1) _ w M' (by omega) hB h (by simp; omega) hR
        | succ m ihm =>
          intro j w hj hf h
          have hjl : j < ps.length := by omega
          refine hY _ _ _ _ _ _ _ _ (br_true (by simp; omega) ?_)
          refine Sat.tk h fun w h => ?_
          refine ⟨by omega, by simp; omega, by omega, by omega, nilP_some ?_⟩
          simp only [Addr.add_lit, Int.toNat_natCast, Nat.mul_one, Nat.zero_add]
          refine ⟨_, Sat.ld h (List.mem_append_right _ hp) (pairC_key hjl), by omega, by simp, ?_⟩
          rw [bt_at hil, show bt (bs [ps[j].1]) 0 = (ps[j].1.toNat : Int) from rfl, u8_beq]
          by_cases hk : s[i] = ps[j].1
          · refine br_true (by simp [hk]) ?_
            have e1 : IntKind.i64.wrap (((2 * j : Nat) : Int) + 1) = ((2 * j + 1 : Nat) : Int) := i64_inc (by omega)
            rw [e1]
            refine ⟨by omega, by omega, nilP_some ?_⟩
            simp only [Addr.add_lit, Int.toNat_natCast, Nat.mul_one, Nat.zero_add]
            refine ⟨_, Sat.ld h (List.mem_append_right _ hp) (pairC_val hjl), ?_⟩
            have he : escB ps s[i] = ps[j].2 := by
              unfold escB
              rw [hf, List.drop_eq_getElem_cons hjl, List.find?_cons_of_pos (by simp [hk])]
            rw [he] at hR hlen8
            refine writeS_ok hB h (by omega) fun w M' hB h => ⟨_, _, rfl, ?_⟩
            rw [i64_inc (by omega)]
            exact ih (i + 1) _ w M' (by omega) hB h (by simp; omega) hR
          · refine br_false (by simpa using hk) ?_
            have e1 : IntKind.i64.wrap (((2 * j : Nat) : Int) + 2) = ((2 * (j + 1) : Nat) : Int) := by simp (disch := omega) only [i64_in]; omega
            rw [e1]
            refine ihm (j + 1) w (by omega) ?_ h
            rw [hf, List.drop_eq_getElem_cons hjl, List.find?_cons_of_neg (by simpa using fun h => hk h.symm)]
      exact key2 ps.length 0 w (by omega) (by rw [List.drop_zero]) h
  exact key s.length 0 l w M (by omega) hB h hb (by rw [List.drop_zero]; exact hR)

theorem pairsReplace_ok {pb c : Nat} {e : TypeId} {s : List UInt8} {ps : Prs} (h : Sat σ w L) (hp : (pb, cel (pairC ps) e) ∈ L) (h8 : small8 ps = true) (hpl : ps.length < 100000) (hs : s.length < 4294967296)
    (hR : ∀ w, Sat σ w L → R (.returned (.string (bs (escS ps s)))) w) :
    callE P i_zzPairs_Replace #[.slice (some ⟨pb, 0, none⟩) (2 * ps.length) c, .string (bs s)] R w := by
  refine g_zzPairs_Replace.sound ?_
  refine Sat.bx h fun b w h => ?_
  refine writePairs_ok (bufNew b) h hp h8 hpl (by omega) (by simp; omega) fun w M hB h => ⟨rfl, ?_⟩
  rw [List.nil_append] at hB
  exact bufStr_ok hB h fun w h => ⟨_, rfl, hR w (h.less M (by intro _; simp only [List.append_eq, cnt_append, cnt_cons, cnt_nil] <;> omega))⟩

theorem buildR {t e : TypeId} {n : Nat} {ps : Array (Nat × Value)} {cs : List Value} (h : Sat σ w L) (ht : P.underlying t = some (.slice e)) (hi : P.info? e = some ((P.info? e).getD default))
    (hz : ((P.info? e).getD default).zero = some (((P.info? e).bind (·.zero)).getD default)) (hs : ((P.info? e).getD default).size = 1) (hn : n ≤ 1000) (hn0 : n ≠ 0)
    (hfill : Instr.fill (fun i => some (i * 1, 1)) ((Array.range (n * 1)).map ((((P.info? e).bind (·.zero)).getD default).cells[· % (((P.info? e).bind (·.zero)).getD default).cells.size]!)) ps.toList = some cs.toArray) {K : Option Addr → Nat → Nat → World → Prop}
    (hK : ∀ b w, Sat σ w ((b, cel cs e) :: L) → K (some ⟨b, 0, none⟩) n n w) : ∃ rq rn rc w1, (Instr.buildSlice t n ps).run P w = .ok (.slice rq rn rc) w1 ∧ K rq rn rc w1 := by
  have hrun := run_buildSlice (P := P) w t e n ps cs.toArray _ _ ht hi hz (by rw [hs]; omega) (by rw [hs]; omega) (by rw [hs]; exact hfill)
  exact ⟨_, _, _, _, hrun, hK _ _ (h.alc cs e)⟩
def htmlPs : Prs := [(34, [38, 113, 117, 111, 116, 59]), (38, [38, 97, 109, 112, 59]), (60, [38, 108, 116, 59]), (62, [38, 103, 116, 59])]
def linkPs : Prs := [(34, [37, 50, 50]), (38, [38, 97, 109, 112, 59]), (60, [37, 51, 67]), (62, [37, 51, 69]), (92, [37, 53, 67]), (32, [37, 50, 48]), (96, [37, 54, 48]), (91, [37, 53, 66]), (93, [37, 53, 68]), (94, [37, 53, 69]), (123, [37, 55, 66]), (125, [37, 55, 68]), (0, [37, 48, 48]), (1, [37, 48, 49]), (2, [37, 48, 50]), (3, [37, 48, 51]), (4, [37, 48, 52]), (5, [37, 48, 53]), (6, [37, 48, 54]), (7, [37, 48, 55]), (8, [37, 48, 56]), (11, [37, 48, 66]), (12, [37, 48, 67]), (14, [37, 48, 69]), (15, [37, 48, 70]), (16, [37, 49, 48]), (17, [37, 49, 49]), (18, [37, 49, 50]), (19, [37, 49, 51]), (20, [37, 49, 52]), (21, [37, 49, 53]), (22, [37, 49, 54]), (23, [37, 49, 55]), (24, [37, 49, 56]), (25, [37, 49, 57]), (26, [37, 49, 65]), (27, [37, 49, 66]), (28, [37, 49, 67]), (29, [37, 49, 68]), (30, [37, 49, 69]), (31, [37, 49, 70]), (127, [37, 55, 70]), (128, [37, 56, 48]), (129, [37, 56, 49]), (130, [37, 56, 50]), (131, [37, 56, 51]), (132, [37, 56, 52]), (133, [37, 56, 53]), (134, [37, 56, 54]), (135, [37, 56, 55]), (136, [37, 56, 56]), (137, [37, 56, 57]), (138, [37, 56, 65]), (139, [37, 56, 66]), (140, [37, 56, 67]), (141, [37, 56, 68]), (142, [37, 56, 69]), (143, [37, 56, 70]), (144, [37, 57, 48]), (145, [37, 57, 49]), (146, [37, 57, 50]), (147, [37, 57, 51]), (148, [37, 57, 52]), (149, [37, 57, 53]), (150, [37, 57, 54]), (151, [37, 57, 55]), (152, [37, 57, 56]), (153, [37, 57, 57]), (154, [37, 57, 65]), (155, [37, 57, 66]), (156, [37, 57, 67]), (157, [37, 57, 68]), (158, [37, 57, 69]), (159, [37, 57, 70]), (160, [37, 65, 48]), (161, [37, 65, 49]), (162, [37, 65, 50]), (163, [37, 65, 51]), (164, [37, 65, 52]), (165, [37, 65, 53]), (166, [37, 65, 54]), (167, [37, 65, 55]), (168, [37, 65, 56]), (169, [37, 65, 57]), (170, [37, 65, 65]), (171, [37, 65, 66]), (172, [37, 65, 67]), (173, [37, 65, 68]), (174, [37, 65, 69]), (175, [37, 65, 70]), (176, [37, 66, 48]), (177, [37, 66, 49]), (178, [37, 66, 50]), (179, [37, 66, 51]), (180, [37, 66, 52]), (181, [37, 66, 53]), (182, [37, 66, 54]), (183, [37, 66, 55]), (184, [37, 66, 56]), (185, [37, 66, 57]), (186, [37, 66, 65]), (187, [37, 66, 66]), (188, [37, 66, 67]), (189, [37, 66, 68]), (190, [37, 66, 69]), (191, [37, 66, 70]), (192, [37, 67, 48]), (193, [37, 67, 49]), (194, [37, 67, 50]), (195, [37, 67, 51]), (196, [37, 67, 52]), (197, [37, 67, 53]), (198, [37, 67, 54]), (199, [37, 67, 55]), (200, [37, 67, 56]), (201, [37, 67, 57]), (202, [37, 67, 65]), (203, [37, 67, 66]), (204, [37, 67, 67]), (205, [37, 67, 68]), (206, [37, 67, 69]), (207, [37, 67, 70]), (208, [37, 68, 48]), (209, [37, 68, 49]), (210, [37, 68, 50]), (211, [37, 68, 51]), (212, [37, 68, 52]), (213, [37, 68, 53]), (214, [37, 68, 54]), (215, [37, 68, 55]), (216, [37, 68, 56]), (217, [37, 68, 57]), (218, [37, 68, 65]), (219, [37, 68, 66]), (220, [37, 68, 67]), (221, [37, 68, 68]), (222, [37, 68, 69]), (223, [37, 68, 70]), (224, [37, 69, 48]), (225, [37, 69, 49]), (226, [37, 69, 50]), (227, [37, 69, 51]), (228, [37, 69, 52]), (229, [37, 69, 53]), (230, [37, 69, 54]), (231, [37, 69, 55]), (232, [37, 69, 56]), (233, [37, 69, 57]), (234, [37, 69, 65]), (235, [37, 69, 66]), (236, [37, 69, 67]), (237, [37, 69, 68]), (238, [37, 69, 69]), (239, [37, 69, 70]), (240, [37, 70, 48]), (241, [37, 70, 49]), (242, [37, 70, 50]), (243, [37, 70, 51]), (244, [37, 70, 52]), (245, [37, 70, 53]), (246, [37, 70, 54]), (247, [37, 70, 55]), (248, [37, 70, 56]), (249, [37, 70, 57]), (250, [37, 70, 65]), (251, [37, 70, 66]), (252, [37, 70, 67]), (253, [37, 70, 68]), (254, [37, 70, 69]), (255, [37, 70, 70])]
theorem buildPairs {n : Nat} {ps : Array (Nat × Value)} (pr : Prs) (h : Sat σ w L) (hn : n ≤ 1000) (hn0 : n ≠ 0)
    (hfill : Instr.fill (fun i => some (i * 1, 1)) ((Array.range (n * 1)).map ((((P.info? ty_string).bind (·.zero)).getD default).cells[· % (((P.info? ty_string).bind (·.zero)).getD default).cells.size]!)) ps.toList = some (pairC pr).toArray) {K : Option Addr → Nat → Nat → World → Prop}
    (hK : ∀ b w, Sat σ w ((b, cel (pairC pr) ty_string) :: L) → K (some ⟨b, 0, none⟩) n n w) : ∃ rq rn rc w1, (Instr.buildSlice ty_zzPairs n ps).run P w = .ok (.slice rq rn rc) w1 ∧ K rq rn rc w1 :=
  buildR h (by kernel_rfl) (by kernel_rfl) (by kernel_rfl) (by kernel_rfl) hn hn0 hfill hK
theorem htmlEscaper_ok (h : Sat σ w L) (hR : ∀ w b, Sat σ w ((b, cel (pairC htmlPs) ty_string) :: L) → R (.returned (.slice (some ⟨b, 0, none⟩) 8 8)) w) : callE P i_htmlEscaper #[] R w := by
  refine g_htmlEscaper.sound ?_
  exact buildPairs htmlPs h (by decide) (by decide) (by kernel_rfl) fun b w h => hR w b h
theorem htmlQuoteEscaper_ok (h : Sat σ w L) (hR : ∀ w b, Sat σ w ((b, cel (pairC htmlPs) ty_string) :: L) → R (.returned (.slice (some ⟨b, 0, none⟩) 8 8)) w) : callE P i_htmlQuoteEscaper #[] R w := by
  refine g_htmlQuoteEscaper.sound ?_
  exact buildPairs htmlPs h (by decide) (by decide) (by kernel_rfl) fun b w h => hR w b h
theorem htmlLinkEscaper_ok (h : Sat σ w L) (hR : ∀ w b, Sat σ w ((b, cel (pairC linkPs) ty_string) :: L) → R (.returned (.slice (some ⟨b, 0, none⟩) 340 340)) w) : callE P i_htmlLinkEscaper #[] R w := by
  refine g_htmlLinkEscaper.sound ?_
  exact buildPairs linkPs h (by decide) (by decide) (by kernel_rfl) fun b w h => hR w b h
end Go.Proofs.YtejiaegiijokcaaGreatDoor


set_option linter.unusedVariables false
namespace Go.Proofs.YtejiaegiijokcaaGreatDoor
open Go.Proofs Go.IntWalk Go.RowKit
variable {σ : Out} {w : World} {L L' : List Chunk} {R : Ending → World → Prop}
def Prints (m : String) (v : Value) (T T' : List Chunk) (f : List UInt8 → List UInt8) : Prop :=
  (∀ l, l.length ≤ (f l).length) ∧
  ∀ (σ : Out) (R : Ending → World → Prop) b l M L w, Buf b l M → Sat σ w (M ++ (T ++ L)) → (f l).length ≤ 549755813888 →
    (∀ w M', Buf b (f l) M' → Sat σ w (M' ++ (T' ++ L)) → R (.returned (.tuple #[])) w) → enterE P (callMethod v m #[.pointer (some ⟨b, 0, none⟩)]) R w
inductive PrintsL (m : String) : List Value → List Chunk → List Chunk → (List UInt8 → List UInt8) → Prop where
  | nil : PrintsL m [] [] [] id
  | cons {v : Value} {vs : List Value} {T T' K K' : List Chunk} {f g : List UInt8 → List UInt8} : Prints m v T T' f → PrintsL m vs K K' g → PrintsL m (v :: vs) (T ++ K) (T' ++ K') (g ∘ f)
theorem PrintsL.mono {m : String} {vs : List Value} {K K' : List Chunk} {f : List UInt8 → List UInt8} (h : PrintsL m vs K K' f) : ∀ l, l.length ≤ (f l).length := by
  induction h with
  | nil => exact fun l => Nat.le_refl _
  | cons h1 _ ih => exact fun l => Nat.le_trans (h1.1 l) (ih _)
theorem printLoop {m : String} {b : Nat} {X : Int → World → Prop} {q : Option Addr} {n c : Nat} {e : TypeId} {vs : List Value} {RM KM KM' M : List Chunk} {l : List UInt8} {f : List UInt8 → List UInt8} {END : World → Prop} (hS : Sl 1 e q n c vs RM)
    (hX : ∀ (j : Int) w, br (decide (j < (n : Int))) (0 ≤ j ∧ j < (n : Int) ∧ nilP q fun a => ∃ (v : Value), w.cell? (a.add (Int.toNat j * 1)) = some v ∧
      enterE P (callMethod v m #[.pointer (some ⟨b, 0, none⟩)]) (fun e w' => e = .returned (.tuple #[]) ∧ X (IntKind.i64.wrap (j + 1)) w') w) (END w) → X j w)
    (hP : PrintsL m vs KM KM' f) (hB : Buf b l M) (h : Sat σ w (M ++ (RM ++ (KM ++ L)))) (hn : n < 4611686018427387904) (hb : (f l).length ≤ 549755813888)
    (hE : ∀ w M', Buf b (f l) M' → Sat σ w (M' ++ (RM ++ (KM' ++ L))) → END w) : X 0 w := by
  have hl := hS.1
  have key : ∀ (vs2 : List Value) (KM KM' : List Chunk) (f : List UInt8 → List UInt8), PrintsL m vs2 KM KM' f → ∀ (vs1 : List Value) (D : List Chunk) l M w, vs1 ++ vs2 = vs → Buf b l M → Sat σ w (M ++ (RM ++ (D ++ (KM ++ L)))) → (f l).length ≤ 549755813888 →
      (∀ w M', Buf b (f l) M' → Sat σ w (M' ++ (RM ++ (D ++ (KM' ++ L)))) → END w) → X (vs1.length : Nat) w := by
    intro vs2 KM KM' f hP
    induction hP with
    | nil =>
      intro vs1 D l M w hv hB h hb hE
      refine hX _ _ (br_false ?_ (hE w M hB h))
      rw [← hv] at hl
      simp at hl
      simp; omega
    | @cons v vs2 T T' K K' f g h1 h2 ih =>
      intro vs1 D l M w hv hB h hb hE
      have hlen : vs1.length < n := by rw [← hv] at hl; simp at hl; omega
      refine hX _ _ (br_true (by simp; omega) ⟨by omega, by omega, ?_⟩)
      have hv1 : vs[vs1.length]? = some v := by rw [← hv]; simp
      obtain ⟨_, _, ⟨rfl, h0, _, _⟩ | ⟨rb, sp, rfl, rfl, _⟩⟩ := hS
      · omega
      · refine nilP_some ?_
        simp only [Addr.add_lit, Int.toNat_natCast, Nat.mul_one, Nat.zero_add]
        refine ⟨v, Sat.ld h (List.mem_append_right _ (.head _)) ?_, ?_⟩
        · rw [List.getElem?_append_left (List.getElem?_eq_some_iff.1 hv1).1]; exact hv1
        · have hmono := h2.mono (f l)
          have h : Sat σ w (M ++ (T ++ ((rb, cel (vs ++ sp) e) :: (D ++ (K ++ L))))) := h.re (by intro _; simp only [List.append_eq, cnt_append, cnt_cons, cnt_nil] <;> omega)
          refine h1.2 σ _ b l M _ w hB h (Nat.le_trans hmono hb) fun w M' hB h => ⟨rfl, ?_⟩
          have h : Sat σ w (M' ++ ([(rb, cel (vs ++ sp) e)] ++ ((D ++ T') ++ (K ++ L)))) := h.re (by intro _; simp only [List.append_eq, cnt_append, cnt_cons, cnt_nil] <;> omega)
          rw [i64_inc (by omega)]
          have := ih (vs1 ++ [v]) (D ++ T') (f l) M' w (by simpa using hv) hB h hb (fun w M' hB h => hE w M' hB (h.re (by intro _; simp only [List.append_eq, cnt_append, cnt_cons, cnt_nil] <;> omega)))
          simpa using this
  exact key vs KM KM' f hP [] [] l M w rfl hB h hb hE

def ab (s : List UInt8) : List UInt8 → List UInt8 := fun l => l ++ s
theorem ab_le (s l : List UInt8) : l.length ≤ (ab s l).length := by simp [ab]
theorem meth_Plain : methB P ty_P_Plain "PrintHTML" i_Plain_PrintHTML = true := by kernel_rfl
theorem plainPrint_ok {b pb : Nat} {l s : List UInt8} {cs : List Value} {e : TypeId} {M : List Chunk} (hB : Buf b l M) (h : Sat σ w (M ++ ((pb, cel (.string (bs s) :: cs) e) :: L))) (hs : s.length < 4294967296) (hb : l.length ≤ 549755813888)
    (hR : ∀ w M', Buf b (l ++ escS htmlPs s) M' → Sat σ w (M' ++ ((pb, cel (.string (bs s) :: cs) e) :: L)) → R (.returned (.tuple #[])) w) :
    callE P i_Plain_PrintHTML #[.pointer (some ⟨pb, 0, none⟩), .pointer (some ⟨b, 0, none⟩)] R w := by
  refine g_Plain_PrintHTML.sound ?_
  refine Sat.tk h fun w h => ?_
  refine nilP_some ?_
  refine ⟨_, Sat.ld h (List.mem_append_right _ (.head _)) rfl, ?_⟩
  refine htmlEscaper_ok h fun w1 eb h1 => ⟨_, _, _, rfl, h.same h1 (List.mem_append_right _ (.head _)) (.tail _ (List.mem_append_right _ (.head _))) 1, ?_⟩
  have h1 : Sat σ w1 (M ++ ((eb, cel (pairC htmlPs) ty_string) :: (pb, cel (.string (bs s) :: cs) e) :: L)) := h1.re (by intro _; simp only [List.append_eq, cnt_append, cnt_cons, cnt_nil] <;> omega)
  refine writePairs_ok (ps := htmlPs) hB h1 (.head _) (by decide) (by decide) (by omega) (by omega) fun w M' hB h => ⟨rfl, hR w M' hB ?_⟩
  exact h.less [(eb, cel (pairC htmlPs) ty_string)] (by intro _; simp only [List.append_eq, cnt_append, cnt_cons, cnt_nil] <;> omega)
theorem plain_prints {pb : Nat} {s : List UInt8} {cs : List Value} {e : TypeId} (hs : s.length < 4294967296) :
    Prints "PrintHTML" (.iface ty_P_Plain (.pointer (some ⟨pb, 0, none⟩))) [(pb, cel (.string (bs s) :: cs) e)] [(pb, cel (.string (bs s) :: cs) e)] (ab (escS htmlPs s)) := by
  refine ⟨ab_le _, fun σ R b l M L w hB h hb hR => enter_meth meth_Plain ?_⟩
  exact plainPrint_ok hB h hs (Nat.le_trans (ab_le _ l) hb) hR
end Go.Proofs.YtejiaegiijokcaaGreatDoor


set_option linter.unusedVariables false
namespace Go.Proofs.YtejiaegiijokcaaGreatDoor
open Go.Proofs Go.IntWalk Go.RowKit
variable {σ : Out} {w : World} {L L' : List Chunk} {R : Ending → World → Prop}
theorem textPrint_ok {b t s e : Nat} {q : Option Addr} {n c : Nat} {raw : List UInt8} {vs : List Value} {RM KM KM' M : List Chunk} {l : List UInt8} {f : List UInt8 → List UInt8} (hS : Sl 1 ty_Inline q n c vs RM) (hn : n < 4611686018427387904)
    (hP : PrintsL "PrintHTML" vs KM KM' f) (hB : Buf b l M) (h : Sat σ w (M ++ (textC t s e q n c raw :: (RM ++ (KM ++ L))))) (hb : (f l).length ≤ 549755813888)
    (hR : ∀ w M', Buf b (f l) M' → Sat σ w (M' ++ (textC t s e q n c raw :: (RM ++ (KM' ++ L)))) → R (.returned (.tuple #[])) w) :
    callE P i_Text_PrintHTML #[.pointer (some ⟨t, 0, none⟩), .pointer (some ⟨b, 0, none⟩)] R w := by
  refine g_Text_PrintHTML.sound ?_
  refine nilP_some ?_
  refine ⟨_, _, _, Sat.ld h (List.mem_append_right _ (.head _)) rfl, ?_⟩
  intro X hX
  have h : Sat σ w (M ++ (RM ++ (KM ++ (textC t s e q n c raw :: L)))) := h.re (by intro _; simp only [List.append_eq, cnt_append, cnt_cons, cnt_nil] <;> omega)
  refine printLoop (X := fun j w => X (some ⟨b, 0, none⟩) q n c (n : Int) j w) (END := fun w => R (.returned (.tuple #[])) w) hS (fun j w hj => hX _ _ _ _ _ _ _ hj) hP hB h hn hb fun w M' hB h => ?_
  exact hR w M' hB (h.re (by intro _; simp only [List.append_eq, cnt_append, cnt_cons, cnt_nil] <;> omega))
theorem meth_Paragraph : methB P ty_P_Paragraph "PrintHTML" i_Paragraph_PrintHTML = true := by kernel_rfl
theorem meth_Document : methB P ty_P_Document "PrintHTML" i_Document_PrintHTML = true := by kernel_rfl
def pOpen : List UInt8 := [60, 112, 62]
def pClose : List UInt8 := [60, 47, 112, 62, 10]
theorem para_prints {nb t s e : Nat} {s' e' : Nat} {q : Option Addr} {n c : Nat} {raw : List UInt8} {vs : List Value} {RM KM KM' : List Chunk} {f : List UInt8 → List UInt8} (hS : Sl 1 ty_Inline q n c vs RM) (hn : n < 4611686018427387904)
    (hP : PrintsL "PrintHTML" vs KM KM' f) :
    Prints "PrintHTML" (.iface ty_P_Paragraph (.pointer (some ⟨nb, 0, none⟩))) (paraC nb s e t :: textC t s' e' q n c raw :: (RM ++ KM)) (paraC nb s e t :: textC t s' e' q n c raw :: (RM ++ KM')) (fun l => f (l ++ pOpen) ++ pClose) := by
  refine ⟨fun l => ?_, fun σ R b l M L w hB h hb hR => enter_meth meth_Paragraph ?_⟩
  · have := hP.mono (l ++ pOpen)
    simp only [List.length_append] at *; omega
  refine g_Paragraph_PrintHTML.sound ?_
  have hm := hP.mono (l ++ pOpen)
  simp only [List.length_append] at hb hm
  refine writeS_ok (s := pOpen) hB h (by omega) fun w M hB h => ⟨_, _, rfl, ?_⟩
  refine nilP_some ?_
  refine ⟨_, Sat.ld h (List.mem_append_right _ (.head _)) rfl, ?_⟩
  have h : Sat σ w (M ++ (textC t s' e' q n c raw :: (RM ++ (KM ++ (paraC nb s e t :: L))))) := h.re (by intro _; simp only [List.append_eq, cnt_append, cnt_cons, cnt_nil] <;> omega)
  refine textPrint_ok hS hn hP hB h (by omega) fun w M hB h => ⟨rfl, ?_⟩
  refine writeS_ok (s := pClose) hB h (by omega) fun w M hB h => ⟨_, _, rfl, ?_⟩
  exact hR w M hB (h.re (by intro _; simp only [List.append_eq, cnt_append, cnt_cons, cnt_nil] <;> omega))
theorem doc_prints {db s e : Nat} {q : Option Addr} {n c : Nat} {lk : Option Nat} {vs : List Value} {RM KM KM' : List Chunk} {f : List UInt8 → List UInt8} (hS : Sl 1 ty_Block q n c vs RM) (hn : n < 4611686018427387904)
    (hP : PrintsL "PrintHTML" vs KM KM' f) :
    Prints "PrintHTML" (.iface ty_P_Document (.pointer (some ⟨db, 0, none⟩))) (docC db s e q n c lk :: (RM ++ KM)) (docC db s e q n c lk :: (RM ++ KM')) f := by
  refine ⟨hP.mono, fun σ R b l M L w hB h hb hR => enter_meth meth_Document ?_⟩
  refine g_Document_PrintHTML.sound ?_
  refine nilP_some ?_
  refine ⟨_, _, _, Sat.ld h (List.mem_append_right _ (.head _)) rfl, ?_⟩
  intro X hX
  have h : Sat σ w (M ++ (RM ++ (KM ++ (docC db s e q n c lk :: L)))) := h.re (by intro _; simp only [List.append_eq, cnt_append, cnt_cons, cnt_nil] <;> omega)
  refine printLoop (X := fun j w => X (some ⟨b, 0, none⟩) q n c (n : Int) j w) (END := fun w => R (.returned (.tuple #[])) w) hS (fun j w hj => hX _ _ _ _ _ _ _ hj) hP hB h hn hb fun w M' hB h => ?_
  exact hR w M' hB (h.re (by intro _; simp only [List.append_eq, cnt_append, cnt_cons, cnt_nil] <;> omega))
theorem toHTML_ok {v : Value} {T T' : List Chunk} {f : List UInt8 → List UInt8} (hP : Prints "PrintHTML" v T T' f) (h : Sat σ w (T ++ L)) (hb : (f []).length ≤ 549755813888)
    (hR : ∀ w, Sat σ w (T' ++ L) → R (.returned (.string (bs (f [])))) w) : callE P i_ToHTML #[v] R w := by
  refine g_ToHTML.sound ?_
  refine Sat.bx h fun b w h => ?_
  refine hP.2 σ _ b [] _ L w (bufNew b) h hb fun w M hB h => ⟨rfl, ?_⟩
  exact bufStr_ok hB h fun w h => ⟨_, rfl, hR w (h.less M (by intro _; simp only [List.append_eq, cnt_append, cnt_cons, cnt_nil] <;> omega))⟩
end Go.Proofs.YtejiaegiijokcaaGreatDoor

