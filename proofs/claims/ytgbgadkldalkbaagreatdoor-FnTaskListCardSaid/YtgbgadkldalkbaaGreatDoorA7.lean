/- Part 7 of the proof of the law FnTaskList: for every input the law returns true, the inputs read as they did, and memory that was there is as it was; under the conditions of the given row alone. -/
import Derived.SliceStrings
import Derived.WideKeyArgs
import Derived.Below
import Derived.Deep.Slices
import Derived.ChangeArms
import Derived.Test.YtgbgadkldalkbaaGreatDoorA6
set_option linter.all false
set_option linter.unusedVariables false
namespace Go.Proofs.YtgbgadkldalkbaaGreatDoor
open Go.Proofs Go.IntWalk Go.RowKit
variable {σ : Out} {w : World} {L L' : List Chunk} {R : Ending → World → Prop}
def optTask : Opt := ⟨false, false, true, false, false, false, false, false, false, false⟩
def digU (n : Nat) : UInt8 := UInt8.ofNat (48 + n)
def decB (n : Nat) : List UInt8 := if n < 10 then [digU n] else [digU (n / 10), digU (n % 10)]
def hexA : List UInt8 := [48, 49, 50, 51, 52, 53, 54, 55, 56, 57, 97, 98, 99, 100, 101, 102]
theorem hex_at {n : Nat} (hn : n < 10) : (bs hexA).extract n (n + 1) = bs [digU n] := by
 rw [bs_extract]
 have : n = 0 ∨ n = 1 ∨ n = 2 ∨ n = 3 ∨ n = 4 ∨ n = 5 ∨ n = 6 ∨ n = 7 ∨ n = 8 ∨ n = 9 := by omega
 rcases this with rfl | rfl | rfl | rfl | rfl | rfl | rfl | rfl | rfl | rfl <;> rfl
theorem digits1_ok {n : Nat} (hn : n < 10) (h : Sat σ w L) (hR : ∀ w, Sat σ w L → R (.returned (.string (bs [digU n]))) w) : callE P i_laws_digits #[.int .i64 (n : Nat), .int .i64 10] R w := by
 refine g_laws_digits.sound ?_
 refine br_true (by simp; omega) ?_
 rw [i64_inc (by omega), show ByteArray.mk #[48, 49, 50, 51, 52, 53, 54, 55, 56, 57, 97, 98, 99, 100, 101, 102] = bs hexA from rfl, Int.toNat_natCast, Int.toNat_natCast, hex_at hn]
 exact ⟨by omega, by omega, by rw [bs_size]; show _ ≤ ((16 : Nat) : Int); omega, hR w h⟩
theorem digits_ok {n : Nat} (hn : n < 100) (h : Sat σ w L) (hR : ∀ w, Sat σ w L → R (.returned (.string (bs (decB n)))) w) : callE P i_laws_digits #[.int .i64 (n : Nat), .int .i64 10] R w := by
 by_cases h10 : n < 10
 ·refine digits1_ok h10 h fun w h => ?_
  have := hR w h
  rwa [show decB n = [digU n] by unfold decB; rw [if_pos h10]] at this
 ·have hmax : IntKind.i64.max = 9223372036854775807 := rfl
  refine g_laws_digits.sound ?_
  refine br_false (by simp; omega) ?_
  refine Sat.tk h fun w h => ⟨by decide, by decide, by decide, ?_⟩
  rw [show Int.tmod ((n : Nat) : Int) 10 = ((n % 10 : Nat) : Int) from rfl, show Int.tdiv ((n : Nat) : Int) 10 = ((n / 10 : Nat) : Int) from rfl]
  rw [i64_inc (n := n % 10) (by omega), i64_in _ (by omega), show ByteArray.mk #[48, 49, 50, 51, 52, 53, 54, 55, 56, 57, 97, 98, 99, 100, 101, 102] = bs hexA from rfl, Int.toNat_natCast, Int.toNat_natCast, hex_at (by omega)]
  refine ⟨by omega, by omega, by rw [bs_size]; show _ ≤ ((16 : Nat) : Int); omega, ?_⟩
  refine digits1_ok (by omega) h fun w h => ⟨_, rfl, by rw [hmax, bs_size, bs_size]; simp, ?_⟩
  have := hR w h
  rw [show decB n = [digU (n / 10)] ++ [digU (n % 10)] by unfold decB; rw [if_neg h10]; rfl] at this
  rw [bs_append]; exact this
theorem digU_fact {n : Nat} (hn : n < 10) : digB (digU n) = true := by
 have : n = 0 ∨ n = 1 ∨ n = 2 ∨ n = 3 ∨ n = 4 ∨ n = 5 ∨ n = 6 ∨ n = 7 ∨ n = 8 ∨ n = 9 := by omega
 rcases this with rfl | rfl | rfl | rfl | rfl | rfl | rfl | rfl | rfl | rfl <;> rfl
theorem decB_cons {n : Nat} (hn : n < 100) : ∃ x ds, decB n = x :: ds ∧ ds.length ≤ 1 ∧ ∀ c ∈ x :: ds, digB c = true := by
 by_cases h10 : n < 10
 ·refine ⟨digU n, [], by unfold decB; rw [if_pos h10], by decide, ?_⟩
  simp [digU_fact h10]
 ·refine ⟨digU (n / 10), [digU (n % 10)], by unfold decB; rw [if_neg h10], by simp, ?_⟩
  intro c hc
  simp only [List.mem_cons, List.not_mem_nil, or_false] at hc
  rcases hc with rfl | rfl <;> exact digU_fact (by omega)
def boxR (k : Nat) : List UInt8 := if k = 1 then [91, 32, 93, 32] else if k = 2 then [91, 120, 93, 32] else []
def rawK (k : Nat) (c : UInt8) : List UInt8 := boxR k ++ [c]
def markB (nb : Bool) (i : Nat) : List UInt8 := if nb then decB (i + 1) ++ [46, 32] else [45, 32]
def numF (nb : Bool) (i : Nat) : Nat := if nb then numV (decB (i + 1)) else 0
def markC (nb : Bool) : UInt8 := if nb then 46 else 45
theorem rawK_cases {k : Nat} (hk : k < 3) (c : UInt8) : (k = 0 ∧ rawK k c = [c]) ∨ (k = 1 ∧ rawK k c = [91, 32, 93, 32, c]) ∨ (k = 2 ∧ rawK k c = [91, 120, 93, 32, c]) := by
 have h3 : k = 0 ∨ k = 1 ∨ k = 2 := by omega
 rcases h3 with rfl | rfl | rfl
 ·exact .inl ⟨rfl, rfl⟩
 ·exact .inr (.inl ⟨rfl, rfl⟩)
 ·exact .inr (.inr ⟨rfl, rfl⟩)
theorem rawK_raw {o : Opt} (hoff : o.auto = false) {k : Nat} (hk : k < 3) {c : UInt8} (hc : smlB c = true) : TkRaw o (rawK k c) := by
 have f := sml_facts hc
 have j1 : ∀ s : List UInt8, joinL [10] [s] = s := fun s => by simp [joinL]
 rcases rawK_cases hk c with ⟨rfl, e⟩ | ⟨rfl, e⟩ | ⟨rfl, e⟩ <;> rw [e]
 ·refine ⟨.word c, inl_word1 hoff hc, ?_, ?_, ?_⟩ <;> rw [j1]
  ·show 1 < _; decide
  ·simp
  ·refine noRef_of (by show 1 < _; decide) ?_
   rw [List.dropWhile_cons_of_neg (by simp [f.2.1])]
   simpa using f.2.2.2.1
 ·refine ⟨.op c, inl_box hoff (.inl rfl) hc, ?_, ?_, ?_⟩ <;> rw [j1]
  ·show 5 < _; decide
  ·simp
  ·exact noRef_box (.inl rfl)
 ·refine ⟨.done c, inl_box hoff (.inr rfl) hc, ?_, ?_, ?_⟩ <;> rw [j1]
  ·show 5 < _; decide
  ·simp
  ·exact noRef_box (.inr rfl)
theorem rawK_first {k : Nat} (hk : k < 3) {c : UInt8} (hc : smlB c = true) : ∃ d r, rawK k c = d :: r ∧ isST d = false ∧ plainStart d = true ∧ (d ≠ 45 ∧ d ≠ 95 ∧ d ≠ 42) ∧ r.length ≤ 4 ∧ ∀ x ∈ d :: r, x ≠ 10 ∧ x ≠ 13 ∧ x ≠ 0 := by
 have f := sml_facts hc
 have hall : (List.range 256).all (fun n => !(smlB (UInt8.ofNat n)) || (plainStart (UInt8.ofNat n) && UInt8.ofNat n != 45 && UInt8.ofNat n != 95 && UInt8.ofNat n != 42)) = true := by kernel_rfl
 have hp := u8_all (p := fun c => !(smlB c) || (plainStart c && c != 45 && c != 95 && c != 42)) hall c
 simp only [hc, Bool.not_true, Bool.false_or, Bool.and_eq_true, bne_iff_ne, ne_eq] at hp
 rcases rawK_cases hk c with ⟨rfl, e⟩ | ⟨rfl, e⟩ | ⟨rfl, e⟩ <;> rw [e]
 ·refine ⟨c, [], rfl, f.1, hp.1.1.1, ⟨hp.1.1.2, hp.1.2, hp.2⟩, by decide, ?_⟩
  intro x hx
  obtain rfl := List.mem_singleton.1 hx
  exact ⟨f.2.2.2.2.1, f.2.2.2.2.2.1, f.2.2.2.2.2.2.1⟩
 ·refine ⟨91, [32, 93, 32, c], rfl, rfl, rfl, by decide, by simp, ?_⟩
  intro x hx
  simp only [List.mem_cons, List.not_mem_nil, or_false] at hx
  rcases hx with rfl | rfl | rfl | rfl | rfl
  ·decide
  ·decide
  ·decide
  ·decide
  ·exact ⟨f.2.2.2.2.1, f.2.2.2.2.2.1, f.2.2.2.2.2.2.1⟩
 ·refine ⟨91, [120, 93, 32, c], rfl, rfl, rfl, by decide, by simp, ?_⟩
  intro x hx
  simp only [List.mem_cons, List.not_mem_nil, or_false] at hx
  rcases hx with rfl | rfl | rfl | rfl | rfl
  ·decide
  ·decide
  ·decide
  ·decide
  ·exact ⟨f.2.2.2.2.1, f.2.2.2.2.2.1, f.2.2.2.2.2.2.1⟩
theorem law_line {nb : Bool} {i k : Nat} (hi : i < 20) (hk : k < 3) {c : UInt8} (hc : smlB c = true) : TkLine (markC nb) (numF nb i) (markB nb i ++ rawK k c) (rawK k c) := by
 obtain ⟨d, r, e, hst, hpl, hdc, hrl, hall⟩ := rawK_first hk hc
 cases nb with
 | false =>
  have hl : markB false i ++ rawK k c = 45 :: 32 :: d :: r := by rw [e]; rfl
  rw [hl, e]
  have hok : (lnOf (45 :: 32 :: d :: r) 10).ok := lnOf_ok (by simp; omega)
  have hh : (lnOf (45 :: 32 :: d :: r) 10).has 45 (32 :: d :: r) := ⟨hok, rfl, rfl⟩
  have h2 := hh.next.next
  refine ⟨⟨2, { lnOf (45 :: 32 :: d :: r) 10 with i := 2 }, ⟨⟨45, _, hh, markC_bul (.inl rfl)⟩, hh.noHR (m := [45, 32]) (by decide) rfl hst hdc, Ln.marks hok (hh.bullet (.inl rfl) hst), ⟨d, r, h2, hst⟩, h2.plain hpl⟩, ?_, by decide, by decide⟩, ?_, ?_, by simp; omega⟩
  ·show (d :: r).dropWhile isST = d :: r
   rw [List.dropWhile_cons, hst]; rfl
  ·exact ⟨fun h0 => by
    rcases List.mem_cons.1 h0 with h0 | h0
    ·cases h0
    rcases List.mem_cons.1 h0 with h0 | h0
    ·cases h0
    exact (hall _ h0).1 rfl, fun h0 => by
    rcases List.mem_cons.1 h0 with h0 | h0
    ·cases h0
    rcases List.mem_cons.1 h0 with h0 | h0
    ·cases h0
    exact (hall _ h0).2.1 rfl⟩
  ·intro h0
   rcases List.mem_cons.1 h0 with h0 | h0
   ·cases h0
   rcases List.mem_cons.1 h0 with h0 | h0
   ·cases h0
   exact (hall _ h0).2.2 rfl
 | true =>
  obtain ⟨x, ds, he, hdl, hdg⟩ := decB_cons (n := i + 1) (by omega)
  have hl : markB true i ++ rawK k c = x :: (ds ++ 46 :: 32 :: d :: r) := by rw [e]; show decB (i + 1) ++ [46, 32] ++ _ = _; rw [he]; simp
  have hnum : numF true i = numV (x :: ds) := by show numV (decB (i + 1)) = _; rw [he]
  rw [hl, e, hnum]
  have hlen : (x :: (ds ++ 46 :: 32 :: d :: r)).length ≤ 50 := by simp; omega
  have hok : (lnOf (x :: (ds ++ 46 :: 32 :: d :: r)) 10).ok := lnOf_ok (by omega)
  have hh : (lnOf (x :: (ds ++ 46 :: 32 :: d :: r)) 10).has x (ds ++ 46 :: 32 :: d :: r) := ⟨hok, rfl, rfl⟩
  obtain ⟨hM, h2⟩ := hh.number (by show (x :: (ds ++ 46 :: 32 :: d :: r)).length < _; omega) hdg (by omega) hst
  have hx := hdg x (by simp)
  have hx' := hx
  simp only [digB, Bool.and_eq_true, decide_eq_true_eq] at hx'
  have ne : ∀ d : UInt8, (d.toNat < 48 ∨ 57 < d.toNat) → x ≠ d := by rintro d hd rfl; omega
  have hxs : isST x = false := by
   simp only [isST, Bool.or_eq_false_iff, beq_eq_false_iff_ne, ne_eq]
   exact ⟨ne _ (by decide), ne _ (by decide)⟩
  have hdig : ∀ y ∈ x :: ds, y ≠ 10 ∧ y ≠ 13 ∧ y ≠ 0 := by
   intro y hy
   have := hdg y hy
   refine ⟨?_, ?_, ?_⟩ <;> (rintro rfl; revert this; decide)
  have hal : ∀ y ∈ x :: (ds ++ 46 :: 32 :: d :: r), y ≠ 10 ∧ y ≠ 13 ∧ y ≠ 0 := by
   intro y hy
   rw [show x :: (ds ++ 46 :: 32 :: d :: r) = (x :: ds) ++ ([46, 32] ++ (d :: r)) by simp] at hy
   rcases List.mem_append.1 hy with hy | hy
   ·exact hdig y hy
   rcases List.mem_append.1 hy with hy | hy
   ·simp only [List.mem_cons, List.not_mem_nil, or_false] at hy
    rcases hy with rfl | rfl <;> decide
   ·exact hall y hy
  refine ⟨⟨ds.length + 3, _, ⟨⟨x, _, hh, hxs, ne _ (by decide), ne _ (by decide)⟩, ?_, hM, ⟨d, r, h2, hst⟩, h2.plain hpl⟩, ?_, by omega, by omega⟩, ⟨fun h0 => (hal _ h0).1 rfl, fun h0 => (hal _ h0).2.1 rfl⟩, fun h0 => (hal _ h0).2.2 rfl, by omega⟩
  ·unfold Ln.isHR
   simp only [hh.lead hxs 2, hh.peek]
   rw [if_neg]
   rintro (h | h | h)
   ·exact ne 45 (by decide) h
   ·exact ne 95 (by decide) h
   ·exact ne 42 (by decide) h
  ·unfold Ln.rest
   rw [h2.tx, List.dropWhile_cons, hst]; rfl
theorem TkLs.snoc {op : Opt} {c : UInt8} {nf : Nat → Nat} {l raw : List UInt8} (h2 : TkRaw op raw) : ∀ {m : Nat} {ls raws : List (List UInt8)}, TkLs op c nf m ls raws → TkLine c (nf (m + ls.length)) l raw → TkLs op c nf m (ls ++ [l]) (raws ++ [raw])
 | _, _, _, .nil, h1 => .cons h1 h2 .nil
 | m, _, _, .cons (ls := ls) a b h, h1 => .cons a b (TkLs.snoc h2 h (by rw [List.length_cons] at h1; rw [show m + 1 + ls.length = m + (ls.length + 1) by omega]; exact h1))
inductive LawI (nb : Bool) : List (List UInt8) → List (List UInt8) → List TI → Prop where
 | nil : LawI nb [] [] []
 | snoc {ls rs : List (List UInt8)} {ts : List TI} {t : TI} : LawI nb ls rs ts → t.k < 3 → smlB t.c = true → LawI nb (ls ++ [markB nb ts.length ++ rawK t.k t.c]) (rs ++ [rawK t.k t.c]) (ts ++ [t])
theorem tkIt_ti {t : TI} (hk : t.k < 3) (hc : smlB t.c = true) : tkIt (rawK t.k t.c) = tiOut t := by
 have e2 : escS htmlPs [32, t.c] = [32] ++ escS htmlPs [t.c] := by rw [show [32, t.c] = [32] ++ [t.c] from rfl, escS_append]; rfl
 unfold tkIt tiOut
 rcases rawK_cases hk t.c with ⟨h0, e⟩ | ⟨h0, e⟩ | ⟨h0, e⟩ <;> rw [e, h0]
 ·rw [tkOut_word]; rfl
 ·show liO ++ (boxT false ++ escS htmlPs [32, t.c]) ++ liC = _
  rw [e2]; simp [boxS]
 ·show liO ++ (boxT true ++ escS htmlPs [32, t.c]) ++ liC = _
  rw [e2]; simp [boxS]
theorem LawI.facts {nb : Bool} {ls rs : List (List UInt8)} {ts : List TI} (h : LawI nb ls rs ts) : ls.length = ts.length ∧ rs.length = ts.length ∧ (∀ t ∈ ts, t.k < 3) ∧ rs.flatMap tkIt = ts.flatMap tiOut := by
 induction h with
 | nil => exact ⟨rfl, rfl, by simp, rfl⟩
 | @snoc ls rs ts t h1 h2 h3 ih =>
  obtain ⟨a, b, c, d⟩ := ih
  refine ⟨by simp [a], by simp [b], ?_, ?_⟩
  ·intro x hx
   rcases List.mem_append.1 hx with hx | hx
   ·exact c x hx
   ·rw [List.mem_singleton.1 hx]; exact h2
  ·rw [List.flatMap_append, List.flatMap_append, d]
   simp [tkIt_ti h2 h3]
theorem LawI.tkLs {nb : Bool} {op : Opt} (hoff : op.auto = false) {ls rs : List (List UInt8)} {ts : List TI} (h : LawI nb ls rs ts) : ts.length ≤ 20 → TkLs op (markC nb) (numF nb) 0 ls rs := by
 induction h with
 | nil => intro _; exact .nil
 | @snoc ls rs ts t h1 h2 h3 ih =>
  intro hl
  rw [List.length_append, List.length_singleton] at hl
  have hf := h1.facts
  refine TkLs.snoc (rawK_raw hoff h2 h3) (ih (by omega)) ?_
  rw [Nat.zero_add, hf.1]
  exact law_line (by omega) h2 h3
theorem LawI.len {nb : Bool} {ls rs : List (List UInt8)} {ts : List TI} (h : LawI nb ls rs ts) (hl : ts.length ≤ 20) : (tkT ls).length ≤ 20 * 101 := by
 have := (h.tkLs (op := optTask) rfl hl).lines.2.2
 have hf := h.facts
 have : ls.length * 101 ≤ 20 * 101 := Nat.mul_le_mul_right _ (by omega)
 omega
theorem und_3s : P.underlying ty_3_string = some (.array 3 ty_string) := by kernel_rfl
theorem size_strT (w : World) : (sizeOf ty_string).run P w = .ok 1 w := by
 have hj : P.info? ty_string = some ((P.info? ty_string).getD default) := by kernel_rfl
 have hs : ((P.info? ty_string).getD default).size = 1 := by kernel_rfl
 generalize (P.info? ty_string).getD default = i at hj hs
 simp [sizeOf, typeInfo, hj, hs]
theorem idx3 {k : Nat} (hk : k < 3) : (Instr.index ty_3_string (.agg #[.string (bs []), .string (bs [91, 32, 93, 32]), .string (bs [91, 120, 93, 32])]) (.int .u8 (k : Int))).run P w = .ok (.string (bs (boxR k))) w := by
 have hc : k = 0 ∨ k = 1 ∨ k = 2 := by omega
 have hv : (#[.string (bs []), .string (bs [91, 32, 93, 32]), .string (bs [91, 120, 93, 32])] : Array Value)[k]? = some (.string (bs (boxR k))) := by
  rcases hc with rfl | rfl | rfl <;> rfl
 generalize hcs : (#[.string (bs []), .string (bs [91, 32, 93, 32]), .string (bs [91, 120, 93, 32])] : Array Value) = cs at hv ⊢
 have hk3 : (k : Int) < 3 := by omega
 simp [Instr.index, run_underlying und_3s, asIntOf, hk, go_sem, size_strT, hv]
theorem buildNode (h : Sat σ w L) {k num : Int} {t ch : List UInt8} {q : Option Addr} {n c : Nat} {K : Option Addr → Nat → Nat → World → Prop}
 (hK : ∀ b w, Sat σ w ((b, cel (ndC k t num ch q n c) ty_spec_Node) :: L) → K (some ⟨b, 0, none⟩) 1 1 w) : ∃ rq rn rc w1, (Instr.buildSlice ty_S_spec_Node 1 #[(0, ndV k t num ch q n c)]).run P w = .ok (.slice rq rn rc) w1 ∧ K rq rn rc w1 := by
 have hs : rowNode.i.size = 10 := rowNode.hs
 have hrun := run_buildSlice (P := P) w ty_S_spec_Node ty_spec_Node 1 #[(0, ndV k t num ch q n c)] (ndC k t num ch q n c).toArray _ _ rowNode.ht rowNode.hi rowNode.hz (by rw [hs]; decide) (by rw [hs]; decide) (by rw [hs]; kernel_rfl)
 exact ⟨_, _, _, _, hrun, hK _ _ (h.alc (ndC k t num ch q n c) ty_spec_Node)⟩
theorem ndC_one (k : Int) (t : List UInt8) (num : Int) (ch : List UInt8) (q : Option Addr) (n c : Nat) : ∀ u ∈ ndC k t num ch q n c, u.oneCell' = true := by
 intro u hu
 simp only [ndC, List.mem_cons, List.not_mem_nil, or_false] at hu
 rcases hu with rfl | rfl | rfl | rfl | rfl | rfl | rfl | rfl | rfl | rfl <;> rfl
theorem fnTaskList_ok {q : Option Addr} {n c : Nat} {ws : List UInt8} {nb : Bool} (hB : BArg σ L q n ws) (h : Sat σ w L) (hR : ∀ w, Sat σ w L → R (.returned (.bool true)) w) : callE P i_laws_FnTaskList #[.slice q n c, .bool nb] R w := by
 have hnl := hB.1
 have hmax : IntKind.i64.max = 9223372036854775807 := rfl
 refine g_laws_FnTaskList.sound ?_
 refine br_split (fun _ => hR w h) fun _ => br_split (fun _ => hR w h) fun hsz => ?_
 simp only [Bool.or_eq_false_iff, decide_eq_false_iff_not] at hsz
 unfold g_laws_FnTaskList.k1
 refine Sat.bx h fun b5 w h => ?_
 refine h.stA 0 fun w h => ?_
 refine h.stA 0 fun w h => ?_
 refine h.stA 0 fun w h => ?_
 refine h.stA 0 fun w h => ?_
 refine h.stA 0 fun w h => ?_
 refine h.stA 0 fun w h => ?_
 refine h.stA 0 fun w h => ?_
 refine h.stA 0 fun w h => ?_
 refine h.stA 0 fun w h => ?_
 refine h.stA 0 fun w h => ?_
 let num : Int := if nb then 1 else -1
 let ch : List UInt8 := if nb then [46] else [45]
 have k2 : ∀ w, Sat σ w ((b5, cel (ndC 3 [] num ch none 0 0) ty_spec_Node) :: L) → g_laws_FnTaskList.k2 R q n c nb b5 w := by
  intro w h
  unfold g_laws_FnTaskList.k2
  intro X hX
  have key : ∀ k i w (ls rs : List (List UInt8)) (ts : List TI) (tq : Option Addr) (tc : Nat) (M : List Chunk), i + k = n → ts.length = i → LawI nb ls rs ts → Sl 10 ty_spec_Node tq i tc (tiC ts) M → Sat σ w ((b5, cel (ndC 3 [] num ch tq i tc) ty_spec_Node) :: (M ++ (tiOwn ts ++ L))) → X nb b5 (bs (tkT ls)) q n c (n : Int) (i : Int) w := by
   intro k
   induction k with
   | zero =>
    intro i w ls rs ts tq tc M hi htl hI hS h
    obtain rfl : i = n := by omega
    have hf := hI.facts
    refine hX _ _ _ _ _ _ _ _ _ (br_false (by simp) ?_)
    refine Sat.tk h fun w h => ?_
    refine ⟨_, Sat.ld h (.head _) (i := 0) rfl, _, Sat.ld h (.head _) (i := 1) rfl, _, Sat.ld h (.head _) (i := 2) rfl, _, Sat.ld h (.head _) (i := 3) rfl, _, Sat.ld h (.head _) (i := 4) rfl, _, Sat.ld h (.head _) (i := 5) rfl, _, _, _, Sat.ld h (.head _) (i := 6) rfl, _, _, _, Sat.ld h (.head _) (i := 7) rfl, _, Sat.ld h (.head _) (i := 8) rfl, _, Sat.ld h (.head _) (i := 9) rfl, ?_⟩
    show callE P i_impl_HTML #[optV optTask, .string (bs (tkT ls))] _ w
    have hne : rs ≠ [] := by intro h0; have := hf.2.1; rw [h0] at this; simp at this; omega
    have hO : ∃ O C, TkMark (markC nb) (numF nb 0) O C ∧ ((num = -1 ∧ O = ulO ∧ C = ulC) ∨ (num = 1 ∧ O = olO ∧ C = olC)) ∧ O.length = 5 ∧ C.length ≤ 6 := by
     cases nb with
     | false => exact ⟨ulO, ulC, .inl ⟨rfl, rfl, rfl, rfl⟩, .inl ⟨rfl, rfl, rfl⟩, rfl, by decide⟩
     | true => exact ⟨olO, olC, .inr ⟨rfl, rfl, rfl, rfl⟩, .inr ⟨rfl, rfl, rfl⟩, rfl, by decide⟩
    obtain ⟨O, C, hm, hnum, hOl, hCl⟩ := hO
    have hol := tiOuts_len ts
    have hP := html_tasks (op := optTask) rfl hm (hI.tkLs (op := optTask) rfl (by omega)) hne (by omega)
    rw [hf.2.2.2] at hP
    have h0 := h
    refine html_ok hP (by simp only [List.length_append]; omega) h fun w h => ⟨_, rfl, h0.same h (.head _) (.head _) 10, ?_⟩
    refine listH_ok (q := tq) (n := i) (c := tc) (ts := ts) (M := M) (num := num) (ch := ch) hnum hS hf.2.2.1 (by omega) h (fun x hx => .tail _ (by
     rcases List.mem_append.1 hx with hx | hx
     ·exact List.mem_append_left _ hx
     ·exact List.mem_append_right _ (List.mem_append_left _ hx))) fun w h => ⟨_, rfl, ?_⟩
    rw [beq_self_eq_true]
    refine hR w ?_
    exact Sat.less ((b5, cel (ndC 3 [] num ch tq i tc) ty_spec_Node) :: (M ++ tiOwn ts)) h
   | succ k ih =>
    intro i w ls rs ts tq tc M hi htl hI hS h
    have hf := hI.facts
    have hll := hI.len (by omega)
    obtain ⟨a, hqa, hbc⟩ := hB.2 i (by omega)
    generalize hm0 : ws[i]'(by omega) = m at hbc
    have hm := m.toNat_lt
    have hbc' := fun (w : World) (L2 : List Chunk) (hw : Sat σ w (L2 ++ L)) => hbc w hw.right
    refine hX _ _ _ _ _ _ _ _ _ (br_true (by simp; omega) ⟨by omega, by omega, ?_⟩)
    rw [hqa]
    refine nilP_some ?_
    simp only [Int.toNat_natCast, Nat.mul_one]
    have h9 : Sat σ w (((b5, cel (ndC 3 [] num ch tq i tc) ty_spec_Node) :: (M ++ tiOwn ts)) ++ L) := h.re
    refine ⟨_, hbc' w _ h9, ?_⟩
    rw [← hqa]
    have k3 : ∀ w (mk : List UInt8), mk = markB nb i → mk.length ≤ 4 → Sat σ w ((b5, cel (ndC 3 [] num ch tq i tc) ty_spec_Node) :: (M ++ (tiOwn ts ++ L))) → g_laws_FnTaskList.k3 R X nb b5 (bs (tkT ls)) (i : Int) ((m.toNat : Nat) : Int) (bs mk) q n c (n : Int) (i : Int) w := by
     intro w mk hmk hmkl h
     have hcc : smlB (UInt8.ofNat (97 + i)) = true := by
      have : i < 20 := by omega
      have hall : (List.range 20).all (fun i => smlB (UInt8.ofNat (97 + i))) = true := by decide
      exact List.all_eq_true.1 hall i (List.mem_range.2 this)
     have hcn : (UInt8.ofNat (97 + i)).toNat = 97 + i := by simp; omega
     generalize hcg : UInt8.ofNat (97 + i) = cc at hcc hcn
     have hkk : m.toNat % 3 < 3 := Nat.mod_lt _ (by decide)
     generalize hkg : m.toNat % 3 = kk at hkk
     unfold g_laws_FnTaskList.k3
     rw [i64_in (97 + _) (by omega), u8_in _ (by omega)]
     refine buildR (e := ty_uint8) (cs := [.int .u8 (97 + (i : Int))]) h (by kernel_rfl) (by kernel_rfl) (by kernel_rfl) (by kernel_rfl) (by decide) (by decide) (by kernel_rfl) fun b0 w h => ?_
     have h : Sat σ w ([(b0, cel (bc [cc]) ty_uint8)] ++ ((b5, cel (ndC 3 [] num ch tq i tc) ty_spec_Node) :: (M ++ (tiOwn ts ++ L)))) := by
      have e : bc [cc] = [.int .u8 (97 + (i : Int))] := by show [Value.int .u8 ((cc.toNat : Nat) : Int)] = _; rw [hcn]; rfl
      rw [e]; exact h
     have hBy : By (some ⟨b0, 0, none⟩) 1 1 [cc] [(b0, cel (bc [cc]) ty_uint8)] := ⟨rfl, Nat.le_refl _, .inr ⟨b0, [], rfl, by simp, rfl⟩⟩
     refine ⟨_, _, hBy.str h, by decide, ?_⟩
     have h := h.tail
     rw [i64_in ((m.toNat : Nat) : Int) (by omega), show Int.tmod ((m.toNat : Nat) : Int) 3 = ((m.toNat % 3 : Nat) : Int) from rfl, hkg]
     refine ⟨_, _, idx3 hkk, ?_⟩
     have hbl : (boxR kk).length ≤ 4 := by unfold boxR; split; decide; split; decide; decide
     rw [show ByteArray.mk #[10] = bs [10] from rfl, bs_append, bs_append, bs_append, bs_append]
     refine ⟨by rw [hmax, bs_size, bs_size]; omega, by rw [hmax, bs_size, bs_size, List.length_append]; simp only [List.length_cons, List.length_nil]; omega, by rw [hmax, bs_size, bs_size]; simp only [List.length_append, List.length_cons, List.length_nil]; omega, by rw [hmax, bs_size, bs_size]; simp only [List.length_append, List.length_cons, List.length_nil]; omega, ?_⟩
     refine ⟨_, _, _, Sat.ld h (.head _) (i := 7) rfl, by decide, ?_⟩
     refine buildNode (k := 20) (t := [cc]) (num := 0) (ch := []) (q := none) (n := 0) (c := 0) h fun b2 w h => ?_
     refine buildNode (k := 6) (t := []) (num := 0) (ch := []) (q := some ⟨b2, 0, none⟩) (n := 1) (c := 1) h fun b1 w h => ?_
     let t : TI := ⟨kk, cc, b1, b2⟩
     have hlen10 : (tiC ts).length = i * 10 := by rw [tiC_length, htl]
     have h : Sat σ w (M ++ ((b5, cel (ndC 3 [] num ch tq i tc) ty_spec_Node) :: (t.own ++ (tiOwn ts ++ L)))) := by
      have h : Sat σ w ((b1, cel (ndC 6 [] 0 [] (some ⟨b2, 0, none⟩) 1 1) ty_spec_Node) :: (b2, cel (ndC 20 [cc] 0 [] none 0 0) ty_spec_Node) :: (b5, cel (ndC 3 [] num ch tq i tc) ty_spec_Node) :: (M ++ (tiOwn ts ++ L))) := h
      show Sat σ w (M ++ ((b5, cel (ndC 3 [] num ch tq i tc) ty_spec_Node) :: ([(b1, cel (ndC 6 [] 0 [] (some ⟨b2, 0, none⟩) 1 1) ty_spec_Node), (b2, cel (ndC 20 [cc] 0 [] none 0 0) ty_spec_Node)] ++ (tiOwn ts ++ L))))
      exact h.re
     refine Sat.app1 rowNode hS h (v := ndV 4 [] (kk : Nat) [] (some ⟨b1, 0, none⟩) 1 1) rfl (ndC_one 4 [] (kk : Nat) [] (some ⟨b1, 0, none⟩) 1 1) (by kernel_rfl) (by omega) (by omega) (by decide) fun tq' tc' w M' hS' h => ?_
     have h : Sat σ w ((b5, cel (ndC 3 [] num ch tq i tc) ty_spec_Node) :: (M' ++ (t.own ++ (tiOwn ts ++ L)))) := h.re
     refine h.stA 0 fun w h => ?_
     have h : Sat σ w ((b5, cel (ndC 3 [] num ch tq' (i + 1) tc') ty_spec_Node) :: (M' ++ (t.own ++ (tiOwn ts ++ L)))) := h
     rw [i64_inc (by omega)]
     have hI' := LawI.snoc (t := t) hI hkk hcc
     have e1 : tkT ls ++ (mk ++ boxR kk ++ [cc] ++ [10]) = tkT (ls ++ [markB nb ts.length ++ rawK t.k t.c]) := by
      rw [htl, ← hmk]; simp [tkT, rawK, t]
     rw [e1]
     have e2 : tiC (ts ++ [t]) = tiC ts ++ (ndV 4 [] (kk : Nat) [] (some ⟨b1, 0, none⟩) 1 1).cells.toList := by simp only [tiC, List.flatMap_append, List.flatMap_cons, List.flatMap_nil, List.append_nil]; rfl
     have e3 : tiOwn (ts ++ [t]) = tiOwn ts ++ t.own := by simp [tiOwn]
     refine ih (i + 1) w _ _ (ts ++ [t]) tq' tc' M' (by omega) (by simp [htl]) hI' (by rw [e2]; exact hS') ?_
     rw [e3]
     exact h.re
    cases nb with
    | true =>
     refine br_true rfl ?_
     rw [i64_inc (by omega)]
     refine digits_ok (by omega) h fun w h => ⟨_, rfl, ?_⟩
     obtain ⟨x, ds, he, hdl, _⟩ := decB_cons (n := i + 1) (by omega)
     have hdl2 : (decB (i + 1)).length ≤ 2 := by rw [he]; simp; omega
     rw [show ByteArray.mk #[46, 32] = bs [46, 32] from rfl, bs_append]
     exact ⟨by rw [hmax, bs_size, bs_size]; simp only [List.length_cons, List.length_nil]; omega, k3 w _ rfl (by simp; omega) h⟩
    | false => exact br_false rfl (k3 w [45, 32] rfl (by decide) h)
  exact key n 0 w [] [] [] none 0 [] (by omega) rfl .nil (Sl.nil 10 ty_spec_Node) h
 cases nb with
 | true =>
  refine br_true rfl ?_
  refine h.stA 0 fun w h => ?_
  refine h.stA 0 fun w h => ?_
  exact k2 _ h
 | false => exact br_false rfl (k2 _ h)
end Go.Proofs.YtgbgadkldalkbaaGreatDoor


set_option linter.unusedVariables false
set_option linter.constructorNameAsVariable false
namespace Go.Proofs.YtgbgadkldalkbaaGreatDoor
open Go.Proofs Go.ChangeShapes Go.WideShapes
theorem heap_of_sat {W W' : World} (h : Sat (outOf W) W' (allBlocks W)) {b : Nat} (hb : b < W.heap.size) : W'.heap[b]? = W.heap[b]? := by
 have hm : (b, W.heap[b]) ∈ allBlocks W := List.mem_map.2 ⟨(W.heap[b], b), List.mem_zipIdx_iff_getElem?.2 (by simp [hb]), rfl⟩
 rw [h.at_ _ hm, Array.getElem?_eq_getElem hb]
theorem same_of_sat {W W' : World} (h : Sat (outOf W) W' (allBlocks W)) {p : MemPlace} (hp : p.block < W.heap.size) : W.sameAt W' p := by
 cases p with
 | cell b o => exact World.cell?_of_block (w := W) (heap_of_sat h hp)
 | map b => exact heap_of_sat h hp
theorem cell_of_sat {W W' : World} (h : Sat (outOf W) W' (allBlocks W)) {a : Addr} {v : Value} (hc : W.cell? a = some v) : W'.cell? a = some v := by
 have hb : a.block < W.heap.size := by
  rcases Nat.lt_or_ge a.block W.heap.size with hlt | hge
  ·exact hlt
  ·have : W.heap[a.block]? = none := Array.getElem?_eq_none hge
   unfold World.cell? at hc
   rw [this] at hc; cases hc
 rw [← hc]
 unfold World.cell?
 rw [heap_of_sat h hb]
theorem u8_of {n : Int} (h : (Lit.int .u8 n).wf = true) : ∃ m : Nat, m < 256 ∧ n = (m : Int) := by
 have h1 : (decide (IntKind.u8.min ≤ n) && decide (n ≤ IntKind.u8.max)) = true := h
 simp only [Bool.and_eq_true, decide_eq_true_eq] at h1
 have a : IntKind.u8.min = 0 := rfl
 have b : IntKind.u8.max = 255 := rfl
 rw [a, b] at h1
 exact ⟨n.toNat, by omega, by omega⟩
end Go.Proofs.YtgbgadkldalkbaaGreatDoor


set_option linter.unusedVariables false
namespace Go.Proofs.YtgbgadkldalkbaaGreatDoor
open Go.Proofs Go.ChangeShapes Go.WideShapes Go.Deep
theorem open_barg {P : Program} {H : Type} {enc : TypeId × Value → H} {W : World} {r : Reach} {b0 : Nat} {t e : TypeId} {v : Value} {d : DataW H} {ps : List MemPlace} (ht : P.underlying t = some (.slice e)) (he : P.underlying e = some (.int .u8)) (hc : P.cellsOf e = 1)
 (hval : Value.okWide P W r b0 t v) (h : DataW.Trod enc P W 0 (fun _ => true) true t v d ps) : ∃ q n c vs, v = .slice q n c ∧ BArg (outOf W) (allBlocks W) q n vs := by
 obtain ⟨a0, len, cap, rfl⟩ := okWide_slice ht hval
 obtain ⟨fuel, hf⟩ := h
 rcases open_slice1 ht hc hf with ⟨hcs, hx⟩ | ⟨a, len', cap', m, n, V, D, Pl, hcs, _, hl, hm, hz, hx, hcell⟩
 ·simp [Value.cells] at hcs
  obtain ⟨rfl, rfl, rfl⟩ := hcs
  exact ⟨none, 0, 0, [], rfl, ⟨rfl, fun i hi => by simp at hi⟩⟩
 ·simp [Value.cells] at hcs
  obtain ⟨rfl, rfl, rfl⟩ := hcs
  simp only [if_true] at hz
  refine ⟨some a, len, cap, (List.range len).map fun i => match V i with | .int _ n => UInt8.ofNat n.toNat | _ => 0, rfl, ⟨by simp, fun i hi => ?_⟩⟩
  simp only [List.length_map, List.length_range] at hi
  refine ⟨a, rfl, fun w hw => ?_⟩
  obtain ⟨h1, h2⟩ := hcell i (by omega)
  obtain ⟨k, h3, _, h4⟩ := DataW.trod_int he h2
  have h5 : V i = .int .u8 k := (List.cons.inj h3).1
  obtain ⟨j, hj, rfl⟩ := u8_of h4
  rw [cell_of_sat hw h1, List.getElem_map, List.getElem_range, h5]
  simp
  omega
end Go.Proofs.YtgbgadkldalkbaaGreatDoor

