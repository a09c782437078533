/- Part 7 of the proof of the law FnLabels: for every input the law returns true, the inputs read as they did, and memory that was there is as it was; under the conditions of the given row alone. -/
import Derived.SliceStrings
import Derived.WideKeyArgs
import Derived.Below
import Derived.Deep.Slices
import Derived.ChangeArms
import Derived.Test.YtejiaegiijokcaaGreatDoorA6
set_option linter.all false
set_option linter.unusedVariables false
namespace Go.Proofs.YtejiaegiijokcaaGreatDoor
open Go.Proofs Go.IntWalk Go.RowKit
variable {σ : Out} {w : World} {L L' : List Chunk} {R : Ending → World → Prop}
theorem defs_list : ∀ {P : List (List UInt8 × List UInt8)}, P ≠ [] → (∀ x ∈ P, LabB x.1 ∧ x.2 ≠ [] ∧ ∀ c ∈ x.2, destB c = true ∧ isSTN c = false) → DefsT (joinL [10] (P.map fun x => defT x.1 x.2)) P
  | [x], _, h => by
    obtain ⟨h1, h2, h3⟩ := h x (.head _)
    have : joinL [10] ([x].map fun x => defT x.1 x.2) = defT x.1 x.2 := by simp [joinL]
    rw [this]; exact .one h1 h2 h3
  | x :: y :: P, _, h => by
    obtain ⟨h1, h2, h3⟩ := h x (.head _)
    have ih := defs_list (P := y :: P) (by simp) (fun z hz => h z (.tail _ hz))
    have : joinL [10] ((x :: y :: P).map fun x => defT x.1 x.2) = defT x.1 x.2 ++ 10 :: joinL [10] ((y :: P).map fun x => defT x.1 x.2) := by simp [joinL]
    rw [this]; exact .cons h1 h2 h3 ih
theorem lines_list {T : List UInt8} {rest : List (List UInt8 × UInt8)} (hT : LinesOf T rest) : ∀ {ls : List (List UInt8)}, (∀ l ∈ ls, noNL l) → LinesOf (ls.flatMap (fun l => l ++ [10]) ++ T) (ls.map (fun l => (l, 10)) ++ rest)
  | [], _ => hT
  | l :: ls, h => by
    have ih := lines_list hT (ls := ls) (fun x hx => h x (.tail _ hx))
    have : (l :: ls).flatMap (fun l => l ++ [10]) ++ T = l ++ 10 :: (ls.flatMap (fun l => l ++ [10]) ++ T) := by simp
    rw [this]; exact .cons (h l (.head _)) ih
def dgs : List UInt8 := [48, 49, 50, 51, 52, 53, 54, 55, 56, 57]
def defP (a : List UInt8) (d : UInt8) : List UInt8 × List UInt8 := (a ++ [32, d], [47, 117, d])
def defL (a : List UInt8) (d : UInt8) : List UInt8 := defT (a ++ [32, d]) [47, 117, d]
def labelsT (a ds : List UInt8) : List UInt8 := (dgs.map (defL a)).flatMap (fun l => l ++ [10]) ++ ([] ++ 10 :: (120 :: refsT a ds))
def labLines (a ds : List UInt8) : List (List UInt8 × UInt8) := (dgs.map (defL a)).map (fun l => (l, 10)) ++ [([], 10), (120 :: refsT a ds, 0)]
theorem dgs_mem {d : UInt8} (h : d ∈ dgs) : 48 ≤ d.toNat ∧ d.toNat ≤ 57 := by
  simp only [dgs, List.mem_cons, List.mem_nil_iff, or_false] at h
  rcases h with rfl | rfl | rfl | rfl | rfl | rfl | rfl | rfl | rfl | rfl <;> decide
theorem dgs_of {d : UInt8} (h : 48 ≤ d.toNat ∧ d.toNat ≤ 57) : d ∈ dgs := by
  have : (List.range 256).all (fun n => !(decide (48 ≤ n) && decide (n ≤ 57)) || decide (UInt8.ofNat n ∈ dgs)) = true := by decide +kernel
  have := List.all_eq_true.1 this d.toNat (List.mem_range.2 d.toNat_lt)
  rw [UInt8.ofNat_toNat, decide_eq_true h.1, decide_eq_true h.2] at this
  simpa using this
def lbB (c : UInt8) : Bool := c == 97 || c == 98 || c == 122 || (decide (48 ≤ c.toNat) && decide (c.toNat ≤ 57)) || c == 32 || c == 91 || c == 93 || c == 58 || c == 47 || c == 117 || c == 116 || c == 120
theorem lb_no {c : UInt8} (h : lbB c = true) : c ≠ 0 ∧ c ≠ 10 ∧ c ≠ 13 := by
  refine ⟨?_, ?_, ?_⟩ <;> (rintro rfl; revert h; decide)
theorem lb_dig {d : UInt8} (h : 48 ≤ d.toNat ∧ d.toNat ≤ 57) : lbB d = true := by unfold lbB; rw [decide_eq_true h.1, decide_eq_true h.2]; simp
theorem lb_word {a : List UInt8} (h : wordM a = true) : ∀ c ∈ a, lbB c = true := by
  intro c hc
  rcases (word_mem h).2.2 c hc with rfl | rfl | rfl | rfl | rfl | rfl <;> decide
theorem defL_lb {a : List UInt8} {d : UInt8} (ha : wordM a = true) (hd : 48 ≤ d.toNat ∧ d.toNat ≤ 57) : ∀ c ∈ defL a d, lbB c = true := by
  intro c hc
  simp only [defL, defT, List.mem_cons, List.mem_append, List.mem_nil_iff, or_false] at hc
  have hdd := lb_dig hd
  rcases hc with rfl | ⟨hc | rfl | rfl⟩ | rfl | rfl | rfl | rfl | rfl | rfl
  all_goals first | decide | exact hdd | exact lb_word ha c ‹_›
theorem refsT_lb {a : List UInt8} (ha : wordM a = true) : ∀ {ds : List UInt8}, (∀ d ∈ ds, 48 ≤ d.toNat ∧ d.toNat ≤ 57) → ∀ c ∈ refsT a ds, lbB c = true
  | [], _, c, hc => by cases hc
  | d :: ds, h, c, hc => by
    rw [refsT, List.mem_append] at hc
    rcases hc with hc | hc
    · have hdd := lb_dig (h d (.head _))
      simp only [refT1, labT, List.mem_cons, List.mem_append, List.mem_nil_iff, or_false] at hc
      rcases hc with rfl | rfl | rfl | rfl | rfl | ⟨hc | rfl | rfl | rfl⟩ | rfl
      all_goals first | decide | exact hdd | exact lb_word ha c ‹_›
    · exact refsT_lb ha (fun x hx => h x (.tail _ hx)) c hc
theorem br_line2 {s : List UInt8} {nl : UInt8} (hs : s.length < 10000) : (lnOf (91 :: s) nl).plain ∧ (lnOf (91 :: s) nl).cont ∧ (lnOf (91 :: s) nl).rest = 91 :: s := by
  have hp : (lnOf (91 :: s) nl).plain := plain_first (by decide) (by omega)
  have h1 : isST 91 = false := by decide
  have hpk : ((lnOf (91 :: s) nl).lead 3 false).peek = 91 := by rw [lead_first h1]; rfl
  refine ⟨hp, ⟨hp, by rw [hpk]; decide, by rw [hpk]; decide, by rw [hpk]; decide⟩, ?_⟩
  show (91 :: s).dropWhile isST = _
  rw [List.dropWhile_cons_of_neg (by decide)]
theorem html_labels {a ds : List UInt8} (hP : LabP a ds) : ParsesTo optOff (labelsT a ds) (pOpen ++ (120 :: ds.flatMap refOut) ++ pClose) := by
  obtain ⟨ha0, hal, ham⟩ := word_mem hP.w
  have hn := hP.n
  have hrl2 : (refsT a ds).length ≤ 580 := by
    rw [refsT_len]
    have h1 : a.length + 9 ≤ 29 := by omega
    calc (a.length + 9) * ds.length ≤ 29 * 20 := Nat.mul_le_mul h1 hn
      _ = 580 := rfl
  have hdl : ∀ d, (defL a d).length = a.length + 9 := fun d => by simp [defL, defT]
  have hrb : ∀ c ∈ (120 :: refsT a ds), lbB c = true := by
    intro c hc
    rcases List.mem_cons.1 hc with rfl | hc
    · decide
    · exact refsT_lb hP.w hP.d c hc
  have hdb : ∀ l ∈ dgs.map (defL a), ∀ c ∈ l, lbB c = true := by
    intro l hl c hc
    obtain ⟨d, hd, rfl⟩ := List.mem_map.1 hl
    exact defL_lb hP.w (dgs_mem hd) c hc
  have hL : LinesOf (labelsT a ds) (labLines a ds) :=
    lines_list (.cons ⟨by simp, by simp⟩ (.last (by simp) ⟨fun h => (lb_no (hrb _ h)).2.1 rfl, fun h => (lb_no (hrb _ h)).2.2 rfl⟩)) fun l hl => ⟨fun h => (lb_no (hdb l hl _ h)).2.1 rfl, fun h => (lb_no (hdb l hl _ h)).2.2 rfl⟩
  have h0 : 0 ∉ labelsT a ds := by
    intro hm
    simp only [labelsT, List.nil_append, List.mem_append, List.mem_flatMap] at hm
    rcases hm with ⟨l, hl, hm⟩ | hm
    · rcases hm with hm | hm
      · exact (lb_no (hdb l hl _ hm)).1 rfl
      · revert hm; decide
    · rcases List.mem_cons.1 hm with hm | hm
      · revert hm; decide
      · exact (lb_no (hrb _ hm)).1 rfl
  have htl : (labelsT a ds).length < 1000000 := by
    simp only [labelsT, dgs, List.map_cons, List.map_nil, List.flatMap_cons, List.flatMap_nil, List.length_append, List.length_cons, List.length_nil, hdl]; omega
  let F : List UInt8 → List UInt8 → List UInt8 := fun _ => ab (120 :: ds.flatMap refOut)
  let J : List DB → List RefE → Prop := fun D ents => (∃ nb s e, D = [emptyDB nb s e]) ∧ addRefs [] (dgs.map (defP a)) ents
  let I : List (List UInt8 × UInt8) → List DB → Leaf → List RefE → Prop := fun rem D lf ents =>
    (∃ dn dr, dgs = dn ++ dr ∧ rem = dr.map (fun d => (defL a d, 10)) ++ [([], 10), (120 :: refsT a ds, 0)] ∧ D = [] ∧ ents = [] ∧ lf = if dn = [] then .none else .para (dn.map (defL a))) ∨
    (rem = [(120 :: refsT a ds, 0)] ∧ J D ents ∧ lf = .none) ∨ (rem = [] ∧ J D ents ∧ lf = .para [120 :: refsT a ds])
  have hdefs : DefsT (joinL [10] (dgs.map (defL a))) (dgs.map (defP a)) := by
    have := defs_list (P := dgs.map (defP a)) (by simp [dgs]) fun x hx => by
      obtain ⟨d, hd, rfl⟩ := List.mem_map.1 hx
      have hdd := dgs_mem hd
      refine ⟨(lab_ok (sp := [32]) hP.w (.inl rfl) hdd).1, by simp [defP], fun c hc => ?_⟩
      simp [defP] at hc
      rcases hc with rfl | rfl | rfl
      · decide
      · decide
      · refine ⟨?_, dig_stn hdd⟩
        simp only [destB, Bool.and_eq_true, bne_iff_ne, ne_eq]
        exact ⟨⟨⟨⟨⟨⟨⟨dig_ne hdd (by decide), dig_ne hdd (by decide)⟩, dig_ne hdd (by decide)⟩, dig_ne hdd (by decide)⟩, dig_ne hdd (by decide)⟩, dig_ne hdd (by decide)⟩, dig_ne hdd (by decide)⟩, dig_ne hdd (by decide)⟩
    rw [List.map_map] at this
    exact this
  have hjl : (joinL [10] (dgs.map (defL a))).length < 100000 := by
    simp only [dgs, List.map_cons, List.map_nil, joinL, List.flatMap_cons, List.flatMap_nil, List.length_append, List.length_cons, List.length_nil, hdl]; omega
  refine parses_docR (F := F) hL h0 htl I (.inl ⟨[], dgs, rfl, by simp [labLines], rfl, rfl, rfl⟩) ?_ ?_
  · rintro l nl rem D lf ents (⟨dn, dr, hdd, hrem, rfl, rfl, hlf⟩ | ⟨hrem, hJ, rfl⟩ | ⟨hrem, _⟩)
    · cases dr with
      | nil =>
        simp only [List.map_nil, List.nil_append, List.cons.injEq, Prod.mk.injEq] at hrem
        obtain ⟨⟨rfl, rfl⟩, rfl⟩ := hrem
        rw [List.append_nil] at hdd
        subst hdd
        rw [if_neg (by simp [dgs])] at hlf
        subst hlf
        intro σ R L b rb pb p RM w hop hpz hno hM h hR
        refine addLine_blankR (m := some (dgs.map (defP a))) h hM (lnOf_ok (by simp)) rfl ⟨hdefs, hjl⟩ (by simp) (by simp [txsC]) fun w p' D' ents' RM' h1 h2 h3 hM' h4 => ?_
        obtain ⟨hadd, nb, s, e, rfl⟩ := h3
        exact hR w p' _ _ ents' RM' h1 h2 (.inr (.inl ⟨rfl, ⟨⟨nb, s, e, rfl⟩, hadd⟩, rfl⟩)) hM' h4
      | cons d dr =>
        simp only [List.map_cons, List.cons_append, List.cons.injEq, Prod.mk.injEq] at hrem
        obtain ⟨⟨rfl, rfl⟩, rfl⟩ := hrem
        intro σ R L b rb pb p RM w hop hpz hno hM h hR
        obtain ⟨hp, hc, hr⟩ := br_line2 (s := (a ++ [32, d]) ++ 93 :: 58 :: 32 :: [47, 117, d]) (nl := 10) (by simp; omega)
        have hr : (lnOf (defL a d) 10).rest = defL a d := hr
        have hdnl : dn.length < 10 := by have := congrArg List.length hdd; simp [dgs] at this; omega
        have hnext : ∀ lf', lf' = .para ((dn ++ [d]).map (defL a)) → I (dr.map (fun d => (defL a d, 10)) ++ [([], 10), (120 :: refsT a ds, 0)]) [] lf' [] := by
          intro lf' hlf'
          refine .inl ⟨dn ++ [d], dr, by rw [hdd]; simp, rfl, rfl, rfl, ?_⟩
          rw [if_neg (by simp)]; exact hlf'
        by_cases hdn : dn = []
        · rw [if_pos hdn] at hlf
          subst hlf
          refine addLine_plain0 h hpz (List.mem_append_right _ hop) hp hno fun w p' h1 h2 h3 => ?_
          rw [hr] at h3
          exact hR w p' _ _ [] RM (PS.baseL_of h1) h2 (hnext _ (by rw [hdn]; rfl)) (by rw [PS.links_of h1]; exact hM) h3
        · rw [if_neg hdn] at hlf
          subst hlf
          refine addLine_cont h hpz (List.mem_append_right _ hop) rfl hc (by simp; omega) fun w p' h1 h2 h3 => ?_
          rw [hr] at h3
          exact hR w p' _ _ [] RM (PS.baseL_of h1) h2 (hnext _ (by rw [List.map_append]; rfl)) (by rw [PS.links_of h1]; exact hM) h3
    · simp only [List.cons.injEq, Prod.mk.injEq] at hrem
      obtain ⟨⟨rfl, rfl⟩, rfl⟩ := hrem
      intro σ R L b rb pb p RM w hop hpz hno hM h hR
      have hp : (lnOf (120 :: refsT a ds) 0).plain := plain_first (by decide) (by omega)
      have hr : (lnOf (120 :: refsT a ds) 0).rest = 120 :: refsT a ds := by
        show (120 :: refsT a ds).dropWhile isST = _
        rw [List.dropWhile_cons_of_neg (by decide)]
      refine addLine_plain0 h hpz (List.mem_append_right _ hop) hp hno fun w p' h1 h2 h3 => ?_
      rw [hr] at h3
      exact hR w p' _ _ ents RM (PS.baseL_of h1) h2 (.inr (.inr ⟨rfl, hJ, rfl⟩)) (by rw [PS.links_of h1]; exact hM) h3
    · cases hrem
  · rintro D lf ents (⟨dn, dr, hdd, hrem, rfl, rfl, hlf⟩ | ⟨hrem, hJ, rfl⟩ | ⟨_, ⟨⟨nb, s, e, rfl⟩, hadd⟩, rfl⟩)
    · simp at hrem
    · cases hrem
    have ej : joinL [10] [120 :: refsT a ds] = 120 :: refsT a ds := by simp [joinL]
    refine ⟨none, ⟨?_, ?_, ?_⟩, by simp, by simp [txsC, emptyDB], ?_⟩
    · rw [ej]; simp; omega
    · rw [ej]; simp
    · show NoRef (joinL [10] [120 :: refsT a ds])
      rw [ej]
      refine noRef_of (by simp; omega) ?_
      rw [List.dropWhile_cons_of_neg (by decide)]; simp
    rintro D' ents' lk RM' ⟨⟨nb2, t2, s2, e2, rfl⟩, rfl⟩ hM'
    refine ⟨_, .cons emptyDB_shows (.cons (paraDB_shows (F := F)) .nil), ?_, ?_⟩
    · show ab (120 :: ds.flatMap refOut) (id [] ++ pOpen) ++ pClose = _
      simp [ab]
    · intro x hx
      simp [txsC, paraDB, emptyDB] at hx
      subst hx
      show InlineOKG lk RM' optOff (joinL [10] [120 :: refsT a ds]) _
      rw [ej]
      refine refs_inline rfl hP hM' fun d hd => ?_
      have hdd := hP.d d hd
      have hn1 := (lab_ok (sp := [32]) hP.w (.inl rfl) hdd).2
      have hn2 := (lab_ok (sp := [32, 32]) hP.w (.inr rfl) hdd).2
      have e1 : labT a d = a ++ ([32, 32] ++ [d]) := by simp [labT]
      obtain ⟨lb, k', hf1, hf2⟩ := addRefs_find hadd (fun x hx y hy hxy => by
        obtain ⟨d1, hd1, rfl⟩ := List.mem_map.1 hx
        obtain ⟨d2, hd2, rfl⟩ := List.mem_map.1 hy
        have h1 := (lab_ok (sp := [32]) hP.w (.inl rfl) (dgs_mem hd1)).2
        have h2 := (lab_ok (sp := [32]) hP.w (.inl rfl) (dgs_mem hd2)).2
        have h1' : normGo false (defP a d1).1 = a ++ [32, d1] := h1
        have h2' : normGo false (defP a d2).1 = a ++ [32, d2] := h2
        rw [h1', h2'] at hxy
        have : d1 = d2 := by simpa using hxy
        rw [this]) (d := defP a d) (List.mem_map.2 ⟨d, dgs_of hdd, rfl⟩)
      refine ⟨lb, k', ?_, hf2⟩
      have h1' : normGo false (defP a d).1 = a ++ [32, d] := hn1
      rw [e1, hn2, ← h1']; exact hf1
end Go.Proofs.YtejiaegiijokcaaGreatDoor


set_option linter.unusedVariables false
namespace Go.Proofs.YtejiaegiijokcaaGreatDoor
open Go.Proofs
def BArg (σ : Out) (L : List Chunk) (q : Option Addr) (n : Nat) (vs : List UInt8) : Prop :=
  n = vs.length ∧ ∀ i (hi : i < vs.length), ∃ a, q = some a ∧ ∀ w, Sat σ w L → w.cell? (a.add i) = some (.int .u8 (vs[i].toNat : Int))
end Go.Proofs.YtejiaegiijokcaaGreatDoor


set_option linter.unusedVariables false
namespace Go.Proofs.YtejiaegiijokcaaGreatDoor
open Go.Proofs Go.IntWalk Go.RowKit
variable {σ : Out} {w : World} {L L' : List Chunk} {R : Ending → World → Prop}
def hexD : List UInt8 := [48, 49, 50, 51, 52, 53, 54, 55, 56, 57, 97, 98, 99, 100, 101, 102]
def dig (i : Nat) : UInt8 := dgs.getD i 0
theorem dig_fin : ∀ i : Fin 10, (hexD.take (i.val + 1)).drop i.val = [dig i.val] ∧ dig i.val ∈ dgs := by decide
theorem digit1_ok {i : Nat} (hi : i < 10) (hR : R (.returned (.string (bs [dig i]))) w) : callE P i_laws_digits #[.int .i64 i, .int .i64 10] R w := by
  refine g_laws_digits.sound ?_
  unfold g_laws_digits
  rw [show (ByteArray.mk #[48, 49, 50, 51, 52, 53, 54, 55, 56, 57, 97, 98, 99, 100, 101, 102]) = bs hexD from rfl]
  have hsz : (bs hexD).size = 16 := rfl
  refine br_true (by simp; omega) ?_
  rw [i64_inc (by omega), hsz]
  refine ⟨by omega, by omega, by omega, ?_⟩
  rw [Int.toNat_natCast, Int.toNat_natCast, bs_extract, (dig_fin ⟨i, hi⟩).1]
  exact hR
def dsOf (vs : List UInt8) : List UInt8 := vs.map fun v => dig (v.toNat % 10)
theorem dsOf_ok (vs : List UInt8) : ∀ d ∈ dsOf vs, 48 ≤ d.toNat ∧ d.toNat ≤ 57 := by
  intro d hd
  obtain ⟨v, _, rfl⟩ := List.mem_map.1 hd
  exact dgs_mem (dig_fin ⟨v.toNat % 10, Nat.mod_lt _ (by decide)⟩).2
theorem refsT_app (a : List UInt8) : ∀ ds es : List UInt8, refsT a (ds ++ es) = refsT a ds ++ refsT a es
  | [], es => rfl
  | d :: ds, es => by rw [List.cons_append, refsT, refsT, refsT_app a ds es, List.append_assoc]
theorem refOut_dig {d : UInt8} (h : 48 ≤ d.toNat ∧ d.toNat ≤ 57) : refOut d = [32, 60, 97, 32, 104, 114, 101, 102, 61, 34, 47, 117] ++ [d] ++ [34, 62, 116, 60, 47, 97, 62] := by
  have hm := dgs_of h
  simp only [dgs, List.mem_cons, List.mem_nil_iff, or_false] at hm
  rcases hm with rfl | rfl | rfl | rfl | rfl | rfl | rfl | rfl | rfl | rfl <;> decide
theorem refOut_len {ds : List UInt8} (h : ∀ d ∈ ds, 48 ≤ d.toNat ∧ d.toNat ≤ 57) : (ds.flatMap refOut).length = 20 * ds.length := by
  induction ds with
  | nil => rfl
  | cons d ds ih =>
    have := ih (fun x hx => h x (.tail _ hx))
    rw [List.flatMap_cons, List.length_append, this, refOut_dig (h d (.head _)), List.length_cons]
    simp; omega
def preT (a : List UInt8) (i : Nat) : List UInt8 := ((dgs.take i).map (defL a)).flatMap (fun l => l ++ [10])
theorem preT_len (a : List UInt8) (i : Nat) : (preT a i).length ≤ (a.length + 10) * i := by
  have : ∀ ds : List UInt8, ((ds.map (defL a)).flatMap (fun l => l ++ [10])).length = (a.length + 10) * ds.length := by
    intro ds
    induction ds with
    | nil => rfl
    | cons d ds ih => rw [List.map_cons, List.flatMap_cons, List.length_append, ih, List.length_cons, Nat.mul_add]; simp [defL, defT]; omega
  unfold preT
  rw [this]
  exact Nat.mul_le_mul_left _ (by rw [List.length_take]; exact Nat.min_le_left _ _)
theorem fnLabels_ok {x0 : ByteArray} {q : Option Addr} {n c : Nat} {vs : List UInt8} (hA : BArg σ L q n vs) (h : Sat σ w L) (hR : ∀ w, Sat σ w L → R (.returned (.bool true)) w) : callE P i_laws_FnLabels #[.string x0, .slice q n c] R w := by
  rw [bs_of x0]
  generalize x0.data.toList = a
  obtain ⟨hnv, hA⟩ := hA
  refine g_laws_FnLabels.sound ?_
  refine br_split (fun _ => hR w h) (fun hsz => ?_)
  simp only [Bool.or_eq_false_iff, decide_eq_false_iff_not, bs_size] at hsz
  refine word_ok (by omega) ⟨_, rfl, br_split (fun _ => hR w h) (fun hb => ?_)⟩
  simp only [Bool.or_eq_false_iff, Bool.not_eq_false', decide_eq_false_iff_not, beq_eq_false_iff_ne, ne_eq] at hb
  obtain ⟨⟨hw, hn20⟩, hn0⟩ := hb
  obtain ⟨ha0, hal, ham⟩ := word_mem hw
  have hvl : vs.length ≤ 20 := by omega
  have hv0 : vs ≠ [] := by rintro rfl; simp at hnv; omega
  have hmax : IntKind.i64.max = 9223372036854775807 := rfl
  have b2 : ∀ s t : List UInt8, s.length + t.length < 100000 → (((bs s).size + (bs t).size : Nat) : Int) ≤ IntKind.i64.max := by intro s t hs; rw [hmax, bs_size, bs_size]; omega
  have hP : LabP a (dsOf vs) := ⟨hw, by simpa [dsOf] using hvl, by simpa [dsOf] using hv0, dsOf_ok vs⟩
  refine Sat.bx h fun b w h => ?_
  intro X hX
  have hp10 := preT_len a 10
  have key2 : ∀ M w, Bld b true (preT a 10 ++ [10, 120]) M → Sat σ w (M ++ L) → g_laws_FnLabels.l2 R (bs a) b (bs (pOpen ++ [120])) q n c (n : Int) 0 w := by
    intro M w hB h
    intro Y hY
    have key : ∀ k j M w, j + k = vs.length → Bld b true (preT a 10 ++ [10, 120] ++ refsT a (dsOf (vs.take j))) M → Sat σ w (M ++ L) → Y (bs a) b (bs (pOpen ++ [120] ++ (dsOf (vs.take j)).flatMap refOut)) q n c (n : Int) (j : Int) w := by
      intro k
      induction k with
      | zero =>
        intro j M w hj hB h
        rw [List.take_of_length_le (by omega)] at hB ⊢
        refine hY _ _ _ _ _ _ _ _ _ (br_false (by simp; omega) ?_)
        have hrl := refsT_len a (dsOf vs)
        have hdl : (dsOf vs).length = vs.length := by simp [dsOf]
        have hr2 : (refsT a (dsOf vs)).length ≤ 600 := by
          rw [hrl, hdl]
          calc (a.length + 9) * vs.length ≤ 30 * 20 := Nat.mul_le_mul (by omega) hvl
            _ = 600 := rfl
        have hol := refOut_len (dsOf_ok vs)
        refine bldStr_ok hB h (by simp only [List.length_append, List.length_cons, List.length_nil]; omega) fun w h => ⟨_, rfl, ?_⟩
        have eT : preT a 10 ++ [10, 120] ++ refsT a (dsOf vs) = labelsT a (dsOf vs) := by
          have : preT a 10 = (dgs.map (defL a)).flatMap (fun l => l ++ [10]) := rfl
          rw [this]; simp [labelsT]
        rw [eT]
        have hPT := html_labels hP
        have hl3 : pOpen.length = 3 := rfl
        have hl4 : pClose.length = 5 := rfl
        show callE P i_impl_HTML #[optV optOff, .string (bs (labelsT a (dsOf vs)))] _ w
        refine html_ok hPT (by simp only [List.length_append, List.length_cons]; omega) h fun w h => ⟨_, rfl, ?_⟩
        rw [show ByteArray.mk #[60, 47, 112, 62, 10] = bs pClose from rfl]
        simp only [bs_append]
        refine ⟨b2 _ _ (by simp only [List.length_append, List.length_cons, List.length_nil]; omega), ?_⟩
        rw [bs_toList, bs_toList]
        have e3 : pOpen ++ 120 :: (dsOf vs).flatMap refOut ++ pClose = pOpen ++ [120] ++ (dsOf vs).flatMap refOut ++ pClose := by simp
        rw [e3]
        simpa using hR w h
      | succ k ih =>
        intro j M w hj hB h
        have hjl : j < vs.length := by omega
        obtain ⟨qa, hq, hc⟩ := hA j hjl
        have hcell := hc w h.right
        have hds : dsOf (vs.take (j + 1)) = dsOf (vs.take j) ++ [dig (vs[j].toNat % 10)] := by unfold dsOf; rw [List.take_succ_eq_append_getElem hjl, List.map_append]; rfl
        have ih' := fun M w => ih (j + 1) M w (by omega)
        rw [hds, refsT_app, List.flatMap_append] at ih'
        have hrl := refsT_len a (dsOf (vs.take j))
        have hdl : (dsOf (vs.take j)).length = j := by simp [dsOf]; omega
        have hr2 : (refsT a (dsOf (vs.take j))).length ≤ 600 := by
          rw [hrl, hdl]
          calc (a.length + 9) * j ≤ 30 * 20 := Nat.mul_le_mul (by omega) (by omega)
            _ = 600 := rfl
        have hol := refOut_len (dsOf_ok (vs.take j))
        have hmod : vs[j].toNat % 10 < 10 := Nat.mod_lt _ (by decide)
        have hdd := dgs_mem (dig_fin ⟨vs[j].toNat % 10, hmod⟩).2
        refine hY _ _ _ _ _ _ _ _ _ (br_true (by simp; omega) ⟨by omega, by omega, ?_⟩)
        rw [hq]
        refine nilP_some ⟨_, by simpa using hcell, by decide, ?_⟩
        have hlt := vs[j].toNat_lt
        rw [i64_in _ (by omega), show Int.tmod (vs[j].toNat : Int) 10 = ((vs[j].toNat % 10 : Nat) : Int) from rfl]
        refine digit1_ok hmod ⟨_, rfl, ?_⟩
        rw [show ByteArray.mk #[32, 91, 116, 93, 91] = bs [32, 91, 116, 93, 91] from rfl, show ByteArray.mk #[32, 32] = bs [32, 32] from rfl, show ByteArray.mk #[93] = bs [93] from rfl, show ByteArray.mk #[32, 60, 97, 32, 104, 114, 101, 102, 61, 34, 47, 117] = bs [32, 60, 97, 32, 104, 114, 101, 102, 61, 34, 47, 117] from rfl, show ByteArray.mk #[34, 62, 116, 60, 47, 97, 62] = bs [34, 62, 116, 60, 47, 97, 62] from rfl]
        simp only [bs_append]
        refine ⟨b2 _ _ (by simp; omega), b2 _ _ (by simp; omega), b2 _ _ (by simp; omega), b2 _ _ (by simp; omega), ?_⟩
        have e1 : [32, 91, 116, 93, 91] ++ a ++ [32, 32] ++ [dig (vs[j].toNat % 10)] ++ [93] = refT1 a (dig (vs[j].toNat % 10)) := by simp [refT1, labT]
        rw [e1]
        have h1l := refT1_len a (dig (vs[j].toNat % 10))
        refine bldS_ok hB h (.inr rfl) (by simp only [List.length_append, List.length_cons, List.length_nil]; omega) fun w M hB h => ⟨_, _, rfl, b2 _ _ (by simp), b2 _ _ (by simp), b2 _ _ ?_, ?_⟩
        · have hl3 : pOpen.length = 3 := rfl
          simp only [List.length_append, List.length_cons, List.length_nil]; omega
        rw [i64_inc (by omega), ← refOut_dig hdd]
        have := ih' M w (by simpa [refsT] using hB) h
        simpa [hq] using this
    exact key vs.length 0 M w (by omega) (by simpa [dsOf, refsT] using hB) h
  have key1 : ∀ k i g M w, i + k = 10 → Bld b g (preT a i) M → Sat σ w (M ++ L) → X (bs a) q n c b (i : Int) w := by
    intro k
    induction k with
    | zero =>
      intro i g M w hi hB h
      obtain rfl : i = 10 := hi
      refine hX _ _ _ _ _ _ _ (br_false rfl ?_)
      refine bldS_ok (s := [10, 120]) hB h (.inl (by simp)) (by simp; omega) fun w M hB h => ⟨_, _, rfl, ?_⟩
      exact key2 M w hB h
    | succ k ih =>
      intro i g M w hi hB h
      have hil : i < 10 := by omega
      have hpl := preT_len a i
      have hpl2 : (preT a i).length ≤ 300 := Nat.le_trans hpl (by
        calc (a.length + 10) * i ≤ 30 * 10 := Nat.mul_le_mul (by omega) (by omega)
          _ = 300 := rfl)
      have hst : preT a (i + 1) = preT a i ++ (defL a (dig i) ++ [10]) := by
        unfold preT
        have hdl : i < dgs.length := hil
        rw [List.take_succ_eq_append_getElem hdl]
        have : dgs[i] = dig i := by unfold dig; rw [getElem_getD hdl 0]
        rw [this]; simp
      refine hX _ _ _ _ _ _ _ (br_true (by simp; omega) ?_)
      rw [show ByteArray.mk #[91] = bs [91] from rfl, show ByteArray.mk #[32] = bs [32] from rfl, show ByteArray.mk #[93, 58, 32, 47, 117] = bs [93, 58, 32, 47, 117] from rfl, show ByteArray.mk #[10] = bs [10] from rfl]
      simp only [bs_append]
      refine ⟨b2 _ _ (by simp; omega), b2 _ _ (by simp; omega), digit1_ok hil ⟨_, rfl, ?_⟩⟩
      simp only [bs_append]
      refine ⟨b2 _ _ (by simp; omega), b2 _ _ (by simp; omega), digit1_ok hil ⟨_, rfl, ?_⟩⟩
      simp only [bs_append]
      refine ⟨b2 _ _ (by simp; omega), b2 _ _ (by simp; omega), ?_⟩
      have e1 : [91] ++ a ++ [32] ++ [dig i] ++ [93, 58, 32, 47, 117] ++ [dig i] ++ [10] = defL a (dig i) ++ [10] := by simp [defL, defT]
      rw [e1]
      refine bldS_ok hB h (.inl (by simp)) (by simp [defL, defT]; omega) fun w M hB h => ⟨_, _, rfl, ?_⟩
      rw [i64_inc (by omega)]
      exact ih (i + 1) true M w (by omega) (by rw [hst]; exact hB) h
  exact key1 10 0 false _ w rfl (bldNew b) h
end Go.Proofs.YtejiaegiijokcaaGreatDoor


set_option linter.unusedVariables false
namespace Go.Proofs.YtejiaegiijokcaaGreatDoor
open Go.Proofs Go.IntWalk Go.RowKit
variable {σ : Out} {w : World} {L L' : List Chunk} {R : Ending → World → Prop}
theorem sub_self (s : List UInt8) (i : Nat) : sub s i i = [] := List.drop_eq_nil_of_le (by rw [List.length_take]; omega)
end Go.Proofs.YtejiaegiijokcaaGreatDoor


set_option linter.unusedVariables false
namespace Go.Proofs.YtejiaegiijokcaaGreatDoor
open Go.Proofs Go.IntWalk Go.RowKit
variable {σ : Out} {w : World} {L L' : List Chunk} {R : Ending → World → Prop}
def punB (c : UInt8) : Bool := (((decide (33 ≤ c.toNat) && decide (c.toNat ≤ 47)) || (decide (58 ≤ c.toNat) && decide (c.toNat ≤ 64))) || (decide (91 ≤ c.toNat) && decide (c.toNat ≤ 96))) || (decide (123 ≤ c.toNat) && decide (c.toNat ≤ 126))
inductive Tok where
  | lit (c : UInt8)
  | esc (c : UInt8)
  | nl
def Tok.bytes : Tok → List UInt8
  | .lit c => [c]
  | .esc c => [92, c]
  | .nl => [10]
def Tok.out : Tok → List UInt8
  | .lit c => escB htmlPs c
  | .esc c => escB htmlPs c
  | .nl => [10]
def Tok.ok (o : Opt) : Tok → Prop
  | .lit c => parserOf o c = .nil ∧ c ≠ 93
  | .esc c => punB c = true
  | .nl => True
end Go.Proofs.YtejiaegiijokcaaGreatDoor


set_option linter.unusedVariables false
namespace Go.Proofs.YtejiaegiijokcaaGreatDoor
open Go.Proofs Go.IntWalk Go.RowKit
variable {σ : Out} {w : World} {L L' : List Chunk} {R : Ending → World → Prop}
def SArg (σ : Out) (L : List Chunk) (q : Option Addr) (n : Nat) (ls : List (List UInt8)) : Prop :=
  n = ls.length ∧ ∀ i (hi : i < ls.length), ∃ a, q = some a ∧ ∀ w, Sat σ w L → w.cell? (a.add i) = some (.string (bs ls[i]))
theorem SArg.mono {q : Option Addr} {n : Nat} {ls : List (List UInt8)} (h : SArg σ L q n ls) (hL : ∀ w, Sat σ w L' → Sat σ w L) : SArg σ L' q n ls :=
  ⟨h.1, fun i hi => by obtain ⟨a, h1, h2⟩ := h.2 i hi; exact ⟨a, h1, fun w hw => h2 w (hL w hw)⟩⟩
end Go.Proofs.YtejiaegiijokcaaGreatDoor


set_option linter.unusedVariables false
set_option linter.constructorNameAsVariable false
namespace Go.Proofs.YtejiaegiijokcaaGreatDoor
open Go.Proofs Go.ChangeShapes Go.WideShapes
theorem heap_of_sat {W W' : World} (h : Sat (outOf W) W' (allBlocks W)) {b : Nat} (hb : b < W.heap.size) : W'.heap[b]? = W.heap[b]? := by
  have hm : (b, W.heap[b]) ∈ allBlocks W := List.mem_map.2 ⟨(W.heap[b], b), List.mem_zipIdx_iff_getElem?.2 (by simp [hb]), rfl⟩
  rw [h.at_ _ hm, Array.getElem?_eq_getElem hb]
theorem same_of_sat {W W' : World} (h : Sat (outOf W) W' (allBlocks W)) {p : MemPlace} (hp : p.block < W.heap.size) : W.sameAt W' p := by
  cases p with
  | cell b o => exact World.cell?_of_block (w := W) (heap_of_sat h hp)
  | map b => exact heap_of_sat h hp
theorem cell_of_sat {W W' : World} (h : Sat (outOf W) W' (allBlocks W)) {a : Addr} {v : Value} (hc : W.cell? a = some v) : W'.cell? a = some v := by
  have hb : a.block < W.heap.size := by
    rcases Nat.lt_or_ge a.block W.heap.size with hlt | hge
    · exact hlt
    · have : W.heap[a.block]? = none := Array.getElem?_eq_none hge
      unfold World.cell? at hc
      rw [this] at hc; cases hc
  rw [← hc]
  unfold World.cell?
  rw [heap_of_sat h hb]
theorem u8_of {n : Int} (h : (Lit.int .u8 n).wf = true) : ∃ m : Nat, m < 256 ∧ n = (m : Int) := by
  have h1 : (decide (IntKind.u8.min ≤ n) && decide (n ≤ IntKind.u8.max)) = true := h
  simp only [Bool.and_eq_true, decide_eq_true_eq] at h1
  have a : IntKind.u8.min = 0 := rfl
  have b : IntKind.u8.max = 255 := rfl
  rw [a, b] at h1
  exact ⟨n.toNat, by omega, by omega⟩
end Go.Proofs.YtejiaegiijokcaaGreatDoor


set_option linter.unusedVariables false
namespace Go.Proofs.YtejiaegiijokcaaGreatDoor
open Go.Proofs Go.ChangeShapes Go.WideShapes Go.Deep
theorem open_barg {P : Program} {H : Type} {enc : TypeId × Value → H} {W : World} {r : Reach} {b0 : Nat} {t e : TypeId} {v : Value} {d : DataW H} {ps : List MemPlace} (ht : P.underlying t = some (.slice e)) (he : P.underlying e = some (.int .u8)) (hc : P.cellsOf e = 1)
    (hval : Value.okWide P W r b0 t v) (h : DataW.Trod enc P W 0 (fun _ => true) true t v d ps) : ∃ q n c vs, v = .slice q n c ∧ BArg (outOf W) (allBlocks W) q n vs := by
  obtain ⟨a0, len, cap, rfl⟩ := okWide_slice ht hval
  obtain ⟨fuel, hf⟩ := h
  rcases open_slice1 ht hc hf with ⟨hcs, hx⟩ | ⟨a, len', cap', m, n, V, D, Pl, hcs, _, hl, hm, hz, hx, hcell⟩
  · simp [Value.cells] at hcs
    obtain ⟨rfl, rfl, rfl⟩ := hcs
    exact ⟨none, 0, 0, [], rfl, ⟨rfl, fun i hi => by simp at hi⟩⟩
  · simp [Value.cells] at hcs
    obtain ⟨rfl, rfl, rfl⟩ := hcs
    simp only [if_true] at hz
    refine ⟨some a, len, cap, (List.range len).map fun i => match V i with | .int _ n => UInt8.ofNat n.toNat | _ => 0, rfl, ⟨by simp, fun i hi => ?_⟩⟩
    simp only [List.length_map, List.length_range] at hi
    refine ⟨a, rfl, fun w hw => ?_⟩
    obtain ⟨h1, h2⟩ := hcell i (by omega)
    obtain ⟨k, h3, _, h4⟩ := DataW.trod_int he h2
    have h5 : V i = .int .u8 k := (List.cons.inj h3).1
    obtain ⟨j, hj, rfl⟩ := u8_of h4
    rw [cell_of_sat hw h1, List.getElem_map, List.getElem_range, h5]
    simp
    omega
end Go.Proofs.YtejiaegiijokcaaGreatDoor

