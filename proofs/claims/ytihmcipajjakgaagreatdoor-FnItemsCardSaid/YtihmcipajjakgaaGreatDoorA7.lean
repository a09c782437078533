/- Part 7 of the proof of the law FnItems: for every input the law returns true, the inputs read as they did, and memory that was there is as it was; under the conditions of the given row alone. -/
import Derived.SliceStrings
import Derived.WideKeyArgs
import Derived.Below
import Derived.Test.YtihmcipajjakgaaGreatDoorA6
set_option linter.all false
set_option linter.unusedVariables false
namespace Go.Proofs.YtihmcipajjakgaaGreatDoor
open Go.Proofs Go.IntWalk Go.RowKit
variable {σ : Out} {w : World} {L L' : List Chunk} {R : Ending → World → Prop}
def itLines (loose : Bool) (c : UInt8) (k : Nat) : List (List UInt8) → List (List UInt8 × UInt8)
  | [] => []
  | [s] => [(itLine c k s, 0)]
  | s :: s2 :: ss => (itLine c k s, 10) :: (if loose then ([], 10) :: itLines loose c k (s2 :: ss) else itLines loose c k (s2 :: ss))
def restL (loose : Bool) (c : UInt8) (k : Nat) (suf : List (List UInt8)) : List (List UInt8 × UInt8) := if suf = [] then [] else if loose then ([], 10) :: itLines loose c k suf else itLines loose c k suf
theorem itLines_cons (loose : Bool) (c : UInt8) (k : Nat) (s : List UInt8) (suf : List (List UInt8)) : itLines loose c k (s :: suf) = (itLine c k s, if suf = [] then 0 else 10) :: restL loose c k suf := by
  cases suf with
  | nil => rfl
  | cons s2 ss => simp [itLines, restL]
def itSep (loose : Bool) : List UInt8 := if loose then [10, 10] else [10]
theorem itLine_nl {c : UInt8} {k : Nat} {s : List UInt8} (h : GoodL s) (hc : c = 45 ∨ c = 42 ∨ c = 43) : noNL (itLine c k s) ∧ 0 ∉ itLine c k s := by
  obtain ⟨⟨a1, a2⟩, a3, _⟩ := slash_nl h
  have hr : ∀ d : UInt8, d ≠ 32 → d ∉ List.replicate (k + 1) (32 : UInt8) := fun d hd hm => hd (List.mem_replicate.1 hm).2
  have key : ∀ d : UInt8, d ≠ 45 ∧ d ≠ 42 ∧ d ≠ 43 ∧ d ≠ 32 → d ∉ slashT s → d ∉ itLine c k s := by
    intro d ⟨d1, d2, d3, d4⟩ hs hm
    rcases List.mem_cons.1 hm with rfl | hm
    · rcases hc with h | h | h
      · exact d1 h
      · exact d2 h
      · exact d3 h
    · rcases List.mem_append.1 hm with hm | hm
      · exact hr d d4 hm
      · exact hs hm
  exact ⟨⟨key 10 (by decide) a1, key 13 (by decide) a2⟩, key 0 (by decide) a3⟩
theorem itLines_of {loose : Bool} {c : UInt8} {k : Nat} (hc : c = 45 ∨ c = 42 ∨ c = 43) : ∀ {ls : List (List UInt8)}, (∀ l ∈ ls, GoodL l) → LinesOf (joinL (itSep loose) (ls.map (itLine c k))) (itLines loose c k ls)
  | [], _ => .nil
  | [s], h => by
    have g := itLine_nl (k := k) (h s (by simp)) hc
    simpa [joinL, itLines] using LinesOf.last (l := itLine c k s) (by simp [itLine]) g.1
  | s :: s2 :: ss, h => by
    have g := itLine_nl (k := k) (h s (by simp)) hc
    have ih := itLines_of (loose := loose) (k := k) hc (ls := s2 :: ss) (fun x hx => h x (List.mem_cons_of_mem _ hx))
    cases loose with
    | true =>
      have e : joinL (itSep true) ((s :: s2 :: ss).map (itLine c k)) = itLine c k s ++ 10 :: ([] ++ 10 :: joinL (itSep true) ((s2 :: ss).map (itLine c k))) := by simp [joinL, itSep]
      rw [e]
      exact LinesOf.cons g.1 (LinesOf.cons (l := []) ⟨by simp, by simp⟩ ih)
    | false =>
      have e : joinL (itSep false) ((s :: s2 :: ss).map (itLine c k)) = itLine c k s ++ 10 :: joinL (itSep false) ((s2 :: ss).map (itLine c k)) := by simp [joinL, itSep]
      rw [e]
      exact LinesOf.cons g.1 ih
theorem itJoin_len {loose : Bool} {c : UInt8} {k : Nat} (hk : k ≤ 3) : ∀ {ls : List (List UInt8)}, (∀ l ∈ ls, GoodL l) → (joinL (itSep loose) (ls.map (itLine c k))).length ≤ ls.length * 1010
  | [], _ => by simp [joinL]
  | [s], h => by
    have := itLine_len (c := c) (h s (by simp)) hk
    simp [joinL]; omega
  | s :: s2 :: ss, h => by
    have := itLine_len (c := c) (h s (by simp)) hk
    have ih := itJoin_len (loose := loose) (c := c) hk (ls := s2 :: ss) (fun x hx => h x (List.mem_cons_of_mem _ hx))
    have e : joinL (itSep loose) ((s :: s2 :: ss).map (itLine c k)) = itLine c k s ++ (itSep loose ++ joinL (itSep loose) ((s2 :: ss).map (itLine c k))) := by simp [joinL]
    rw [e]
    have hs : (itSep loose).length ≤ 2 := by cases loose <;> decide
    simp only [List.length_append, List.length_cons] at ih ⊢
    omega
def ItI (loose : Bool) (c : UInt8) (k : Nat) (ls : List (List UInt8)) (rem : List (List UInt8 × UInt8)) (n : Nat) (fs : List Bk) (lf : Leaf) : Prop :=
  (rem = itLines loose c k ls ∧ n = 0 ∧ lf = .none ∧ ∃ root, fs = [root] ∧ root.isRoot ∧ root.D = []) ∨
  ∃ root f g lb it pre cur suf its, fs = [root, f, g] ∧ root.isRoot ∧ root.D = [] ∧ f.isList lb c.toNat 0 it ∧ ItemOf it g lb (k + 2) true ∧ pre ++ cur :: suf = ls ∧ f.D = its.map IT.db ∧ ItC (itStep loose) 1 pre its ∧ g.ob.s = 1 + itStep loose * pre.length ∧ g.ob.e = g.ob.s ∧
    ((lf = .para [slashT cur] ∧ g.D = [] ∧ n = g.ob.s ∧ rem = restL loose c k suf) ∨
      (loose = true ∧ suf ≠ [] ∧ lf = .none ∧ (∃ nb t s e, g.D = [paraDB nb t s e (slashT cur)] ∧ s < 1000000000 ∧ e < 1000000000) ∧ n = g.ob.s + 1 ∧ rem = itLines loose c k suf))
theorem slash_finN {s : List UInt8} (h : GoodL s) : Leaf.finN (.para [slashT s]) := (slash_fin h).toN
theorem joinL_one (s : List UInt8) : joinL [10] [s] = s := by simp [joinL]
theorem html_items {loose : Bool} {c : UInt8} {k : Nat} {ls : List (List UInt8)} (hc : c = 45 ∨ c = 42 ∨ c = 43) (hk : k ≤ 3) (h2 : 2 ≤ ls.length) (hlen : ls.length ≤ 50) (hg : ∀ l ∈ ls, GoodL l) :
    ParsesTo optOff (joinL (itSep loose) (ls.map (itLine c k))) (ulO ++ ls.flatMap (itemOut loose) ++ ulC) := by
  have hL := itLines_of (loose := loose) (k := k) hc hg
  have hjl := itJoin_len (loose := loose) (c := c) hk hg
  have h0 : 0 ∉ joinL (itSep loose) (ls.map (itLine c k)) := by
    have : ∀ xs : List (List UInt8), (∀ x ∈ xs, (0 : UInt8) ∉ x) → 0 ∉ joinL (itSep loose) xs := by
      intro xs
      cases xs with
      | nil => simp [joinL]
      | cons x xs =>
        intro hx hm
        simp only [joinL, List.mem_append, List.mem_flatMap] at hm
        rcases hm with hm | ⟨y, hy, hm | hm⟩
        · exact hx x (by simp) hm
        · revert hm; cases loose <;> decide
        · exact hx y (List.mem_cons_of_mem _ hy) hm
    refine this _ fun x hx => ?_
    obtain ⟨l, hl, rfl⟩ := List.mem_map.1 hx
    exact (itLine_nl (hg l hl) hc).2
  have hstep : itStep loose = 1 ∨ itStep loose = 2 := by cases loose <;> simp [itStep]
  have more : ∀ {σ : Out} {R : Ending → World → Prop} {L : List Chunk} {b pb : Nat} {p : PS} {w : World} {root f g : Bk} {lb : Nat} {it : Option Addr} {pre : List (List UInt8)} {cur s2 : List UInt8} {suf : List (List UInt8)} {its : List IT} {lf : Leaf} {nl : UInt8}, optOff.at pb ∈ L → p.pz = some ⟨pb, 0, none⟩ →
      root.isRoot → root.D = [] → f.isList lb c.toNat 0 it → ItemOf it g lb (k + 2) true → pre ++ cur :: s2 :: suf = ls → f.D = its.map IT.db → ItC (itStep loose) 1 pre its → g.ob.s = 1 + itStep loose * pre.length → g.ob.e = g.ob.s → p.lineno = g.ob.s + itStep loose →
      ((lf = .para [slashT cur] ∧ g.D = []) ∨ (lf = .none ∧ ∃ nb t s e, g.D = [paraDB nb t s e (slashT cur)] ∧ s < 1000000000 ∧ e < 1000000000)) → DocC σ b L [root, f, g] lf p w →
      (∀ w (p' : PS) fs' lf', p'.base = p.base → p'.lineno = p.lineno → ItI loose c k ls (restL loose c k suf) p.lineno fs' lf' → DocC σ b L fs' lf' p' w → R (.returned (.tuple #[])) w) → callE P i_parseState_addLine #[.pointer (some ⟨b, 0, none⟩), (lnOf (itLine c k s2) nl).val] R w := by
    intro σ R L b pb p w root f g lb it pre cur s2 suf its lf nl hop hpz hr hrD hf hgI he hfD hIt hgs hge hln hlf h hR
    have hpl := congrArg List.length he
    simp only [List.length_append, List.length_cons] at hpl
    have hmem : ∀ x, x = cur ∨ x = s2 → GoodL x := by
      rintro x (rfl | rfl) <;> exact hg _ (by rw [← he]; simp)
    obtain ⟨l2, hB, hrest⟩ := itLine_bul (nl := nl) (hmem s2 (.inr rfl)) hc hk
    have hil := hIt.len
    have hitx := hIt.txs
    have hgl : g.D.length ≤ 1 := by
      rcases hlf with ⟨_, hh⟩ | ⟨_, nb, t, s, e, hh, _⟩ <;> rw [hh] <;> simp
    have hgt : (txsC g.D).length ≤ 1 := by
      rcases hlf with ⟨_, hh⟩ | ⟨_, nb, t, s, e, hh, _⟩ <;> rw [hh] <;> simp [txsC, paraDB]
    have hstl : itStep loose * pre.length ≤ 100 := by rcases hstep with h | h <;> rw [h] <;> omega
    refine addLine_item (op := optOff) (pb := pb) (n := k + 2) (l2 := l2) h hr hf hgI (by omega) hB ?_ hpz hop (by omega) (by rw [hfD]; simp; omega) (by omega) ?_ fun w p' f' g' it' b1 b2 hf' hcl hg' hgD' hgs' hge' h => ?_
    · rcases hlf with ⟨rfl, _⟩ | ⟨rfl, _⟩
      · exact slash_finN (hmem cur (.inl rfl))
      · trivial
    · have : txF [root, f, g] = txsC root.D ++ (txsC f.D ++ (txsC g.D ++ [])) := rfl
      rw [this, hrD, hfD]
      simp only [List.length_append, show txsC ([] : List DB) = [] from rfl, List.length_nil]
      omega
    · obtain ⟨i, i1, i2, i3, i4, i5, i6, i7⟩ := hcl
      rw [hrest] at h
      have hItF : ItF (1 + itStep loose * pre.length) cur i := by
        refine ⟨i2, i3.trans hgs, i4.trans (hge.trans hgs), ?_⟩
        rcases hlf with ⟨rfl, hh⟩ | ⟨rfl, nb, t, s, e, hh, hs, he⟩
        · obtain ⟨nb, t, s, e, hD, hs, he⟩ := i7
          rw [hh, joinL_one] at hD
          exact ⟨nb, t, s, e, hD, hs, by rw [he]; simp; omega⟩
        · have i7 : i.D = g.D := i7
          exact ⟨nb, t, s, e, by rw [i7, hh], hs, he⟩
      refine hR w p' [root, f', g'] (.para [slashT s2]) b1 b2 (.inr ⟨root, f', g', lb, it', pre ++ [cur], s2, suf, its ++ [i], rfl, hr, hrD, hf', hg', by rw [← he]; simp, ?_, hIt.snoc hItF, ?_, ?_, .inl ⟨rfl, hgD', ?_, rfl⟩⟩) h
      · rw [i1, hfD]; simp
      · rw [hgs', hln, hgs, List.length_append, List.length_singleton, Nat.mul_add]; omega
      · rw [hge', hgs']
      · rw [hgs']
  have key : ParsesToL [] optOff (joinL (itSep loose) (ls.map (itLine c k))) (ulO ++ ls.flatMap (itemOut loose) ++ ulC) := by
    refine parses_docC (F := itemF) hL h0 (by omega) (ItI loose c k ls) (fun root hr hD => .inl ⟨rfl, rfl, rfl, root, rfl, hr, hD⟩) ?_ ?_
    · rintro l nl rem n fs lf (⟨hrem, rfl, rfl, root, rfl, hr, hD⟩ | ⟨root, f, g, lb, it, pre, cur, suf, its, rfl, hr, hrD, hf, hgI, he, hfD, hIt, hgs, hge, hst⟩) σ R L b pb p w hL0 hop hpz hln hn9 h hR
      · cases hls : ls with
        | nil => rw [hls] at h2; simp at h2
        | cons s suf =>
          rw [hls, itLines_cons] at hrem
          simp only [List.cons.injEq, Prod.mk.injEq] at hrem
          obtain ⟨⟨rfl, rfl⟩, rfl⟩ := hrem
          obtain ⟨l2, hB, hrest⟩ := itLine_bul (nl := if suf = [] then 0 else 10) (hg s (by rw [hls]; simp)) hc hk
          refine addLine_item0 (op := optOff) h hr hB hpz hop (by omega) fun w p' f g lb it b1 b2 hf hfD hfs hgI hgD hgs hge h => ?_
          rw [hrest] at h
          refine hR w p' [root, f, g] (.para [slashT s]) b1 b2 (.inr ⟨root, f, g, lb, it, [], s, suf, [], rfl, hr, hD, hf, hgI, by rw [hls]; rfl, by rw [hfD]; rfl, trivial, by rw [hgs, hln]; simp, by rw [hge, hgs], .inl ⟨rfl, hgD, by rw [hgs, hln], rfl⟩⟩) h
      · have hpl := congrArg List.length he
        simp only [List.length_append, List.length_cons] at hpl
        rcases hst with ⟨rfl, hgD, hn, hrem⟩ | ⟨hlo, hsuf, rfl, hgD, hn, hrem⟩
        · cases suf with
          | nil => simp [restL] at hrem
          | cons s2 suf =>
            have hcl : loose = true ∨ loose = false := by cases loose <;> simp
            rcases hcl with hlo | hlo
            · -- a blank line
              rw [restL, if_neg (by simp), hlo, if_pos rfl] at hrem
              simp only [List.cons.injEq, Prod.mk.injEq] at hrem
              obtain ⟨⟨rfl, rfl⟩, rfl⟩ := hrem
              have hitx := hIt.txs
              refine addLine_blankL (pb := pb) h hf hgI (by omega) (slash_finN (hg cur (by rw [← he]; simp))) (by rw [hgD]; decide) ?_ fun w p' g' nb t s e b1 b2 lk lD ls1 le h => ?_
              · have : txF [root, f, g] = txsC root.D ++ (txsC f.D ++ (txsC g.D ++ [])) := rfl
                rw [this, hrD, hfD, hgD]
                simp only [List.length_append, show txsC ([] : List DB) = [] from rfl, List.length_nil]
                omega
              · obtain ⟨ib, hit, q1, q2⟩ := hgI
                rw [hgD, joinL_one] at lD
                refine hR w p' [root, f, g'] .none b1 b2 (.inr ⟨root, f, g', lb, it, pre, cur, s2 :: suf, its, rfl, hr, hrD, hf, ⟨ib, hit, lk.1.trans q1, lk.2.2.2.trans q2⟩, he, hfD, hIt, by rw [lk.2.1]; exact hgs, by rw [lk.2.2.1, lk.2.1]; exact hge, .inr ⟨hlo, by simp, rfl, ⟨nb, t, s, e, lD, ls1, by rw [le]; simp; omega⟩, by rw [lk.2.1, hn], by rw [hlo]⟩⟩) h
            · have hs1 : itStep loose = 1 := by rw [hlo]; rfl
              have hrl : restL loose c k (s2 :: suf) = itLines loose c k (s2 :: suf) := by rw [restL, if_neg (by simp), hlo]; rfl
              rw [hrl, itLines_cons] at hrem
              simp only [List.cons.injEq, Prod.mk.injEq] at hrem
              obtain ⟨⟨rfl, rfl⟩, rfl⟩ := hrem
              rw [← hln] at hR
              exact more hop hpz hr hrD hf hgI he hfD hIt hgs hge (by rw [hln, hn, hs1]) (.inl ⟨rfl, hgD⟩) h hR
        · cases suf with
          | nil => exact absurd rfl hsuf
          | cons s2 suf =>
            have hs1 : itStep loose = 2 := by rw [hlo]; rfl
            rw [itLines_cons] at hrem
            simp only [List.cons.injEq, Prod.mk.injEq] at hrem
            obtain ⟨⟨rfl, rfl⟩, rfl⟩ := hrem
            rw [← hln] at hR
            exact more hop hpz hr hrD hf hgI he hfD hIt hgs hge (by rw [hln, hn, hs1]) (.inr ⟨rfl, hgD⟩) h hR
    · rintro n fs lf (⟨hrem, _⟩ | ⟨root, f, g, lb, it, pre, cur, suf, its, rfl, hr, hrD, hf, hgI, he, hfD, hIt, hgs, hge, hst⟩)
      · cases hls : ls with
        | nil => rw [hls] at h2; simp at h2
        | cons s suf => rw [hls, itLines_cons] at hrem; simp at hrem
      · have hpl := congrArg List.length he
        simp only [List.length_append, List.length_cons] at hpl
        rcases hst with ⟨rfl, hgD, hn, hrem⟩ | ⟨hlo, hsuf, rfl, hgD, hn, hrem⟩
        · have hsuf : suf = [] := by
            cases suf with
            | nil => rfl
            | cons s2 suf =>
              rw [restL, if_neg (by simp)] at hrem
              split at hrem
              · simp at hrem
              · rw [itLines_cons] at hrem; simp at hrem
          subst hsuf
          have hil := hIt.len
          have hitx := hIt.txs
          have hgc : GoodL cur := hg cur (by rw [← he]; simp)
          intro σ R L b pb p w X hX hop hpz h hN
          refine closeItem1 (k := 0) (gs := [root]) (n := k + 2) (hv := true) hX (by omega) h hf hgI.item (slash_finN hgc) (by rw [hfD]; simp; omega) (by rw [hgD]; decide) ?_ fun w p' f' b1 b2 b3 hf' hcl h => ?_
          · have : txF ([root] ++ [f, g]) = txsC root.D ++ (txsC f.D ++ (txsC g.D ++ [])) := rfl
            rw [this, hrD, hfD, hgD]
            simp only [List.length_append, show txsC ([] : List DB) = [] from rfl, List.length_nil]
            omega
          obtain ⟨i, i1, i2, i3, i4, i5, i6, i7⟩ := hcl
          obtain ⟨nb, tt, s, e, hiD, hs9, hse⟩ := i7
          rw [hgD, joinL_one] at hiD
          have hstl : itStep loose * pre.length ≤ 100 := by rcases hstep with h | h <;> rw [h] <;> omega
          have hItF : ItF (1 + itStep loose * pre.length) cur i := ⟨i2, i3.trans hgs, i4.trans (hge.trans hgs), nb, tt, s, e, hiD, hs9, by rw [hse]; simp; omega⟩
          have hAll : ItC (itStep loose) 1 ls (its ++ [i]) := by rw [← he]; exact hIt.snoc hItF
          have hgap := hAll.gap h2
          have hfD' : f'.D = (its ++ [i]).map IT.db := by rw [i1, hfD]; simp
          have h : DocC σ b L ([] ++ [root, f']) .none p' w := h
          have hok' : ∀ q ∈ [root, f'], Bk.ok q := h.choose_spec.choose_spec.choose_spec.choose_spec.2.2.1
          obtain ⟨hfo1, hfo2, _⟩ := hok' f' (by simp)
          have hfn : f'.ob.n < 1000000 := by have := hfo1.1; rw [hfD'] at this; simp at this; omega
          refine trim_step (k := 0) hX h (by simp) ?_
          refine closeListC (op := optOff) (pb := pb) (pos := posP) h hf' hfD' (by simp) hAll.facts (by rw [base_ln b1]; exact hpz) hop rfl (by rw [hrD]; decide) fun w p2 root' nb2 e2 items' x c1 c2 c3 c4 lk htg hie hrD' h => ⟨_, rfl, ?_⟩
          rw [hgap] at htg hrD'
          rw [hrD] at hrD'
          obtain ⟨rb, r1, r2⟩ := hr
          refine hN w p2 root' (c1.trans b1) ⟨rb, lk.1.trans r1, lk.2.2.2.trans r2⟩ ?_ h
          rw [hrD']
          have hvs : items'.map IT.v = (its ++ [i]).map IT.v := by
            rcases htg with ⟨_, rfl⟩ | ⟨_, hr⟩
            · rfl
            · exact hr.vs
          have hSl : Sl 1 ty_Block f'.ob.q f'.ob.n f'.ob.c (items'.map IT.v) f'.IM := by
            rw [hvs]
            have : f'.D.map DB.v = (its ++ [i]).map IT.v := by rw [hfD']; simp [Function.comp_def, IT.db]
            rw [← this]; exact hfo1
          have htxs : txsC (items'.map IT.db) = txsC ((its ++ [i]).map IT.db) := by
            rcases htg with ⟨_, rfl⟩ | ⟨_, hr⟩
            · rfl
            · exact (hr.facts fun j hj d hd => ((hAll.facts j hj).2 d hd).1).1
          have hbul : (c.toNat : Int) ≠ 46 ∧ (c.toNat : Int) ≠ 41 := by rcases hc with rfl | rfl | rfl <;> decide
          refine ⟨_, .cons (list_shows hbul hSl (by omega) (items_show hAll htg)) .nil, ?_, fun x hx => ?_⟩
          · show compL (ls.map fun s => ab (itemOut loose s)) ([] ++ ulO) ++ ulC = _
            rw [compL_items]; simp
          · have hx : x ∈ txsC (items'.map IT.db) := by simpa [txsC, lisDB] using hx
            rw [htxs] at hx
            obtain ⟨s3, hs3, hraw⟩ := hAll.txs.2 x hx
            rw [hraw, itemF_slash]
            exact slash_inline (hg s3 hs3)
        · cases suf with
          | nil => exact absurd rfl hsuf
          | cons s2 suf => rw [itLines_cons] at hrem; simp at hrem
  exact fun σ R L w pb => key σ R L w pb (by simp)
end Go.Proofs.YtihmcipajjakgaaGreatDoor


set_option linter.unusedVariables false
set_option maxRecDepth 20000
namespace Go.Proofs.YtihmcipajjakgaaGreatDoor
open Go.Proofs
namespace g_spec_EscapeHTML
noncomputable def body : Code := bodyOf Tryz.f14
def bl1 (R : EP) (Xa : BA → BA → Int → WP) (x0 : BA) (x3 : BA) (x4 : Int) (w : World) : Prop :=
 br (decide (x4 < (x0.size : Int)))
 (0 ≤ x4 ∧ x4 < (x0.size : Int) ∧
 br ((bt x0 x4) == 38)
 (((x3.size + (ByteArray.mk #[38, 97, 109, 112, 59]).size : Nat) : Int) ≤ IntKind.i64.max ∧
 Xa x0 (x3 ++ (ByteArray.mk #[38, 97, 109, 112, 59])) (IntKind.i64.wrap (x4 + 1)) w)
 (br ((bt x0 x4) == 60)
 (((x3.size + (ByteArray.mk #[38, 108, 116, 59]).size : Nat) : Int) ≤ IntKind.i64.max ∧
 Xa x0 (x3 ++ (ByteArray.mk #[38, 108, 116, 59])) (IntKind.i64.wrap (x4 + 1)) w)
 (br ((bt x0 x4) == 62)
 (((x3.size + (ByteArray.mk #[38, 103, 116, 59]).size : Nat) : Int) ≤ IntKind.i64.max ∧
 Xa x0 (x3 ++ (ByteArray.mk #[38, 103, 116, 59])) (IntKind.i64.wrap (x4 + 1)) w)
 (br ((bt x0 x4) == 34)
 (((x3.size + (ByteArray.mk #[38, 113, 117, 111, 116, 59]).size : Nat) : Int) ≤ IntKind.i64.max ∧
 Xa x0 (x3 ++ (ByteArray.mk #[38, 113, 117, 111, 116, 59])) (IntKind.i64.wrap (x4 + 1)) w)
 (0 ≤ x4 ∧ x4 ≤ (IntKind.i64.wrap (x4 + 1)) ∧ (IntKind.i64.wrap (x4 + 1)) ≤ (x0.size : Int) ∧
 ((x3.size + (x0.extract (Int.toNat x4) (Int.toNat (IntKind.i64.wrap (x4 + 1)))).size : Nat) : Int) ≤ IntKind.i64.max ∧
 Xa x0 (x3 ++ (x0.extract (Int.toNat x4) (Int.toNat (IntKind.i64.wrap (x4 + 1))))) (IntKind.i64.wrap (x4 + 1)) w)))))
 (R (.returned (.string x3)) w)
def l1 (R : EP) (x0 : BA) (x3 : BA) (x4 : Int) (w : World) : Prop :=
  ∀ X : BA → BA → Int → WP, (∀ x0 x3 x4 w, bl1 R X x0 x3 x4 w → X x0 x3 x4 w) → X x0 x3 x4 w

noncomputable def al1 (R : EP) (Xa : BA → BA → Int → WP) : AC :=
  (.leaf (sel [1, 1, 0, 1, 0, 0] body))
end g_spec_EscapeHTML
def g_spec_EscapeHTML (R : EP) (x0 : BA) (w : World) : Prop :=
 g_spec_EscapeHTML.l1 R x0 (ByteArray.mk #[]) 0 w

noncomputable def g_spec_EscapeHTML.ac (R : EP) : AC :=
  (.seq (.leaf (sel [0] g_spec_EscapeHTML.body)) (.seq (.leaf (sel [1, 0] g_spec_EscapeHTML.body)) (.seq (.seq (.leaf (sel [1, 1, 0, 0] g_spec_EscapeHTML.body)) (.block 0 (.loop (leaf [(0, .s .str), (3, .s .str), (4, .s (.int .i64))] (g_spec_EscapeHTML.l1 R)) (sel [1, 1, 0, 1, 0, 0] g_spec_EscapeHTML.body)))) (.leaf (sel [1, 1, 1] g_spec_EscapeHTML.body)))))
theorem g_spec_EscapeHTML.good (R : EP) : Good P 38 (g_spec_EscapeHTML.ac R) (QF P [.tmp 2] R) :=
  ⟨trivial, ⟨trivial, ⟨⟨trivial, (loopG (g_spec_EscapeHTML.al1 R) (g_spec_EscapeHTML.bl1 R) (fun _ => by kernel_rfl) (fun Xa => trivial) (fun Xa => by intro x0 x3 x4 ρ w; kernel_rfl) (fun X h _ _ _ _ g => g X h))⟩, trivial⟩⟩⟩
theorem g_spec_EscapeHTML.eq (R : EP) (x0 : BA) (w : World) : g_spec_EscapeHTML R x0 w = vcA P 38 (g_spec_EscapeHTML.ac R) (QF P [.tmp 2] R) (fr0 [.string x0]) w := by kernel_rfl
theorem g_spec_EscapeHTML.sound {R : EP} {x0 : ByteArray} {w : World} (h : g_spec_EscapeHTML R x0 w) : callE P i_spec_EscapeHTML #[.string x0] R w :=
  callE_fin (c := g_spec_EscapeHTML.body) Tryz.func14 Tryz.call14 (by kernel_rfl) (by kernel_rfl) (by kernel_rfl) (by kernel_rfl) (by kernel_rfl) (g_spec_EscapeHTML.good R) (g_spec_EscapeHTML.eq R x0 w) h
end Go.Proofs.YtihmcipajjakgaaGreatDoor

set_option linter.unusedVariables false
namespace Go.Proofs.YtihmcipajjakgaaGreatDoor
open Go.Proofs Go.IntWalk Go.RowKit
variable {σ : Out} {w : World} {L L' : List Chunk} {R : Ending → World → Prop}
theorem escB_cases (c : UInt8) : (c = 38 ∧ escB htmlPs c = [38, 97, 109, 112, 59]) ∨ (c = 60 ∧ escB htmlPs c = [38, 108, 116, 59]) ∨ (c = 62 ∧ escB htmlPs c = [38, 103, 116, 59]) ∨ (c = 34 ∧ escB htmlPs c = [38, 113, 117, 111, 116, 59]) ∨ (c ≠ 38 ∧ c ≠ 60 ∧ c ≠ 62 ∧ c ≠ 34 ∧ escB htmlPs c = [c]) := by
  by_cases h1 : c = 38
  · subst h1; exact .inl ⟨rfl, by decide⟩
  by_cases h2 : c = 60
  · subst h2; exact .inr (.inl ⟨rfl, by decide⟩)
  by_cases h3 : c = 62
  · subst h3; exact .inr (.inr (.inl ⟨rfl, by decide⟩))
  by_cases h4 : c = 34
  · subst h4; exact .inr (.inr (.inr (.inl ⟨rfl, by decide⟩)))
  refine .inr (.inr (.inr (.inr ⟨h1, h2, h3, h4, ?_⟩)))
  have ne : ∀ d : UInt8, c ≠ d → (d == c) = false := fun d hd => by simpa using fun h => hd h.symm
  unfold escB htmlPs
  simp [List.find?, ne 34 h4, ne 38 h1, ne 60 h2, ne 62 h3]
theorem escHTML_ok {s : List UInt8} (hs : s.length < 1000000000) (hR : R (.returned (.string (bs (escS htmlPs s)))) w) : callE P i_spec_EscapeHTML #[.string (bs s)] R w := by
  refine g_spec_EscapeHTML.sound ?_
  intro X hX
  have hmax : IntKind.i64.max = 9223372036854775807 := rfl
  have key : ∀ k i, i + k = s.length → X (bs s) (bs (escS htmlPs (s.take i))) (i : Int) w := by
    intro k
    induction k with
    | zero =>
      intro i hi
      refine hX _ _ _ _ (br_false (by simp; omega) ?_)
      rw [List.take_of_length_le (by omega)]; exact hR
    | succ k ih =>
      intro i hi
      have hil : i < s.length := by omega
      have hlen := escS_length (ps := htmlPs) (by decide) (s.take i)
      rw [List.length_take] at hlen
      have hst : escS htmlPs (s.take (i + 1)) = escS htmlPs (s.take i) ++ escB htmlPs s[i] := by
        rw [List.take_succ_eq_append_getElem hil, escS_append]; simp [escS]
      have next := ih (i + 1) (by omega)
      rw [hst] at next
      refine hX _ _ _ _ (br_true (by simp; omega) ⟨by omega, by simp; omega, ?_⟩)
      rw [bt_beq hil 38 38 rfl, bt_beq hil 60 60 rfl, bt_beq hil 62 62 rfl, bt_beq hil 34 34 rfl, i64_inc (by omega)]
      rw [show ByteArray.mk #[38, 97, 109, 112, 59] = bs [38, 97, 109, 112, 59] from rfl, show ByteArray.mk #[38, 108, 116, 59] = bs [38, 108, 116, 59] from rfl, show ByteArray.mk #[38, 103, 116, 59] = bs [38, 103, 116, 59] from rfl, show ByteArray.mk #[38, 113, 117, 111, 116, 59] = bs [38, 113, 117, 111, 116, 59] from rfl]
      rcases escB_cases s[i] with ⟨h, he⟩ | ⟨h, he⟩ | ⟨h, he⟩ | ⟨h, he⟩ | ⟨h1, h2, h3, h4, he⟩
      · rw [he] at next
        refine br_true (by simpa using h) ⟨by rw [hmax]; simp; omega, ?_⟩
        rw [bs_append]; exact next
      · rw [he] at next
        refine br_false (by rw [h]; decide) (br_true (by simpa using h) ⟨by rw [hmax]; simp; omega, ?_⟩)
        rw [bs_append]; exact next
      · rw [he] at next
        refine br_false (by rw [h]; decide) (br_false (by rw [h]; decide) (br_true (by simpa using h) ⟨by rw [hmax]; simp; omega, ?_⟩))
        rw [bs_append]; exact next
      · rw [he] at next
        refine br_false (by rw [h]; decide) (br_false (by rw [h]; decide) (br_false (by rw [h]; decide) (br_true (by simpa using h) ⟨by rw [hmax]; simp; omega, ?_⟩)))
        rw [bs_append]; exact next
      · rw [he] at next
        refine br_false (by simpa using h1) (br_false (by simpa using h2) (br_false (by simpa using h3) (br_false (by simpa using h4) ?_)))
        have e1 : (s.take (i + 1)).drop i = [s[i]] := by
          rw [List.take_succ_eq_append_getElem hil, List.drop_append_of_le_length (by rw [List.length_take]; omega), List.drop_eq_nil_of_le (by rw [List.length_take]; omega)]; rfl
        rw [Int.toNat_natCast, Int.toNat_natCast, bs_extract, e1, bs_append]
        refine ⟨by omega, by omega, by simp; omega, by rw [hmax]; simp; omega, next⟩
  exact key s.length 0 (by omega)
end Go.Proofs.YtihmcipajjakgaaGreatDoor


set_option linter.unusedVariables false
namespace Go.Proofs.YtihmcipajjakgaaGreatDoor
open Go.Proofs Go.IntWalk Go.RowKit
variable {σ : Out} {w : World} {L L' : List Chunk} {R : Ending → World → Prop}
def bulC (a : Nat) : UInt8 := if a = 0 then 45 else if a = 1 then 43 else 42
theorem itemOut_len (lo : Bool) {s : List UInt8} (h : GoodL s) : (itemOut lo s).length ≤ 1700 := by
  have h1 := escS_length (ps := htmlPs) (by decide) s
  have h2 := h.len
  cases lo <;> simp [itemOut, liO, liC, pOpen, pClose] <;> omega
theorem items_len (lo : Bool) : ∀ {ls : List (List UInt8)}, (∀ l ∈ ls, GoodL l) → (ls.flatMap (itemOut lo)).length ≤ ls.length * 1700
  | [], _ => by simp
  | s :: ls, h => by
    have h1 := itemOut_len lo (h s (by simp))
    have h2 := items_len lo (ls := ls) fun x hx => h x (List.mem_cons_of_mem _ hx)
    simp only [List.flatMap_cons, List.length_append, List.length_cons]; omega
theorem fnItems_k2 {q : Option Addr} {n c : Nat} {ls : List (List UInt8)} {lo : Bool} {cc : UInt8} {kk : Nat} (hc : cc = 45 ∨ cc = 42 ∨ cc = 43) (hkk : kk ≤ 3) (hA : SArg σ L q n ls) (hfit : ∀ l ∈ ls, l.length ≤ 2147483647) (hsz : 2 ≤ n ∧ n ≤ 50) (h : Sat σ w L) (hR : ∀ w, Sat σ w L → R (.returned (.bool true)) w) :
    g_laws_FnItems.k2 R q n c (bs (cc :: List.replicate (kk + 1) 32)) (bs (itSep lo)) (bs (if lo then 10 :: pOpen else [])) (bs (if lo then pClose else [])) w := by
  have hnl := hA.1
  have hmax : IntKind.i64.max = 9223372036854775807 := rfl
  have b2 : ∀ s t : List UInt8, s.length + t.length < 1000000000 → (((bs s).size + (bs t).size : Nat) : Int) ≤ IntKind.i64.max := by intro s t hs; rw [hmax, bs_size, bs_size]; omega
  have hul : ulO.length = 5 := rfl
  have huc : ulC.length = 6 := rfl
  intro X hX
  have key : ∀ k i w tq tc TM, i + k = n → (∀ j (hj : j < ls.length), j < i → GoodL ls[j]) → Sl 1 ty_string tq i tc (sv ((ls.take i).map (itLine cc kk))) TM → Sat σ w (TM ++ L) →
      X (bs (cc :: List.replicate (kk + 1) 32)) (bs (itSep lo)) (bs (if lo then 10 :: pOpen else [])) (bs (if lo then pClose else [])) tq i tc (bs (ulO ++ (ls.take i).flatMap (itemOut lo))) q n c (n : Nat) (i : Int) w := by
    intro k
    induction k with
    | zero =>
      intro i w tq tc TM hi hg hS h
      obtain rfl : i = n := by omega
      refine hX _ _ _ _ _ _ _ _ _ _ _ _ _ _ (br_false (by simp) ?_)
      rw [List.take_of_length_le (by omega)] at hS ⊢
      have hgl : ∀ l ∈ ls, GoodL l := by
        intro l hl
        obtain ⟨j, hj, rfl⟩ := List.mem_iff_getElem.1 hl
        exact hg j hj (by omega)
      have hil := items_len lo hgl
      have hjl := itJoin_len (loose := lo) (c := cc) hkk hgl
      refine plainOpt_ok h fun w h => ⟨_, _, _, _, _, _, _, _, _, _, rfl, ?_⟩
      have hSA : SArg σ (TM ++ L) tq i (ls.map (itLine cc kk)) := SArg.ofSl hS (fun c hc => List.mem_append_left _ hc)
      refine joined_ok hSA h (by omega) (by omega) (by cases lo <;> decide) fun w h => ⟨_, rfl, ?_⟩
      show callE P i_impl_HTML #[optV optOff, .string (bs (joinL (itSep lo) (ls.map (itLine cc kk))))] _ w
      refine html_ok (html_items hc hkk (by omega) (by omega) hgl) (by simp only [List.length_append]; omega) h fun w h => ⟨_, rfl, ?_⟩
      rw [show ByteArray.mk #[60, 47, 117, 108, 62, 10] = bs ulC from rfl, bs_append]
      refine ⟨b2 _ _ (by simp only [List.length_append]; omega), ?_⟩
      rw [beq_self_eq_true]
      exact hR w h.right
    | succ k ih =>
      intro i w tq tc TM hi hg hS h
      have hil : i < ls.length := by omega
      obtain ⟨a, rfl, ha⟩ := hA.2 i hil
      have hls := hfit ls[i] (List.getElem_mem hil)
      refine hX _ _ _ _ _ _ _ _ _ _ _ _ _ _ (br_true (by simp; omega) ⟨by omega, by omega, nilP_some ?_⟩)
      rw [Int.toNat_natCast, Nat.mul_one]
      refine ⟨_, ha w h.right, ?_⟩
      refine full_ok (by omega) ⟨_, rfl, br_split (fun _ => hR w h.right) (fun hf => ?_)⟩
      refine ascii_ok (by omega) ⟨_, rfl, br_split (fun _ => hR w h.right) (fun has => ?_)⟩
      simp only [Bool.or_eq_false_iff, Bool.not_eq_false', decide_eq_false_iff_not, bs_size] at hf has
      have hgi : GoodL ls[i] := goodL_of hf has.1 (by have := has.2; omega)
      have hl2 := hgi.len
      have hsl := slashT_len ls[i]
      have hgt : ∀ l ∈ ls.take i, GoodL l := by
        intro l hl
        obtain ⟨j, hj, rfl⟩ := List.mem_iff_getElem.1 hl
        rw [List.length_take] at hj
        rw [List.getElem_take]
        exact hg j (by omega) (by omega)
      have hol := items_len lo hgt
      rw [List.length_take, Nat.min_eq_left (by omega)] at hol
      have hio := itemOut_len lo hgi
      have hst : (ls.take (i + 1)).flatMap (itemOut lo) = (ls.take i).flatMap (itemOut lo) ++ itemOut lo ls[i] := by
        rw [List.take_succ_eq_append_getElem hil, List.flatMap_append]; simp
      unfold g_laws_FnItems.k3
      refine slashed_ok (by omega) h fun w h => ⟨_, rfl, ?_⟩
      have eline : cc :: List.replicate (kk + 1) 32 ++ slashT ls[i] = itLine cc kk ls[i] := rfl
      refine ⟨b2 _ _ (by simp; omega), ?_⟩
      rw [bs_append, eline]
      refine Sat.app1 rowStr hS h (v := .string (bs (itLine cc kk ls[i]))) rfl (by simp [Value.cells, Value.oneCell']) (fillS _) (by omega) (by omega) (by decide) fun tq' tc' w TM' hS' h => ?_
      have hoP : (if lo then 10 :: pOpen else [] : List UInt8).length ≤ 4 := by cases lo <;> decide
      have hcP : (if lo then pClose else [] : List UInt8).length ≤ 5 := by cases lo <;> decide
      have he := escS_length (ps := htmlPs) (by decide) ls[i]
      have hit : liO ++ (if lo then 10 :: pOpen else []) ++ escS htmlPs ls[i] ++ (if lo then pClose else []) ++ liC = itemOut lo ls[i] := rfl
      have l1 : liO.length = 4 := rfl
      have l2 : liC.length = 6 := rfl
      rw [show ByteArray.mk #[60, 108, 105, 62] = bs liO from rfl, show ByteArray.mk #[60, 47, 108, 105, 62, 10] = bs liC from rfl]
      generalize (if lo then 10 :: pOpen else [] : List UInt8) = oP at hoP hit ih ⊢
      generalize (if lo then pClose else [] : List UInt8) = cP at hcP hit ih ⊢
      simp only [bs_append]
      refine ⟨b2 _ _ (by omega), ?_⟩
      refine escHTML_ok (by omega) ⟨_, rfl, ?_⟩
      simp only [bs_append]
      rw [hit]
      refine ⟨b2 _ _ (by simp; omega), b2 _ _ (by simp; omega), b2 _ _ (by simp; omega), b2 _ _ (by simp only [List.length_append]; omega), ?_⟩
      rw [i64_inc (by omega)]
      have := ih (i + 1) w tq' tc' TM' (by omega) (fun j hj hji => ?_) ?_ h
      · rw [hst, ← List.append_assoc] at this; exact this
      · rcases Nat.lt_or_ge j i with h1 | h1
        · exact hg j hj h1
        · obtain rfl : j = i := by omega
          exact hgi
      · have e : sv ((ls.take (i + 1)).map (itLine cc kk)) = sv ((ls.take i).map (itLine cc kk)) ++ [.string (bs (itLine cc kk ls[i]))] := by
          rw [List.take_succ_eq_append_getElem hil]; unfold sv; rw [List.map_append, List.map_append]; rfl
        rw [e]; exact hS'
  have := key n 0 w none 0 [] (by omega) (fun j hj h => by omega) (Sl.nil 1 ty_string) h
  have e : ulO ++ (ls.take 0).flatMap (itemOut lo) = ulO := by simp
  rw [e] at this
  exact this
theorem fnItems_ok {m : Nat} {lo : Bool} {q : Option Addr} {n c : Nat} {ls : List (List UInt8)} (hm : m < 256) (hA : SArg σ L q n ls) (h : Sat σ w L) (hR : ∀ w, Sat σ w L → R (.returned (.bool true)) w) : callE P i_laws_FnItems #[.int .u8 (m : Int), .bool lo, .slice q n c] R w := by
  have hnl := hA.1
  refine g_laws_FnItems.sound ?_
  refine fits2_ok hA h (fun hfit => ⟨_, rfl, br_false rfl ?_⟩) ⟨_, rfl, br_true rfl (hR w h)⟩
  refine br_split (fun _ => hR w h) (fun hsz => ?_)
  have hsz : 2 ≤ n ∧ n ≤ 50 := by simp at hsz; omega
  unfold g_laws_FnItems.k1
  refine Sat.tk h fun w h => ⟨by decide, by decide, ?_⟩
  rw [show Int.tmod (m : Int) 3 = ((m % 3 : Nat) : Int) from rfl, show Int.tdiv (m : Int) 3 = ((m / 3 : Nat) : Int) from rfl]
  have h3 : m % 3 < 3 := Nat.mod_lt _ (by decide)
  rw [show IntKind.u8.wrap (((m % 3 : Nat) : Int) + 1) = ((m % 3 + 1 : Nat) : Int) by rw [u8_in _ (by omega)]; omega]
  rw [show IntKind.u8.wrap ((m / 3 : Nat) : Int) = ((m / 3 : Nat) : Int) from u8_in _ (by omega), show Int.tmod ((m / 3 : Nat) : Int) 4 = ((m / 3 % 4 : Nat) : Int) from rfl]
  have h4 : m / 3 % 4 < 4 := Nat.mod_lt _ (by decide)
  generalize m / 3 % 4 = kk at h4 ⊢
  generalize m % 3 = a at h3 ⊢
  rw [i64_in ((kk : Nat) : Int) (by omega), i64_in _ (by omega), show (1 : Int) + ((kk : Nat) : Int) = ((kk + 1 : Nat) : Int) by omega]
  refine ⟨by omega, by omega, ?_, by decide, by decide, ?_⟩
  · have : (ByteArray.mk #[45, 43, 42]).size = 3 := rfl
    rw [this]; omega
  rw [show ByteArray.mk #[32] = bs [32] from rfl]
  refine times_ok (by omega) (by decide) ⟨_, rfl, ?_⟩
  rw [rep_flat]
  have hx : (ByteArray.mk #[45, 43, 42]).extract (Int.toNat (a : Nat)) (Int.toNat ((a + 1 : Nat) : Int)) = bs [bulC a] := by
    rw [Int.toNat_natCast, Int.toNat_natCast, show ByteArray.mk #[45, 43, 42] = bs [45, 43, 42] from rfl, bs_extract]
    have : a = 0 ∨ a = 1 ∨ a = 2 := by omega
    rcases this with rfl | rfl | rfl <;> rfl
  have hcc : bulC a = 45 ∨ bulC a = 42 ∨ bulC a = 43 := by
    have : a = 0 ∨ a = 1 ∨ a = 2 := by omega
    rcases this with rfl | rfl | rfl <;> decide
  rw [hx]
  refine ⟨by rw [show IntKind.i64.max = 9223372036854775807 from rfl, bs_size, bs_size]; simp; omega, ?_⟩
  rw [bs_append]
  have k2 := fun lo => fnItems_k2 (lo := lo) (c := c) hcc (show kk ≤ 3 by omega) hA hfit hsz h hR
  cases lo with
  | true => exact br_true rfl (k2 true)
  | false => exact br_false rfl (k2 false)
end Go.Proofs.YtihmcipajjakgaaGreatDoor


set_option linter.unusedVariables false
set_option linter.constructorNameAsVariable false
namespace Go.Proofs.YtihmcipajjakgaaGreatDoor
open Go.Proofs Go.ChangeShapes Go.WideShapes
theorem heap_of_sat {W W' : World} (h : Sat (outOf W) W' (allBlocks W)) {b : Nat} (hb : b < W.heap.size) : W'.heap[b]? = W.heap[b]? := by
  have hm : (b, W.heap[b]) ∈ allBlocks W := List.mem_map.2 ⟨(W.heap[b], b), List.mem_zipIdx_iff_getElem?.2 (by simp [hb]), rfl⟩
  rw [h.at_ _ hm, Array.getElem?_eq_getElem hb]
theorem same_of_sat {W W' : World} (h : Sat (outOf W) W' (allBlocks W)) {p : MemPlace} (hp : p.block < W.heap.size) : W.sameAt W' p := by
  cases p with
  | cell b o => exact World.cell?_of_block (w := W) (heap_of_sat h hp)
  | map b => exact heap_of_sat h hp
theorem cell_of_sat {W W' : World} (h : Sat (outOf W) W' (allBlocks W)) {a : Addr} {v : Value} (hc : W.cell? a = some v) : W'.cell? a = some v := by
  have hb : a.block < W.heap.size := by
    rcases Nat.lt_or_ge a.block W.heap.size with hlt | hge
    · exact hlt
    · have : W.heap[a.block]? = none := Array.getElem?_eq_none hge
      unfold World.cell? at hc
      rw [this] at hc; cases hc
  rw [← hc]
  unfold World.cell?
  rw [heap_of_sat h hb]
theorem open_sarg {P : Program} {H : Type} {enc : TypeId × Value → H} {W : World} {r : Reach} {b0 : Nat} {t e : TypeId} {v : Value} {d : DataW H} {ps : List MemPlace} (ht : P.underlying t = some (.slice e)) (he : P.underlying e = some .string) (hc : P.cellsOf e = 1)
    (hval : Value.okWide P W r b0 t v) (h : DataW.Trod enc P W 0 (fun _ => true) true t v d ps) : ∃ q n c ls, v = .slice q n c ∧ SArg (outOf W) (allBlocks W) q n ls := by
  obtain ⟨a0, len, cap, rfl⟩ := okWide_slice ht hval
  obtain ⟨fuel, hf⟩ := h
  rcases open_strings ht he hc hf with ⟨hcs, hx⟩ | ⟨a, len', cap', ss, hcs, _, hl, hm, hz, hx, hcell, hws⟩
  · simp [Value.cells] at hcs
    obtain ⟨rfl, rfl, rfl⟩ := hcs
    exact ⟨none, 0, 0, [], rfl, ⟨rfl, fun i hi => by simp at hi⟩⟩
  · simp [Value.cells] at hcs
    obtain ⟨rfl, rfl, rfl⟩ := hcs
    simp only [if_true] at hz
    refine ⟨some a, len, cap, (ss.take len).map fun b => b.data.toList, rfl, ⟨by simp; omega, fun i hi => ?_⟩⟩
    simp only [List.length_map, List.length_take] at hi
    refine ⟨a, rfl, fun w hw => ?_⟩
    have h1 := cell_of_sat hw (hcell i (by omega))
    rw [h1]
    congr 2
    rw [List.getElem_map, List.getElem_take, ← bs_of]
    rw [List.getD_eq_getElem?_getD, List.getElem?_eq_getElem (by omega)]; rfl
theorem u8_of {n : Int} (h : (Lit.int .u8 n).wf = true) : ∃ m : Nat, m < 256 ∧ n = (m : Int) := by
  have h1 : (decide (IntKind.u8.min ≤ n) && decide (n ≤ IntKind.u8.max)) = true := h
  simp only [Bool.and_eq_true, decide_eq_true_eq] at h1
  have a : IntKind.u8.min = 0 := rfl
  have b : IntKind.u8.max = 255 := rfl
  rw [a, b] at h1
  exact ⟨n.toNat, by omega, by omega⟩
end Go.Proofs.YtihmcipajjakgaaGreatDoor

