/- Part 6 of the proof of the law FnRawBlock: for every input the law returns true, the inputs read as they did, and memory that was there is as it was; under the conditions of the given row alone. -/
import Derived.SliceStrings
import Derived.WideKeyArgs
import Derived.Below
import Derived.Test.YtihmcipajjakgaaGreatDoorA5
set_option linter.all false
set_option linter.unusedVariables false
namespace Go.Proofs.YtihmcipajjakgaaGreatDoor
open Go.Proofs Go.IntWalk Go.RowKit
variable {σ : Out} {w : World} {L L' : List Chunk} {R : Ending → World → Prop}
theorem AtI.plains {X : XI} {b pb e : Nat} {p0 : PS} {raw : List UInt8} {ts : List Inl} {o : Opt} (hX : LoopX R X b raw) (hs : raw.length < 1000000000) (hpz : p0.pz = some ⟨pb, 0, none⟩) (ho : o.at pb ∈ L) :
    ∀ (k i : Nat), i + k ≤ raw.length → (∀ j (hj : j < raw.length), i ≤ j → j < i + k → parserOf o raw[j] = .nil ∧ raw[j] ≠ 93) → AtI X σ b p0 raw L (i + k) e ts → AtI X σ b p0 raw L i e ts
  | 0, i, _, _, h => h
  | k + 1, i, hk, hall, h => by
    have hi : i < raw.length := by omega
    have h0 := hall i hi (Nat.le_refl _) (by omega)
    refine AtI.plain hX hi hs hpz ho h0.1 h0.2 ?_
    refine AtI.plains hX hs hpz ho k (i + 1) (by omega) (fun j hj h1 h2 => hall j hj (by omega) (by omega)) ?_
    rw [show i + 1 + k = i + (k + 1) by omega]; exact h
theorem plainText_inline {o : Opt} {s : List UInt8} (hoff : o.auto = false) (hs : s.length < 1000000) (hall : ∀ c ∈ trimLR isST s, parserOf o c = .nil ∧ c ≠ 93) (hne : trimLR isST s ≠ []) : InlineOK o s (ab (escS htmlPs (trimLR isST s))) := by
  intro σ R b pb p L w h hpz ho hlk hR
  have htl : (trimLR isST s).length ≤ s.length := by
    unfold trimLR trimR
    have h1 := (List.dropWhile_sublist isST (l := s)).length_le
    have h2 := (List.dropWhile_sublist isST (l := (s.dropWhile isST).reverse)).length_le
    simp at h2 ⊢; omega
  refine inl_begin h (by omega) fun w h => ?_
  generalize hr : trimLR isST s = raw at h hall hne htl hR ⊢
  intro X hX
  have hXL : LoopX R X b raw := fun _ _ _ _ _ h => hX _ _ _ _ _ _ _ _ _ h
  generalize hp0 : ({ p with s := raw, em := 0, lq := none, ln := 0, lc := 0 } : PS) = p0 at h
  have hpz0 : p0.pz = some ⟨pb, 0, none⟩ := by rw [← hp0]; exact hpz
  have hcs : p0.coreS = p.coreS := by rw [← hp0]; rfl
  suffices hat : AtI X σ b p0 raw L 0 0 [] from hat w p0 none 0 0 rfl (by rw [← hp0]) (by rw [← hp0]; rfl) h
  have hpos : 0 < raw.length := List.length_pos_iff.2 hne
  refine AtI.plains hXL (by omega) hpz0 ho raw.length 0 (by omega) (fun j hj _ _ => hall _ (List.getElem_mem hj)) ?_
  rw [Nat.zero_add]
  have e1 : emitM raw 0 raw.length [] = [.plain raw] := by
    unfold emitM; rw [if_pos hpos]
    show [Inl.plain ((raw.take raw.length).drop 0)] = _
    rw [List.take_length, List.drop_zero]
  refine AtI.fin (ts' := [.plain raw]) hXL (by omega) hpz0 ho hoff (by simp) ?_ ?_ ?_ ?_
  · rw [e1]
    exact emphOK_none (by intro t ht; simp at ht; subst ht; exact ⟨by simp only [Inl.ty]; decide, by simp only [Inl.ty]; decide⟩)
  · intro t ht s hs; simp at ht; subst ht; simp [Inl.plain?] at hs; subst hs; exact hne
  · simp [plen, Inl.plain?]; omega
  · intro w p' q n' c vs RM EM hp' hS hn' hI h
    have em : mergeM [.plain raw] = [.plain raw] := by simp [mergeM, mergeGo, flushP, Inl.plain?]
    rw [em] at hI
    have hP := inls_print _ _ _ hI ⟨by show raw.length < _; omega, trivial⟩
    have eo : outL [.plain raw] = escS htmlPs raw := by simp [outL, outI]
    rw [eo] at hP
    exact hR w p' q n' c vs RM EM EM (hp'.trans hcs) hS hn' hP h
end Go.Proofs.YtihmcipajjakgaaGreatDoor


set_option linter.unusedVariables false
namespace Go.Proofs.YtihmcipajjakgaaGreatDoor
open Go.Proofs Go.IntWalk Go.RowKit
variable {σ : Out} {w : World} {L L' : List Chunk} {R : Ending → World → Prop}
theorem findSub_noHd {c : UInt8} {t l : List UInt8} (hc : c ∉ l) : ∀ k i, findSub (c :: t) l k i = none
  | 0, _ => rfl
  | k + 1, i => by
    simp only [findSub]
    split
    · rename_i hl
      rw [if_neg, findSub_noHd hc k (i + 1)]
      intro he
      simp only [List.length_cons] at hl
      have hil : i < l.length := by omega
      rw [List.drop_eq_getElem_cons hil, List.length_cons, List.take_succ_cons] at he
      exact hc ((List.cons.inj he).1 ▸ List.getElem_mem hil)
    · rfl
theorem idx_noHd {c : UInt8} {t l : List UInt8} (hc : c ∉ l) : idx l (c :: t) = none := findSub_noHd hc _ _
def rawF (raw l : List UInt8) : List UInt8 := ab (escS htmlPs (trimLR isST raw)) l
theorem htmB_facts {s0 en : List UInt8} (hB : HtmB s0 en) : noNL s0 ∧ noNL en ∧ 0 ∉ s0 ∧ 0 ∉ en ∧ s0.length < 10 ∧ en.length < 10 ∧ (idx en en).isSome = true := by
  cases hB <;> exact ⟨⟨by decide, by decide⟩, ⟨by decide, by decide⟩, by decide, by decide, by decide, by decide, by decide⟩
theorem html_raw {s0 en s et : List UInt8} {e0 : UInt8} (hB : HtmB s0 en) (he : en = e0 :: et) (hno : e0 ∉ s) (h0 : 0 ∉ s) (h13 : 13 ∉ s) (hl : s.length ≤ 500) :
    ParsesTo optOff (rawOut (s0 :: splitNL s ++ [en]) ++ [97, 10]) (rawOut (s0 :: splitNL s ++ [en]) ++ [60, 112, 62, 97, 60, 47, 112, 62, 10]) := by
  obtain ⟨f1, f2, f3, f4, f5, f6, f7⟩ := htmB_facts hB
  have hml := splitNL_mem s
  have hsl := splitNL_len s
  have hT : rawOut (s0 :: splitNL s ++ [en]) = s0 ++ [10] ++ (s ++ [10]) ++ (en ++ [10]) := by
    rw [← rawOut_split s]; simp [rawOut]
  have hL : LinesOf (rawOut (s0 :: splitNL s ++ [en]) ++ [97, 10]) ((s0 :: splitNL s ++ [en]).map (fun l => (l, 10)) ++ [([97], 10)]) := by
    refine linesOf_raw (LinesOf.cons (l := [97]) (t := []) ⟨by decide, by decide⟩ .nil) _ fun l hlm => ?_
    simp only [List.cons_append, List.mem_cons, List.mem_append, List.mem_singleton, List.not_mem_nil, or_false] at hlm
    rcases hlm with rfl | hlm | rfl
    · exact f1
    · exact ⟨fun hc => ((hml l hlm).2 10 hc).2 rfl, fun hc => h13 ((hml l hlm).2 13 hc).1⟩
    · exact f2
  refine parses_doc (F := rawF) hL (by rw [hT]; simp [f3, f4, h0]) (by rw [hT]; simp; omega)
    (fun rem D lf => (rem = (s0 :: splitNL s ++ [en]).map (fun l => (l, 10)) ++ [([97], 10)] ∧ D = [] ∧ lf = .none) ∨
      (∃ pre suf, pre ++ suf = splitNL s ∧ rem = suf.map (fun l => (l, 10)) ++ [(en, 10), ([97], 10)] ∧ D = [] ∧ lf = htmLeaf en (s0 :: pre)) ∨
      (∃ d, HtmDone (s0 :: splitNL s ++ [en]) d ∧ rem = [([97], 10)] ∧ D = [d] ∧ lf = .none) ∨
      (∃ d, HtmDone (s0 :: splitNL s ++ [en]) d ∧ rem = [] ∧ D = [d] ∧ lf = .para [[97]])) (.inl ⟨rfl, rfl, rfl⟩) ?_ ?_
  · rintro l nl rem D lf (⟨hrem, rfl, rfl⟩ | ⟨pre, suf, hps, hrem, rfl, rfl⟩ | ⟨d, hd, hrem, rfl, rfl⟩ | ⟨d, hd, hrem, rfl, rfl⟩) σ R L b rb pb p w hop hpz hno' h hR
    · simp only [List.cons_append, List.map_cons, List.cons.injEq, Prod.mk.injEq] at hrem
      obtain ⟨⟨rfl, rfl⟩, rfl⟩ := hrem
      refine addLine_htm0 h hB fun w p' h1 h2 h3 => ?_
      exact hR w p' [] _ h1 h2 (.inr (.inl ⟨[], splitNL s, rfl, by simp, rfl, rfl⟩)) h3
    · have hpl : pre.length ≤ 501 := by have := congrArg List.length hps; simp at this; omega
      cases suf with
      | nil =>
        simp only [List.map_nil, List.nil_append, List.cons.injEq, Prod.mk.injEq] at hrem
        obtain ⟨⟨rfl, rfl⟩, rfl⟩ := hrem
        rw [List.append_nil] at hps
        refine addLine_htm2 h (lnOf_ok (by omega)) (by simp; omega) (by rw [lnOf_str]; omega) (by omega) (by rw [lnOf_str]; exact f7) (by simp) fun w p' d h1 h2 h3 h4 => ?_
        rw [lnOf_str, hps] at h3
        exact hR w p' _ _ h1 h2 (.inr (.inr (.inl ⟨d, h3, rfl, rfl, rfl⟩))) h4
      | cons x suf =>
        simp only [List.map_cons, List.cons_append, List.cons.injEq, Prod.mk.injEq] at hrem
        obtain ⟨⟨rfl, rfl⟩, rfl⟩ := hrem
        have hx := hml l (by rw [← hps]; simp)
        have hxl := hx.1
        refine addLine_htm1 h (lnOf_ok (by omega)) (by simp; omega) (by rw [lnOf_str]; omega) (by omega) (by rw [lnOf_str, he]; exact idx_noHd fun hc => hno (hx.2 e0 hc).1) fun w p' h1 h2 h3 => ?_
        rw [lnOf_str] at h3
        exact hR w p' [] _ h1 h2 (.inr (.inl ⟨pre ++ [l], suf, by rw [← hps]; simp, rfl, rfl, by simp⟩)) h3
    · simp only [List.cons.injEq, Prod.mk.injEq] at hrem
      obtain ⟨⟨rfl, rfl⟩, rfl⟩ := hrem
      refine addLine_plain0 h hpz hop (plain_first (by decide) (by decide)) hno' fun w p' h1 h2 h3 => ?_
      exact hR w p' _ _ h1 h2 (.inr (.inr (.inr ⟨d, hd, rfl, rfl, rfl⟩))) h3
    · simp at hrem
  · rintro D lf (⟨hrem, rfl, rfl⟩ | ⟨pre, suf, hps, hrem, rfl, rfl⟩ | ⟨d, hd, hrem, rfl, rfl⟩ | ⟨d, hd, hrem, rfl, rfl⟩)
    · simp at hrem
    · simp at hrem
    · simp at hrem
    · have hj : joinL [10] [[97]] = ([97] : List UInt8) := rfl
      refine ⟨⟨by decide, by decide, by decide⟩, by simp, by simp [txsC, hd.txs], ?_⟩
      rintro D' ⟨nb, t, s1, e1, rfl⟩
      rw [hj]
      refine ⟨_, .cons (hd.shows (by simp; omega) ?_) (.cons paraDB_shows .nil), ?_, ?_⟩
      · intro l hlm
        simp only [List.cons_append, List.mem_cons, List.mem_append, List.mem_singleton, List.not_mem_nil, or_false] at hlm
        rcases hlm with rfl | hlm | rfl
        · omega
        · have := (hml l hlm).1; omega
        · omega
      · show rawF [97] (ab (rawOut (s0 :: splitNL s ++ [en])) [] ++ pOpen) ++ pClose = _
        have e2 : escS htmlPs (trimLR isST [97]) = [97] := by decide
        unfold rawF
        rw [e2]
        simp [ab, pOpen, pClose]
      · intro x hx
        simp only [txsC, List.cons_append, List.nil_append, List.flatMap_cons, List.flatMap_nil, hd.txs, paraDB, List.append_nil, List.mem_singleton] at hx
        subst hx
        show InlineOK optOff [97] (ab (escS htmlPs (trimLR isST [97])))
        exact plainText_inline (s := [97]) rfl (by decide) (by intro c hc; rw [show trimLR isST [97] = [97] from by decide] at hc; simp only [List.mem_singleton] at hc; subst hc; exact ⟨rfl, by decide⟩) (by decide)
def beginOf : Nat → List UInt8
  | 0 => [60, 33, 45, 45]
  | 1 => [60, 63]
  | 2 => [60, 33, 65]
  | _ => [60, 33, 91, 67, 68, 65, 84, 65, 91]
def endOf : Nat → List UInt8
  | 0 => [45, 45, 62]
  | 1 => [63, 62]
  | 2 => [62]
  | _ => [93, 93, 62]
def pick4 (a b c d : ByteArray) : Nat → ByteArray
  | 0 => a
  | 1 => b
  | 2 => c
  | _ => d
theorem und_4s : P.underlying ty_4_string = some (.array 4 ty_string) := by kernel_rfl
theorem size_str (w : World) : (sizeOf ty_string).run P w = .ok 1 w := by
  have hj : P.info? ty_string = some ((P.info? ty_string).getD default) := by kernel_rfl
  have hs : ((P.info? ty_string).getD default).size = 1 := by kernel_rfl
  generalize (P.info? ty_string).getD default = i at hj hs
  simp [sizeOf, typeInfo, hj, hs]
theorem idx4 {a b c d : ByteArray} {k : Nat} (hk : k < 4) : (Instr.index ty_4_string (.agg #[.string a, .string b, .string c, .string d]) (.int .i64 (k : Int))).run P w = .ok (.string (pick4 a b c d k)) w := by
  have hc : k = 0 ∨ k = 1 ∨ k = 2 ∨ k = 3 := by omega
  have hv : (#[.string a, .string b, .string c, .string d] : Array Value)[k]? = some (.string (pick4 a b c d k)) := by
    rcases hc with rfl | rfl | rfl | rfl <;> rfl
  generalize hcs : (#[.string a, .string b, .string c, .string d] : Array Value) = cs at hv ⊢
  have hk3 : (k : Int) < 4 := by omega
  simp [Instr.index, run_underlying und_4s, asIntOf, hk, go_sem, size_str, hv]
theorem htmB_of {k : Nat} (hk : k < 4) : HtmB (beginOf k) (endOf k) := by
  match k, hk with
  | 0, _ => exact .remark
  | 1, _ => exact .instr
  | 2, _ => exact .decl
  | 3, _ => exact .cdata
def rawSet : List UInt8 := [97, 98, 32, 42, 95, 35, 62, 96, 91, 40, 38, 10]
def rawSet2 : List UInt8 := [97, 98, 32, 42, 95, 35, 96, 91, 40, 38, 10]
theorem only_mem {s set : List UInt8} {n : Nat} (h : onlyM s set n = true) : s.length ≤ n ∧ ∀ c ∈ s, c ∈ set := by
  unfold onlyM at h
  rw [Bool.and_eq_true, decide_eq_true_eq, List.all_eq_true] at h
  exact ⟨h.1, fun c hc => by simpa using h.2 c hc⟩
theorem fnRawBlock_ok {k : Nat} {x : ByteArray} (hk : k < 256) (h : Sat σ w L) (hR : ∀ w, Sat σ w L → R (.returned (.bool true)) w) : callE P i_laws_FnRawBlock #[.int .u8 (k : Int), .string x] R w := by
  rw [bs_of x]
  generalize x.data.toList = s
  refine g_laws_FnRawBlock.sound ?_
  refine br_split (fun _ => hR _ h) fun hg => ?_
  have hs : s.length < 4611686018427387904 := by simp at hg; omega
  have hm4 : k % 4 < 4 := Nat.mod_lt _ (by decide)
  rw [i64_in _ (by omega), show Int.tmod (k : Int) 4 = ((k % 4 : Nat) : Int) from rfl]
  generalize k % 4 = j at hm4 ⊢
  refine ⟨by decide, _, _, idx4 hm4, _, _, idx4 hm4, ?_⟩
  have hj4 : j = 0 ∨ j = 1 ∨ j = 2 ∨ j = 3 := by omega
  have e1 : pick4 (ByteArray.mk #[60, 33, 45, 45]) (ByteArray.mk #[60, 63]) (ByteArray.mk #[60, 33, 65]) (ByteArray.mk #[60, 33, 91, 67, 68, 65, 84, 65, 91]) j = bs (beginOf j) := by
    rcases hj4 with rfl | rfl | rfl | rfl <;> rfl
  have e2 : pick4 (ByteArray.mk #[45, 45, 62]) (ByteArray.mk #[63, 62]) (ByteArray.mk #[62]) (ByteArray.mk #[93, 93, 62]) j = bs (endOf j) := by
    rcases hj4 with rfl | rfl | rfl | rfl <;> rfl
  rw [e1, e2]
  have hB := htmB_of hm4
  obtain ⟨f1, f2, f3, f4, f5, f6, f7⟩ := htmB_facts hB
  refine only_ok (set := rawSet) (n := 500) hs ⟨_, rfl, ?_⟩
  refine br_split (fun _ => hR _ h) fun ho => ?_
  have ho : onlyM s rawSet 500 = true := by simpa using ho
  obtain ⟨hl, hm⟩ := only_mem ho
  have h0 : 0 ∉ s := fun hc => absurd (hm 0 hc) (by decide)
  have h13 : 13 ∉ s := fun hc => absurd (hm 13 hc) (by decide)
  have hmax : IntKind.i64.max = 9223372036854775807 := rfl
  have b2 : ∀ s t : List UInt8, s.length + t.length < 100000 → (((bs s).size + (bs t).size : Nat) : Int) ≤ IntKind.i64.max := by intro s t hs; rw [hmax, bs_size, bs_size]; omega
  have fin : ∀ (e0 : UInt8) et, endOf j = e0 :: et → e0 ∉ s → g_laws_FnRawBlock.k1 R (bs s) (bs (beginOf j)) (bs (endOf j)) w := by
    intro e0 et he hno
    have hP := html_raw hB he hno h0 h13 hl
    have hT : rawOut (beginOf j :: splitNL s ++ [endOf j]) = beginOf j ++ [10] ++ s ++ [10] ++ endOf j ++ [10] := by
      have := rawOut_split s
      have e3 : rawOut (beginOf j :: splitNL s ++ [endOf j]) = beginOf j ++ [10] ++ rawOut (splitNL s) ++ (endOf j ++ [10]) := by simp [rawOut]
      rw [e3, this]; simp
    rw [hT] at hP
    generalize beginOf j = u at hP f5 ⊢
    generalize endOf j = v at hP f6 ⊢
    unfold g_laws_FnRawBlock.k1
    rw [show ByteArray.mk #[10] = bs [10] from rfl, show ByteArray.mk #[97, 10] = bs [97, 10] from rfl, show ByteArray.mk #[60, 112, 62, 97, 60, 47, 112, 62, 10] = bs [60, 112, 62, 97, 60, 47, 112, 62, 10] from rfl]
    simp only [bs_append]
    refine ⟨b2 _ _ (by simp; omega), b2 _ _ (by simp; omega), b2 _ _ (by simp; omega), b2 _ _ (by simp; omega), b2 _ _ (by simp; omega), b2 _ _ (by simp; omega), ?_⟩
    show callE P i_impl_HTML #[optV optOff, .string (bs (u ++ [10] ++ s ++ [10] ++ v ++ [10] ++ [97, 10]))] _ w
    refine html_ok hP (by simp; omega) h fun w h => ⟨_, rfl, b2 _ _ (by simp; omega), ?_⟩
    simpa using hR w h
  refine only_ok (s := endOf j) (set := [62]) (n := 1) (by omega) ⟨_, rfl, ?_⟩
  rcases hj4 with rfl | rfl | rfl | rfl
  · exact br_false rfl (fin 45 _ rfl fun hc => absurd (hm 45 hc) (by decide))
  · exact br_false rfl (fin 63 _ rfl fun hc => absurd (hm 63 hc) (by decide))
  · refine br_true rfl ?_
    refine only_ok (set := rawSet2) (n := 500) hs ⟨_, rfl, ?_⟩
    refine br_split (fun _ => hR _ h) fun ho => ?_
    have ho : onlyM s rawSet2 500 = true := by simpa using ho
    exact fin 62 _ rfl fun hc => absurd ((only_mem ho).2 62 hc) (by decide)
  · exact br_false rfl (fin 93 _ rfl fun hc => absurd (hm 93 hc) (by decide))
end Go.Proofs.YtihmcipajjakgaaGreatDoor


set_option linter.unusedVariables false
namespace Go.Proofs.YtihmcipajjakgaaGreatDoor
open Go.Proofs Go.IntWalk Go.RowKit
variable {σ : Out} {w : World} {L L' : List Chunk} {R : Ending → World → Prop}
def punB (c : UInt8) : Bool := (((decide (33 ≤ c.toNat) && decide (c.toNat ≤ 47)) || (decide (58 ≤ c.toNat) && decide (c.toNat ≤ 64))) || (decide (91 ≤ c.toNat) && decide (c.toNat ≤ 96))) || (decide (123 ≤ c.toNat) && decide (c.toNat ≤ 126))
inductive Tok where
  | lit (c : UInt8)
  | esc (c : UInt8)
  | nl
def Tok.bytes : Tok → List UInt8
  | .lit c => [c]
  | .esc c => [92, c]
  | .nl => [10]
def Tok.out : Tok → List UInt8
  | .lit c => escB htmlPs c
  | .esc c => escB htmlPs c
  | .nl => [10]
def Tok.ok (o : Opt) : Tok → Prop
  | .lit c => parserOf o c = .nil ∧ c ≠ 93
  | .esc c => punB c = true
  | .nl => True
end Go.Proofs.YtihmcipajjakgaaGreatDoor


set_option linter.unusedVariables false
namespace Go.Proofs.YtihmcipajjakgaaGreatDoor
open Go.Proofs Go.IntWalk Go.RowKit
variable {σ : Out} {w : World} {L L' : List Chunk} {R : Ending → World → Prop}
def SArg (σ : Out) (L : List Chunk) (q : Option Addr) (n : Nat) (ls : List (List UInt8)) : Prop :=
  n = ls.length ∧ ∀ i (hi : i < ls.length), ∃ a, q = some a ∧ ∀ w, Sat σ w L → w.cell? (a.add i) = some (.string (bs ls[i]))
theorem SArg.mono {q : Option Addr} {n : Nat} {ls : List (List UInt8)} (h : SArg σ L q n ls) (hL : ∀ w, Sat σ w L' → Sat σ w L) : SArg σ L' q n ls :=
  ⟨h.1, fun i hi => by obtain ⟨a, h1, h2⟩ := h.2 i hi; exact ⟨a, h1, fun w hw => h2 w (hL w hw)⟩⟩
end Go.Proofs.YtihmcipajjakgaaGreatDoor


set_option linter.unusedVariables false
set_option linter.constructorNameAsVariable false
namespace Go.Proofs.YtihmcipajjakgaaGreatDoor
open Go.Proofs Go.ChangeShapes Go.WideShapes
theorem u8_of {n : Int} (h : (Lit.int .u8 n).wf = true) : ∃ m : Nat, m < 256 ∧ n = (m : Int) := by
  have h1 : (decide (IntKind.u8.min ≤ n) && decide (n ≤ IntKind.u8.max)) = true := h
  simp only [Bool.and_eq_true, decide_eq_true_eq] at h1
  have a : IntKind.u8.min = 0 := rfl
  have b : IntKind.u8.max = 255 := rfl
  rw [a, b] at h1
  exact ⟨n.toNat, by omega, by omega⟩
end Go.Proofs.YtihmcipajjakgaaGreatDoor

