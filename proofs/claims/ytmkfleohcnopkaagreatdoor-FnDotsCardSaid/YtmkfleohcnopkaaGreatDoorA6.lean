/- Part 6 of the proof of the law FnDots: for every input the law returns true, the inputs read as they did, and memory that was there is as it was; under the conditions of the given row alone. Holds: Dots1 G_Parser_Parse G_impl_HTML G_impl_parser G_laws_headed G_laws_only G_Parser_parse OneLine Html FnDots1. -/
import Derived.Test.YtmkfleohcnopkaaGreatDoorA5
/- Smart dots: the inlines of a line of letters, spaces and full stops. -/
set_option linter.unusedVariables false
namespace Go.Proofs.YtmkfleohcnopkaaGreatDoor
open Go.Proofs Go.IntWalk Go.RowKit
variable {σ : Out} {w : World} {L L' : List Chunk} {R : Ending → World → Prop}
def dots3 (s : List UInt8) (i : Nat) : Bool := decide (i + 2 < s.length) && (s.getD (i + 1) 0 == 46) && (s.getD (i + 2) 0 == 46)
theorem bt_getD {l : List UInt8} {i : Nat} (d : UInt8) (n : Int) (hd : (d.toNat : Int) = n) : (bt (bs l) (i : Int) == n) = (l.getD i 0 == d) := by
  subst hd
  rw [bs_bt, u8_beq]
theorem parseDot_ok {q : Option Addr} {s : List UInt8} {i : Nat} (hs : s.length < 4611686018427387904) (hi : i < s.length) (h : Sat σ w L)
    (hR : if dots3 s i then ∀ w nb, Sat σ w (plainC nb [226, 128, 166] :: L) → R (.returned (.tuple #[ptrV ty_P_Plain nb, .int .i64 i, .int .i64 ((i + 3 : Nat) : Int), .bool true])) w
      else R (.returned (.tuple #[.nilIface, .int .i64 0, .int .i64 0, .bool false])) w) :
    callE P i_parseDot #[.pointer q, .string (bs s), .int .i64 i] R w := by
  refine g_parseDot.sound ?_
  have e1 : IntKind.i64.wrap ((i : Int) + 1) = ((i + 1 : Nat) : Int) := i64_inc (by omega)
  have e2 : IntKind.i64.wrap ((i : Int) + 2) = ((i + 2 : Nat) : Int) := by simp (disch := omega) only [i64_in]; rfl
  have e3 : IntKind.i64.wrap ((i : Int) + 3) = ((i + 3 : Nat) : Int) := by simp (disch := omega) only [i64_in]; rfl
  have hd : (((decide (((i + 2 : Nat) : Int) < ((bs s).size : Int))) && ((bt (bs s) ((i + 1 : Nat) : Int)) == 46)) && ((bt (bs s) ((i + 2 : Nat) : Int)) == 46)) = dots3 s i := by
    rw [bt_getD 46 46 rfl, bt_getD 46 46 rfl, bs_size]
    unfold dots3
    congr 2
    simp only [decide_eq_decide]
    omega
  unfold g_parseDot
  rw [e1, e2, hd]
  refine ⟨fun h => ?_, fun h => ?_, ?_⟩
  · simp at h; simp; omega
  · simp at h; simp; omega
  · unfold g_parseDot.k1
    rw [e3]
    split at hR
    · rename_i hd
      rw [hd]
      exact Sat.bx h fun nb w h => hR w nb h
    · rename_i hd
      rw [Bool.not_eq_true] at hd
      rw [hd]
      exact hR
def dotRes (s : List UInt8) (i : Nat) : Option (Inl × Nat × Nat) := if dots3 s i then some (.plain [226, 128, 166], i, i + 3) else none
theorem parseDot_leaf {b i : Nat} {p : PS} {s : List UInt8} (hs : s.length < 4611686018427387904) (hi : i < s.length) : LeafOK b p s i (.func (.func i_parseDot) #[] #[]) [] (dotRes s i) (fun p' => p' = p) := by
  intro σ R L w _ h hR
  refine enter_fn ?_
  refine parseDot_ok hs hi h ?_
  unfold dotRes at hR
  split
  · rename_i hd
    rw [if_pos hd] at hR
    exact fun w nb h => hR w p _ _ rfl rfl ⟨nb, [], _, rfl, rfl⟩ h.up1
  · rename_i hd
    rw [if_neg hd] at hR
    exact hR w p _ 0 0 rfl rfl h
/-- Each three full stops, from the left. -/
def ell : List UInt8 → List UInt8
  | [] => []
  | [a] => [a]
  | [a, b] => [a, b]
  | a :: b :: c :: s => if a = 46 ∧ b = 46 ∧ c = 46 then [226, 128, 166] ++ ell s else a :: ell (b :: c :: s)
theorem ell_dots {s : List UInt8} {i : Nat} (hi : i < s.length) (h46 : s[i] = 46) (hd : dots3 s i = true) : ell (s.drop i) = [226, 128, 166] ++ ell (s.drop (i + 3)) := by
  simp only [dots3, Bool.and_eq_true, decide_eq_true_eq] at hd
  obtain ⟨⟨h0, h1⟩, h2⟩ := hd
  rw [List.getD_eq_getElem?_getD, List.getElem?_eq_getElem (by omega)] at h1 h2
  simp at h1 h2
  rw [List.drop_eq_getElem_cons hi, List.drop_eq_getElem_cons (show i + 1 < s.length by omega), List.drop_eq_getElem_cons (show i + 2 < s.length by omega), ell, if_pos ⟨h46, h1, h2⟩]
theorem ell_step {s : List UInt8} {i : Nat} (hi : i < s.length) (h : s[i] = 46 → dots3 s i = false) : ell (s.drop i) = s[i] :: ell (s.drop (i + 1)) := by
  rw [List.drop_eq_getElem_cons hi]
  by_cases h1 : i + 1 < s.length
  · rw [List.drop_eq_getElem_cons h1]
    by_cases h2 : i + 2 < s.length
    · rw [List.drop_eq_getElem_cons h2, ell, if_neg]
      rintro ⟨ha, hb, hc⟩
      have := h ha
      simp [dots3, List.getD_eq_getElem?_getD, h2, h1, hb, hc] at this
    · rw [List.drop_eq_nil_of_le (by omega)]; rfl
  · rw [List.drop_eq_nil_of_le (by omega)]; rfl
def isDotText (s : List UInt8) : Bool := s.all fun c => c == 120 || c == 97 || c == 98 || c == 32 || c == 46
theorem parserOf_dot {o : Opt} {c : UInt8} (hd : o.dot = true) (hc : (c == 120 || c == 97 || c == 98 || c == 32 || c == 46) = true) : (c = 46 ∧ parserOf o c = .fn i_parseDot) ∨ (c ≠ 46 ∧ c ≠ 93 ∧ parserOf o c = .nil) := by
  simp only [Bool.or_eq_true, beq_iff_eq] at hc
  rcases hc with (((rfl | rfl) | rfl) | rfl) | rfl
  all_goals simp [parserOf, hd]
theorem sub_append {s : List UInt8} {e i j : Nat} (h1 : e ≤ i) (h2 : i ≤ j) (h3 : j ≤ s.length) : sub s e i ++ sub s i j = sub s e j := by
  unfold sub
  have e1 : (s.take j).take i = s.take i := by rw [List.take_take, Nat.min_eq_left h2]
  have e2 : (s.take j).drop e = ((s.take j).take i ++ (s.take j).drop i).drop e := by rw [List.take_append_drop]
  rw [e2, List.drop_append_of_le_length (by rw [List.length_take, List.length_take]; omega), e1]
theorem sub_one {s : List UInt8} {i : Nat} (h : i < s.length) : sub s i (i + 1) = [s[i]] := by
  unfold sub
  rw [List.take_succ_eq_append_getElem h, List.drop_append_of_le_length (by rw [List.length_take]; omega), List.drop_eq_nil_of_le (by rw [List.length_take]; omega)]
  rfl
theorem sub_self (s : List UInt8) (i : Nat) : sub s i i = [] := List.drop_eq_nil_of_le (by rw [List.length_take]; omega)
theorem sub_length {s : List UInt8} {i j : Nat} (h : j ≤ s.length) : (sub s i j).length = j - i := by unfold sub; rw [List.length_drop, List.length_take]; omega
theorem emitM_plain {s : List UInt8} {e i : Nat} {us : List (List UInt8)} (he : e ≤ i) (hi : i ≤ s.length) (hne : ∀ u ∈ us, u ≠ []) :
    ∃ us' : List (List UInt8), emitM s e i (us.map .plain) = us'.map .plain ∧ us'.flatten = us.flatten ++ sub s e i ∧ (∀ u ∈ us', u ≠ []) ∧ us'.length ≤ us.length + 1 := by
  unfold emitM
  split
  · rename_i h
    refine ⟨us ++ [sub s e i], by simp, by simp, ?_, by simp⟩
    intro u hu
    rcases List.mem_append.1 hu with hu | hu
    · exact hne u hu
    · simp at hu; subst hu
      intro h0
      have := sub_length (i := e) hi
      rw [h0] at this; simp at this; omega
  · have : e = i := by omega
    subst this
    exact ⟨us, rfl, by rw [sub_self]; simp, hne, by omega⟩
theorem mergeGo_plain : ∀ (us : List (List UInt8)) (p : List (List UInt8)), mergeGo p (us.map .plain) = flushP (p ++ us)
  | [], p => by simp [mergeGo]
  | u :: us, p => by simp [mergeGo, Inl.plain?, mergeGo_plain us]
theorem plen_plain : ∀ us : List (List UInt8), plen (us.map .plain) = us.flatten.length
  | [] => rfl
  | u :: us => by simp [plen, Inl.plain?, plen_plain us]
theorem ell_length : ∀ s : List UInt8, (ell s).length ≤ s.length
  | [] => by simp [ell]
  | [a] => by simp [ell]
  | [a, b] => by simp [ell]
  | a :: b :: c :: s => by
    have h1 := ell_length s
    have h2 := ell_length (b :: c :: s)
    rw [ell]
    split
    · simp; omega
    · simp at h2 ⊢; omega
theorem inlineDots_ok {b pb : Nat} {p : PS} {o : Opt} {raw : List UInt8} (h : Sat σ w (p.at b :: L)) (hpz : p.pz = some ⟨pb, 0, none⟩) (ho : o.at pb ∈ L) (hoff : o.auto = false) (hdot : o.dot = true) (hl : raw.length < 1000000) (hne : raw ≠ [])
    (htr : trimLR isST raw = raw) (hD : isDotText raw = true)
    (hR : ∀ w (p' : PS) q n c vs RM EM, ({ p' with s := [] } : PS).core = ({ p with s := [] } : PS).core → Sl 1 ty_Inline q n c vs RM → n < 1073741824 → InlsAt [.plain (ell raw)] vs EM → Sat σ w (p'.at b :: (RM ++ (EM ++ L))) → R (.returned (.slice q n c)) w) :
    callE P i_parseState_inline #[.pointer (some ⟨b, 0, none⟩), .string (bs raw)] R w := by
  refine inl_begin h (by omega) fun w h => ?_
  rw [htr] at h ⊢
  intro X hX
  have key : ∀ k i e (us : List (List UInt8)) (p1 : PS) oq on oc w, i + k ≤ raw.length + 2 → raw.length ≤ i + k → i ≤ raw.length → e ≤ i → us.length ≤ e → (∀ u ∈ us, u ≠ []) → ({ p1 with s := [] } : PS).core = ({ p with s := [] } : PS).core → p1.s = raw → p1.em = e →
      us.flatten ++ sub raw e i ++ ell (raw.drop i) = ell raw → IIn σ b p1 (us.map .plain) [] oq on oc L w → X (some ⟨b, 0, none⟩) (bs raw) oq on oc 0 false (i : Int) w := by
    intro k
    induction k using Nat.strongRecOn with
    | ind k ih =>
      intro i e us p1 oq on oc w hik hik2 hil he hul hune hc hs hem hel h
      have hpz1 : p1.pz = some ⟨pb, 0, none⟩ := by have := congrArg PS.pz hc; rw [← hpz]; exact this
      refine hX _ _ _ _ _ _ _ _ _ ?_
      rcases Nat.lt_or_ge i raw.length with hlt | hge
      · obtain ⟨vs, RM, EM, OM, hS, hI, hO, hlen, hsat⟩ := h
        have on0 : on = 0 := by have := hO.1; simp at this; omega
        have h : IIn σ b p1 (us.map .plain) [] oq on oc L w := ⟨vs, RM, EM, OM, hS, hI, hO, hlen, hsat⟩
        refine inl_dispatch (p := p1) hlt (by omega) hpz1 (.head _) (.tail _ (List.mem_append_right _ (List.mem_append_right _ (List.mem_append_right _ ho)))) hsat ?_
        have hch : (raw[i] == 120 || raw[i] == 97 || raw[i] == 98 || raw[i] == 32 || raw[i] == 46) = true := (List.all_eq_true.1 hD) raw[i] (List.getElem_mem hlt)
        have next : ∀ (p2 : PS) w, p2 = p1 → IIn σ b p2 (us.map .plain) [] oq on oc L w → (raw[i] = 46 → dots3 raw i = false) → X (some ⟨b, 0, none⟩) (bs raw) oq on oc 0 false ((i + 1 : Nat) : Int) w := by
          intro p2 w hp2 h2 hnd
          rw [hp2] at h2
          refine ih (k - 1) (by omega) (i + 1) e us p1 oq on oc w (by omega) (by omega) (by omega) (by omega) hul hune hc hs hem ?_ h2
          rw [← hel, ell_step hlt hnd, ← sub_append (show e ≤ i from he) (show i ≤ i + 1 by omega) (by omega), sub_one hlt]
          simp
        rcases parserOf_dot hdot hch with ⟨h46, hp⟩ | ⟨h46, h93, hp⟩
        · rw [hp]
          dsimp only
          have hleaf := parseDot_leaf (b := b) (p := p1) (show raw.length < 4611686018427387904 by omega) hlt
          rw [← hs] at hleaf
          cases hd : dots3 raw i with
          | true =>
            have hres : dotRes p1.s i = some (.plain [226, 128, 166], i, i + 3) := by unfold dotRes; rw [hs, hd]; rfl
            rw [hres] at hleaf
            have hi3 : i + 3 ≤ raw.length := by simp [dots3] at hd; omega
            rw [← hs]
            refine inl_leaf h (by simp) hleaf hem (by rw [hs]; omega) (by rw [hs]; omega) (by simp; omega) (by simp) fun w p2 oq on oc hp2 hem2 _ h2 => ?_
            obtain ⟨us', hu1, hu2, hu3, hu4⟩ := emitM_plain (s := p1.s) he (by rw [hs]; omega) hune
            rw [hs]
            refine ih (k - 3) (by omega) (i + 3) (i + 3) (us' ++ [[226, 128, 166]]) p2 oq on oc w (by omega) (by omega) hi3 (Nat.le_refl _) (by simp; omega) ?_ ?_ ?_ hem2 ?_ ?_
            · intro u hu
              rcases List.mem_append.1 hu with hu | hu
              · exact hu3 u hu
              · simp at hu; subst hu; simp
            · rw [← hc]
              have := congrArg (fun q : PS => ({ q with s := [] } : PS)) hp2
              exact this
            · have := congrArg PS.s hp2; rw [← hs]; exact this
            · rw [sub_self, ← hel, ell_dots hlt h46 hd]
              rw [List.flatten_append, hu2, hs]
              simp
            · rw [hu1] at h2
              simpa [Inl.isOpen] using h2
          | false =>
            have hres : dotRes p1.s i = none := by unfold dotRes; rw [hs, hd]; rfl
            rw [hres] at hleaf
            rw [← hs]
            refine inl_decl h (by simp) hleaf fun w p2 _ hp2 h2 => ?_
            rw [hs]
            exact inl_k5 hlt (by omega) (.inr on0) (next p2 w hp2 h2 fun _ => hd)
        · rw [hp]
          exact inl_none (inl_k5 hlt (by omega) (.inr on0) (next p1 w rfl h fun h => absurd h h46))
      · have hi : i = raw.length := by omega
        obtain ⟨us', hu1, hu2, hu3, hu4⟩ := emitM_plain (s := p1.s) (e := e) (i := p1.s.length) (by rw [hs]; omega) (Nat.le_refl _) hune
        have hfl : us'.flatten = ell raw := by
          rw [hu2, hs, ← hel, hi, List.drop_length]; simp [ell]
        have hus : us' ≠ [] := by
          intro h0
          rw [h0] at hfl
          have h1 : ell raw = [] := by rw [← hfl]; rfl
          match raw, hne, h1 with
          | [a], _, h1 => simp [ell] at h1
          | [a, b], _, h1 => simp [ell] at h1
          | a :: b :: c :: s, _, h1 => rw [ell] at h1; split at h1 <;> simp at h1
        have := inl_end (R := R) (X := X) (lo := 0) (bk := false) (ts' := us'.map .plain) h hem (by rw [hs]; omega) (by simp; omega) hpz1 ho hoff (by rw [hu1]; exact emphOK_none (by intro t ht; obtain ⟨u, _, rfl⟩ := List.mem_map.1 ht; exact ⟨by simp only [Inl.ty]; decide, by simp only [Inl.ty]; decide⟩))
          (by intro t ht s hs'; obtain ⟨u, hu, rfl⟩ := List.mem_map.1 ht; simp only [Inl.plain?, Option.some.injEq] at hs'; subst hs'; exact hu3 u hu)
          (by rw [plen_plain, hfl]; have := ell_length raw; omega)
          (fun w p2 q n c vs RM EM hp2 hS hn hI h => hR w p2 q n c vs RM EM (by rw [← hc]; have := congrArg (fun q : PS => ({ q with s := [] } : PS)) hp2; exact this) hS hn (by
            have e : mergeM (us'.map .plain) = [.plain (ell raw)] := by rw [mergeM, mergeGo_plain, List.nil_append, flushP, if_neg hus, hfl]
            rw [← e]; exact hI) h)
        rw [hs] at this
        rw [hi]
        exact this
  have := key raw.length 0 0 [] { p with s := raw, em := 0, lq := none, ln := 0, lc := 0 } none 0 0 w (by omega) (by omega) (by omega) (Nat.le_refl _) (by simp) (by simp) rfl rfl rfl (by rw [sub_self]; simp) h
  exact this
end Go.Proofs.YtmkfleohcnopkaaGreatDoor

set_option linter.unusedVariables false
set_option maxRecDepth 20000
namespace Go.Proofs.YtmkfleohcnopkaaGreatDoor
open Go.Proofs
/- 19 (*pub-paratext/pub/rscmarkdown.Parser).Parse -/
noncomputable def g_Parser_Parse.body : Code := bodyOf Tryz.f19
def g_Parser_Parse (R : Ending → World → Prop) (x0 : Option Addr) (x1 : ByteArray) (w : World) : Prop :=
 callE P i_Parser_parse #[.pointer x0, .string x1] (fun e w2 => ∃ (r1_0 : Option Addr), ∃ (r1_1 : Bool), e = .returned (.tuple #[.pointer r1_0, .bool r1_1]) ∧
 R (.returned (.pointer r1_0)) w2) w

noncomputable def g_Parser_Parse.ac (R : Ending → World → Prop) : AC :=
  (.leaf (sel [] g_Parser_Parse.body))
theorem g_Parser_Parse.good (R : Ending → World → Prop) : Good P 14 (g_Parser_Parse.ac R) (QF P [.tmp 4] R) :=
  trivial
theorem g_Parser_Parse.eq (R : Ending → World → Prop) (x0 : Option Addr) (x1 : ByteArray) (w : World) : g_Parser_Parse R x0 x1 w = vcA P 14 (g_Parser_Parse.ac R) (QF P [.tmp 4] R) (fr0 [.pointer x0, .string x1]) w := by kernel_rfl
theorem g_Parser_Parse.sound {R : Ending → World → Prop} {x0 : Option Addr} {x1 : ByteArray} {w : World} (h : g_Parser_Parse R x0 x1 w) : callE P i_Parser_Parse #[.pointer x0, .string x1] R w :=
  callE_fin (c := g_Parser_Parse.body) Tryz.func19 Tryz.call19 (by kernel_rfl) (by kernel_rfl) (by kernel_rfl) (by kernel_rfl) (by kernel_rfl) (g_Parser_Parse.good R) (g_Parser_Parse.eq R x0 x1 w) h
end Go.Proofs.YtmkfleohcnopkaaGreatDoor

set_option linter.unusedVariables false
set_option maxRecDepth 20000
namespace Go.Proofs.YtmkfleohcnopkaaGreatDoor
open Go.Proofs
/- 8 pub-paratext/impl.HTML -/
noncomputable def g_impl_HTML.body : Code := bodyOf Tryz.f8
def g_impl_HTML (R : Ending → World → Prop) (x0_0 : Bool) (x0_1 : Bool) (x0_2 : Bool) (x0_3 : Bool) (x0_4 : Bool) (x0_5 : Bool) (x0_6 : Bool) (x0_7 : Bool) (x0_8 : Bool) (x0_9 : Bool) (x1 : ByteArray) (w : World) : Prop :=
 box w #[.bool x0_0, .bool x0_1, .bool x0_2, .bool x0_3, .bool x0_4, .bool x0_5, .bool x0_6, .bool x0_7, .bool x0_8, .bool x0_9] ty_impl_Options fun b1 w2 =>
 ∃ (v3 : Bool), w2.cell? ⟨b1, 0, none⟩ = some (.bool v3) ∧
 ∃ (v4 : Bool), w2.cell? ⟨b1, 1, none⟩ = some (.bool v4) ∧
 ∃ (v5 : Bool), w2.cell? ⟨b1, 2, none⟩ = some (.bool v5) ∧
 ∃ (v6 : Bool), w2.cell? ⟨b1, 3, none⟩ = some (.bool v6) ∧
 ∃ (v7 : Bool), w2.cell? ⟨b1, 4, none⟩ = some (.bool v7) ∧
 ∃ (v8 : Bool), w2.cell? ⟨b1, 5, none⟩ = some (.bool v8) ∧
 ∃ (v9 : Bool), w2.cell? ⟨b1, 6, none⟩ = some (.bool v9) ∧
 ∃ (v10 : Bool), w2.cell? ⟨b1, 7, none⟩ = some (.bool v10) ∧
 ∃ (v11 : Bool), w2.cell? ⟨b1, 8, none⟩ = some (.bool v11) ∧
 ∃ (v12 : Bool), w2.cell? ⟨b1, 9, none⟩ = some (.bool v12) ∧
 callE P i_impl_parser #[.agg #[.bool v3, .bool v4, .bool v5, .bool v6, .bool v7, .bool v8, .bool v9, .bool v10, .bool v11, .bool v12]] (fun e w14 => ∃ (r13 : Option Addr), e = .returned (.pointer r13) ∧
 callE P i_Parser_Parse #[.pointer r13, .string x1] (fun e w16 => ∃ (r15 : Option Addr), e = .returned (.pointer r15) ∧
 callE P i_ToHTML #[.iface ty_P_Document (.pointer r15)] (fun e w18 => ∃ (r17 : ByteArray), e = .returned (.string r17) ∧
 R (.returned (.string r17)) w18) w16) w14) w2

noncomputable def g_impl_HTML.ac (R : Ending → World → Prop) : AC :=
  (.leaf (sel [] g_impl_HTML.body))
theorem g_impl_HTML.good (R : Ending → World → Prop) : Good P 11 (g_impl_HTML.ac R) (QF P [.tmp 4] R) :=
  trivial
theorem g_impl_HTML.eq (R : Ending → World → Prop) (x0_0 : Bool) (x0_1 : Bool) (x0_2 : Bool) (x0_3 : Bool) (x0_4 : Bool) (x0_5 : Bool) (x0_6 : Bool) (x0_7 : Bool) (x0_8 : Bool) (x0_9 : Bool) (x1 : ByteArray) (w : World) : g_impl_HTML R x0_0 x0_1 x0_2 x0_3 x0_4 x0_5 x0_6 x0_7 x0_8 x0_9 x1 w = vcA P 11 (g_impl_HTML.ac R) (QF P [.tmp 4] R) (fr0 [.agg #[.bool x0_0, .bool x0_1, .bool x0_2, .bool x0_3, .bool x0_4, .bool x0_5, .bool x0_6, .bool x0_7, .bool x0_8, .bool x0_9], .string x1]) w := by kernel_rfl
theorem g_impl_HTML.sound {R : Ending → World → Prop} {x0_0 : Bool} {x0_1 : Bool} {x0_2 : Bool} {x0_3 : Bool} {x0_4 : Bool} {x0_5 : Bool} {x0_6 : Bool} {x0_7 : Bool} {x0_8 : Bool} {x0_9 : Bool} {x1 : ByteArray} {w : World} (h : g_impl_HTML R x0_0 x0_1 x0_2 x0_3 x0_4 x0_5 x0_6 x0_7 x0_8 x0_9 x1 w) : callE P i_impl_HTML #[.agg #[.bool x0_0, .bool x0_1, .bool x0_2, .bool x0_3, .bool x0_4, .bool x0_5, .bool x0_6, .bool x0_7, .bool x0_8, .bool x0_9], .string x1] R w :=
  callE_fin (c := g_impl_HTML.body) Tryz.func8 Tryz.call8 (by kernel_rfl) (by kernel_rfl) (by kernel_rfl) (by kernel_rfl) (by kernel_rfl) (g_impl_HTML.good R) (g_impl_HTML.eq R x0_0 x0_1 x0_2 x0_3 x0_4 x0_5 x0_6 x0_7 x0_8 x0_9 x1 w) h
end Go.Proofs.YtmkfleohcnopkaaGreatDoor

set_option linter.unusedVariables false
set_option maxRecDepth 20000
namespace Go.Proofs.YtmkfleohcnopkaaGreatDoor
open Go.Proofs
/- 18 pub-paratext/impl.parser -/
noncomputable def g_impl_parser.body : Code := bodyOf Tryz.f18
def g_impl_parser (R : Ending → World → Prop) (x0_0 : Bool) (x0_1 : Bool) (x0_2 : Bool) (x0_3 : Bool) (x0_4 : Bool) (x0_5 : Bool) (x0_6 : Bool) (x0_7 : Bool) (x0_8 : Bool) (x0_9 : Bool) (w : World) : Prop :=
 box w #[.bool x0_0, .bool x0_1, .bool x0_2, .bool x0_3, .bool x0_4, .bool x0_5, .bool x0_6, .bool x0_7, .bool x0_8, .bool x0_9] ty_impl_Options fun b1 w2 =>
 ∃ (v3 : Bool), w2.cell? ⟨b1, 8, none⟩ = some (.bool v3) ∧
 ∃ (v4 : Bool), w2.cell? ⟨b1, 0, none⟩ = some (.bool v4) ∧
 ∃ (v5 : Bool), w2.cell? ⟨b1, 1, none⟩ = some (.bool v5) ∧
 ∃ (v6 : Bool), w2.cell? ⟨b1, 2, none⟩ = some (.bool v6) ∧
 ∃ (v7 : Bool), w2.cell? ⟨b1, 3, none⟩ = some (.bool v7) ∧
 ∃ (v8 : Bool), w2.cell? ⟨b1, 4, none⟩ = some (.bool v8) ∧
 ∃ (v9 : Bool), w2.cell? ⟨b1, 9, none⟩ = some (.bool v9) ∧
 ∃ (v10 : Bool), w2.cell? ⟨b1, 5, none⟩ = some (.bool v10) ∧
 ∃ (v11 : Bool), w2.cell? ⟨b1, 6, none⟩ = some (.bool v11) ∧
 ∃ (v12 : Bool), w2.cell? ⟨b1, 7, none⟩ = some (.bool v12) ∧
 box w2 #[.bool v3, .bool v4, .bool v5, .bool v6, .bool v7, .bool v8, .bool v9, .bool v10, .bool v11, .bool v12] ty_Parser fun b13 w14 =>
 R (.returned (.pointer (some ⟨b13, 0, none⟩))) w14

noncomputable def g_impl_parser.ac (R : Ending → World → Prop) : AC :=
  (.leaf (sel [] g_impl_parser.body))
theorem g_impl_parser.good (R : Ending → World → Prop) : Good P 25 (g_impl_parser.ac R) (QF P [.tmp 2] R) :=
  trivial
theorem g_impl_parser.eq (R : Ending → World → Prop) (x0_0 : Bool) (x0_1 : Bool) (x0_2 : Bool) (x0_3 : Bool) (x0_4 : Bool) (x0_5 : Bool) (x0_6 : Bool) (x0_7 : Bool) (x0_8 : Bool) (x0_9 : Bool) (w : World) : g_impl_parser R x0_0 x0_1 x0_2 x0_3 x0_4 x0_5 x0_6 x0_7 x0_8 x0_9 w = vcA P 25 (g_impl_parser.ac R) (QF P [.tmp 2] R) (fr0 [.agg #[.bool x0_0, .bool x0_1, .bool x0_2, .bool x0_3, .bool x0_4, .bool x0_5, .bool x0_6, .bool x0_7, .bool x0_8, .bool x0_9]]) w := by kernel_rfl
theorem g_impl_parser.sound {R : Ending → World → Prop} {x0_0 : Bool} {x0_1 : Bool} {x0_2 : Bool} {x0_3 : Bool} {x0_4 : Bool} {x0_5 : Bool} {x0_6 : Bool} {x0_7 : Bool} {x0_8 : Bool} {x0_9 : Bool} {w : World} (h : g_impl_parser R x0_0 x0_1 x0_2 x0_3 x0_4 x0_5 x0_6 x0_7 x0_8 x0_9 w) : callE P i_impl_parser #[.agg #[.bool x0_0, .bool x0_1, .bool x0_2, .bool x0_3, .bool x0_4, .bool x0_5, .bool x0_6, .bool x0_7, .bool x0_8, .bool x0_9]] R w :=
  callE_fin (c := g_impl_parser.body) Tryz.func18 Tryz.call18 (by kernel_rfl) (by kernel_rfl) (by kernel_rfl) (by kernel_rfl) (by kernel_rfl) (g_impl_parser.good R) (g_impl_parser.eq R x0_0 x0_1 x0_2 x0_3 x0_4 x0_5 x0_6 x0_7 x0_8 x0_9 w) h
end Go.Proofs.YtmkfleohcnopkaaGreatDoor

set_option linter.unusedVariables false
set_option maxRecDepth 20000
namespace Go.Proofs.YtmkfleohcnopkaaGreatDoor
open Go.Proofs
/- 20 pub-paratext/laws.headed -/
noncomputable def g_laws_headed.body : Code := bodyOf Tryz.f20
def g_laws_headed (R : Ending → World → Prop) (x0 : ByteArray) (x1 : ByteArray) (w : World) : Prop :=
 br (decide ((x0.size : Int) ≥ (x1.size : Int)))
 (0 ≤ (x1.size : Int) ∧ (x1.size : Int) ≤ (x0.size : Int) ∧
 R (.returned (.bool ((x0.extract 0 (Int.toNat (x1.size : Int))).toList == x1.toList))) w)
 (R (.returned (.bool false)) w)

noncomputable def g_laws_headed.ac (R : Ending → World → Prop) : AC :=
  (.leaf (sel [] g_laws_headed.body))
theorem g_laws_headed.good (R : Ending → World → Prop) : Good P 18 (g_laws_headed.ac R) (QF P [.tmp 4] R) :=
  trivial
theorem g_laws_headed.eq (R : Ending → World → Prop) (x0 : ByteArray) (x1 : ByteArray) (w : World) : g_laws_headed R x0 x1 w = vcA P 18 (g_laws_headed.ac R) (QF P [.tmp 4] R) (fr0 [.string x0, .string x1]) w := by kernel_rfl
theorem g_laws_headed.sound {R : Ending → World → Prop} {x0 : ByteArray} {x1 : ByteArray} {w : World} (h : g_laws_headed R x0 x1 w) : callE P i_laws_headed #[.string x0, .string x1] R w :=
  callE_fin (c := g_laws_headed.body) Tryz.func20 Tryz.call20 (by kernel_rfl) (by kernel_rfl) (by kernel_rfl) (by kernel_rfl) (by kernel_rfl) (g_laws_headed.good R) (g_laws_headed.eq R x0 x1 w) h
end Go.Proofs.YtmkfleohcnopkaaGreatDoor

set_option linter.unusedVariables false
set_option maxRecDepth 20000
namespace Go.Proofs.YtmkfleohcnopkaaGreatDoor
open Go.Proofs
/- 7 pub-paratext/laws.only -/
noncomputable def g_laws_only.body : Code := bodyOf Tryz.f7
def g_laws_only.bl1 (R : Ending → World → Prop) (X1_1_0_1_0 : ByteArray → ByteArray → Int → Int → World → Prop) (x0 : ByteArray) (x1 : ByteArray) (x13 : Int) (x14 : Int) (w : World) : Prop :=
 br (decide (x14 < x13))
 (0 ≤ x14 ∧ x14 < (x0.size : Int) ∧
 callE P i_strings_IndexByte #[.string x1, .int .u8 (bt x0 x14)] (fun e w2 => ∃ (r1 : Int), e = .returned (.int .i64 r1) ∧
 br (decide (r1 < 0))
 (R (.returned (.bool false)) w2)
 (X1_1_0_1_0 x0 x1 x13 (IntKind.i64.wrap (x14 + 1)) w2)) w)
 (R (.returned (.bool true)) w)
def g_laws_only.l1 (R : Ending → World → Prop) (x0 : ByteArray) (x1 : ByteArray) (x13 : Int) (x14 : Int) (w : World) : Prop :=
  ∀ X : ByteArray → ByteArray → Int → Int → World → Prop, (∀ x0 x1 x13 x14 w, g_laws_only.bl1 R X x0 x1 x13 x14 w → X x0 x1 x13 x14 w) → X x0 x1 x13 x14 w

noncomputable def g_laws_only.al1 (R : Ending → World → Prop) (X1_1_0_1_0 : ByteArray → ByteArray → Int → Int → World → Prop) : AC :=
  (.leaf (sel [1, 1, 0, 1, 0, 0] g_laws_only.body))
def g_laws_only (R : Ending → World → Prop) (x0 : ByteArray) (x1 : ByteArray) (x2 : Int) (w : World) : Prop :=
 br (decide ((x0.size : Int) > x2))
 (R (.returned (.bool false)) w)
 (g_laws_only.l1 R x0 x1 (x0.size : Int) 0 w)

noncomputable def g_laws_only.ac (R : Ending → World → Prop) : AC :=
  (.seq (.leaf (sel [0] g_laws_only.body)) (.seq (.leaf (sel [1, 0] g_laws_only.body)) (.seq (.seq (.leaf (sel [1, 1, 0, 0] g_laws_only.body)) (.block 0 (.loop (leaf [(0, .s .str), (1, .s .str), (13, .s (.int .i64)), (14, .s (.int .i64))] (g_laws_only.l1 R)) (sel [1, 1, 0, 1, 0, 0] g_laws_only.body)))) (.leaf (sel [1, 1, 1] g_laws_only.body)))))
theorem g_laws_only.good (R : Ending → World → Prop) : Good P 24 (g_laws_only.ac R) (QF P [.tmp 6] R) :=
  ⟨trivial, ⟨trivial, ⟨⟨trivial, (loopG (g_laws_only.al1 R) (g_laws_only.bl1 R) (fun _ => by kernel_rfl) (fun X1_1_0_1_0 => trivial) (fun X1_1_0_1_0 => by intro x0 x1 x13 x14 ρ w; kernel_rfl) (fun X h _ _ _ _ _ g => g X h))⟩, trivial⟩⟩⟩
theorem g_laws_only.eq (R : Ending → World → Prop) (x0 : ByteArray) (x1 : ByteArray) (x2 : Int) (w : World) : g_laws_only R x0 x1 x2 w = vcA P 24 (g_laws_only.ac R) (QF P [.tmp 6] R) (fr0 [.string x0, .string x1, .int .i64 x2]) w := by kernel_rfl
theorem g_laws_only.sound {R : Ending → World → Prop} {x0 : ByteArray} {x1 : ByteArray} {x2 : Int} {w : World} (h : g_laws_only R x0 x1 x2 w) : callE P i_laws_only #[.string x0, .string x1, .int .i64 x2] R w :=
  callE_fin (c := g_laws_only.body) Tryz.func7 Tryz.call7 (by kernel_rfl) (by kernel_rfl) (by kernel_rfl) (by kernel_rfl) (by kernel_rfl) (g_laws_only.good R) (g_laws_only.eq R x0 x1 x2 w) h
end Go.Proofs.YtmkfleohcnopkaaGreatDoor

set_option linter.unusedVariables false
set_option maxRecDepth 20000
namespace Go.Proofs.YtmkfleohcnopkaaGreatDoor
open Go.Proofs
/- 30 (*pub-paratext/pub/rscmarkdown.Parser).parse -/
noncomputable def g_Parser_parse.body : Code := bodyOf Tryz.f30
def g_Parser_parse.k3 (R : Ending → World → Prop) (X1_1_1_1_1_1_0_0 : Option Addr → ByteArray → Nat → World → Prop) (x0 : Option Addr) (x1 : ByteArray) (x6 : Nat) (x7 : ByteArray) (x10 : Int) (w : World) : Prop :=
 ∃ (v33 : Int), w.cell? ⟨x6, 3, none⟩ = some (.int .i64 v33) ∧
 stV w ⟨x6, 3, none⟩ (.int .i64 (IntKind.i64.wrap (v33 + 1))) fun w34 =>
 callE P i_parseState_addLine #[.pointer (some ⟨x6, 0, none⟩), .agg #[.int .i64 0, .int .i64 0, .int .i64 0, .string x7, .int .u8 x10]] (fun e w36 => e = .returned (.tuple #[]) ∧
 X1_1_1_1_1_1_0_0 x0 x1 x6 w36) w34

def g_Parser_parse.k4 (R : Ending → World → Prop) (x6 : Nat) (w : World) : Prop :=
 tk w fun w41 =>
 ∃ (v42 : Option Addr), w41.cell? ⟨x6, 1, none⟩ = some (.pointer v42) ∧
 ∃ (v43 : Bool), w41.cell? ⟨x6, 6, none⟩ = some (.bool v43) ∧
 R (.returned (.tuple #[.pointer v42, .bool v43])) w41

def g_Parser_parse.k2 (R : Ending → World → Prop) (X1_1_1_1_1_1_0_0 : Option Addr → ByteArray → Nat → World → Prop) (x0 : Option Addr) (x1 : ByteArray) (x6 : Nat) (x8 : Int) (x9 : Int) (x10 : Int) (x34 : Bool) (w : World) : Prop :=
 br x34
 (0 ≤ x9 ∧ x9 ≤ (x1.size : Int) ∧
 br (x8 == (IntKind.i64.wrap (x9 + 1)))
 (0 ≤ (IntKind.i64.wrap (x9 + 2)) ∧ (IntKind.i64.wrap (x9 + 2)) ≤ (x1.size : Int) ∧
 g_Parser_parse.k3 R X1_1_1_1_1_1_0_0 x0 (x1.extract (Int.toNat (IntKind.i64.wrap (x9 + 2))) x1.size) x6 (x1.extract 0 (Int.toNat x9)) 23 w)
 (0 ≤ (IntKind.i64.wrap (x9 + 1)) ∧ (IntKind.i64.wrap (x9 + 1)) ≤ (x1.size : Int) ∧
 g_Parser_parse.k3 R X1_1_1_1_1_1_0_0 x0 (x1.extract (Int.toNat (IntKind.i64.wrap (x9 + 1))) x1.size) x6 (x1.extract 0 (Int.toNat x9)) 13 w))
 (br (decide (x8 ≥ 0))
 (tk w fun w21 =>
 0 ≤ x8 ∧ x8 ≤ (x1.size : Int) ∧
 0 ≤ (IntKind.i64.wrap (x8 + 1)) ∧ (IntKind.i64.wrap (x8 + 1)) ≤ (x1.size : Int) ∧
 g_Parser_parse.k3 R X1_1_1_1_1_1_0_0 x0 (x1.extract (Int.toNat (IntKind.i64.wrap (x8 + 1))) x1.size) x6 (x1.extract 0 (Int.toNat x8)) 10 w21)
 (g_Parser_parse.k3 R X1_1_1_1_1_1_0_0 x0 (ByteArray.mk #[]) x6 x1 x10 w))

def g_Parser_parse.bl3 (R : Ending → World → Prop) (X1_1_1_1_1_1_1_1_1_0_1_0_1_0 : Nat → Option Addr → Nat → Nat → Int → Int → World → Prop) (x6 : Nat) (x101q : Option Addr) (x101n : Nat) (x101c : Nat) (x102 : Int) (x103 : Int) (w : World) : Prop :=
 br (decide (x103 < x102))
 (0 ≤ x103 ∧ x103 < (x101n : Int) ∧
 nilP x101q fun a37 =>
 ∃ (v38 : Option Addr), w.cell? (a37.add (Int.toNat x103 * 1)) = some (.pointer v38) ∧
 callE P i_parseState_taskList #[.pointer (some ⟨x6, 0, none⟩), .pointer v38] (fun e w40 => e = .returned (.tuple #[]) ∧
 X1_1_1_1_1_1_1_1_1_0_1_0_1_0 x6 x101q x101n x101c x102 (IntKind.i64.wrap (x103 + 1)) w40) w)
 (g_Parser_parse.k4 R x6 w)
def g_Parser_parse.l3 (R : Ending → World → Prop) (x6 : Nat) (x101q : Option Addr) (x101n : Nat) (x101c : Nat) (x102 : Int) (x103 : Int) (w : World) : Prop :=
  ∀ X : Nat → Option Addr → Nat → Nat → Int → Int → World → Prop, (∀ x6 x101q x101n x101c x102 x103 w, g_Parser_parse.bl3 R X x6 x101q x101n x101c x102 x103 w → X x6 x101q x101n x101c x102 x103 w) → X x6 x101q x101n x101c x102 x103 w

noncomputable def g_Parser_parse.al3 (R : Ending → World → Prop) (X1_1_1_1_1_1_1_1_1_0_1_0_1_0 : Nat → Option Addr → Nat → Nat → Int → Int → World → Prop) : AC :=
  (.leaf (sel [1, 1, 1, 1, 1, 1, 1, 1, 1, 0, 1, 0, 1, 0, 0] g_Parser_parse.body))
def g_Parser_parse.bl2 (R : Ending → World → Prop) (X1_1_1_1_1_1_1_1_0_1_0 : Option Addr → Nat → Option Addr → Nat → Nat → Int → Int → World → Prop) (x0 : Option Addr) (x6 : Nat) (x81q : Option Addr) (x81n : Nat) (x81c : Nat) (x82 : Int) (x83 : Int) (w : World) : Prop :=
 br (decide (x83 < x82))
 (0 ≤ x83 ∧ x83 < (x81n : Int) ∧
 nilP x81q fun a22 =>
 ∃ (v23 : Option Addr), w.cell? (a22.add (Int.toNat x83 * 1)) = some (.pointer v23) ∧
 nilP v23 fun a24 =>
 ∃ (v25 : ByteArray), w.cell? (a24.add 3) = some (.string v25) ∧
 callE P i_parseState_inline #[.pointer (some ⟨x6, 0, none⟩), .string v25] (fun e w27 => ∃ (r26q : Option Addr), ∃ (r26n : Nat), ∃ (r26c : Nat), e = .returned (.slice r26q r26n r26c) ∧
 nilP v23 fun a28 =>
 stV w27 ((a28.add 2).add 0) (.slice r26q r26n r26c) fun w29 =>
 X1_1_1_1_1_1_1_1_0_1_0 x0 x6 x81q x81n x81c x82 (IntKind.i64.wrap (x83 + 1)) w29) w)
 (nilP x0 fun a30 =>
 ∃ (v31 : Bool), w.cell? (a30.add 2) = some (.bool v31) ∧
 br v31
 (∃ (v32q : Option Addr), ∃ (v32n : Nat), ∃ (v32c : Nat), w.cell? ⟨x6, 10, none⟩ = some (.slice v32q v32n v32c) ∧
 g_Parser_parse.l3 R x6 v32q v32n v32c (v32n : Int) 0 w)
 (g_Parser_parse.k4 R x6 w))
def g_Parser_parse.l2 (R : Ending → World → Prop) (x0 : Option Addr) (x6 : Nat) (x81q : Option Addr) (x81n : Nat) (x81c : Nat) (x82 : Int) (x83 : Int) (w : World) : Prop :=
  ∀ X : Option Addr → Nat → Option Addr → Nat → Nat → Int → Int → World → Prop, (∀ x0 x6 x81q x81n x81c x82 x83 w, g_Parser_parse.bl2 R X x0 x6 x81q x81n x81c x82 x83 w → X x0 x6 x81q x81n x81c x82 x83 w) → X x0 x6 x81q x81n x81c x82 x83 w

noncomputable def g_Parser_parse.al2 (R : Ending → World → Prop) (X1_1_1_1_1_1_1_1_0_1_0 : Option Addr → Nat → Option Addr → Nat → Nat → Int → Int → World → Prop) : AC :=
  (.leaf (sel [1, 1, 1, 1, 1, 1, 1, 1, 0, 1, 0, 0] g_Parser_parse.body))
def g_Parser_parse.bl1 (R : Ending → World → Prop) (X1_1_1_1_1_1_0_0 : Option Addr → ByteArray → Nat → World → Prop) (x0 : Option Addr) (x1 : ByteArray) (x6 : Nat) (w : World) : Prop :=
 br (!(x1.toList == (ByteArray.mk #[]).toList))
 (callE P i_zzIndex #[.string x1, .string (ByteArray.mk #[10])] (fun e w15 => ∃ (r14 : Int), e = .returned (.int .i64 r14) ∧
 callE P i_zzIndex #[.string x1, .string (ByteArray.mk #[13])] (fun e w17 => ∃ (r16 : Int), e = .returned (.int .i64 r16) ∧
 g_Parser_parse.k2 R X1_1_1_1_1_1_0_0 x0 x1 x6 r14 r16 0 ((decide (r16 ≥ 0)) && ((decide (r14 < 0)) || (decide (r16 < r14)))) w17) w15) w)
 (callE P i_parseState_trimStack #[.pointer (some ⟨x6, 0, none⟩), .int .i64 0] (fun e w19 => e = .returned (.tuple #[]) ∧
 ∃ (v20q : Option Addr), ∃ (v20n : Nat), ∃ (v20c : Nat), w19.cell? ⟨x6, 11, none⟩ = some (.slice v20q v20n v20c) ∧
 g_Parser_parse.l2 R x0 x6 v20q v20n v20c (v20n : Int) 0 w19) w)
def g_Parser_parse.l1 (R : Ending → World → Prop) (x0 : Option Addr) (x1 : ByteArray) (x6 : Nat) (w : World) : Prop :=
  ∀ X : Option Addr → ByteArray → Nat → World → Prop, (∀ x0 x1 x6 w, g_Parser_parse.bl1 R X x0 x1 x6 w → X x0 x1 x6 w) → X x0 x1 x6 w

noncomputable def g_Parser_parse.al1 (R : Ending → World → Prop) (X1_1_1_1_1_1_0_0 : Option Addr → ByteArray → Nat → World → Prop) : AC :=
  (.seq (.leaf (sel [1, 1, 1, 1, 1, 1, 0, 0, 0, 0] g_Parser_parse.body)) (.block 1 (.seq (.leaf (sel [1, 1, 1, 1, 1, 1, 0, 0, 0, 1, 0, 0] g_Parser_parse.body)) (.seq (.leaf (sel [1, 1, 1, 1, 1, 1, 0, 0, 0, 1, 0, 1, 0] g_Parser_parse.body)) (.seq (.leaf (sel [1, 1, 1, 1, 1, 1, 0, 0, 0, 1, 0, 1, 1, 0] g_Parser_parse.body)) (.seq (.leaf (sel [1, 1, 1, 1, 1, 1, 0, 0, 0, 1, 0, 1, 1, 1, 0] g_Parser_parse.body)) (.seq (.block 2 (.seq (.leaf (sel [1, 1, 1, 1, 1, 1, 0, 0, 0, 1, 0, 1, 1, 1, 1, 0, 0, 0] g_Parser_parse.body)) (.mark (leaf [(0, .s .ptr), (1, .s .str), (6, .s .loc), (8, .s (.int .i64)), (9, .s (.int .i64)), (10, .s (.int .u8)), (34, .s .bool)] (g_Parser_parse.k2 R X1_1_1_1_1_1_0_0)) (.cond 34 (.leaf (sel [1, 1, 1, 1, 1, 1, 0, 0, 0, 1, 0, 1, 1, 1, 1, 0, 0, 1, 0] g_Parser_parse.body)) (.seq (.leaf (sel [1, 1, 1, 1, 1, 1, 0, 0, 0, 1, 0, 1, 1, 1, 1, 0, 0, 1, 1, 0] g_Parser_parse.body)) (.cond 61 (.seq (.draw (.pure 0 (.pure 1 (.pure 2 (.pure 3 (.pure 4 (.pure 5 (.pure 6 (.pure 7 (.pure 8 .done))))))))) (sel [1, 1, 1, 1, 1, 1, 0, 0, 0, 1, 0, 1, 1, 1, 1, 0, 0, 1, 1, 1, 0, 0] g_Parser_parse.body)) (.leaf (sel [1, 1, 1, 1, 1, 1, 0, 0, 0, 1, 0, 1, 1, 1, 1, 0, 0, 1, 1, 1, 0, 1] g_Parser_parse.body))) (.leaf (sel [1, 1, 1, 1, 1, 1, 0, 0, 0, 1, 0, 1, 1, 1, 1, 0, 0, 1, 1, 1, 1] g_Parser_parse.body)))))))) (.mark (leaf [(0, .s .ptr), (1, .s .str), (6, .s .loc), (7, .s .str), (10, .s (.int .u8))] (g_Parser_parse.k3 R X1_1_1_1_1_1_0_0)) (.leaf (sel [1, 1, 1, 1, 1, 1, 0, 0, 0, 1, 0, 1, 1, 1, 1, 1] g_Parser_parse.body))))))))))
def g_Parser_parse.k1 (R : Ending → World → Prop) (x0 : Option Addr) (x1 : ByteArray) (x6 : Nat) (w : World) : Prop :=
 stV w ⟨x6, 5, none⟩ (.int .i64 (-1)) fun w9 =>
 box w9 #[] ty_rootBuilder fun b10 w11 =>
 callE P i_parseState_addBlock #[.pointer (some ⟨x6, 0, none⟩), .iface ty_P_rootBuilder (.pointer (some ⟨b10, 0, none⟩))] (fun e w13 => e = .returned (.tuple #[]) ∧
 g_Parser_parse.l1 R x0 x1 x6 w13) w11

def g_Parser_parse (R : Ending → World → Prop) (x0 : Option Addr) (x1 : ByteArray) (w : World) : Prop :=
 box w #[.pointer none, .pointer none, .map none, .int .i64 0, .slice none 0 0, .int .i64 0, .bool false, .string (ByteArray.mk #[]), .int .i64 0, .slice none 0 0, .slice none 0 0, .slice none 0 0, .int .i64 0, .int .i64 0, .int .i64 0, .int .i64 0, .int .i64 0, .int .i64 0, .int .i64 0, .int .i64 0, .int .i64 0, .int .i64 0, .int .i64 0, .int .i64 0, .int .i64 0, .int .i64 0, .int .i64 0, .int .i64 0, .int .i64 0, .int .i64 0, .int .i64 0, .int .i64 0, .int .i64 0, .int .i64 0, .int .i64 0, .int .i64 0, .int .i64 0, .int .i64 0, .int .i64 0, .int .i64 0, .int .i64 0, .int .i64 0, .int .i64 0, .int .i64 0, .int .i64 0, .int .i64 0, .int .i64 0, .int .i64 0, .int .i64 0, .int .i64 0, .int .i64 0, .int .i64 0, .int .i64 0, .int .i64 0, .int .i64 0, .int .i64 0, .int .i64 0, .int .i64 0, .int .i64 0, .int .i64 0, .int .i64 0, .int .i64 0, .int .i64 0, .int .i64 0, .int .i64 0, .int .i64 0, .int .i64 0, .int .i64 0, .int .i64 0, .int .i64 0, .int .i64 0, .int .i64 0, .int .i64 0, .int .i64 0, .int .i64 0, .int .i64 0, .int .i64 0, .int .i64 0, .int .i64 0, .int .i64 0, .int .i64 0, .int .i64 0, .int .i64 0, .int .i64 0, .int .i64 0, .int .i64 0, .int .i64 0, .int .i64 0, .int .i64 0, .int .i64 0, .int .i64 0, .int .i64 0, .bool false] ty_parseState fun b1 w2 =>
 stV w2 ⟨b1, 0, none⟩ (.pointer x0) fun w3 =>
 callE P i_zzContains #[.string x1, .string (ByteArray.mk #[0])] (fun e w5 => ∃ (r4 : Bool), e = .returned (.bool r4) ∧
 br r4
 (callE P i_zzReplaceAll #[.string x1, .string (ByteArray.mk #[0]), .string (ByteArray.mk #[239, 191, 189])] (fun e w7 => ∃ (r6 : ByteArray), e = .returned (.string r6) ∧
 stV w7 ⟨b1, 6, none⟩ (.bool true) fun w8 =>
 g_Parser_parse.k1 R x0 r6 b1 w8) w5)
 (g_Parser_parse.k1 R x0 x1 b1 w5)) w3

noncomputable def g_Parser_parse.ac (R : Ending → World → Prop) : AC :=
  (.seq (.leaf (sel [0] g_Parser_parse.body)) (.seq (.leaf (sel [1, 0] g_Parser_parse.body)) (.seq (.leaf (sel [1, 1, 0] g_Parser_parse.body)) (.seq (.leaf (sel [1, 1, 1, 0] g_Parser_parse.body)) (.mark (leaf [(0, .s .ptr), (1, .s .str), (6, .s .loc)] (g_Parser_parse.k1 R)) (.seq (.leaf (sel [1, 1, 1, 1, 0] g_Parser_parse.body)) (.seq (.leaf (sel [1, 1, 1, 1, 1, 0] g_Parser_parse.body)) (.seq (.block 0 (.loop (leaf [(0, .s .ptr), (1, .s .str), (6, .s .loc)] (g_Parser_parse.l1 R)) (sel [1, 1, 1, 1, 1, 1, 0, 0, 0] g_Parser_parse.body))) (.seq (.leaf (sel [1, 1, 1, 1, 1, 1, 1, 0] g_Parser_parse.body)) (.seq (.seq (.leaf (sel [1, 1, 1, 1, 1, 1, 1, 1, 0, 0] g_Parser_parse.body)) (.block 3 (.loop (leaf [(0, .s .ptr), (6, .s .loc), (81, .s .slice), (82, .s (.int .i64)), (83, .s (.int .i64))] (g_Parser_parse.l2 R)) (sel [1, 1, 1, 1, 1, 1, 1, 1, 0, 1, 0, 0] g_Parser_parse.body)))) (.seq (.seq (.leaf (sel [1, 1, 1, 1, 1, 1, 1, 1, 1, 0, 0] g_Parser_parse.body)) (.cond 99 (.seq (.leaf (sel [1, 1, 1, 1, 1, 1, 1, 1, 1, 0, 1, 0, 0] g_Parser_parse.body)) (.block 5 (.loop (leaf [(6, .s .loc), (101, .s .slice), (102, .s (.int .i64)), (103, .s (.int .i64))] (g_Parser_parse.l3 R)) (sel [1, 1, 1, 1, 1, 1, 1, 1, 1, 0, 1, 0, 1, 0, 0] g_Parser_parse.body)))) (.leaf (sel [1, 1, 1, 1, 1, 1, 1, 1, 1, 0, 1, 1] g_Parser_parse.body)))) (.mark (leaf [(6, .s .loc)] (g_Parser_parse.k4 R)) (.seq (.draw (.pure 0 (.pure 2 (.load 1 (.pure 4 (.load 3 (.pure 5 .done)))))) (sel [1, 1, 1, 1, 1, 1, 1, 1, 1, 1, 0] g_Parser_parse.body)) (.leaf (sel [1, 1, 1, 1, 1, 1, 1, 1, 1, 1, 1] g_Parser_parse.body)))))))))))))))
theorem g_Parser_parse.good (R : Ending → World → Prop) : Good P 114 (g_Parser_parse.ac R) (QF P [.tmp 4, .tmp 5] R) :=
  ⟨trivial, ⟨trivial, ⟨trivial, ⟨trivial, ⟨⟨trivial, ⟨trivial, ⟨(loopG (g_Parser_parse.al1 R) (g_Parser_parse.bl1 R) (fun _ => by kernel_rfl) (fun X1_1_1_1_1_1_0_0 => ⟨trivial, ⟨trivial, ⟨trivial, ⟨trivial, ⟨trivial, ⟨⟨trivial, ⟨⟨trivial, ⟨trivial, ⟨⟨⟨by kernel_rfl, by kernel_rfl, fun _ _ _ h => h⟩, trivial⟩, trivial⟩⟩⟩, cutE (by intro x0 x1 x6 x8 x9 x10 x34 ρ w; kernel_rfl)⟩⟩, ⟨trivial, cutE (by intro x0 x1 x6 x7 x10 ρ w; kernel_rfl)⟩⟩⟩⟩⟩⟩⟩) (fun X1_1_1_1_1_1_0_0 => by intro x0 x1 x6 ρ w; kernel_rfl) (fun X h _ _ _ _ g => g X h)), ⟨trivial, ⟨⟨trivial, (loopG (g_Parser_parse.al2 R) (g_Parser_parse.bl2 R) (fun _ => by kernel_rfl) (fun X1_1_1_1_1_1_1_1_0_1_0 => trivial) (fun X1_1_1_1_1_1_1_1_0_1_0 => by intro x0 x6 x81q x81n x81c x82 x83 ρ w; kernel_rfl) (fun X h _ _ _ _ _ _ _ _ g => g X h))⟩, ⟨⟨trivial, ⟨⟨trivial, (loopG (g_Parser_parse.al3 R) (g_Parser_parse.bl3 R) (fun _ => by kernel_rfl) (fun X1_1_1_1_1_1_1_1_1_0_1_0_1_0 => trivial) (fun X1_1_1_1_1_1_1_1_1_0_1_0_1_0 => by intro x6 x101q x101n x101c x102 x103 ρ w; kernel_rfl) (fun X h _ _ _ _ _ _ _ g => g X h))⟩, trivial⟩⟩, ⟨⟨⟨by kernel_rfl, by kernel_rfl, fun _ _ _ h => h⟩, trivial⟩, cutE (by intro x6 ρ w; kernel_rfl)⟩⟩⟩⟩⟩⟩⟩, cutE (by intro x0 x1 x6 ρ w; kernel_rfl)⟩⟩⟩⟩⟩
theorem g_Parser_parse.eq (R : Ending → World → Prop) (x0 : Option Addr) (x1 : ByteArray) (w : World) : g_Parser_parse R x0 x1 w = vcA P 114 (g_Parser_parse.ac R) (QF P [.tmp 4, .tmp 5] R) (fr0 [.pointer x0, .string x1]) w := by kernel_rfl
theorem g_Parser_parse.sound {R : Ending → World → Prop} {x0 : Option Addr} {x1 : ByteArray} {w : World} (h : g_Parser_parse R x0 x1 w) : callE P i_Parser_parse #[.pointer x0, .string x1] R w :=
  callE_fin (c := g_Parser_parse.body) Tryz.func30 Tryz.call30 (by kernel_rfl) (by kernel_rfl) (by kernel_rfl) (by kernel_rfl) (by kernel_rfl) (g_Parser_parse.good R) (g_Parser_parse.eq R x0 x1 w) h
end Go.Proofs.YtmkfleohcnopkaaGreatDoor

/- A document of one line that is a paragraph: parse and print. -/
set_option linter.unusedVariables false
namespace Go.Proofs.YtmkfleohcnopkaaGreatDoor
open Go.Proofs Go.IntWalk Go.RowKit
variable {σ : Out} {w : World} {L L' : List Chunk} {R : Ending → World → Prop}
def PS.coreS (p : PS) : PS := ({ p with s := [] } : PS).core
/-- The inlines of the text s print themselves by f. -/
def InlineOK (op : Opt) (s : List UInt8) (f : List UInt8 → List UInt8) : Prop :=
  ∀ (σ : Out) (R : Ending → World → Prop) (b pb : Nat) (p : PS) (L : List Chunk) (w : World), Sat σ w (p.at b :: L) → p.pz = some ⟨pb, 0, none⟩ → op.at pb ∈ L → p.links = none →
    (∀ w (p' : PS) q n c vs RM KM KM', p'.coreS = p.coreS → Sl 1 ty_Inline q n c vs RM → n < 1073741824 → PrintsL "PrintHTML" vs KM KM' f → Sat σ w (p'.at b :: (RM ++ (KM ++ L))) → R (.returned (.slice q n c)) w) →
    callE P i_parseState_inline #[.pointer (some ⟨b, 0, none⟩), .string (bs s)] R w
def PS0 (pz : Option Addr) : PS := ⟨pz, none, none, 0, none, 0, 0, 0, false, [], 0, none, 0, 0, none, 0, 0, none, 0, 0, List.replicate 80 (.int .i64 0) ++ [.bool false]⟩
def lnOf (s : List UInt8) : Ln := ⟨0, 0, 0, s, 0⟩
theorem parseLine_ok {pb : Nat} {op : Opt} {raw : List UInt8} {f : List UInt8 → List UInt8} (h : Sat σ w L) (ho : op.at pb ∈ L) (hp : (lnOf raw).plain) (hlen : raw.length < 1000000) (h0 : idx raw [0] = none) (h10 : idx raw [10] = none) (h13 : idx raw [13] = none)
    (hne : raw.dropWhile isST ≠ []) (hb : ((raw.dropWhile isST).dropWhile isSTN).head? ≠ some 91) (hI : InlineOK op (raw.dropWhile isST) f)
    (hR : ∀ w db k DM DM', Prints "PrintHTML" (.iface ty_P_Document (.pointer (some ⟨db, 0, none⟩))) DM DM' (fun l => f (l ++ pOpen) ++ pClose) → Sat σ w (DM ++ L) → R (.returned (.tuple #[.pointer (some ⟨db, 0, none⟩), .bool k])) w) :
    callE P i_Parser_parse #[.pointer (some ⟨pb, 0, none⟩), .string (bs raw)] R w := by
  have hrl : raw ≠ [] := by intro h; subst h; exact hne rfl
  refine g_Parser_parse.sound ?_
  refine Sat.bx h fun b w h => ?_
  refine Sat.st h (k := 0) rfl (Nat.le_of_ble_eq_true rfl) trivial (by first | (dsimp only [List.set]; exact rfl) | exact rfl) fun w h => ?_
  have h : Sat σ w ((PS0 (some ⟨pb, 0, none⟩)).at b :: L) := h
  refine zzContains_ok (sub := [0]) (by omega) (by decide) ⟨_, rfl, ?_⟩
  rw [h0]
  refine br_false rfl ?_
  refine Sat.st h (k := 0) rfl (Nat.le_of_ble_eq_true rfl) trivial (by first | (dsimp only [List.set]; exact rfl) | exact rfl) fun w h => ?_
  refine Sat.bx h fun rb w h => ?_
  let p0 : PS := { PS0 (some ⟨pb, 0, none⟩) with depth := -1 }
  have h : Sat σ w (p0.at b :: [] ++ ((rb, cel [] ty_rootBuilder) :: L)) := h.up1
  have hstk : Stk p0 [] [] := ⟨Sl.nil 4 ty_openBlock, rfl, by simp⟩
  refine addBlock_ok h hstk rfl (by decide) fun w p1 M hp1 hs1 h => ⟨rfl, ?_⟩
  intro X hX
  refine hX _ _ _ _ (br_true (by rw [bs_toList]; simpa using hrl) ?_)
  refine zzIndex_ok (sub := [10]) (by omega) (by decide) ⟨_, rfl, ?_⟩
  refine zzIndex_ok (sub := [13]) (by omega) (by decide) ⟨_, rfl, ?_⟩
  have e10 : idxInt raw [10] = -1 := by unfold idxInt; rw [h10]
  have e13 : idxInt raw [13] = -1 := by unfold idxInt; rw [h13]
  rw [e10, e13]
  refine br_false rfl (br_false rfl ?_)
  have e1 : p1 = { p0 with stq := p1.stq, stn := 1, stc := p1.stc } := hp1
  have hl1 : p1.lineno = 0 := by rw [e1]; rfl
  refine ⟨_, Sat.ld h (.head _) rfl, ?_⟩
  refine Sat.st h (k := 0) rfl (Nat.le_of_ble_eq_true rfl) trivial (by first | (dsimp only [List.set]; exact rfl) | exact rfl) fun w h => ?_
  rw [hl1] at h
  let p2 : PS := { p1 with lineno := 1 }
  have h : Sat σ w (p2.at b :: M ++ ((rb, cel [] ty_rootBuilder) :: L)) := h
  have hs2 : Stk p2 [⟨.iface ty_P_rootBuilder (.pointer (some ⟨rb, 0, none⟩)), none, 0, 0, 0, 0⟩] M := by
    have := Stk.of (p' := p2) hs1 rfl rfl rfl
    rw [List.nil_append] at this
    exact this
  have hpz2 : p2.pz = some ⟨pb, 0, none⟩ := by show p1.pz = _; rw [e1]; rfl
  refine addLine_para (l := lnOf raw) h hs2 hpz2 (.tail _ ho) rfl (by decide) (by decide) hp fun w p3 M3 qb PM hp3 hs3 hPM h => ⟨rfl, ?_⟩
  refine hX _ _ _ _ (br_false (by rw [mk_toList]; rfl) ?_)
  have hpz3 : p3.pz = some ⟨pb, 0, none⟩ := by rw [hp3]; exact hpz2
  have htx : Txts p3 [] [] := by
    have : p3.tq = none ∧ p3.tn = 0 ∧ p3.tc = 0 := by rw [hp3]; show p1.tq = none ∧ p1.tn = 0 ∧ p1.tc = 0; rw [e1]; exact ⟨rfl, rfl, rfl⟩
    obtain ⟨a, b, c⟩ := this
    unfold Txts
    rw [a, b, c]
    exact ⟨Sl.nil 1 ty_P_Text, rfl, by simp⟩
  have hlk : p3.links = none := by rw [hp3]; show p1.links = none; rw [e1]; rfl
  have hdw : ((lnOf raw).text.drop (lnOf raw).i).dropWhile isST = raw.dropWhile isST := rfl
  rw [hdw] at hPM
  have hsl : (raw.dropWhile isST).length ≤ raw.length := (List.dropWhile_sublist isST).length_le
  have h : Sat σ w (p3.at b :: M3 ++ ([] ++ (PM ++ ((rb, cel [] ty_rootBuilder) :: L)))) := h
  refine finish_ok h hs3 rfl ⟨rfl, rfl, rfl⟩ rfl htx hPM (by omega) hne hb (by show (1 : Nat) < _; decide) fun w p4 TM IM t nb db q c hp4 ht4 hIM h => ⟨rfl, ?_⟩
  refine ⟨_, _, _, Sat.ld h (.head _) rfl, ?_⟩
  have htn : p4.tn = 1 := by rw [hp4]
  have hpz4 : p4.pz = some ⟨pb, 0, none⟩ := by rw [hp4]; exact hpz3
  intro Y hY
  obtain ⟨tb, tsp, htq, htm⟩ := ht4.1.rowAt (by rw [htn]; decide)
  refine hY _ _ _ _ _ _ _ _ (br_true (by rw [htn]; rfl) ⟨by decide, by rw [htn]; decide, ?_⟩)
  rw [htq]
  refine nilP_some ?_
  subst htm
  simp only [Addr.add_lit, Int.toNat_zero, Nat.zero_mul, Nat.add_zero]
  refine ⟨_, Sat.ld h (.tail _ (List.mem_append_left _ (.head _))) rfl, nilP_some ?_⟩
  simp only [Addr.add_lit, Nat.zero_add]
  have h : Sat σ w (p4.at b :: ([(tb, cel ([t].map (fun t => Value.pointer (some ⟨t, 0, none⟩)) ++ tsp) ty_P_Text)] ++ (docC db 0 0 q 1 c p3.links :: (IM ++ (paraC nb 1 1 t :: textC t 1 1 none 0 0 (raw.dropWhile isST) :: ((rb, cel [] ty_rootBuilder) :: L)))))) := h
  have h : Sat σ w (p4.at b :: (textC t 1 1 none 0 0 (raw.dropWhile isST) :: (tb, cel ([t].map (fun t => Value.pointer (some ⟨t, 0, none⟩)) ++ tsp) ty_P_Text) :: (docC db 0 0 q 1 c p3.links :: (IM ++ (paraC nb 1 1 t :: ((rb, cel [] ty_rootBuilder) :: L)))))) := h.re (by intro _; simp only [List.append_eq, cnt_append, cnt_cons, cnt_nil] <;> omega)
  refine ⟨_, Sat.ld h (.tail _ (.head _)) rfl, ?_⟩
  refine hI σ _ b pb p4 _ w h hpz4 (by simp [ho]) (by rw [hp4]; exact hlk) fun w p5 q5 n5 c5 vs RM KM KM' hp5 hS5 hn5 hP5 h => ⟨_, _, _, rfl, nilP_some ?_⟩
  have h : Sat σ w (textC t 1 1 none 0 0 (raw.dropWhile isST) :: (p5.at b :: (RM ++ (KM ++ ((tb, cel ([t].map (fun t => Value.pointer (some ⟨t, 0, none⟩)) ++ tsp) ty_P_Text) :: (docC db 0 0 q 1 c p3.links :: (IM ++ (paraC nb 1 1 t :: ((rb, cel [] ty_rootBuilder) :: L))))))))) := h.re (by intro _; simp only [List.append_eq, cnt_append, cnt_cons, cnt_nil] <;> omega)
  refine Sat.st h (k := 0) rfl (Nat.le_of_ble_eq_true rfl) trivial (by first | (dsimp only [List.set]; exact rfl) | exact rfl) fun w h => ?_
  have h : Sat σ w (textC t 1 1 q5 n5 c5 (raw.dropWhile isST) :: (p5.at b :: (RM ++ (KM ++ ((tb, cel ([t].map (fun t => Value.pointer (some ⟨t, 0, none⟩)) ++ tsp) ty_P_Text) :: (docC db 0 0 q 1 c p3.links :: (IM ++ (paraC nb 1 1 t :: ((rb, cel [] ty_rootBuilder) :: L))))))))) := h
  refine hY _ _ _ _ _ _ _ _ (br_false (by rw [htn]; rfl) (nilP_some ?_))
  simp only [Addr.add_lit, Nat.zero_add]
  have hroot : p5.root = some ⟨db, 0, none⟩ := by have := congrArg PS.root hp5; rw [show p5.root = p4.root from this, hp4]
  have hLL : p5.Lq = none ∧ p5.Ln = 0 ∧ p5.Lc = 0 := by
    have a := congrArg PS.Lq hp5; have b := congrArg PS.Ln hp5; have c := congrArg PS.Lc hp5
    rw [show p5.Lq = p4.Lq from a, show p5.Ln = p4.Ln from b, show p5.Lc = p4.Lc from c, hp4]
    show p3.Lq = none ∧ p3.Ln = 0 ∧ p3.Lc = 0
    rw [hp3]; show p1.Lq = none ∧ p1.Ln = 0 ∧ p1.Lc = 0; rw [e1]; exact ⟨rfl, rfl, rfl⟩
  have hfin : g_Parser_parse.k4 R b w := by
    refine Sat.tk h fun w h => ?_
    refine ⟨_, Sat.ld h (.tail _ (.head _)) rfl, _, Sat.ld h (.tail _ (.head _)) rfl, ?_⟩
    rw [hroot]
    refine hR w db p5.corner (docC db 0 0 q 1 c p3.links :: (IM ++ ((paraC nb 1 1 t :: textC t 1 1 q5 n5 c5 (raw.dropWhile isST) :: (RM ++ KM)) ++ []))) (docC db 0 0 q 1 c p3.links :: (IM ++ ((paraC nb 1 1 t :: textC t 1 1 q5 n5 c5 (raw.dropWhile isST) :: (RM ++ KM')) ++ []))) ?_ ?_
    · exact doc_prints hIM (by decide) (.cons (para_prints hS5 (by omega) hP5) .nil)
    · exact h.less (p5.at b :: (tb, cel ([t].map (fun t => Value.pointer (some ⟨t, 0, none⟩)) ++ tsp) ty_P_Text) :: [(rb, cel [] ty_rootBuilder)]) (by intro _; simp only [List.append_eq, cnt_append, cnt_cons, cnt_nil] <;> omega)
  refine ⟨op.task, Sat.ld h (b := pb) (i := 2) (.tail _ (.tail _ (List.mem_append_right _ (List.mem_append_right _ (.tail _ (.tail _ (List.mem_append_right _ (.tail _ (.tail _ ho))))))))) rfl, br_split (fun _ => ?_) (fun _ => hfin)⟩
  refine ⟨_, _, _, Sat.ld h (.tail _ (.head _)) rfl, ?_⟩
  intro Z hZ
  obtain ⟨l1, l2, l3⟩ := hLL
  rw [l1, l2, l3]
  exact hZ _ _ _ _ _ _ _ (br_false rfl hfin)
end Go.Proofs.YtmkfleohcnopkaaGreatDoor

/- impl.HTML, and small functions of the laws. -/
set_option linter.unusedVariables false
namespace Go.Proofs.YtmkfleohcnopkaaGreatDoor
open Go.Proofs Go.IntWalk Go.RowKit
variable {σ : Out} {w : World} {L L' : List Chunk} {R : Ending → World → Prop}
/-- What the thin package is handed. -/
def optV (o : Opt) : Value := .agg #[.bool o.strike, .bool o.task, .bool o.auto, .bool o.http, .bool o.table, .bool o.dot, .bool o.dash, .bool o.quote, .bool o.ids, .bool o.emoji]
theorem parser_ok {o : Opt} (h : Sat σ w L) (hR : ∀ w pb, Sat σ w (o.at pb :: L) → R (.returned (.pointer (some ⟨pb, 0, none⟩))) w) : callE P i_impl_parser #[optV o] R w := by
  refine g_impl_parser.sound ?_
  refine Sat.bx h fun b w h => ?_
  have ld : ∀ (k : Nat) (v : Bool), ([Value.bool o.strike, .bool o.task, .bool o.auto, .bool o.http, .bool o.table, .bool o.dot, .bool o.dash, .bool o.quote, .bool o.ids, .bool o.emoji])[k]? = some (.bool v) → w.cell? ⟨b, k, none⟩ = some (.bool v) := fun k v hv => Sat.ld h (.head _) hv
  refine ⟨_, ld 8 _ rfl, _, ld 0 _ rfl, _, ld 1 _ rfl, _, ld 2 _ rfl, _, ld 3 _ rfl, _, ld 4 _ rfl, _, ld 9 _ rfl, _, ld 5 _ rfl, _, ld 6 _ rfl, _, ld 7 _ rfl, ?_⟩
  refine Sat.bx h fun pb w h => hR w pb ?_
  have h : Sat σ w (o.at pb :: (b, cel [Value.bool o.strike, .bool o.task, .bool o.auto, .bool o.http, .bool o.table, .bool o.dot, .bool o.dash, .bool o.quote, .bool o.ids, .bool o.emoji] ty_impl_Options) :: L) := h
  exact (h.less [(b, cel [Value.bool o.strike, .bool o.task, .bool o.auto, .bool o.http, .bool o.table, .bool o.dot, .bool o.dash, .bool o.quote, .bool o.ids, .bool o.emoji] ty_impl_Options)] (by intro _; simp only [List.append_eq, cnt_append, cnt_cons, cnt_nil] <;> omega))
/-- A text is parsed to a document that prints itself so. -/
def ParsesTo (o : Opt) (raw out : List UInt8) : Prop :=
  ∀ (σ : Out) (R : Ending → World → Prop) (L : List Chunk) (w : World) (pb : Nat), Sat σ w L → o.at pb ∈ L →
    (∀ w db k DM DM' f, Prints "PrintHTML" (.iface ty_P_Document (.pointer (some ⟨db, 0, none⟩))) DM DM' f → f [] = out → Sat σ w (DM ++ L) → R (.returned (.tuple #[.pointer (some ⟨db, 0, none⟩), .bool k])) w) →
    callE P i_Parser_parse #[.pointer (some ⟨pb, 0, none⟩), .string (bs raw)] R w
theorem html_ok {o : Opt} {raw out : List UInt8} (hP : ParsesTo o raw out) (hout : out.length ≤ 549755813888) (h : Sat σ w L) (hR : ∀ w, Sat σ w L → R (.returned (.string (bs out))) w) : callE P i_impl_HTML #[optV o, .string (bs raw)] R w := by
  refine g_impl_HTML.sound ?_
  refine Sat.bx h fun b w h => ?_
  have ld : ∀ (k : Nat) (v : Bool), ([Value.bool o.strike, .bool o.task, .bool o.auto, .bool o.http, .bool o.table, .bool o.dot, .bool o.dash, .bool o.quote, .bool o.ids, .bool o.emoji])[k]? = some (.bool v) → w.cell? ⟨b, k, none⟩ = some (.bool v) := fun k v hv => Sat.ld h (.head _) hv
  refine ⟨_, ld 0 _ rfl, _, ld 1 _ rfl, _, ld 2 _ rfl, _, ld 3 _ rfl, _, ld 4 _ rfl, _, ld 5 _ rfl, _, ld 6 _ rfl, _, ld 7 _ rfl, _, ld 8 _ rfl, _, ld 9 _ rfl, ?_⟩
  refine parser_ok h fun w pb h => ⟨_, rfl, ?_⟩
  refine g_Parser_Parse.sound ?_
  refine hP σ _ _ w pb h (.head _) fun w db k DM DM' f hf hfo h => ⟨_, _, rfl, _, rfl, ?_⟩
  subst hfo
  refine toHTML_ok hf h hout fun w h => ⟨_, rfl, hR w ?_⟩
  exact h.less (DM' ++ (o.at pb :: [(b, cel [Value.bool o.strike, .bool o.task, .bool o.auto, .bool o.http, .bool o.table, .bool o.dot, .bool o.dash, .bool o.quote, .bool o.ids, .bool o.emoji] ty_impl_Options)])) (by intro _; simp only [List.append_eq, cnt_append, cnt_cons, cnt_nil] <;> omega)
theorem parses_line {op : Opt} {raw : List UInt8} {f : List UInt8 → List UInt8} (hp : (lnOf raw).plain) (hlen : raw.length < 1000000) (h0 : idx raw [0] = none) (h10 : idx raw [10] = none) (h13 : idx raw [13] = none)
    (hne : raw.dropWhile isST ≠ []) (hb : ((raw.dropWhile isST).dropWhile isSTN).head? ≠ some 91) (hI : InlineOK op (raw.dropWhile isST) f) : ParsesTo op raw (f pOpen ++ pClose) := by
  intro σ R L w pb h ho hR
  refine parseLine_ok h ho hp hlen h0 h10 h13 hne hb hI fun w db k DM DM' hP h => hR w db k DM DM' _ hP rfl h

/-! ### The laws' own functions -/
theorem bs_of (b : ByteArray) : b = bs b.data.toList := by
  cases b; rfl
def onlyM (s set : List UInt8) (n : Nat) : Bool := decide (s.length ≤ n) && s.all fun c => decide (c ∈ set)
theorem only_ok {s set : List UInt8} {n : Nat} (hs : s.length < 4611686018427387904) (hR : R (.returned (.bool (onlyM s set n))) w) : callE P i_laws_only #[.string (bs s), .string (bs set), .int .i64 n] R w := by
  refine g_laws_only.sound ?_
  by_cases hn : n < s.length
  · refine br_true (by simp; omega) ?_
    have : onlyM s set n = false := by unfold onlyM; rw [decide_eq_false (by omega)]; rfl
    rw [← this]; exact hR
  refine br_false (by simp; omega) ?_
  intro X hX
  rw [bs_size]
  have hall : onlyM s set n = s.all fun c => decide (c ∈ set) := by unfold onlyM; rw [decide_eq_true (by omega)]; rfl
  rw [hall] at hR
  have key : ∀ k i, i + k = s.length → (s.all fun c => decide (c ∈ set)) = ((s.drop i).all fun c => decide (c ∈ set)) → X (bs s) (bs set) (s.length : Nat) (i : Int) w := by
    intro k
    induction k with
    | zero =>
      intro i hi ha
      refine hX _ _ _ _ _ (br_false (by simp; omega) ?_)
      rw [List.drop_eq_nil_of_le (by omega)] at ha
      rw [ha] at hR; exact hR
    | succ k ih =>
      intro i hi ha
      have hil : i < s.length := by omega
      rw [List.drop_eq_getElem_cons hil, List.all_cons] at ha
      refine hX _ _ _ _ _ (br_true (by simp; omega) ⟨by omega, by simp; omega, ?_⟩)
      rw [bt_at hil]
      refine indexByte2_ok ⟨_, rfl, ?_⟩
      by_cases hm : s[i] ∈ set
      · refine br_false (by simpa using idxB_nonneg.2 hm) ?_
        rw [i64_inc (by omega)]
        refine ih (i + 1) (by omega) ?_
        rw [ha]; simp [hm]
      · have := mt idxB_nonneg.1 hm
        refine br_true (by simpa using this) ?_
        rw [ha] at hR
        simpa [hm] using hR
  exact key s.length 0 (by omega) (by rw [List.drop_zero])
theorem headed_ok {s t : List UInt8} (hR : R (.returned (.bool (decide (s.take t.length = t)))) w) : callE P i_laws_headed #[.string (bs s), .string (bs t)] R w := by
  refine g_laws_headed.sound ?_
  by_cases hl : t.length ≤ s.length
  · refine br_true (by simp; omega) ⟨by omega, by simp; omega, ?_⟩
    rw [bs_size, Int.toNat_natCast, bs_extract, List.drop_zero, bs_toList, bs_toList]
    have e : (s.take t.length == t) = decide (s.take t.length = t) := by rw [Bool.eq_iff_iff]; simp
    rw [e]; exact hR
  · refine br_false (by simp; omega) ?_
    have : decide (s.take t.length = t) = false := decide_eq_false fun h => by have := congrArg List.length h; simp at this; omega
    rw [← this]; exact hR
end Go.Proofs.YtmkfleohcnopkaaGreatDoor

/- FnDots: the law's walk. -/
set_option linter.unusedVariables false
namespace Go.Proofs.YtmkfleohcnopkaaGreatDoor
open Go.Proofs Go.IntWalk Go.RowKit
variable {σ : Out} {w : World} {L L' : List Chunk} {R : Ending → World → Prop}
theorem ell_hd {s : List UInt8} {i : Nat} (hi : i < s.length) (h : (s.drop i).take 3 = [46, 46, 46]) : i + 3 ≤ s.length ∧ ell (s.drop i) = [226, 128, 166] ++ ell (s.drop (i + 3)) := by
  have h3 : i + 3 ≤ s.length := by have := congrArg List.length h; simp at this; omega
  refine ⟨h3, ?_⟩
  rw [List.drop_eq_getElem_cons hi, List.drop_eq_getElem_cons (show i + 1 < s.length by omega), List.drop_eq_getElem_cons (show i + 2 < s.length by omega)] at h ⊢
  simp only [List.take_succ_cons, List.take_zero, List.cons.injEq, and_true] at h
  rw [ell, if_pos ⟨h.1, h.2.1, h.2.2⟩]
theorem ell_nh {s : List UInt8} {i : Nat} (hi : i < s.length) (h : (s.drop i).take 3 ≠ [46, 46, 46]) : ell (s.drop i) = s[i] :: ell (s.drop (i + 1)) := by
  rw [List.drop_eq_getElem_cons hi] at h ⊢
  by_cases h1 : i + 1 < s.length
  · rw [List.drop_eq_getElem_cons h1] at h ⊢
    by_cases h2 : i + 2 < s.length
    · rw [List.drop_eq_getElem_cons h2] at h ⊢
      rw [ell, if_neg]
      rintro ⟨ha, hb, hc⟩
      exact h (by simp [ha, hb, hc])
    · rw [List.drop_eq_nil_of_le (by omega)]; rfl
  · rw [List.drop_eq_nil_of_le (by omega)]; rfl
theorem ellipses_ok {s : List UInt8} (hs : s.length < 1000000000) (h : Sat σ w L) (hR : ∀ w, Sat σ w L → R (.returned (.string (bs (ell s)))) w) : callE P i_laws_ellipses #[.string (bs s)] R w := by
  refine g_laws_ellipses.sound ?_
  refine Sat.bx h fun b w h => ?_
  intro X hX
  have hbound := ell_length s
  have key : ∀ k i l g M w, i + k = s.length → Bld b g l M → Sat σ w (M ++ L) → l ++ ell (s.drop i) = ell s → X (bs s) b (i : Int) w := by
    intro k
    induction k using Nat.strongRecOn with
    | ind k ih =>
      intro i l g M w hi hB h hl
      rcases Nat.lt_or_ge i s.length with hlt | hge
      · have hll : l.length ≤ s.length := by have := congrArg List.length hl; simp at this; omega
        refine hX _ _ _ _ (br_true (by simp; omega) ⟨by omega, by simp; omega, ?_⟩)
        rw [bs_size, Int.toNat_natCast, bs_ext]
        refine headed_ok (t := [46, 46, 46]) ⟨_, rfl, ?_⟩
        by_cases hh : (s.drop i).take 3 = [46, 46, 46]
        · obtain ⟨h3, he⟩ := ell_hd hlt hh
          refine br_true (decide_eq_true hh) ?_
          refine bldS_ok (s := [226, 128, 166]) hB h (.inl (by simp)) (by simp; omega) fun w M hB h => ⟨_, _, rfl, ?_⟩
          have e : IntKind.i64.wrap (IntKind.i64.wrap ((i : Int) + 2) + 1) = ((i + 3 : Nat) : Int) := by simp (disch := omega) only [i64_in]; omega
          rw [e]
          exact ih (k - 3) (by omega) (i + 3) _ true M w (by omega) hB h (by rw [← hl, he]; simp)
        · refine br_false (decide_eq_false hh) ⟨by omega, by simp; omega, ?_⟩
          rw [bt_at hlt]
          refine bldB_ok hB h (by omega) fun w M hB h => ⟨_, rfl, ?_⟩
          rw [i64_inc (by omega)]
          exact ih (k - 1) (by omega) (i + 1) _ true M w (by omega) hB h (by rw [← hl, ell_nh hlt hh]; simp)
      · refine hX _ _ _ _ (br_false (by simp; omega) ?_)
        rw [List.drop_eq_nil_of_le (by omega)] at hl
        simp only [ell, List.append_nil] at hl
        refine bldStr_ok hB h (by rw [hl]; omega) fun w h => ⟨_, rfl, ?_⟩
        rw [hl]; exact hR w h
  exact key s.length 0 [] false _ w (by omega) (bldNew b) h rfl
def dotSet : List UInt8 := [97, 98, 32, 46]
theorem dropWhile_x (s : List UInt8) : (120 :: s).dropWhile isST = 120 :: s := rfl
theorem trim_x (s : List UInt8) : trimLR isST ([120] ++ s ++ [120]) = [120] ++ s ++ [120] := by
  have e : ([120] ++ s ++ [120] : List UInt8).dropWhile isST = [120] ++ s ++ [120] := rfl
  unfold trimLR trimR
  rw [e]
  have e2 : ([120] ++ s ++ [120] : List UInt8).reverse = 120 :: (s.reverse ++ [120]) := by simp
  rw [e2, dropWhile_x]
  simp
/-- A byte with which a line begins that no block but a paragraph begins with. -/
def plainStart (c : UInt8) : Bool := !(isST c || c == 62 || c == 35 || c == 95 || c == 60 || c == 96 || c == 126 || c == 61 || isBullet c)
theorem tsGo_first {c : UInt8} {s : List UInt8} (hc : isST c = false) (mn k n : Nat) (e : Bool) : (lnOf (c :: s)).tsGo mn e (k + 1) n = if mn ≤ n then some (lnOf (c :: s)) else none := by
  simp only [isST, Bool.or_eq_false_iff, beq_eq_false_iff_ne, ne_eq] at hc
  simp [Ln.tsGo, lnOf, hc.1, hc.2]
theorem plain_first {c : UInt8} {s : List UInt8} (hc : plainStart c = true) (hs : s.length < 1000000) : (lnOf (c :: s)).plain := by
  simp only [plainStart, Bool.not_eq_true', Bool.or_eq_false_iff, beq_eq_false_iff_ne, ne_eq] at hc
  obtain ⟨⟨⟨⟨⟨⟨⟨⟨hst, h62⟩, h35⟩, h95⟩, h60⟩, h96⟩, h126⟩, h61⟩, hbu⟩ := hc
  have hlead : ∀ e, (lnOf (c :: s)).lead 3 e = lnOf (c :: s) := by
    intro e; unfold Ln.lead Ln.trimSp; rw [tsGo_first hst]; rfl
  have hstrip : (lnOf (c :: s)).strip 3 0 = (0, lnOf (c :: s)) := by
    simp only [Ln.strip, Ln.trimSp]; rw [tsGo_first hst]; rfl
  have hpeek : (lnOf (c :: s)).peek = c := rfl
  have htc : ∀ d : UInt8, c ≠ d → (lnOf (c :: s)).trimC d = none := by
    intro d hd
    simp [Ln.trimC, lnOf, hd]
  have hnb : c ≠ 45 ∧ c ≠ 42 := by
    constructor
    · intro h; subst h; exact absurd hbu (by decide)
    · intro h; subst h; exact absurd hbu (by decide)
  refine ⟨⟨by simp [lnOf], by simp [lnOf], by simp [lnOf]; omega, by simp [lnOf]⟩, ?_, ?_, ?_, ?_, ?_, ?_, ?_, ?_⟩
  · show (c :: s).all isST = false
    rw [List.all_cons, hst]; rfl
  · unfold Ln.quote; rw [hlead, htc 62 h62]; rfl
  · unfold Ln.heading; rw [hlead, htc 35 h35]
  · unfold Ln.isHR
    simp only [hlead, hpeek]
    rw [if_neg]
    rintro (h | h | h)
    · exact hnb.1 h
    · exact h95 h
    · exact hnb.2 h
  · rw [hstrip]; exact hbu
  · rw [hlead]; exact h60
  · rw [hstrip]; exact ⟨h96, h126⟩
  · unfold Ln.trimSp; rw [tsGo_first hst]; rfl
theorem dots_inline {o : Opt} {raw : List UInt8} (hoff : o.auto = false) (hdot : o.dot = true) (hl : raw.length < 1000000) (hne : raw ≠ []) (htr : trimLR isST raw = raw) (hD : isDotText raw = true) : InlineOK o raw (ab (escS htmlPs (ell raw))) := by
  intro σ R b pb p L w h hpz ho hlk hR
  refine inlineDots_ok h hpz ho hoff hdot hl hne htr hD fun w p' q n c vs RM EM hp' hS hn hI h => ?_
  obtain ⟨v, vs', M1, M2, rfl, rfl, h1, rfl, rfl⟩ := hI
  obtain ⟨pb, cs, e, rfl, rfl⟩ := h1
  refine hR w p' q n c _ RM _ _ hp' hS hn (.cons (plain_prints (by have := ell_length raw; omega)) .nil) h
theorem html_dots {o : Opt} {s : List UInt8} (hoff : o.auto = false) (hdot : o.dot = true) (hs : s.length ≤ 100) (hD : isDotText s = true) :
    ParsesTo o ([120] ++ s ++ [120]) (pOpen ++ escS htmlPs (ell ([120] ++ s ++ [120])) ++ pClose) := by
  have hlen : ([120] ++ s ++ [120] : List UInt8).length < 1000000 := by simp; omega
  have hD2 : isDotText ([120] ++ s ++ [120]) = true := by
    unfold isDotText at hD ⊢
    simp only [List.all_append, hD]; rfl
  have hmem : ∀ c : UInt8, (c == 120 || c == 97 || c == 98 || c == 32 || c == 46) = false → c ∉ ([120] ++ s ++ [120] : List UInt8) := by
    intro c hc hm
    have := (List.all_eq_true.1 hD2) c hm
    rw [hc] at this; cases this
  have hdw : ([120] ++ s ++ [120] : List UInt8).dropWhile isST = [120] ++ s ++ [120] := rfl
  have := parses_line (op := o) (raw := [120] ++ s ++ [120]) (f := ab (escS htmlPs (ell ([120] ++ s ++ [120])))) (plain_first (by decide) (by simp; omega)) hlen (idx_none (hmem 0 (by decide))) (idx_none (hmem 10 (by decide))) (idx_none (hmem 13 (by decide)))
    (by rw [hdw]; simp) (by rw [hdw]; show some (120 : UInt8) ≠ some 91; decide) (by rw [hdw]; exact dots_inline hoff hdot hlen (by simp) (trim_x s) hD2)
  exact this
theorem esc_ell {s : List UInt8} (hD : isDotText s = true) : escS htmlPs (ell s) = ell s := by
  have h1 : ∀ c, (c == 120 || c == 97 || c == 98 || c == 32 || c == 46) = true → escB htmlPs c = [c] := by
    intro c hc
    simp only [Bool.or_eq_true, beq_iff_eq] at hc
    rcases hc with (((rfl | rfl) | rfl) | rfl) | rfl <;> decide
  have key : ∀ (n : Nat) (s : List UInt8), s.length ≤ n → isDotText s = true → escS htmlPs (ell s) = ell s := by
    intro n
    induction n with
    | zero => intro s hs _; obtain rfl : s = [] := List.eq_nil_of_length_eq_zero (by omega); rfl
    | succ n ih =>
      intro s hs hD
      match s, hs, hD with
      | [], _, _ => rfl
      | [a], _, hD =>
        have := (List.all_eq_true.1 hD) a (by simp)
        simp [ell, escS, h1 a this]
      | [a, b], _, hD =>
        have ha := (List.all_eq_true.1 hD) a (by simp)
        have hb := (List.all_eq_true.1 hD) b (by simp)
        simp [ell, escS, h1 a ha, h1 b hb]
      | a :: b :: c :: s, hs, hD =>
        have ha := (List.all_eq_true.1 hD) a (by simp)
        rw [ell]
        split
        · have : isDotText s = true := by
            unfold isDotText at hD ⊢; simp only [List.all_cons, Bool.and_eq_true] at hD; exact hD.2.2.2
          rw [escS_append, ih s (by simp at hs; omega) this]; rfl
        · have : isDotText (b :: c :: s) = true := by
            unfold isDotText at hD ⊢; rw [List.all_cons, Bool.and_eq_true] at hD; exact hD.2
          rw [escS_cons, ih (b :: c :: s) (by simp at hs ⊢; omega) this, h1 a ha]; rfl
  exact key s.length s (Nat.le_refl _) hD
def optDots : Opt := ⟨false, false, false, false, false, false, false, true, false, false⟩
theorem fnDots_ok {x : ByteArray} (h : Sat σ w L) (hR : ∀ w, Sat σ w L → R (.returned (.bool true)) w) : callE P i_laws_FnDots #[.string x] R w := by
  rw [bs_of x]
  generalize x.data.toList = s
  refine g_laws_FnDots.sound ?_
  refine br_split (fun _ => hR w h) (fun hsz => ?_)
  have hs : s.length ≤ 2147483647 := by simp at hsz; omega
  refine only_ok (set := [97, 98, 32, 46]) (n := 100) (by omega) ⟨_, rfl, ?_⟩
  cases ho : onlyM s [97, 98, 32, 46] 100 with
  | false => exact br_true rfl (hR w h)
  | true =>
    simp only [onlyM, Bool.and_eq_true, decide_eq_true_eq] at ho
    obtain ⟨hs100, hall⟩ := ho
    have hD : isDotText s = true := by
      unfold isDotText
      rw [List.all_eq_true] at hall ⊢
      intro c hc
      have := hall c hc
      simp at this
      rcases this with rfl | rfl | rfl | rfl <;> decide
    have hD2 : isDotText ([120] ++ s ++ [120]) = true := by
      unfold isDotText at hD ⊢
      simp only [List.all_append, hD]; rfl
    refine br_false rfl ?_
    have hcat : (ByteArray.mk #[120] ++ bs s) ++ ByteArray.mk #[120] = bs ([120] ++ s ++ [120]) := by
      rw [show ByteArray.mk #[120] = bs [120] from rfl, bs_append, bs_append]
    rw [hcat]
    have hmax : IntKind.i64.max = 9223372036854775807 := rfl
    have hel := ell_length ([120] ++ s ++ [120])
    simp only [List.length_append, List.length_singleton] at hel
    refine ⟨by rw [hmax]; simp [ByteArray.size]; omega, ?_, ?_⟩
    · rw [hmax, show ByteArray.mk #[120] = bs [120] from rfl, bs_append]; simp; omega
    have hesc := esc_ell hD2
    have hP := html_dots (o := optDots) rfl rfl hs100 hD
    rw [hesc] at hP
    have hb : (pOpen ++ ell ([120] ++ s ++ [120]) ++ pClose).length ≤ 549755813888 := by
      rw [List.length_append, List.length_append]
      have h1 : pOpen.length = 3 := rfl
      have h2 : pClose.length = 5 := rfl
      omega
    show callE P i_impl_HTML #[optV optDots, .string (bs ([120] ++ s ++ [120]))] _ w
    refine html_ok hP hb h fun w h => ⟨_, rfl, ?_⟩
    refine ellipses_ok (by simp; omega) h fun w h => ⟨_, rfl, ?_⟩
    rw [show ByteArray.mk #[60, 112, 62] = bs pOpen from rfl, show ByteArray.mk #[60, 47, 112, 62, 10] = bs pClose from rfl, bs_append, bs_append]
    refine ⟨by rw [hmax]; simp [pOpen] at hel ⊢; omega, by rw [hmax]; simp [pOpen, pClose] at hel ⊢; omega, ?_⟩
    rw [bs_toList]
    simpa using hR w h
end Go.Proofs.YtmkfleohcnopkaaGreatDoor
