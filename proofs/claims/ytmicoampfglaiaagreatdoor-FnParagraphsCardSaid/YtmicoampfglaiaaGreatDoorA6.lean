/- Part 6 of the proof of the law FnParagraphs: for every input the law returns true, the inputs read as they did, and memory that was there is as it was; under the conditions of the given row alone. Holds: Dots1 G_Emph_PrintHTML G_Strong_PrintHTML G_AutoLink_PrintHTML G_HardBreak_PrintHTML G_Link_PrintHTML G_SoftBreak_PrintHTML Print5 Print3 Plain1 Slash1 LawB G_line_trimSetext G_paraBuilder_extend Doc1 Doc2 Doc3 Doc5 Doc4 Doc6 Slash2 G_laws_printable G_spec_EscapeHTML LawFns FnParagraphs1 Final2. -/
import Derived.Laws.StructEq
import Derived.SliceStrings
import Derived.WideKeyArgs
import Derived.Below
import Derived.Test.YtmicoampfglaiaaGreatDoorA5
set_option linter.all false
/- Smart dots: the inlines of a line of letters, spaces and full stops. -/
set_option linter.unusedVariables false
namespace Go.Proofs.YtmicoampfglaiaaGreatDoor
open Go.Proofs Go.IntWalk Go.RowKit
variable {σ : Out} {w : World} {L L' : List Chunk} {R : Ending → World → Prop}
def dots3 (s : List UInt8) (i : Nat) : Bool := decide (i + 2 < s.length) && (s.getD (i + 1) 0 == 46) && (s.getD (i + 2) 0 == 46)
theorem bt_getD {l : List UInt8} {i : Nat} (d : UInt8) (n : Int) (hd : (d.toNat : Int) = n) : (bt (bs l) (i : Int) == n) = (l.getD i 0 == d) := by
  subst hd
  rw [bs_bt, u8_beq]
theorem parseDot_ok {q : Option Addr} {s : List UInt8} {i : Nat} (hs : s.length < 4611686018427387904) (hi : i < s.length) (h : Sat σ w L)
    (hR : if dots3 s i then ∀ w nb, Sat σ w (plainC nb [226, 128, 166] :: L) → R (.returned (.tuple #[ptrV ty_P_Plain nb, .int .i64 i, .int .i64 ((i + 3 : Nat) : Int), .bool true])) w
      else R (.returned (.tuple #[.nilIface, .int .i64 0, .int .i64 0, .bool false])) w) :
    callE P i_parseDot #[.pointer q, .string (bs s), .int .i64 i] R w := by
  refine g_parseDot.sound ?_
  have e1 : IntKind.i64.wrap ((i : Int) + 1) = ((i + 1 : Nat) : Int) := i64_inc (by omega)
  have e2 : IntKind.i64.wrap ((i : Int) + 2) = ((i + 2 : Nat) : Int) := by simp (disch := omega) only [i64_in]; rfl
  have e3 : IntKind.i64.wrap ((i : Int) + 3) = ((i + 3 : Nat) : Int) := by simp (disch := omega) only [i64_in]; rfl
  have hd : (((decide (((i + 2 : Nat) : Int) < ((bs s).size : Int))) && ((bt (bs s) ((i + 1 : Nat) : Int)) == 46)) && ((bt (bs s) ((i + 2 : Nat) : Int)) == 46)) = dots3 s i := by
    rw [bt_getD 46 46 rfl, bt_getD 46 46 rfl, bs_size]
    unfold dots3
    congr 2
    simp only [decide_eq_decide]
    omega
  unfold g_parseDot
  rw [e1, e2, hd]
  refine ⟨fun h => ?_, fun h => ?_, ?_⟩
  · simp at h; simp; omega
  · simp at h; simp; omega
  · unfold g_parseDot.k1
    rw [e3]
    split at hR
    · rename_i hd
      rw [hd]
      exact Sat.bx h fun nb w h => hR w nb h
    · rename_i hd
      rw [Bool.not_eq_true] at hd
      rw [hd]
      exact hR
def dotRes (s : List UInt8) (i : Nat) : Option (Inl × Nat × Nat) := if dots3 s i then some (.plain [226, 128, 166], i, i + 3) else none
theorem parseDot_leaf {b i : Nat} {p : PS} {s : List UInt8} (hs : s.length < 4611686018427387904) (hi : i < s.length) : LeafOK b p s i (.func (.func i_parseDot) #[] #[]) [] (dotRes s i) (fun p' => p' = p) := by
  intro σ R L w _ h hR
  refine enter_fn ?_
  refine parseDot_ok hs hi h ?_
  unfold dotRes at hR
  split
  · rename_i hd
    rw [if_pos hd] at hR
    exact fun w nb h => hR w p _ _ rfl rfl ⟨nb, [], _, rfl, rfl⟩ h.up1
  · rename_i hd
    rw [if_neg hd] at hR
    exact hR w p _ 0 0 rfl rfl h
/-- Each three full stops, from the left. -/
def ell : List UInt8 → List UInt8
  | [] => []
  | [a] => [a]
  | [a, b] => [a, b]
  | a :: b :: c :: s => if a = 46 ∧ b = 46 ∧ c = 46 then [226, 128, 166] ++ ell s else a :: ell (b :: c :: s)
theorem ell_dots {s : List UInt8} {i : Nat} (hi : i < s.length) (h46 : s[i] = 46) (hd : dots3 s i = true) : ell (s.drop i) = [226, 128, 166] ++ ell (s.drop (i + 3)) := by
  simp only [dots3, Bool.and_eq_true, decide_eq_true_eq] at hd
  obtain ⟨⟨h0, h1⟩, h2⟩ := hd
  rw [List.getD_eq_getElem?_getD, List.getElem?_eq_getElem (by omega)] at h1 h2
  simp at h1 h2
  rw [List.drop_eq_getElem_cons hi, List.drop_eq_getElem_cons (show i + 1 < s.length by omega), List.drop_eq_getElem_cons (show i + 2 < s.length by omega), ell, if_pos ⟨h46, h1, h2⟩]
theorem ell_step {s : List UInt8} {i : Nat} (hi : i < s.length) (h : s[i] = 46 → dots3 s i = false) : ell (s.drop i) = s[i] :: ell (s.drop (i + 1)) := by
  rw [List.drop_eq_getElem_cons hi]
  by_cases h1 : i + 1 < s.length
  · rw [List.drop_eq_getElem_cons h1]
    by_cases h2 : i + 2 < s.length
    · rw [List.drop_eq_getElem_cons h2, ell, if_neg]
      rintro ⟨ha, hb, hc⟩
      have := h ha
      simp [dots3, List.getD_eq_getElem?_getD, h2, h1, hb, hc] at this
    · rw [List.drop_eq_nil_of_le (by omega)]; rfl
  · rw [List.drop_eq_nil_of_le (by omega)]; rfl
def isDotText (s : List UInt8) : Bool := s.all fun c => c == 120 || c == 97 || c == 98 || c == 32 || c == 46
theorem parserOf_dot {o : Opt} {c : UInt8} (hd : o.dot = true) (hc : (c == 120 || c == 97 || c == 98 || c == 32 || c == 46) = true) : (c = 46 ∧ parserOf o c = .fn i_parseDot) ∨ (c ≠ 46 ∧ c ≠ 93 ∧ parserOf o c = .nil) := by
  simp only [Bool.or_eq_true, beq_iff_eq] at hc
  rcases hc with (((rfl | rfl) | rfl) | rfl) | rfl
  all_goals simp [parserOf, hd]
theorem sub_append {s : List UInt8} {e i j : Nat} (h1 : e ≤ i) (h2 : i ≤ j) (h3 : j ≤ s.length) : sub s e i ++ sub s i j = sub s e j := by
  unfold sub
  have e1 : (s.take j).take i = s.take i := by rw [List.take_take, Nat.min_eq_left h2]
  have e2 : (s.take j).drop e = ((s.take j).take i ++ (s.take j).drop i).drop e := by rw [List.take_append_drop]
  rw [e2, List.drop_append_of_le_length (by rw [List.length_take, List.length_take]; omega), e1]
theorem sub_one {s : List UInt8} {i : Nat} (h : i < s.length) : sub s i (i + 1) = [s[i]] := by
  unfold sub
  rw [List.take_succ_eq_append_getElem h, List.drop_append_of_le_length (by rw [List.length_take]; omega), List.drop_eq_nil_of_le (by rw [List.length_take]; omega)]
  rfl
theorem sub_self (s : List UInt8) (i : Nat) : sub s i i = [] := List.drop_eq_nil_of_le (by rw [List.length_take]; omega)
theorem emitM_plain {s : List UInt8} {e i : Nat} {us : List (List UInt8)} (he : e ≤ i) (hi : i ≤ s.length) (hne : ∀ u ∈ us, u ≠ []) :
    ∃ us' : List (List UInt8), emitM s e i (us.map .plain) = us'.map .plain ∧ us'.flatten = us.flatten ++ sub s e i ∧ (∀ u ∈ us', u ≠ []) ∧ us'.length ≤ us.length + 1 := by
  unfold emitM
  split
  · rename_i h
    refine ⟨us ++ [sub s e i], by simp, by simp, ?_, by simp⟩
    intro u hu
    rcases List.mem_append.1 hu with hu | hu
    · exact hne u hu
    · simp at hu; subst hu
      intro h0
      have := sub_length (i := e) hi
      rw [h0] at this; simp at this; omega
  · have : e = i := by omega
    subst this
    exact ⟨us, rfl, by rw [sub_self]; simp, hne, by omega⟩
theorem mergeGo_plain : ∀ (us : List (List UInt8)) (p : List (List UInt8)), mergeGo p (us.map .plain) = flushP (p ++ us)
  | [], p => by simp [mergeGo]
  | u :: us, p => by simp [mergeGo, Inl.plain?, mergeGo_plain us]
theorem plen_plain : ∀ us : List (List UInt8), plen (us.map .plain) = us.flatten.length
  | [] => rfl
  | u :: us => by simp [plen, Inl.plain?, plen_plain us]
theorem ell_length : ∀ s : List UInt8, (ell s).length ≤ s.length
  | [] => by simp [ell]
  | [a] => by simp [ell]
  | [a, b] => by simp [ell]
  | a :: b :: c :: s => by
    have h1 := ell_length s
    have h2 := ell_length (b :: c :: s)
    rw [ell]
    split
    · simp; omega
    · simp at h2 ⊢; omega
theorem inlineDots_ok {b pb : Nat} {p : PS} {o : Opt} {raw : List UInt8} (h : Sat σ w (p.at b :: L)) (hpz : p.pz = some ⟨pb, 0, none⟩) (ho : o.at pb ∈ L) (hoff : o.auto = false) (hdot : o.dot = true) (hl : raw.length < 1000000) (hne : raw ≠ [])
    (htr : trimLR isST raw = raw) (hD : isDotText raw = true)
    (hR : ∀ w (p' : PS) q n c vs RM EM, ({ p' with s := [] } : PS).core = ({ p with s := [] } : PS).core → Sl 1 ty_Inline q n c vs RM → n < 1073741824 → InlsAt [.plain (ell raw)] vs EM → Sat σ w (p'.at b :: (RM ++ (EM ++ L))) → R (.returned (.slice q n c)) w) :
    callE P i_parseState_inline #[.pointer (some ⟨b, 0, none⟩), .string (bs raw)] R w := by
  refine inl_begin h (by omega) fun w h => ?_
  rw [htr] at h ⊢
  intro X hX
  have key : ∀ k i e (us : List (List UInt8)) (p1 : PS) oq on oc w, i + k ≤ raw.length + 2 → raw.length ≤ i + k → i ≤ raw.length → e ≤ i → us.length ≤ e → (∀ u ∈ us, u ≠ []) → ({ p1 with s := [] } : PS).core = ({ p with s := [] } : PS).core → p1.s = raw → p1.em = e →
      us.flatten ++ sub raw e i ++ ell (raw.drop i) = ell raw → IIn σ b p1 (us.map .plain) [] oq on oc L w → X (some ⟨b, 0, none⟩) (bs raw) oq on oc 0 false (i : Int) w := by
    intro k
    induction k using Nat.strongRecOn with
    | ind k ih =>
      intro i e us p1 oq on oc w hik hik2 hil he hul hune hc hs hem hel h
      have hpz1 : p1.pz = some ⟨pb, 0, none⟩ := by have := congrArg PS.pz hc; rw [← hpz]; exact this
      refine hX _ _ _ _ _ _ _ _ _ ?_
      rcases Nat.lt_or_ge i raw.length with hlt | hge
      · obtain ⟨vs, RM, EM, OM, hS, hI, hO, hlen, hsat⟩ := h
        have on0 : on = 0 := by have := hO.1; simp at this; omega
        have h : IIn σ b p1 (us.map .plain) [] oq on oc L w := ⟨vs, RM, EM, OM, hS, hI, hO, hlen, hsat⟩
        refine inl_dispatch (p := p1) hlt (by omega) hpz1 (.head _) (.tail _ (List.mem_append_right _ (List.mem_append_right _ (List.mem_append_right _ ho)))) hsat ?_
        have hch : (raw[i] == 120 || raw[i] == 97 || raw[i] == 98 || raw[i] == 32 || raw[i] == 46) = true := (List.all_eq_true.1 hD) raw[i] (List.getElem_mem hlt)
        have next : ∀ (p2 : PS) w, p2 = p1 → IIn σ b p2 (us.map .plain) [] oq on oc L w → (raw[i] = 46 → dots3 raw i = false) → X (some ⟨b, 0, none⟩) (bs raw) oq on oc 0 false ((i + 1 : Nat) : Int) w := by
          intro p2 w hp2 h2 hnd
          rw [hp2] at h2
          refine ih (k - 1) (by omega) (i + 1) e us p1 oq on oc w (by omega) (by omega) (by omega) (by omega) hul hune hc hs hem ?_ h2
          rw [← hel, ell_step hlt hnd, ← sub_append (show e ≤ i from he) (show i ≤ i + 1 by omega) (by omega), sub_one hlt]
          simp
        rcases parserOf_dot hdot hch with ⟨h46, hp⟩ | ⟨h46, h93, hp⟩
        · rw [hp]
          dsimp only
          have hleaf := parseDot_leaf (b := b) (p := p1) (show raw.length < 4611686018427387904 by omega) hlt
          rw [← hs] at hleaf
          cases hd : dots3 raw i with
          | true =>
            have hres : dotRes p1.s i = some (.plain [226, 128, 166], i, i + 3) := by unfold dotRes; rw [hs, hd]; rfl
            rw [hres] at hleaf
            have hi3 : i + 3 ≤ raw.length := by simp [dots3] at hd; omega
            rw [← hs]
            refine inl_leaf h (by simp) hleaf hem (by rw [hs]; omega) (by rw [hs]; omega) (by simp; omega) (by simp) fun w p2 oq on oc hp2 hem2 _ h2 => ?_
            obtain ⟨us', hu1, hu2, hu3, hu4⟩ := emitM_plain (s := p1.s) he (by rw [hs]; omega) hune
            rw [hs]
            refine ih (k - 3) (by omega) (i + 3) (i + 3) (us' ++ [[226, 128, 166]]) p2 oq on oc w (by omega) (by omega) hi3 (Nat.le_refl _) (by simp; omega) ?_ ?_ ?_ hem2 ?_ ?_
            · intro u hu
              rcases List.mem_append.1 hu with hu | hu
              · exact hu3 u hu
              · simp at hu; subst hu; simp
            · rw [← hc]
              have := congrArg (fun q : PS => ({ q with s := [] } : PS)) hp2
              exact this
            · have := congrArg PS.s hp2; rw [← hs]; exact this
            · rw [sub_self, ← hel, ell_dots hlt h46 hd]
              rw [List.flatten_append, hu2, hs]
              simp
            · rw [hu1] at h2
              simpa [Inl.isOpen] using h2
          | false =>
            have hres : dotRes p1.s i = none := by unfold dotRes; rw [hs, hd]; rfl
            rw [hres] at hleaf
            rw [← hs]
            refine inl_decl h (by simp) hleaf fun w p2 _ hp2 h2 => ?_
            rw [hs]
            exact inl_k5 hlt (by omega) (.inr on0) (next p2 w hp2 h2 fun _ => hd)
        · rw [hp]
          exact inl_none (inl_k5 hlt (by omega) (.inr on0) (next p1 w rfl h fun h => absurd h h46))
      · have hi : i = raw.length := by omega
        obtain ⟨us', hu1, hu2, hu3, hu4⟩ := emitM_plain (s := p1.s) (e := e) (i := p1.s.length) (by rw [hs]; omega) (Nat.le_refl _) hune
        have hfl : us'.flatten = ell raw := by
          rw [hu2, hs, ← hel, hi, List.drop_length]; simp [ell]
        have hus : us' ≠ [] := by
          intro h0
          rw [h0] at hfl
          have h1 : ell raw = [] := by rw [← hfl]; rfl
          match raw, hne, h1 with
          | [a], _, h1 => simp [ell] at h1
          | [a, b], _, h1 => simp [ell] at h1
          | a :: b :: c :: s, _, h1 => rw [ell] at h1; split at h1 <;> simp at h1
        have := inl_end (R := R) (X := X) (lo := 0) (bk := false) (ts' := us'.map .plain) h hem (by rw [hs]; omega) (by simp; omega) hpz1 ho hoff (by rw [hu1]; exact emphOK_none (by intro t ht; obtain ⟨u, _, rfl⟩ := List.mem_map.1 ht; exact ⟨by simp only [Inl.ty]; decide, by simp only [Inl.ty]; decide⟩))
          (by intro t ht s hs'; obtain ⟨u, hu, rfl⟩ := List.mem_map.1 ht; simp only [Inl.plain?, Option.some.injEq] at hs'; subst hs'; exact hu3 u hu)
          (by rw [plen_plain, hfl]; have := ell_length raw; omega)
          (fun w p2 q n c vs RM EM hp2 hS hn hI h => hR w p2 q n c vs RM EM (by rw [← hc]; have := congrArg (fun q : PS => ({ q with s := [] } : PS)) hp2; exact this) hS hn (by
            have e : mergeM (us'.map .plain) = [.plain (ell raw)] := by rw [mergeM, mergeGo_plain, List.nil_append, flushP, if_neg hus, hfl]
            rw [← e]; exact hI) h)
        rw [hs] at this
        rw [hi]
        exact this
  have := key raw.length 0 0 [] { p with s := raw, em := 0, lq := none, ln := 0, lc := 0 } none 0 0 w (by omega) (by omega) (by omega) (Nat.le_refl _) (by simp) (by simp) rfl rfl rfl (by rw [sub_self]; simp) h
  exact this
end Go.Proofs.YtmicoampfglaiaaGreatDoor

set_option linter.unusedVariables false
set_option maxRecDepth 20000
namespace Go.Proofs.YtmicoampfglaiaaGreatDoor
open Go.Proofs
/- 309 (*pub-paratext/pub/rscmarkdown.Emph).PrintHTML -/
namespace g_Emph_PrintHTML
noncomputable def body : Code := bodyOf Tryz.f309
def bl1 (R : EP) (Xa : OA → OA → Nat → Nat → Int → Int → WP) (x1 : OA) (x11q : OA) (x11n : Nat) (x11c : Nat) (x12 : Int) (x13 : Int) (w : World) : Prop :=
 br (decide (x13 < x12))
 (0 ≤ x13 ∧ x13 < (x11n : Int) ∧
 nilP x11q fun a5 =>
 ∃ (v6 : Value), w.cell? (a5.add (Int.toNat x13 * 1)) = some v6 ∧
 enterE P (callMethod v6 "PrintHTML" #[.pointer x1]) (fun e w8 => e = .returned (.tuple #[]) ∧
 Xa x1 x11q x11n x11c x12 (IntKind.i64.wrap (x13 + 1)) w8) w)
 (callE P i_bytes_Buffer_WriteString #[.pointer x1, .string (ByteArray.mk #[60, 47, 101, 109, 62])] (fun e w10 => ∃ (r9_0 : Int), ∃ (r9_1 : Value), e = .returned (.tuple #[.int .i64 r9_0, r9_1]) ∧
 R (.returned (.tuple #[])) w10) w)
def l1 (R : EP) (x1 : OA) (x11q : OA) (x11n : Nat) (x11c : Nat) (x12 : Int) (x13 : Int) (w : World) : Prop :=
  ∀ X : OA → OA → Nat → Nat → Int → Int → WP, (∀ x1 x11q x11n x11c x12 x13 w, bl1 R X x1 x11q x11n x11c x12 x13 w → X x1 x11q x11n x11c x12 x13 w) → X x1 x11q x11n x11c x12 x13 w

noncomputable def al1 (R : EP) (Xa : OA → OA → Nat → Nat → Int → Int → WP) : AC :=
  (.leaf (sel [1, 0, 1, 0, 0] body))
end g_Emph_PrintHTML
def g_Emph_PrintHTML (R : EP) (x0 : OA) (x1 : OA) (w : World) : Prop :=
 callE P i_bytes_Buffer_WriteString #[.pointer x1, .string (ByteArray.mk #[60, 101, 109, 62])] (fun e w2 => ∃ (r1_0 : Int), ∃ (r1_1 : Value), e = .returned (.tuple #[.int .i64 r1_0, r1_1]) ∧
 nilP x0 fun a3 =>
 ∃ (v4q : OA), ∃ (v4n : Nat), ∃ (v4c : Nat), w2.cell? (a3.add 1) = some (.slice v4q v4n v4c) ∧
 g_Emph_PrintHTML.l1 R x1 v4q v4n v4c (v4n : Int) 0 w2) w

noncomputable def g_Emph_PrintHTML.ac (R : EP) : AC :=
  (.seq (.leaf (sel [0] g_Emph_PrintHTML.body)) (.seq (.seq (.leaf (sel [1, 0, 0] g_Emph_PrintHTML.body)) (.block 0 (.loop (leaf [(1, .s .ptr), (11, .s .slice), (12, .s (.int .i64)), (13, .s (.int .i64))] (g_Emph_PrintHTML.l1 R)) (sel [1, 0, 1, 0, 0] g_Emph_PrintHTML.body)))) (.leaf (sel [1, 1] g_Emph_PrintHTML.body))))
theorem g_Emph_PrintHTML.good (R : EP) : Good P 23 (g_Emph_PrintHTML.ac R) (QF P [] R) :=
  ⟨trivial, ⟨⟨trivial, (loopG (g_Emph_PrintHTML.al1 R) (g_Emph_PrintHTML.bl1 R) (fun _ => by kernel_rfl) (fun Xa => trivial) (fun Xa => by intro x1 x11q x11n x11c x12 x13 ρ w; kernel_rfl) (fun X h _ _ _ _ _ _ _ g => g X h))⟩, trivial⟩⟩
theorem g_Emph_PrintHTML.eq (R : EP) (x0 : OA) (x1 : OA) (w : World) : g_Emph_PrintHTML R x0 x1 w = vcA P 23 (g_Emph_PrintHTML.ac R) (QF P [] R) (fr0 [.pointer x0, .pointer x1]) w := by kernel_rfl
theorem g_Emph_PrintHTML.sound {R : EP} {x0 : OA} {x1 : OA} {w : World} (h : g_Emph_PrintHTML R x0 x1 w) : callE P i_Emph_PrintHTML #[.pointer x0, .pointer x1] R w :=
  callE_fin (c := g_Emph_PrintHTML.body) Tryz.func309 Tryz.call309 (by kernel_rfl) (by kernel_rfl) (by kernel_rfl) (by kernel_rfl) (by kernel_rfl) (g_Emph_PrintHTML.good R) (g_Emph_PrintHTML.eq R x0 x1 w) h
/- 317 (*pub-paratext/pub/rscmarkdown.Strong).PrintHTML -/
namespace g_Strong_PrintHTML
noncomputable def body : Code := bodyOf Tryz.f317
def bl1 (R : EP) (Xa : OA → OA → Nat → Nat → Int → Int → WP) (x1 : OA) (x11q : OA) (x11n : Nat) (x11c : Nat) (x12 : Int) (x13 : Int) (w : World) : Prop :=
 br (decide (x13 < x12))
 (0 ≤ x13 ∧ x13 < (x11n : Int) ∧
 nilP x11q fun a5 =>
 ∃ (v6 : Value), w.cell? (a5.add (Int.toNat x13 * 1)) = some v6 ∧
 enterE P (callMethod v6 "PrintHTML" #[.pointer x1]) (fun e w8 => e = .returned (.tuple #[]) ∧
 Xa x1 x11q x11n x11c x12 (IntKind.i64.wrap (x13 + 1)) w8) w)
 (callE P i_bytes_Buffer_WriteString #[.pointer x1, .string (ByteArray.mk #[60, 47, 115, 116, 114, 111, 110, 103, 62])] (fun e w10 => ∃ (r9_0 : Int), ∃ (r9_1 : Value), e = .returned (.tuple #[.int .i64 r9_0, r9_1]) ∧
 R (.returned (.tuple #[])) w10) w)
def l1 (R : EP) (x1 : OA) (x11q : OA) (x11n : Nat) (x11c : Nat) (x12 : Int) (x13 : Int) (w : World) : Prop :=
  ∀ X : OA → OA → Nat → Nat → Int → Int → WP, (∀ x1 x11q x11n x11c x12 x13 w, bl1 R X x1 x11q x11n x11c x12 x13 w → X x1 x11q x11n x11c x12 x13 w) → X x1 x11q x11n x11c x12 x13 w

noncomputable def al1 (R : EP) (Xa : OA → OA → Nat → Nat → Int → Int → WP) : AC :=
  (.leaf (sel [1, 0, 1, 0, 0] body))
end g_Strong_PrintHTML
def g_Strong_PrintHTML (R : EP) (x0 : OA) (x1 : OA) (w : World) : Prop :=
 callE P i_bytes_Buffer_WriteString #[.pointer x1, .string (ByteArray.mk #[60, 115, 116, 114, 111, 110, 103, 62])] (fun e w2 => ∃ (r1_0 : Int), ∃ (r1_1 : Value), e = .returned (.tuple #[.int .i64 r1_0, r1_1]) ∧
 nilP x0 fun a3 =>
 ∃ (v4q : OA), ∃ (v4n : Nat), ∃ (v4c : Nat), w2.cell? (a3.add 1) = some (.slice v4q v4n v4c) ∧
 g_Strong_PrintHTML.l1 R x1 v4q v4n v4c (v4n : Int) 0 w2) w

noncomputable def g_Strong_PrintHTML.ac (R : EP) : AC :=
  (.seq (.leaf (sel [0] g_Strong_PrintHTML.body)) (.seq (.seq (.leaf (sel [1, 0, 0] g_Strong_PrintHTML.body)) (.block 0 (.loop (leaf [(1, .s .ptr), (11, .s .slice), (12, .s (.int .i64)), (13, .s (.int .i64))] (g_Strong_PrintHTML.l1 R)) (sel [1, 0, 1, 0, 0] g_Strong_PrintHTML.body)))) (.leaf (sel [1, 1] g_Strong_PrintHTML.body))))
theorem g_Strong_PrintHTML.good (R : EP) : Good P 23 (g_Strong_PrintHTML.ac R) (QF P [] R) :=
  ⟨trivial, ⟨⟨trivial, (loopG (g_Strong_PrintHTML.al1 R) (g_Strong_PrintHTML.bl1 R) (fun _ => by kernel_rfl) (fun Xa => trivial) (fun Xa => by intro x1 x11q x11n x11c x12 x13 ρ w; kernel_rfl) (fun X h _ _ _ _ _ _ _ g => g X h))⟩, trivial⟩⟩
theorem g_Strong_PrintHTML.eq (R : EP) (x0 : OA) (x1 : OA) (w : World) : g_Strong_PrintHTML R x0 x1 w = vcA P 23 (g_Strong_PrintHTML.ac R) (QF P [] R) (fr0 [.pointer x0, .pointer x1]) w := by kernel_rfl
theorem g_Strong_PrintHTML.sound {R : EP} {x0 : OA} {x1 : OA} {w : World} (h : g_Strong_PrintHTML R x0 x1 w) : callE P i_Strong_PrintHTML #[.pointer x0, .pointer x1] R w :=
  callE_fin (c := g_Strong_PrintHTML.body) Tryz.func317 Tryz.call317 (by kernel_rfl) (by kernel_rfl) (by kernel_rfl) (by kernel_rfl) (by kernel_rfl) (g_Strong_PrintHTML.good R) (g_Strong_PrintHTML.eq R x0 x1 w) h
/- 337 (*pub-paratext/pub/rscmarkdown.AutoLink).PrintHTML -/
namespace g_AutoLink_PrintHTML
noncomputable def body : Code := bodyOf Tryz.f337
end g_AutoLink_PrintHTML
def g_AutoLink_PrintHTML (R : EP) (x0 : OA) (x1 : OA) (w : World) : Prop :=
 tk w fun w1 =>
 nilP x0 fun a2 =>
 nilP x0 fun a3 =>
 ∃ (v4 : BA), w1.cell? (a2.add 1) = some (.string v4) ∧
 ∃ (v5 : BA), w1.cell? a3 = some (.string v5) ∧
 callE P i_htmlLinkEscaper #[] (fun e w7 => ∃ (r6q : OA), ∃ (r6n : Nat), ∃ (r6c : Nat), e = .returned (.slice r6q r6n r6c) ∧
 SameC w1 w7 (a3) 1 ∧
 SameC w1 w7 (a2.add 1) 1 ∧
 callE P i_zzPairs_Replace #[.slice r6q r6n r6c, .string v4] (fun e w9 => ∃ (r8 : BA), e = .returned (.string r8) ∧
 SameC w7 w9 (a3) 1 ∧
 (((ByteArray.mk #[60, 97, 32, 104, 114, 101, 102, 61, 34]).size + r8.size : Nat) : Int) ≤ IntKind.i64.max ∧
 ((((ByteArray.mk #[60, 97, 32, 104, 114, 101, 102, 61, 34]) ++ r8).size + (ByteArray.mk #[34, 62]).size : Nat) : Int) ≤ IntKind.i64.max ∧
 callE P i_htmlEscaper #[] (fun e w11 => ∃ (r10q : OA), ∃ (r10n : Nat), ∃ (r10c : Nat), e = .returned (.slice r10q r10n r10c) ∧
 SameC w9 w11 (a3) 1 ∧
 callE P i_zzPairs_Replace #[.slice r10q r10n r10c, .string v5] (fun e w13 => ∃ (r12 : BA), e = .returned (.string r12) ∧
 (((((ByteArray.mk #[60, 97, 32, 104, 114, 101, 102, 61, 34]) ++ r8) ++ (ByteArray.mk #[34, 62])).size + r12.size : Nat) : Int) ≤ IntKind.i64.max ∧
 ((((((ByteArray.mk #[60, 97, 32, 104, 114, 101, 102, 61, 34]) ++ r8) ++ (ByteArray.mk #[34, 62])) ++ r12).size + (ByteArray.mk #[60, 47, 97, 62]).size : Nat) : Int) ≤ IntKind.i64.max ∧
 callE P i_bytes_Buffer_WriteString #[.pointer x1, .string (((((ByteArray.mk #[60, 97, 32, 104, 114, 101, 102, 61, 34]) ++ r8) ++ (ByteArray.mk #[34, 62])) ++ r12) ++ (ByteArray.mk #[60, 47, 97, 62]))] (fun e w15 => ∃ (r14_0 : Int), ∃ (r14_1 : Value), e = .returned (.tuple #[.int .i64 r14_0, r14_1]) ∧
 R (.returned (.tuple #[])) w15) w13) w11) w9) w7) w1

noncomputable def g_AutoLink_PrintHTML.ac (R : EP) : AC :=
  (.draw (.pure 0 (.pure 2 (.pure 3 (.pure 4 (.pure 10 (.pure 11 (.pure 12 (.load 5 (.load 13 (.one 1 (.one 6 (.pure 7 (.pure 8 (.one 9 (.one 14 (.pure 15 (.pure 16 (.one 17 .done)))))))))))))))))) (sel [] g_AutoLink_PrintHTML.body))
theorem g_AutoLink_PrintHTML.good (R : EP) : Good P 22 (g_AutoLink_PrintHTML.ac R) (QF P [] R) :=
  ⟨by kernel_rfl, by kernel_rfl, fun _ _ _ h => h⟩
theorem g_AutoLink_PrintHTML.eq (R : EP) (x0 : OA) (x1 : OA) (w : World) : g_AutoLink_PrintHTML R x0 x1 w = vcA P 22 (g_AutoLink_PrintHTML.ac R) (QF P [] R) (fr0 [.pointer x0, .pointer x1]) w := by kernel_rfl
theorem g_AutoLink_PrintHTML.sound {R : EP} {x0 : OA} {x1 : OA} {w : World} (h : g_AutoLink_PrintHTML R x0 x1 w) : callE P i_AutoLink_PrintHTML #[.pointer x0, .pointer x1] R w :=
  callE_fin (c := g_AutoLink_PrintHTML.body) Tryz.func337 Tryz.call337 (by kernel_rfl) (by kernel_rfl) (by kernel_rfl) (by kernel_rfl) (by kernel_rfl) (g_AutoLink_PrintHTML.good R) (g_AutoLink_PrintHTML.eq R x0 x1 w) h
/- 293 (*pub-paratext/pub/rscmarkdown.HardBreak).PrintHTML -/
namespace g_HardBreak_PrintHTML
noncomputable def body : Code := bodyOf Tryz.f293
end g_HardBreak_PrintHTML
def g_HardBreak_PrintHTML (R : EP) (x0 : OA) (x1 : OA) (w : World) : Prop :=
 callE P i_bytes_Buffer_WriteString #[.pointer x1, .string (ByteArray.mk #[60, 98, 114, 32, 47, 62, 10])] (fun e w2 => ∃ (r1_0 : Int), ∃ (r1_1 : Value), e = .returned (.tuple #[.int .i64 r1_0, r1_1]) ∧
 R (.returned (.tuple #[])) w2) w

noncomputable def g_HardBreak_PrintHTML.ac (R : EP) : AC :=
  (.leaf (sel [] g_HardBreak_PrintHTML.body))
theorem g_HardBreak_PrintHTML.good (R : EP) : Good P 6 (g_HardBreak_PrintHTML.ac R) (QF P [] R) :=
  trivial
theorem g_HardBreak_PrintHTML.eq (R : EP) (x0 : OA) (x1 : OA) (w : World) : g_HardBreak_PrintHTML R x0 x1 w = vcA P 6 (g_HardBreak_PrintHTML.ac R) (QF P [] R) (fr0 [.pointer x0, .pointer x1]) w := by kernel_rfl
theorem g_HardBreak_PrintHTML.sound {R : EP} {x0 : OA} {x1 : OA} {w : World} (h : g_HardBreak_PrintHTML R x0 x1 w) : callE P i_HardBreak_PrintHTML #[.pointer x0, .pointer x1] R w :=
  callE_fin (c := g_HardBreak_PrintHTML.body) Tryz.func293 Tryz.call293 (by kernel_rfl) (by kernel_rfl) (by kernel_rfl) (by kernel_rfl) (by kernel_rfl) (g_HardBreak_PrintHTML.good R) (g_HardBreak_PrintHTML.eq R x0 x1 w) h
/- 260 (*pub-paratext/pub/rscmarkdown.Link).PrintHTML -/
namespace g_Link_PrintHTML
noncomputable def body : Code := bodyOf Tryz.f260
def bl1 (R : EP) (Xa : OA → OA → Nat → Nat → Int → Int → WP) (x1 : OA) (x36q : OA) (x36n : Nat) (x36c : Nat) (x37 : Int) (x38 : Int) (w : World) : Prop :=
 br (decide (x38 < x37))
 (0 ≤ x38 ∧ x38 < (x36n : Int) ∧
 nilP x36q fun a25 =>
 ∃ (v26 : Value), w.cell? (a25.add (Int.toNat x38 * 1)) = some v26 ∧
 enterE P (callMethod v26 "PrintHTML" #[.pointer x1]) (fun e w28 => e = .returned (.tuple #[]) ∧
 Xa x1 x36q x36n x36c x37 (IntKind.i64.wrap (x38 + 1)) w28) w)
 (callE P i_bytes_Buffer_WriteString #[.pointer x1, .string (ByteArray.mk #[60, 47, 97, 62])] (fun e w30 => ∃ (r29_0 : Int), ∃ (r29_1 : Value), e = .returned (.tuple #[.int .i64 r29_0, r29_1]) ∧
 R (.returned (.tuple #[])) w30) w)
def l1 (R : EP) (x1 : OA) (x36q : OA) (x36n : Nat) (x36c : Nat) (x37 : Int) (x38 : Int) (w : World) : Prop :=
  ∀ X : OA → OA → Nat → Nat → Int → Int → WP, (∀ x1 x36q x36n x36c x37 x38 w, bl1 R X x1 x36q x36n x36c x37 x38 w → X x1 x36q x36n x36c x37 x38 w) → X x1 x36q x36n x36c x37 x38 w

noncomputable def al1 (R : EP) (Xa : OA → OA → Nat → Nat → Int → Int → WP) : AC :=
  (.leaf (sel [1, 1, 1, 0, 1, 0, 0] body))
def k1 (R : EP) (x0 : OA) (x1 : OA) (w : World) : Prop :=
 callE P i_bytes_Buffer_WriteString #[.pointer x1, .string (ByteArray.mk #[62])] (fun e w22 => ∃ (r21_0 : Int), ∃ (r21_1 : Value), e = .returned (.tuple #[.int .i64 r21_0, r21_1]) ∧
 nilP x0 fun a23 =>
 ∃ (v24q : OA), ∃ (v24n : Nat), ∃ (v24c : Nat), w22.cell? a23 = some (.slice v24q v24n v24c) ∧
 l1 R x1 v24q v24n v24c (v24n : Int) 0 w22) w

end g_Link_PrintHTML
def g_Link_PrintHTML (R : EP) (x0 : OA) (x1 : OA) (w : World) : Prop :=
 tk w fun w1 =>
 nilP x0 fun a2 =>
 ∃ (v3 : BA), w1.cell? (a2.add 1) = some (.string v3) ∧
 callE P i_htmlLinkEscaper #[] (fun e w5 => ∃ (r4q : OA), ∃ (r4n : Nat), ∃ (r4c : Nat), e = .returned (.slice r4q r4n r4c) ∧
 SameC w1 w5 (a2.add 1) 1 ∧
 callE P i_zzPairs_Replace #[.slice r4q r4n r4c, .string v3] (fun e w7 => ∃ (r6 : BA), e = .returned (.string r6) ∧
 (((ByteArray.mk #[60, 97, 32, 104, 114, 101, 102, 61, 34]).size + r6.size : Nat) : Int) ≤ IntKind.i64.max ∧
 ((((ByteArray.mk #[60, 97, 32, 104, 114, 101, 102, 61, 34]) ++ r6).size + (ByteArray.mk #[34]).size : Nat) : Int) ≤ IntKind.i64.max ∧
 callE P i_bytes_Buffer_WriteString #[.pointer x1, .string (((ByteArray.mk #[60, 97, 32, 104, 114, 101, 102, 61, 34]) ++ r6) ++ (ByteArray.mk #[34]))] (fun e w9 => ∃ (r8_0 : Int), ∃ (r8_1 : Value), e = .returned (.tuple #[.int .i64 r8_0, r8_1]) ∧
 nilP x0 fun a10 =>
 ∃ (v11 : BA), w9.cell? (a10.add 2) = some (.string v11) ∧
 br (!(v11.toList == (ByteArray.mk #[]).toList))
 (tk w9 fun w12 =>
 nilP x0 fun a13 =>
 ∃ (v14 : BA), w12.cell? (a13.add 2) = some (.string v14) ∧
 callE P i_htmlQuoteEscaper #[] (fun e w16 => ∃ (r15q : OA), ∃ (r15n : Nat), ∃ (r15c : Nat), e = .returned (.slice r15q r15n r15c) ∧
 SameC w12 w16 (a13.add 2) 1 ∧
 callE P i_zzPairs_Replace #[.slice r15q r15n r15c, .string v14] (fun e w18 => ∃ (r17 : BA), e = .returned (.string r17) ∧
 (((ByteArray.mk #[32, 116, 105, 116, 108, 101, 61, 34]).size + r17.size : Nat) : Int) ≤ IntKind.i64.max ∧
 ((((ByteArray.mk #[32, 116, 105, 116, 108, 101, 61, 34]) ++ r17).size + (ByteArray.mk #[34]).size : Nat) : Int) ≤ IntKind.i64.max ∧
 callE P i_bytes_Buffer_WriteString #[.pointer x1, .string (((ByteArray.mk #[32, 116, 105, 116, 108, 101, 61, 34]) ++ r17) ++ (ByteArray.mk #[34]))] (fun e w20 => ∃ (r19_0 : Int), ∃ (r19_1 : Value), e = .returned (.tuple #[.int .i64 r19_0, r19_1]) ∧
 g_Link_PrintHTML.k1 R x0 x1 w20) w18) w16) w12)
 (g_Link_PrintHTML.k1 R x0 x1 w9)) w7) w5) w1

noncomputable def g_Link_PrintHTML.ac (R : EP) : AC :=
  (.seq (.draw (.pure 0 (.pure 2 (.pure 3 (.pure 4 (.load 5 (.one 1 (.one 6 (.pure 7 (.pure 8 (.one 9 .done)))))))))) (sel [0] g_Link_PrintHTML.body)) (.seq (.seq (.leaf (sel [1, 0, 0] g_Link_PrintHTML.body)) (.cond 20 (.draw (.pure 0 (.pure 2 (.pure 3 (.pure 4 (.load 5 (.one 1 (.one 6 (.pure 7 (.pure 8 (.one 9 .done)))))))))) (sel [1, 0, 1, 0] g_Link_PrintHTML.body)) (.leaf (sel [1, 0, 1, 1] g_Link_PrintHTML.body)))) (.mark (leaf [(0, .s .ptr), (1, .s .ptr)] (g_Link_PrintHTML.k1 R)) (.seq (.leaf (sel [1, 1, 0] g_Link_PrintHTML.body)) (.seq (.seq (.leaf (sel [1, 1, 1, 0, 0] g_Link_PrintHTML.body)) (.block 0 (.loop (leaf [(1, .s .ptr), (36, .s .slice), (37, .s (.int .i64)), (38, .s (.int .i64))] (g_Link_PrintHTML.l1 R)) (sel [1, 1, 1, 0, 1, 0, 0] g_Link_PrintHTML.body)))) (.leaf (sel [1, 1, 1, 1] g_Link_PrintHTML.body)))))))
theorem g_Link_PrintHTML.good (R : EP) : Good P 48 (g_Link_PrintHTML.ac R) (QF P [] R) :=
  ⟨⟨by kernel_rfl, by kernel_rfl, fun _ _ _ h => h⟩, ⟨⟨trivial, ⟨⟨by kernel_rfl, by kernel_rfl, fun _ _ _ h => h⟩, trivial⟩⟩, ⟨⟨trivial, ⟨⟨trivial, (loopG (g_Link_PrintHTML.al1 R) (g_Link_PrintHTML.bl1 R) (fun _ => by kernel_rfl) (fun Xa => trivial) (fun Xa => by intro x1 x36q x36n x36c x37 x38 ρ w; kernel_rfl) (fun X h _ _ _ _ _ _ _ g => g X h))⟩, trivial⟩⟩, cutE (by intro x0 x1 ρ w; kernel_rfl)⟩⟩⟩
theorem g_Link_PrintHTML.eq (R : EP) (x0 : OA) (x1 : OA) (w : World) : g_Link_PrintHTML R x0 x1 w = vcA P 48 (g_Link_PrintHTML.ac R) (QF P [] R) (fr0 [.pointer x0, .pointer x1]) w := by kernel_rfl
theorem g_Link_PrintHTML.sound {R : EP} {x0 : OA} {x1 : OA} {w : World} (h : g_Link_PrintHTML R x0 x1 w) : callE P i_Link_PrintHTML #[.pointer x0, .pointer x1] R w :=
  callE_fin (c := g_Link_PrintHTML.body) Tryz.func260 Tryz.call260 (by kernel_rfl) (by kernel_rfl) (by kernel_rfl) (by kernel_rfl) (by kernel_rfl) (g_Link_PrintHTML.good R) (g_Link_PrintHTML.eq R x0 x1 w) h
/- 301 (*pub-paratext/pub/rscmarkdown.SoftBreak).PrintHTML -/
namespace g_SoftBreak_PrintHTML
noncomputable def body : Code := bodyOf Tryz.f301
end g_SoftBreak_PrintHTML
def g_SoftBreak_PrintHTML (R : EP) (x0 : OA) (x1 : OA) (w : World) : Prop :=
 callE P i_bytes_Buffer_WriteString #[.pointer x1, .string (ByteArray.mk #[10])] (fun e w2 => ∃ (r1_0 : Int), ∃ (r1_1 : Value), e = .returned (.tuple #[.int .i64 r1_0, r1_1]) ∧
 R (.returned (.tuple #[])) w2) w

noncomputable def g_SoftBreak_PrintHTML.ac (R : EP) : AC :=
  (.leaf (sel [] g_SoftBreak_PrintHTML.body))
theorem g_SoftBreak_PrintHTML.good (R : EP) : Good P 6 (g_SoftBreak_PrintHTML.ac R) (QF P [] R) :=
  trivial
theorem g_SoftBreak_PrintHTML.eq (R : EP) (x0 : OA) (x1 : OA) (w : World) : g_SoftBreak_PrintHTML R x0 x1 w = vcA P 6 (g_SoftBreak_PrintHTML.ac R) (QF P [] R) (fr0 [.pointer x0, .pointer x1]) w := by kernel_rfl
theorem g_SoftBreak_PrintHTML.sound {R : EP} {x0 : OA} {x1 : OA} {w : World} (h : g_SoftBreak_PrintHTML R x0 x1 w) : callE P i_SoftBreak_PrintHTML #[.pointer x0, .pointer x1] R w :=
  callE_fin (c := g_SoftBreak_PrintHTML.body) Tryz.func301 Tryz.call301 (by kernel_rfl) (by kernel_rfl) (by kernel_rfl) (by kernel_rfl) (by kernel_rfl) (g_SoftBreak_PrintHTML.good R) (g_SoftBreak_PrintHTML.eq R x0 x1 w) h
end Go.Proofs.YtmicoampfglaiaaGreatDoor

/- Leaves and links print themselves. -/
set_option linter.unusedVariables false
namespace Go.Proofs.YtmicoampfglaiaaGreatDoor
open Go.Proofs Go.IntWalk Go.RowKit
variable {σ : Out} {w : World} {L L' : List Chunk} {R : Ending → World → Prop}
/-- A method of a struct that is embedded first, met through a pointer. -/
def methB1 (P : Program) (t : TypeId) (name : String) (f : FuncId) : Bool :=
  match P.info? t with
  | some i => match i.methods.find? (·.name == name) with
    | some m => match m.path.toList with
      | [s] => s.deref && (match P.underlying s.struct with
        | some (.struct fields) => match fields[s.index]? with
          | some fd => Nat.beq fd.offset 0 && (match P.info? fd.type with
            | some ti => !(Nat.beq ti.size 0) && (match P.underlying fd.type with
              | some (.struct _) => (match m.func with | some (g, true) => Nat.beq g f | _ => false)
              | _ => false)
            | none => false)
          | none => false
        | _ => false)
      | _ => false
    | none => false
  | none => false
theorem methB1_run {P : Program} {t : TypeId} {name : String} {f : FuncId} (h : methB1 P t name f = true) (b : Nat) (fuel : Nat) (w : World) :
    (Go.method (fuel + 1) t (.pointer (some ⟨b, 0, none⟩)) name).run P w = .ok (f, .pointer (some ⟨b, 0, none⟩)) w := by
  unfold methB1 at h
  split at h
  · rename_i i hi
    split at h
    · rename_i m hm
      split at h
      · rename_i s hp
        simp only [Bool.and_eq_true] at h
        obtain ⟨hd, h⟩ := h
        split at h
        · rename_i fields hu
          split at h
          · rename_i fd hf
            simp only [Bool.and_eq_true] at h
            obtain ⟨h0, h⟩ := h
            have h0 := Nat.eq_of_beq_eq_true h0
            split at h
            · rename_i ti hti
              simp only [Bool.and_eq_true, Bool.not_eq_true'] at h
              obtain ⟨hsz, h⟩ := h
              have hsz : ti.size ≠ 0 := by intro h1; rw [h1] at hsz; simp at hsz
              split at h
              · rename_i fs hfu
                split at h
                · rename_i g hg
                  have hgf := Nat.eq_of_beq_eq_true h
                  subst hgf
                  simp [Go.method, typeInfo, hi, hm, hp, Go.follow, run_underlying hu, hf, hd, Go.Place.get, asAddr, Go.fieldPlace, sizeOf, hti, hsz, h0, hg, Go.receiverAt, run_underlying hfu, Addr.add_lit]
                · cases h
              · cases h
            · cases h
          · cases h
        · cases h
      · cases h
    · cases h
  · cases h
theorem enter_meth1 {t : TypeId} {name : String} {f : FuncId} {b : Nat} {args : Array Value} (hm : methB1 P t name f = true) (h : callE P f (#[.pointer (some ⟨b, 0, none⟩)] ++ args) R w) :
    enterE P (callMethod (.iface t (.pointer (some ⟨b, 0, none⟩))) name args) R w := by
  obtain ⟨n, hn⟩ := depth_succ P
  have hr := methB1_run hm b n w
  have e : (callMethod (.iface t (.pointer (some ⟨b, 0, none⟩))) name args).run P w = (callFunc f (#[.pointer (some ⟨b, 0, none⟩)] ++ args)).run P w := by
    simp only [callMethod, Sem.run_bind, run_program, Result.andThen_ok, hn, hr]
  unfold enterE
  rw [e]
  exact h.imp (fun h => ⟨f, _, w, h.1 _ _, h.2⟩) id
theorem meth_EscapedP : methB1 P ty_P_Escaped "PrintHTML" i_Plain_PrintHTML = true := by kernel_rfl
theorem meth_Soft : methB P ty_P_SoftBreak "PrintHTML" i_SoftBreak_PrintHTML = true := by kernel_rfl
theorem meth_Hard : methB P ty_P_HardBreak "PrintHTML" i_HardBreak_PrintHTML = true := by kernel_rfl
theorem meth_Auto : methB P ty_P_AutoLink "PrintHTML" i_AutoLink_PrintHTML = true := by kernel_rfl
theorem meth_Link : methB P ty_P_Link "PrintHTML" i_Link_PrintHTML = true := by kernel_rfl
theorem esc_prints {pb : Nat} {s : List UInt8} {cs : List Value} {e : TypeId} (hs : s.length < 4294967296) :
    Prints "PrintHTML" (.iface ty_P_Escaped (.pointer (some ⟨pb, 0, none⟩))) [(pb, cel (.string (bs s) :: cs) e)] [(pb, cel (.string (bs s) :: cs) e)] (ab (escS htmlPs s)) := by
  refine ⟨ab_le _, fun σ R b l M L w hB h hb hR => enter_meth1 meth_EscapedP ?_⟩
  exact plainPrint_ok hB h hs (Nat.le_trans (ab_le _ l) hb) hR
def softT : List UInt8 := [10]
def hardT : List UInt8 := [60, 98, 114, 32, 47, 62, 10]
theorem soft_prints {b : Nat} {T : List Chunk} : Prints "PrintHTML" (ptrV ty_P_SoftBreak b) T T (ab softT) := by
  refine ⟨ab_le _, fun σ R bb l M L w hB h hb hR => enter_meth meth_Soft ?_⟩
  refine g_SoftBreak_PrintHTML.sound ?_
  have hb' : (l ++ softT).length ≤ 549755813888 := hb
  rw [List.length_append] at hb'
  exact writeS_ok (s := softT) hB h (by omega) fun w M hB h => ⟨_, _, rfl, hR w M hB h⟩
theorem hard_prints {b : Nat} {T : List Chunk} : Prints "PrintHTML" (ptrV ty_P_HardBreak b) T T (ab hardT) := by
  refine ⟨ab_le _, fun σ R bb l M L w hB h hb hR => enter_meth meth_Hard ?_⟩
  refine g_HardBreak_PrintHTML.sound ?_
  have hb' : (l ++ hardT).length ≤ 549755813888 := hb
  rw [List.length_append] at hb'
  exact writeS_ok (s := hardT) hB h (by omega) fun w M hB h => ⟨_, _, rfl, hR w M hB h⟩
def aHref : List UInt8 := [60, 97, 32, 104, 114, 101, 102, 61, 34]
def aEnd : List UInt8 := [60, 47, 97, 62]
def tAttr : List UInt8 := [32, 116, 105, 116, 108, 101, 61, 34]
theorem linkPs8 : small8 linkPs = true := by decide
theorem linkPs_len : linkPs.length = 170 := by kernel_rfl
theorem linkReplace_ok {pb c : Nat} {e : TypeId} {s : List UInt8} (h : Sat σ w L) (hp : (pb, cel (pairC linkPs) e) ∈ L) (hs : s.length < 4294967296) (hR : ∀ w, Sat σ w L → R (.returned (.string (bs (escS linkPs s)))) w) :
    callE P i_zzPairs_Replace #[.slice (some ⟨pb, 0, none⟩) 340 c, .string (bs s)] R w := by
  have := pairsReplace_ok (c := c) (R := R) h hp linkPs8 (by rw [linkPs_len]; decide) hs hR
  rw [linkPs_len] at this
  exact this
theorem auto_prints {b : Nat} {e : TypeId} {t u : List UInt8} (ht : t.length < 100000000) (hu : u.length < 100000000) :
    Prints "PrintHTML" (ptrV ty_P_AutoLink b) [(b, cel [.string (bs t), .string (bs u)] e)] [(b, cel [.string (bs t), .string (bs u)] e)] (ab (aHref ++ escS linkPs u ++ [34, 62] ++ escS htmlPs t ++ aEnd)) := by
  refine ⟨ab_le _, fun σ R bb l M L w hB h hb hR => enter_meth meth_Auto ?_⟩
  have hmax : IntKind.i64.max = 9223372036854775807 := rfl
  have l1 := escS_length linkPs8 u
  have l2 := escS_length (ps := htmlPs) (by decide) t
  have hb' : (l ++ (aHref ++ escS linkPs u ++ [34, 62] ++ escS htmlPs t ++ aEnd)).length ≤ 549755813888 := hb
  rw [List.length_append] at hb'
  refine g_AutoLink_PrintHTML.sound ?_
  refine Sat.tk h fun w h => ?_
  refine nilP_some (nilP_some ?_)
  have hm : ∀ {M : List Chunk}, (b, cel [.string (bs t), .string (bs u)] e) ∈ M ++ ([(b, cel [.string (bs t), .string (bs u)] e)] ++ L) := List.mem_append_right _ (.head _)
  refine ⟨_, Sat.ld h (i := 1) hm rfl, _, Sat.ld h (i := 0) hm rfl, ?_⟩
  have h0 := h
  refine htmlLinkEscaper_ok h fun w eb h => ⟨_, _, _, rfl, h0.same h hm (.tail _ hm) 1, h0.same h hm (.tail _ hm) 1, ?_⟩
  have h0 := h
  refine linkReplace_ok h (.head _) (by omega) fun w h => ⟨_, rfl, h0.same h (.tail _ hm) (.tail _ hm) 1, ?_⟩
  rw [show ByteArray.mk #[60, 97, 32, 104, 114, 101, 102, 61, 34] = bs aHref from rfl, show ByteArray.mk #[34, 62] = bs [34, 62] from rfl, show ByteArray.mk #[60, 47, 97, 62] = bs aEnd from rfl, bs_append, bs_append]
  refine ⟨by rw [hmax]; simp [aHref]; omega, by rw [hmax]; simp [aHref]; omega, ?_⟩
  have h0 := h
  refine htmlEscaper_ok h fun w eb2 h => ⟨_, _, _, rfl, h0.same h (.tail _ hm) (.tail _ (.tail _ hm)) 1, ?_⟩
  refine pairsReplace_ok (ps := htmlPs) h (.head _) (by decide) (by decide) (by omega) fun w h => ⟨_, rfl, ?_⟩
  rw [bs_append, bs_append]
  refine ⟨by rw [hmax]; simp [aHref]; omega, by rw [hmax]; simp [aHref, aEnd]; omega, ?_⟩
  have h : Sat σ w (M ++ ([(b, cel [.string (bs t), .string (bs u)] e)] ++ L)) := h.tail.tail
  exact writeS_ok hB h (by omega) fun w M hB h => ⟨_, _, rfl, hR w M hB h⟩
/-- What stands ahead of a link's text. -/
def linkO (u t : List UInt8) : List UInt8 := aHref ++ escS linkPs u ++ [34] ++ (if t = [] then [] else tAttr ++ escS htmlPs t ++ [34]) ++ [62]
theorem link_prints {b : Nat} {e : TypeId} {u t : List UInt8} {cs : List Value} {q : Option Addr} {n c : Nat} {vs : List Value} {RM KM KM' : List Chunk} {f : List UInt8 → List UInt8} (hu : u.length < 100000000) (ht : t.length < 100000000) (hS : Sl 1 ty_Inline q n c vs RM) (hn : n < 4611686018427387904) (hP : PrintsL "PrintHTML" vs KM KM' f) :
    Prints "PrintHTML" (ptrV ty_P_Link b) ((b, cel (.slice q n c :: .string (bs u) :: .string (bs t) :: cs) e) :: (RM ++ KM)) ((b, cel (.slice q n c :: .string (bs u) :: .string (bs t) :: cs) e) :: (RM ++ KM')) (fun l => f (l ++ linkO u t) ++ aEnd) := by
  have hmax : IntKind.i64.max = 9223372036854775807 := rfl
  have l1 := escS_length linkPs8 u
  have l2 := escS_length (ps := htmlPs) (by decide) t
  refine ⟨fun l => ?_, fun σ R bb l M L w hB h hb hR => enter_meth meth_Link ?_⟩
  · have := hP.mono (l ++ linkO u t)
    simp only [List.length_append] at *; omega
  have hm := hP.mono (l ++ linkO u t)
  simp only [List.length_append] at hb hm
  refine g_Link_PrintHTML.sound ?_
  have hmem : ∀ {M : List Chunk}, (b, cel (.slice q n c :: .string (bs u) :: .string (bs t) :: cs) e) ∈ M ++ ((b, cel (.slice q n c :: .string (bs u) :: .string (bs t) :: cs) e) :: (RM ++ KM) ++ L) := List.mem_append_right _ (.head _)
  refine Sat.tk h fun w h => ?_
  refine nilP_some ⟨_, Sat.ld h (i := 1) hmem rfl, ?_⟩
  have h0 := h
  refine htmlLinkEscaper_ok h fun w eb h => ⟨_, _, _, rfl, h0.same h hmem (.tail _ hmem) 1, ?_⟩
  refine linkReplace_ok h (.head _) (by omega) fun w h => ⟨_, rfl, ?_⟩
  rw [show ByteArray.mk #[60, 97, 32, 104, 114, 101, 102, 61, 34] = bs aHref from rfl, show ByteArray.mk #[34] = bs [34] from rfl, bs_append, bs_append]
  have hlo : (linkO u t).length = (aHref ++ escS linkPs u ++ [34]).length + (if t = [] then [] else tAttr ++ escS htmlPs t ++ [34] : List UInt8).length + 1 := by simp [linkO]; omega
  refine ⟨by rw [hmax]; simp [aHref]; omega, by rw [hmax]; simp [aHref]; omega, ?_⟩
  have h : Sat σ w (M ++ ((b, cel (.slice q n c :: .string (bs u) :: .string (bs t) :: cs) e) :: (RM ++ KM) ++ L)) := h.tail
  refine writeS_ok hB h (by omega) fun w M hB h => ⟨_, _, rfl, ?_⟩
  refine nilP_some ⟨_, Sat.ld h (i := 2) hmem rfl, ?_⟩
  have k1 : ∀ w M, Buf bb (l ++ (aHref ++ escS linkPs u ++ [34] ++ (if t = [] then [] else tAttr ++ escS htmlPs t ++ [34]))) M → Sat σ w (M ++ ((b, cel (.slice q n c :: .string (bs u) :: .string (bs t) :: cs) e) :: (RM ++ KM) ++ L)) → g_Link_PrintHTML.k1 R (some ⟨b, 0, none⟩) (some ⟨bb, 0, none⟩) w := by
    intro w M hB h
    refine writeS_ok (s := [62]) hB h (by simp only [List.length_append, List.length_cons, List.length_nil] at hlo ⊢; omega) fun w M hB h => ⟨_, _, rfl, ?_⟩
    refine nilP_some ⟨_, _, _, Sat.ld h (i := 0) hmem rfl, ?_⟩
    intro X hX
    have e1 : l ++ (aHref ++ escS linkPs u ++ [34] ++ (if t = [] then [] else tAttr ++ escS htmlPs t ++ [34])) ++ [62] = l ++ linkO u t := by simp [linkO]
    rw [e1] at hB
    have h : Sat σ w (M ++ (RM ++ (KM ++ ((b, cel (.slice q n c :: .string (bs u) :: .string (bs t) :: cs) e) :: L)))) := h.re (by intro _; simp only [List.append_eq, cnt_append, cnt_cons, cnt_nil] <;> omega)
    refine printLoop (X := fun j w => X (some ⟨bb, 0, none⟩) q n c (n : Int) j w) (END := fun w => callE P i_bytes_Buffer_WriteString #[.pointer (some ⟨bb, 0, none⟩), .string (bs aEnd)] (fun e w10 => ∃ (r9_0 : Int), ∃ (r9_1 : Value), e = .returned (.tuple #[.int .i64 r9_0, r9_1]) ∧ R (.returned (.tuple #[])) w10) w) hS (fun j w hj => hX _ _ _ _ _ _ _ hj) hP hB h hn (by simp only [List.length_append] at *; omega) fun w M' hB h => ?_
    refine writeS_ok (s := aEnd) hB h (by simp only [List.length_append] at *; omega) fun w M hB h => ⟨_, _, rfl, ?_⟩
    exact hR w M hB (h.re (by intro _; simp only [List.append_eq, cnt_append, cnt_cons, cnt_nil] <;> omega))
  by_cases ht0 : t = []
  · refine br_false (by rw [ht0, bs_toList, mk_toList]; rfl) (k1 w M ?_ h)
    rw [if_pos ht0, List.append_nil]; exact hB
  · refine br_true (by rw [bs_toList, mk_toList]; simpa using ht0) ?_
    rw [if_neg ht0] at hlo
    simp only [List.length_append, List.length_cons, List.length_nil] at hlo
    refine Sat.tk h fun w h => ?_
    refine nilP_some ⟨_, Sat.ld h (i := 2) hmem rfl, ?_⟩
    have h0 := h
    refine htmlQuoteEscaper_ok h fun w eb h => ⟨_, _, _, rfl, h0.same h hmem (.tail _ hmem) 1, ?_⟩
    refine pairsReplace_ok (ps := htmlPs) h (.head _) (by decide) (by decide) (by omega) fun w h => ⟨_, rfl, ?_⟩
    rw [show ByteArray.mk #[32, 116, 105, 116, 108, 101, 61, 34] = bs tAttr from rfl, bs_append, bs_append]
    refine ⟨by rw [hmax]; simp [tAttr]; omega, by rw [hmax]; simp [tAttr]; omega, ?_⟩
    have h : Sat σ w (M ++ ((b, cel (.slice q n c :: .string (bs u) :: .string (bs t) :: cs) e) :: (RM ++ KM) ++ L)) := h.tail
    refine writeS_ok hB h (by simp only [List.length_append, List.length_cons, List.length_nil] at hlo ⊢; omega) fun w M hB h => ⟨_, _, rfl, k1 w M ?_ h⟩
    rw [if_neg ht0, ← List.append_assoc]; exact hB
end Go.Proofs.YtmicoampfglaiaaGreatDoor

/- Inlines print themselves. -/
set_option linter.unusedVariables false
namespace Go.Proofs.YtmicoampfglaiaaGreatDoor
open Go.Proofs Go.IntWalk Go.RowKit
variable {σ : Out} {w : World} {L L' : List Chunk} {R : Ending → World → Prop}
theorem meth_Strong : methB P ty_P_Strong "PrintHTML" i_Strong_PrintHTML = true := by kernel_rfl
theorem meth_Emph : methB P ty_P_Emph "PrintHTML" i_Emph_PrintHTML = true := by kernel_rfl
def oStrong : List UInt8 := [60, 115, 116, 114, 111, 110, 103, 62]
def cStrong : List UInt8 := [60, 47, 115, 116, 114, 111, 110, 103, 62]
def oEm : List UInt8 := [60, 101, 109, 62]
def cEm : List UInt8 := [60, 47, 101, 109, 62]
theorem strong_prints {b : Nat} {e : TypeId} {m : Value} {q : Option Addr} {n c : Nat} {vs : List Value} {RM KM KM' : List Chunk} {f : List UInt8 → List UInt8} (hS : Sl 1 ty_Inline q n c vs RM) (hn : n < 4611686018427387904) (hP : PrintsL "PrintHTML" vs KM KM' f) :
    Prints "PrintHTML" (.iface ty_P_Strong (.pointer (some ⟨b, 0, none⟩))) ((b, cel [m, .slice q n c] e) :: (RM ++ KM)) ((b, cel [m, .slice q n c] e) :: (RM ++ KM')) (fun l => f (l ++ oStrong) ++ cStrong) := by
  refine ⟨fun l => ?_, fun σ R bb l M L w hB h hb hR => enter_meth meth_Strong ?_⟩
  · have := hP.mono (l ++ oStrong)
    simp only [List.length_append] at *; omega
  refine g_Strong_PrintHTML.sound ?_
  have hm := hP.mono (l ++ oStrong)
  simp only [List.length_append] at hb hm
  refine writeS_ok (s := oStrong) hB h (by omega) fun w M hB h => ⟨_, _, rfl, ?_⟩
  refine nilP_some ?_
  refine ⟨_, _, _, Sat.ld h (List.mem_append_right _ (.head _)) rfl, ?_⟩
  intro X hX
  have h : Sat σ w (M ++ (RM ++ (KM ++ ((b, cel [m, .slice q n c] e) :: L)))) := h.re (by intro _; simp only [List.append_eq, cnt_append, cnt_cons, cnt_nil] <;> omega)
  refine printLoop (X := fun j w => X (some ⟨bb, 0, none⟩) q n c (n : Int) j w) (END := fun w => callE P i_bytes_Buffer_WriteString #[.pointer (some ⟨bb, 0, none⟩), .string (bs cStrong)] (fun e w10 => ∃ (r9_0 : Int), ∃ (r9_1 : Value), e = .returned (.tuple #[.int .i64 r9_0, r9_1]) ∧ R (.returned (.tuple #[])) w10) w) hS (fun j w hj => hX _ _ _ _ _ _ _ hj) hP hB h hn (by omega) fun w M' hB h => ?_
  refine writeS_ok (s := cStrong) hB h (by omega) fun w M hB h => ⟨_, _, rfl, ?_⟩
  exact hR w M hB (h.re (by intro _; simp only [List.append_eq, cnt_append, cnt_cons, cnt_nil] <;> omega))
theorem em_prints {b : Nat} {e : TypeId} {m : Value} {q : Option Addr} {n c : Nat} {vs : List Value} {RM KM KM' : List Chunk} {f : List UInt8 → List UInt8} (hS : Sl 1 ty_Inline q n c vs RM) (hn : n < 4611686018427387904) (hP : PrintsL "PrintHTML" vs KM KM' f) :
    Prints "PrintHTML" (.iface ty_P_Emph (.pointer (some ⟨b, 0, none⟩))) ((b, cel [m, .slice q n c] e) :: (RM ++ KM)) ((b, cel [m, .slice q n c] e) :: (RM ++ KM')) (fun l => f (l ++ oEm) ++ cEm) := by
  refine ⟨fun l => ?_, fun σ R bb l M L w hB h hb hR => enter_meth meth_Emph ?_⟩
  · have := hP.mono (l ++ oEm)
    simp only [List.length_append] at *; omega
  refine g_Emph_PrintHTML.sound ?_
  have hm := hP.mono (l ++ oEm)
  simp only [List.length_append] at hb hm
  refine writeS_ok (s := oEm) hB h (by omega) fun w M hB h => ⟨_, _, rfl, ?_⟩
  refine nilP_some ?_
  refine ⟨_, _, _, Sat.ld h (List.mem_append_right _ (.head _)) rfl, ?_⟩
  intro X hX
  have h : Sat σ w (M ++ (RM ++ (KM ++ ((b, cel [m, .slice q n c] e) :: L)))) := h.re (by intro _; simp only [List.append_eq, cnt_append, cnt_cons, cnt_nil] <;> omega)
  refine printLoop (X := fun j w => X (some ⟨bb, 0, none⟩) q n c (n : Int) j w) (END := fun w => callE P i_bytes_Buffer_WriteString #[.pointer (some ⟨bb, 0, none⟩), .string (bs cEm)] (fun e w10 => ∃ (r9_0 : Int), ∃ (r9_1 : Value), e = .returned (.tuple #[.int .i64 r9_0, r9_1]) ∧ R (.returned (.tuple #[])) w10) w) hS (fun j w hj => hX _ _ _ _ _ _ _ hj) hP hB h hn (by omega) fun w M' hB h => ?_
  refine writeS_ok (s := cEm) hB h (by omega) fun w M hB h => ⟨_, _, rfl, ?_⟩
  exact hR w M hB (h.re (by intro _; simp only [List.append_eq, cnt_append, cnt_cons, cnt_nil] <;> omega))
/-! ### In general -/
mutual
/-- What an inline prints (of the kinds that are covered). -/
def outI : Inl → List UInt8
  | .plain s => escS htmlPs s
  | .strong _ ks => oStrong ++ outL ks ++ cStrong
  | .emph _ ks => oEm ++ outL ks ++ cEm
  | .esc s => escS htmlPs s
  | .auto t u => aHref ++ escS linkPs u ++ [34, 62] ++ escS htmlPs t ++ aEnd
  | .link ks u t _ _ => linkO u t ++ outL ks ++ aEnd
  | .soft => softT
  | .hard => hardT
  | _ => []
def outL : List Inl → List UInt8
  | [] => []
  | t :: ts => outI t ++ outL ts
end
mutual
def okI : Inl → Prop
  | .plain s => s.length < 4294967296
  | .strong _ ks => okL ks ∧ ks.length < 1073741824
  | .emph _ ks => okL ks ∧ ks.length < 1073741824
  | .esc s => s.length < 4294967296
  | .auto t u => t.length < 100000000 ∧ u.length < 100000000
  | .link ks u t _ _ => okL ks ∧ ks.length < 1073741824 ∧ u.length < 100000000 ∧ t.length < 100000000
  | .soft => True
  | .hard => True
  | _ => False
def okL : List Inl → Prop
  | [] => True
  | t :: ts => okI t ∧ okL ts
end
theorem Prints.as {m : String} {v : Value} {T T' : List Chunk} {f g : List UInt8 → List UInt8} (h : Prints m v T T' f) (e : f = g) : Prints m v T T' g := e ▸ h
theorem PrintsL.as {m : String} {v : List Value} {T T' : List Chunk} {f g : List UInt8 → List UInt8} (h : PrintsL m v T T' f) (e : f = g) : PrintsL m v T T' g := e ▸ h
mutual
theorem inl_prints : ∀ (t : Inl) (v : Value) (M : List Chunk), InlAt t v M → okI t → Prints "PrintHTML" v M M (ab (outI t))
  | .plain s, v, M, h, ho => by
    obtain ⟨b, cs, e, rfl, rfl⟩ := h
    exact plain_prints ho
  | .strong m ks, v, M, h, ho => by
    obtain ⟨b, e, q, n, c, vs, RM, KM, rfl, rfl, hS, hI⟩ := h
    have hl := hI.length
    have h0 := hS.1
    have h1 := ho.2
    refine (strong_prints hS (by omega) (inls_print ks vs KM hI ho.1)).as ?_
    funext l
    simp [ab, outI]
  | .emph m ks, v, M, h, ho => by
    obtain ⟨b, e, q, n, c, vs, RM, KM, rfl, rfl, hS, hI⟩ := h
    have hl := hI.length
    have h0 := hS.1
    have h1 := ho.2
    refine (em_prints hS (by omega) (inls_print ks vs KM hI ho.1)).as ?_
    funext l
    simp [ab, outI]
  | .esc s, v, M, h, ho => by
    obtain ⟨b, e, rfl, rfl⟩ := h
    exact esc_prints ho
  | .auto t u, v, M, h, ho => by
    obtain ⟨b, e, rfl, rfl⟩ := h
    exact auto_prints ho.1 ho.2
  | .link ks u t tc k, v, M, h, ho => by
    obtain ⟨b, e, q, n, c, vs, RM, KM, rfl, rfl, hS, hI⟩ := h
    have hl := hI.length
    have h0 := hS.1
    obtain ⟨h1, h2, h3, h4⟩ := ho
    refine (link_prints h3 h4 hS (by omega) (inls_print ks vs KM hI h1)).as ?_
    funext l
    simp [ab, outI]
  | .soft, v, M, h, ho => by
    obtain ⟨b, e, rfl, rfl⟩ := h
    exact soft_prints
  | .hard, v, M, h, ho => by
    obtain ⟨b, e, rfl, rfl⟩ := h
    exact hard_prints
  | .openP _ _, v, M, h, ho => absurd ho id
  | .emphP _ _ _ _ _, v, M, h, ho => absurd ho id
  | .code _, v, M, h, ho => absurd ho id
  | .del _ _, v, M, h, ho => absurd ho id
  | .image _ _ _ _ _, v, M, h, ho => absurd ho id
  | .tag _, v, M, h, ho => absurd ho id
  | .task _, v, M, h, ho => absurd ho id
theorem inls_print : ∀ (ts : List Inl) (vs : List Value) (M : List Chunk), InlsAt ts vs M → okL ts → PrintsL "PrintHTML" vs M M (ab (outL ts))
  | [], vs, M, h, ho => by
    obtain ⟨rfl, rfl⟩ := h
    exact PrintsL.nil.as (by funext l; simp [ab, outL])
  | t :: ts, vs, M, h, ho => by
    obtain ⟨v, vs', M1, M2, rfl, rfl, h1, h2⟩ := h
    refine (PrintsL.cons (inl_prints t v M1 h1 ho.1) (inls_print ts vs' M2 h2 ho.2)).as ?_
    funext l
    simp [ab, outL]
end
end Go.Proofs.YtmicoampfglaiaaGreatDoor

/- A text in which nothing is an inline but plain text. -/
set_option linter.unusedVariables false
namespace Go.Proofs.YtmicoampfglaiaaGreatDoor
open Go.Proofs Go.IntWalk Go.RowKit
variable {σ : Out} {w : World} {L L' : List Chunk} {R : Ending → World → Prop}
theorem AtI.plains {X : XI} {b pb e : Nat} {p0 : PS} {raw : List UInt8} {ts : List Inl} {o : Opt} (hX : LoopX R X b raw) (hs : raw.length < 1000000000) (hpz : p0.pz = some ⟨pb, 0, none⟩) (ho : o.at pb ∈ L) :
    ∀ (k i : Nat), i + k ≤ raw.length → (∀ j (hj : j < raw.length), i ≤ j → j < i + k → parserOf o raw[j] = .nil ∧ raw[j] ≠ 93) → AtI X σ b p0 raw L (i + k) e ts → AtI X σ b p0 raw L i e ts
  | 0, i, _, _, h => h
  | k + 1, i, hk, hall, h => by
    have hi : i < raw.length := by omega
    have h0 := hall i hi (Nat.le_refl _) (by omega)
    refine AtI.plain hX hi hs hpz ho h0.1 h0.2 ?_
    refine AtI.plains hX hs hpz ho k (i + 1) (by omega) (fun j hj h1 h2 => hall j hj (by omega) (by omega)) ?_
    rw [show i + 1 + k = i + (k + 1) by omega]; exact h
theorem plainText_inline {o : Opt} {s : List UInt8} (hoff : o.auto = false) (hs : s.length < 1000000) (hall : ∀ c ∈ trimLR isST s, parserOf o c = .nil ∧ c ≠ 93) (hne : trimLR isST s ≠ []) : InlineOK o s (ab (escS htmlPs (trimLR isST s))) := by
  intro σ R b pb p L w h hpz ho hlk hR
  have htl : (trimLR isST s).length ≤ s.length := by
    unfold trimLR trimR
    have h1 := (List.dropWhile_sublist isST (l := s)).length_le
    have h2 := (List.dropWhile_sublist isST (l := (s.dropWhile isST).reverse)).length_le
    simp at h2 ⊢; omega
  refine inl_begin h (by omega) fun w h => ?_
  generalize hr : trimLR isST s = raw at h hall hne htl hR ⊢
  intro X hX
  have hXL : LoopX R X b raw := fun _ _ _ _ _ h => hX _ _ _ _ _ _ _ _ _ h
  generalize hp0 : ({ p with s := raw, em := 0, lq := none, ln := 0, lc := 0 } : PS) = p0 at h
  have hpz0 : p0.pz = some ⟨pb, 0, none⟩ := by rw [← hp0]; exact hpz
  have hcs : p0.coreS = p.coreS := by rw [← hp0]; rfl
  suffices hat : AtI X σ b p0 raw L 0 0 [] from hat w p0 none 0 0 rfl (by rw [← hp0]) (by rw [← hp0]; rfl) h
  have hpos : 0 < raw.length := List.length_pos_iff.2 hne
  refine AtI.plains hXL (by omega) hpz0 ho raw.length 0 (by omega) (fun j hj _ _ => hall _ (List.getElem_mem hj)) ?_
  rw [Nat.zero_add]
  have e1 : emitM raw 0 raw.length [] = [.plain raw] := by
    unfold emitM; rw [if_pos hpos]
    show [Inl.plain ((raw.take raw.length).drop 0)] = _
    rw [List.take_length, List.drop_zero]
  refine AtI.fin (ts' := [.plain raw]) hXL (by omega) hpz0 ho hoff (by simp) ?_ ?_ ?_ ?_
  · rw [e1]
    exact emphOK_none (by intro t ht; simp at ht; subst ht; exact ⟨by simp only [Inl.ty]; decide, by simp only [Inl.ty]; decide⟩)
  · intro t ht s hs; simp at ht; subst ht; simp [Inl.plain?] at hs; subst hs; exact hne
  · simp [plen, Inl.plain?]; omega
  · intro w p' q n' c vs RM EM hp' hS hn' hI h
    have em : mergeM [.plain raw] = [.plain raw] := by simp [mergeM, mergeGo, flushP, Inl.plain?]
    rw [em] at hI
    have hP := inls_print _ _ _ hI ⟨by show raw.length < _; omega, trivial⟩
    have eo : outL [.plain raw] = escS htmlPs raw := by simp [outL, outI]
    rw [eo] at hP
    exact hR w p' q n' c vs RM EM EM (hp'.trans hcs) hS hn' hP h
end Go.Proofs.YtmicoampfglaiaaGreatDoor

/- Texts of plain bytes, escaped ones, and ends of lines: their inlines. -/
set_option linter.unusedVariables false
namespace Go.Proofs.YtmicoampfglaiaaGreatDoor
open Go.Proofs Go.IntWalk Go.RowKit
variable {σ : Out} {w : World} {L L' : List Chunk} {R : Ending → World → Prop}
def punB (c : UInt8) : Bool := (((decide (33 ≤ c.toNat) && decide (c.toNat ≤ 47)) || (decide (58 ≤ c.toNat) && decide (c.toNat ≤ 64))) || (decide (91 ≤ c.toNat) && decide (c.toNat ≤ 96))) || (decide (123 ≤ c.toNat) && decide (c.toNat ≤ 126))
theorem u8_cle (c : UInt8) (n : Nat) : decide ((n : Int) ≤ ((c.toNat : Nat) : Int)) = decide (n ≤ c.toNat) := by rw [decide_eq_decide]; omega
theorem u8_cge (c : UInt8) (n : Nat) : decide (((c.toNat : Nat) : Int) ≤ (n : Int)) = decide (c.toNat ≤ n) := by rw [decide_eq_decide]; omega
theorem isPunctB_ok {c : UInt8} (hR : R (.returned (.bool (punB c))) w) : callE P i_isPunct #[.int .u8 (c.toNat : Int)] R w := by
  refine g_isPunct.sound ?_
  unfold g_isPunct
  unfold punB at hR
  rw [← u8_cle c 33, ← u8_cge c 47, ← u8_cle c 58, ← u8_cge c 64, ← u8_cle c 91, ← u8_cge c 96, ← u8_cle c 123, ← u8_cge c 126] at hR
  exact hR
inductive Tok where
  | lit (c : UInt8)
  | esc (c : UInt8)
  | nl
def Tok.bytes : Tok → List UInt8
  | .lit c => [c]
  | .esc c => [92, c]
  | .nl => [10]
def Tok.out : Tok → List UInt8
  | .lit c => escB htmlPs c
  | .esc c => escB htmlPs c
  | .nl => [10]
def tokB (ts : List Tok) : List UInt8 := ts.flatMap Tok.bytes
def tokO (ts : List Tok) : List UInt8 := ts.flatMap Tok.out
theorem tokB_cons (t : Tok) (ts : List Tok) : tokB (t :: ts) = t.bytes ++ tokB ts := by simp [tokB]
theorem tokB_append (a b : List Tok) : tokB (a ++ b) = tokB a ++ tokB b := by simp [tokB]
theorem tokO_cons (t : Tok) (ts : List Tok) : tokO (t :: ts) = t.out ++ tokO ts := by simp [tokO]
theorem tokO_append (a b : List Tok) : tokO (a ++ b) = tokO a ++ tokO b := by simp [tokO]
theorem tokB_length (ts : List Tok) : ts.length ≤ (tokB ts).length := by
  induction ts with
  | nil => simp [tokB]
  | cons t ts ih => rw [tokB_cons, List.length_append, List.length_cons]; cases t <;> simp [Tok.bytes] <;> omega
/-- The inlines of such a text, behind some plain bytes. -/
def tokIn (pend : List UInt8) : List Tok → List Inl
  | [] => if pend = [] then [] else [.plain pend]
  | .lit c :: r => tokIn (pend ++ [c]) r
  | .esc c :: r => (if pend = [] then [] else [.plain pend]) ++ .esc [c] :: tokIn [] r
  | .nl :: r => (if pend = [] then [] else [.plain pend]) ++ .soft :: tokIn [] r
/-- No white space stands around the ends of lines. -/
def nlOK : List Tok → Prop
  | [] => True
  | t :: ts => (match ts with
    | .nl :: _ => match t with
      | .lit c => isST c = false
      | .esc c => isST c = false
      | .nl => True
    | _ => True) ∧ (match t, ts with
    | .nl, .lit c :: _ => isST c = false
    | _, _ => True) ∧ nlOK ts
def Tok.ok (o : Opt) : Tok → Prop
  | .lit c => parserOf o c = .nil ∧ c ≠ 93
  | .esc c => punB c = true
  | .nl => True
theorem escape_leaf {b : Nat} {p : PS} {c : UInt8} {A B : List UInt8} (hc : punB c = true) (hs : (A ++ 92 :: c :: B).length < 1000000) :
    LeafOK b p (A ++ 92 :: c :: B) A.length (.func (.func i_parseEscape) #[] #[]) [] (some (.esc [c], A.length, A.length + 2)) (fun p' => p' = p) := by
  intro σ R L w _ h hR
  refine enter_fn ?_
  have hlen : (A ++ 92 :: c :: B).length = A.length + B.length + 2 := by simp; omega
  have hg : (A ++ 92 :: c :: B).getD (A.length + 1) 0 = c := by
    have := getD_mid (A ++ [92]) B c 0
    rw [show (A ++ [92] : List UInt8).length = A.length + 1 by simp] at this
    rw [← this]; simp
  refine g_parseEscape.sound ?_
  unfold g_parseEscape
  have e2 : IntKind.i64.wrap ((A.length : Int) + 2) = ((A.length + 2 : Nat) : Int) := by simp (disch := omega) only [i64_in]; omega
  rw [i64_inc (by omega), e2]
  refine br_true (by rw [bs_size, hlen]; simp; omega) ⟨by omega, by rw [bs_size, hlen]; omega, ?_⟩
  rw [bs_bt, hg]
  refine isPunctB_ok ⟨_, rfl, br_true hc ⟨by omega, by omega, by rw [bs_size, hlen]; omega, ?_⟩⟩
  have hsub := sub_mid (A ++ [92]) [c] B
  rw [show (A ++ [92] : List UInt8).length = A.length + 1 by simp] at hsub
  rw [Int.toNat_natCast, Int.toNat_natCast, bs_extract]
  have hsub' : ((A ++ 92 :: c :: B).take (A.length + 2)).drop (A.length + 1) = [c] := by
    unfold sub at hsub
    rw [← hsub]; simp
  rw [hsub']
  refine Sat.bx h fun nb w h => ?_
  exact hR w p _ _ rfl rfl ⟨nb, _, rfl, rfl⟩ h.up1
theorem break_leaf {b : Nat} {p : PS} {A B : List UInt8} (hA : ∀ k, k + 1 = A.length → isST (A.getD k 0) = false) (hB : 0 < B.length → isST (B.getD 0 0) = false) (hs : (A ++ 10 :: B).length < 1000000) :
    LeafOK b p (A ++ 10 :: B) A.length (.func (.func i_parseBreak) #[] #[]) [] (some (.soft, A.length, A.length + 1)) (fun p' => p' = p) := by
  intro σ R L w _ h hR
  refine enter_fn ?_
  have hlen : (A ++ 10 :: B).length = A.length + B.length + 1 := by simp; omega
  have hst : ∀ {c : UInt8}, isST c = false → (((c.toNat : Nat) : Int) == 32) = false ∧ (((c.toNat : Nat) : Int) == 9) = false := by
    intro c hc
    simp only [isST, Bool.or_eq_false_iff] at hc
    rw [u8b _ 32 32 rfl, u8b _ 9 9 rfl]; exact hc
  refine g_parseBreak.sound ?_
  intro X hX
  have k1 : g_parseBreak.k1 R (bs (A ++ 10 :: B)) (A.length : Nat) (A.length : Nat) w := by
    unfold g_parseBreak.k1
    rw [i64_inc (by omega)]
    intro Y hY
    have k2 : g_parseBreak.k2 R (bs (A ++ 10 :: B)) (A.length : Nat) (A.length : Nat) ((A.length + 1 : Nat) : Int) w := by
      rcases Nat.lt_or_ge A.length 2 with h2 | h2
      · have hf : decide (((A.length : Nat) : Int) ≥ 2) = false := decide_eq_false (by omega)
        unfold g_parseBreak.k2
        rw [hf]
        refine ⟨fun h => by simp at h, fun h => by simp at h, br_false rfl ?_⟩
        exact Sat.bx h fun nb w h => hR w p _ _ rfl rfl ⟨nb, _, rfl, rfl⟩ h.up1
      · have ht : decide (((A.length : Nat) : Int) ≥ 2) = true := decide_eq_true (by omega)
        have e1 : IntKind.i64.wrap ((A.length : Int) - 1) = ((A.length - 1 : Nat) : Int) := i64_dec (by omega) (by omega)
        have hc := hst (hA (A.length - 1) (by omega))
        have hg : bt (bs (A ++ 10 :: B)) ((A.length - 1 : Nat) : Int) = ((A.getD (A.length - 1) 0).toNat : Int) := by rw [bs_bt, getD_app' (by omega)]
        unfold g_parseBreak.k2
        rw [ht, e1, hg, hc.1]
        refine ⟨fun _ => ⟨by omega, by rw [bs_size, hlen]; omega⟩, fun h => by simp at h, br_false rfl ?_⟩
        exact Sat.bx h fun nb w h => hR w p _ _ rfl rfl ⟨nb, _, rfl, rfl⟩ h.up1
    rcases Nat.eq_zero_or_pos B.length with hb | hb
    · have hf : decide (((A.length + 1 : Nat) : Int) < ((bs (A ++ 10 :: B)).size : Int)) = false := decide_eq_false (by rw [bs_size, hlen]; omega)
      refine hY _ _ _ _ _ ?_
      unfold g_parseBreak.bl2
      rw [hf]
      exact ⟨fun h => by simp at h, fun h => by simp at h, br_false rfl k2⟩
    · have hc := hst (hB hb)
      have hg : bt (bs (A ++ 10 :: B)) ((A.length + 1 : Nat) : Int) = ((B.getD 0 0).toNat : Int) := by
        rw [bs_bt, getD_app (by omega), show A.length + 1 - A.length = 0 + 1 by omega, List.getD_cons_succ]
      refine hY _ _ _ _ _ ?_
      unfold g_parseBreak.bl2
      rw [hg, hc.1, hc.2]
      exact ⟨fun h => ⟨by omega, by rw [bs_size, hlen]; omega⟩, fun h => ⟨by omega, by rw [bs_size, hlen]; omega⟩, br_false (by simp) k2⟩
  rcases Nat.eq_zero_or_pos A.length with ha | ha
  · have hf : decide (((A.length : Nat) : Int) > 0) = false := decide_eq_false (by omega)
    refine hX _ _ _ _ ?_
    unfold g_parseBreak.bl1
    rw [hf]
    exact ⟨fun h => by simp at h, fun h => by simp at h, br_false rfl k1⟩
  · have e1 : IntKind.i64.wrap ((A.length : Int) - 1) = ((A.length - 1 : Nat) : Int) := i64_dec (by omega) (by omega)
    have hc := hst (hA (A.length - 1) (by omega))
    have hg : bt (bs (A ++ 10 :: B)) ((A.length - 1 : Nat) : Int) = ((A.getD (A.length - 1) 0).toNat : Int) := by rw [bs_bt, getD_app' (by omega)]
    refine hX _ _ _ _ ?_
    unfold g_parseBreak.bl1
    rw [e1, hg, hc.1, hc.2]
    exact ⟨fun h => ⟨by omega, by rw [bs_size, hlen]; omega⟩, fun h => ⟨by omega, by rw [bs_size, hlen]; omega⟩, br_false (by simp) k1⟩
/-! ### The inlines of tokens -/
theorem tokIn_kinds : ∀ (ts : List Tok) (pend : List UInt8), ∀ t ∈ tokIn pend ts, (∃ s, s ≠ [] ∧ t = .plain s) ∨ (∃ s, t = .esc s) ∨ t = .soft
  | [], pend, t, h => by
    simp only [tokIn] at h
    split at h
    · simp at h
    · rename_i hp; simp at h; exact .inl ⟨pend, hp, h⟩
  | .lit c :: r, pend, t, h => tokIn_kinds r _ t h
  | .esc c :: r, pend, t, h => by
    simp only [tokIn, List.mem_append, List.mem_cons] at h
    rcases h with h | rfl | h
    · split at h
      · simp at h
      · rename_i hp; simp at h; exact .inl ⟨pend, hp, h⟩
    · exact .inr (.inl ⟨_, rfl⟩)
    · exact tokIn_kinds r _ t h
  | .nl :: r, pend, t, h => by
    simp only [tokIn, List.mem_append, List.mem_cons] at h
    rcases h with h | rfl | h
    · split at h
      · simp at h
      · rename_i hp; simp at h; exact .inl ⟨pend, hp, h⟩
    · exact .inr (.inr rfl)
    · exact tokIn_kinds r _ t h
theorem tokIn_merge : ∀ (ts : List Tok) (pend : List UInt8), mergeM (tokIn pend ts) = tokIn pend ts
  | [], pend => by
    by_cases hp : pend = []
    · simp [tokIn, hp, mergeM, mergeGo, flushP]
    · simp [tokIn, hp, mergeM, mergeGo, flushP, Inl.plain?]
  | .lit c :: r, pend => tokIn_merge r _
  | .esc c :: r, pend => by
    have ih := tokIn_merge r []
    unfold mergeM at ih ⊢
    by_cases hp : pend = []
    · simp [tokIn, hp, mergeGo, flushP, Inl.plain?, ih]
    · simp [tokIn, hp, mergeGo, flushP, Inl.plain?, ih]
  | .nl :: r, pend => by
    have ih := tokIn_merge r []
    unfold mergeM at ih ⊢
    by_cases hp : pend = []
    · simp [tokIn, hp, mergeGo, flushP, Inl.plain?, ih]
    · simp [tokIn, hp, mergeGo, flushP, Inl.plain?, ih]
theorem outL_append : ∀ (a b : List Inl), outL (a ++ b) = outL a ++ outL b
  | [], b => rfl
  | t :: a, b => by simp only [List.cons_append, outL, outL_append a b, List.append_assoc]
theorem tokIn_out : ∀ (ts : List Tok) (pend : List UInt8), outL (tokIn pend ts) = escS htmlPs pend ++ tokO ts
  | [], pend => by
    by_cases hp : pend = []
    · simp [tokIn, hp, outL, escS, tokO]
    · simp [tokIn, hp, outL, outI, tokO]
  | .lit c :: r, pend => by
    rw [tokIn, tokIn_out r, escS_append, tokO_cons]
    simp [escS, Tok.out]
  | .esc c :: r, pend => by
    rw [tokIn, outL_append, tokO_cons]
    by_cases hp : pend = []
    · simp [hp, outL, outI, tokIn_out r [], escS, Tok.out]
    · simp [hp, outL, outI, tokIn_out r [], escS, Tok.out]
  | .nl :: r, pend => by
    rw [tokIn, outL_append, tokO_cons]
    by_cases hp : pend = []
    · simp [hp, outL, outI, tokIn_out r [], escS, Tok.out, softT]
    · simp [hp, outL, outI, tokIn_out r [], escS, Tok.out, softT]
theorem okL_append : ∀ {a b : List Inl}, okL a → okL b → okL (a ++ b)
  | [], b, _, h => h
  | t :: a, b, h1, h2 => ⟨h1.1, okL_append h1.2 h2⟩
theorem tokIn_ok : ∀ (ts : List Tok) (pend : List UInt8), pend.length + ts.length < 1000000 → okL (tokIn pend ts)
  | [], pend, h => by
    simp only [tokIn]
    split
    · trivial
    · exact ⟨by show pend.length < _; simp at h; omega, trivial⟩
  | .lit c :: r, pend, h => tokIn_ok r _ (by simp at h ⊢; omega)
  | .esc c :: r, pend, h => by
    simp only [tokIn]
    refine okL_append ?_ ⟨by show ([c] : List UInt8).length < _; simp, tokIn_ok r [] (by simp at h ⊢; omega)⟩
    split
    · trivial
    · exact ⟨by show pend.length < _; simp at h; omega, trivial⟩
  | .nl :: r, pend, h => by
    simp only [tokIn]
    refine okL_append ?_ ⟨trivial, tokIn_ok r [] (by simp at h ⊢; omega)⟩
    split
    · trivial
    · exact ⟨by show pend.length < _; simp at h; omega, trivial⟩
theorem plen_append : ∀ (a b : List Inl), plen (a ++ b) = plen a + plen b
  | [], b => by simp [plen]
  | t :: a, b => by simp only [List.cons_append, plen, plen_append a b]; omega
theorem tokIn_plen : ∀ (ts : List Tok) (pend : List UInt8), plen (tokIn pend ts) ≤ pend.length + ts.length
  | [], pend => by
    simp only [tokIn]
    split <;> simp [plen, Inl.plain?]
  | .lit c :: r, pend => by
    have := tokIn_plen r (pend ++ [c])
    simp only [tokIn, List.length_append, List.length_cons, List.length_nil] at this ⊢; omega
  | .esc c :: r, pend => by
    have := tokIn_plen r []
    simp only [tokIn, plen_append, plen, List.length_nil, List.length_cons] at this ⊢
    split <;> simp [plen, Inl.plain?] <;> omega
  | .nl :: r, pend => by
    have := tokIn_plen r []
    simp only [tokIn, plen_append, plen, List.length_nil, List.length_cons] at this ⊢
    split <;> simp [plen, Inl.plain?] <;> omega
theorem sub_snoc {A B : List UInt8} {e : Nat} (x : List UInt8) (he : e ≤ A.length) : sub (A ++ (x ++ B)) e (A.length + x.length) = sub (A ++ (x ++ B)) e A.length ++ x := by
  unfold sub
  have h1 : (A ++ (x ++ B)).take (A.length + x.length) = A ++ x := by rw [← List.append_assoc, show A.length + x.length = (A ++ x).length by simp, List.take_left]
  have h2 : (A ++ (x ++ B)).take A.length = A := List.take_left
  rw [h1, h2, List.drop_append_of_le_length he]
theorem nlOK_tail {t : Tok} {ts : List Tok} (h : nlOK (t :: ts)) : nlOK ts := h.2.2
theorem toks_inline {o : Opt} {toks : List Tok} (hoff : o.auto = false) (hok : ∀ t ∈ toks, t.ok o) (hnl : nlOK toks) (hlen : (tokB toks).length < 1000000) (htr : trimLR isST (tokB toks) = tokB toks) (hne : toks ≠ []) :
    InlineOK o (tokB toks) (ab (tokO toks)) := by
  intro σ R b pb p L w h hpz ho hlk hR
  have htl := tokB_length toks
  refine inl_begin h (by omega) fun w h => ?_
  rw [htr] at h ⊢
  generalize hr : tokB toks = raw at h hlen htl ⊢
  intro X hX
  have hXL : LoopX R X b raw := fun _ _ _ _ _ h => hX _ _ _ _ _ _ _ _ _ h
  generalize hp0 : ({ p with s := raw, em := 0, lq := none, ln := 0, lc := 0 } : PS) = p0 at h
  have hpz0 : p0.pz = some ⟨pb, 0, none⟩ := by rw [← hp0]; exact hpz
  have hcs : p0.coreS = p.coreS := by rw [← hp0]; rfl
  suffices hat : AtI X σ b p0 raw L 0 0 [] from hat w p0 none 0 0 rfl (by rw [← hp0]) (by rw [← hp0]; rfl) h
  have hem : ∀ (e i : Nat) (ts : List Inl), e ≤ i → i ≤ raw.length → emitM raw e i ts = ts ++ (if sub raw e i = [] then [] else [.plain (sub raw e i)]) := by
    intro e i ts h1 h2
    have hsl := sub_length (s := raw) (i := e) (j := i) h2
    unfold emitM
    by_cases hei : e < i
    · rw [if_pos hei, if_neg (by intro h0; rw [h0] at hsl; simp at hsl; omega)]
    · rw [if_neg hei, if_pos (List.eq_nil_of_length_eq_zero (by omega)), List.append_nil]
  have key : ∀ (suf pre : List Tok) (e : Nat) (ts : List Inl), pre ++ suf = toks → e ≤ (tokB pre).length → ts.length ≤ pre.length * 2 → (∀ t, pre.getLast? = some t → ∀ s, suf.head? = some s → nlOK [t, s]) →
      ts ++ tokIn (sub raw e (tokB pre).length) suf = tokIn [] toks → AtI X σ b p0 raw L (tokB pre).length e ts := by
    intro suf
    induction suf with
    | nil =>
      intro pre e ts hpre he htsl _ hT
      rw [List.append_nil] at hpre
      subst hpre
      rw [hr] at he hT ⊢
      refine AtI.fin (ts' := tokIn [] pre) hXL (by omega) hpz0 ho hoff (by omega) ?_ ?_ ?_ ?_
      · rw [hem e raw.length ts he (Nat.le_refl _)]
        have : ts ++ (if sub raw e raw.length = [] then [] else [.plain (sub raw e raw.length)]) = tokIn [] pre := by rw [← hT]; rfl
        rw [this]
        refine emphOK_none fun t ht => ?_
        rcases tokIn_kinds _ _ t ht with ⟨s, _, rfl⟩ | ⟨s, rfl⟩ | rfl <;> exact ⟨by simp only [Inl.ty]; decide, by simp only [Inl.ty]; decide⟩
      · intro t ht s hs
        rcases tokIn_kinds _ _ t ht with ⟨s', hs', rfl⟩ | ⟨s', rfl⟩ | rfl
        · simp [Inl.plain?] at hs; subst hs; exact hs'
        · simp [Inl.plain?] at hs
        · simp [Inl.plain?] at hs
      · have := tokIn_plen pre []; simp at this; omega
      · intro w p' q n' c vs RM EM hp' hS hn' hI h
        rw [tokIn_merge] at hI
        have hP := inls_print _ _ _ hI (tokIn_ok pre [] (by simp; omega))
        have eo : outL (tokIn [] pre) = tokO pre := by rw [tokIn_out]; simp [escS]
        rw [eo] at hP
        exact hR w p' q n' c vs RM EM EM (hp'.trans hcs) hS hn' hP h
    | cons t suf ih =>
      intro pre e ts hpre he htsl hadj hT
      have hraw : raw = tokB pre ++ (t.bytes ++ tokB suf) := by rw [← hr, ← hpre, tokB_append, tokB_cons]
      have hl : raw.length = (tokB pre).length + (t.bytes.length + (tokB suf).length) := by rw [hraw]; simp
      have htm : t ∈ toks := by rw [← hpre]; simp
      have hokt := hok t htm
      have hpl : (tokB (pre ++ [t])).length = (tokB pre).length + t.bytes.length := by rw [tokB_append, tokB_cons]; simp [tokB]
      have hprel : pre.length + suf.length + 1 = toks.length := by rw [← hpre]; simp; omega
      have hnl2 : nlOK (t :: suf) := by
        have : ∀ (a b : List Tok), nlOK (a ++ b) → nlOK b := by
          intro a
          induction a with
          | nil => exact fun b h => h
          | cons x a iha => exact fun b h => iha b h.2.2
        exact this pre _ (by rw [hpre]; exact hnl)
      have hadj2 : ∀ t', (pre ++ [t]).getLast? = some t' → ∀ s, suf.head? = some s → nlOK [t', s] := by
        intro t' ht' s hs
        rw [List.getLast?_append] at ht'
        simp at ht'
        subst ht'
        cases suf with
        | nil => simp at hs
        | cons s' suf =>
          simp at hs; subst hs
          refine ⟨?_, ?_, ?_⟩
          · have := hnl2.1
            cases s' <;> cases t <;> first | trivial | exact this
          · have := hnl2.2.1
            cases s' <;> cases t <;> first | trivial | exact this
          · exact ⟨trivial, by cases s' <;> trivial, trivial⟩
      cases t with
      | lit c =>
        have hi : (tokB pre).length < raw.length := by rw [hl]; simp [Tok.bytes]; omega
        have hget : raw[(tokB pre).length] = c := by
          have := getD_mid (tokB pre) (tokB suf) c 0
          rw [show tokB pre ++ c :: tokB suf = raw by rw [hraw]; rfl] at this
          rw [getElem_getD hi 0]; exact this
        refine AtI.plain hXL hi (by omega) hpz0 ho (by rw [hget]; exact hokt.1) (by rw [hget]; exact hokt.2) ?_
        have := ih (pre ++ [.lit c]) e ts (by rw [← hpre]; simp) (by rw [hpl]; omega) (by simp; omega) hadj2 ?_
        · rw [hpl] at this; exact this
        · rw [hpl]
          have hs := sub_snoc (A := tokB pre) (B := tokB suf) (e := e) (Tok.lit c).bytes he
          rw [← hraw] at hs
          rw [hs]; exact hT
      | esc c =>
        have hi : (tokB pre).length < raw.length := by rw [hl]; simp [Tok.bytes]; omega
        have hraw' : raw = tokB pre ++ 92 :: c :: tokB suf := by rw [hraw]; rfl
        have hget : raw[(tokB pre).length] = 92 := by
          have := getD_mid (tokB pre) (c :: tokB suf) 92 0
          rw [← hraw'] at this
          rw [getElem_getD hi 0]; exact this
        refine AtI.leaf (Q := fun p p' => p' = p) (st := (tokB pre).length) (en := (tokB pre).length + 2) (t := .esc [c]) hXL hi (by omega) hpz0 ho (f := i_parseEscape) (by rw [hget]; rfl) (L0 := []) (by simp) (fun p _ _ => by rw [hraw']; exact escape_leaf hokt (by rw [← hraw']; omega)) rfl (by omega) (by omega) ?_
        have hlen2 : ∀ ts' : List Inl, ts'.length ≤ ts.length + 1 → ts'.length + 1 ≤ (pre.length + 1) * 2 := by intro ts' h'; omega
        have := ih (pre ++ [.esc c]) ((tokB pre).length + 2) (emitM raw e (tokB pre).length ts ++ [.esc [c]]) (by rw [← hpre]; simp) (by rw [hpl]; simp [Tok.bytes]) ?_ hadj2 ?_
        · rw [hpl] at this; exact this
        · have : (emitM raw e (tokB pre).length ts).length ≤ ts.length + 1 := by unfold emitM; split <;> simp
          simp only [List.length_append, List.length_singleton]; omega
        · rw [hpl, show (Tok.esc c).bytes.length = 2 from rfl, sub_self, hem e _ ts he (by omega)]
          rw [← hT]; simp [tokIn]
      | nl =>
        have hi : (tokB pre).length < raw.length := by rw [hl]; simp [Tok.bytes]; omega
        have hraw' : raw = tokB pre ++ 10 :: tokB suf := by rw [hraw]; rfl
        have hget : raw[(tokB pre).length] = 10 := by
          have := getD_mid (tokB pre) (tokB suf) 10 0
          rw [← hraw'] at this
          rw [getElem_getD hi 0]; exact this
        have hA : ∀ k, k + 1 = (tokB pre).length → isST ((tokB pre).getD k 0) = false := by
          intro k hk
          rcases List.eq_nil_or_concat pre with h0 | ⟨a, t', h0⟩
          · rw [h0] at hk; simp [tokB] at hk
          · rw [List.concat_eq_append] at h0
            have ha := (hadj t' (by rw [h0]; simp) .nl rfl).1
            rw [h0, tokB_append] at hk ⊢
            rw [List.length_append] at hk
            cases t' with
            | lit c =>
              have hk' : k = (tokB a).length := by simp [tokB, Tok.bytes] at hk ⊢; omega
              rw [hk', getD_app (Nat.le_refl _), Nat.sub_self]; exact ha
            | esc c =>
              have hk' : k = (tokB a).length + 1 := by simp [tokB, Tok.bytes] at hk ⊢; omega
              rw [hk', getD_app (by omega), show (tokB a).length + 1 - (tokB a).length = 1 by omega]; exact ha
            | nl =>
              have hk' : k = (tokB a).length := by simp [tokB, Tok.bytes] at hk ⊢; omega
              rw [hk', getD_app (Nat.le_refl _), Nat.sub_self]; decide
        have hB : 0 < (tokB suf).length → isST ((tokB suf).getD 0 0) = false := by
          intro _
          cases suf with
          | nil => decide
          | cons s suf =>
            cases s with
            | lit c => exact hnl2.2.1
            | esc c => rfl
            | nl => rfl
        refine AtI.leaf (Q := fun p p' => p' = p) (st := (tokB pre).length) (en := (tokB pre).length + 1) (t := .soft) hXL hi (by omega) hpz0 ho (f := i_parseBreak) (by rw [hget]; rfl) (L0 := []) (by simp) (fun p _ _ => by rw [hraw']; exact break_leaf hA hB (by rw [← hraw']; omega)) rfl (by omega) (by omega) ?_
        have := ih (pre ++ [.nl]) ((tokB pre).length + 1) (emitM raw e (tokB pre).length ts ++ [.soft]) (by rw [← hpre]; simp) (by rw [hpl]; simp [Tok.bytes]) ?_ hadj2 ?_
        · rw [hpl] at this; exact this
        · have : (emitM raw e (tokB pre).length ts).length ≤ ts.length + 1 := by unfold emitM; split <;> simp
          simp only [List.length_append, List.length_singleton]; omega
        · rw [hpl, show Tok.nl.bytes.length = 1 from rfl, sub_self, hem e _ ts he (by omega)]
          rw [← hT]; simp [tokIn]
  exact key toks [] 0 [] rfl (by simp) (by simp) (by simp) (by simp [tokB, sub_self])
end Go.Proofs.YtmicoampfglaiaaGreatDoor

/- Functions of the laws on lines: full, ascii, slashed, joined, times, zzFits2, plain. -/
set_option linter.unusedVariables false
namespace Go.Proofs.YtmicoampfglaiaaGreatDoor
open Go.Proofs Go.IntWalk Go.RowKit
variable {σ : Out} {w : World} {L L' : List Chunk} {R : Ending → World → Prop}
/-- A slice of texts that can be read. -/
def SArg (σ : Out) (L : List Chunk) (q : Option Addr) (n : Nat) (ls : List (List UInt8)) : Prop :=
  n = ls.length ∧ ∀ i (hi : i < ls.length), ∃ a, q = some a ∧ ∀ w, Sat σ w L → w.cell? (a.add i) = some (.string (bs ls[i]))
theorem SArg.ofSl {q : Option Addr} {n c : Nat} {ts : List (List UInt8)} {M : List Chunk} (hS : Sl 1 ty_string q n c (sv ts) M) (hM : ∀ c ∈ M, c ∈ L) : SArg σ L q n ts := by
  have hl := hS.1
  rw [sv_length, Nat.mul_one] at hl
  refine ⟨hl.symm, fun i hi => ?_⟩
  obtain ⟨b, sp, rfl, rfl⟩ := hS.rowAt (by omega)
  refine ⟨_, rfl, fun w h => ?_⟩
  rw [Addr.add_lit, Nat.zero_add]
  exact Sat.ld h (hM _ (.head _)) (by rw [List.getElem?_append_left (by rw [sv_length]; exact hi), sv_get hi])
theorem SArg.mono {q : Option Addr} {n : Nat} {ls : List (List UInt8)} (h : SArg σ L q n ls) (hL : ∀ w, Sat σ w L' → Sat σ w L) : SArg σ L' q n ls :=
  ⟨h.1, fun i hi => by obtain ⟨a, h1, h2⟩ := h.2 i hi; exact ⟨a, h1, fun w hw => h2 w (hL w hw)⟩⟩
theorem specPunct_ok {c : UInt8} (hR : R (.returned (.bool (punB c))) w) : callE P i_spec_IsPunct #[.int .u8 (c.toNat : Int)] R w := by
  refine g_spec_IsPunct.sound ?_
  unfold g_spec_IsPunct
  unfold punB at hR
  rw [← u8_cle c 33, ← u8_cge c 47, ← u8_cle c 58, ← u8_cge c 64, ← u8_cle c 91, ← u8_cge c 96, ← u8_cle c 123, ← u8_cge c 126] at hR
  exact hR
def fullM (s : List UInt8) : Bool := !s.isEmpty && s.getD 0 0 != 32 && s.getD (s.length - 1) 0 != 32
theorem full_ok {s : List UInt8} (hs : s.length < 4611686018427387904) (hR : R (.returned (.bool (fullM s))) w) : callE P i_laws_full #[.string (bs s)] R w := by
  refine g_laws_full.sound ?_
  unfold g_laws_full
  cases s with
  | nil =>
    have e : ((bs []).toList == (ByteArray.mk #[]).toList) = true := by rw [bs_toList, mk_toList]; rfl
    rw [e]
    exact ⟨fun h => by simp at h, fun h => by simp at h, hR⟩
  | cons c t =>
    have e : ((bs (c :: t)).toList == (ByteArray.mk #[]).toList) = false := by rw [bs_toList, mk_toList]; rfl
    have hl : (c :: t).length = t.length + 1 := rfl
    have e1 : IntKind.i64.wrap (((bs (c :: t)).size : Int) - 1) = ((t.length : Nat) : Int) := by rw [bs_size, hl]; simp (disch := omega) only [i64_in]; omega
    have g1 : (bt (bs (c :: t)) 0 != 32) = (c != 32) := by
      rw [show (0 : Int) = ((0 : Nat) : Int) from rfl, bs_bt, bne, bne, u8b _ 32 32 rfl]; rfl
    have g2 : (bt (bs (c :: t)) ((t.length : Nat) : Int) != 32) = ((c :: t).getD t.length 0 != 32) := by rw [bs_bt, bne, bne, u8b _ 32 32 rfl]
    rw [e, e1, g1, g2]
    exact ⟨fun _ => ⟨by omega, by rw [bs_size, hl]; omega⟩, fun _ => ⟨by omega, by rw [bs_size, hl]; omega⟩, hR⟩
def prnB (c : UInt8) : Bool := decide (32 ≤ c.toNat) && decide (c.toNat ≤ 126)
def asciiM (s : List UInt8) (nl : Bool) : Bool := s.all fun c => prnB c || (nl && c == 10)
theorem ascii_ok {s : List UInt8} {nl : Bool} (hs : s.length < 4611686018427387904) (hR : R (.returned (.bool (asciiM s nl))) w) : callE P i_laws_ascii #[.string (bs s), .bool nl] R w := by
  refine g_laws_ascii.sound ?_
  intro X hX
  have key : ∀ k i, i + k = s.length → asciiM s nl = asciiM (s.drop i) nl → X (bs s) nl (i : Int) w := by
    intro k
    induction k with
    | zero =>
      intro i hi ha
      refine hX _ _ _ _ (br_false (by simp; omega) ?_)
      rw [List.drop_eq_nil_of_le (by omega)] at ha
      rw [ha] at hR; exact hR
    | succ k ih =>
      intro i hi ha
      have hil : i < s.length := by omega
      have hcons : asciiM (s.drop i) nl = ((prnB s[i] || (nl && s[i] == 10)) && asciiM (s.drop (i + 1)) nl) := by
        rw [List.drop_eq_getElem_cons hil]; rfl
      have e10 : (bt (bs s) (i : Int) == 10) = (s[i] == 10) := bt_beq hil 10 10 rfl
      have e1 : (decide (bt (bs s) (i : Int) < 32) || decide (bt (bs s) (i : Int) > 126)) = !prnB s[i] := by
        rw [bt_at hil, Bool.eq_iff_iff]
        simp only [prnB, Bool.or_eq_true, decide_eq_true_eq, Bool.not_eq_true', Bool.and_eq_false_iff, decide_eq_false_iff_not]
        omega
      refine hX _ _ _ _ (br_true (by simp; omega) ?_)
      rw [e1, e10]
      refine ⟨by omega, by simp; omega, fun _ => ⟨by omega, by simp; omega⟩, fun _ => ⟨by omega, by simp; omega⟩, ?_⟩
      cases hc : (prnB s[i] || (nl && s[i] == 10)) with
      | true =>
        refine br_false (by cases h1 : prnB s[i] <;> rw [h1] at hc <;> simp_all) ?_
        rw [i64_inc (by omega)]
        refine ih (i + 1) (by omega) ?_
        rw [ha, hcons, hc, Bool.true_and]
      | false =>
        refine br_true ?_ ?_
        · simp only [Bool.or_eq_false_iff] at hc
          rw [hc.1, hc.2]; rfl
        rw [ha, hcons, hc, Bool.false_and] at hR; exact hR
  exact key s.length 0 (by omega) (by rw [List.drop_zero])
def slashK (s : List UInt8) : List Tok := s.map fun c => if punB c then .esc c else .lit c
def slashT (s : List UInt8) : List UInt8 := tokB (slashK s)
theorem slashT_append (a b : List UInt8) : slashT (a ++ b) = slashT a ++ slashT b := by simp [slashT, slashK, tokB_append]
theorem slashT_one (c : UInt8) : slashT [c] = if punB c then [92, c] else [c] := by
  unfold slashT slashK
  cases h : punB c <;> simp [h, tokB, Tok.bytes]
theorem slashT_len (s : List UInt8) : (slashT s).length ≤ 2 * s.length := by
  induction s with
  | nil => simp [slashT, slashK, tokB]
  | cons c s ih =>
    rw [show c :: s = [c] ++ s from rfl, slashT_append, slashT_one, List.length_append]
    split <;> simp <;> omega
theorem run_build0 (w : World) : (Instr.buildSlice ty_S_uint8 0 #[]).run P w = .ok (.slice (some ⟨w.heap.size, 0, none⟩) 0 0) (w.alloc (.cells #[] ty_uint8)) := by
  have hi := rowU8.hi
  simp [Instr.buildSlice, run_underlying rowU8.ht, sizeOf, typeInfo, hi, Instr.fill, newRow]
  have e : ∀ f : Nat → Value, (Array.range 0).map f = #[] := fun f => Array.eq_empty_of_size_eq_zero (by simp)
  rw [e]
theorem slashed_ok {s : List UInt8} (hs : s.length < 1000000000) (h : Sat σ w L) (hR : ∀ w, Sat σ w L → R (.returned (.string (bs (slashT s)))) w) : callE P i_laws_slashed #[.string (bs s)] R w := by
  refine g_laws_slashed.sound ?_
  refine ⟨_, _, _, _, run_build0 w, ?_⟩
  have ha := h.alc [] ty_uint8
  have e3 : YtmicoampfglaiaaGreatDoor.alc w ([] : List Value).toArray ty_uint8 = w.alloc (.cells #[] ty_uint8) := rfl
  rw [e3] at ha
  generalize w.alloc (.cells #[] ty_uint8) = w1 at ha ⊢
  generalize w.heap.size = g at ha ⊢
  intro X hX
  have key : ∀ k i q c M w, i + k = s.length → By q (slashT (s.take i)).length c (slashT (s.take i)) M → Sat σ w (M ++ L) → X (bs s) q (slashT (s.take i)).length c (i : Int) w := by
    intro k
    induction k with
    | zero =>
      intro i q c M w hi hB h
      refine hX _ _ _ _ _ _ (br_false (by simp; omega) ?_)
      rw [List.take_of_length_le (by omega)] at hB ⊢
      exact ⟨_, _, hB.str h, hR w h.right⟩
    | succ k ih =>
      intro i q c M w hi hB h
      have hil : i < s.length := by omega
      have hlen := slashT_len (s.take i)
      rw [List.length_take] at hlen
      have hst : slashT (s.take (i + 1)) = slashT (s.take i) ++ slashT [s[i]] := by rw [List.take_succ_eq_append_getElem hil, slashT_append]
      refine hX _ _ _ _ _ _ (br_true (by simp; omega) ⟨by omega, by simp; omega, ?_⟩)
      rw [bt_at hil]
      refine specPunct_ok ⟨_, rfl, ?_⟩
      have k1 : ∀ q n c M w (l : List UInt8), n = l.length → By q n c l M → Sat σ w (M ++ L) → l ++ [s[i]] = slashT (s.take (i + 1)) → g_laws_slashed.k1 R X (bs s) q n c (i : Int) w := by
        intro q n c M w l hn hB h hl
        refine ⟨by omega, by simp; omega, ?_⟩
        rw [bt_at hil]
        have hll : l.length ≤ 2 * s.length := by
          have h1 := slashT_len (s.take (i + 1))
          rw [← hl, List.length_append, List.length_take] at h1
          simp at h1; omega
        refine By.app1 hB h s[i] (by omega) fun q' c' w' M' hB' h' => ?_
        rw [i64_inc (by omega)]
        have e : n + 1 = (slashT (s.take (i + 1))).length := by rw [← hl]; simp; omega
        rw [hl, e] at hB'
        rw [e]
        exact ih (i + 1) q' c' M' w' (by omega) hB' h'
      cases hp : punB s[i] with
      | true =>
        refine br_true rfl ?_
        refine By.app1 hB h 92 (by omega) fun q' c' w' M' hB' h' => ?_
        refine k1 q' _ c' M' w' (slashT (s.take i) ++ [92]) (by simp) hB' h' ?_
        rw [hst, slashT_one, hp]; simp
      | false =>
        refine br_false rfl ?_
        refine k1 q _ c M w (slashT (s.take i)) rfl hB h ?_
        rw [hst, slashT_one, hp]; simp
  exact key s.length 0 (some ⟨g, 0, none⟩) 0 [(g, cel [] ty_uint8)] w1 (by omega) ⟨by simp [slashT, slashK, tokB, bc], by simp [slashT, slashK, tokB], .inr ⟨g, [], rfl, by simp [slashT, slashK, tokB, bc], by simp [slashT, slashK, tokB, bc]⟩⟩ ha
theorem times_ok {s : List UInt8} {n : Nat} (hn : n < 1000000) (hs : s.length < 1000000) (hR : R (.returned (.string (bs (List.replicate n s).flatten))) w) : callE P i_laws_times #[.string (bs s), .int .i64 n] R w := by
  refine g_laws_times.sound ?_
  have hmax : IntKind.i64.max = 9223372036854775807 := rfl
  intro X hX
  have hfl : ∀ k, (List.replicate k s).flatten.length = k * s.length := by intro k; simp
  have key : ∀ k i, i + k = n → X (bs s) (bs (List.replicate i s).flatten) (n : Nat) (i : Int) w := by
    intro k
    induction k with
    | zero =>
      intro i hi
      obtain rfl : i = n := hi
      exact hX _ _ _ _ _ (br_false (by simp) hR)
    | succ k ih =>
      intro i hi
      have hm : i * s.length ≤ 1000000 * 1000000 := Nat.mul_le_mul (by omega) (by omega)
      refine hX _ _ _ _ _ (br_true (by simp; omega) ⟨?_, ?_⟩)
      · rw [hmax, bs_size, bs_size, hfl]; omega
      · rw [bs_append, i64_inc (by omega)]
        have e : (List.replicate i s).flatten ++ s = (List.replicate (i + 1) s).flatten := by rw [List.replicate_succ']; simp
        rw [e]
        exact ih (i + 1) (by omega)
  exact key n 0 (by omega)
theorem joinL_snoc (sep : List UInt8) (ls : List (List UInt8)) (l : List UInt8) : joinL sep (ls ++ [l]) = if ls = [] then l else joinL sep ls ++ (sep ++ l) := by
  cases ls with
  | nil => simp [joinL]
  | cons t ts => simp [joinL]
theorem joined_ok {q : Option Addr} {n c : Nat} {ls : List (List UInt8)} {sep : List UInt8} (hA : SArg σ L q n ls) (h : Sat σ w L) (hn : n < 1000000) (hb : (joinL sep ls).length < 1000000000) (hs : sep.length < 1000000)
    (hR : ∀ w, Sat σ w L → R (.returned (.string (bs (joinL sep ls)))) w) : callE P i_laws_joined #[.slice q n c, .string (bs sep)] R w := by
  refine g_laws_joined.sound ?_
  have hmax : IntKind.i64.max = 9223372036854775807 := rfl
  have hnl := hA.1
  intro X hX
  have hle : ∀ i, i ≤ ls.length → (joinL sep (ls.take i)).length ≤ (joinL sep ls).length := by
    intro i hi
    cases ls with
    | nil => simp [joinL]
    | cons t ts =>
      cases i with
      | zero => simp [joinL]
      | succ i =>
        simp only [List.take_succ_cons, joinL, List.length_append]
        have : (List.take i ts).flatMap (fun u => sep ++ u) ++ (List.drop i ts).flatMap (fun u => sep ++ u) = ts.flatMap (fun u => sep ++ u) := by
          rw [← List.flatMap_append, List.take_append_drop]
        have := congrArg List.length this
        rw [List.length_append] at this; omega
  have key : ∀ k i, i + k = n → X (bs sep) (bs (joinL sep (ls.take i))) q n c (n : Nat) (i : Int) w := by
    intro k
    induction k with
    | zero =>
      intro i hi
      refine hX _ _ _ _ _ _ _ _ (br_false (by simp; omega) ?_)
      rw [List.take_of_length_le (by omega)]; exact hR w h
    | succ k ih =>
      intro i hi
      have hil : i < ls.length := by omega
      obtain ⟨a, rfl, ha⟩ := hA.2 i hil
      have hst : joinL sep (ls.take (i + 1)) = if i = 0 then ls[i] else joinL sep (ls.take i) ++ (sep ++ ls[i]) := by
        rw [List.take_succ_eq_append_getElem hil, joinL_snoc]
        by_cases h0 : i = 0
        · subst h0; simp
        · rw [if_neg (by intro h1; have := congrArg List.length h1; rw [List.length_take, List.length_nil] at this; omega), if_neg h0]
      have hl1 := hle (i + 1) (by omega)
      have next := ih (i + 1) (by omega)
      refine hX _ _ _ _ _ _ _ _ (br_true (by simp; omega) ⟨by omega, by omega, nilP_some ?_⟩)
      rw [Int.toNat_natCast, Nat.mul_one]
      refine ⟨_, ha w h, ?_⟩
      by_cases h0 : i = 0
      · subst h0
        rw [if_pos rfl] at hst
        rw [hst] at hl1 next
        refine br_false rfl ⟨?_, ?_⟩
        · rw [hmax, bs_size, bs_size]
          show ((([] : List UInt8).length + ls[0].length : Nat) : Int) ≤ _
          simp only [List.length_nil]; omega
        · rw [bs_append, i64_inc (by omega)]
          simpa [joinL] using next
      · rw [if_neg h0] at hst
        rw [hst] at hl1 next
        simp only [List.length_append] at hl1
        refine br_true (by simp; omega) ⟨?_, ?_⟩
        · rw [hmax, bs_size, bs_size]
          have h3 := hle i (by omega)
          omega
        · refine ⟨?_, ?_⟩
          · rw [hmax, bs_append, bs_size, bs_size, List.length_append]; omega
          · rw [bs_append, bs_append, i64_inc (by omega), List.append_assoc]
            exact next
  exact key n 0 (by omega)
theorem fits2_ok {q : Option Addr} {n c : Nat} {ls : List (List UInt8)} (hA : SArg σ L q n ls) (h : Sat σ w L) (hR : (∀ l ∈ ls, l.length ≤ 2147483647) → R (.returned (.bool true)) w) (hF : R (.returned (.bool false)) w) :
    callE P i_laws_zzFits2 #[.slice q n c] R w := by
  refine g_laws_zzFits2.sound ?_
  have hnl := hA.1
  refine br_split (fun _ => hF) (fun hsz => ?_)
  simp only [decide_eq_false_iff_not] at hsz
  intro X hX
  have key : ∀ k i, i + k = n → (∀ j (hj : j < ls.length), j < i → ls[j].length ≤ 2147483647) → X q n c (n : Nat) (i : Int) w := by
    intro k
    induction k with
    | zero =>
      intro i hi ha
      refine hX _ _ _ _ _ _ (br_false (by simp; omega) (hR fun l hl => ?_))
      obtain ⟨j, hj, rfl⟩ := List.mem_iff_getElem.1 hl
      exact ha j hj (by omega)
    | succ k ih =>
      intro i hi ha
      have hil : i < ls.length := by omega
      obtain ⟨a, rfl, hc⟩ := hA.2 i hil
      refine hX _ _ _ _ _ _ (br_true (by simp; omega) ⟨by omega, by omega, nilP_some ?_⟩)
      rw [Int.toNat_natCast, Nat.mul_one]
      refine ⟨_, hc w h, br_split (fun _ => hF) (fun hf => ?_)⟩
      rw [i64_inc (by omega)]
      refine ih (i + 1) (by omega) fun j hj hji => ?_
      rcases Nat.lt_or_ge j i with h1 | h1
      · exact ha j hj h1
      · obtain rfl : j = i := by omega
        simp at hf; omega
  exact key n 0 (by omega) (fun j hj h0 => by omega)
theorem plainOpt_ok (h : Sat σ w L) (hR : ∀ w, Sat σ w L → R (.returned (optV optOff)) w) : callE P i_laws_plain #[] R w := by
  refine g_laws_plain.sound ?_
  refine Sat.bx h fun b1 w h => ?_
  repeat (first | refine nilP_some ?_ | refine Sat.tk h fun w h => ?_ | refine ⟨_, Sat.ld h (by first | assumption | (repeat (first | exact .head _ | apply List.Mem.tail))) (by exact rfl), ?_⟩ | refine ⟨_, _, _, Sat.ld h (by first | assumption | (repeat (first | exact .head _ | apply List.Mem.tail))) (by exact rfl), ?_⟩ | refine Sat.st h (k := 0) rfl (Nat.le_of_ble_eq_true rfl) trivial (by first | (dsimp only [List.set]; exact rfl) | exact rfl) fun w h => ?_ | refine Sat.st h (k := 1) rfl (Nat.le_of_ble_eq_true rfl) trivial (by first | (dsimp only [List.set]; exact rfl) | exact rfl) fun w h => ?_ | refine Sat.st h (k := 2) rfl (Nat.le_of_ble_eq_true rfl) trivial (by first | (dsimp only [List.set]; exact rfl) | exact rfl) fun w h => ?_ | refine Sat.st h (k := 3) rfl (Nat.le_of_ble_eq_true rfl) trivial (by first | (dsimp only [List.set]; exact rfl) | exact rfl) fun w h => ?_ | refine Sat.st h (k := 4) rfl (Nat.le_of_ble_eq_true rfl) trivial (by first | (dsimp only [List.set]; exact rfl) | exact rfl) fun w h => ?_ | refine Sat.st h (k := 5) rfl (Nat.le_of_ble_eq_true rfl) trivial (by first | (dsimp only [List.set]; exact rfl) | exact rfl) fun w h => ?_ | refine Sat.st h (k := 6) rfl (Nat.le_of_ble_eq_true rfl) trivial (by first | (dsimp only [List.set]; exact rfl) | exact rfl) fun w h => ?_ | refine Sat.bx h fun b0 w h => ?_)
  exact hR _ h.tail
end Go.Proofs.YtmicoampfglaiaaGreatDoor

set_option linter.unusedVariables false
set_option maxRecDepth 20000
namespace Go.Proofs.YtmicoampfglaiaaGreatDoor
open Go.Proofs
/- 134 (*pub-paratext/pub/rscmarkdown.line).trimSetext -/
namespace g_line_trimSetext
noncomputable def body : Code := bodyOf Tryz.f134
def bl1 (R : EP) (Xa : OA → Nat → Int → WP) (x1 : OA) (x5 : Nat) (x6 : Int) (w : World) : Prop :=
 callE P i_line_trim #[.pointer (some ⟨x5, 0, none⟩), .int .u8 x6] (fun e w19 => ∃ (r18 : Bool), e = .returned (.bool r18) ∧
 br r18
 (Xa x1 x5 x6 w19)
 (callE P i_line_skipSpace #[.pointer (some ⟨x5, 0, none⟩)] (fun e w21 => e = .returned (.tuple #[]) ∧
 callE P i_line_eof #[.pointer (some ⟨x5, 0, none⟩)] (fun e w23 => ∃ (r22 : Bool), e = .returned (.bool r22) ∧
 br r22
 (br (x6 == 61)
 (nilP x1 fun a24 =>
 stV w23 (a24.add 0) (.int .i64 1) fun w25 =>
 R (.returned (.bool true)) w25)
 (nilP x1 fun a26 =>
 stV w23 (a26.add 0) (.int .i64 2) fun w27 =>
 R (.returned (.bool true)) w27))
 (R (.returned (.bool false)) w23)) w21) w19)) w
def l1 (R : EP) (x1 : OA) (x5 : Nat) (x6 : Int) (w : World) : Prop :=
  ∀ X : OA → Nat → Int → WP, (∀ x1 x5 x6 w, bl1 R X x1 x5 x6 w → X x1 x5 x6 w) → X x1 x5 x6 w

noncomputable def al1 (R : EP) (Xa : OA → Nat → Int → WP) : AC :=
  (.leaf (sel [1, 1, 1, 1, 0, 1, 0, 0, 0, 0] body))
def k1 (R : EP) (x1 : OA) (x5 : Nat) (x6 : Int) (x17 : Bool) (w : World) : Prop :=
 br x17
 (l1 R x1 x5 x6 w)
 (R (.returned (.bool false)) w)

end g_line_trimSetext
def g_line_trimSetext (R : EP) (x0 : OA) (x1 : OA) (w : World) : Prop :=
 nilP x0 fun a1 =>
 ∃ (v2 : Int), w.cell? (a1.add 0) = some (.int .i64 v2) ∧
 ∃ (v3 : Int), w.cell? (a1.add 1) = some (.int .i64 v3) ∧
 ∃ (v4 : Int), w.cell? (a1.add 2) = some (.int .i64 v4) ∧
 ∃ (v5 : BA), w.cell? (a1.add 3) = some (.string v5) ∧
 ∃ (v6 : Int), w.cell? (a1.add 4) = some (.int .u8 v6) ∧
 box w #[.int .i64 0, .int .i64 0, .int .i64 0, .string (ByteArray.mk #[]), .int .u8 0] ty_line fun b7 w8 =>
 stV w8 ⟨b7, 0, none⟩ (.int .i64 v2) fun w9 =>
 stV w9 ⟨b7, 1, none⟩ (.int .i64 v3) fun w10 =>
 stV w10 ⟨b7, 2, none⟩ (.int .i64 v4) fun w11 =>
 stV w11 ⟨b7, 3, none⟩ (.string v5) fun w12 =>
 stV w12 ⟨b7, 4, none⟩ (.int .u8 v6) fun w13 =>
 callE P i_line_trimSpace #[.pointer (some ⟨b7, 0, none⟩), .int .i64 0, .int .i64 3, .bool false] (fun e w15 => ∃ (r14 : Bool), e = .returned (.bool r14) ∧
 callE P i_line_peek #[.pointer (some ⟨b7, 0, none⟩)] (fun e w17 => ∃ (r16 : Int), e = .returned (.int .u8 r16) ∧
 g_line_trimSetext.k1 R x1 b7 r16 ((r16 == 45) || (r16 == 61)) w17) w15) w13

noncomputable def g_line_trimSetext.ac (R : EP) : AC :=
  (.seq (.leaf (sel [0] g_line_trimSetext.body)) (.seq (.leaf (sel [1, 0] g_line_trimSetext.body)) (.seq (.leaf (sel [1, 1, 0] g_line_trimSetext.body)) (.seq (.leaf (sel [1, 1, 1, 0] g_line_trimSetext.body)) (.seq (.seq (.leaf (sel [1, 1, 1, 1, 0, 0] g_line_trimSetext.body)) (.mark (leaf [(1, .s .ptr), (5, .s .loc), (6, .s (.int .u8)), (17, .s .bool)] (g_line_trimSetext.k1 R)) (.cond 17 (.seq (.block 0 (.loop (leaf [(1, .s .ptr), (5, .s .loc), (6, .s (.int .u8))] (g_line_trimSetext.l1 R)) (sel [1, 1, 1, 1, 0, 1, 0, 0, 0, 0] g_line_trimSetext.body))) (.leaf (sel [1, 1, 1, 1, 0, 1, 0, 1] g_line_trimSetext.body))) (.leaf (sel [1, 1, 1, 1, 0, 1, 1] g_line_trimSetext.body))))) (.leaf (sel [1, 1, 1, 1, 1] g_line_trimSetext.body)))))))
theorem g_line_trimSetext.good (R : EP) : Good P 28 (g_line_trimSetext.ac R) (QF P [.tmp 4] R) :=
  ⟨trivial, ⟨trivial, ⟨trivial, ⟨trivial, ⟨⟨trivial, ⟨⟨⟨(loopG (g_line_trimSetext.al1 R) (g_line_trimSetext.bl1 R) (fun _ => by kernel_rfl) (fun Xa => trivial) (fun Xa => by intro x1 x5 x6 ρ w; kernel_rfl) (fun X h _ _ _ _ g => g X h)), trivial⟩, trivial⟩, cutE (by intro x1 x5 x6 x17 ρ w; kernel_rfl)⟩⟩, trivial⟩⟩⟩⟩⟩
theorem g_line_trimSetext.eq (R : EP) (x0 : OA) (x1 : OA) (w : World) : g_line_trimSetext R x0 x1 w = vcA P 28 (g_line_trimSetext.ac R) (QF P [.tmp 4] R) (fr0 [.pointer x0, .pointer x1]) w := by kernel_rfl
theorem g_line_trimSetext.sound {R : EP} {x0 : OA} {x1 : OA} {w : World} (h : g_line_trimSetext R x0 x1 w) : callE P i_line_trimSetext #[.pointer x0, .pointer x1] R w :=
  callE_fin (c := g_line_trimSetext.body) Tryz.func134 Tryz.call134 (by kernel_rfl) (by kernel_rfl) (by kernel_rfl) (by kernel_rfl) (by kernel_rfl) (g_line_trimSetext.good R) (g_line_trimSetext.eq R x0 x1 w) h
/- 280 (*pub-paratext/pub/rscmarkdown.paraBuilder).extend -/
namespace g_paraBuilder_extend
noncomputable def body : Code := bodyOf Tryz.f280
end g_paraBuilder_extend
def g_paraBuilder_extend (R : EP) (x0 : OA) (x1 : OA) (x2_0 : Int) (x2_1 : Int) (x2_2 : Int) (x2_3 : BA) (x2_4 : Int) (w : World) : Prop :=
 box w #[.int .i64 x2_0, .int .i64 x2_1, .int .i64 x2_2, .string x2_3, .int .u8 x2_4] ty_line fun b1 w2 =>
 box w2 #[.int .i64 0, .int .i64 0, .int .i64 0, .string (ByteArray.mk #[]), .int .u8 0] ty_line fun b3 w4 =>
 ∃ (v5 : Int), w4.cell? ⟨b1, 0, none⟩ = some (.int .i64 v5) ∧
 ∃ (v6 : Int), w4.cell? ⟨b1, 1, none⟩ = some (.int .i64 v6) ∧
 ∃ (v7 : Int), w4.cell? ⟨b1, 2, none⟩ = some (.int .i64 v7) ∧
 ∃ (v8 : BA), w4.cell? ⟨b1, 3, none⟩ = some (.string v8) ∧
 ∃ (v9 : Int), w4.cell? ⟨b1, 4, none⟩ = some (.int .u8 v9) ∧
 stV w4 ⟨b3, 0, none⟩ (.int .i64 v5) fun w10 =>
 stV w10 ⟨b3, 1, none⟩ (.int .i64 v6) fun w11 =>
 stV w11 ⟨b3, 2, none⟩ (.int .i64 v7) fun w12 =>
 stV w12 ⟨b3, 3, none⟩ (.string v8) fun w13 =>
 stV w13 ⟨b3, 4, none⟩ (.int .u8 v9) fun w14 =>
 ∃ (v15 : Int), w14.cell? ⟨b3, 0, none⟩ = some (.int .i64 v15) ∧
 ∃ (v16 : Int), w14.cell? ⟨b3, 1, none⟩ = some (.int .i64 v16) ∧
 ∃ (v17 : Int), w14.cell? ⟨b3, 2, none⟩ = some (.int .i64 v17) ∧
 ∃ (v18 : BA), w14.cell? ⟨b3, 3, none⟩ = some (.string v18) ∧
 ∃ (v19 : Int), w14.cell? ⟨b3, 4, none⟩ = some (.int .u8 v19) ∧
 R (.returned (.tuple #[.agg #[.int .i64 v15, .int .i64 v16, .int .i64 v17, .string v18, .int .u8 v19], .bool false])) w14

noncomputable def g_paraBuilder_extend.ac (R : EP) : AC :=
  (.leaf (sel [] g_paraBuilder_extend.body))
theorem g_paraBuilder_extend.good (R : EP) : Good P 9 (g_paraBuilder_extend.ac R) (QF P [.cell 6 105, .tmp 7] R) :=
  trivial
theorem g_paraBuilder_extend.eq (R : EP) (x0 : OA) (x1 : OA) (x2_0 : Int) (x2_1 : Int) (x2_2 : Int) (x2_3 : BA) (x2_4 : Int) (w : World) : g_paraBuilder_extend R x0 x1 x2_0 x2_1 x2_2 x2_3 x2_4 w = vcA P 9 (g_paraBuilder_extend.ac R) (QF P [.cell 6 105, .tmp 7] R) (fr0 [.pointer x0, .pointer x1, .agg #[.int .i64 x2_0, .int .i64 x2_1, .int .i64 x2_2, .string x2_3, .int .u8 x2_4]]) w := by kernel_rfl
theorem g_paraBuilder_extend.sound {R : EP} {x0 : OA} {x1 : OA} {x2_0 : Int} {x2_1 : Int} {x2_2 : Int} {x2_3 : ByteArray} {x2_4 : Int} {w : World} (h : g_paraBuilder_extend R x0 x1 x2_0 x2_1 x2_2 x2_3 x2_4 w) : callE P i_paraBuilder_extend #[.pointer x0, .pointer x1, .agg #[.int .i64 x2_0, .int .i64 x2_1, .int .i64 x2_2, .string x2_3, .int .u8 x2_4]] R w :=
  callE_fin (c := g_paraBuilder_extend.body) Tryz.func280 Tryz.call280 (by kernel_rfl) (by kernel_rfl) (by kernel_rfl) (by kernel_rfl) (by kernel_rfl) (g_paraBuilder_extend.good R) (g_paraBuilder_extend.eq R x0 x1 x2_0 x2_1 x2_2 x2_3 x2_4 w) h
end Go.Proofs.YtmicoampfglaiaaGreatDoor

/- Documents of many lines: what was built so far, and the open leaf; a paragraph of any number of lines is built. -/
set_option linter.unusedVariables false
namespace Go.Proofs.YtmicoampfglaiaaGreatDoor
open Go.Proofs Go.IntWalk Go.RowKit
variable {σ : Out} {w : World} {L L' : List Chunk} {R : Ending → World → Prop}
/-- A text that waits for its inlines: its block, its lines, the text. -/
structure TX where
  t : Nat
  s : Nat
  e : Nat
  raw : List UInt8
def TX.chunk (x : TX) : Chunk := textC x.t x.s x.e none 0 0 x.raw
/-- A block that is done: its value, its memory but for its texts, its texts. -/
structure DB where
  v : Value
  own : List Chunk
  txs : List TX
def ownC (D : List DB) : List Chunk := D.flatMap DB.own
def txsC (D : List DB) : List TX := D.flatMap DB.txs
theorem ownC_snoc (D : List DB) (d : DB) : ownC (D ++ [d]) = ownC D ++ d.own := by simp [ownC]
theorem txsC_snoc (D : List DB) (d : DB) : txsC (D ++ [d]) = txsC D ++ d.txs := by simp [txsC]
def paraOB (qb s e : Nat) : OB := ⟨.iface ty_P_paraBuilder (.pointer (some ⟨qb, 0, none⟩)), none, 0, 0, s, e⟩
theorem lines_join {q : Option Addr} {n c : Nat} {ts : List (List UInt8)} {AM : List Chunk} (hS : Sl 1 ty_string q n c (ts.map fun t => .string (bs t)) AM) (h : Sat σ w (AM ++ L)) (hne : ts ≠ []) (hn : ts.length < 1048576)
    (h0 : joinL [10] ts ≠ []) (hb : (joinL [10] ts).length < 1073741824) (hR : ∀ w, Sat σ w (AM ++ L) → R (.returned (.string (bs (joinL [10] ts)))) w) : callE P i_strings_Join #[.slice q n c, .string (bs [10])] R w := by
  have hl := hS.1
  simp only [List.length_map, Nat.mul_one] at hl
  match ts, hne with
  | [t], _ =>
    obtain rfl : n = 1 := by simpa using hl.symm
    have e : joinL [10] [t] = t := by simp [joinL]
    rw [e] at hR
    exact join_one h hS hR
  | t :: u :: ts, _ =>
    exact join_ok (t := t) (ts := u :: ts) hS h (by simp) (by omega) (by decide) (List.length_pos_iff.2 h0) hb hR
/-- A paragraph without a definition is built. -/
theorem paraBuild_ok {b qb : Nat} {p : PS} {ob : List OB} {o : OB} {M TM PM : List Chunk} {ts : List Nat} {ls : List (List UInt8)} {s : List UInt8} (h : Sat σ w (p.at b :: M ++ (TM ++ (PM ++ L)))) (hs : Stk p (ob ++ [o]) M)
    (ht : Txts p ts TM) (hts : ts.length < 1048575) (hp : ParaAt qb ls PM) (hls : ls ≠ []) (hln : ls.length < 1048576) (hj : joinL [10] ls = s) (hl : s.length < 1073741824) (hne : s ≠ []) (hb : (s.dropWhile isSTN).head? ≠ some 91) (ho : o.s < 1000000000)
    (hR : ∀ w p' TM' t nb, p' = { p with tq := p'.tq, tn := ts.length + 1, tc := p'.tc } → Txts p' (ts ++ [t]) TM' →
      Sat σ w (p'.at b :: M ++ (TM' ++ (PM ++ (paraC nb o.s (o.s + ls.length - 1) t :: textC t o.s (o.s + ls.length - 1) none 0 0 s :: L)))) → R (.returned (.iface ty_P_Paragraph (.pointer (some ⟨nb, 0, none⟩)))) w) :
    callE P i_paraBuilder_build #[.pointer (some ⟨qb, 0, none⟩), .iface ty_P_parseState (.pointer (some ⟨b, 0, none⟩))] R w := by
  obtain ⟨q, c, SM, hS, rfl⟩ := hp
  have hll : 1 ≤ ls.length := List.length_pos_iff.2 hls
  refine g_paraBuilder_build.sound ?_
  have h : Sat σ w (p.at b :: M ++ (TM ++ (((qb, cel [.slice q ls.length c, .pointer none] ty_paraBuilder) :: SM) ++ L))) := h
  have h : Sat σ w ((qb, cel [.slice q ls.length c, .pointer none] ty_paraBuilder) :: (SM ++ (p.at b :: M ++ (TM ++ L)))) := h.re (by intro _; simp only [List.append_eq, cnt_append, cnt_cons, cnt_nil] <;> omega)
  repeat (first | refine nilP_some ?_ | refine Sat.tk h fun w h => ?_ | refine ⟨_, Sat.ld h (by first | assumption | (repeat (first | exact .head _ | apply List.Mem.tail))) (by exact rfl), ?_⟩ | refine ⟨_, _, _, Sat.ld h (by first | assumption | (repeat (first | exact .head _ | apply List.Mem.tail))) (by exact rfl), ?_⟩)
  refine ⟨_, w, ne_ptr_nil und_table _ _ _ w, br_false rfl ?_⟩
  repeat (first | refine nilP_some ?_ | refine Sat.tk h fun w h => ?_ | refine ⟨_, Sat.ld h (by first | assumption | (repeat (first | exact .head _ | apply List.Mem.tail))) (by exact rfl), ?_⟩ | refine ⟨_, _, _, Sat.ld h (by first | assumption | (repeat (first | exact .head _ | apply List.Mem.tail))) (by exact rfl), ?_⟩)
  have h : Sat σ w (SM ++ ((qb, cel [.slice q ls.length c, .pointer none] ty_paraBuilder) :: (p.at b :: M ++ (TM ++ L)))) := h.re (by intro _; simp only [List.append_eq, cnt_append, cnt_cons, cnt_nil] <;> omega)
  refine lines_join hS h hls hln (by rw [hj]; exact hne) (by rw [hj]; exact hl) fun w h => ⟨_, rfl, ?_⟩
  rw [hj]
  intro X hX
  have hse : ((bs s).toList == (ByteArray.mk #[]).toList) = false := by rw [bs_toList, mk_toList]; simpa using hne
  refine hX _ _ _ _ (br_true (by rw [hse]; rfl) ?_)
  refine parseLinkRefDef_no (by omega) hb ⟨_, _, rfl, br_true rfl ?_⟩
  refine br_false hse ?_
  have h : Sat σ w (p.at b :: M ++ (TM ++ (SM ++ (qb, cel [.slice q ls.length c, .pointer none] ty_paraBuilder) :: L))) := h.re (by intro _; simp only [List.append_eq, cnt_append, cnt_cons, cnt_nil] <;> omega)
  refine enter_meth meth_pos ?_
  refine pos_ok h hs fun w h => ⟨_, _, rfl, ?_⟩
  refine Sat.bx h fun zb w h => ?_
  repeat (first | refine nilP_some ?_ | refine Sat.tk h fun w h => ?_ | refine ⟨_, Sat.ld h (by first | assumption | (repeat (first | exact .head _ | apply List.Mem.tail))) (by exact rfl), ?_⟩ | refine ⟨_, _, _, Sat.ld h (by first | assumption | (repeat (first | exact .head _ | apply List.Mem.tail))) (by exact rfl), ?_⟩ | refine Sat.st h (k := 0) rfl (Nat.le_of_ble_eq_true rfl) trivial (by first | (dsimp only [List.set]; exact rfl) | exact rfl) fun w h => ?_ | refine Sat.st h (k := 1) rfl (Nat.le_of_ble_eq_true rfl) trivial (by first | (dsimp only [List.set]; exact rfl) | exact rfl) fun w h => ?_ | refine Sat.st h (k := 2) rfl (Nat.le_of_ble_eq_true rfl) trivial (by first | (dsimp only [List.set]; exact rfl) | exact rfl) fun w h => ?_ | refine Sat.st h (k := 3) rfl (Nat.le_of_ble_eq_true rfl) trivial (by first | (dsimp only [List.set]; exact rfl) | exact rfl) fun w h => ?_ | refine Sat.st h (k := 4) rfl (Nat.le_of_ble_eq_true rfl) trivial (by first | (dsimp only [List.set]; exact rfl) | exact rfl) fun w h => ?_ | refine Sat.st h (k := 5) rfl (Nat.le_of_ble_eq_true rfl) trivial (by first | (dsimp only [List.set]; exact rfl) | exact rfl) fun w h => ?_ | refine Sat.st h (k := 6) rfl (Nat.le_of_ble_eq_true rfl) trivial (by first | (dsimp only [List.set]; exact rfl) | exact rfl) fun w h => ?_ | refine Sat.bx h fun b0 w h => ?_)
  have h : Sat σ _ ((zb, cel [.int .i64 o.s, .int .i64 o.e] ty_Position) :: (p.at b :: M ++ (TM ++ (SM ++ (qb, cel [.slice q ls.length c, .pointer none] ty_paraBuilder) :: L)))) := h
  have h : Sat σ _ ((zb, cel [.int .i64 o.s, .int .i64 o.e] ty_Position) :: (qb, cel [.slice q ls.length c, .pointer none] ty_paraBuilder) :: (p.at b :: M ++ (TM ++ (SM ++ L)))) := h.re (by intro _; simp only [List.append_eq, cnt_append, cnt_cons, cnt_nil] <;> omega)
  refine ⟨_, _, _, Sat.ld h (by first | assumption | (repeat (first | exact .head _ | apply List.Mem.tail))) (by exact rfl), ?_⟩
  refine Sat.st h (k := 0) rfl (Nat.le_of_ble_eq_true rfl) trivial (by first | (dsimp only [List.set]; exact rfl) | exact rfl) fun w h => ?_
  refine Sat.tk h fun w h => ?_
  refine ⟨_, Sat.ld h (by first | assumption | (repeat (first | exact .head _ | apply List.Mem.tail))) (by exact rfl), ?_⟩
  refine ⟨_, Sat.ld h (by first | assumption | (repeat (first | exact .head _ | apply List.Mem.tail))) (by exact rfl), ?_⟩
  refine ⟨_, Sat.ld h (by first | assumption | (repeat (first | exact .head _ | apply List.Mem.tail))) (by exact rfl), ?_⟩
  refine ⟨_, Sat.ld h (by first | assumption | (repeat (first | exact .head _ | apply List.Mem.tail))) (by exact rfl), ?_⟩
  have e1 : IntKind.i64.wrap (IntKind.i64.wrap ((o.s : Int) + ((ls.length : Nat) : Int)) - 1) = ((o.s + ls.length - 1 : Nat) : Int) := by
    rw [i64_in (_ + _) (by omega), i64_in _ (by omega)]; omega
  rw [e1] at h ⊢
  have h : Sat σ _ ((zb, cel [.int .i64 o.s, .int .i64 (o.s + ls.length - 1 : Nat)] ty_Position) :: (qb, cel [.slice q ls.length c, .pointer none] ty_paraBuilder) :: (p.at b :: M ++ (TM ++ (SM ++ L)))) := h
  have hz := h
  have h : Sat σ _ (p.at b :: TM ++ ((zb, cel [.int .i64 o.s, .int .i64 (o.s + ls.length - 1 : Nat)] ty_Position) :: (qb, cel [.slice q ls.length c, .pointer none] ty_paraBuilder) :: (M ++ (SM ++ L)))) := h.re (by intro _; simp only [List.append_eq, cnt_append, cnt_cons, cnt_nil] <;> omega)
  refine enter_meth meth_newText ?_
  refine newText_ok h ht hts fun w p' TM' t hp' ht' h => ⟨_, rfl, ?_⟩
  refine ⟨hz.same h (.head _) (by simp) 2, ?_⟩
  refine Sat.bx h fun nb w h => ?_
  have h : Sat σ w (paraC nb o.s (o.s + ls.length - 1) t :: (p'.at b :: TM' ++ (textC t o.s (o.s + ls.length - 1) none 0 0 s :: ((zb, cel [.int .i64 o.s, .int .i64 (o.s + ls.length - 1 : Nat)] ty_Position) :: (qb, cel [.slice q ls.length c, .pointer none] ty_paraBuilder) :: (M ++ (SM ++ L)))))) := h
  refine hR w p' TM' t nb hp' ht' ?_
  have h := Sat.less (L' := p'.at b :: M ++ (TM' ++ (((qb, cel [.slice q ls.length c, .pointer none] ty_paraBuilder) :: SM) ++ (paraC nb o.s (o.s + ls.length - 1) t :: textC t o.s (o.s + ls.length - 1) none 0 0 s :: L)))) [(zb, cel [.int .i64 o.s, .int .i64 (o.s + ls.length - 1 : Nat)] ty_Position)] h (by intro _; simp only [List.append_eq, cnt_append, cnt_cons, cnt_nil] <;> omega)
  exact h
/-- The open paragraph, on top of a block, is closed. -/
theorem closePara_ok {b qb : Nat} {p : PS} {ob : List OB} {par o : OB} {M TM PM IM : List Chunk} {inner : List Value} {ts : List Nat} {ls : List (List UInt8)} {s : List UInt8} (h : Sat σ w (p.at b :: M ++ (IM ++ (TM ++ (PM ++ L))))) (hs : Stk p (ob ++ [par] ++ [o]) M)
    (ho : o.bd = .iface ty_P_paraBuilder (.pointer (some ⟨qb, 0, none⟩))) (hI : Sl 1 ty_Block par.q par.n par.c inner IM) (hin : par.n < 1000000)
    (ht : Txts p ts TM) (hts : ts.length < 1048575) (hp : ParaAt qb ls PM) (hls : ls ≠ []) (hln : ls.length < 1048576) (hj : joinL [10] ls = s) (hl : s.length < 1073741824) (hne : s ≠ []) (hb : (s.dropWhile isSTN).head? ≠ some 91) (hos : o.s < 1000000000)
    (hR : ∀ w p' M' IM' TM' t nb q' c' x, p' = { p with stn := ob.length + 1, tq := p'.tq, tn := ts.length + 1, tc := p'.tc } → Stk p' (ob ++ [{ par with q := q', n := par.n + 1, c := c' }]) M' → Txts p' (ts ++ [t]) TM' →
      Sl 1 ty_Block q' (par.n + 1) c' (inner ++ [.iface ty_P_Paragraph (.pointer (some ⟨nb, 0, none⟩))]) IM' →
      Sat σ w (p'.at b :: M' ++ (IM' ++ (TM' ++ (paraC nb o.s (o.s + ls.length - 1) t :: textC t o.s (o.s + ls.length - 1) none 0 0 s :: L)))) → R (.returned x) w) :
    callE P i_parseState_closeBlock #[.pointer (some ⟨b, 0, none⟩)] R w := by
  refine closeBlock_ok (ob := ob) (par := par) (IM := IM) (inner := inner) (fun p1 L1 tb q => ∃ TM' t nb, p1 = { p with tq := p1.tq, tn := ts.length + 1, tc := p1.tc } ∧ Txts p1 (ts ++ [t]) TM' ∧
      L1 = TM' ++ (PM ++ (paraC nb o.s (o.s + ls.length - 1) t :: textC t o.s (o.s + ls.length - 1) none 0 0 s :: L)) ∧ tb = ty_P_Paragraph ∧ q = some ⟨nb, 0, none⟩) h hs ho hI hin ?_ ?_
  · intro R' w h hk
    rw [ho]
    have h : Sat σ w (p.at b :: M ++ (TM ++ (PM ++ (IM ++ L)))) := h.re (by intro _; simp only [List.append_eq, cnt_append, cnt_cons, cnt_nil] <;> omega)
    refine enter_meth meth_paraBuild ?_
    refine paraBuild_ok (ob := ob ++ [par]) (o := o) (ts := ts) h hs ht hts hp hls hln hj hl hne hb hos fun w p' TM' t nb hp' ht' h => ?_
    exact hk w p' _ ty_P_Paragraph _ (by rw [hp']) (by rw [hp']) (by rw [hp']) (by decide) ⟨TM', t, nb, hp', ht', rfl, rfl, rfl⟩ (h.re (by intro _; simp only [List.append_eq, cnt_append, cnt_cons, cnt_nil] <;> omega))
  · intro w p2 M2 IM2 p1 L1 tb q q' c' hpost hp2 hs2 hI2 h
    obtain ⟨TM', t, nb, hp1, ht1, rfl, rfl, rfl⟩ := hpost
    refine hR w p2 M2 IM2 TM' t nb q' c' _ ?_ hs2 (ht1.of (by rw [hp2]) (by rw [hp2]) (by rw [hp2])) hI2 (h.less PM (by intro _; simp only [List.append_eq, cnt_append, cnt_cons, cnt_nil] <;> omega))
    rw [hp2, hp1]
end Go.Proofs.YtmicoampfglaiaaGreatDoor

/- Documents of many lines: the state between two lines, and what a line does: blank lines, and lines of paragraphs. -/
set_option linter.unusedVariables false
namespace Go.Proofs.YtmicoampfglaiaaGreatDoor
open Go.Proofs Go.IntWalk Go.RowKit
variable {σ : Out} {w : World} {L L' : List Chunk} {R : Ending → World → Prop}
inductive Leaf where
  | none
  | para (ls : List (List UInt8))
def LeafAt : Leaf → List OB → List Chunk → Prop
  | .none, ob, M => ob = [] ∧ M = []
  | .para ls, ob, M => ∃ qb s e, ob = [paraOB qb s e] ∧ ParaAt qb ls M ∧ s < 1000000000 ∧ ls ≠ [] ∧ ls.length < 1048570
def rootV (rb : Nat) : Value := .iface ty_P_rootBuilder (.pointer (some ⟨rb, 0, none⟩))
/-- What was built so far, and the open leaf. -/
def DocS (σ : Out) (b rb : Nat) (L : List Chunk) (D : List DB) (lf : Leaf) (p : PS) (w : World) : Prop :=
  ∃ r obs M TM IM LM, r.bd = rootV rb ∧ Stk p (r :: obs) M ∧ Txts p ((txsC D).map TX.t) TM ∧ Sl 1 ty_Block r.q r.n r.c (D.map DB.v) IM ∧ LeafAt lf obs LM ∧
    Sat σ w (p.at b :: M ++ (IM ++ (TM ++ (LM ++ (ownC D ++ ((txsC D).map TX.chunk ++ L))))))
/-- What lines do not change of the state. -/
def PS.base (p : PS) : PS := { p with lineno := 0, stq := none, stn := 0, stc := 0, depth := 0, corner := false, tq := none, tn := 0, tc := 0 }
def paraDB (nb t s e : Nat) (raw : List UInt8) : DB := ⟨.iface ty_P_Paragraph (.pointer (some ⟨nb, 0, none⟩)), [paraC nb s e t], [⟨t, s, e, raw⟩]⟩
/-- The leaf is closed. -/
def LeafClosed (lf : Leaf) (D : List DB) (D' : List DB) : Prop :=
  match lf with
  | .none => D' = D
  | .para ls => ∃ nb t s e, D' = D ++ [paraDB nb t s e (joinL [10] ls)]
/-- A leaf that can be closed. -/
def Leaf.fin : Leaf → Prop
  | .none => True
  | .para ls => (joinL [10] ls).length < 1073741824 ∧ joinL [10] ls ≠ [] ∧ ((joinL [10] ls).dropWhile isSTN).head? ≠ some 91
theorem closeLeaf_ok {b rb : Nat} {p : PS} {D : List DB} {ls : List (List UInt8)} (h : DocS σ b rb L D (.para ls) p w) (hf : Leaf.fin (.para ls)) (hD : D.length < 100000) (hX : (txsC D).length < 100000)
    (hR : ∀ w p' D' x, p'.base = p.base → p'.depth = p.depth → p'.lineno = p.lineno → p'.stn = 1 → LeafClosed (.para ls) D D' → DocS σ b rb L D' .none p' w → R (.returned x) w) :
    callE P i_parseState_closeBlock #[.pointer (some ⟨b, 0, none⟩)] R w := by
  obtain ⟨r, obs, M, TM, IM, LM, hr, hs, ht, hI, ⟨qb, s, e, rfl, hp, hs1, hne, hln⟩, h⟩ := h
  obtain ⟨hf1, hf2, hf3⟩ := hf
  have hIl := hI.1
  simp only [List.length_map, Nat.mul_one] at hIl
  refine closePara_ok (ob := []) (par := r) (o := paraOB qb s e) h hs rfl hI (by omega) ht (by simp; omega) hp hne (by omega) rfl hf1 hf2 hf3 (by exact hs1) fun w p' M' IM' TM' t nb q' c' x hp' hs' ht' hI' h => ?_
  refine hR w p' (D ++ [paraDB nb t s (s + ls.length - 1) (joinL [10] ls)]) x (by rw [hp']; rfl) (by rw [hp']) (by rw [hp']) (by rw [hp']; rfl) ⟨nb, t, s, _, rfl⟩ ?_
  refine ⟨{ r with q := q', n := r.n + 1, c := c' }, [], M', TM', IM', [], hr, hs', ?_, ?_, ⟨rfl, rfl⟩, ?_⟩
  · rw [txsC_snoc, List.map_append]; exact ht'
  · rw [List.map_append]; exact hI'
  · rw [ownC_snoc, txsC_snoc, List.map_append]
    have h : Sat σ w (p'.at b :: M' ++ (IM' ++ (TM' ++ (paraC nb s (s + ls.length - 1) t :: textC t s (s + ls.length - 1) none 0 0 (joinL [10] ls) :: (ownC D ++ ((txsC D).map TX.chunk ++ L)))))) := h
    show Sat σ w (p'.at b :: M' ++ (IM' ++ (TM' ++ ([] ++ ((ownC D ++ [paraC nb s (s + ls.length - 1) t]) ++ (((txsC D).map TX.chunk ++ [textC t s (s + ls.length - 1) none 0 0 (joinL [10] ls)]) ++ L))))))
    exact h.re (by intro _; simp only [List.append_eq, cnt_append, cnt_cons, cnt_nil] <;> omega)
/-- The stack is cut down to the root. -/
theorem trimLeaf_ok {b rb : Nat} {p : PS} {D : List DB} {lf : Leaf} (h : DocS σ b rb L D lf p w) (hf : lf.fin) (hD : D.length < 100000) (hX : (txsC D).length < 100000)
    (hR : ∀ w p' D', p'.base = p.base → p'.depth = p.depth → p'.lineno = p.lineno → p'.stn = 1 → LeafClosed lf D D' → DocS σ b rb L D' .none p' w → R (.returned (.tuple #[])) w) :
    callE P i_parseState_trimStack #[.pointer (some ⟨b, 0, none⟩), .int .i64 1] R w := by
  cases lf with
  | none =>
    obtain ⟨r, obs, M, TM, IM, LM, hr, hs, ht, hI, ⟨rfl, rfl⟩, h⟩ := h
    have hn := hs.2.1
    refine trimStack_noop h (by rw [hn]; rfl) fun w h => ?_
    exact hR w p D rfl rfl rfl hn rfl ⟨r, [], M, TM, IM, [], hr, hs, ht, hI, ⟨rfl, rfl⟩, h⟩
  | para ls =>
    have h0 := h
    obtain ⟨r, obs, M, TM, IM, LM, hr, hs, ht, hI, ⟨qb, s, e, rfl, hp, hs1, hne, hln⟩, h⟩ := h
    have hn : p.stn = 2 := hs.2.1
    refine g_parseState_trimStack.sound ?_
    refine nilP_some ?_
    refine ⟨_, _, _, Sat.ld h (by first | assumption | (repeat (first | exact .head _ | apply List.Mem.tail))) (by exact rfl), ?_⟩
    rw [hn]
    refine br_false rfl ?_
    intro X hX'
    refine hX' _ _ _ (nilP_some ?_)
    refine ⟨_, _, _, Sat.ld h (by first | assumption | (repeat (first | exact .head _ | apply List.Mem.tail))) (by exact rfl), ?_⟩
    rw [hn]
    refine br_true rfl ?_
    refine closeLeaf_ok h0 hf hD hX fun w p' D' x h1 h2 h3 h4 h5 h => ⟨_, rfl, ?_⟩
    have h0 := h
    obtain ⟨r, obs, M, TM, IM, LM, hr, hs, ht, hI, hL, h⟩ := h
    refine hX' _ _ _ (nilP_some ?_)
    refine ⟨_, _, _, Sat.ld h (by first | assumption | (repeat (first | exact .head _ | apply List.Mem.tail))) (by exact rfl), ?_⟩
    rw [h4]
    exact br_false rfl (hR w p' D' h1 h2 h3 h4 h5 h0)
/-- The number of the line, and the depth, are set. -/
theorem DocS.upd {b rb : Nat} {D : List DB} {lf : Leaf} {p p' : PS} {w' : World} (h : DocS σ b rb L D lf p w) (h1 : p'.stq = p.stq) (h2 : p'.stn = p.stn) (h3 : p'.stc = p.stc) (h4 : p'.tq = p.tq) (h5 : p'.tn = p.tn) (h6 : p'.tc = p.tc)
    (hw : ∀ K, Sat σ w (p.at b :: K) → Sat σ w' (p'.at b :: K)) : DocS σ b rb L D lf p' w' := by
  obtain ⟨r, obs, M, TM, IM, LM, hr, hs, ht, hI, hL, h⟩ := h
  exact ⟨r, obs, M, TM, IM, LM, hr, hs.of h1 h2 h3, ht.of h4 h5 h6, hI, hL, hw _ h⟩
/-- A blank line, and no leaf is open. -/
theorem addLine_blank0 {b rb : Nat} {p : PS} {D : List DB} {l : Ln} (h : DocS σ b rb L D .none p w) (hl : l.ok) (hb : l.blank = true)
    (hR : ∀ w p', p'.base = p.base → p'.lineno = p.lineno → DocS σ b rb L D .none p' w → R (.returned (.tuple #[])) w) :
    callE P i_parseState_addLine #[.pointer (some ⟨b, 0, none⟩), l.val] R w := by
  obtain ⟨r, obs, M, TM, IM, LM, hr, hs, ht, hI, ⟨rfl, rfl⟩, h⟩ := h
  have hn : p.stn = 1 := hs.2.1
  refine g_parseState_addLine.sound ?_
  refine Sat.bx h fun b1 w h => ?_
  repeat (first | refine nilP_some ?_ | refine Sat.tk h fun w h => ?_ | refine ⟨_, Sat.ld h (by first | assumption | (repeat (first | exact .head _ | apply List.Mem.tail))) (by exact rfl), ?_⟩ | refine ⟨_, _, _, Sat.ld h (by first | assumption | (repeat (first | exact .head _ | apply List.Mem.tail))) (by exact rfl), ?_⟩ | refine Sat.st h (k := 0) rfl (Nat.le_of_ble_eq_true rfl) trivial (by first | (dsimp only [List.set]; exact rfl) | exact rfl) fun w h => ?_ | refine Sat.st h (k := 1) rfl (Nat.le_of_ble_eq_true rfl) trivial (by first | (dsimp only [List.set]; exact rfl) | exact rfl) fun w h => ?_ | refine Sat.st h (k := 2) rfl (Nat.le_of_ble_eq_true rfl) trivial (by first | (dsimp only [List.set]; exact rfl) | exact rfl) fun w h => ?_ | refine Sat.st h (k := 3) rfl (Nat.le_of_ble_eq_true rfl) trivial (by first | (dsimp only [List.set]; exact rfl) | exact rfl) fun w h => ?_ | refine Sat.st h (k := 4) rfl (Nat.le_of_ble_eq_true rfl) trivial (by first | (dsimp only [List.set]; exact rfl) | exact rfl) fun w h => ?_ | refine Sat.st h (k := 5) rfl (Nat.le_of_ble_eq_true rfl) trivial (by first | (dsimp only [List.set]; exact rfl) | exact rfl) fun w h => ?_ | refine Sat.st h (k := 6) rfl (Nat.le_of_ble_eq_true rfl) trivial (by first | (dsimp only [List.set]; exact rfl) | exact rfl) fun w h => ?_ | refine Sat.bx h fun b0 w h => ?_)
  let p1 : PS := { p with depth := 0 }
  have h : Sat σ _ (l.at b1 :: p1.at b :: (M ++ (IM ++ (TM ++ ([] ++ (ownC D ++ ((txsC D).map TX.chunk ++ L))))))) := h
  intro X hX
  refine hX _ _ _ ?_
  repeat (first | refine nilP_some ?_ | refine Sat.tk h fun w h => ?_ | refine ⟨_, Sat.ld h (by first | assumption | (repeat (first | exact .head _ | apply List.Mem.tail))) (by exact rfl), ?_⟩ | refine ⟨_, _, _, Sat.ld h (by first | assumption | (repeat (first | exact .head _ | apply List.Mem.tail))) (by exact rfl), ?_⟩)
  rw [show p1.stn = 1 from hn]
  refine br_false rfl ?_
  refine isBlank_ok h (by first | assumption | (repeat (first | exact .head _ | apply List.Mem.tail))) hl fun w h => ⟨_, rfl, ?_⟩
  rw [hb]
  refine br_true rfl ?_
  repeat (first | refine nilP_some ?_ | refine Sat.tk h fun w h => ?_ | refine ⟨_, Sat.ld h (by first | assumption | (repeat (first | exact .head _ | apply List.Mem.tail))) (by exact rfl), ?_⟩ | refine ⟨_, _, _, Sat.ld h (by first | assumption | (repeat (first | exact .head _ | apply List.Mem.tail))) (by exact rfl), ?_⟩)
  have h : Sat σ w (p1.at b :: (l.at b1 :: (M ++ (IM ++ (TM ++ ([] ++ (ownC D ++ ((txsC D).map TX.chunk ++ L)))))))) := h.re (by intro _; simp only [List.append_eq, cnt_append, cnt_cons, cnt_nil] <;> omega)
  refine trimStack_noop h (by rw [show p1.stn = 1 from hn]; rfl) fun w h => ⟨rfl, ?_⟩
  refine hR w p1 rfl rfl ⟨r, [], M, TM, IM, [], hr, hs.of rfl rfl rfl, ht.of rfl rfl rfl, hI, ⟨rfl, rfl⟩, ?_⟩
  exact h.less [l.at b1] (by intro _; simp only [List.append_eq, cnt_append, cnt_cons, cnt_nil] <;> omega)
theorem meth_paraExtend : methB P ty_P_paraBuilder "pub-paratext/pub/rscmarkdown.extend" i_paraBuilder_extend = true := by kernel_rfl
theorem paraExtend_ok {q1 q2 : Option Addr} {l : Ln} (h : Sat σ w L) (hR : ∀ w, Sat σ w L → R (.returned (.tuple #[l.val, .bool false])) w) : callE P i_paraBuilder_extend #[.pointer q1, .pointer q2, l.val] R w := by
  refine g_paraBuilder_extend.sound ?_
  refine Sat.bx h fun b1 w h => ?_
  refine Sat.bx h fun b3 w h => ?_
  repeat (first | refine nilP_some ?_ | refine Sat.tk h fun w h => ?_ | refine ⟨_, Sat.ld h (by first | assumption | (repeat (first | exact .head _ | apply List.Mem.tail))) (by exact rfl), ?_⟩ | refine ⟨_, _, _, Sat.ld h (by first | assumption | (repeat (first | exact .head _ | apply List.Mem.tail))) (by exact rfl), ?_⟩ | refine Sat.st h (k := 0) rfl (Nat.le_of_ble_eq_true rfl) trivial (by first | (dsimp only [List.set]; exact rfl) | exact rfl) fun w h => ?_ | refine Sat.st h (k := 1) rfl (Nat.le_of_ble_eq_true rfl) trivial (by first | (dsimp only [List.set]; exact rfl) | exact rfl) fun w h => ?_ | refine Sat.st h (k := 2) rfl (Nat.le_of_ble_eq_true rfl) trivial (by first | (dsimp only [List.set]; exact rfl) | exact rfl) fun w h => ?_ | refine Sat.st h (k := 3) rfl (Nat.le_of_ble_eq_true rfl) trivial (by first | (dsimp only [List.set]; exact rfl) | exact rfl) fun w h => ?_ | refine Sat.st h (k := 4) rfl (Nat.le_of_ble_eq_true rfl) trivial (by first | (dsimp only [List.set]; exact rfl) | exact rfl) fun w h => ?_ | refine Sat.st h (k := 5) rfl (Nat.le_of_ble_eq_true rfl) trivial (by first | (dsimp only [List.set]; exact rfl) | exact rfl) fun w h => ?_ | refine Sat.st h (k := 6) rfl (Nat.le_of_ble_eq_true rfl) trivial (by first | (dsimp only [List.set]; exact rfl) | exact rfl) fun w h => ?_ | refine Sat.bx h fun b0 w h => ?_)
  exact hR _ h.tail.tail
theorem lineFields : (P.fieldsOf ty_line).toList.map (fun f => (f.name == "_", f.type, f.offset)) = [(false, ty_int, 0), (false, ty_int, 1), (false, ty_int, 2), (false, ty_string, 3), (false, ty_uint8, 4)] := by kernel_rfl
theorem eqFields_run {xs ys : Array Value} : ∀ {fs : List Field} {gs : List (TypeId × Nat)}, fs.map (fun f => (f.name == "_", f.type, f.offset)) = gs.map (fun g => (false, g.1, g.2)) →
    (∀ g ∈ gs, ∃ v, (part g.1 xs g.2).run P w = .ok v w ∧ (part g.1 ys g.2).run P w = .ok v w ∧ (Op.equalIn 9999 g.1 v v).run P w = .ok true w) → (Op.eqFields 9999 xs ys fs).run P w = .ok true w
  | [], [], _, _ => rfl
  | [], g :: gs, h, _ => by simp at h
  | f :: fs, [], h, _ => by simp at h
  | f :: fs, g :: gs, h, hg => by
    simp only [List.map_cons, List.cons.injEq, Prod.mk.injEq] at h
    obtain ⟨⟨h1, h2, h3⟩, h4⟩ := h
    obtain ⟨v, e1, e2, e3⟩ := hg g (List.mem_cons_self ..)
    have ih := eqFields_run h4 (fun g' hg' => hg g' (List.mem_cons_of_mem _ hg'))
    have hn : f.name ≠ "_" := by simpa using h1
    rw [← h2, ← h3] at e1 e2
    rw [← h2] at e3
    simp only [Op.eqFields, ne_eq, hn, not_false_eq_true, if_true, Sem.run_bind, e1, e2, e3, Result.andThen_ok, Bool.not_true, Bool.false_eq_true, if_false]
    exact ih
theorem und_int : P.underlying ty_int = some (.int .i64) := by kernel_rfl
theorem und_u8 : P.underlying ty_uint8 = some (.int .u8) := by kernel_rfl
theorem und_str : P.underlying ty_string = some .string := by kernel_rfl
theorem part_line {t : TypeId} {d : TypeDesc} (hd : P.underlying t = some d) (h1 : ∀ f, d ≠ .struct f) (h2 : ∀ n e, d ≠ .array n e) {cs : Array Value} {k : Nat} {v : Value} (hv : cs[k]? = some v) (w : World) : (part t cs k).run P w = .ok v w := by
  cases d <;> first | exact absurd rfl (h1 _) | exact absurd rfl (h2 _ _) | simp [part, isAgg, run_underlying hd, hv]
theorem fld_int {t : TypeId} {k : IntKind} (hu : P.underlying t = some (.int k)) {cs : Array Value} {i : Nat} {a : Int} (hv : cs[i]? = some (.int k a)) : ∃ v, (part t cs i).run P w = .ok v w ∧ (part t cs i).run P w = .ok v w ∧ (Op.equalIn 9999 t v v).run P w = .ok true w := by
  have hp := part_line hu (fun _ h => by cases h) (fun _ _ h => by cases h) hv w
  exact ⟨_, hp, hp, by rw [run_equalIn_int w 9998 t k k a a hu, beq_self_eq_true]⟩
theorem fld_str {cs : Array Value} {i : Nat} {a : ByteArray} (hv : cs[i]? = some (.string a)) : ∃ v, (part ty_string cs i).run P w = .ok v w ∧ (part ty_string cs i).run P w = .ok v w ∧ (Op.equalIn 9999 ty_string v v).run P w = .ok true w := by
  have hp := part_line und_str (fun _ h => by cases h) (fun _ _ h => by cases h) hv w
  exact ⟨_, hp, hp, by rw [run_equalIn_string w 9998 ty_string a a und_str, beq_self_eq_true]⟩
theorem neq_line (l : Ln) (x y : Operand) (w : World) : (do eqGuard .neq ty_line x y l.val l.val; binOp .neq ty_line l.val l.val).run P w = .ok (.bool false) w := by
  have hg : (eqGuard .neq ty_line x y l.val l.val).run P w = .ok () w := run_eqGuard_agg w .neq ty_line x y _ _ (by kernel_rfl)
  have hb := run_neq_struct (P := P) w ty_line #[.int .i64 l.sp, .int .i64 l.i, .int .i64 l.tab, .string (bs l.text), .int .u8 l.nl.toNat] #[.int .i64 l.sp, .int .i64 l.i, .int .i64 l.tab, .string (bs l.text), .int .u8 l.nl.toNat]
  have he : (Op.equalIn 10000 ty_line (.agg #[.int .i64 l.sp, .int .i64 l.i, .int .i64 l.tab, .string (bs l.text), .int .u8 l.nl.toNat]) (.agg #[.int .i64 l.sp, .int .i64 l.i, .int .i64 l.tab, .string (bs l.text), .int .u8 l.nl.toNat])).run P w = .ok true w := by
    rw [run_equalIn_struct w 9999 ty_line _ _ (by kernel_rfl) (by kernel_rfl)]
    refine eqFields_run (gs := [(ty_int, 0), (ty_int, 1), (ty_int, 2), (ty_string, 3), (ty_uint8, 4)]) lineFields ?_
    intro g hg
    simp only [List.mem_cons, List.mem_nil_iff, or_false] at hg
    rcases hg with rfl | rfl | rfl | rfl | rfl
    · exact fld_int und_int rfl
    · exact fld_int und_int rfl
    · exact fld_int und_int rfl
    · exact fld_str rfl
    · exact fld_int und_u8 rfl
  rw [Sem.run_bind, hg, Result.andThen_ok]
  refine hb.trans ?_
  rw [he]; rfl
/-- A line ahead of which a paragraph is open: the first part of addLine. -/
theorem addLine_open {b rb : Nat} {p : PS} {D : List DB} {ls : List (List UInt8)} {l : Ln} (h : DocS σ b rb L D (.para ls) p w) (hl : l.ok)
    (hR : ∀ w b1 b2 p', p' = { p with depth := 0 } → DocS σ b rb (l.at b1 :: l.at b2 :: L) D (.para ls) p' w → g_parseState_addLine.k2 R (some ⟨b, 0, none⟩) b1 w) :
    callE P i_parseState_addLine #[.pointer (some ⟨b, 0, none⟩), l.val] R w := by
  obtain ⟨r, obs, M, TM, IM, LM, hr, hs, ht, hI, ⟨qb, s, e, rfl, hp, hs1, hne, hln⟩, h⟩ := h
  have hn : p.stn = 2 := hs.2.1
  refine g_parseState_addLine.sound ?_
  refine Sat.bx h fun b1 w h => ?_
  repeat (first | refine nilP_some ?_ | refine Sat.tk h fun w h => ?_ | refine ⟨_, Sat.ld h (by first | assumption | (repeat (first | exact .head _ | apply List.Mem.tail))) (by exact rfl), ?_⟩ | refine ⟨_, _, _, Sat.ld h (by first | assumption | (repeat (first | exact .head _ | apply List.Mem.tail))) (by exact rfl), ?_⟩ | refine Sat.st h (k := 0) rfl (Nat.le_of_ble_eq_true rfl) trivial (by first | (dsimp only [List.set]; exact rfl) | exact rfl) fun w h => ?_ | refine Sat.st h (k := 1) rfl (Nat.le_of_ble_eq_true rfl) trivial (by first | (dsimp only [List.set]; exact rfl) | exact rfl) fun w h => ?_ | refine Sat.st h (k := 2) rfl (Nat.le_of_ble_eq_true rfl) trivial (by first | (dsimp only [List.set]; exact rfl) | exact rfl) fun w h => ?_ | refine Sat.st h (k := 3) rfl (Nat.le_of_ble_eq_true rfl) trivial (by first | (dsimp only [List.set]; exact rfl) | exact rfl) fun w h => ?_ | refine Sat.st h (k := 4) rfl (Nat.le_of_ble_eq_true rfl) trivial (by first | (dsimp only [List.set]; exact rfl) | exact rfl) fun w h => ?_ | refine Sat.st h (k := 5) rfl (Nat.le_of_ble_eq_true rfl) trivial (by first | (dsimp only [List.set]; exact rfl) | exact rfl) fun w h => ?_ | refine Sat.st h (k := 6) rfl (Nat.le_of_ble_eq_true rfl) trivial (by first | (dsimp only [List.set]; exact rfl) | exact rfl) fun w h => ?_ | refine Sat.bx h fun b0 w h => ?_)
  let p1 : PS := { p with depth := 0 }
  have h : Sat σ _ (l.at b1 :: p1.at b :: (M ++ (IM ++ (TM ++ (LM ++ (ownC D ++ ((txsC D).map TX.chunk ++ L))))))) := h
  intro X hX
  refine hX _ _ _ ?_
  repeat (first | refine nilP_some ?_ | refine Sat.tk h fun w h => ?_ | refine ⟨_, Sat.ld h (by first | assumption | (repeat (first | exact .head _ | apply List.Mem.tail))) (by exact rfl), ?_⟩ | refine ⟨_, _, _, Sat.ld h (by first | assumption | (repeat (first | exact .head _ | apply List.Mem.tail))) (by exact rfl), ?_⟩)
  rw [show p1.stn = 2 from hn]
  refine br_true rfl ?_
  repeat (first | refine nilP_some ?_ | refine Sat.tk h fun w h => ?_ | refine ⟨_, Sat.ld h (by first | assumption | (repeat (first | exact .head _ | apply List.Mem.tail))) (by exact rfl), ?_⟩ | refine ⟨_, _, _, Sat.ld h (by first | assumption | (repeat (first | exact .head _ | apply List.Mem.tail))) (by exact rfl), ?_⟩ | refine Sat.st h (k := 0) rfl (Nat.le_of_ble_eq_true rfl) trivial (by first | (dsimp only [List.set]; exact rfl) | exact rfl) fun w h => ?_ | refine Sat.st h (k := 1) rfl (Nat.le_of_ble_eq_true rfl) trivial (by first | (dsimp only [List.set]; exact rfl) | exact rfl) fun w h => ?_ | refine Sat.st h (k := 2) rfl (Nat.le_of_ble_eq_true rfl) trivial (by first | (dsimp only [List.set]; exact rfl) | exact rfl) fun w h => ?_ | refine Sat.st h (k := 3) rfl (Nat.le_of_ble_eq_true rfl) trivial (by first | (dsimp only [List.set]; exact rfl) | exact rfl) fun w h => ?_ | refine Sat.st h (k := 4) rfl (Nat.le_of_ble_eq_true rfl) trivial (by first | (dsimp only [List.set]; exact rfl) | exact rfl) fun w h => ?_ | refine Sat.st h (k := 5) rfl (Nat.le_of_ble_eq_true rfl) trivial (by first | (dsimp only [List.set]; exact rfl) | exact rfl) fun w h => ?_ | refine Sat.st h (k := 6) rfl (Nat.le_of_ble_eq_true rfl) trivial (by first | (dsimp only [List.set]; exact rfl) | exact rfl) fun w h => ?_ | refine Sat.bx h fun b0 w h => ?_)
  have h : Sat σ _ (l.at b0 :: l.at b1 :: p1.at b :: (M ++ (IM ++ (TM ++ (LM ++ (ownC D ++ ((txsC D).map TX.chunk ++ L))))))) := h
  obtain ⟨sb, sp, hq, hM, hsp⟩ := hs.split (by simp)
  rw [show p1.stn = 2 from hn, show p1.stq = some ⟨sb, 0, none⟩ from hq]
  rw [show IntKind.i64.wrap (p1.depth + 1) = 1 from rfl]
  refine ⟨by decide, by decide, nilP_some ?_⟩
  simp only [Addr.add_lit, Nat.zero_add]
  have hmem : (sb, cel (obCells [r, paraOB qb s e] ++ sp) ty_openBlock) ∈ (l.at b0 :: l.at b1 :: p1.at b :: (M ++ (IM ++ (TM ++ (LM ++ (ownC D ++ ((txsC D).map TX.chunk ++ L))))))) := by rw [hM]; simp
  refine ⟨_, Sat.ld h hmem (stk_get (j := 1) (f := 0) (by decide) rfl), ?_⟩
  refine ⟨_, Sat.ld h (by first | assumption | (repeat (first | exact .head _ | apply List.Mem.tail))) (by exact rfl), ?_⟩
  refine ⟨_, Sat.ld h (by first | assumption | (repeat (first | exact .head _ | apply List.Mem.tail))) (by exact rfl), ?_⟩
  refine ⟨_, Sat.ld h (by first | assumption | (repeat (first | exact .head _ | apply List.Mem.tail))) (by exact rfl), ?_⟩
  refine ⟨_, Sat.ld h (by first | assumption | (repeat (first | exact .head _ | apply List.Mem.tail))) (by exact rfl), ?_⟩
  refine ⟨_, Sat.ld h (by first | assumption | (repeat (first | exact .head _ | apply List.Mem.tail))) (by exact rfl), ?_⟩
  refine enter_meth meth_paraExtend ?_
  refine paraExtend_ok h fun w h => ⟨_, _, _, _, _, _, rfl, ?_⟩
  refine Sat.st h (k := 1) rfl (Nat.le_of_ble_eq_true rfl) trivial (by first | (dsimp only [List.set]; exact rfl) | exact rfl) fun w h => ?_
  refine Sat.st h (k := 1) rfl (Nat.le_of_ble_eq_true rfl) trivial (by first | (dsimp only [List.set]; exact rfl) | exact rfl) fun w h => ?_
  refine Sat.st h (k := 1) rfl (Nat.le_of_ble_eq_true rfl) trivial (by first | (dsimp only [List.set]; exact rfl) | exact rfl) fun w h => ?_
  refine Sat.st h (k := 1) rfl (Nat.le_of_ble_eq_true rfl) trivial (by first | (dsimp only [List.set]; exact rfl) | exact rfl) fun w h => ?_
  refine Sat.st h (k := 1) rfl (Nat.le_of_ble_eq_true rfl) trivial (by first | (dsimp only [List.set]; exact rfl) | exact rfl) fun w h => ?_
  have h : Sat σ w (l.at b0 :: l.at b1 :: p1.at b :: (M ++ (IM ++ (TM ++ (LM ++ (ownC D ++ ((txsC D).map TX.chunk ++ L))))))) := h
  refine isBlank_ok h (by first | assumption | (repeat (first | exact .head _ | apply List.Mem.tail))) hl fun w h => ⟨_, rfl, ?_⟩
  have fin : g_parseState_addLine.k1 R X (some ⟨b, 0, none⟩) b1 false false w := by
    refine br_false rfl (br_true rfl ?_)
    exact hR w b1 b0 p1 rfl ⟨r, _, M, TM, IM, LM, hr, hs.of rfl rfl rfl, ht.of rfl rfl rfl, hI, ⟨qb, s, e, rfl, hp, hs1, hne, hln⟩, h.re (by intro _; simp only [List.append_eq, cnt_append, cnt_cons, cnt_nil] <;> omega)⟩
  refine br_split (fun _ => br_false rfl ?_) (fun _ => fin)
  refine ⟨_, Sat.ld h (by first | assumption | (repeat (first | exact .head _ | apply List.Mem.tail))) (by exact rfl), ?_⟩
  refine ⟨_, Sat.ld h (by first | assumption | (repeat (first | exact .head _ | apply List.Mem.tail))) (by exact rfl), ?_⟩
  refine ⟨_, Sat.ld h (by first | assumption | (repeat (first | exact .head _ | apply List.Mem.tail))) (by exact rfl), ?_⟩
  refine ⟨_, Sat.ld h (by first | assumption | (repeat (first | exact .head _ | apply List.Mem.tail))) (by exact rfl), ?_⟩
  refine ⟨_, Sat.ld h (by first | assumption | (repeat (first | exact .head _ | apply List.Mem.tail))) (by exact rfl), ?_⟩
  refine ⟨_, Sat.ld h (by first | assumption | (repeat (first | exact .head _ | apply List.Mem.tail))) (by exact rfl), ?_⟩
  refine ⟨_, Sat.ld h (by first | assumption | (repeat (first | exact .head _ | apply List.Mem.tail))) (by exact rfl), ?_⟩
  refine ⟨_, Sat.ld h (by first | assumption | (repeat (first | exact .head _ | apply List.Mem.tail))) (by exact rfl), ?_⟩
  refine ⟨_, Sat.ld h (by first | assumption | (repeat (first | exact .head _ | apply List.Mem.tail))) (by exact rfl), ?_⟩
  refine ⟨_, Sat.ld h (by first | assumption | (repeat (first | exact .head _ | apply List.Mem.tail))) (by exact rfl), ?_⟩
  exact ⟨_, _, neq_line l _ _ w, fin⟩
/-- A blank line ends a paragraph. -/
theorem addLine_blankP {b rb : Nat} {p : PS} {D : List DB} {ls : List (List UInt8)} {l : Ln} (h : DocS σ b rb L D (.para ls) p w) (hl : l.ok) (hb : l.blank = true) (hf : Leaf.fin (.para ls)) (hD : D.length < 100000) (hX : (txsC D).length < 100000)
    (hR : ∀ w p' D', p'.base = p.base → p'.lineno = p.lineno → LeafClosed (.para ls) D D' → DocS σ b rb L D' .none p' w → R (.returned (.tuple #[])) w) :
    callE P i_parseState_addLine #[.pointer (some ⟨b, 0, none⟩), l.val] R w := by
  refine addLine_open h hl fun w b1 b2 p1 hp1 h => ?_
  unfold g_parseState_addLine.k2
  obtain ⟨r, obs, M, TM, IM, LM, hr, hs, ht, hI, hL, h⟩ := h
  refine isBlank_ok h (by simp) hl fun w h => ⟨_, rfl, ?_⟩
  rw [hb]
  refine br_true rfl (nilP_some ?_)
  refine ⟨_, Sat.ld h (by first | assumption | (repeat (first | exact .head _ | apply List.Mem.tail))) (by exact rfl), ?_⟩
  rw [show p1.depth = 0 by rw [hp1], show IntKind.i64.wrap (0 + 1) = 1 from rfl]
  have hh : DocS σ b rb (l.at b1 :: l.at b2 :: L) D (.para ls) p1 w := ⟨r, obs, M, TM, IM, LM, hr, hs, ht, hI, hL, h⟩
  refine trimLeaf_ok hh hf hD hX fun w p' D' h1 h2 h3 h4 h5 h => ⟨rfl, ?_⟩
  · refine hR w p' D' (by rw [h1, hp1]; rfl) (by rw [h3, hp1]) h5 ?_
    obtain ⟨r, obs, M, TM, IM, LM, hr, hs, ht, hI, hL, h⟩ := h
    exact ⟨r, obs, M, TM, IM, LM, hr, hs, ht, hI, hL, h.less [l.at b1, l.at b2] (by intro _; simp only [List.append_eq, cnt_append, cnt_cons, cnt_nil] <;> omega)⟩
end Go.Proofs.YtmicoampfglaiaaGreatDoor

/- Documents of many lines: lines of paragraphs; functions that decline. -/
set_option linter.unusedVariables false
namespace Go.Proofs.YtmicoampfglaiaaGreatDoor
open Go.Proofs Go.IntWalk Go.RowKit
variable {σ : Out} {w : World} {L L' : List Chunk} {R : Ending → World → Prop}
/-- Rounds in which the functions that start blocks decline. -/
theorem news_rounds {Xb : OA → Nat → WP} {Y : OA → Nat → OA → Nat → Nat → Int → Int → WP} {b b1 nb : Nat} {e : TypeId} {p : PS} {M : List Chunk} {l : Ln}
    (hY : ∀ x0 x3 x86q x86n x86c x87 x88 w, g_parseState_addLine.bl2 R Xb Y x0 x3 x86q x86n x86c x87 x88 w → Y x0 x3 x86q x86n x86c x87 x88 w) (i : Nat) :
    ∀ (k : Nat) w, i ≤ 8 → k ≤ i → (∀ j (hj : j < newsF.length), k ≤ j → j < i → Decl b p M l newsF[j]) → Sat σ w (p.at b :: M ++ (l.at b1 :: (nb, cel newsC e) :: L)) →
      (∀ w, Sat σ w (p.at b :: M ++ (l.at b1 :: (nb, cel newsC e) :: L)) → Y (some ⟨b, 0, none⟩) b1 (some ⟨nb, 0, none⟩) 8 8 8 (i : Nat) w) → Y (some ⟨b, 0, none⟩) b1 (some ⟨nb, 0, none⟩) 8 8 8 (k : Nat) w := by
  intro k
  generalize hm : i - k = m
  induction m generalizing k with
  | zero =>
    intro w hi hk hd h hE
    obtain rfl : k = i := by omega
    exact hE w h
  | succ m ih =>
    intro w hi hk hd h hE
    refine hY _ _ _ _ _ _ _ _ (br_true (by simp; omega) ⟨by omega, by omega, ?_⟩)
    have hl : k < newsF.length := by show k < 8; omega
    have hf := List.getElem?_eq_getElem hl
    refine nilP_some ?_
    simp only [Addr.add_lit, Nat.zero_add, Int.toNat_natCast, Nat.mul_one]
    have h : Sat σ w (l.at b1 :: (nb, cel newsC e) :: (p.at b :: (M ++ L))) := h.re (by intro _; simp only [List.append_eq, cnt_append, cnt_cons, cnt_nil] <;> omega)
    refine ⟨_, Sat.ld h (.tail _ (.head _)) (newsC_get hf), ?_⟩
    refine ⟨_, Sat.ld h (.head _) rfl, _, Sat.ld h (.head _) rfl, _, Sat.ld h (.head _) rfl, _, Sat.ld h (.head _) rfl, _, Sat.ld h (.head _) rfl, ?_⟩
    have h : Sat σ w (p.at b :: M ++ (l.at b1 :: (nb, cel newsC e) :: L)) := h.re (by intro _; simp only [List.append_eq, cnt_append, cnt_cons, cnt_nil] <;> omega)
    refine enter_fn ?_
    refine hd k hl (Nat.le_refl _) (by omega) σ w _ _ h fun w h => ⟨_, _, _, _, _, _, rfl, ?_⟩
    repeat (first | refine nilP_some ?_ | refine Sat.tk h fun w h => ?_ | refine ⟨_, Sat.ld h (by first | assumption | (repeat (first | exact .head _ | apply List.Mem.tail))) (by exact rfl), ?_⟩ | refine ⟨_, _, _, Sat.ld h (by first | assumption | (repeat (first | exact .head _ | apply List.Mem.tail))) (by exact rfl), ?_⟩ | refine Sat.st h (k := 0) rfl (Nat.le_of_ble_eq_true rfl) trivial (by first | (dsimp only [List.set]; exact rfl) | exact rfl) fun w h => ?_ | refine Sat.st h (k := 1) rfl (Nat.le_of_ble_eq_true rfl) trivial (by first | (dsimp only [List.set]; exact rfl) | exact rfl) fun w h => ?_ | refine Sat.st h (k := 2) rfl (Nat.le_of_ble_eq_true rfl) trivial (by first | (dsimp only [List.set]; exact rfl) | exact rfl) fun w h => ?_ | refine Sat.st h (k := 3) rfl (Nat.le_of_ble_eq_true rfl) trivial (by first | (dsimp only [List.set]; exact rfl) | exact rfl) fun w h => ?_ | refine Sat.st h (k := 4) rfl (Nat.le_of_ble_eq_true rfl) trivial (by first | (dsimp only [List.set]; exact rfl) | exact rfl) fun w h => ?_ | refine Sat.st h (k := 5) rfl (Nat.le_of_ble_eq_true rfl) trivial (by first | (dsimp only [List.set]; exact rfl) | exact rfl) fun w h => ?_ | refine Sat.st h (k := 6) rfl (Nat.le_of_ble_eq_true rfl) trivial (by first | (dsimp only [List.set]; exact rfl) | exact rfl) fun w h => ?_ | refine Sat.bx h fun b0 w h => ?_)
    rw [i64_inc (by omega)]
    have h : Sat σ _ (l.at b0 :: (p.at b :: M ++ (l.at b1 :: (nb, cel newsC e) :: L))) := h
    exact ih (k + 1) (by omega) _ hi (by omega) (fun j hj h1 h2 => hd j hj (by omega) h2) h.tail hE
/-- All decline: newPara. -/
theorem bl102_decl {Xb : OA → Nat → WP} {b b1 : Nat} {p : PS} {M : List Chunk} {l : Ln} (h : Sat σ w (p.at b :: M ++ (l.at b1 :: L))) (hd : ∀ f ∈ newsF, Decl b p M l f)
    (hP : ∀ w nb e (R' : Ending → World → Prop), Sat σ w (p.at b :: M ++ (l.at b1 :: (nb, cel newsC e) :: L)) → (∀ w k, R (.returned (.tuple #[])) w → R' (.returned (.tuple #[Ln.zero.val, .bool k])) w) → callE P i_newPara #[.pointer (some ⟨b, 0, none⟩), l.val] R' w) :
    g_parseState_addLine.bl102 R Xb (some ⟨b, 0, none⟩) b1 w := by
  refine news_ok h fun w nb e h => ⟨_, _, _, rfl, ?_⟩
  intro Y hY
  have h : Sat σ w (p.at b :: M ++ (l.at b1 :: (nb, cel newsC e) :: L)) := h.re (by intro _; simp only [List.append_eq, cnt_append, cnt_cons, cnt_nil] <;> omega)
  refine news_rounds hY 8 0 w (by omega) (by omega) (fun j hj _ _ => hd _ (List.getElem_mem hj)) h fun w h => ?_
  refine hY _ _ _ _ _ _ _ _ (br_false (by simp) ?_)
  have hm : l.at b1 ∈ p.at b :: M ++ (l.at b1 :: (nb, cel newsC e) :: L) := by simp
  refine ⟨_, Sat.ld h hm (i := 0) rfl, _, Sat.ld h hm (i := 1) rfl, _, Sat.ld h hm (i := 2) rfl, _, Sat.ld h hm (i := 3) rfl, _, Sat.ld h hm (i := 4) rfl, ?_⟩
  exact hP w nb e _ h fun w k hR => ⟨_, _, _, _, _, _, rfl, hR⟩
/-- One takes the line, and leaves nothing of it. -/
theorem bl102_take {Xb : OA → Nat → WP} {b b1 : Nat} {p : PS} {M : List Chunk} {l : Ln} (i : Nat) (hi : i < newsF.length) (h : Sat σ w (p.at b :: M ++ (l.at b1 :: L))) (hd : ∀ j (hj : j < newsF.length), j < i → Decl b p M l newsF[j])
    (hP : ∀ w nb e (R' : Ending → World → Prop), Sat σ w (p.at b :: M ++ (l.at b1 :: (nb, cel newsC e) :: L)) →
      (∀ w L2, Sat σ w (l.at b1 :: L2) → (∀ w, Sat σ w L2 → R (.returned (.tuple #[])) w) → R' (.returned (.tuple #[Ln.zero.val, .bool true])) w) → callE P newsF[i] #[.pointer (some ⟨b, 0, none⟩), l.val] R' w) :
    g_parseState_addLine.bl102 R Xb (some ⟨b, 0, none⟩) b1 w := by
  have hi8 : i < 8 := hi
  refine news_ok h fun w nb e h => ⟨_, _, _, rfl, ?_⟩
  intro Y hY
  have h : Sat σ w (p.at b :: M ++ (l.at b1 :: (nb, cel newsC e) :: L)) := h.re (by intro _; simp only [List.append_eq, cnt_append, cnt_cons, cnt_nil] <;> omega)
  refine news_rounds hY i 0 w (by omega) (by omega) (fun j hj _ h2 => hd j hj h2) h fun w h => ?_
  refine hY _ _ _ _ _ _ _ _ (br_true (by simp; omega) ⟨by omega, by omega, ?_⟩)
  have hf := List.getElem?_eq_getElem hi
  refine nilP_some ?_
  simp only [Addr.add_lit, Nat.zero_add, Int.toNat_natCast, Nat.mul_one]
  have h : Sat σ w (l.at b1 :: (nb, cel newsC e) :: (p.at b :: (M ++ L))) := h.re (by intro _; simp only [List.append_eq, cnt_append, cnt_cons, cnt_nil] <;> omega)
  refine ⟨_, Sat.ld h (.tail _ (.head _)) (newsC_get hf), ?_⟩
  refine ⟨_, Sat.ld h (.head _) rfl, _, Sat.ld h (.head _) rfl, _, Sat.ld h (.head _) rfl, _, Sat.ld h (.head _) rfl, _, Sat.ld h (.head _) rfl, ?_⟩
  have h : Sat σ w (p.at b :: M ++ (l.at b1 :: (nb, cel newsC e) :: L)) := h.re (by intro _; simp only [List.append_eq, cnt_append, cnt_cons, cnt_nil] <;> omega)
  refine enter_fn ?_
  refine hP w nb e _ h fun w L2 h hR => ⟨_, _, _, _, _, _, rfl, ?_⟩
  refine Sat.bx h fun b85 w h => ?_
  refine Sat.st h (k := 0) rfl (Nat.le_of_ble_eq_true rfl) trivial (by first | (dsimp only [List.set]; exact rfl) | exact rfl) fun w h => ?_
  refine Sat.st h (k := 0) rfl (Nat.le_of_ble_eq_true rfl) trivial (by first | (dsimp only [List.set]; exact rfl) | exact rfl) fun w h => ?_
  refine Sat.st h (k := 0) rfl (Nat.le_of_ble_eq_true rfl) trivial (by first | (dsimp only [List.set]; exact rfl) | exact rfl) fun w h => ?_
  refine Sat.st h (k := 0) rfl (Nat.le_of_ble_eq_true rfl) trivial (by first | (dsimp only [List.set]; exact rfl) | exact rfl) fun w h => ?_
  refine Sat.st h (k := 0) rfl (Nat.le_of_ble_eq_true rfl) trivial (by first | (dsimp only [List.set]; exact rfl) | exact rfl) fun w h => ?_
  have h : Sat σ w (Ln.zero.at b85 :: l.at b1 :: L2) := h
  refine br_true rfl ?_
  refine ⟨_, Sat.ld h (by first | assumption | (repeat (first | exact .head _ | apply List.Mem.tail))) (by exact rfl), ?_⟩
  refine ⟨_, Sat.ld h (by first | assumption | (repeat (first | exact .head _ | apply List.Mem.tail))) (by exact rfl), ?_⟩
  refine ⟨_, Sat.ld h (by first | assumption | (repeat (first | exact .head _ | apply List.Mem.tail))) (by exact rfl), ?_⟩
  refine ⟨_, Sat.ld h (by first | assumption | (repeat (first | exact .head _ | apply List.Mem.tail))) (by exact rfl), ?_⟩
  refine ⟨_, Sat.ld h (by first | assumption | (repeat (first | exact .head _ | apply List.Mem.tail))) (by exact rfl), ?_⟩
  refine Sat.st h (k := 1) rfl (Nat.le_of_ble_eq_true rfl) trivial (by first | (dsimp only [List.set]; exact rfl) | exact rfl) fun w h => ?_
  refine Sat.st h (k := 1) rfl (Nat.le_of_ble_eq_true rfl) trivial (by first | (dsimp only [List.set]; exact rfl) | exact rfl) fun w h => ?_
  refine Sat.st h (k := 1) rfl (Nat.le_of_ble_eq_true rfl) trivial (by first | (dsimp only [List.set]; exact rfl) | exact rfl) fun w h => ?_
  refine Sat.st h (k := 1) rfl (Nat.le_of_ble_eq_true rfl) trivial (by first | (dsimp only [List.set]; exact rfl) | exact rfl) fun w h => ?_
  refine Sat.st h (k := 1) rfl (Nat.le_of_ble_eq_true rfl) trivial (by first | (dsimp only [List.set]; exact rfl) | exact rfl) fun w h => ?_
  have h : Sat σ w (Ln.zero.at b85 :: Ln.zero.at b1 :: L2) := h
  refine isBlank_ok (l := Ln.zero) h (.tail _ (.head _)) ⟨by decide, by decide, by decide, by decide⟩ fun w h => ⟨_, rfl, ?_⟩
  exact br_true rfl (hR _ h.tail.tail)
/-- The text of a line of a paragraph. -/
def Ln.rest (l : Ln) : List UInt8 := (l.text.drop l.i).dropWhile isST
/-- A line begins a paragraph. -/
theorem addLine_plain0 {b rb pb : Nat} {op : Opt} {p : PS} {D : List DB} {l : Ln} (h : DocS σ b rb L D .none p w) (hpz : p.pz = some ⟨pb, 0, none⟩) (hop : op.at pb ∈ L) (hl : l.plain) (hno : p.lineno < 1000000000)
    (hR : ∀ w p', p'.base = p.base → p'.lineno = p.lineno → DocS σ b rb L D (.para [l.rest]) p' w → R (.returned (.tuple #[])) w) :
    callE P i_parseState_addLine #[.pointer (some ⟨b, 0, none⟩), l.val] R w := by
  obtain ⟨r, obs, M, TM, IM, LM, hr, hs, ht, hI, ⟨rfl, rfl⟩, h⟩ := h
  have hm : op.at pb ∈ IM ++ (TM ++ ([] ++ (ownC D ++ ((txsC D).map TX.chunk ++ L)))) := by
    simp only [List.mem_append]; exact .inr (.inr (.inr (.inr (.inr hop))))
  refine addLine_para (op := op) h hs hpz hm hr (by decide) (by decide) hl fun w p' M' qb PM hp' hs' hPM h => ?_
  have e1 : p'.base = p.base := by rw [hp']; rfl
  have e2 : p'.lineno = p.lineno := by rw [hp']
  have e3 : p'.tq = p.tq := by rw [hp']
  have e4 : p'.tn = p.tn := by rw [hp']
  have e5 : p'.tc = p.tc := by rw [hp']
  have h : Sat σ w (p'.at b :: M' ++ (IM ++ (TM ++ (PM ++ (ownC D ++ ((txsC D).map TX.chunk ++ L)))))) := h.re (by intro _; simp only [List.append_eq, cnt_append, cnt_cons, cnt_nil] <;> omega)
  exact hR w p' e1 e2 ⟨r, _, M', TM, IM, PM, hr, hs', ht.of e3 e4 e5, hI, ⟨qb, p.lineno, p.lineno, rfl, hPM, hno, by simp, by simp⟩, h⟩
/-! ### A line that goes on with a paragraph -/
theorem trimSetext_no {b nb : Nat} {l : Ln} {v : Int} {e : TypeId} (h : Sat σ w (l.at b :: (nb, cel [.int .i64 v] e) :: L)) (hl : l.ok) (h1 : (l.lead 3 false).peek ≠ 45) (h2 : (l.lead 3 false).peek ≠ 61)
    (hR : ∀ w, Sat σ w (l.at b :: (nb, cel [.int .i64 v] e) :: L) → R (.returned (.bool false)) w) : callE P i_line_trimSetext #[.pointer (some ⟨b, 0, none⟩), .pointer (some ⟨nb, 0, none⟩)] R w := by
  refine g_line_trimSetext.sound ?_
  repeat (first | refine nilP_some ?_ | refine Sat.tk h fun w h => ?_ | refine ⟨_, Sat.ld h (by first | assumption | (repeat (first | exact .head _ | apply List.Mem.tail))) (by exact rfl), ?_⟩ | refine ⟨_, _, _, Sat.ld h (by first | assumption | (repeat (first | exact .head _ | apply List.Mem.tail))) (by exact rfl), ?_⟩ | refine Sat.st h (k := 0) rfl (Nat.le_of_ble_eq_true rfl) trivial (by first | (dsimp only [List.set]; exact rfl) | exact rfl) fun w h => ?_ | refine Sat.st h (k := 1) rfl (Nat.le_of_ble_eq_true rfl) trivial (by first | (dsimp only [List.set]; exact rfl) | exact rfl) fun w h => ?_ | refine Sat.st h (k := 2) rfl (Nat.le_of_ble_eq_true rfl) trivial (by first | (dsimp only [List.set]; exact rfl) | exact rfl) fun w h => ?_ | refine Sat.st h (k := 3) rfl (Nat.le_of_ble_eq_true rfl) trivial (by first | (dsimp only [List.set]; exact rfl) | exact rfl) fun w h => ?_ | refine Sat.st h (k := 4) rfl (Nat.le_of_ble_eq_true rfl) trivial (by first | (dsimp only [List.set]; exact rfl) | exact rfl) fun w h => ?_ | refine Sat.st h (k := 5) rfl (Nat.le_of_ble_eq_true rfl) trivial (by first | (dsimp only [List.set]; exact rfl) | exact rfl) fun w h => ?_ | refine Sat.st h (k := 6) rfl (Nat.le_of_ble_eq_true rfl) trivial (by first | (dsimp only [List.set]; exact rfl) | exact rfl) fun w h => ?_ | refine Sat.bx h fun b0 w h => ?_)
  have h : Sat σ _ (l.at b0 :: l.at b :: (nb, cel [.int .i64 v] e) :: L) := h
  refine lead_ok (max := 3) h hl (by decide) fun w h => ⟨_, rfl, ?_⟩
  refine peek_ok h (by first | assumption | (repeat (first | exact .head _ | apply List.Mem.tail))) (Ln.lead_ok hl) fun w h => ⟨_, rfl, ?_⟩
  rw [u8b _ 45 45 rfl, u8b _ 61 61 rfl]
  exact br_false (by simp [h1, h2]) (hR _ h.tail)
theorem eq_iface_same {t u e : TypeId} {i j : TypeInfo} {ms : Array (String × TypeId)} (hu : P.underlying t = some (.interface ms)) (hi : P.info? u = some i) (hc : i.comparable = true) (hp : P.underlying u = some (.pointer e)) (hj : P.info? e = some j) (hs : j.size ≠ 0) (b : Nat) (x y : Operand) (w : World) :
    (do eqGuard .eql t x y (.iface u (.pointer (some ⟨b, 0, none⟩))) (.iface u (.pointer (some ⟨b, 0, none⟩))); binOp .eql t (.iface u (.pointer (some ⟨b, 0, none⟩))) (.iface u (.pointer (some ⟨b, 0, none⟩)))).run P w = .ok (.bool true) w := by
  refine bin_eq rfl rfl ?_
  have h2 : ∀ d, (Op.equalIn (d + 1) u (.pointer (some ⟨b, 0, none⟩)) (.pointer (some ⟨b, 0, none⟩))).run P w = .ok true w := fun d => by
    simp [Op.equalIn, run_underlying hp, sizeOf, typeInfo, hj, hs, sameAddr]
  have h1 : ∀ d, (Op.equalIn (d + 2) t (.iface u (.pointer (some ⟨b, 0, none⟩))) (.iface u (.pointer (some ⟨b, 0, none⟩)))).run P w = .ok true w := fun d => by
    rw [Op.equalIn]
    simp [run_underlying hu, typeInfo, hi, hc, h2]
  exact h1 9998
theorem eq_para_same (b : Nat) (x y : Operand) (w : World) :
    (do eqGuard .eql ty_blockBuilder x y (.iface ty_P_paraBuilder (.pointer (some ⟨b, 0, none⟩))) (.iface ty_P_paraBuilder (.pointer (some ⟨b, 0, none⟩))); binOp .eql ty_blockBuilder (.iface ty_P_paraBuilder (.pointer (some ⟨b, 0, none⟩))) (.iface ty_P_paraBuilder (.pointer (some ⟨b, 0, none⟩)))).run P w = .ok (.bool true) w :=
  eq_iface_same und_bb (i := (P.info? ty_P_paraBuilder).getD default) (j := (P.info? ty_paraBuilder).getD default) (by kernel_rfl) (by kernel_rfl) und_para (by kernel_rfl) (by rw [show ((P.info? ty_paraBuilder).getD default).size = 2 by kernel_rfl]; decide) b x y w
/-- A line that goes on with a paragraph, and begins nothing else. -/
structure Ln.cont (l : Ln) : Prop where
  plain : l.plain
  lt : (l.lead 3 false).peek ≠ 60
  dash : (l.lead 3 false).peek ≠ 45
  eq : (l.lead 3 false).peek ≠ 61
theorem newSetext_para {b : Nat} {p : PS} {r : OB} {qb s e : Nat} {M : List Chunk} {l : Ln} (h : Sat σ w (p.at b :: M ++ L)) (hs : Stk p [r, paraOB qb s e] M) (hd : p.depth = 0) (hl : l.cont)
    (hR : ∀ w, Sat σ w (p.at b :: M ++ L) → R (.returned (.tuple #[l.val, .bool false])) w) : callE P i_newSetextHeading #[.pointer (some ⟨b, 0, none⟩), l.val] R w := by
  refine g_newSetextHeading.sound ?_
  refine Sat.bx h fun b1 w h => ?_
  refine Sat.bx h fun b3 w h => ?_
  refine Sat.bx h fun b5 w h => ?_
  repeat (first | refine nilP_some ?_ | refine Sat.tk h fun w h => ?_ | refine ⟨_, Sat.ld h (by first | assumption | (repeat (first | exact .head _ | apply List.Mem.tail))) (by exact rfl), ?_⟩ | refine ⟨_, _, _, Sat.ld h (by first | assumption | (repeat (first | exact .head _ | apply List.Mem.tail))) (by exact rfl), ?_⟩ | refine Sat.st h (k := 0) rfl (Nat.le_of_ble_eq_true rfl) trivial (by first | (dsimp only [List.set]; exact rfl) | exact rfl) fun w h => ?_ | refine Sat.st h (k := 1) rfl (Nat.le_of_ble_eq_true rfl) trivial (by first | (dsimp only [List.set]; exact rfl) | exact rfl) fun w h => ?_ | refine Sat.st h (k := 2) rfl (Nat.le_of_ble_eq_true rfl) trivial (by first | (dsimp only [List.set]; exact rfl) | exact rfl) fun w h => ?_ | refine Sat.st h (k := 3) rfl (Nat.le_of_ble_eq_true rfl) trivial (by first | (dsimp only [List.set]; exact rfl) | exact rfl) fun w h => ?_ | refine Sat.st h (k := 4) rfl (Nat.le_of_ble_eq_true rfl) trivial (by first | (dsimp only [List.set]; exact rfl) | exact rfl) fun w h => ?_ | refine Sat.st h (k := 5) rfl (Nat.le_of_ble_eq_true rfl) trivial (by first | (dsimp only [List.set]; exact rfl) | exact rfl) fun w h => ?_ | refine Sat.st h (k := 6) rfl (Nat.le_of_ble_eq_true rfl) trivial (by first | (dsimp only [List.set]; exact rfl) | exact rfl) fun w h => ?_ | refine Sat.bx h fun b0 w h => ?_)
  have h : Sat σ _ (l.at b0 :: (b5, cel [.int .i64 0] ty_int) :: zLn b3 :: l.at b1 :: (p.at b :: M ++ L)) := h
  have h : Sat σ _ (p.at b :: M ++ (l.at b0 :: (b5, cel [.int .i64 0] ty_int) :: zLn b3 :: l.at b1 :: L)) := h.re (by intro _; simp only [List.append_eq, cnt_append, cnt_cons, cnt_nil] <;> omega)
  refine nextB_ok (d := 0) h hs hd (by omega) fun w h => ?_
  refine ⟨_, rfl, ?_⟩
  refine top_ok (l := [r]) h hs (o := paraOB qb s e) rfl (fun w h => ?_) (fun _ => ⟨_, rfl⟩)
  rw [if_pos rfl]
  refine ⟨_, rfl, _, w, eq_para_same qb _ _ w, br_true rfl ?_⟩
  have h : Sat σ _ (l.at b0 :: (b5, cel [.int .i64 0] ty_int) :: (zLn b3 :: l.at b1 :: (p.at b :: M ++ L))) := h.re (by intro _; simp only [List.append_eq, cnt_append, cnt_cons, cnt_nil] <;> omega)
  refine trimSetext_no h hl.plain.ok hl.dash hl.eq fun w h => ⟨_, rfl, br_false rfl ?_⟩
  have h : Sat σ _ (zLn b3 :: l.at b1 :: (b5, cel [.int .i64 0] ty_int) :: l.at b0 :: (p.at b :: M ++ L)) := h.re (by intro _; simp only [List.append_eq, cnt_append, cnt_cons, cnt_nil] <;> omega)
  repeat (first | refine nilP_some ?_ | refine Sat.tk h fun w h => ?_ | refine ⟨_, Sat.ld h (by first | assumption | (repeat (first | exact .head _ | apply List.Mem.tail))) (by exact rfl), ?_⟩ | refine ⟨_, _, _, Sat.ld h (by first | assumption | (repeat (first | exact .head _ | apply List.Mem.tail))) (by exact rfl), ?_⟩ | refine Sat.st h (k := 0) rfl (Nat.le_of_ble_eq_true rfl) trivial (by first | (dsimp only [List.set]; exact rfl) | exact rfl) fun w h => ?_ | refine Sat.st h (k := 1) rfl (Nat.le_of_ble_eq_true rfl) trivial (by first | (dsimp only [List.set]; exact rfl) | exact rfl) fun w h => ?_ | refine Sat.st h (k := 2) rfl (Nat.le_of_ble_eq_true rfl) trivial (by first | (dsimp only [List.set]; exact rfl) | exact rfl) fun w h => ?_ | refine Sat.st h (k := 3) rfl (Nat.le_of_ble_eq_true rfl) trivial (by first | (dsimp only [List.set]; exact rfl) | exact rfl) fun w h => ?_ | refine Sat.st h (k := 4) rfl (Nat.le_of_ble_eq_true rfl) trivial (by first | (dsimp only [List.set]; exact rfl) | exact rfl) fun w h => ?_ | refine Sat.st h (k := 5) rfl (Nat.le_of_ble_eq_true rfl) trivial (by first | (dsimp only [List.set]; exact rfl) | exact rfl) fun w h => ?_ | refine Sat.st h (k := 6) rfl (Nat.le_of_ble_eq_true rfl) trivial (by first | (dsimp only [List.set]; exact rfl) | exact rfl) fun w h => ?_ | refine Sat.bx h fun b0 w h => ?_)
  have h : Sat σ _ (l.at b3 :: l.at b1 :: (b5, cel [.int .i64 0] ty_int) :: l.at b0 :: (p.at b :: M ++ L)) := h
  exact hR _ h.tail.tail.tail.tail
theorem decl_cont {b : Nat} {p : PS} {r : OB} {rb qb s e : Nat} {M : List Chunk} {l : Ln} (hs : Stk p [r, paraOB qb s e] M) (hr : r.bd = rootV rb) (hd : p.depth = 0) (hl : l.cont) : ∀ f ∈ newsF, Decl b p M l f := by
  intro f hf
  have hp := hl.plain
  simp only [newsF, List.mem_cons, List.not_mem_nil, or_false] at hf
  intro σ w L R h hR
  rcases hf with rfl | rfl | rfl | rfl | rfl | rfl | rfl | rfl
  · exact newQuote_no (x := .nilIface) h hp.ok hp.quote hR
  · exact newATX_no h hp.ok hp.heading hR
  · exact newSetext_para h hs hd hl hR
  · exact newHR_no h hp.ok hp.hr hR
  · exact hp.bullet b 0 p [r, paraOB qb s e] r M ty_P_rootBuilder _ hs hd rfl hr (by decide) σ w L R h hR
  · exact newHTML_no h hp.ok hl.lt hR
  · exact newFence_no h hp.ok hp.fence hR
  · exact newPre_no (ob := [r]) h hs (o := paraOB qb s e) rfl (fun _ => ⟨_, rfl⟩) hp.ok hp.pre hR
end Go.Proofs.YtmicoampfglaiaaGreatDoor

/- Documents of many lines: a paragraph goes on. -/
set_option linter.unusedVariables false
namespace Go.Proofs.YtmicoampfglaiaaGreatDoor
open Go.Proofs Go.IntWalk Go.RowKit
variable {σ : Out} {w : World} {L L' : List Chunk} {R : Ending → World → Prop}
theorem newPara_cont {b pb qb s e : Nat} {op : Opt} {p : PS} {r : OB} {M PM : List Chunk} {ls : List (List UInt8)} {l : Ln} (h : Sat σ w (p.at b :: M ++ (PM ++ L))) (hs : Stk p [r, paraOB qb s e] M) (hd : p.depth = 0) (hpz : p.pz = some ⟨pb, 0, none⟩) (hop : op.at pb ∈ L) (hno : op.table = false)
    (hp : ParaAt qb ls PM) (hls : ls.length < 1048570) (hl : l.ok)
    (hR : ∀ w r' e' M' PM', r'.bd = r.bd → r'.q = r.q → r'.n = r.n → r'.c = r.c → Stk p [r', paraOB qb s e'] M' → ParaAt qb (ls ++ [l.rest]) PM' → Sat σ w (p.at b :: M' ++ (PM' ++ L)) → R (.returned (.tuple #[Ln.zero.val, .bool true])) w) :
    callE P i_newPara #[.pointer (some ⟨b, 0, none⟩), l.val] R w := by
  have hn : p.stn = 2 := hs.2.1
  obtain ⟨sb, sp, hq, rfl, hsp⟩ := hs.split (by simp)
  have hp0 := hp
  obtain ⟨q, c, TM, hS, rfl⟩ := hp
  refine g_newPara.sound ?_
  refine Sat.bx h fun b1 w h => ?_
  refine Sat.bx h fun b3 w h => ?_
  have h : Sat σ w (zLn b3 :: l.at b1 :: (p.at b :: [(sb, cel (obCells [r, paraOB qb s e] ++ sp) ty_openBlock)] ++ (((qb, cel [.slice q ls.length c, .pointer none] ty_paraBuilder) :: TM) ++ L))) := h
  have h : Sat σ w (p.at b :: [(sb, cel (obCells [r, paraOB qb s e] ++ sp) ty_openBlock)] ++ (zLn b3 :: l.at b1 :: (((qb, cel [.slice q ls.length c, .pointer none] ty_paraBuilder) :: TM) ++ L))) := h.re (by intro _; simp only [List.append_eq, cnt_append, cnt_cons, cnt_nil] <;> omega)
  refine top_ok (l := [r]) h hs (o := paraOB qb s e) rfl (fun w h => ?_) (fun _ => ⟨_, rfl⟩)
  rw [if_pos rfl]
  refine ⟨_, rfl, ?_⟩
  repeat (first | refine nilP_some ?_ | refine Sat.tk h fun w h => ?_ | refine ⟨_, Sat.ld h (by first | assumption | (repeat (first | exact .head _ | apply List.Mem.tail))) (by exact rfl), ?_⟩ | refine ⟨_, _, _, Sat.ld h (by first | assumption | (repeat (first | exact .head _ | apply List.Mem.tail))) (by exact rfl), ?_⟩)
  have hm : l.at b1 ∈ p.at b :: [(sb, cel (obCells [r, paraOB qb s e] ++ sp) ty_openBlock)] ++ (zLn b3 :: l.at b1 :: (((qb, cel [.slice q ls.length c, .pointer none] ty_paraBuilder) :: TM) ++ L)) := by simp
  refine trimSpaceString_ok h hm hl fun w h => ⟨_, rfl, ?_⟩
  rw [show (l.text.drop l.i).dropWhile isST = l.rest from rfl]
  refine ⟨_, w, ne_ptr_nil und_para _ _ _ w, br_true rfl (nilP_some ?_)⟩
  simp only [Addr.add_lit, Nat.zero_add]
  have hmq : (qb, cel [.slice q ls.length c, .pointer none] ty_paraBuilder) ∈ p.at b :: [(sb, cel (obCells [r, paraOB qb s e] ++ sp) ty_openBlock)] ++ (zLn b3 :: l.at b1 :: (((qb, cel [.slice q ls.length c, .pointer none] ty_paraBuilder) :: TM) ++ L)) := by simp
  refine ⟨_, Sat.ld h hmq rfl, _, w, ne_ptr_nil und_table _ _ _ w, br_false rfl ?_⟩
  unfold g_newPara.k3
  refine Sat.tk h fun w h => ?_
  refine nilP_some ⟨_, Sat.ld h (.head _) rfl, ?_⟩
  rw [hpz]
  refine nilP_some ?_
  simp only [Addr.add_lit, Nat.zero_add]
  have hmo : op.at pb ∈ p.at b :: [(sb, cel (obCells [r, paraOB qb s e] ++ sp) ty_openBlock)] ++ (zLn b3 :: l.at b1 :: (((qb, cel [.slice q ls.length c, .pointer none] ty_paraBuilder) :: TM) ++ L)) := by simp [hop]
  refine ⟨op.table, Sat.ld h hmo rfl, br_false hno ?_⟩
  unfold g_newPara.k4
  refine br_false rfl ⟨_, w, ne_ptr_nil und_para _ _ _ w, br_true rfl (nilP_some ?_)⟩
  simp only [Addr.add_lit, Nat.zero_add]
  refine ⟨_, Sat.ld h (.head _) rfl, ?_⟩
  rw [hd]
  intro X hX
  have h : Sat σ w (p.at b :: (sb, cel (obCells [r, paraOB qb s e] ++ sp) ty_openBlock) :: (zLn b3 :: l.at b1 :: (((qb, cel [.slice q ls.length c, .pointer none] ty_paraBuilder) :: TM) ++ L))) := h
  have hlen : ∀ o o' : OB, (obCells [o, o'] ++ sp).length = 8 + sp.length := by intro o o'; rw [List.length_append, obCells_length]; rfl
  -- the root's end
  refine hX _ _ _ _ _ _ (nilP_some ?_)
  refine ⟨_, _, _, Sat.ld h (by first | assumption | (repeat (first | exact .head _ | apply List.Mem.tail))) (by exact rfl), ?_⟩
  rw [hn]
  refine br_true rfl ?_
  refine Sat.tk h fun w h => ?_
  refine nilP_some (nilP_some ?_)
  refine ⟨_, _, _, Sat.ld h (by first | assumption | (repeat (first | exact .head _ | apply List.Mem.tail))) (by exact rfl), ?_⟩
  refine ⟨_, Sat.ld h (by first | assumption | (repeat (first | exact .head _ | apply List.Mem.tail))) (by exact rfl), ?_⟩
  rw [hn, hq]
  refine ⟨by decide, by decide, nilP_some ?_⟩
  simp only [Addr.add_lit, Nat.zero_add]
  refine Sat.st h (k := 1) rfl (by rw [hlen]; show 3 < _; omega) trivial rfl fun w h => ?_
  have h : Sat σ w (p.at b :: (sb, cel (obCells [{ r with e := p.lineno }, paraOB qb s e] ++ sp) ty_openBlock) :: (zLn b3 :: l.at b1 :: (((qb, cel [.slice q ls.length c, .pointer none] ty_paraBuilder) :: TM) ++ L))) := h
  -- the paragraph's
  refine hX _ _ _ _ _ _ (nilP_some ?_)
  refine ⟨_, _, _, Sat.ld h (by first | assumption | (repeat (first | exact .head _ | apply List.Mem.tail))) (by exact rfl), ?_⟩
  rw [hn, show IntKind.i64.wrap (0 + 1) = 1 from rfl]
  refine br_true rfl ?_
  refine Sat.tk h fun w h => ?_
  refine nilP_some (nilP_some ?_)
  refine ⟨_, _, _, Sat.ld h (by first | assumption | (repeat (first | exact .head _ | apply List.Mem.tail))) (by exact rfl), ?_⟩
  refine ⟨_, Sat.ld h (by first | assumption | (repeat (first | exact .head _ | apply List.Mem.tail))) (by exact rfl), ?_⟩
  rw [hn, hq]
  refine ⟨by decide, by decide, nilP_some ?_⟩
  simp only [Addr.add_lit, Nat.zero_add]
  refine Sat.st h (k := 1) rfl (by rw [hlen]; show 7 < _; omega) trivial rfl fun w h => ?_
  have h : Sat σ w (p.at b :: (sb, cel (obCells [{ r with e := p.lineno }, paraOB qb s p.lineno] ++ sp) ty_openBlock) :: (zLn b3 :: l.at b1 :: (((qb, cel [.slice q ls.length c, .pointer none] ty_paraBuilder) :: TM) ++ L))) := h
  refine hX _ _ _ _ _ _ (nilP_some ?_)
  refine ⟨_, _, _, Sat.ld h (by first | assumption | (repeat (first | exact .head _ | apply List.Mem.tail))) (by exact rfl), ?_⟩
  rw [hn, show IntKind.i64.wrap (1 + 1) = 2 from rfl]
  refine br_false rfl ?_
  have h : Sat σ w (zLn b3 :: ((qb, cel [.slice q ls.length c, .pointer none] ty_paraBuilder) :: TM) ++ (p.at b :: (sb, cel (obCells [{ r with e := p.lineno }, paraOB qb s p.lineno] ++ sp) ty_openBlock) :: (l.at b1 :: L))) := h.re (by intro _; simp only [List.append_eq, cnt_append, cnt_cons, cnt_nil] <;> omega)
  refine para_append h hp0 (by omega) fun w PM' hp' h => ?_
  refine hR w { r with e := p.lineno } p.lineno [(sb, cel (obCells [{ r with e := p.lineno }, paraOB qb s p.lineno] ++ sp) ty_openBlock)] PM' rfl rfl rfl rfl (Stk.mk' hq ?_ (by rw [hn]; rfl) (by simp)) hp' (h.less [l.at b1] (by intro _; simp only [List.append_eq, cnt_append, cnt_cons, cnt_nil] <;> omega))
  rw [← hsp, hlen, hlen]
/-- A line goes on with a paragraph. -/
theorem addLine_cont {b rb pb : Nat} {op : Opt} {p : PS} {D : List DB} {ls : List (List UInt8)} {l : Ln} (h : DocS σ b rb L D (.para ls) p w) (hpz : p.pz = some ⟨pb, 0, none⟩) (hop : op.at pb ∈ L) (hno : op.table = false) (hl : l.cont) (hls : ls.length < 1048569)
    (hR : ∀ w p', p'.base = p.base → p'.lineno = p.lineno → DocS σ b rb L D (.para (ls ++ [l.rest])) p' w → R (.returned (.tuple #[])) w) :
    callE P i_parseState_addLine #[.pointer (some ⟨b, 0, none⟩), l.val] R w := by
  refine addLine_open h hl.plain.ok fun w b1 b2 p1 hp1 h => ?_
  unfold g_parseState_addLine.k2
  obtain ⟨r, obs, M, TM, IM, LM, hr, hs, ht, hI, ⟨qb, s, e, rfl, hp, hs1, hne, hln⟩, h⟩ := h
  refine isBlank_ok h (by simp) hl.plain.ok fun w h => ⟨_, rfl, ?_⟩
  rw [hl.plain.blank]
  refine br_false rfl ?_
  have hd1 : p1.depth = 0 := by rw [hp1]
  have hpz1 : p1.pz = some ⟨pb, 0, none⟩ := by rw [hp1]; exact hpz
  have h : Sat σ w (p1.at b :: M ++ (l.at b1 :: (IM ++ (TM ++ (LM ++ (ownC D ++ ((txsC D).map TX.chunk ++ (l.at b2 :: L)))))))) := h.re (by intro _; simp only [List.append_eq, cnt_append, cnt_cons, cnt_nil] <;> omega)
  refine bl102_decl h (decl_cont hs hr hd1 hl) fun w nb et R' h hR' => ?_
  have h : Sat σ w (p1.at b :: M ++ (LM ++ (l.at b1 :: (nb, cel newsC et) :: (IM ++ (TM ++ (ownC D ++ ((txsC D).map TX.chunk ++ (l.at b2 :: L)))))))) := h.re (by intro _; simp only [List.append_eq, cnt_append, cnt_cons, cnt_nil] <;> omega)
  have hm : op.at pb ∈ l.at b1 :: (nb, cel newsC et) :: (IM ++ (TM ++ (ownC D ++ ((txsC D).map TX.chunk ++ (l.at b2 :: L))))) := by simp [hop]
  refine newPara_cont h hs hd1 hpz1 hm hno hp hln hl.plain.ok fun w r' e' M' PM' a1 a2 a3 a4 hs' hp' h => hR' w true ?_
  have e1 : p1.base = p.base := by rw [hp1]; rfl
  have e2 : p1.lineno = p.lineno := by rw [hp1]
  refine hR w p1 e1 e2 ⟨r', _, M', TM, IM, PM', by rw [a1]; exact hr, hs', ht, by rw [a2, a3, a4]; exact hI, ⟨qb, s, e', rfl, hp', hs1, by simp, by simp; omega⟩, ?_⟩
  exact h.less [l.at b1, (nb, cel newsC et), l.at b2] (by intro _; simp only [List.append_eq, cnt_append, cnt_cons, cnt_nil] <;> omega)
end Go.Proofs.YtmicoampfglaiaaGreatDoor

/- Documents of many lines: the texts get their inlines; the document prints itself. -/
set_option linter.unusedVariables false
namespace Go.Proofs.YtmicoampfglaiaaGreatDoor
open Go.Proofs Go.IntWalk Go.RowKit
variable {σ : Out} {w : World} {L L' : List Chunk} {R : Ending → World → Prop}
/-- The inlines of a text, as they lie in memory, and what they print. -/
structure TF where
  q : Option Addr
  n : Nat
  c : Nat
  vs : List Value
  RM : List Chunk
  KM : List Chunk
  KM' : List Chunk
  f : List UInt8 → List UInt8
def TF.ok (t : TF) : Prop := Sl 1 ty_Inline t.q t.n t.c t.vs t.RM ∧ t.n < 1073741824 ∧ PrintsL "PrintHTML" t.vs t.KM t.KM' t.f
def fill (x : TX) (t : TF) : List Chunk := textC x.t x.s x.e t.q t.n t.c x.raw :: (t.RM ++ t.KM)
def fill' (x : TX) (t : TF) : List Chunk := textC x.t x.s x.e t.q t.n t.c x.raw :: (t.RM ++ t.KM')
def fills : List TX → List TF → List Chunk
  | x :: xs, t :: ts => fill x t ++ fills xs ts
  | _, _ => []
def fills' : List TX → List TF → List Chunk
  | x :: xs, t :: ts => fill' x t ++ fills' xs ts
  | _, _ => []
/-- The texts xs have the inlines ts, which print as F says. -/
inductive Filled (F : List UInt8 → List UInt8 → List UInt8) : List TX → List TF → Prop where
  | nil : Filled F [] []
  | cons {x : TX} {t : TF} {xs : List TX} {ts : List TF} : t.ok → t.f = F x.raw → Filled F xs ts → Filled F (x :: xs) (t :: ts)
theorem Filled.split {F : List UInt8 → List UInt8 → List UInt8} : ∀ {xs ys : List TX} {ts : List TF}, Filled F (xs ++ ys) ts → ∃ ts1 ts2, ts = ts1 ++ ts2 ∧ Filled F xs ts1 ∧ Filled F ys ts2
  | [], ys, ts, h => ⟨[], ts, rfl, .nil, h⟩
  | x :: xs, ys, ts, h => by
    cases h with
    | cons h1 h2 h3 =>
      obtain ⟨ts1, ts2, rfl, h4, h5⟩ := h3.split
      exact ⟨_ :: ts1, ts2, rfl, .cons h1 h2 h4, h5⟩
theorem Filled.append {F : List UInt8 → List UInt8 → List UInt8} {xs ys : List TX} {ts us : List TF} (h1 : Filled F xs ts) (h2 : Filled F ys us) : Filled F (xs ++ ys) (ts ++ us) := by
  induction h1 with
  | nil => exact h2
  | cons a b _ ih => exact .cons a b ih
theorem fills_append {F : List UInt8 → List UInt8 → List UInt8} : ∀ {xs ys : List TX} {ts us : List TF}, Filled F xs ts → fills (xs ++ ys) (ts ++ us) = fills xs ts ++ fills ys us
  | _, _, _, _, .nil => rfl
  | _, _, _, _, .cons h1 h2 h3 => by simp only [List.cons_append, fills, List.append_assoc]; rw [fills_append h3]
theorem fills'_append {F : List UInt8 → List UInt8 → List UInt8} : ∀ {xs ys : List TX} {ts us : List TF}, Filled F xs ts → fills' (xs ++ ys) (ts ++ us) = fills' xs ts ++ fills' ys us
  | _, _, _, _, .nil => rfl
  | _, _, _, _, .cons h1 h2 h3 => by simp only [List.cons_append, fills', List.append_assoc]; rw [fills'_append h3]
/-- The block d prints itself by g, whatever the memory of its inlines. -/
def DB.shows (F : List UInt8 → List UInt8 → List UInt8) (d : DB) (g : List UInt8 → List UInt8) : Prop :=
  ∀ ts, Filled F d.txs ts → Prints "PrintHTML" d.v (d.own ++ fills d.txs ts) (d.own ++ fills' d.txs ts) g
inductive Show (F : List UInt8 → List UInt8 → List UInt8) : List DB → List (List UInt8 → List UInt8) → Prop where
  | nil : Show F [] []
  | cons {d : DB} {g : List UInt8 → List UInt8} {D : List DB} {gs : List (List UInt8 → List UInt8)} : d.shows F g → Show F D gs → Show F (d :: D) (g :: gs)
theorem Show.append {F : List UInt8 → List UInt8 → List UInt8} {D E : List DB} {gs hs : List (List UInt8 → List UInt8)} (h1 : Show F D gs) (h2 : Show F E hs) : Show F (D ++ E) (gs ++ hs) := by
  induction h1 with
  | nil => exact h2
  | cons h _ ih => exact .cons h ih
def compL : List (List UInt8 → List UInt8) → List UInt8 → List UInt8
  | [], l => l
  | g :: gs, l => compL gs (g l)
theorem docs_print {F : List UInt8 → List UInt8 → List UInt8} {D : List DB} {gs : List (List UInt8 → List UInt8)} (h : Show F D gs) : ∀ ts, Filled F (txsC D) ts →
    ∃ KM KM', PrintsL "PrintHTML" (D.map DB.v) KM KM' (compL gs) ∧ (∀ a, cnt a (ownC D ++ fills (txsC D) ts) = cnt a KM) := by
  induction h with
  | nil => intro ts ht; cases ht; exact ⟨[], [], .nil, fun a => rfl⟩
  | @cons d g D gs h1 h2 ih =>
    intro ts ht
    have e : txsC (d :: D) = d.txs ++ txsC D := by simp [txsC]
    rw [e] at ht ⊢
    obtain ⟨ts1, ts2, rfl, h3, h4⟩ := ht.split
    obtain ⟨KM, KM', h5, h6⟩ := ih ts2 h4
    refine ⟨_, _, .cons (h1 ts1 h3) h5, fun a => ?_⟩
    have := h6 a
    rw [fills_append h3, show ownC (d :: D) = d.own ++ ownC D by simp [ownC]]
    simp only [cnt_append] at this ⊢
    omega
theorem paraDB_shows {F : List UInt8 → List UInt8 → List UInt8} {nb t s e : Nat} {raw : List UInt8} : (paraDB nb t s e raw).shows F (fun l => F raw (l ++ pOpen) ++ pClose) := by
  intro ts ht
  cases ht with
  | cons h1 h2 h3 =>
    cases h3
    rw [← h2]
    have := para_prints (nb := nb) (t := t) (s := s) (e := e) (s' := s) (e' := e) (raw := raw) h1.1 (by have := h1.2.1; omega) h1.2.2
    simpa [paraDB, fills, fills', fill, fill'] using this
/-- The loop over the texts. -/
theorem texts_ok {b pb : Nat} {op : Opt} {F : List UInt8 → List UInt8 → List UInt8} {p : PS} {xs : List TX} {TM : List Chunk} (h : Sat σ w (p.at b :: (TM ++ (xs.map TX.chunk ++ L)))) (ht : Txts p (xs.map TX.t) TM) (hpz : p.pz = some ⟨pb, 0, none⟩) (ho : op.at pb ∈ L) (hlk : p.links = none)
    (hLL : p.Lq = none ∧ p.Ln = 0 ∧ p.Lc = 0) (hI : ∀ x ∈ xs, InlineOK op x.raw (F x.raw))
    (hR : ∀ w (p' : PS) ts, p'.coreS = p.coreS → Filled F xs ts → Sat σ w (p'.at b :: (TM ++ (fills xs ts ++ L))) → g_Parser_parse.k4 R b w) :
    g_Parser_parse.l2 R (some ⟨pb, 0, none⟩) b p.tq p.tn p.tc (p.tn : Nat) 0 w := by
  have hn : p.tn = xs.length := by rw [ht.2.1, List.length_map]
  have hx : xs.length < 1048576 := by have := ht.2.2; rwa [List.length_map] at this
  intro Y hY
  have h00 := h
  clear h
  have key : ∀ (xs2 xs1 : List TX) ts1 w (p1 : PS), xs1 ++ xs2 = xs → p1.coreS = p.coreS → Filled F xs1 ts1 → Sat σ w (p1.at b :: (TM ++ (fills xs1 ts1 ++ (xs2.map TX.chunk ++ L)))) → Y (some ⟨pb, 0, none⟩) b p.tq p.tn p.tc (p.tn : Nat) (xs1.length : Nat) w := by
    intro xs2
    induction xs2 with
    | nil =>
      intro xs1 ts1 w p1 hxs hp1 hf h
      rw [List.append_nil] at hxs
      subst hxs
      have e1 : p1.Lq = none := by have := congrArg PS.Lq hp1; rw [show p1.Lq = p.Lq from this]; exact hLL.1
      have e2 : p1.Ln = 0 := by have := congrArg PS.Ln hp1; rw [show p1.Ln = p.Ln from this]; exact hLL.2.1
      have e3 : p1.Lc = 0 := by have := congrArg PS.Lc hp1; rw [show p1.Lc = p.Lc from this]; exact hLL.2.2
      have h : Sat σ w (p1.at b :: (TM ++ (fills xs1 ts1 ++ L))) := h
      have hm : op.at pb ∈ p1.at b :: (TM ++ (fills xs1 ts1 ++ L)) := by simp [ho]
      have fin : g_Parser_parse.k4 R b w := hR w p1 ts1 hp1 hf h
      refine hY _ _ _ _ _ _ _ _ (br_false (by simp; omega) (nilP_some ?_))
      simp only [Addr.add_lit, Nat.zero_add]
      refine ⟨op.task, Sat.ld h hm rfl, br_split (fun _ => ?_) (fun _ => fin)⟩
      refine ⟨_, _, _, Sat.ld h (.head _) (i := 10) rfl, ?_⟩
      rw [e1, e2, e3]
      intro Z hZ
      exact hZ _ _ _ _ _ _ _ (br_false rfl fin)
    | cons x xs2 ih =>
      intro xs1 ts1 w p1 hxs hp1 hf h
      have hlt : xs1.length < xs.length := by rw [← hxs]; simp
      obtain ⟨rb, sp, htq, rfl⟩ := ht.1.rowAt (by omega)
      refine hY _ _ _ _ _ _ _ _ (br_true (by simp; omega) ⟨by omega, by omega, ?_⟩)
      rw [htq]
      refine nilP_some ?_
      simp only [Addr.add_lit, Nat.zero_add, Int.toNat_natCast, Nat.mul_one]
      have hget : ((xs.map TX.t).map (fun t => Value.pointer (some ⟨t, 0, none⟩)) ++ sp)[xs1.length]? = some (.pointer (some ⟨x.t, 0, none⟩)) := by
        rw [List.getElem?_append_left (by simp; omega), ← hxs]; simp
      refine ⟨_, Sat.ld h (.tail _ (.head _)) hget, nilP_some ?_⟩
      simp only [Addr.add_lit, Nat.zero_add]
      have h : Sat σ w (p1.at b :: (x.chunk :: ([(rb, cel ((xs.map TX.t).map (fun t => Value.pointer (some ⟨t, 0, none⟩)) ++ sp) ty_P_Text)] ++ (fills xs1 ts1 ++ (xs2.map TX.chunk ++ L))))) := by
        rw [List.map_cons] at h
        exact h.re (by intro _; simp only [List.append_eq, cnt_append, cnt_cons, cnt_nil] <;> omega)
      refine ⟨_, Sat.ld h (.tail _ (.head _)) (i := 3) rfl, ?_⟩
      have hc : p1.pz = some ⟨pb, 0, none⟩ := by have := congrArg PS.pz hp1; rw [show p1.pz = p.pz from this]; exact hpz
      have hk : p1.links = none := by have := congrArg PS.links hp1; rw [show p1.links = p.links from this]; exact hlk
      refine hI x (by rw [← hxs]; simp) σ _ b pb p1 _ w h hc (by simp [ho]) hk fun w p2 q n c vs RM KM KM' hp2 hS hn2 hP h => ⟨_, _, _, rfl, nilP_some ?_⟩
      have h : Sat σ w (textC x.t x.s x.e none 0 0 x.raw :: (p2.at b :: (RM ++ (KM ++ ([(rb, cel ((xs.map TX.t).map (fun t => Value.pointer (some ⟨t, 0, none⟩)) ++ sp) ty_P_Text)] ++ (fills xs1 ts1 ++ (xs2.map TX.chunk ++ L))))))) := by
        have h : Sat σ w (p2.at b :: (RM ++ (KM ++ (textC x.t x.s x.e none 0 0 x.raw :: ([(rb, cel ((xs.map TX.t).map (fun t => Value.pointer (some ⟨t, 0, none⟩)) ++ sp) ty_P_Text)] ++ (fills xs1 ts1 ++ (xs2.map TX.chunk ++ L))))))) := h
        exact h.re (by intro _; simp only [List.append_eq, cnt_append, cnt_cons, cnt_nil] <;> omega)
      refine Sat.st h (k := 0) rfl (Nat.le_of_ble_eq_true rfl) trivial (by first | (dsimp only [List.set]; exact rfl) | exact rfl) fun w h => ?_
      have h : Sat σ w (textC x.t x.s x.e q n c x.raw :: (p2.at b :: (RM ++ (KM ++ ([(rb, cel ((xs.map TX.t).map (fun t => Value.pointer (some ⟨t, 0, none⟩)) ++ sp) ty_P_Text)] ++ (fills xs1 ts1 ++ (xs2.map TX.chunk ++ L))))))) := h
      rw [i64_inc (by omega)]
      have hf2 : Filled F (xs1 ++ [x]) (ts1 ++ [⟨q, n, c, vs, RM, KM, KM', F x.raw⟩]) := hf.append (.cons ⟨hS, hn2, hP⟩ rfl .nil)
      have := ih (xs1 ++ [x]) _ w p2 (by rw [← hxs]; simp) (hp2.trans hp1) hf2 ?_
      · rw [List.length_append, List.length_singleton, htq] at this; exact this
      · rw [fills_append hf]
        show Sat σ w (p2.at b :: ([(rb, cel ((xs.map TX.t).map (fun t => Value.pointer (some ⟨t, 0, none⟩)) ++ sp) ty_P_Text)] ++ ((fills xs1 ts1 ++ ((textC x.t x.s x.e q n c x.raw :: (RM ++ KM)) ++ [])) ++ (xs2.map TX.chunk ++ L))))
        exact h.re (by intro _; simp only [List.append_eq, cnt_append, cnt_cons, cnt_nil] <;> omega)
  exact key xs [] [] w p rfl rfl .nil h00
/-- All is closed. -/
theorem finishDoc_ok {b rb : Nat} {p : PS} {D : List DB} {lf : Leaf} (h : DocS σ b rb L D lf p w) (hf : lf.fin) (hD : D.length < 100000) (hX : (txsC D).length < 100000)
    (hR : ∀ w (p' : PS) D' db IM TM q n c s e, p'.base = { p.base with root := some ⟨db, 0, none⟩ } → LeafClosed lf D D' → Txts p' ((txsC D').map TX.t) TM → Sl 1 ty_Block q n c (D'.map DB.v) IM → n < 1000000 →
      Sat σ w (p'.at b :: (TM ++ ((txsC D').map TX.chunk ++ (docC db s e q n c p.links :: (IM ++ (ownC D' ++ L)))))) → R (.returned (.tuple #[])) w) :
    callE P i_parseState_trimStack #[.pointer (some ⟨b, 0, none⟩), .int .i64 0] R w := by
  refine g_parseState_trimStack.sound ?_
  have root : ∀ {X : OA → Int → WP} {w} {p1 : PS} {D'}, (∀ x0 x1 w, g_parseState_trimStack.bl1 R X x0 x1 w → X x0 x1 w) → p1.base = p.base → LeafClosed lf D D' → DocS σ b rb L D' .none p1 w → X (some ⟨b, 0, none⟩) 0 w := by
    intro X w p1 D' hX' hb hcl h
    obtain ⟨r, obs, M, TM, IM, LM, hr, hs, ht, hI, ⟨rfl, rfl⟩, h⟩ := h
    have hn : p1.stn = 1 := hs.2.1
    have hlk : p1.links = p.links := by have := congrArg PS.links hb; exact this
    refine hX' _ _ _ (nilP_some ?_)
    refine ⟨_, _, _, Sat.ld h (by first | assumption | (repeat (first | exact .head _ | apply List.Mem.tail))) (by exact rfl), ?_⟩
    rw [hn]
    refine br_true rfl ?_
    refine closeRoot_ok h hs hr fun w db h => ⟨_, rfl, hX' _ _ _ (nilP_some ?_)⟩
    refine ⟨_, _, _, Sat.ld h (by first | assumption | (repeat (first | exact .head _ | apply List.Mem.tail))) (by exact rfl), ?_⟩
    refine br_false rfl ?_
    have hIl := hI.1
    simp only [List.length_map, Nat.mul_one] at hIl
    have hDl : D'.length < 1000000 := by
      cases lf with
      | none => rw [show D' = D from hcl]; omega
      | para ls => obtain ⟨nb, t, s, e, rfl⟩ := hcl; simp; omega
    refine hR w { p1 with stn := 0, root := some ⟨db, 0, none⟩ } D' db IM TM r.q r.n r.c r.s r.e ?_ hcl (ht.of rfl rfl rfl) hI (by omega) ?_
    · have e : ({ p1 with stn := 0, root := some ⟨db, 0, none⟩ } : PS).base = { p1.base with root := some ⟨db, 0, none⟩ } := rfl
      rw [e, hb]
    · rw [← hlk]
      have h : Sat σ w (({ p1 with stn := 0, root := some ⟨db, 0, none⟩ } : PS).at b :: M ++ (docC db r.s r.e r.q r.n r.c p1.links :: (IM ++ (TM ++ ([] ++ (ownC D' ++ ((txsC D').map TX.chunk ++ L))))))) := h
      exact h.less M (by intro _; simp only [List.append_eq, cnt_append, cnt_cons, cnt_nil] <;> omega)
  have h0 := h
  obtain ⟨r, obs, M, TM, IM, LM, hr, hs, ht, hI, hL, h⟩ := h
  refine nilP_some ?_
  refine ⟨_, _, _, Sat.ld h (by first | assumption | (repeat (first | exact .head _ | apply List.Mem.tail))) (by exact rfl), ?_⟩
  refine br_false (by simp) ?_
  intro X hX'
  cases lf with
  | none => exact root hX' rfl rfl h0
  | para ls =>
    obtain ⟨qb, s, e, rfl, hp, hs1, hne, hln⟩ := hL
    have hn : p.stn = 2 := hs.2.1
    refine hX' _ _ _ (nilP_some ?_)
    refine ⟨_, _, _, Sat.ld h (by first | assumption | (repeat (first | exact .head _ | apply List.Mem.tail))) (by exact rfl), ?_⟩
    rw [hn]
    refine br_true rfl ?_
    exact closeLeaf_ok h0 hf hD hX fun w p' D' x h1 h2 h3 h4 h5 h => ⟨_, rfl, root hX' h1 h5 h⟩
end Go.Proofs.YtmicoampfglaiaaGreatDoor

/- Documents of many lines: parse. -/
set_option linter.unusedVariables false
namespace Go.Proofs.YtmicoampfglaiaaGreatDoor
open Go.Proofs Go.IntWalk Go.RowKit
variable {σ : Out} {w : World} {L L' : List Chunk} {R : Ending → World → Prop}
def noNL (l : List UInt8) : Prop := 10 ∉ l ∧ 13 ∉ l
/-- The lines of a text, and the byte that ends each of them. -/
inductive LinesOf : List UInt8 → List (List UInt8 × UInt8) → Prop where
  | nil : LinesOf [] []
  | last {l : List UInt8} : l ≠ [] → noNL l → LinesOf l [(l, 0)]
  | cons {l t : List UInt8} {ls : List (List UInt8 × UInt8)} : noNL l → LinesOf t ls → LinesOf (l ++ 10 :: t) ((l, 10) :: ls)
theorem LinesOf.no13 {t : List UInt8} {ls : List (List UInt8 × UInt8)} (h : LinesOf t ls) : 13 ∉ t := by
  induction h with
  | nil => simp
  | last h1 h2 => exact h2.2
  | cons h1 h2 ih =>
    simp only [List.mem_append, List.mem_cons, not_or]
    exact ⟨h1.2, by decide, ih⟩
theorem LinesOf.len {t : List UInt8} {ls : List (List UInt8 × UInt8)} (h : LinesOf t ls) : ls.length ≤ t.length := by
  induction h with
  | nil => simp
  | last h1 h2 => have := List.length_pos_iff.2 h1; simp; omega
  | cons h1 h2 ih => simp; omega
theorem findSub_first {A B : List UInt8} {c : UInt8} (hc : c ∉ A) : ∀ (k i : Nat), i + k = A.length → ∀ f, k < f → findSub [c] (A ++ c :: B) f i = some A.length
  | 0, i, hi, f + 1, _ => by
    obtain rfl : i = A.length := by omega
    simp only [findSub, List.length_singleton]
    rw [if_pos (by simp), List.drop_left, if_pos (by simp)]
  | k + 1, i, hi, f + 1, hf => by
    simp only [findSub, List.length_singleton]
    rw [if_pos (by simp; omega), if_neg]
    · exact findSub_first hc k (i + 1) (by omega) f (by omega)
    · intro he
      have hil : i < A.length := by omega
      rw [List.drop_append_of_le_length (by omega), List.drop_eq_getElem_cons hil, List.cons_append, List.take_succ_cons, List.take_zero] at he
      have he2 : A[i] = c := (List.cons.inj he).1
      exact hc (he2 ▸ List.getElem_mem hil)
theorem idx_first {A B : List UInt8} {c : UInt8} (hc : c ∉ A) : idx (A ++ c :: B) [c] = some A.length := by
  unfold idx
  exact findSub_first hc A.length 0 (by omega) _ (by simp; omega)
/-- What a line does to the state: J holds of it then. -/
def StepOK (op : Opt) (l : List UInt8) (nl : UInt8) (D : List DB) (lf : Leaf) (J : List DB → Leaf → Prop) : Prop :=
  ∀ (σ : Out) (R : Ending → World → Prop) (L : List Chunk) (b rb pb : Nat) (p : PS) (w : World), op.at pb ∈ L → p.pz = some ⟨pb, 0, none⟩ → p.lineno < 1000000000 → DocS σ b rb L D lf p w →
    (∀ w (p' : PS) D' lf', p'.base = p.base → p'.lineno = p.lineno → J D' lf' → DocS σ b rb L D' lf' p' w → R (.returned (.tuple #[])) w) → callE P i_parseState_addLine #[.pointer (some ⟨b, 0, none⟩), (lnOf l nl).val] R w
/-- The loop over the lines. -/
theorem lines_ok {op : Opt} {I : List (List UInt8 × UInt8) → List DB → Leaf → Prop} (step : ∀ l nl rem D lf, I ((l, nl) :: rem) D lf → StepOK op l nl D lf (I rem)) {X : OA → BA → Nat → WP} {b rb pb : Nat} {p0 : PS}
    (hX : ∀ x0 x1 x6 w, g_Parser_parse.bl1 R X x0 x1 x6 w → X x0 x1 x6 w) (hop : op.at pb ∈ L) (hpz : p0.pz = some ⟨pb, 0, none⟩)
    (hE : ∀ w (p : PS) D lf, p.base = p0.base → I [] D lf → DocS σ b rb L D lf p w → g_Parser_parse.bl1 R X (some ⟨pb, 0, none⟩) (bs []) b w) {text : List UInt8} {ls : List (List UInt8 × UInt8)} (hL : LinesOf text ls) :
    ∀ w (p : PS) D lf, text.length < 1000000 → p.lineno + ls.length < 1000000000 → p.base = p0.base → I ls D lf → DocS σ b rb L D lf p w → X (some ⟨pb, 0, none⟩) (bs text) b w := by
  have k3 : ∀ (l : List UInt8) (nl : UInt8) (t : List UInt8) (rem : List (List UInt8 × UInt8)) w (p : PS) D lf, (∀ w (p : PS) D lf, p.lineno + rem.length < 1000000000 → p.base = p0.base → I rem D lf → DocS σ b rb L D lf p w → X (some ⟨pb, 0, none⟩) (bs t) b w) →
      p.lineno + rem.length + 1 < 1000000000 → p.base = p0.base → I ((l, nl) :: rem) D lf → DocS σ b rb L D lf p w → g_Parser_parse.k3 R X (some ⟨pb, 0, none⟩) (bs t) b (bs l) (nl.toNat : Int) w := by
    intro l nl t rem w p D lf next hno hb hI h
    obtain ⟨r, obs, M, TM, IM, LM, hr, hs, ht, hIs, hL, h⟩ := h
    unfold g_Parser_parse.k3
    refine ⟨_, Sat.ld h (.head _) (i := 3) rfl, ?_⟩
    rw [i64_inc (by omega)]
    refine Sat.st h (k := 0) rfl (Nat.le_of_ble_eq_true rfl) trivial (by first | (dsimp only [List.set]; exact rfl) | exact rfl) fun w h => ?_
    let p1 : PS := { p with lineno := p.lineno + 1 }
    have h : Sat σ w (p1.at b :: M ++ (IM ++ (TM ++ (LM ++ (ownC D ++ ((txsC D).map TX.chunk ++ L)))))) := h
    have hb1 : p1.base = p0.base := hb
    have hpz1 : p1.pz = some ⟨pb, 0, none⟩ := by
      have := congrArg PS.pz hb1
      rw [show p1.pz = p0.pz from this]; exact hpz
    refine step l nl rem D lf hI σ _ L b rb pb p1 w hop hpz1 (by show p.lineno + 1 < _; omega) ⟨r, obs, M, TM, IM, LM, hr, hs.of rfl rfl rfl, ht.of rfl rfl rfl, hIs, hL, h⟩ fun w p2 D' lf' h1 h2 h3 h4 => ⟨rfl, ?_⟩
    exact next w p2 D' lf' (by rw [h2]; show p.lineno + 1 + _ < _; omega) (h1.trans hb1) h3 h4
  induction hL with
  | nil =>
    intro w p D lf hlen hno hb hI h
    exact hX _ _ _ _ (hE w p D lf hb hI h)
  | @last l hne hnl =>
    intro w p D lf hlen hno hb hI h
    have e10 : idxInt l [10] = -1 := by unfold idxInt; rw [idx_none hnl.1]
    have e13 : idxInt l [13] = -1 := by unfold idxInt; rw [idx_none hnl.2]
    refine hX _ _ _ _ (br_true (by rw [bs_toList]; simpa using hne) ?_)
    refine zzIndex_ok (sub := [10]) (by omega) (by decide) ⟨_, rfl, ?_⟩
    refine zzIndex_ok (sub := [13]) (by omega) (by decide) ⟨_, rfl, ?_⟩
    rw [e10, e13]
    refine br_false rfl (br_false rfl ?_)
    refine k3 l 0 [] [] w p D lf ?_ (by simp at hno ⊢; omega) hb hI h
    intro w p D lf hno hb hI h
    exact hX _ _ _ _ (hE w p D lf hb hI h)
  | @cons l t ls hnl hLt ih =>
    intro w p D lf hlen hno hb hI h
    have hl13 : 13 ∉ l ++ 10 :: t := (LinesOf.cons hnl hLt).no13
    have e10 : idxInt (l ++ 10 :: t) [10] = (l.length : Nat) := by unfold idxInt; rw [idx_first hnl.1]
    have e13 : idxInt (l ++ 10 :: t) [13] = -1 := by unfold idxInt; rw [idx_none hl13]
    have hlen' : (l ++ 10 :: t).length = l.length + t.length + 1 := by simp; omega
    refine hX _ _ _ _ (br_true (by rw [bs_toList]; simp [mk_toList]) ?_)
    refine zzIndex_ok (sub := [10]) (by omega) (by decide) ⟨_, rfl, ?_⟩
    refine zzIndex_ok (sub := [13]) (by omega) (by decide) ⟨_, rfl, ?_⟩
    rw [e10, e13]
    refine br_false rfl ?_
    refine br_true (by simp) ?_
    obtain ⟨r, obs, M, TM, IM, LM, hr, hs, ht, hIs, hL, h⟩ := h
    refine Sat.tk h fun w h => ?_
    rw [i64_inc (by omega), bs_size, Int.toNat_natCast, Int.toNat_natCast, bs_ext, bs_extract, List.drop_zero, List.take_left]
    refine ⟨by omega, by rw [hlen']; omega, by omega, by rw [hlen']; omega, ?_⟩
    have ed : (l ++ 10 :: t).drop (l.length + 1) = t := by rw [List.drop_append]; simp
    rw [ed]
    refine k3 l 10 t ls w p D lf ?_ (by simp at hno ⊢; omega) hb hI ⟨r, obs, M, TM, IM, LM, hr, hs, ht, hIs, hL, h⟩
    intro w p D lf hno hb hI h
    exact ih w p D lf (by rw [hlen'] at hlen; omega) hno hb hI h
/-- A text of many lines is parsed, and prints itself. -/
theorem parses_doc {op : Opt} {text out : List UInt8} {ls : List (List UInt8 × UInt8)} {F : List UInt8 → List UInt8 → List UInt8} (hL : LinesOf text ls) (h0 : 0 ∉ text) (hlen : text.length < 1000000)
    (I : List (List UInt8 × UInt8) → List DB → Leaf → Prop) (hI0 : I ls [] .none) (step : ∀ l nl rem D lf, I ((l, nl) :: rem) D lf → StepOK op l nl D lf (I rem))
    (fin : ∀ D lf, I [] D lf → lf.fin ∧ D.length < 100000 ∧ (txsC D).length < 100000 ∧ ∀ D', LeafClosed lf D D' → ∃ gs, Show F D' gs ∧ compL gs [] = out ∧ ∀ x ∈ txsC D', InlineOK op x.raw (F x.raw)) : ParsesTo op text out := by
  intro σ R L w pb h ho hR
  refine g_Parser_parse.sound ?_
  refine Sat.bx h fun b w h => ?_
  refine Sat.st h (k := 0) rfl (Nat.le_of_ble_eq_true rfl) trivial (by first | (dsimp only [List.set]; exact rfl) | exact rfl) fun w h => ?_
  have h : Sat σ w ((PS0 (some ⟨pb, 0, none⟩)).at b :: L) := h
  refine zzContains_ok (sub := [0]) (by omega) (by decide) ⟨_, rfl, ?_⟩
  rw [idx_none h0]
  refine br_false rfl ?_
  refine Sat.st h (k := 0) rfl (Nat.le_of_ble_eq_true rfl) trivial (by first | (dsimp only [List.set]; exact rfl) | exact rfl) fun w h => ?_
  refine Sat.bx h fun rb w h => ?_
  let p0 : PS := { PS0 (some ⟨pb, 0, none⟩) with depth := -1 }
  have h : Sat σ w (p0.at b :: [] ++ ((rb, cel [] ty_rootBuilder) :: L)) := h.up1
  have hstk : Stk p0 [] [] := ⟨Sl.nil 4 ty_openBlock, rfl, by simp⟩
  refine addBlock_ok h hstk rfl (by decide) fun w p1 M hp1 hs1 h => ⟨rfl, ?_⟩
  intro X hX
  have hll := hL.len
  have e1 : p1.base = p0.base := by rw [hp1]; rfl
  have e2 : p1.lineno = 0 := by rw [hp1]; rfl
  have htx : Txts p1 [] [] := by
    have : p1.tq = none ∧ p1.tn = 0 ∧ p1.tc = 0 := by rw [hp1]; exact ⟨rfl, rfl, rfl⟩
    obtain ⟨a, b, c⟩ := this
    unfold Txts
    rw [a, b, c]
    exact ⟨Sl.nil 1 ty_P_Text, rfl, by simp⟩
  have hd : DocS σ b rb ((rb, cel [] ty_rootBuilder) :: L) [] .none p1 w :=
    ⟨⟨rootV rb, none, 0, 0, 0, 0⟩, [], M, [], [], [], rfl, hs1, htx, Sl.nil 1 ty_Block, ⟨rfl, rfl⟩, h⟩
  refine lines_ok (p0 := p0) (op := op) step hX (.tail _ ho) rfl ?_ hL w p1 [] .none hlen (by rw [e2]; omega) e1 hI0 hd
  intro w p D lf hb hI hds
  obtain ⟨f1, f2, f3, f4⟩ := fin D lf hI
  refine br_false (by rw [bs_toList, mk_toList]; rfl) ?_
  refine finishDoc_ok hds f1 f2 f3 fun w p' D' db IM TM q n c s e hb' hcl ht hIM hn h => ⟨rfl, ?_⟩
  obtain ⟨gs, hS, hout, hIn⟩ := f4 D' hcl
  have hbb : p'.base = { p0.base with root := some ⟨db, 0, none⟩ } := by rw [hb', hb]
  have hpz : p'.pz = some ⟨pb, 0, none⟩ := by have := congrArg PS.pz hbb; exact this
  have hlk : p'.links = none := by have := congrArg PS.links hbb; exact this
  have hrt : p'.root = some ⟨db, 0, none⟩ := by have := congrArg PS.root hbb; exact this
  have hLL : p'.Lq = none ∧ p'.Ln = 0 ∧ p'.Lc = 0 := ⟨by have := congrArg PS.Lq hbb; exact this, by have := congrArg PS.Ln hbb; exact this, by have := congrArg PS.Lc hbb; exact this⟩
  refine ⟨_, _, _, Sat.ld h (.head _) (i := 11) rfl, ?_⟩
  refine texts_ok (op := op) (F := F) h ht hpz (by simp [ho]) hlk hLL hIn fun w p2 ts hp2 hf h => ?_
  have hrt2 : p2.root = some ⟨db, 0, none⟩ := by have := congrArg PS.root hp2; rw [show p2.root = p'.root from this]; exact hrt
  unfold g_Parser_parse.k4
  refine Sat.tk h fun w h => ?_
  refine ⟨_, Sat.ld h (.head _) (i := 1) rfl, _, Sat.ld h (.head _) (i := 6) rfl, ?_⟩
  rw [hrt2]
  obtain ⟨KM, KM', hP, hcnt⟩ := docs_print hS ts hf
  refine hR w db p2.corner (docC db s e q n c p.links :: (IM ++ KM)) (docC db s e q n c p.links :: (IM ++ KM')) (compL gs) (doc_prints hIM (by omega) hP) hout ?_
  refine Sat.less (p2.at b :: TM ++ [(rb, cel [] ty_rootBuilder)]) h fun a => ?_
  have := hcnt a
  simp only [List.append_eq, cnt_append, cnt_cons, cnt_nil] at this ⊢
  omega
end Go.Proofs.YtmicoampfglaiaaGreatDoor

/- Lines with a backslash ahead of each punctuation character: lines of paragraphs, and their inlines. -/
set_option linter.unusedVariables false
namespace Go.Proofs.YtmicoampfglaiaaGreatDoor
open Go.Proofs Go.IntWalk Go.RowKit
variable {σ : Out} {w : World} {L L' : List Chunk} {R : Ending → World → Prop}
/-- A line: not empty, of printable characters, no space at its ends. -/
structure GoodL (s : List UInt8) : Prop where
  full : fullM s = true
  pr : ∀ c ∈ s, prnB c = true
  len : s.length ≤ 200
theorem byte_all {p : UInt8 → Bool} (h : (List.range 256).all (fun n => p (UInt8.ofNat n)) = true) (c : UInt8) : p c = true := by
  have hc := c.toNat_lt
  have := (List.all_eq_true.1 h) c.toNat (List.mem_range.2 hc)
  simpa using this
/-- What holds of a printable character that is no punctuation, and no space. -/
def litOK (c : UInt8) : Bool := (match parserOf optOff c with | .nil => true | _ => false) && c != 93 && c != 10 && c != 13 && c != 0 && c != 46 && c != 41 && (c == 32 || (!isST c && c != 91 && (digB c || plainStart c)))
theorem lit_all : (List.range 256).all (fun n => (!(prnB (UInt8.ofNat n)) || punB (UInt8.ofNat n) || litOK (UInt8.ofNat n))) = true := by kernel_rfl
theorem lit_of {c : UInt8} (h1 : prnB c = true) (h2 : punB c = false) : litOK c = true := by
  have := byte_all (p := fun c => (!(prnB c) || punB c || litOK c)) lit_all c
  simpa [h1, h2] using this
theorem pun_all : (List.range 256).all (fun n => (!(punB (UInt8.ofNat n)) || (!isST (UInt8.ofNat n) && UInt8.ofNat n != 10 && UInt8.ofNat n != 13 && UInt8.ofNat n != 0))) = true := by kernel_rfl
theorem pun_of {c : UInt8} (h : punB c = true) : isST c = false ∧ c ≠ 10 ∧ c ≠ 13 ∧ c ≠ 0 := by
  have := byte_all (p := fun c => (!(punB c) || (!isST c && c != 10 && c != 13 && c != 0))) pun_all c
  simpa [h, and_assoc] using this
theorem lit_facts {c : UInt8} (h1 : prnB c = true) (h2 : punB c = false) : parserOf optOff c = .nil ∧ c ≠ 93 ∧ c ≠ 10 ∧ c ≠ 13 ∧ c ≠ 0 ∧ c ≠ 46 ∧ c ≠ 41 ∧ (c = 32 ∨ (isST c = false ∧ c ≠ 91 ∧ (digB c = true ∨ plainStart c = true))) := by
  have := lit_of h1 h2
  simp only [litOK, Bool.and_eq_true, bne_iff_ne, ne_eq, Bool.or_eq_true, beq_iff_eq, Bool.not_eq_true'] at this
  obtain ⟨⟨⟨⟨⟨⟨⟨a1, a2⟩, a3⟩, a4⟩, a5⟩, a6⟩, a7⟩, a8⟩ := this
  refine ⟨?_, a2, a3, a4, a5, a6, a7, ?_⟩
  · revert a1
    cases parserOf optOff c <;> simp
  · rcases a8 with a8 | ⟨⟨b1, b2⟩, b3⟩
    · exact .inl a8
    · exact .inr ⟨b1, b2, b3⟩
theorem slashT_cons (c : UInt8) (s : List UInt8) : slashT (c :: s) = (if punB c then [92, c] else [c]) ++ slashT s := by
  rw [show c :: s = [c] ++ s from rfl, slashT_append, slashT_one]
theorem slashT_mem {s : List UInt8} (hp : ∀ c ∈ s, prnB c = true) : ∀ c ∈ slashT s, c ≠ 10 ∧ c ≠ 13 ∧ c ≠ 0 := by
  induction s with
  | nil => intro c hc; simp [slashT, slashK, tokB] at hc
  | cons x s ih =>
    intro c hc
    rw [slashT_cons, List.mem_append] at hc
    rcases hc with hc | hc
    · cases hx : punB x with
      | true =>
        rw [hx] at hc; simp at hc
        rcases hc with rfl | rfl
        · decide
        · exact (pun_of hx).2
      | false =>
        rw [hx] at hc; simp at hc; subst hc
        have := lit_facts (hp c (List.mem_cons_self ..)) hx
        exact ⟨this.2.2.1, this.2.2.2.1, this.2.2.2.2.1⟩
    · exact ih (fun d hd => hp d (List.mem_cons_of_mem _ hd)) c hc
theorem slash_num {s : List UInt8} (hp : ∀ c ∈ s, prnB c = true) : numNo (slashT s) := by
  induction s with
  | nil => exact ⟨by simp [slashT, slashK, tokB], by simp [slashT, slashK, tokB]⟩
  | cons x s ih =>
    have ih := ih (fun d hd => hp d (List.mem_cons_of_mem _ hd))
    unfold numNo at ih ⊢
    rw [slashT_cons]
    cases hx : punB x with
    | true =>
      have : (([92, x] : List UInt8) ++ slashT s).dropWhile digB = 92 :: x :: slashT s := List.dropWhile_cons_of_neg (by decide)
      simp only [if_true, this]
      exact ⟨by simp, by simp⟩
    | false =>
      simp only [Bool.false_eq_true, if_false]
      have f := lit_facts (hp x (List.mem_cons_self ..)) hx
      cases hd : digB x with
      | true => rw [List.singleton_append, List.dropWhile_cons_of_pos hd]; exact ih
      | false =>
        rw [List.singleton_append, List.dropWhile_cons_of_neg (by simp [hd])]
        simp only [List.head?_cons, ne_eq, Option.some.injEq]
        exact ⟨f.2.2.2.2.2.1, f.2.2.2.2.2.2.1⟩
theorem good_cons {s : List UInt8} (h : GoodL s) : ∃ c t, s = c :: t ∧ c ≠ 32 ∧ prnB c = true := by
  have hf := h.full
  cases s with
  | nil => simp [fullM] at hf
  | cons c t =>
    refine ⟨c, t, rfl, ?_, h.pr c (List.mem_cons_self ..)⟩
    simp [fullM] at hf
    exact hf.1
theorem good_last {s : List UInt8} (h : GoodL s) : ∃ m d, s = m ++ [d] ∧ d ≠ 32 ∧ prnB d = true := by
  obtain ⟨c, t, hs, _, _⟩ := good_cons h
  rcases List.eq_nil_or_concat s with h0 | ⟨m, d, h0⟩
  · rw [h0] at hs; cases hs
  · rw [List.concat_eq_append] at h0
    refine ⟨m, d, h0, ?_, h.pr d (by rw [h0]; simp)⟩
    have hf := h.full
    simp only [fullM, Bool.and_eq_true, bne_iff_ne, ne_eq] at hf
    have h2 := hf.2
    rw [h0, List.length_append, List.length_singleton, Nat.add_sub_cancel, getD_mid m [] d 0] at h2
    exact h2
/-- The first byte of such a line. -/
theorem slash_first {s : List UInt8} (h : GoodL s) : ∃ c t, slashT s = c :: t ∧ isST c = false ∧ c ≠ 91 ∧ (digB c = true ∨ plainStart c = true) := by
  obtain ⟨c, t, rfl, h32, hp⟩ := good_cons h
  rw [slashT_cons]
  cases hx : punB c with
  | true => exact ⟨92, c :: slashT t, rfl, by decide, by decide, .inr (by decide)⟩
  | false =>
    have f := lit_facts hp hx
    rcases f.2.2.2.2.2.2.2 with f | f
    · exact absurd f h32
    · exact ⟨c, slashT t, rfl, f.1, f.2.1, f.2.2⟩
theorem slash_last {s : List UInt8} (h : GoodL s) : ∃ m d, slashT s = m ++ [d] ∧ isST d = false := by
  obtain ⟨m, d, rfl, h32, hp⟩ := good_last h
  rw [slashT_append, slashT_one]
  cases hx : punB d with
  | true => exact ⟨slashT m ++ [92], d, by simp, (pun_of hx).1⟩
  | false =>
    have f := lit_facts hp hx
    rcases f.2.2.2.2.2.2.2 with f | f
    · exact absurd f h32
    · exact ⟨slashT m, d, by simp, f.1⟩
theorem slash_plain {s : List UInt8} {nl : UInt8} (h : GoodL s) : (lnOf (slashT s) nl).plain := by
  have hn := slash_num h.pr
  have hl := slashT_len s
  have h2 := h.len
  obtain ⟨c, t, hs, h1, _, h3⟩ := slash_first h
  rw [hs] at hn hl ⊢
  have ht : t.length < 1000000 := by simp at hl; omega
  rcases h3 with h3 | h3
  · exact plain_digit ht h3 hn
  · exact plain_first h3 ht
theorem trim_of {s t m : List UInt8} {c d : UInt8} (h1 : s = c :: t) (h2 : s = m ++ [d]) (hc : isST c = false) (hd : isST d = false) : trimLR isST s = s := by
  unfold trimLR trimR
  have e : s.dropWhile isST = s := by rw [h1, List.dropWhile_cons_of_neg (by simp [hc])]
  rw [e, h2, List.reverse_append, List.reverse_singleton, List.singleton_append, List.dropWhile_cons_of_neg (by simp [hd])]
  simp
theorem slash_trim {s : List UInt8} (h : GoodL s) : trimLR isST (slashT s) = slashT s := by
  obtain ⟨c, t, h1, hc, _⟩ := slash_first h
  obtain ⟨m, d, h2, hd⟩ := slash_last h
  exact trim_of h1 h2 hc hd
theorem slash_rest {s : List UInt8} {nl : UInt8} (h : GoodL s) : (lnOf (slashT s) nl).rest = slashT s := by
  obtain ⟨c, t, h1, hc, _⟩ := slash_first h
  show (slashT s).dropWhile isST = slashT s
  rw [h1, List.dropWhile_cons_of_neg (by simp [hc])]
theorem slashO (s : List UInt8) : tokO (slashK s) = escS htmlPs s := by
  induction s with
  | nil => rfl
  | cons c s ih =>
    have : slashK (c :: s) = (if punB c then .esc c else .lit c) :: slashK s := rfl
    rw [this, tokO_cons, ih, escS_cons]
    cases punB c <;> rfl
theorem slashK_ok {s : List UInt8} (hp : ∀ c ∈ s, prnB c = true) : ∀ t ∈ slashK s, t.ok optOff ∧ (∃ c, t = .lit c ∨ t = .esc c) := by
  intro t ht
  obtain ⟨c, hc, rfl⟩ := List.mem_map.1 ht
  cases hx : punB c with
  | true => exact ⟨hx, c, .inr rfl⟩
  | false =>
    have f := lit_facts (hp c hc) hx
    exact ⟨⟨f.1, f.2.1⟩, c, .inl rfl⟩
theorem nlOK_none : ∀ {ts : List Tok}, (∀ t ∈ ts, ∃ c, t = .lit c ∨ t = .esc c) → nlOK ts
  | [], _ => trivial
  | t :: ts, h => by
    have ih := nlOK_none (ts := ts) fun u hu => h u (List.mem_cons_of_mem _ hu)
    refine ⟨?_, ?_, ih⟩
    · cases ts with
      | nil => trivial
      | cons u ts =>
        obtain ⟨c, hc⟩ := h u (by simp)
        rcases hc with rfl | rfl <;> trivial
    · obtain ⟨c, hc⟩ := h t (by simp)
      rcases hc with rfl | rfl <;> trivial
theorem slash_inline {s : List UInt8} (h : GoodL s) : InlineOK optOff (slashT s) (ab (escS htmlPs s)) := by
  have hl := slashT_len s
  have h2 := h.len
  have := toks_inline (o := optOff) (toks := slashK s) rfl (fun t ht => (slashK_ok h.pr t ht).1) (nlOK_none fun t ht => (slashK_ok h.pr t ht).2) (by show (slashT s).length < _; omega) (slash_trim h) (by
    obtain ⟨c, t, rfl, _⟩ := good_cons h
    simp [slashK])
  rw [slashO] at this
  exact this
/-- A text without the backslashes. -/
def unsl : List UInt8 → List UInt8
  | [] => []
  | [c] => [c]
  | c :: d :: s => if c = 92 then d :: unsl s else c :: unsl (d :: s)
theorem unsl_slash {s : List UInt8} : unsl (slashT s) = s := by
  induction s with
  | nil => rfl
  | cons c s ih =>
    rw [slashT_cons]
    cases hx : punB c with
    | true => simp [unsl, ih]
    | false =>
      have hc : c ≠ 92 := by rintro rfl; revert hx; decide
      simp only [Bool.false_eq_true, if_false, List.singleton_append]
      cases ht : slashT s with
      | nil => rw [ht] at ih; simp [unsl] at ih; subst ih; rfl
      | cons d t => rw [unsl, if_neg hc, ← ht, ih]
theorem slash_nl {s : List UInt8} (h : GoodL s) : noNL (slashT s) ∧ 0 ∉ slashT s ∧ slashT s ≠ [] := by
  have := slashT_mem h.pr
  obtain ⟨c, t, h1, _⟩ := slash_first h
  exact ⟨⟨fun hc => (this _ hc).1 rfl, fun hc => (this _ hc).2.1 rfl⟩, fun hc => (this _ hc).2.2 rfl, by rw [h1]; simp⟩
theorem slash_fin {s : List UInt8} (h : GoodL s) : Leaf.fin (.para [slashT s]) := by
  have hl := slashT_len s
  have h2 := h.len
  have h3 := slash_nl h
  obtain ⟨c, t, h1, h4, h5, _⟩ := slash_first h
  have e : joinL [10] [slashT s] = slashT s := by simp [joinL]
  refine ⟨by rw [e]; omega, by rw [e]; exact h3.2.2, ?_⟩
  rw [e, h1]
  have hn : isSTN c = false := by
    have h6 : c ≠ 10 := by rintro rfl; exact h3.1.1 (by rw [h1]; simp)
    simp only [isST, Bool.or_eq_false_iff] at h4
    simp only [isSTN, Bool.or_eq_false_iff]
    exact ⟨h4, by simpa using h6⟩
  rw [List.dropWhile_cons_of_neg (by simp [hn])]
  simpa using h5
end Go.Proofs.YtmicoampfglaiaaGreatDoor

set_option linter.unusedVariables false
set_option maxRecDepth 20000
namespace Go.Proofs.YtmicoampfglaiaaGreatDoor
open Go.Proofs
/- 15 pub-paratext/laws.printable -/
namespace g_laws_printable
noncomputable def body : Code := bodyOf Tryz.f15
def bl1 (R : EP) (Xa : BA → Int → Int → WP) (x0 : BA) (x11 : Int) (x12 : Int) (w : World) : Prop :=
 br (decide (x12 < x11))
 (0 ≤ x12 ∧ x12 < (x0.size : Int) ∧
 ((!(decide ((bt x0 x12) < 32))) = true → 0 ≤ x12 ∧ x12 < (x0.size : Int)) ∧
 br ((decide ((bt x0 x12) < 32)) || (decide ((bt x0 x12) > 126)))
 (R (.returned (.bool false)) w)
 (Xa x0 x11 (IntKind.i64.wrap (x12 + 1)) w))
 (R (.returned (.bool true)) w)
def l1 (R : EP) (x0 : BA) (x11 : Int) (x12 : Int) (w : World) : Prop :=
  ∀ X : BA → Int → Int → WP, (∀ x0 x11 x12 w, bl1 R X x0 x11 x12 w → X x0 x11 x12 w) → X x0 x11 x12 w

noncomputable def al1 (R : EP) (Xa : BA → Int → Int → WP) : AC :=
  (.leaf (sel [1, 1, 0, 1, 0, 0] body))
end g_laws_printable
def g_laws_printable (R : EP) (x0 : BA) (x1 : Int) (w : World) : Prop :=
 br (decide ((x0.size : Int) > x1))
 (R (.returned (.bool false)) w)
 (g_laws_printable.l1 R x0 (x0.size : Int) 0 w)

noncomputable def g_laws_printable.ac (R : EP) : AC :=
  (.seq (.leaf (sel [0] g_laws_printable.body)) (.seq (.leaf (sel [1, 0] g_laws_printable.body)) (.seq (.seq (.leaf (sel [1, 1, 0, 0] g_laws_printable.body)) (.block 0 (.loop (leaf [(0, .s .str), (11, .s (.int .i64)), (12, .s (.int .i64))] (g_laws_printable.l1 R)) (sel [1, 1, 0, 1, 0, 0] g_laws_printable.body)))) (.leaf (sel [1, 1, 1] g_laws_printable.body)))))
theorem g_laws_printable.good (R : EP) : Good P 26 (g_laws_printable.ac R) (QF P [.tmp 4] R) :=
  ⟨trivial, ⟨trivial, ⟨⟨trivial, (loopG (g_laws_printable.al1 R) (g_laws_printable.bl1 R) (fun _ => by kernel_rfl) (fun Xa => trivial) (fun Xa => by intro x0 x11 x12 ρ w; kernel_rfl) (fun X h _ _ _ _ g => g X h))⟩, trivial⟩⟩⟩
theorem g_laws_printable.eq (R : EP) (x0 : BA) (x1 : Int) (w : World) : g_laws_printable R x0 x1 w = vcA P 26 (g_laws_printable.ac R) (QF P [.tmp 4] R) (fr0 [.string x0, .int .i64 x1]) w := by kernel_rfl
theorem g_laws_printable.sound {R : EP} {x0 : ByteArray} {x1 : Int} {w : World} (h : g_laws_printable R x0 x1 w) : callE P i_laws_printable #[.string x0, .int .i64 x1] R w :=
  callE_fin (c := g_laws_printable.body) Tryz.func15 Tryz.call15 (by kernel_rfl) (by kernel_rfl) (by kernel_rfl) (by kernel_rfl) (by kernel_rfl) (g_laws_printable.good R) (g_laws_printable.eq R x0 x1 w) h
/- 20 pub-paratext/spec.EscapeHTML -/
namespace g_spec_EscapeHTML
noncomputable def body : Code := bodyOf Tryz.f20
def bl1 (R : EP) (Xa : BA → BA → Int → WP) (x0 : BA) (x3 : BA) (x4 : Int) (w : World) : Prop :=
 br (decide (x4 < (x0.size : Int)))
 (0 ≤ x4 ∧ x4 < (x0.size : Int) ∧
 br ((bt x0 x4) == 38)
 (((x3.size + (ByteArray.mk #[38, 97, 109, 112, 59]).size : Nat) : Int) ≤ IntKind.i64.max ∧
 Xa x0 (x3 ++ (ByteArray.mk #[38, 97, 109, 112, 59])) (IntKind.i64.wrap (x4 + 1)) w)
 (br ((bt x0 x4) == 60)
 (((x3.size + (ByteArray.mk #[38, 108, 116, 59]).size : Nat) : Int) ≤ IntKind.i64.max ∧
 Xa x0 (x3 ++ (ByteArray.mk #[38, 108, 116, 59])) (IntKind.i64.wrap (x4 + 1)) w)
 (br ((bt x0 x4) == 62)
 (((x3.size + (ByteArray.mk #[38, 103, 116, 59]).size : Nat) : Int) ≤ IntKind.i64.max ∧
 Xa x0 (x3 ++ (ByteArray.mk #[38, 103, 116, 59])) (IntKind.i64.wrap (x4 + 1)) w)
 (br ((bt x0 x4) == 34)
 (((x3.size + (ByteArray.mk #[38, 113, 117, 111, 116, 59]).size : Nat) : Int) ≤ IntKind.i64.max ∧
 Xa x0 (x3 ++ (ByteArray.mk #[38, 113, 117, 111, 116, 59])) (IntKind.i64.wrap (x4 + 1)) w)
 (0 ≤ x4 ∧ x4 ≤ (IntKind.i64.wrap (x4 + 1)) ∧ (IntKind.i64.wrap (x4 + 1)) ≤ (x0.size : Int) ∧
 ((x3.size + (x0.extract (Int.toNat x4) (Int.toNat (IntKind.i64.wrap (x4 + 1)))).size : Nat) : Int) ≤ IntKind.i64.max ∧
 Xa x0 (x3 ++ (x0.extract (Int.toNat x4) (Int.toNat (IntKind.i64.wrap (x4 + 1))))) (IntKind.i64.wrap (x4 + 1)) w)))))
 (R (.returned (.string x3)) w)
def l1 (R : EP) (x0 : BA) (x3 : BA) (x4 : Int) (w : World) : Prop :=
  ∀ X : BA → BA → Int → WP, (∀ x0 x3 x4 w, bl1 R X x0 x3 x4 w → X x0 x3 x4 w) → X x0 x3 x4 w

noncomputable def al1 (R : EP) (Xa : BA → BA → Int → WP) : AC :=
  (.leaf (sel [1, 1, 0, 1, 0, 0] body))
end g_spec_EscapeHTML
def g_spec_EscapeHTML (R : EP) (x0 : BA) (w : World) : Prop :=
 g_spec_EscapeHTML.l1 R x0 (ByteArray.mk #[]) 0 w

noncomputable def g_spec_EscapeHTML.ac (R : EP) : AC :=
  (.seq (.leaf (sel [0] g_spec_EscapeHTML.body)) (.seq (.leaf (sel [1, 0] g_spec_EscapeHTML.body)) (.seq (.seq (.leaf (sel [1, 1, 0, 0] g_spec_EscapeHTML.body)) (.block 0 (.loop (leaf [(0, .s .str), (3, .s .str), (4, .s (.int .i64))] (g_spec_EscapeHTML.l1 R)) (sel [1, 1, 0, 1, 0, 0] g_spec_EscapeHTML.body)))) (.leaf (sel [1, 1, 1] g_spec_EscapeHTML.body)))))
theorem g_spec_EscapeHTML.good (R : EP) : Good P 38 (g_spec_EscapeHTML.ac R) (QF P [.tmp 2] R) :=
  ⟨trivial, ⟨trivial, ⟨⟨trivial, (loopG (g_spec_EscapeHTML.al1 R) (g_spec_EscapeHTML.bl1 R) (fun _ => by kernel_rfl) (fun Xa => trivial) (fun Xa => by intro x0 x3 x4 ρ w; kernel_rfl) (fun X h _ _ _ _ g => g X h))⟩, trivial⟩⟩⟩
theorem g_spec_EscapeHTML.eq (R : EP) (x0 : BA) (w : World) : g_spec_EscapeHTML R x0 w = vcA P 38 (g_spec_EscapeHTML.ac R) (QF P [.tmp 2] R) (fr0 [.string x0]) w := by kernel_rfl
theorem g_spec_EscapeHTML.sound {R : EP} {x0 : ByteArray} {w : World} (h : g_spec_EscapeHTML R x0 w) : callE P i_spec_EscapeHTML #[.string x0] R w :=
  callE_fin (c := g_spec_EscapeHTML.body) Tryz.func20 Tryz.call20 (by kernel_rfl) (by kernel_rfl) (by kernel_rfl) (by kernel_rfl) (by kernel_rfl) (g_spec_EscapeHTML.good R) (g_spec_EscapeHTML.eq R x0 w) h
end Go.Proofs.YtmicoampfglaiaaGreatDoor

/- Small functions of the laws and of the reference: printable, EscapeHTML. -/
set_option linter.unusedVariables false
namespace Go.Proofs.YtmicoampfglaiaaGreatDoor
open Go.Proofs Go.IntWalk Go.RowKit
variable {σ : Out} {w : World} {L L' : List Chunk} {R : Ending → World → Prop}
def prB (c : UInt8) : Bool := decide (32 ≤ c.toNat) && decide (c.toNat ≤ 126)
def printM (s : List UInt8) (n : Nat) : Bool := decide (s.length ≤ n) && s.all prB
theorem printable_ok {s : List UInt8} {n : Nat} (hs : s.length < 4611686018427387904) (hR : R (.returned (.bool (printM s n))) w) : callE P i_laws_printable #[.string (bs s), .int .i64 n] R w := by
  refine g_laws_printable.sound ?_
  by_cases hn : n < s.length
  · refine br_true (by simp; omega) ?_
    have : printM s n = false := by unfold printM; rw [decide_eq_false (by omega)]; rfl
    rw [← this]; exact hR
  refine br_false (by simp; omega) ?_
  intro X hX
  rw [bs_size]
  have hall : printM s n = s.all prB := by unfold printM; rw [decide_eq_true (by omega)]; rfl
  rw [hall] at hR
  have key : ∀ k i, i + k = s.length → s.all prB = (s.drop i).all prB → X (bs s) (s.length : Nat) (i : Int) w := by
    intro k
    induction k with
    | zero =>
      intro i hi ha
      refine hX _ _ _ _ (br_false (by simp; omega) ?_)
      rw [List.drop_eq_nil_of_le (by omega)] at ha
      rw [ha] at hR; exact hR
    | succ k ih =>
      intro i hi ha
      have hil : i < s.length := by omega
      rw [List.drop_eq_getElem_cons hil, List.all_cons] at ha
      refine hX _ _ _ _ (br_true (by simp; omega) ⟨by omega, by simp; omega, fun _ => ⟨by omega, by simp; omega⟩, ?_⟩)
      rw [bt_at hil]
      by_cases hm : prB s[i] = true
      · have hm' := hm
        simp only [prB, Bool.and_eq_true, decide_eq_true_eq] at hm'
        refine br_false (by simp; omega) ?_
        rw [i64_inc (by omega)]
        refine ih (i + 1) (by omega) ?_
        rw [ha, hm, Bool.true_and]
      · have hm' : prB s[i] = false := by simpa using hm
        rw [ha, hm', Bool.false_and] at hR
        refine br_true ?_ hR
        simp only [prB, Bool.and_eq_false_iff, decide_eq_false_iff_not] at hm'
        simp; omega
  exact key s.length 0 (by omega) (by rw [List.drop_zero])
theorem escB_cases (c : UInt8) : (c = 38 ∧ escB htmlPs c = [38, 97, 109, 112, 59]) ∨ (c = 60 ∧ escB htmlPs c = [38, 108, 116, 59]) ∨ (c = 62 ∧ escB htmlPs c = [38, 103, 116, 59]) ∨ (c = 34 ∧ escB htmlPs c = [38, 113, 117, 111, 116, 59]) ∨ (c ≠ 38 ∧ c ≠ 60 ∧ c ≠ 62 ∧ c ≠ 34 ∧ escB htmlPs c = [c]) := by
  by_cases h1 : c = 38
  · subst h1; exact .inl ⟨rfl, by decide⟩
  by_cases h2 : c = 60
  · subst h2; exact .inr (.inl ⟨rfl, by decide⟩)
  by_cases h3 : c = 62
  · subst h3; exact .inr (.inr (.inl ⟨rfl, by decide⟩))
  by_cases h4 : c = 34
  · subst h4; exact .inr (.inr (.inr (.inl ⟨rfl, by decide⟩)))
  refine .inr (.inr (.inr (.inr ⟨h1, h2, h3, h4, ?_⟩)))
  have ne : ∀ d : UInt8, c ≠ d → (d == c) = false := fun d hd => by simpa using fun h => hd h.symm
  unfold escB htmlPs
  simp [List.find?, ne 34 h4, ne 38 h1, ne 60 h2, ne 62 h3]
theorem escHTML_ok {s : List UInt8} (hs : s.length < 1000000000) (hR : R (.returned (.string (bs (escS htmlPs s)))) w) : callE P i_spec_EscapeHTML #[.string (bs s)] R w := by
  refine g_spec_EscapeHTML.sound ?_
  intro X hX
  have hmax : IntKind.i64.max = 9223372036854775807 := rfl
  have key : ∀ k i, i + k = s.length → X (bs s) (bs (escS htmlPs (s.take i))) (i : Int) w := by
    intro k
    induction k with
    | zero =>
      intro i hi
      refine hX _ _ _ _ (br_false (by simp; omega) ?_)
      rw [List.take_of_length_le (by omega)]; exact hR
    | succ k ih =>
      intro i hi
      have hil : i < s.length := by omega
      have hlen := escS_length (ps := htmlPs) (by decide) (s.take i)
      rw [List.length_take] at hlen
      have hst : escS htmlPs (s.take (i + 1)) = escS htmlPs (s.take i) ++ escB htmlPs s[i] := by
        rw [List.take_succ_eq_append_getElem hil, escS_append]; simp [escS]
      have next := ih (i + 1) (by omega)
      rw [hst] at next
      refine hX _ _ _ _ (br_true (by simp; omega) ⟨by omega, by simp; omega, ?_⟩)
      rw [bt_beq hil 38 38 rfl, bt_beq hil 60 60 rfl, bt_beq hil 62 62 rfl, bt_beq hil 34 34 rfl, i64_inc (by omega)]
      rw [show ByteArray.mk #[38, 97, 109, 112, 59] = bs [38, 97, 109, 112, 59] from rfl, show ByteArray.mk #[38, 108, 116, 59] = bs [38, 108, 116, 59] from rfl, show ByteArray.mk #[38, 103, 116, 59] = bs [38, 103, 116, 59] from rfl, show ByteArray.mk #[38, 113, 117, 111, 116, 59] = bs [38, 113, 117, 111, 116, 59] from rfl]
      rcases escB_cases s[i] with ⟨h, he⟩ | ⟨h, he⟩ | ⟨h, he⟩ | ⟨h, he⟩ | ⟨h1, h2, h3, h4, he⟩
      · rw [he] at next
        refine br_true (by simpa using h) ⟨by rw [hmax]; simp; omega, ?_⟩
        rw [bs_append]; exact next
      · rw [he] at next
        refine br_false (by rw [h]; decide) (br_true (by simpa using h) ⟨by rw [hmax]; simp; omega, ?_⟩)
        rw [bs_append]; exact next
      · rw [he] at next
        refine br_false (by rw [h]; decide) (br_false (by rw [h]; decide) (br_true (by simpa using h) ⟨by rw [hmax]; simp; omega, ?_⟩))
        rw [bs_append]; exact next
      · rw [he] at next
        refine br_false (by rw [h]; decide) (br_false (by rw [h]; decide) (br_false (by rw [h]; decide) (br_true (by simpa using h) ⟨by rw [hmax]; simp; omega, ?_⟩)))
        rw [bs_append]; exact next
      · rw [he] at next
        refine br_false (by simpa using h1) (br_false (by simpa using h2) (br_false (by simpa using h3) (br_false (by simpa using h4) ?_)))
        have e1 : (s.take (i + 1)).drop i = [s[i]] := by
          rw [List.take_succ_eq_append_getElem hil, List.drop_append_of_le_length (by rw [List.length_take]; omega), List.drop_eq_nil_of_le (by rw [List.length_take]; omega)]; rfl
        rw [Int.toNat_natCast, Int.toNat_natCast, bs_extract, e1, bs_append]
        refine ⟨by omega, by omega, by simp; omega, by rw [hmax]; simp; omega, next⟩
  exact key s.length 0 (by omega)
end Go.Proofs.YtmicoampfglaiaaGreatDoor

/- FnParagraphs: the law's walk. -/
set_option linter.unusedVariables false
namespace Go.Proofs.YtmicoampfglaiaaGreatDoor
open Go.Proofs Go.IntWalk Go.RowKit
variable {σ : Out} {w : World} {L L' : List Chunk} {R : Ending → World → Prop}
/-- Paragraphs that are done, of the texts pre. -/
inductive DP : List DB → List (List UInt8) → Prop where
  | nil : DP [] []
  | snoc {D : List DB} {pre : List (List UInt8)} {nb t s e : Nat} {raw : List UInt8} : DP D pre → DP (D ++ [paraDB nb t s e raw]) (pre ++ [raw])
theorem DP.facts {D : List DB} {pre : List (List UInt8)} (h : DP D pre) (F : List UInt8 → List UInt8 → List UInt8) : D.length = pre.length ∧ (txsC D).length = pre.length ∧ (∀ x ∈ txsC D, x.raw ∈ pre) ∧ Show F D (pre.map fun raw l => F raw (l ++ pOpen) ++ pClose) := by
  induction h with
  | nil => exact ⟨rfl, rfl, by simp [txsC], .nil⟩
  | @snoc D pre nb t s e raw h ih =>
    refine ⟨by simp [ih.1], by rw [txsC_snoc]; simp [ih.2.1, paraDB], fun x hx => ?_, ?_⟩
    · rw [txsC_snoc, List.mem_append] at hx
      rcases hx with hx | hx
      · exact List.mem_append_left _ (ih.2.2.1 x hx)
      · simp [paraDB] at hx; subst hx; simp
    · rw [List.map_append]
      exact ih.2.2.2.append (.cons paraDB_shows .nil)
def paraF (raw : List UInt8) : List UInt8 → List UInt8 := ab (escS htmlPs (unsl raw))
theorem compL_paras (t : List UInt8 → List UInt8) : ∀ (ps : List (List UInt8)) (l : List UInt8), compL (ps.map fun raw l => ab (t raw) (l ++ pOpen) ++ pClose) l = l ++ (ps.map fun raw => pOpen ++ t raw ++ pClose).flatten
  | [], l => by simp [compL]
  | p :: ps, l => by
    show compL (ps.map fun raw l => ab (t raw) (l ++ pOpen) ++ pClose) (ab (t p) (l ++ pOpen) ++ pClose) = _
    rw [compL_paras t ps]
    simp [ab]
/-- The lines: the paragraphs, and blank lines of k spaces between them. -/
def paraLines (k : Nat) : List (List UInt8) → List (List UInt8 × UInt8)
  | [] => []
  | l :: suf => (slashT l, if suf = [] then 0 else 10) :: (if suf = [] then [] else (List.replicate k 32, 10) :: paraLines k suf)
def tailLines (k : Nat) (suf : List (List UInt8)) : List (List UInt8 × UInt8) := if suf = [] then [] else (List.replicate k 32, 10) :: paraLines k suf
def paraSep (k : Nat) : List UInt8 := [10] ++ List.replicate k 32 ++ [10]
theorem para_linesOf {k : Nat} : ∀ {ls : List (List UInt8)}, ls ≠ [] → (∀ l ∈ ls, GoodL l) → LinesOf (joinL (paraSep k) (ls.map slashT)) (paraLines k ls)
  | [l], _, h => by
    have g := slash_nl (h l (by simp))
    simpa [joinL, paraLines] using LinesOf.last g.2.2 g.1
  | l :: m :: ls, _, h => by
    have g := slash_nl (h l (by simp))
    have ih := para_linesOf (k := k) (ls := m :: ls) (by simp) (fun x hx => h x (List.mem_cons_of_mem _ hx))
    have e : joinL (paraSep k) ((l :: m :: ls).map slashT) = slashT l ++ 10 :: (List.replicate k 32 ++ 10 :: joinL (paraSep k) ((m :: ls).map slashT)) := by
      simp [joinL, paraSep]
    rw [e]
    have hb : noNL (List.replicate k 32) := ⟨by intro h; rw [List.mem_replicate] at h; exact absurd h.2 (by decide), by intro h; rw [List.mem_replicate] at h; exact absurd h.2 (by decide)⟩
    have := LinesOf.cons g.1 (LinesOf.cons hb ih)
    simpa [paraLines] using this
theorem blank_line (k : Nat) (hk : k < 1000) : (lnOf (List.replicate k 32) 10).ok ∧ (lnOf (List.replicate k 32) 10).blank = true := by
  refine ⟨lnOf_ok (by simp; omega), ?_⟩
  show (List.replicate k 32 : List UInt8).all isST = true
  rw [List.all_eq_true]
  intro c hc
  rw [List.mem_replicate] at hc
  rw [hc.2]; decide
/-- The invariant: the paragraphs so far, and what is left. -/
def ParI (k : Nat) (ls : List (List UInt8)) (rem : List (List UInt8 × UInt8)) (D : List DB) (lf : Leaf) : Prop :=
  ∃ pre, DP D (pre.map slashT) ∧ ((lf = .none ∧ ∃ suf, rem = paraLines k suf ∧ pre ++ suf = ls) ∨ (∃ l suf, lf = .para [slashT l] ∧ rem = tailLines k suf ∧ pre ++ l :: suf = ls))
theorem html_paras {k : Nat} {ls : List (List UInt8)} (hk : k < 1000) (hne : ls ≠ []) (hlen : ls.length ≤ 50) (hg : ∀ l ∈ ls, GoodL l) :
    ParsesTo optOff (joinL (paraSep k) (ls.map slashT)) (ls.map fun l => pOpen ++ escS htmlPs l ++ pClose).flatten := by
  have hL := para_linesOf (k := k) hne hg
  have h0 : 0 ∉ joinL (paraSep k) (ls.map slashT) := by
    clear hL hlen
    have : ∀ ls : List (List UInt8), (∀ l ∈ ls, GoodL l) → 0 ∉ joinL (paraSep k) (ls.map slashT) := by
      intro ls hg
      cases ls with
      | nil => simp [joinL]
      | cons l ls =>
        simp only [List.map_cons, joinL, List.mem_append, List.mem_flatMap, List.mem_map, not_or, not_exists, not_and]
        refine ⟨(slash_nl (hg l (by simp))).2.1, ?_⟩
        rintro x ⟨y, hy, rfl⟩
        refine ⟨?_, (slash_nl (hg y (by simp [hy]))).2.1⟩
        intro h; simp [paraSep, List.mem_replicate] at h
    exact this ls hg
  have htl : (joinL (paraSep k) (ls.map slashT)).length < 1000000 := by
    have h1 : ∀ ls : List (List UInt8), (∀ l ∈ ls, GoodL l) → (joinL (paraSep k) (ls.map slashT)).length ≤ ls.length * 2000 := by
      intro ls hg
      have hf : ∀ ls : List (List UInt8), (∀ l ∈ ls, GoodL l) → ((ls.map slashT).flatMap (fun u => paraSep k ++ u)).length ≤ ls.length * 2000 := by
        intro ls
        induction ls with
        | nil => intro _; simp
        | cons l ls ih =>
          intro hg
          have := ih (fun x hx => hg x (List.mem_cons_of_mem _ hx))
          have h1 := slashT_len l
          have h2 := (hg l (by simp)).len
          simp only [List.map_cons, List.flatMap_cons, List.length_append, paraSep, List.length_cons, List.length_nil, List.length_replicate] at this ⊢; omega
      cases ls with
      | nil => simp [joinL]
      | cons l ls =>
        have := hf ls (fun x hx => hg x (List.mem_cons_of_mem _ hx))
        have h1 := slashT_len l
        have h2 := (hg l (by simp)).len
        simp only [List.map_cons, joinL, List.length_append, List.length_cons] at this ⊢; omega
    have := h1 ls hg; omega
  refine parses_doc (F := paraF) hL h0 htl (ParI k ls) ⟨[], .nil, .inl ⟨rfl, ls, rfl, rfl⟩⟩ ?_ ?_
  · rintro l nl rem D lf ⟨pre, hD, ⟨rfl, suf, hrem, hls⟩ | ⟨x, suf, rfl, hrem, hls⟩⟩ σ R L b rb pb p w hop hpz hno h hR
    · cases suf with
      | nil => simp [paraLines] at hrem
      | cons x suf =>
        simp only [paraLines, List.cons.injEq, Prod.mk.injEq] at hrem
        obtain ⟨⟨rfl, _⟩, rfl⟩ := hrem
        have hgx : GoodL x := hg x (by rw [← hls]; simp)
        refine addLine_plain0 h hpz hop (slash_plain hgx) hno fun w p' h1 h2 h3 => ?_
        rw [slash_rest hgx] at h3
        exact hR w p' D _ h1 h2 ⟨pre, hD, .inr ⟨x, suf, rfl, rfl, hls⟩⟩ h3
    · have hgx : GoodL x := hg x (by rw [← hls]; simp)
      have hpl : pre.length ≤ 50 := by have := congrArg List.length hls; simp at this; omega
      have hDl := hD.facts paraF
      unfold tailLines at hrem
      split at hrem
      · cases hrem
      · rename_i hs
        simp only [List.cons.injEq, Prod.mk.injEq] at hrem
        obtain ⟨⟨rfl, rfl⟩, rfl⟩ := hrem
        have hb := blank_line k hk
        refine addLine_blankP h hb.1 hb.2 (slash_fin hgx) (by rw [hDl.1, List.length_map]; omega) (by rw [hDl.2.1, List.length_map]; omega) fun w p' D' h1 h2 h3 h4 => ?_
        obtain ⟨nb, t, s, e, rfl⟩ := h3
        have e1 : joinL [10] [slashT x] = slashT x := by simp [joinL]
        rw [e1] at h4
        refine hR w p' _ .none h1 h2 ⟨pre ++ [x], ?_, .inl ⟨rfl, suf, rfl, by rw [← hls]; simp⟩⟩ h4
        rw [List.map_append]
        exact hD.snoc
  · rintro D lf ⟨pre, hD, ⟨rfl, suf, hrem, hls⟩ | ⟨x, suf, rfl, hrem, hls⟩⟩
    · have hs : suf = [] := by cases suf with | nil => rfl | cons x suf => simp [paraLines] at hrem
      subst hs
      rw [List.append_nil] at hls
      subst hls
      have f := hD.facts paraF
      rw [List.length_map] at f
      refine ⟨trivial, by omega, by omega, ?_⟩
      rintro D' rfl
      refine ⟨_, f.2.2.2, ?_, ?_⟩
      · rw [show (fun (raw l : List UInt8) => paraF raw (l ++ pOpen) ++ pClose) = (fun raw l => ab (escS htmlPs (unsl raw)) (l ++ pOpen) ++ pClose) from rfl, compL_paras]
        simp [unsl_slash, Function.comp_def]
      · intro x hx
        obtain ⟨l, hl, he⟩ := List.mem_map.1 (f.2.2.1 x hx)
        rw [← he]
        have := slash_inline (hg l hl)
        unfold paraF; rw [unsl_slash]; exact this
    · have hs : suf = [] := by
        unfold tailLines at hrem
        split at hrem
        · assumption
        · cases hrem
      subst hs
      have hgx : GoodL x := hg x (by rw [← hls]; simp)
      have f := hD.facts paraF
      have hpl : pre.length ≤ 50 := by have := congrArg List.length hls; simp at this; omega
      rw [List.length_map] at f
      refine ⟨slash_fin hgx, by omega, by omega, ?_⟩
      rintro D' ⟨nb, t, s, e, rfl⟩
      have e1 : joinL [10] [slashT x] = slashT x := by simp [joinL]
      rw [e1]
      have hD2 : DP (D ++ [paraDB nb t s e (slashT x)]) (ls.map slashT) := by
        rw [← hls, List.map_append]; exact hD.snoc
      have f := hD2.facts paraF
      refine ⟨_, f.2.2.2, ?_, ?_⟩
      · rw [show (fun (raw l : List UInt8) => paraF raw (l ++ pOpen) ++ pClose) = (fun raw l => ab (escS htmlPs (unsl raw)) (l ++ pOpen) ++ pClose) from rfl, compL_paras]
        simp [unsl_slash, Function.comp_def]
      · intro y hy
        obtain ⟨l, hl, he⟩ := List.mem_map.1 (f.2.2.1 y hy)
        rw [← he]
        have := slash_inline (hg l hl)
        unfold paraF; rw [unsl_slash]; exact this
theorem goodL_of {s : List UInt8} (h1 : fullM s = true) (h2 : asciiM s false = true) (h3 : s.length ≤ 200) : GoodL s := by
  refine ⟨h1, fun c hc => ?_, h3⟩
  have := (List.all_eq_true.1 h2) c hc
  simpa using this
theorem times_int {s : List UInt8} {n : Int} (hn : n < 1000000) (hs : s.length < 1000000) (hR : R (.returned (.string (bs (List.replicate n.toNat s).flatten))) w) : callE P i_laws_times #[.string (bs s), .int .i64 n] R w := by
  rcases Int.lt_or_le n 0 with h | h
  · refine g_laws_times.sound ?_
    intro X hX
    refine hX _ _ _ _ _ (br_false (by simp; omega) ?_)
    rw [show n.toNat = 0 by omega] at hR
    exact hR
  · obtain ⟨k, rfl⟩ := Int.eq_ofNat_of_zero_le h
    exact times_ok (by omega) hs (by simpa using hR)
theorem rep_flat (k : Nat) : (List.replicate k ([32] : List UInt8)).flatten = List.replicate k 32 := by
  induction k with
  | zero => rfl
  | succ k ih => rw [List.replicate_succ, List.flatten_cons, ih]; rfl
theorem fnParagraphs_ok {q : Option Addr} {n c : Nat} {ls : List (List UInt8)} {m : Int} (hA : SArg σ L q n ls) (h : Sat σ w L) (hR : ∀ w, Sat σ w L → R (.returned (.bool true)) w) : callE P i_laws_FnParagraphs #[.slice q n c, .int .u8 m] R w := by
  have hnl := hA.1
  have hmax : IntKind.i64.max = 9223372036854775807 := rfl
  refine g_laws_FnParagraphs.sound ?_
  refine fits2_ok hA h (fun hfit => ⟨_, rfl, br_false rfl ?_⟩) ⟨_, rfl, br_true rfl (hR w h)⟩
  refine br_split (fun _ => hR w h) (fun hsz => ?_)
  simp only [Bool.or_eq_false_iff, decide_eq_false_iff_not, beq_eq_false_iff_ne, ne_eq] at hsz
  intro X hX
  let outO := fun (ls : List (List UInt8)) => (ls.map fun l => pOpen ++ escS htmlPs l ++ pClose).flatten
  have key : ∀ k i w tq tc TM, i + k = n → (∀ j (hj : j < ls.length), j < i → GoodL ls[j]) → Sl 1 ty_string tq i tc (sv ((ls.take i).map slashT)) TM → Sat σ w (TM ++ L) →
      X m tq i tc (bs (outO (ls.take i))) q n c (n : Nat) (i : Int) w := by
    intro k
    induction k with
    | zero =>
      intro i w tq tc TM hi hg hS h
      obtain rfl : i = n := by omega
      refine hX _ _ _ _ _ _ _ _ _ _ _ (br_false (by simp) ?_)
      rw [List.take_of_length_le (by omega)] at hS ⊢
      have hgl : ∀ l ∈ ls, GoodL l := by
        intro l hl
        obtain ⟨j, hj, rfl⟩ := List.mem_iff_getElem.1 hl
        exact hg j hj (by omega)
      refine plainOpt_ok h fun w h => ⟨_, _, _, _, _, _, _, _, _, _, rfl, by decide, ?_⟩
      have hk4 : (Int.tmod m 4).toNat < 4 := by
        have := Int.tmod_lt_of_pos m (show (0 : Int) < 4 by decide); omega
      have hk5 : -4 < Int.tmod m 4 := by
        have h1 : (Int.tmod m 4).natAbs = m.natAbs % 4 := Int.natAbs_tmod m 4
        omega
      have hk6 : Int.tmod m 4 < 4 := Int.tmod_lt_of_pos m (by decide)
      rw [i64_in _ (by omega)]
      refine times_int (s := [32]) (by omega) (by decide) ⟨_, rfl, ?_⟩
      rw [rep_flat]
      generalize (Int.tmod m 4).toNat = kk at hk4
      rw [show ByteArray.mk #[10] = bs [10] from rfl, bs_append, bs_append]
      refine ⟨by rw [hmax, bs_size, bs_size]; simp; omega, by rw [hmax, bs_size, bs_size]; simp; omega, ?_⟩
      have hSA : SArg σ (TM ++ L) tq i (ls.map slashT) := SArg.ofSl hS (fun c hc => List.mem_append_left _ hc)
      have hjl : (joinL (paraSep kk) (ls.map slashT)).length < 1000000000 := by
        have hf : ∀ ls : List (List UInt8), (∀ l ∈ ls, GoodL l) → ((ls.map slashT).flatMap (fun u => paraSep kk ++ u)).length ≤ ls.length * 2000 := by
          intro ls
          induction ls with
          | nil => intro _; simp
          | cons l ls ih =>
            intro hg
            have := ih (fun x hx => hg x (List.mem_cons_of_mem _ hx))
            have h1 := slashT_len l
            have h2 := (hg l (by simp)).len
            simp only [List.map_cons, List.flatMap_cons, List.length_append, paraSep, List.length_cons, List.length_nil, List.length_replicate] at this ⊢; omega
        cases hls : ls with
        | nil => simp [joinL]
        | cons l ls' =>
          have := hf ls' (fun x hx => hgl x (by rw [hls]; exact List.mem_cons_of_mem _ hx))
          have h1 := slashT_len l
          have h2 := (hgl l (by rw [hls]; simp)).len
          have h3 : ls'.length ≤ 50 := by have := congrArg List.length hls; simp at this; omega
          simp only [List.map_cons, joinL, List.length_append, List.length_cons] at this ⊢; omega
      have hesep : [10] ++ List.replicate kk 32 ++ [10] = paraSep kk := rfl
      rw [hesep]
      refine joined_ok hSA h (by omega) hjl (by simp [paraSep]; omega) fun w h => ⟨_, rfl, ?_⟩
      have hP := html_paras (k := kk) (by omega) (by intro h0; rw [h0] at hnl; simp at hnl; omega) (by omega) hgl
      have hout : (outO ls).length ≤ 549755813888 := by
        have hf : ∀ ls : List (List UInt8), (∀ l ∈ ls, GoodL l) → (outO ls).length ≤ ls.length * 2000 := by
          intro ls
          induction ls with
          | nil => intro _; simp [outO]
          | cons l ls ih =>
            intro hg
            have := ih (fun x hx => hg x (List.mem_cons_of_mem _ hx))
            have h1 := escS_length (ps := htmlPs) (by decide) l
            have h2 := (hg l (by simp)).len
            simp only [outO, List.map_cons, List.flatten_cons, List.length_append, List.length_cons, show pOpen.length = 3 from rfl, show pClose.length = 5 from rfl] at this ⊢; omega
        have := hf ls hgl; omega
      show callE P i_impl_HTML #[optV optOff, .string (bs (joinL (paraSep kk) (ls.map slashT)))] _ w
      refine html_ok hP hout h fun w h => ⟨_, rfl, ?_⟩
      rw [beq_self_eq_true]
      exact hR w h.right
    | succ k ih =>
      intro i w tq tc TM hi hg hS h
      have hil : i < ls.length := by omega
      obtain ⟨a, rfl, ha⟩ := hA.2 i hil
      have hls := hfit ls[i] (List.getElem_mem hil)
      refine hX _ _ _ _ _ _ _ _ _ _ _ (br_true (by simp; omega) ⟨by omega, by omega, nilP_some ?_⟩)
      rw [Int.toNat_natCast, Nat.mul_one]
      refine ⟨_, ha w h.right, ?_⟩
      refine full_ok (by omega) ⟨_, rfl, br_split (fun _ => hR w h.right) (fun hf => ?_)⟩
      refine ascii_ok (by omega) ⟨_, rfl, br_split (fun _ => hR w h.right) (fun has => ?_)⟩
      simp only [Bool.or_eq_false_iff, Bool.not_eq_false', decide_eq_false_iff_not, bs_size] at hf has
      have hgi : GoodL ls[i] := goodL_of hf has.1 (by have := has.2; omega)
      have hl2 := hgi.len
      refine slashed_ok (by omega) h fun w h => ⟨_, rfl, ?_⟩
      refine Sat.app1 rowStr hS h (v := .string (bs (slashT ls[i]))) rfl (by simp [Value.cells, Value.oneCell']) (by kernel_rfl) (by omega) (by omega) (by decide) fun tq' tc' w TM' hS' h => ?_
      refine escHTML_ok (by omega) ⟨_, rfl, ?_⟩
      have he := escS_length (ps := htmlPs) (by decide) ls[i]
      have hst : outO (ls.take (i + 1)) = outO (ls.take i) ++ (pOpen ++ escS htmlPs ls[i] ++ pClose) := by
        rw [List.take_succ_eq_append_getElem hil]; simp only [outO, List.map_append, List.flatten_append, List.map_cons, List.map_nil, List.flatten_cons, List.flatten_nil, List.append_nil]
      have hol : (outO (ls.take i)).length ≤ i * 2000 := by
        have hf : ∀ ls : List (List UInt8), (∀ l ∈ ls, GoodL l) → (outO ls).length ≤ ls.length * 2000 := by
          intro ls
          induction ls with
          | nil => intro _; simp [outO]
          | cons l ls ih =>
            intro hg
            have := ih (fun x hx => hg x (List.mem_cons_of_mem _ hx))
            have h1 := escS_length (ps := htmlPs) (by decide) l
            have h2 := (hg l (by simp)).len
            simp only [outO, List.map_cons, List.flatten_cons, List.length_append, List.length_cons, show pOpen.length = 3 from rfl, show pClose.length = 5 from rfl] at this ⊢; omega
        have := hf (ls.take i) (by
          intro l hl
          obtain ⟨j, hj, rfl⟩ := List.mem_iff_getElem.1 hl
          rw [List.length_take] at hj
          rw [List.getElem_take]
          exact hg j (by omega) (by omega))
        rw [List.length_take, Nat.min_eq_left (by omega)] at this
        exact this
      rw [show ByteArray.mk #[60, 112, 62] = bs pOpen from rfl, show ByteArray.mk #[60, 47, 112, 62, 10] = bs pClose from rfl, bs_append, bs_append, bs_append, ← hst]
      have hpo : pOpen.length = 3 := rfl
      have hpc : pClose.length = 5 := rfl
      refine ⟨?_, ?_, ?_, ?_⟩
      · rw [hmax, bs_size, bs_size]; omega
      · rw [hmax, bs_size, bs_size, List.length_append]; omega
      · rw [hmax, bs_size, bs_size, List.length_append, List.length_append]; omega
      · rw [i64_inc (by omega)]
        refine ih (i + 1) w tq' tc' TM' (by omega) ?_ ?_ h
        · intro j hj hji
          rcases Nat.lt_or_ge j i with h1 | h1
          · exact hg j hj h1
          · obtain rfl : j = i := by omega
            exact hgi
        · have e : sv ((ls.take (i + 1)).map slashT) = sv ((ls.take i).map slashT) ++ (Value.string (bs (slashT ls[i]))).cells.toList := by
            unfold sv; rw [List.take_succ_eq_append_getElem hil, List.map_append, List.map_append]; rfl
          rw [e]; exact hS'
  exact key n 0 w none 0 [] (by omega) (fun j hj h0 => by omega) (by simpa [sv] using Sl.nil 1 ty_string) h
end Go.Proofs.YtmicoampfglaiaaGreatDoor

/- Slices of texts among the arguments: opened, and read again at the end. -/
set_option linter.unusedVariables false
set_option linter.constructorNameAsVariable false
namespace Go.Proofs.YtmicoampfglaiaaGreatDoor
open Go.Proofs Go.ChangeShapes Go.WideShapes
theorem heap_of_sat {W W' : World} (h : Sat (outOf W) W' (allBlocks W)) {b : Nat} (hb : b < W.heap.size) : W'.heap[b]? = W.heap[b]? := by
  have hm : (b, W.heap[b]) ∈ allBlocks W := List.mem_map.2 ⟨(W.heap[b], b), List.mem_zipIdx_iff_getElem?.2 (by simp [hb]), rfl⟩
  rw [h.at_ _ hm, Array.getElem?_eq_getElem hb]
theorem same_of_sat {W W' : World} (h : Sat (outOf W) W' (allBlocks W)) {p : MemPlace} (hp : p.block < W.heap.size) : W.sameAt W' p := by
  cases p with
  | cell b o => exact World.cell?_of_block (w := W) (heap_of_sat h hp)
  | map b => exact heap_of_sat h hp
theorem cell_of_sat {W W' : World} (h : Sat (outOf W) W' (allBlocks W)) {a : Addr} {v : Value} (hc : W.cell? a = some v) : W'.cell? a = some v := by
  have hb : a.block < W.heap.size := by
    rcases Nat.lt_or_ge a.block W.heap.size with hlt | hge
    · exact hlt
    · have : W.heap[a.block]? = none := Array.getElem?_eq_none hge
      unfold World.cell? at hc
      rw [this] at hc; cases hc
  rw [← hc]
  unfold World.cell?
  rw [heap_of_sat h hb]
theorem open_sarg {P : Program} {H : Type} {enc : TypeId × Value → H} {W : World} {r : Reach} {b0 : Nat} {t e : TypeId} {v : Value} {d : DataW H} {ps : List MemPlace} (ht : P.underlying t = some (.slice e)) (he : P.underlying e = some .string) (hc : P.cellsOf e = 1)
    (hval : Value.okWide P W r b0 t v) (h : DataW.Trod enc P W 0 (fun _ => true) true t v d ps) : ∃ q n c ls, v = .slice q n c ∧ SArg (outOf W) (allBlocks W) q n ls := by
  obtain ⟨a0, len, cap, rfl⟩ := okWide_slice ht hval
  obtain ⟨fuel, hf⟩ := h
  rcases open_strings ht he hc hf with ⟨hcs, hx⟩ | ⟨a, len', cap', ss, hcs, _, hl, hm, hz, hx, hcell, hws⟩
  · simp [Value.cells] at hcs
    obtain ⟨rfl, rfl, rfl⟩ := hcs
    exact ⟨none, 0, 0, [], rfl, ⟨rfl, fun i hi => by simp at hi⟩⟩
  · simp [Value.cells] at hcs
    obtain ⟨rfl, rfl, rfl⟩ := hcs
    simp only [if_true] at hz
    refine ⟨some a, len, cap, (ss.take len).map fun b => b.data.toList, rfl, ⟨by simp; omega, fun i hi => ?_⟩⟩
    simp only [List.length_map, List.length_take] at hi
    refine ⟨a, rfl, fun w hw => ?_⟩
    have h1 := cell_of_sat hw (hcell i (by omega))
    rw [h1]
    congr 2
    rw [List.getElem_map, List.getElem_take, ← bs_of]
    rw [List.getD_eq_getElem?_getD, List.getElem?_eq_getElem (by omega)]; rfl
end Go.Proofs.YtmicoampfglaiaaGreatDoor
