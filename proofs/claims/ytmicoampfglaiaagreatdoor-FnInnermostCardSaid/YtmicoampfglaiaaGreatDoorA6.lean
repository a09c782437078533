/- Part 6 of the proof of the law FnInnermost: for every input the law returns true, the inputs read as they did, and memory that was there is as it was; under the conditions of the given row alone. -/
import Derived.Laws.IdiomStrings
import Derived.Test.YtmicoampfglaiaaGreatDoorA5
set_option linter.all false
/- emph: the loop over the source. -/
set_option linter.unusedVariables false
namespace Go.Proofs.YtmicoampfglaiaaGreatDoor
open Go.Proofs Go.IntWalk Go.RowKit
variable {σ : Out} {w : World} {L L' : List Chunk} {R : Ending → World → Prop}
theorem app_step {b1 b3 off b : Nat} {t : TypeId} {dq sq : Option Addr} {dc sn sc : Nat} {dvs rvs : List Value} {S : List STK} {SM DM SR RS : List Chunk} (hD : DRow dq dc dvs rvs (off + 1) sq sn sc SR RS) (hlen : dvs.length ≤ off) (hn : dvs.length < 1000000000)
    (h : Sat σ w (stkC b3 S :: (b1, cel [.slice dq dvs.length dc] ty_S_Inline) :: (SM ++ (DM ++ (RS ++ L))))) {C : World → Prop} (hC : ∀ w1 X, Sat σ w1 (X :: (stkC b3 S :: (b1, cel [.slice dq dvs.length dc] ty_S_Inline) :: (SM ++ (DM ++ (RS ++ L))))) → C w1) {K : World → Prop}
    (hK : ∀ w dq' dc' RS', DRow dq' dc' (dvs ++ [ptrV t b]) rvs (off + 1) sq sn sc SR RS' → Sat σ w (stkC b3 S :: (b1, cel [.slice dq' (dvs.length + 1) dc'] ty_S_Inline) :: (SM ++ (DM ++ (RS' ++ L)))) → K w) :
    ∃ rq rn rc w1, (Instr.buildSlice ty_S_Inline 1 #[(0, ptrV t b)]).run P w = .ok (.slice rq rn rc) w1 ∧ C w1 ∧
      ∃ q' n' c' w2, (Builtin.append_ #[ty_S_Inline, ty_S_Inline] ty_S_Inline #[.slice dq dvs.length dc, .slice rq rn rc]).run P w1 = .ok (.slice q' n' c') w2 ∧ stV w2 ⟨b1, 0, none⟩ (.slice q' n' c') K := by
  have hr : Sat σ w (RS ++ (stkC b3 S :: (b1, cel [.slice dq dvs.length dc] ty_S_Inline) :: (SM ++ (DM ++ L)))) := h.re (by intro _; simp only [List.append_eq, cnt_append, cnt_cons, cnt_nil] <;> omega)
  refine hD.app (ty := ty_S_Inline) hr (by omega) hn (C := C) (fun w1 X hw => hC w1 X (hw.re (by intro _; simp only [List.append_eq, cnt_append, cnt_cons, cnt_nil] <;> omega))) (K := fun q' n' c' w2 => stV w2 ⟨b1, 0, none⟩ (.slice q' n' c') K) fun dq' dc' RS' w' hD' h => ?_
  have h : Sat σ w' (stkC b3 S :: (b1, cel [.slice dq dvs.length dc] ty_S_Inline) :: (SM ++ (DM ++ (RS' ++ L)))) := h.re (by intro _; simp only [List.append_eq, cnt_append, cnt_cons, cnt_nil] <;> omega)
  refine Sat.st h (k := 1) rfl (Nat.zero_lt_succ _) trivial rfl fun w h => ?_
  exact hK w dq' dc' RS' hD' h
theorem nilP_of {q : Option Addr} {a : Addr} {K : Addr → Prop} (h : q = some a) (hK : K a) : nilP q K := by subst h; exact hK
theorem noC {A : Option Addr → Nat → Nat → World → Prop} {B : Option Addr → Nat → Nat → World → Prop} (h : ∃ rq rn rc w1, A rq rn rc w1 ∧ True ∧ B rq rn rc w1) : ∃ rq rn rc w1, A rq rn rc w1 ∧ B rq rn rc w1 := by
  obtain ⟨a, b, c, d, h1, _, h2⟩ := h
  exact ⟨a, b, c, d, h1, h2⟩
theorem emph_loop {Xa : XA} {b1 b3 : Nat} {sq : Option Addr} {sn sc : Nat} {SR : List Chunk} (hXa : ∀ x10 w, g_parseState_emph.bl1 R Xa sq sn sc b1 b3 cl1 (cl2 b3 b1) x10 w → Xa sq sn sc b1 b3 cl1 (cl2 b3 b1) x10 w) (hsn : sn < 999999990) (final : List Inl)
    (hR : ∀ w dq dc dvs DM RS, InlsAt final dvs DM → DRow dq dc dvs [] sn sq sn sc SR RS → dvs.length ≤ sn → Sat σ w (DM ++ (RS ++ L)) → R (.returned (.slice dq dvs.length dc)) w) :
    ∀ (rts dst : List Inl) (S : List STK) (off : Nat) (hd : Option UInt8) (w : World), EM0 σ b1 b3 dst rts S off sq sn sc SR L w → off + rts.length = sn → dst.length ≤ off → wfE rts → apartE hd rts → (∀ c, isEm c → hd ≠ some c → Late c dst S) →
      emphGo dst (idxs S) rts = final → Xa sq sn sc b1 b3 cl1 (cl2 b3 b1) (off : Int) w := by
  intro rts
  induction rts with
  | nil =>
    intro dst S off hd w h hoff hle hwf hap hlate hfin
    obtain ⟨dq, dc, dvs, rvs, DM, SM, RS, RM, hI, hSt, h5, hSI, hD, hdl, hrt, h⟩ := h
    obtain ⟨rfl, rfl⟩ := hrt
    have hvl := hI.length
    simp at hoff
    subst hoff
    refine hXa _ _ (br_false (by simp) ?_)
    refine ⟨_, _, _, Sat.ld h (.tail _ (.head _)) rfl, ?_⟩
    simp only [emphGo] at hfin
    simp only [List.nil_append] at h
    refine hR w dq dc dvs DM RS (by rw [← hfin]; exact hI) hD (by omega) ?_
    exact h.less (stkC b3 S :: (b1, cel [.slice dq dvs.length dc] ty_S_Inline) :: SM) (by intro _; simp only [List.append_eq, cnt_append, cnt_cons, cnt_nil] <;> omega)
  | cons t rts ih =>
    intro dst S off hd w h hoff hle hwf hap hlate hfin
    obtain ⟨dq, dc, dvs, rvs, DM, SM, RS, RM, hI, hSt, h5, hSI, hD, hdl, hrt, h⟩ := h
    obtain ⟨v, rvs', M1, M2, rfl, rfl, hv, hrest⟩ := hrt
    have hvl := hI.length
    simp at hoff
    have hread : ∀ w, Sat σ w (stkC b3 S :: (b1, cel [.slice dq dvs.length dc] ty_S_Inline) :: (SM ++ (DM ++ (RS ++ ((M1 ++ M2) ++ L))))) → ∃ rb so, sq = some ⟨rb, so, none⟩ ∧ w.cell? ⟨rb, so + off, none⟩ = some v := by
      intro w h
      have h : Sat σ w (RS ++ (stkC b3 S :: (b1, cel [.slice dq dvs.length dc] ty_S_Inline) :: (SM ++ (DM ++ ((M1 ++ M2) ++ L))))) := h.re (by intro _; simp only [List.append_eq, cnt_append, cnt_cons, cnt_nil] <;> omega)
      exact hD.read h
    have hDc := hD.consume
    have hwf' : wfE rts := fun s co cc i n hm => hwf s co cc i n (.tail _ hm)
    have e1 : IntKind.i64.wrap ((off : Int) + 1) = ((off + 1 : Nat) : Int) := i64_inc (by omega)
    have hlt := hSI.lt
    -- an element that is appended; then the next one
    have next : ∀ w (t' : Inl) (ty : TypeId) (b : Nat) (M1' : List Chunk), InlAt t' (ptrV ty b) M1' → emphGo (dst ++ [t']) (idxs S) rts = final → ∀ dq' dc' RS', DRow dq' dc' (dvs ++ [ptrV ty b]) rvs' (off + 1) sq sn sc SR RS' →
        Sat σ w (stkC b3 S :: (b1, cel [.slice dq' (dvs.length + 1) dc'] ty_S_Inline) :: (SM ++ (DM ++ (RS' ++ (M1' ++ (M2 ++ L)))))) → Xa sq sn sc b1 b3 cl1 (cl2 b3 b1) ((off + 1 : Nat) : Int) w := by
      intro w t' ty b M1' hI1 hgo dq' dc' RS' hD' h
      refine ih (dst ++ [t']) S (off + 1) (headOf t) w ⟨dq', dc', _, rvs', DM ++ M1', SM, RS', M2, hI.append (InlsAt.one hI1), hSt, h5, hSI.grow, hD', by simp; omega, hrest, ?_⟩ (by omega) (by simp; omega) hwf' hap.2 ?_ hgo
      · rw [List.length_append, List.length_singleton]; exact h.re (by intro _; simp only [List.append_eq, cnt_append, cnt_cons, cnt_nil] <;> omega)
      · intro c _ _ s hs e he
        have := hlt s (List.mem_of_getElem? hs) e he
        simp; omega
    obtain ⟨pb, cs, ce, M1', rfl, hM1⟩ := hv.ptr
    refine hXa _ _ (br_true (by simp; omega) ⟨by omega, by omega, ?_⟩)
    obtain ⟨rb, so, hsq, hcell⟩ := hread w h
    refine nilP_of hsq ?_
    simp only [Addr.add_lit, Int.toNat_natCast, Nat.mul_one]
    refine ⟨_, hcell, ?_⟩
    by_cases hto : t.ty = ty_P_openPlain
    · -- an open bracket becomes plain
      obtain ⟨s, i, rfl⟩ : ∃ s i, t = .openP s i := by
        cases t <;> simp only [Inl.ty] at hto <;> first | exact ⟨_, _, rfl⟩ | exact absurd hto (by decide)
      have hta : (Instr.typeAssert (ptrV (Inl.openP s i).ty pb) ty_Inline ty_P_openPlain true).run P w = .ok (.tuple #[.pointer (some ⟨pb, 0, none⟩), .bool true]) w := ta_open_yes w
      refine ⟨_, _, w, hta, br_true rfl ?_⟩
      refine Sat.tk h fun w h => ?_
      refine nilP_some ⟨_, _, _, Sat.ld h (.tail _ (.head _)) rfl, ?_⟩
      have h0 := h
      refine app_step hDc (by omega) (by omega) h (C := fun w1 => SameC _ w1 _ 1) (fun w1 X hw => h0.same hw (.tail _ (.head _)) (.tail _ (.tail _ (.head _))) 1) fun w dq' dc' RS' hD' h => ?_
      rw [e1]
      refine next w (.plain s) ty_P_Plain pb M1 ?_ (by rw [← hfin, emphGo]) dq' dc' RS' hD' (h.re (by intro _; simp only [List.append_eq, cnt_append, cnt_cons, cnt_nil] <;> omega))
      obtain ⟨b', e', hb', rfl⟩ := hv
      have := ptrV_inj hb'
      subst this
      exact ⟨pb, _, _, rfl, rfl⟩
    · refine ⟨_, _, w, ta_open_no hto w, br_false rfl ⟨by omega, by omega, ?_⟩⟩
      refine nilP_of hsq ?_
      simp only [Addr.add_lit, Int.toNat_natCast, Nat.mul_one]
      refine ⟨_, hcell, ?_⟩
      by_cases hte : t.ty = ty_P_emphPlain
      · -- a run of delimiters
        obtain ⟨s, co, cc, i, n, rfl⟩ : ∃ s co cc i n, t = .emphP s co cc i n := by
          cases t <;> simp only [Inl.ty] at hte <;> first | exact ⟨_, _, _, _, _, rfl⟩ | exact absurd hte (by decide)
        obtain ⟨b', pe, hb', rfl⟩ := hv
        have := ptrV_inj hb'
        subst this
        obtain ⟨hs0, ⟨c, hc, hall⟩, hsl, hn0, hn1⟩ := hwf s co cc i n (.head _)
        have htc := hall.head hs0
        have hhd : headOf (.emphP s co cc i n) = some c := htc
        have hhd' : hd ≠ some c := by
          rcases hap.1 with h | h
          · rw [h]; simp
          · rw [hhd] at h; exact fun hh => h hh.symm
        have hix : ixOf (s.headD 0) = ixOf c := by rw [List.headD_eq_head?_getD, htc]; rfl
        have hix5 : ixOf c < 5 := by rcases hc with rfl | rfl <;> decide
        have hEM : ∀ w, Sat σ w (stkC b3 S :: (b1, cel [.slice dq dvs.length dc] ty_S_Inline) :: (SM ++ (DM ++ (RS ++ (([emC pb s co cc i n pe] ++ M2) ++ L))))) → EM σ b1 b3 pb s co cc i n pe dst S rvs' (off + 1) sq sn sc SR (M2 ++ L) w := fun w h =>
          ⟨dq, dc, dvs, DM, SM, RS, hI, hSt, h5, hSI, hDc, by omega, h.re (by intro _; simp only [List.append_eq, cnt_append, cnt_cons, cnt_nil] <;> omega)⟩
        have hta : (Instr.typeAssert (ptrV (Inl.emphP s co cc i n).ty pb) ty_Inline ty_P_emphPlain true).run P w = .ok (.tuple #[.pointer (some ⟨pb, 0, none⟩), .bool true]) w := ta_emph_yes w
        refine ⟨_, _, w, hta, br_false rfl (nilP_some ?_)⟩
        -- what is done with what is left of the run
        have fin : ∀ (t' : List UInt8) (dst' : List Inl) (S' : List STK) w, AllC c t' → t'.length ≤ s.length → EM σ b1 b3 pb t' co cc i n pe dst' S' rvs' (off + 1) sq sn sc SR (M2 ++ L) w → dst'.length ≤ off →
            (t' = [] → ∀ s ∈ S', ∀ e ∈ s.ent, e.2 + 1 < dst'.length) →
            (if t' = [] then emphGo dst' (idxs S') rts else if co then emphGo (dst' ++ [.emphP t' co cc dst'.length n]) ((idxs S').set (ixOf c) ((idxs S').getD (ixOf c) [] ++ [dst'.length])) rts else emphGo (dst' ++ [.plain t']) (idxs S') rts) = final →
            g_parseState_emph.k1 R Xa sq sn sc b1 b3 cl1 (cl2 b3 b1) off (some ⟨pb, 0, none⟩) w := by
          intro t' dst' S' w hall' htl' h hd' hnil hgo
          obtain ⟨dq, dc, dvs, DM, SM, RS, hI, hSt, h5, hSI, hDc, hdl, h⟩ := h
          have hvl := hI.length
          have hlt := hSI.lt
          refine nilP_some ⟨_, Sat.ld h (.head _) rfl, ?_⟩
          rw [bs_nil_eq]
          by_cases ht' : t' = []
          · subst ht'
            rw [if_pos rfl] at hgo
            refine br_false (by simp) ?_
            rw [e1]
            refine ih dst' S' (off + 1) (some c) w ⟨dq, dc, dvs, rvs', DM, SM, RS, M2, hI, hSt, h5, hSI, hDc, by omega, hrest, ?_⟩ (by omega) (by omega) hwf' (by have := hap.2; rw [hhd] at this; exact this) ?_ hgo
            · exact (h.tail).re (by intro _; simp only [List.append_eq, cnt_append, cnt_cons, cnt_nil] <;> omega)
            · intro c' _ _ s' hs' e he
              exact hnil rfl s' (List.mem_of_getElem? hs') e he
          · rw [if_neg ht'] at hgo
            refine br_true (by simpa using ht') (nilP_some ⟨_, Sat.ld h (.head _) rfl, by omega, head_pos (hall'.head ht'), ?_⟩)
            rw [bt0 (hall'.head ht')]
            refine enter_fn ?_
            refine em1_ok hc ⟨_, rfl, by omega, by omega, nilP_some ⟨_, Sat.ld h (.head _) rfl, ?_⟩⟩
            have hno : ∀ (d : UInt8), c ≠ d → ((bs t').toList == (ByteArray.mk #[d]).toList) = false := by
              intro d hd
              rw [bs_toList, mk_toList, beq_eq_false_iff_ne]
              intro h0
              have : t' = [d] := h0
              subst this
              exact hd (hall' d (by simp)).symm
            refine br_false (hno 39 (by rcases hc with rfl | rfl <;> decide)) ?_
            refine nilP_some ⟨_, Sat.ld h (.head _) rfl, br_false (hno 34 (by rcases hc with rfl | rfl <;> decide)) ?_⟩
            simp only [Addr.add_lit, Int.toNat_natCast, Nat.mul_one, Nat.zero_add]
            refine nilP_some ⟨co, Sat.ld h (.head _) rfl, ?_⟩
            cases hco : co with
            | true =>
              rw [hco] at h hgo
              rw [if_pos rfl] at hgo
              refine br_true rfl ⟨_, _, _, Sat.ld h (.tail _ (.tail _ (.head _))) rfl, nilP_some ?_⟩
              refine Sat.st h (k := 0) rfl (Nat.le_of_ble_eq_true rfl) trivial rfl fun w h => ?_
              have h : Sat σ w (emC pb t' true cc (dvs.length : Nat) n pe :: stkC b3 S' :: (b1, cel [.slice dq dvs.length dc] ty_S_Inline) :: (SM ++ (DM ++ (RS ++ (M2 ++ L))))) := h
              refine ⟨_, _, _, Sat.ld h (.tail _ (.tail _ (.head _))) rfl, ?_⟩
              have h : Sat σ w (stkC b3 S' :: (b1, cel [.slice dq dvs.length dc] ty_S_Inline) :: (SM ++ (DM ++ (RS ++ (emC pb t' true cc (dvs.length : Nat) n pe :: (M2 ++ L)))))) := h.re (by intro _; simp only [List.append_eq, cnt_append, cnt_cons, cnt_nil] <;> omega)
              refine noC (app_step (t := ty_P_emphPlain) (b := pb) hDc (by omega) (by omega) h (C := fun _ => True) (fun _ _ _ => trivial) fun w dq' dc' RS' hD' h => ?_)
              have hsx : S'[ixOf c]? = some S'[ixOf c] := List.getElem?_eq_getElem (by omega)
              generalize S'[ixOf c] = sx at hsx
              have hSIx := hSI sx (List.mem_of_getElem? hsx)
              have h : Sat σ w (stkC b3 S' :: (SM ++ ((b1, cel [.slice dq' (dvs.length + 1) dc'] ty_S_Inline) :: (DM ++ (RS' ++ (emC pb t' true cc (dvs.length : Nat) n pe :: (M2 ++ L))))))) := h.re (by intro _; simp only [List.append_eq, cnt_append, cnt_cons, cnt_nil] <;> omega)
              have hentl : sx.ent.length < 999999999 := by
                -- the places grow and lie below the output's length
                have : ∀ (es : List (Nat × Nat)) (k : Nat), es.Pairwise (fun a b => a.2 < b.2) → (∀ e ∈ es, k ≤ e.2 ∧ e.2 < dst'.length) → k ≤ dst'.length → k + es.length ≤ dst'.length := by
                  intro es
                  induction es with
                  | nil => intro k _ _ hk; simpa using hk
                  | cons e es ihe =>
                    intro k hp hb hk
                    rw [List.pairwise_cons] at hp
                    have h1 := hb e (.head _)
                    have := ihe (e.2 + 1) hp.2 (fun x hx => ⟨hp.1 x hx, (hb x (.tail _ hx)).2⟩) (by omega)
                    simp; omega
                have := this sx.ent 0 hSIx.2.1 (fun e he => ⟨Nat.zero_le _, hlt sx (List.mem_of_getElem? hsx) e he⟩) (Nat.zero_le _)
                omega
              refine stk_app (m := dvs.length) (pb := pb) h5 hsx hSt hentl h fun w s' SM' hs' hSt' h => ?_
              rw [e1]
              have hidx : (idxs S').set (ixOf c) ((idxs S').getD (ixOf c) [] ++ [dst'.length]) = idxs (S'.set (ixOf c) s') := by
                rw [idxs_get hsx, idxs, idxs, List.map_set, hs', List.map_append, hvl]; rfl
              rw [hidx] at hgo
              refine ih _ (S'.set (ixOf c) s') (off + 1) (some c) w ⟨dq', dc', dvs ++ [ptrV ty_P_emphPlain pb], rvs', DM ++ [emC pb t' true cc (dvs.length : Nat) n pe], SM', RS', M2, hI.append (InlsAt.one (t := .emphP t' true cc (dvs.length : Nat) n) ⟨pb, pe, rfl, rfl⟩), hSt', by rw [List.length_set]; exact h5, ?_, hD', by simp; omega, hrest, ?_⟩ (by omega) (by simp; omega) hwf' (by have := hap.2; rw [hhd] at this; exact this) ?_ (by rw [← hgo, hvl])
              · intro s2 hs2
                rcases List.mem_or_eq_of_mem_set hs2 with hs2 | hs2
                · exact hSI.grow s2 hs2
                · subst hs2
                  rw [hs']
                  refine ⟨by simp; omega, ?_, ?_⟩
                  · rw [List.pairwise_append]
                    refine ⟨hSIx.2.1, by simp, fun a ha b hb => ?_⟩
                    simp at hb; subst hb
                    have := hlt sx (List.mem_of_getElem? hsx) a ha
                    show a.2 < dvs.length
                    omega
                  · intro e he
                    rcases List.mem_append.1 he with he | he
                    · obtain ⟨g1, g2, g3, g4, g5, g6, g7⟩ := hSIx.2.2 e he
                      exact ⟨g1, g2, g3, g4, by rw [List.getElem?_append_left (List.getElem?_eq_some_iff.1 g5).1]; exact g5, by rw [List.getElem?_append_left (List.getElem?_eq_some_iff.1 g6).1]; exact g6, g7⟩
                    · simp at he; subst he
                      exact ⟨t', true, cc, n, by show (dst' ++ _)[dvs.length]? = _; rw [hvl, List.getElem?_append_right (Nat.le_refl _)]; simp, by show (dvs ++ _)[dvs.length]? = _; simp, hn0, hn1, ht', by omega⟩
              · rw [List.length_append, List.length_singleton]; exact h.re (by intro _; simp only [List.append_eq, cnt_append, cnt_cons, cnt_nil] <;> omega)
              · intro c' hc' hne s2 hs2 e he
                have hne2 : ixOf c' ≠ ixOf c := by
                  intro h0
                  apply hne
                  rcases hc with rfl | rfl <;> rcases hc' with rfl | rfl <;> first | rfl | exact absurd h0 (by decide)
                rw [List.getElem?_set_ne (fun h => hne2 h.symm)] at hs2
                have := hlt s2 (List.mem_of_getElem? hs2) e he
                simp; omega
            | false =>
              rw [hco] at h hgo
              rw [if_neg (by simp)] at hgo
              refine br_false rfl ?_
              refine Sat.tk h fun w h => ?_
              refine nilP_some ⟨_, _, _, Sat.ld h (.tail _ (.tail _ (.head _))) rfl, ?_⟩
              have h : Sat σ w (stkC b3 S' :: (b1, cel [.slice dq dvs.length dc] ty_S_Inline) :: (SM ++ (DM ++ (RS ++ (emC pb t' false cc i n pe :: (M2 ++ L)))))) := h.re (by intro _; simp only [List.append_eq, cnt_append, cnt_cons, cnt_nil] <;> omega)
              have h0 := h
              refine app_step (t := ty_P_Plain) (b := pb) hDc (by omega) (by omega) h (C := fun w1 => SameC _ w1 _ 1) (fun w1 X hw => h0.same hw (.tail _ (.head _)) (.tail _ (.tail _ (.head _))) 1) fun w dq' dc' RS' hD' h => ?_
              rw [e1]
              refine ih (dst' ++ [.plain t']) S' (off + 1) (some c) w ⟨dq', dc', dvs ++ [ptrV ty_P_Plain pb], rvs', DM ++ [emC pb t' false cc i n pe], SM, RS', M2, hI.append (InlsAt.one (t := .plain t') ⟨pb, _, pe, rfl, rfl⟩), hSt, h5, hSI.grow, hD', by simp; omega, hrest, ?_⟩ (by omega) (by simp; omega) hwf' (by have := hap.2; rw [hhd] at this; exact this) ?_ hgo
              · rw [List.length_append, List.length_singleton]; exact h.re (by intro _; simp only [List.append_eq, cnt_append, cnt_cons, cnt_nil] <;> omega)
              · intro c' hc' hne s2 hs2 e he
                have := hlt s2 (List.mem_of_getElem? hs2) e he
                simp; omega
        refine ⟨cc, Sat.ld h (.tail _ (.tail _ (List.mem_append_right _ (List.mem_append_right _ (List.mem_append_right _ (.head _)))))) rfl, ?_⟩
        have hfin' : (let r := if cc then closeGo (ixOf c) co cc n s.length s dst (idxs S) else (s, dst, idxs S)
            if r.1 = [] then emphGo r.2.1 r.2.2 rts else if co then emphGo (r.2.1 ++ [.emphP r.1 co cc r.2.1.length n]) (r.2.2.set (ixOf c) (r.2.2.getD (ixOf c) [] ++ [r.2.1.length])) rts else emphGo (r.2.1 ++ [.plain r.1]) r.2.2 rts) = final := by
          rw [← hfin, emphGo, hix]
        cases hcc : cc with
        | false =>
          rw [hcc] at hfin' hEM fin
          refine br_false rfl (fin s dst S w hall (Nat.le_refl _) (hEM w (by rw [hcc] at h; exact h)) hle (fun h => absurd h hs0) ?_)
          simpa using hfin'
        | true =>
          rw [hcc] at hfin' hEM fin h
          refine br_true rfl (nilP_some ⟨_, Sat.ld h (.tail _ (.tail _ (List.mem_append_right _ (List.mem_append_right _ (List.mem_append_right _ (.head _)))))) rfl, by omega, head_pos htc, ?_⟩)
          rw [bt0 htc]
          refine enter_fn ?_
          refine em1_ok hc ⟨_, rfl, by omega, by omega, ?_⟩
          simp only [Addr.add_lit, Int.toNat_natCast, Nat.mul_one, Nat.zero_add]
          intro Xb hXb
          refine close_ok hix5 hc ⟨hn0, hn1⟩ (fun w hh => hXb _ _ _ _ _ _ _ _ _ _ _ hh) s.length s dst S w (Nat.le_refl _) hall hsl (hEM w h) (by omega) (hlate c hc hhd') ?_
          intro t' dst' S' w hgo hall' htl' h hoff' hdl' hl
          refine fin t' dst' S' w hall' htl' h (by omega) ?_ ?_
          · intro ht'
            rcases hl with ⟨hl, _⟩ | hl
            · rw [ht'] at hl; exact absurd hl.symm hs0
            · exact hl
          · simp only [if_true, hgo] at hfin'
            exact hfin'
      · -- anything else
        refine ⟨_, _, w, ta_emph_no hte w, br_true rfl ?_⟩
        refine tk_gen (A := fun w => Sat σ w (stkC b3 S :: (b1, cel [.slice dq dvs.length dc] ty_S_Inline) :: (SM ++ (DM ++ (RS ++ ((M1 ++ M2) ++ L)))))) h.tick fun w h => ?_
        refine ⟨by omega, by omega, nilP_of hsq ?_⟩
        refine ⟨_, _, _, Sat.ld h (.tail _ (.head _)) rfl, ?_⟩
        simp only [Addr.add_lit, Int.toNat_natCast, Nat.mul_one]
        obtain ⟨rb2, so2, hsq2, hcell2⟩ := hread w h
        rw [hsq] at hsq2
        simp only [Option.some.injEq, Addr.mk.injEq, and_true] at hsq2
        obtain ⟨rfl, rfl⟩ := hsq2
        refine ⟨_, hcell2, ?_⟩
        have h0 := h
        refine app_step hDc (by omega) (by omega) h (C := fun w1 => SameC _ w1 _ 1) (fun w1 X hw => h0.same hw (.tail _ (.head _)) (.tail _ (.tail _ (.head _))) 1) fun w dq' dc' RS' hD' h => ?_
        rw [e1]
        refine next w t t.ty pb M1 hv (by rw [← hfin]; cases t <;> first | rfl | exact absurd rfl hto | exact absurd rfl hte) dq' dc' RS' hD' (h.re (by intro _; simp only [List.append_eq, cnt_append, cnt_cons, cnt_nil] <;> omega))
end Go.Proofs.YtmicoampfglaiaaGreatDoor


/- emph, where the output takes the source's place. -/
set_option linter.unusedVariables false
namespace Go.Proofs.YtmicoampfglaiaaGreatDoor
open Go.Proofs Go.IntWalk Go.RowKit
variable {σ : Out} {w : World} {L L' : List Chunk} {R : Ending → World → Prop}
theorem DRow.same {q : Option Addr} {n c : Nat} {vs : List Value} {RM : List Chunk} (h : Sl 1 ty_Inline q n c vs RM) : DRow q c [] vs 0 q n c [] RM := by
  obtain ⟨hl, hnc, ⟨rfl, rfl, rfl, rfl⟩ | ⟨rb, sp, rfl, rfl, h3⟩⟩ := h
  · have : vs = [] := List.eq_nil_of_length_eq_zero (by omega)
    subst this
    exact ⟨by simp, by simp, .inr ⟨[], Sl.nil 1 ty_Inline, rfl, fun j v hv => by simp at hv⟩⟩
  · refine ⟨by omega, by simp, .inl ⟨rb, [], sp, rfl, rfl, rfl, rfl, ?_⟩⟩
    rw [List.length_append] at h3; omega
theorem DRow.done {dq sq : Option Addr} {dc off sn sc : Nat} {dvs : List Value} {RS : List Chunk} (h : DRow dq dc dvs [] off sq sn sc [] RS) : Sl 1 ty_Inline dq dvs.length dc dvs RS := by
  obtain ⟨h0, hle, ⟨rb, junk, sp, rfl, rfl, rfl, h1, h2⟩ | ⟨DR, hS, rfl, hr⟩⟩ := h
  · refine ⟨by omega, hle, .inr ⟨rb, junk ++ sp, rfl, rfl, ?_⟩⟩
    simp only [List.length_append, List.length_nil] at h2 ⊢; omega
  · rw [List.append_nil]; exact hS
/-- emph, wherever the output goes. -/
theorem emph_ok {pq dq sq : Option Addr} {dc sn sc : Nat} {ts : List Inl} {vs : List Value} {SR RS EC : List Chunk} (hD : DRow dq dc [] vs 0 sq sn sc SR RS) (hI : InlsAt ts vs EC) (hwf : wfE ts) (hap : apartE none ts) (hn : sn < 999999990) (h : Sat σ w (RS ++ (EC ++ L)))
    (hR : ∀ w dq dc dvs DM RS, InlsAt (emphM ts) dvs DM → DRow dq dc dvs [] sn sq sn sc SR RS → dvs.length ≤ sn → Sat σ w (DM ++ (RS ++ L)) → R (.returned (.slice dq dvs.length dc)) w) :
    callE P i_parseState_emph #[.pointer pq, .slice dq 0 dc, .slice sq sn sc] R w := by
  refine g_parseState_emph.sound ?_
  refine Sat.bx h fun b1 w h => ?_
  refine Sat.bx h fun b3 w h => ?_
  intro X hX
  have hl := hI.length
  have h0 := hD.1
  let s0 : STK := ⟨none, 0, 0, []⟩
  have h : Sat σ w (stkC b3 [s0, s0, s0, s0, s0] :: (b1, cel [.slice dq 0 dc] ty_S_Inline) :: (RS ++ (EC ++ L))) := h
  have hs0 : s0.ok [] := Sl.nil 1 ty_P_emphPlain
  refine emph_loop (Xa := X) (fun x10 w hh => hX _ _ _ _ _ _ _ _ _ hh) hn (emphM ts) (fun w dq dc dvs DM RS h1 h2 h3 h4 => hR w dq dc dvs DM RS h1 h2 h3 h4) ts [] [s0, s0, s0, s0, s0] 0 none w
    ⟨dq, dc, [], vs, [], [], RS, EC, ⟨rfl, rfl⟩, ⟨[], [], rfl, hs0, [], [], rfl, hs0, [], [], rfl, hs0, [], [], rfl, hs0, [], [], rfl, hs0, rfl⟩, rfl, ?_, hD, by simp, hI, h⟩ (by omega) (by simp) hwf hap ?_ rfl
  · intro s hs
    simp only [List.mem_cons, List.mem_nil_iff, or_false, or_self] at hs
    subst hs
    exact ⟨by show (0 : Nat) < _; decide, List.Pairwise.nil, fun e he => by cases he⟩
  · intro c hc _ s hs e he
    have : s = s0 := by
      rcases hc with rfl | rfl
      · exact (Option.some.inj hs).symm
      · exact (Option.some.inj hs).symm
    subst this
    cases he
theorem emphOK_gen {ts : List Inl} (hwf : wfE ts) (hap : apartE none ts) (hts : ts.length < 999999990) : EmphOK ts (emphM ts) := by
  intro σ R pq q n c vs RM EM L w hS hI hn h hR
  have hl := hI.length
  have hn0 := hS.1
  exact emph_ok (DRow.same hS) hI hwf hap (by omega) h fun w dq dc dvs DM RS h1 h2 h3 h4 => hR w dq dvs.length dc dvs RS DM h2.done h3 h1 (h4.re (by intro _; simp only [List.append_eq, cnt_append, cnt_cons, cnt_nil] <;> omega))
end Go.Proofs.YtmicoampfglaiaaGreatDoor


/- Small lemmas on lists, and the options that are all off. -/
set_option linter.unusedVariables false
namespace Go.Proofs.YtmicoampfglaiaaGreatDoor
open Go.Proofs
theorem sub_length {s : List UInt8} {i j : Nat} (h : j ≤ s.length) : (sub s i j).length = j - i := by unfold sub; rw [List.length_drop, List.length_take]; omega
theorem getD_app {a b : List UInt8} {k : Nat} (h : a.length ≤ k) : (a ++ b).getD k 0 = b.getD (k - a.length) 0 := by
  rw [List.getD_eq_getElem?_getD, List.getElem?_append_right h, ← List.getD_eq_getElem?_getD]
theorem getD_app' {a b : List UInt8} {k : Nat} {d : UInt8} (h : k < a.length) : (a ++ b).getD k d = a.getD k d := by
  rw [List.getD_eq_getElem?_getD, List.getElem?_append_left h, ← List.getD_eq_getElem?_getD]
theorem getD_mid (A C : List UInt8) (b d : UInt8) : (A ++ (b :: C)).getD A.length d = b := by
  rw [List.getD_eq_getElem?_getD, List.getElem?_append_right (Nat.le_refl _), Nat.sub_self]; rfl
theorem getElem_getD {l : List UInt8} {i : Nat} (h : i < l.length) (d : UInt8) : l[i] = l.getD i d := by
  rw [List.getD_eq_getElem?_getD, List.getElem?_eq_getElem h]; rfl
def optOff : Opt := ⟨false, false, false, false, false, false, false, false, false, false⟩
theorem drop_getD (s : List UInt8) (i k : Nat) (d : UInt8) : (s.drop i).getD k d = s.getD (i + k) d := by
  rw [List.getD_eq_getElem?_getD, List.getD_eq_getElem?_getD, List.getElem?_drop]
end Go.Proofs.YtmicoampfglaiaaGreatDoor


/- Brackets: the rounds of the loop that open and close them. -/
set_option linter.unusedVariables false
namespace Go.Proofs.YtmicoampfglaiaaGreatDoor
open Go.Proofs Go.IntWalk Go.RowKit
variable {σ : Out} {w : World} {L L' : List Chunk} {R : Ending → World → Prop}
theorem linkCorner_ok {s : List UInt8} (hs : s.length < 1000000000) (hR : ∀ r, R (.returned (.bool r)) w) : callE P i_linkCorner #[.string (bs s)] R w := by
  refine g_linkCorner.sound ?_
  intro X hX
  have hex : ∀ {Q : Ending → World → Prop} (c : Int), (∀ r, Q (.returned (.bool r)) w) → callE P i_isHexDigit #[.int .u8 c] Q w := by
    intro Q c hQ
    refine g_isHexDigit.sound ?_
    exact hQ _
  have key : ∀ k m, m + k = s.length → X (bs s) (m : Int) w := by
    intro k
    induction k with
    | zero => intro m hm; exact hX _ _ _ (br_false (by simp; omega) (hR _))
    | succ k ih =>
      intro m hm
      refine hX _ _ _ (br_true (by simp; omega) ⟨by omega, by simp; omega, ?_⟩)
      rw [show IntKind.i64.wrap ((m : Int) + 2) = ((m + 2 : Nat) : Int) by rw [show ((m : Int) + 2) = ((m + 2 : Nat) : Int) by omega, i64_in _ (by omega)], i64_inc (by omega)]
      have hnext := ih (m + 1) (by omega)
      refine br_split (fun _ => ?_) (fun _ => hnext)
      refine ⟨fun hh => ?_, ?_⟩
      · simp at hh; exact ⟨by omega, by simp; omega⟩
      refine br_split (fun _ => ?_) (fun hb => ?_)
      · exact ⟨fun h => Bool.noConfusion h, hR _⟩
      have hb' : m + 2 < s.length := by simp at hb; omega
      refine hex _ fun r => ⟨_, rfl, ?_⟩
      refine ⟨fun _ => ⟨by omega, by simp; omega⟩, ?_⟩
      refine br_split (fun _ => hR _) (fun _ => ?_)
      exact hex _ fun r => ⟨_, rfl, br_split (fun _ => hR _) (fun _ => hnext)⟩
  exact key s.length 0 (by omega)
theorem linkOpen_leaf {b i : Nat} {p : PS} {s : List UInt8} (hs : s.length < 1000000000) (hi : i < s.length) (hc : s[i] = 91) : LeafOK b p s i (.func (.func i_parseLinkOpen) #[] #[]) [] (some (.openP [91] (i + 1), i, i + 1)) (fun p' => p' = p) := by
  intro σ R L w _ h hR
  refine enter_fn (g_parseLinkOpen.sound ?_)
  unfold g_parseLinkOpen
  rw [i64_inc (by omega)]
  refine ⟨by omega, by omega, by simp; omega, ?_⟩
  rw [Int.toNat_natCast, Int.toNat_natCast, bs_extract]
  have e : (s.take (i + 1)).drop i = [91] := by
    rw [List.take_succ_eq_append_getElem hi, List.drop_left' (by rw [List.length_take]; omega), hc]
  rw [e]
  refine Sat.bx h fun nb w h => ?_
  exact hR w p _ _ rfl rfl ⟨nb, _, rfl, rfl⟩ h.up1
/-- The loop is at byte i, with brackets open. -/
def AtB (X : XI) (σ : Out) (b : Nat) (p0 : PS) (raw : List UInt8) (L : List Chunk) (i e : Nat) (ts : List Inl) (opens : List Nat) (lo : Int) : Prop :=
  ∀ w (p : PS) oq on oc, p.coreS = p0.coreS → p.s = raw → p.em = (e : Int) → IIn σ b p ts opens oq on oc L w → X (some ⟨b, 0, none⟩) (bs raw) oq on oc lo false (i : Int) w
def LoopB (R : Ending → World → Prop) (X : XI) (b : Nat) (raw : List UInt8) : Prop :=
  ∀ oq on oc lo (i : Int) w, g_parseState_inline.bl1 R X (some ⟨b, 0, none⟩) (bs raw) oq on oc lo false i w → X (some ⟨b, 0, none⟩) (bs raw) oq on oc lo false i w
theorem AtB.plain {X : XI} {b pb i e : Nat} {p0 : PS} {raw : List UInt8} {ts : List Inl} {opens : List Nat} {lo : Int} {o : Opt} (hX : LoopB R X b raw) (hi : i < raw.length) (hs : raw.length < 1000000000) (hpz : p0.pz = some ⟨pb, 0, none⟩) (ho : o.at pb ∈ L) (hp : parserOf o raw[i] = .nil) (h93 : raw[i] ≠ 93 ∨ opens = [])
    (h : AtB X σ b p0 raw L (i + 1) e ts opens lo) : AtB X σ b p0 raw L i e ts opens lo := by
  intro w p oq on oc hc hraw he hI
  refine hX _ _ _ _ _ _ ?_
  obtain ⟨vs, RM, EM, OM, hS, hIn, hO, hlen, hsat⟩ := hI
  refine inl_dispatch (p := p) hi (by omega) (by rw [PS.pz_of hc, hpz]) (.head _) (.tail _ (List.mem_append_right _ (List.mem_append_right _ (List.mem_append_right _ ho)))) hsat ?_
  rw [hp]
  have hol := hO.1
  rw [List.length_map] at hol
  exact inl_none (inl_k5 hi (by omega) (h93.imp id (by rintro rfl; simp at hol; omega)) (h w p oq on oc hc hraw he ⟨vs, RM, EM, OM, hS, hIn, hO, hlen, hsat⟩))
theorem AtB.plains {X : XI} {b pb e : Nat} {p0 : PS} {raw : List UInt8} {ts : List Inl} {opens : List Nat} {lo : Int} {o : Opt} (hX : LoopB R X b raw) (hs : raw.length < 1000000000) (hpz : p0.pz = some ⟨pb, 0, none⟩) (ho : o.at pb ∈ L) :
    ∀ (k i : Nat), i + k ≤ raw.length → (∀ j (hj : j < raw.length), i ≤ j → j < i + k → parserOf o raw[j] = .nil ∧ (raw[j] ≠ 93 ∨ opens = [])) → AtB X σ b p0 raw L (i + k) e ts opens lo → AtB X σ b p0 raw L i e ts opens lo
  | 0, i, _, _, h => h
  | k + 1, i, hk, hall, h => by
    have hi : i < raw.length := by omega
    have h0 := hall i hi (Nat.le_refl _) (by omega)
    refine AtB.plain hX hi hs hpz ho h0.1 h0.2 ?_
    refine AtB.plains hX hs hpz ho k (i + 1) (by omega) (fun j hj h1 h2 => hall j hj (by omega) (by omega)) ?_
    rw [show i + 1 + k = i + (k + 1) by omega]; exact h
theorem AtB.leaf {X : XI} {b pb i e st en : Nat} {p0 : PS} {raw : List UInt8} {ts : List Inl} {opens : List Nat} {lo : Int} {o : Opt} {f : FuncId} {t : Inl} {L0 : List Chunk} {Q : PS → PS → Prop} (hX : LoopB R X b raw) (hi : i < raw.length) (hs : raw.length < 1000000000) (hpz : p0.pz = some ⟨pb, 0, none⟩) (ho : o.at pb ∈ L)
    (hp : parserOf o raw[i] = .fn f) (hL0 : ∀ c ∈ L0, c ∈ L) (hf : ∀ p : PS, p.coreS = p0.coreS → p.s = raw → LeafOK b p raw i (.func (.func f) #[] #[]) L0 (some (t, st, en)) (Q p)) (hst : st ≤ raw.length) (hn : ts.length < 1000000000) (hon : opens.length < 1000000000)
    (h : AtB X σ b p0 raw L en en (emitM raw e st ts ++ [t]) (if t.isOpen then opens ++ [(emitM raw e st ts).length] else opens) lo) : AtB X σ b p0 raw L i e ts opens lo := by
  intro w p oq on oc hc hraw he hI
  refine hX _ _ _ _ _ _ ?_
  obtain ⟨vs, RM, EM, OM, hS, hIn, hO, hlen, hsat⟩ := hI
  refine inl_dispatch (p := p) hi (by omega) (by rw [PS.pz_of hc, hpz]) (.head _) (.tail _ (List.mem_append_right _ (List.mem_append_right _ (List.mem_append_right _ ho)))) hsat ?_
  rw [hp]
  dsimp only
  have hleaf := hf p hc hraw
  subst hraw
  refine inl_leaf ⟨vs, RM, EM, OM, hS, hIn, hO, hlen, hsat⟩ hL0 hleaf he hst hs hn hon fun w p2 oq on oc hp2 hem2 _ h2 => ?_
  refine h w p2 oq on oc (PS.coreS_of hp2 hc) ?_ hem2 h2
  have := congrArg PS.s hp2; exact this
theorem AtB.fin {X : XI} {b pb e : Nat} {p0 : PS} {raw : List UInt8} {ts ts' : List Inl} {opens : List Nat} {lo : Int} {o : Opt} (hX : LoopB R X b raw) (hs : raw.length < 1000000000) (hpz : p0.pz = some ⟨pb, 0, none⟩) (ho : o.at pb ∈ L) (hoff : o.auto = false) (hn : ts.length < 1000000000)
    (hE : EmphOK (emitM raw e raw.length ts) ts') (hpos : ∀ t ∈ ts', ∀ s, t.plain? = some s → s ≠ []) (hb : plen ts' < 1073741824)
    (hR : ∀ w (p' : PS) q n c vs RM EM, p'.coreS = p0.coreS → Sl 1 ty_Inline q n c vs RM → n < 1073741824 → InlsAt (mergeM ts') vs EM → Sat σ w (p'.at b :: (RM ++ (EM ++ L))) → R (.returned (.slice q n c)) w) :
    AtB X σ b p0 raw L raw.length e ts opens lo := by
  intro w p oq on oc hc hraw he hI
  refine hX _ _ _ _ _ _ ?_
  subst hraw
  exact inl_end hI he hs hn (by rw [PS.pz_of hc, hpz]) ho hoff hE hpos hb fun w p2 q n c vs RM EM hp2 hS hn hI h => hR w p2 q n c vs RM EM (PS.coreS_of hp2 hc) hS hn hI h
end Go.Proofs.YtmicoampfglaiaaGreatDoor


/- Brackets: the round that closes a link. -/
set_option linter.unusedVariables false
namespace Go.Proofs.YtmicoampfglaiaaGreatDoor
open Go.Proofs Go.IntWalk Go.RowKit
variable {σ : Out} {w : World} {L L' : List Chunk} {R : Ending → World → Prop}
def emitX (s : List UInt8) (e i : Nat) : List Inl := if e < i then [.plain (sub s e i)] else []
/-- emit, which leaves what there was. -/
theorem emitE_ok {b e i : Nat} {p : PS} {vs : List Value} {RM : List Chunk} (hS : Sl 1 ty_Inline p.lq p.ln p.lc vs RM) (h : Sat σ w (p.at b :: (RM ++ L))) (he : p.em = e) (hl : i ≤ p.s.length) (hn : vs.length < 1073741823)
    (hR : ∀ w (p' : PS) RM' xs XM, p'.core = p.core → p'.bt = p.bt → p'.em = ((max e i : Nat) : Int) → p'.corner = p.corner → Sl 1 ty_Inline p'.lq p'.ln p'.lc (vs ++ xs) RM' → InlsAt (emitX p.s e i) xs XM → Sat σ w (p'.at b :: (RM' ++ (XM ++ L))) → R (.returned (.tuple #[])) w) :
    callE P i_parseState_emit #[.pointer (some ⟨b, 0, none⟩), .int .i64 i] R w := by
  by_cases hi : e < i
  · have h : Sat σ w (p.at b :: RM ++ L) := h
    refine emit_ok h ⟨hS, by omega⟩ he hi hl (by omega) fun w p' M' nb hp' hS' h => ?_
    refine hR w p' M' _ [plainC nb (sub p.s e i)] (by rw [hp']; rfl) (by rw [hp']) (by rw [hp']; show ((i : Nat) : Int) = _; congr 1; omega) (by rw [hp']) hS'.1 ?_ ?_
    · unfold emitX; rw [if_pos hi]
      exact InlsAt.one ⟨nb, [], _, rfl, rfl⟩
    · have h : Sat σ w (p'.at b :: M' ++ (plainC nb (sub p.s e i) :: L)) := h
      exact h.re (by intro _; simp only [List.append_eq, cnt_append, cnt_cons, cnt_nil] <;> omega)
  · refine emit_no h (by rw [he]; omega) fun w h => ?_
    refine hR w p RM [] [] rfl rfl (by rw [he]; congr 1; omega) rfl (by rw [List.append_nil]; exact hS) ?_ h
    unfold emitX; rw [if_neg hi]; exact ⟨rfl, rfl⟩
def lnkC (lb : Nat) (inner : Value) (url title : List UInt8) (tc : UInt8) (cor : Bool) : Chunk := (lb, cel [inner, .string (bs url), .string (bs title), .int .u8 tc.toNat, .bool cor] ty_Link)
/-- What parseLinkClose answers. -/
def CloseOK (b : Nat) (p : PS) (raw : List UInt8) (i : Nat) (t : List UInt8) (k : Nat) (L0 : List Chunk) (url title : List UInt8) (tc : UInt8) (cor : Bool) (en : Nat) : Prop :=
  ∀ (σ : Out) (R : Ending → World → Prop) (L : List Chunk) (w : World) (ob : Nat) (e : TypeId), (∀ c ∈ L0, c ∈ L) → (ob, cel [.string (bs t), .int .i64 k] e) ∈ L → p.at b ∈ L → Sat σ w L →
    (∀ w lb, Sat σ w (lnkC lb (.slice none 0 0) url title tc cor :: L) → R (.returned (.tuple #[.pointer (some ⟨lb, 0, none⟩), .int .i64 en, .bool true])) w) →
    callE P i_parseState_parseLinkClose #[.pointer (some ⟨b, 0, none⟩), .string (bs raw), .int .i64 i, .pointer (some ⟨ob, 0, none⟩)] R w
theorem Sl.shrink {sz : Nat} {e : TypeId} {q : Option Addr} {n c m : Nat} {vs : List Value} {M : List Chunk} (h : Sl sz e q n c vs M) (hm : m ≤ n) : Sl sz e q m c (vs.take (m * sz)) M := by
  obtain ⟨h1, h2, h3⟩ := h
  have hms : m * sz ≤ n * sz := Nat.mul_le_mul_right _ hm
  refine ⟨by rw [List.length_take]; omega, by omega, ?_⟩
  rcases h3 with ⟨rfl, rfl, rfl, rfl⟩ | ⟨b, sp, rfl, rfl, h4⟩
  · exact .inl ⟨rfl, by omega, rfl, rfl⟩
  · refine .inr ⟨b, vs.drop (m * sz) ++ sp, rfl, ?_, ?_⟩
    · rw [← List.append_assoc, List.take_append_drop]
    · rw [← List.append_assoc, List.take_append_drop]; exact h4
theorem ta_open1 {v : Value} (w : World) : (Instr.typeAssert (.iface ty_P_openPlain v) ty_Inline ty_P_openPlain false).run P w = .ok v w :=
  ta_yes1 (by rw [und_open]; intro ms h; cases h) und_open w
def closeI (img : Bool) (ks : List Inl) (url title : List UInt8) (tc : UInt8) (cor : Bool) : Inl := if img then .image ks url title tc cor else .link ks url title tc cor
theorem AtB.close {X : XI} {b pb i e en k : Nat} {p0 : PS} {raw : List UInt8} {ts1 ts2 : List Inl} {opens : List Nat} {lo : Int} {o : Opt} {t url title : List UInt8} {tc : UInt8} {cor img : Bool} {L0 : List Chunk} (hX : LoopB R X b raw) (hi : i < raw.length) (hs : raw.length < 1000000) (hc : raw[i] = 93)
    (hpz : p0.pz = some ⟨pb, 0, none⟩) (ho : o.at pb ∈ L) (hL0 : ∀ c ∈ L0, c ∈ L) (ht : t.getD 0 0 = (if img then 33 else 91)) (ht0 : t ≠ []) (hlo : img = true ∨ lo ≤ (k : Int)) (hurl : url.length < 1000000)
    (hclose : ∀ p : PS, p.coreS = p0.coreS → p.s = raw → CloseOK b p raw i t k L0 url title tc cor en) (hne : ts2 ++ emitX raw e i ≠ []) (hwf : wfE (ts2 ++ emitX raw e i)) (hap : apartE none (ts2 ++ emitX raw e i)) (hn : (ts1 ++ ts2).length < 1000000) (hon : opens.length < 1000000)
    (hnext : AtB X σ b p0 raw L en en (ts1 ++ [closeI img (emphM (ts2 ++ emitX raw e i)) url title tc cor]) opens (if img then lo else (k : Int))) :
    AtB X σ b p0 raw L i e (ts1 ++ .openP t k :: ts2) (opens ++ [ts1.length]) lo := by
  intro w p oq on oc hcS hraw he hI
  refine hX _ _ _ _ _ _ ?_
  obtain ⟨vs, RM, EM, OM, hS, hIn, hO, hlen, hsat⟩ := hI
  refine inl_dispatch (p := p) hi (by omega) (by rw [PS.pz_of hcS, hpz]) (.head _) (.tail _ (List.mem_append_right _ (List.mem_append_right _ (List.mem_append_right _ ho)))) hsat ?_
  rw [hc, show parserOf o 93 = .nil from rfl]
  refine inl_none ⟨by omega, by simp; omega, ?_⟩
  have hol := hO.1
  rw [List.length_map, List.length_append, List.length_singleton] at hol
  refine br_true (by rw [bt_beq hi 93 93 rfl, hc]; simp; omega) ?_
  have e1 : IntKind.i64.wrap ((on : Int) - 1) = ((opens.length : Nat) : Int) := by rw [show ((on : Int) - 1) = ((opens.length : Nat) : Int) by omega, i64_in _ (by omega)]
  rw [e1]
  refine ⟨by omega, by omega, ?_⟩
  have hsl := hS.1
  have hsc := hS.2.1
  have hIl := hIn.length
  simp only [List.length_append, List.length_cons] at hIl hn
  have hsat2 : Sat σ w (OM ++ (p.at b :: (RM ++ (EM ++ L)))) := hsat.re (by intro _; simp only [List.append_eq, cnt_append, cnt_cons, cnt_nil] <;> omega)
  refine hO.loadAt hsat2 (j := opens.length) (v := .int .i64 (ts1.length : Nat)) (by simp [List.map_append]) fun ob1 hq1 hc1 => ?_
  simp only [Addr.add_lit, Int.toNat_natCast, Nat.mul_one, Nat.zero_add]
  refine ⟨_, hc1, nilP_some ?_⟩
  have h := hsat
  refine ⟨_, _, _, Sat.ld h (by first | assumption | (repeat (first | exact .head _ | apply List.Mem.tail))) (by exact rfl), ?_⟩
  refine ⟨by omega, by omega, ?_⟩
  obtain ⟨vs1, v, vs2, M1, M2, M3, rfl, rfl, hI1, hIo, hI2⟩ := hIn.mid
  have hl1 := hI1.length
  have hIl2 := hI2.length
  have hvl : (vs1 ++ v :: vs2).length = vs1.length + (vs2.length + 1) := by simp
  obtain ⟨ob, oe, rfl, rfl⟩ := hIo
  have hsat3 : Sat σ w (RM ++ (p.at b :: ((M1 ++ ([(ob, cel [.string (bs t), .int .i64 k] oe)] ++ M3)) ++ (OM ++ L)))) := hsat.re (by intro _; simp only [List.append_eq, cnt_append, cnt_cons, cnt_nil] <;> omega)
  refine hS.loadAt hsat3 (j := ts1.length) (v := ptrV ty_P_openPlain ob) (by rw [List.getElem?_append_right (by omega), show ts1.length - vs1.length = 0 by omega]; rfl) fun rb hq2 hc2 => ?_
  simp only [Addr.add_lit, Int.toNat_natCast, Nat.mul_one, Nat.zero_add]
  refine ⟨_, hc2, _, _, ta_open1 w, _, _, _, _, sliceT rowInt.ht rowInt.hi oq on oc opens.length (by have := hO.2.1; omega) w, nilP_some ?_⟩
  have hmo : (ob, cel [.string (bs t), .int .i64 k] oe) ∈ p.at b :: (RM ++ ((M1 ++ ([(ob, cel [.string (bs t), .int .i64 k] oe)] ++ M3)) ++ (OM ++ L))) :=
    .tail _ (List.mem_append_right _ (List.mem_append_left _ (List.mem_append_right _ (List.mem_append_left _ (.head _)))))
  have hb0 : bt (bs t) 0 = ((t.getD 0 0).toNat : Int) := bs_bt t 0
  have htl : 0 < t.length := List.length_pos_iff.2 ht0
  refine ⟨_, Sat.ld h hmo rfl, by decide, by simp; omega, ?_⟩
  rw [hb0]
  have hOs := hO.shrink (m := opens.length) (by omega)
  rw [Nat.mul_one, List.map_append, List.take_left' (by simp)] at hOs
  have k8 : g_parseState_inline.k8 R X (some ⟨b, 0, none⟩) (bs raw) oq opens.length oc lo false (i : Int) (ts1.length : Int) (some ⟨ob, 0, none⟩) true w := by
    refine br_true rfl ?_
    have hcl := hclose p hcS hraw
    refine hcl σ _ _ w ob oe (fun c hc => .tail _ (List.mem_append_right _ (List.mem_append_right _ (List.mem_append_right _ (hL0 c hc))))) hmo (.head _) h fun w lb h => ⟨_, _, _, rfl, br_true rfl ?_⟩
    -- behind the note of a corner
    have k9 : ∀ w r, Sat σ w (({ p with corner := r } : PS).at b :: (lnkC lb (.slice none 0 0) url title tc cor :: (RM ++ ((M1 ++ ([(ob, cel [.string (bs t), .int .i64 k] oe)] ++ M3)) ++ (OM ++ L))))) →
        g_parseState_inline.k9 R X (some ⟨b, 0, none⟩) (bs raw) oq opens.length oc lo false (i : Int) (ts1.length : Int) (some ⟨ob, 0, none⟩) (some ⟨lb, 0, none⟩) (en : Int) w := by
      intro w r h
      generalize hp1 : ({ p with corner := r } : PS) = p1 at h
      have hS1 : Sl 1 ty_Inline p1.lq p1.ln p1.lc (vs1 ++ ptrV ty_P_openPlain ob :: vs2) RM := by rw [← hp1]; exact hS
      have hcS1 : p1.coreS = p0.coreS := by rw [← hp1]; exact hcS
      have hs1 : p1.s = raw := by rw [← hp1]; exact hraw
      have he1 : p1.em = (e : Int) := by rw [← hp1]; exact he
      have h : Sat σ w (p1.at b :: (RM ++ (lnkC lb (.slice none 0 0) url title tc cor :: ((M1 ++ ([(ob, cel [.string (bs t), .int .i64 k] oe)] ++ M3)) ++ (OM ++ L))))) := h.re (by intro _; simp only [List.append_eq, cnt_append, cnt_cons, cnt_nil] <;> omega)
      refine emitE_ok hS1 h he1 (by rw [hs1]; omega) (by simp only [List.length_append, List.length_cons]; omega) fun w p2 RM2 xs XM hp2 hbt2 he2 hco2 hS2 hX2 h => ⟨rfl, nilP_some ?_⟩
      rw [hs1] at hX2
      have hcS2 := PS.coreS_of hp2 hcS1
      have hs2 : p2.s = raw := by rw [← hs1]; have := congrArg PS.s hp2; exact this
      refine ⟨_, _, _, Sat.ld h (by first | assumption | (repeat (first | exact .head _ | apply List.Mem.tail))) (by exact rfl), ?_⟩
      have hsl2 := hS2.1
      have hsc2 := hS2.2.1
      have hxl := hX2.length
      have hI2x := hI2.append hX2
      have hI2l := hI2x.length
      have hpos : 0 < (ts2 ++ emitX raw e i).length := List.length_pos_iff.2 hne
      simp only [List.length_append, List.length_cons] at hsl2 hI2l hpos
      have hxn : (emitX raw e i).length ≤ 1 := by unfold emitX; split <;> simp
      rw [i64_inc (by omega)]
      refine ⟨_, _, _, _, sliceF rowInl.ht rowInl.hi p2.lq p2.ln p2.lc (ts1.length + 1) (by omega) w, ?_⟩
      rw [if_neg (by omega)]
      obtain ⟨_, _, ⟨_, h0, _⟩ | ⟨rb2, sp, hq2', hRM2, hsp⟩⟩ := hS2
      · omega
      rw [hq2']
      simp only [Option.map_some, Addr.add_lit, Nat.zero_add, rowInl.hs, Nat.mul_one]
      have hrow : vs1 ++ ptrV ty_P_openPlain ob :: vs2 ++ xs ++ sp = (vs1 ++ [ptrV ty_P_openPlain ob]) ++ ((vs2 ++ xs) ++ sp) := by simp
      rw [hrow] at hRM2 hsp
      have hD : DRow none 0 [] (vs2 ++ xs) 0 (some ⟨rb2, ts1.length + 1, none⟩) (p2.ln - (ts1.length + 1)) (p2.lc - (ts1.length + 1)) RM2 RM2 := by
        refine ⟨by simp; omega, by simp, .inr ⟨[], Sl.nil 1 ty_Inline, rfl, fun j v hv => ⟨rb2, _, (vs1 ++ [ptrV ty_P_openPlain ob]) ++ ((vs2 ++ xs) ++ sp), ty_Inline, rfl, by rw [hRM2]; exact .head _, ?_⟩⟩⟩
        rw [List.getElem?_append_right (by simp; omega), List.getElem?_append_left (by have := (List.getElem?_eq_some_iff.1 hv).1; simp at this ⊢; omega)]
        rw [← hv]; congr 1; simp; omega
      have h : Sat σ w (RM2 ++ ((M3 ++ XM) ++ (p2.at b :: (lnkC lb (.slice none 0 0) url title tc cor :: ((ob, cel [.string (bs t), .int .i64 k] oe) :: (M1 ++ (OM ++ L))))))) := h.re (by intro _; simp only [List.append_eq, cnt_append, cnt_cons, cnt_nil] <;> omega)
      refine emph_ok hD hI2x hwf hap (by omega) h fun w dq dc dvs DM RS hI3 hD3 hdl h => ⟨_, _, _, rfl, nilP_some ?_⟩
      obtain ⟨_, _, ⟨rb3, junk, sp3, _, hq3, _⟩ | ⟨DR, hSd, hRS, _⟩⟩ := hD3
      · simp at hq3
      subst hRS
      have h : Sat σ w (lnkC lb (.slice none 0 0) url title tc cor :: (DM ++ ((DR ++ RM2) ++ (p2.at b :: ((ob, cel [.string (bs t), .int .i64 k] oe) :: (M1 ++ (OM ++ L))))))) := h.re (by intro _; simp only [List.append_eq, cnt_append, cnt_cons, cnt_nil] <;> omega)
      refine Sat.st h (k := 0) rfl (Nat.le_of_ble_eq_true rfl) trivial (by first | (dsimp only [List.set]; exact rfl) | exact rfl) fun w h => ?_
      have h : Sat σ w (lnkC lb (.slice dq dvs.length dc) url title tc cor :: (DM ++ ((DR ++ RM2) ++ (p2.at b :: ((ob, cel [.string (bs t), .int .i64 k] oe) :: (M1 ++ (OM ++ L))))))) := h
      have hmo2 : (ob, cel [.string (bs t), .int .i64 k] oe) ∈ lnkC lb (.slice dq dvs.length dc) url title tc cor :: (DM ++ ((DR ++ RM2) ++ (p2.at b :: ((ob, cel [.string (bs t), .int .i64 k] oe) :: (M1 ++ (OM ++ L)))))) :=
        .tail _ (List.mem_append_right _ (List.mem_append_right _ (.tail _ (.head _))))
      refine nilP_some ⟨_, Sat.ld h hmo2 rfl, by decide, by simp; omega, ?_⟩
      rw [hb0]
      have h : Sat σ w ((rb2, cel ((vs1 ++ [ptrV ty_P_openPlain ob]) ++ ((vs2 ++ xs) ++ sp)) ty_Inline) :: (p2.at b :: ((ob, cel [.string (bs t), .int .i64 k] oe) :: (lnkC lb (.slice dq dvs.length dc) url title tc cor :: (DM ++ (DR ++ (M1 ++ (OM ++ L)))))))) := by rw [hRM2] at h; exact h.re (by intro _; simp only [List.append_eq, cnt_append, cnt_cons, cnt_nil] <;> omega)
      -- the link stands in the row
      have k10 : ∀ w (ty : TypeId), Sat σ w ((rb2, cel ((vs1 ++ [ptrV ty lb]) ++ ((vs2 ++ xs) ++ sp)) ty_Inline) :: (p2.at b :: ((ob, cel [.string (bs t), .int .i64 k] oe) :: (lnkC lb (.slice dq dvs.length dc) url title tc cor :: (DM ++ (DR ++ (M1 ++ (OM ++ L)))))))) →
          InlAt (closeI img (emphM (ts2 ++ emitX raw e i)) url title tc cor) (ptrV ty lb) (lnkC lb (.slice dq dvs.length dc) url title tc cor :: (DR ++ DM)) →
          g_parseState_inline.k10 R X (some ⟨b, 0, none⟩) (bs raw) oq opens.length oc lo false (ts1.length : Int) (some ⟨ob, 0, none⟩) (en : Int) w := by
        intro w ty h hIL
        refine nilP_some ?_
        refine ⟨_, _, _, Sat.ld h (by first | assumption | (repeat (first | exact .head _ | apply List.Mem.tail))) (by exact rfl), ?_⟩
        rw [i64_inc (by omega)]
        refine ⟨_, _, _, _, sliceT rowInl.ht rowInl.hi p2.lq p2.ln p2.lc (ts1.length + 1) (by omega) w, nilP_some ?_⟩
        refine Sat.st h (k := 1) rfl (Nat.le_of_ble_eq_true rfl) trivial (by first | (dsimp only [List.set]; exact rfl) | exact rfl) fun w h => ?_
        let p3 : PS := { p2 with ln := ts1.length + 1 }
        have h : Sat σ w ((rb2, cel ((vs1 ++ [ptrV ty lb]) ++ ((vs2 ++ xs) ++ sp)) ty_Inline) :: (p3.at b :: ((ob, cel [.string (bs t), .int .i64 k] oe) :: (lnkC lb (.slice dq dvs.length dc) url title tc cor :: (DM ++ (DR ++ (M1 ++ (OM ++ L)))))))) := h
        have h : Sat σ w (p3.at b :: ((rb2, cel ((vs1 ++ [ptrV ty lb]) ++ ((vs2 ++ xs) ++ sp)) ty_Inline) :: ((ob, cel [.string (bs t), .int .i64 k] oe) :: (lnkC lb (.slice dq dvs.length dc) url title tc cor :: (DM ++ (DR ++ (M1 ++ (OM ++ L)))))))) := h.re (by intro _; simp only [List.append_eq, cnt_append, cnt_cons, cnt_nil] <;> omega)
        refine skipTo_ok h fun w h => ⟨rfl, nilP_some ?_⟩
        generalize hp4 : ({ p3 with em := (en : Int) } : PS) = p4 at h
        have hp4c : p4.core = p2.core := by rw [← hp4]; rfl
        have hII : ∀ w, Sat σ w (p4.at b :: ((rb2, cel ((vs1 ++ [ptrV ty lb]) ++ ((vs2 ++ xs) ++ sp)) ty_Inline) :: ((ob, cel [.string (bs t), .int .i64 k] oe) :: (lnkC lb (.slice dq dvs.length dc) url title tc cor :: (DM ++ (DR ++ (M1 ++ (OM ++ L)))))))) →
            IIn σ b p4 (ts1 ++ [closeI img (emphM (ts2 ++ emitX raw e i)) url title tc cor]) opens oq opens.length oc L w := by
          intro w h
          refine ⟨vs1 ++ [ptrV ty lb], [(rb2, cel ((vs1 ++ [ptrV ty lb]) ++ ((vs2 ++ xs) ++ sp)) ty_Inline)], M1 ++ (lnkC lb (.slice dq dvs.length dc) url title tc cor :: (DR ++ DM)), OM, ?_, hI1.append (InlsAt.one hIL), hOs, by simp; omega, ?_⟩
          · refine ⟨by rw [← hp4]; simp [p3]; omega, by rw [← hp4]; show ts1.length + 1 ≤ p2.lc; omega, .inr ⟨rb2, (vs2 ++ xs) ++ sp, by rw [← hp4]; exact hq2', rfl, ?_⟩⟩
            rw [← hp4]; show _ = p2.lc * 1
            simp only [List.length_append, List.length_singleton] at hsp ⊢; omega
          · exact h.less [(ob, cel [.string (bs t), .int .i64 k] oe)] (by intro _; simp only [List.append_eq, cnt_append, cnt_cons, cnt_nil] <;> omega)
        have hmo3 : (ob, cel [.string (bs t), .int .i64 k] oe) ∈ p4.at b :: ((rb2, cel ((vs1 ++ [ptrV ty lb]) ++ ((vs2 ++ xs) ++ sp)) ty_Inline) :: ((ob, cel [.string (bs t), .int .i64 k] oe) :: (lnkC lb (.slice dq dvs.length dc) url title tc cor :: (DM ++ (DR ++ (M1 ++ (OM ++ L))))))) := .tail _ (.tail _ (.head _))
        refine ⟨_, Sat.ld h hmo3 rfl, by decide, by simp; omega, ?_⟩
        rw [hb0]
        have hcS4 : p4.coreS = p0.coreS := PS.coreS_of hp4c hcS2
        have hs4 : p4.s = raw := by rw [← hp4]; exact hs2
        have he4 : p4.em = (en : Int) := by rw [← hp4]
        rcases Bool.eq_false_or_eq_true img with hg | hg
        · rw [hg] at ht hnext hII
          exact br_false (by rw [ht]; rfl) (hnext w p4 oq _ oc hcS4 hs4 he4 (hII w h))
        · rw [hg] at ht hnext hII
          exact br_true (by rw [ht]; rfl) (nilP_some ⟨_, Sat.ld h hmo3 rfl, hnext w p4 oq _ oc hcS4 hs4 he4 (hII w h)⟩)
      have eset : ∀ v : Value, ((vs1 ++ [ptrV ty_P_openPlain ob]) ++ ((vs2 ++ xs) ++ sp)).set ts1.length v = (vs1 ++ [v]) ++ ((vs2 ++ xs) ++ sp) := by
        intro v
        rw [← hl1, List.append_assoc, List.append_assoc, List.set_append_right _ _ (Nat.le_refl _), Nat.sub_self]; simp
      have hil : ts1.length < ((vs1 ++ [ptrV ty_P_openPlain ob]) ++ ((vs2 ++ xs) ++ sp)).length := by simp; omega
      rcases Bool.eq_false_or_eq_true img with hg | hg
      · refine br_true (by rw [ht, hg]; rfl) (nilP_some ?_)
        refine ⟨_, _, _, Sat.ld h (by first | assumption | (repeat (first | exact .head _ | apply List.Mem.tail))) (by exact rfl), ?_⟩
        refine ⟨by omega, by omega, ?_⟩
        rw [hq2']
        refine nilP_some ?_
        simp only [Addr.add_lit, Int.toNat_natCast, Nat.mul_one, Nat.zero_add, Nat.add_zero]
        refine Sat.st h (k := 0) rfl hil trivial rfl fun w h => ?_
        rw [eset] at h
        refine k10 w ty_P_Image h ?_
        rw [hg]
        exact ⟨lb, ty_Link, dq, dvs.length, dc, dvs, DR, DM, rfl, rfl, hSd, hI3⟩
      · refine br_false (by rw [ht, hg]; rfl) (nilP_some ?_)
        refine ⟨_, _, _, Sat.ld h (by first | assumption | (repeat (first | exact .head _ | apply List.Mem.tail))) (by exact rfl), ?_⟩
        refine ⟨by omega, by omega, ?_⟩
        rw [hq2']
        refine nilP_some ?_
        simp only [Addr.add_lit, Int.toNat_natCast, Nat.mul_one, Nat.zero_add, Nat.add_zero]
        refine Sat.st h (k := 0) rfl hil trivial rfl fun w h => ?_
        rw [eset] at h
        refine k10 w ty_P_Link h ?_
        rw [hg]
        exact ⟨lb, ty_Link, dq, dvs.length, dc, dvs, DR, DM, rfl, rfl, hSd, hI3⟩
    have fin : ∀ w r, Sat σ w (lnkC lb (.slice none 0 0) url title tc cor :: (({ p with corner := r } : PS).at b :: (RM ++ ((M1 ++ ([(ob, cel [.string (bs t), .int .i64 k] oe)] ++ M3)) ++ (OM ++ L))))) →
        g_parseState_inline.k9 R X (some ⟨b, 0, none⟩) (bs raw) oq opens.length oc lo false (i : Int) (ts1.length : Int) (some ⟨ob, 0, none⟩) (some ⟨lb, 0, none⟩) (en : Int) w := fun w r h => k9 w r h.up1
    refine nilP_some ⟨p.corner, Sat.ld h (.tail _ (.head _)) rfl, br_split (fun _ => nilP_some ?_) (fun _ => ?_)⟩
    · refine Sat.st h (k := 1) rfl (Nat.le_of_ble_eq_true rfl) trivial (by first | (dsimp only [List.set]; exact rfl) | exact rfl) fun w h => ?_
      exact fin _ true h
    · refine nilP_some ⟨cor, Sat.ld h (.head _) rfl, br_split (fun _ => nilP_some ?_) (fun _ => ?_)⟩
      · refine Sat.st h (k := 1) rfl (Nat.le_of_ble_eq_true rfl) trivial (by first | (dsimp only [List.set]; exact rfl) | exact rfl) fun w h => ?_
        exact fin _ true h
      · refine nilP_some ⟨bs url, Sat.ld h (.head _) rfl, ?_⟩
        refine linkCorner_ok (by omega) fun r => ⟨_, rfl, nilP_some ?_⟩
        refine Sat.st h (k := 1) rfl (Nat.le_of_ble_eq_true rfl) trivial (by first | (dsimp only [List.set]; exact rfl) | exact rfl) fun w h => ?_
        exact fin _ r h
  rcases Bool.eq_false_or_eq_true img with hg | hg
  · exact br_true (by rw [ht, hg]; rfl) k8
  · refine br_false (by rw [ht, hg]; rfl) (nilP_some ⟨_, Sat.ld h hmo rfl, ?_⟩)
    rw [decide_eq_true (hlo.resolve_left (by rw [hg]; decide))]
    exact k8
end Go.Proofs.YtmicoampfglaiaaGreatDoor


/- Brackets: a bracket that closes nothing; lists without runs; texts that begin with a bracket. -/
set_option linter.unusedVariables false
namespace Go.Proofs.YtmicoampfglaiaaGreatDoor
open Go.Proofs Go.IntWalk Go.RowKit
variable {σ : Out} {w : World} {L L' : List Chunk} {R : Ending → World → Prop}
/-- No link around a link: the bracket goes, and its text stays. -/
theorem AtB.pop {X : XI} {b pb i e k : Nat} {p0 : PS} {raw : List UInt8} {ts1 ts2 : List Inl} {opens : List Nat} {lo : Int} {o : Opt} {t : List UInt8} (hX : LoopB R X b raw) (hi : i < raw.length) (hs : raw.length < 1000000) (hc : raw[i] = 93)
    (hpz : p0.pz = some ⟨pb, 0, none⟩) (ho : o.at pb ∈ L) (ht : t.getD 0 0 = 91) (ht0 : t ≠ []) (hlo : (k : Int) < lo)
    (hn : (ts1 ++ ts2).length < 1000000) (hon : opens.length < 1000000)
    (hnext : AtB X σ b p0 raw L (i + 1) e (ts1 ++ .openP t k :: ts2) opens lo) :
    AtB X σ b p0 raw L i e (ts1 ++ .openP t k :: ts2) (opens ++ [ts1.length]) lo := by
  intro w p oq on oc hcS hraw he hI
  refine hX _ _ _ _ _ _ ?_
  obtain ⟨vs, RM, EM, OM, hS, hIn, hO, hlen, hsat⟩ := hI
  refine inl_dispatch (p := p) hi (by omega) (by rw [PS.pz_of hcS, hpz]) (.head _) (.tail _ (List.mem_append_right _ (List.mem_append_right _ (List.mem_append_right _ ho)))) hsat ?_
  rw [hc, show parserOf o 93 = .nil from rfl]
  refine inl_none ⟨by omega, by simp; omega, ?_⟩
  have hol := hO.1
  rw [List.length_map, List.length_append, List.length_singleton] at hol
  refine br_true (by rw [bt_beq hi 93 93 rfl, hc]; simp; omega) ?_
  have e1 : IntKind.i64.wrap ((on : Int) - 1) = ((opens.length : Nat) : Int) := by rw [show ((on : Int) - 1) = ((opens.length : Nat) : Int) by omega, i64_in _ (by omega)]
  rw [e1]
  refine ⟨by omega, by omega, ?_⟩
  have hsl := hS.1
  have hsc := hS.2.1
  have hIl := hIn.length
  simp only [List.length_append, List.length_cons] at hIl hn
  have hsat2 : Sat σ w (OM ++ (p.at b :: (RM ++ (EM ++ L)))) := hsat.re (by intro _; simp only [List.append_eq, cnt_append, cnt_cons, cnt_nil] <;> omega)
  refine hO.loadAt hsat2 (j := opens.length) (v := .int .i64 (ts1.length : Nat)) (by simp [List.map_append]) fun ob1 hq1 hc1 => ?_
  simp only [Addr.add_lit, Int.toNat_natCast, Nat.mul_one, Nat.zero_add]
  refine ⟨_, hc1, nilP_some ?_⟩
  have h := hsat
  refine ⟨_, _, _, Sat.ld h (by first | assumption | (repeat (first | exact .head _ | apply List.Mem.tail))) (by exact rfl), ?_⟩
  refine ⟨by omega, by omega, ?_⟩
  have hIn0 := hIn
  obtain ⟨vs1, v, vs2, M1, M2, M3, rfl, rfl, hI1, hIo, hI2⟩ := hIn.mid
  have hl1 := hI1.length
  obtain ⟨ob, oe, rfl, rfl⟩ := hIo
  have hsat3 : Sat σ w (RM ++ (p.at b :: ((M1 ++ ([(ob, cel [.string (bs t), .int .i64 k] oe)] ++ M3)) ++ (OM ++ L)))) := hsat.re (by intro _; simp only [List.append_eq, cnt_append, cnt_cons, cnt_nil] <;> omega)
  refine hS.loadAt hsat3 (j := ts1.length) (v := ptrV ty_P_openPlain ob) (by rw [List.getElem?_append_right (by omega), show ts1.length - vs1.length = 0 by omega]; rfl) fun rb hq2 hc2 => ?_
  simp only [Addr.add_lit, Int.toNat_natCast, Nat.mul_one, Nat.zero_add]
  refine ⟨_, hc2, _, _, ta_open1 w, _, _, _, _, sliceT rowInt.ht rowInt.hi oq on oc opens.length (by have := hO.2.1; omega) w, nilP_some ?_⟩
  have hmo : (ob, cel [.string (bs t), .int .i64 k] oe) ∈ p.at b :: (RM ++ ((M1 ++ ([(ob, cel [.string (bs t), .int .i64 k] oe)] ++ M3)) ++ (OM ++ L))) :=
    .tail _ (List.mem_append_right _ (List.mem_append_left _ (List.mem_append_right _ (List.mem_append_left _ (.head _)))))
  have hb0 : bt (bs t) 0 = ((t.getD 0 0).toNat : Int) := bs_bt t 0
  have htl : 0 < t.length := List.length_pos_iff.2 ht0
  refine ⟨_, Sat.ld h hmo rfl, by decide, by simp; omega, ?_⟩
  rw [hb0]
  have hOs := hO.shrink (m := opens.length) (by omega)
  rw [Nat.mul_one, List.map_append, List.take_left' (by simp)] at hOs
  refine br_false (by rw [ht]; rfl) (nilP_some ⟨_, Sat.ld h hmo rfl, ?_⟩)
  rw [decide_eq_false (by omega)]
  refine br_false rfl ?_
  rw [i64_inc (by omega)]
  exact hnext w p oq _ oc hcS hraw he ⟨_, RM, _, OM, hS, hIn0, hOs, hlen, h⟩
/-! ### Lists without runs -/
def plainO : Inl → Inl
  | .openP s _ => .plain s
  | t => t
def noRun : Inl → Bool
  | .emphP _ _ _ _ _ => false
  | _ => true
theorem emphGo_noRun : ∀ (ts : List Inl) (dst : List Inl) (st : List (List Nat)), (∀ t ∈ ts, noRun t = true) → emphGo dst st ts = dst ++ ts.map plainO
  | [], dst, st, _ => by simp [emphGo]
  | t :: ts, dst, st, h => by
    have ih := fun d s => emphGo_noRun ts d s (fun t' ht' => h t' (List.mem_cons_of_mem _ ht'))
    have ht := h t (.head _)
    cases t <;> first | (simp [noRun] at ht; done) | (simp only [emphGo, ih, plainO, List.map_cons, List.append_assoc, List.singleton_append])
theorem emphM_noRun {ts : List Inl} (h : ∀ t ∈ ts, noRun t = true) : emphM ts = ts.map plainO := by
  unfold emphM; rw [emphGo_noRun ts [] _ h]; rfl
theorem wfE_noRun {ts : List Inl} (h : ∀ t ∈ ts, noRun t = true) : wfE ts := by
  intro s co cc i n hm
  have := h _ hm
  simp [noRun] at this
theorem apartE_noRun : ∀ {ts : List Inl}, (∀ t ∈ ts, noRun t = true) → apartE none ts
  | [], _ => trivial
  | t :: ts, h => by
    have ih := apartE_noRun (ts := ts) (fun t' ht' => h t' (List.mem_cons_of_mem _ ht'))
    have ht := h t (.head _)
    have : headOf t = none := by cases t <;> first | (simp [noRun] at ht; done) | rfl
    exact ⟨.inl rfl, by rw [this]; exact ih⟩
theorem emphOK_noRun {ts : List Inl} (h : ∀ t ∈ ts, noRun t = true) (hts : ts.length < 999999990) : EmphOK ts (ts.map plainO) := by
  have := emphOK_gen (wfE_noRun h) (apartE_noRun h) hts
  rw [emphM_noRun h] at this; exact this
/-! ### Texts that begin with a bracket, and with no definition -/
theorem noRef_two {s : List UInt8} (hl : s.length < 1000000) : NoRef (91 :: 91 :: s) := by
  intro R w q hR
  refine g_parseLinkRefDef.sound ?_
  have hp : pastSTN (91 :: 91 :: s) 0 = 0 := by
    unfold pastSTN; rw [List.drop_zero, List.dropWhile_cons_of_neg (by decide)]; simp
  refine skipSp_ok (i := 0) (by simp; omega) (Nat.zero_le _) ⟨_, rfl, q, w, ta_ps q w, ?_⟩
  rw [hp]
  refine g_parseLinkLabel.sound ?_
  have b0 : bt (bs (91 :: 91 :: s)) ((0 : Nat) : Int) = 91 := by rw [bs_bt]; rfl
  have b1 : bt (bs (91 :: 91 :: s)) ((1 : Nat) : Int) = 91 := by rw [bs_bt]; rfl
  refine ⟨fun _ => ⟨by decide, by simp; omega⟩, br_false (by rw [b0]; simp; omega) ?_⟩
  unfold g_parseLinkLabel.k1
  rw [show IntKind.i64.wrap (((0 : Nat) : Int) + 1) = ((1 : Nat) : Int) from rfl]
  intro X hX
  refine hX _ _ _ _ _ (br_true (by simp; omega) ⟨by decide, by simp; omega, ?_⟩)
  rw [b1]
  refine br_false rfl ⟨by decide, by simp; omega, br_true rfl ⟨_, _, _, rfl, ?_⟩⟩
  exact ⟨fun h => by simp at h, br_true rfl hR⟩
end Go.Proofs.YtmicoampfglaiaaGreatDoor


/- Brackets: destinations that stand plain. -/
set_option linter.unusedVariables false
namespace Go.Proofs.YtmicoampfglaiaaGreatDoor
open Go.Proofs Go.IntWalk Go.RowKit
variable {σ : Out} {w : World} {L L' : List Chunk} {R : Ending → World → Prop}
theorem pastSTN_here {s : List UInt8} {i : Nat} (hi : i < s.length) (h : isSTN (s.getD i 0) = false) : pastSTN s i = i := by
  unfold pastSTN
  rw [List.drop_eq_getElem_cons hi, List.dropWhile_cons_of_neg (by rw [getElem_getD hi 0, h]; decide)]
  simp; omega
theorem mdUnescape_plain {s : List UInt8} (hs : s.length < 4611686018427387904) (h1 : (92 : UInt8) ∉ s) (h2 : (38 : UInt8) ∉ s) (hR : R (.returned (.string (bs s))) w) : callE P i_mdUnescape #[.string (bs s)] R w := by
  refine g_mdUnescape.sound ?_
  refine zzContains_ok (sub := [92]) hs (by decide) ⟨_, rfl, br_true (by rw [idx_none h1]; rfl) ?_⟩
  exact zzContains_ok (sub := [38]) hs (by decide) ⟨_, rfl, br_true (by rw [idx_none h2]; rfl) hR⟩
/-- A byte of a plain destination. -/
def destB (c : UInt8) : Bool := c != 40 && c != 41 && c != 92 && c != 32 && c != 9 && c != 10 && c != 38 && c != 60
theorem parseLinkDest_plain {s D : List UInt8} {i j : Nat} (hs : s.length < 1000000) (hij : i < j) (hj : j < s.length) (hD : sub s i j = D) (hall : ∀ k, i ≤ k → k < j → destB (s.getD k 0) = true) (h41 : s.getD j 0 = 41)
    (hR : R (.returned (.tuple #[.string (bs D), .int .i64 j, .bool true])) w) : callE P i_parseLinkDest #[.string (bs s), .int .i64 i] R w := by
  have nb : ∀ k, i ≤ k → k < j → ∀ d : UInt8, (d = 40 ∨ d = 41 ∨ d = 92 ∨ d = 32 ∨ d = 9 ∨ d = 10 ∨ d = 60) → (bt (bs s) (k : Int) == (d.toNat : Int)) = false := by
    intro k h1 h2 d hd
    rw [bs_bt, u8_beq]
    have := hall k h1 h2
    simp only [destB, Bool.and_eq_true, bne_iff_ne, ne_eq] at this
    obtain ⟨⟨⟨⟨⟨⟨⟨c1, c2⟩, c3⟩, c4⟩, c5⟩, c6⟩, c7⟩, c8⟩ := this
    rcases hd with rfl | rfl | rfl | rfl | rfl | rfl | rfl <;> simpa using ‹_›
  refine g_parseLinkDest.sound ?_
  refine br_false (by simp; omega) ⟨by omega, by simp; omega, br_false (nb i (Nat.le_refl _) hij 60 (by decide)) ?_⟩
  intro X hX
  have hmem : ∀ c ∈ D, destB c = true := by
    intro c hc
    rw [← hD] at hc
    obtain ⟨m, hm, rfl⟩ := List.mem_iff_getElem.1 hc
    have hl := sub_length (s := s) (i := i) (j := j) (by omega)
    rw [getElem_getD hm 0]
    have e : (sub s i j).getD m 0 = s.getD (i + m) 0 := by
      unfold sub
      rw [drop_getD, List.getD_eq_getElem?_getD, List.getD_eq_getElem?_getD, List.getElem?_take_of_lt (by omega)]
    rw [e]; exact hall _ (by omega) (by omega)
  have hDl : D.length < 1000000 := by rw [← hD, sub_length (by omega)]; omega
  have key : ∀ k m, m + k = j → i ≤ m → X (bs s) (i : Int) 0 (m : Int) w := by
    intro k
    induction k with
    | zero =>
      intro m hm him
      obtain rfl : m = j := hm
      have b41 : bt (bs s) (m : Int) = 41 := by rw [bs_bt, h41]; rfl
      refine hX _ _ _ _ _ (br_true (by simp; omega) ⟨by omega, by simp; omega, ?_⟩)
      rw [b41]
      refine br_false rfl (br_true rfl (br_true rfl ⟨by omega, by omega, by simp; omega, ?_⟩))
      rw [Int.toNat_natCast, Int.toNat_natCast, bs_extract, show (s.take m).drop i = D from hD]
      exact mdUnescape_plain (by omega) (fun h => by have := hmem _ h; revert this; decide) (fun h => by have := hmem _ h; revert this; decide) ⟨_, rfl, hR⟩
    | succ k ih =>
      intro m hm him
      have nn := nb m him (by omega)
      refine hX _ _ _ _ _ (br_true (by simp; omega) ⟨by omega, by simp; omega, ?_⟩)
      refine br_false (nn 40 (by decide)) (br_false (nn 41 (by decide)) (br_false (nn 92 (by decide)) (br_false (nn 32 (by decide)) (br_false (nn 9 (by decide)) (br_false (nn 10 (by decide)) ?_)))))
      rw [i64_inc (by omega)]
      exact ih (m + 1) (by omega) (by omega)
  exact key (j - i) i (by omega) (Nat.le_refl _)
theorem getD_at {A B : List UInt8} {i : Nat} (h : A.length = i) (k : Nat) : (A ++ B).getD (i + k) 0 = B.getD k 0 := by
  subst h; rw [getD_app (by omega), Nat.add_sub_cancel_left]
/-- ](D) -/
theorem close_plain {b : Nat} {p : PS} {A B D t : List UInt8} {k : Nat} (hl : (A ++ 93 :: 40 :: (D ++ 41 :: B)).length < 1000000) (hD0 : D ≠ []) (hD : ∀ c ∈ D, destB c = true ∧ isSTN c = false) :
    CloseOK b p (A ++ 93 :: 40 :: (D ++ 41 :: B)) A.length t k [] D [] 0 false (A.length + 3 + D.length) := by
  intro σ R L w ob e _ _ _ h hR
  generalize hs : A ++ 93 :: 40 :: (D ++ 41 :: B) = s at hl ⊢
  have hsl : s.length = A.length + 3 + D.length + B.length := by rw [← hs]; simp; omega
  have hDp := List.length_pos_iff.2 hD0
  have g1 : s.getD (A.length + 1) 0 = 40 := by rw [← hs, getD_at rfl]; rfl
  have gD : ∀ m (hm : m < D.length), s.getD (A.length + 2 + m) 0 = D[m] := by
    intro m hm
    rw [← hs, show A.length + 2 + m = A.length + (m + 2) by omega, getD_at rfl]
    show (D ++ 41 :: B).getD m 0 = _
    rw [getD_app' hm, ← getElem_getD hm]
  have g41 : s.getD (A.length + 2 + D.length) 0 = 41 := by
    rw [← hs, show A.length + 2 + D.length = A.length + (D.length + 2) by omega, getD_at rfl]
    exact getD_mid D B 41 0
  refine g_parseState_parseLinkClose.sound ?_
  unfold g_parseState_parseLinkClose
  rw [i64_inc (by omega), show IntKind.i64.wrap ((A.length : Int) + 2) = ((A.length + 2 : Nat) : Int) by rw [show ((A.length : Int) + 2) = ((A.length + 2 : Nat) : Int) by omega, i64_in _ (by omega)]]
  refine br_true (by simp; omega) ⟨by omega, by simp; omega, ?_⟩
  rw [bs_bt, g1]
  refine br_true rfl ?_
  have hin := gD 0 hDp
  rw [Nat.add_zero] at hin
  have hd0 := hD D[0] (List.getElem_mem hDp)
  refine skipSp_ok (by omega) (by omega) ⟨_, rfl, ?_⟩
  rw [pastSTN_here (by omega) (by rw [hin]; exact hd0.2)]
  refine ⟨fun _ => ⟨by omega, by simp; omega⟩, ?_⟩
  rw [bs_bt, hin]
  refine br_true ?_ ?_
  · have h41 : D[0] ≠ 41 := by intro h; rw [h] at hd0; exact absurd hd0.1 (by decide)
    rw [bne, u8b D[0] 41 41 rfl]; simp [h41]; omega
  refine parseLinkDest_plain (D := D) (j := A.length + 2 + D.length) (by omega) (by omega) (by omega) ?_ (fun m h1 h2 => ?_) g41 ⟨_, _, _, rfl, br_false rfl ?_⟩
  · unfold sub
    rw [← hs, show A ++ 93 :: 40 :: (D ++ 41 :: B) = (A ++ [93, 40]) ++ (D ++ 41 :: B) by simp, ← List.append_assoc, List.take_left' (by simp; omega), List.drop_left' (by simp)]
  · obtain ⟨d, rfl⟩ : ∃ d, m = A.length + 2 + d := ⟨m - (A.length + 2), by omega⟩
    rw [gD d (by omega)]; exact (hD _ (List.getElem_mem _)).1
  refine skipSp_ok (by omega) (by omega) ⟨_, rfl, ?_⟩
  rw [pastSTN_here (by omega) (by rw [g41]; decide)]
  refine ⟨fun _ => ⟨by omega, by simp; omega⟩, ?_⟩
  rw [bs_bt, g41]
  refine br_false (by rw [show (((41 : UInt8).toNat : Int) != 41) = false from rfl, Bool.and_false]) ⟨fun _ => ⟨by omega, by simp; omega⟩, ?_⟩
  rw [bs_bt, g41]
  refine br_true (by rw [show (((41 : UInt8).toNat : Int) == 41) = true from rfl, Bool.and_true]; simp; omega) ?_
  rw [i64_inc (by omega), show A.length + 2 + D.length + 1 = A.length + 3 + D.length by omega]
  exact Sat.bx h fun lb w h => hR w lb h
end Go.Proofs.YtmicoampfglaiaaGreatDoor


set_option linter.unusedVariables false
set_option maxRecDepth 20000
namespace Go.Proofs.YtmicoampfglaiaaGreatDoor
open Go.Proofs
/- 309 (*pub-paratext/pub/rscmarkdown.Emph).PrintHTML -/
namespace g_Emph_PrintHTML
noncomputable def body : Code := bodyOf Tryz.f309
def bl1 (R : EP) (Xa : OA → OA → Nat → Nat → Int → Int → WP) (x1 : OA) (x11q : OA) (x11n : Nat) (x11c : Nat) (x12 : Int) (x13 : Int) (w : World) : Prop :=
 br (decide (x13 < x12))
 (0 ≤ x13 ∧ x13 < (x11n : Int) ∧
 nilP x11q fun a5 =>
 ∃ (v6 : Value), w.cell? (a5.add (Int.toNat x13 * 1)) = some v6 ∧
 enterE P (callMethod v6 "PrintHTML" #[.pointer x1]) (fun e w8 => e = .returned (.tuple #[]) ∧
 Xa x1 x11q x11n x11c x12 (IntKind.i64.wrap (x13 + 1)) w8) w)
 (callE P i_bytes_Buffer_WriteString #[.pointer x1, .string (ByteArray.mk #[60, 47, 101, 109, 62])] (fun e w10 => ∃ (r9_0 : Int), ∃ (r9_1 : Value), e = .returned (.tuple #[.int .i64 r9_0, r9_1]) ∧
 R (.returned (.tuple #[])) w10) w)
def l1 (R : EP) (x1 : OA) (x11q : OA) (x11n : Nat) (x11c : Nat) (x12 : Int) (x13 : Int) (w : World) : Prop :=
  ∀ X : OA → OA → Nat → Nat → Int → Int → WP, (∀ x1 x11q x11n x11c x12 x13 w, bl1 R X x1 x11q x11n x11c x12 x13 w → X x1 x11q x11n x11c x12 x13 w) → X x1 x11q x11n x11c x12 x13 w

noncomputable def al1 (R : EP) (Xa : OA → OA → Nat → Nat → Int → Int → WP) : AC :=
  (.leaf (sel [1, 0, 1, 0, 0] body))
end g_Emph_PrintHTML
def g_Emph_PrintHTML (R : EP) (x0 : OA) (x1 : OA) (w : World) : Prop :=
 callE P i_bytes_Buffer_WriteString #[.pointer x1, .string (ByteArray.mk #[60, 101, 109, 62])] (fun e w2 => ∃ (r1_0 : Int), ∃ (r1_1 : Value), e = .returned (.tuple #[.int .i64 r1_0, r1_1]) ∧
 nilP x0 fun a3 =>
 ∃ (v4q : OA), ∃ (v4n : Nat), ∃ (v4c : Nat), w2.cell? (a3.add 1) = some (.slice v4q v4n v4c) ∧
 g_Emph_PrintHTML.l1 R x1 v4q v4n v4c (v4n : Int) 0 w2) w

noncomputable def g_Emph_PrintHTML.ac (R : EP) : AC :=
  (.seq (.leaf (sel [0] g_Emph_PrintHTML.body)) (.seq (.seq (.leaf (sel [1, 0, 0] g_Emph_PrintHTML.body)) (.block 0 (.loop (leaf [(1, .s .ptr), (11, .s .slice), (12, .s (.int .i64)), (13, .s (.int .i64))] (g_Emph_PrintHTML.l1 R)) (sel [1, 0, 1, 0, 0] g_Emph_PrintHTML.body)))) (.leaf (sel [1, 1] g_Emph_PrintHTML.body))))
theorem g_Emph_PrintHTML.good (R : EP) : Good P 23 (g_Emph_PrintHTML.ac R) (QF P [] R) :=
  ⟨trivial, ⟨⟨trivial, (loopG (g_Emph_PrintHTML.al1 R) (g_Emph_PrintHTML.bl1 R) (fun _ => by kernel_rfl) (fun Xa => trivial) (fun Xa => by intro x1 x11q x11n x11c x12 x13 ρ w; kernel_rfl) (fun X h _ _ _ _ _ _ _ g => g X h))⟩, trivial⟩⟩
theorem g_Emph_PrintHTML.eq (R : EP) (x0 : OA) (x1 : OA) (w : World) : g_Emph_PrintHTML R x0 x1 w = vcA P 23 (g_Emph_PrintHTML.ac R) (QF P [] R) (fr0 [.pointer x0, .pointer x1]) w := by kernel_rfl
theorem g_Emph_PrintHTML.sound {R : EP} {x0 : OA} {x1 : OA} {w : World} (h : g_Emph_PrintHTML R x0 x1 w) : callE P i_Emph_PrintHTML #[.pointer x0, .pointer x1] R w :=
  callE_fin (c := g_Emph_PrintHTML.body) Tryz.func309 Tryz.call309 (by kernel_rfl) (by kernel_rfl) (by kernel_rfl) (by kernel_rfl) (by kernel_rfl) (g_Emph_PrintHTML.good R) (g_Emph_PrintHTML.eq R x0 x1 w) h
/- 317 (*pub-paratext/pub/rscmarkdown.Strong).PrintHTML -/
namespace g_Strong_PrintHTML
noncomputable def body : Code := bodyOf Tryz.f317
def bl1 (R : EP) (Xa : OA → OA → Nat → Nat → Int → Int → WP) (x1 : OA) (x11q : OA) (x11n : Nat) (x11c : Nat) (x12 : Int) (x13 : Int) (w : World) : Prop :=
 br (decide (x13 < x12))
 (0 ≤ x13 ∧ x13 < (x11n : Int) ∧
 nilP x11q fun a5 =>
 ∃ (v6 : Value), w.cell? (a5.add (Int.toNat x13 * 1)) = some v6 ∧
 enterE P (callMethod v6 "PrintHTML" #[.pointer x1]) (fun e w8 => e = .returned (.tuple #[]) ∧
 Xa x1 x11q x11n x11c x12 (IntKind.i64.wrap (x13 + 1)) w8) w)
 (callE P i_bytes_Buffer_WriteString #[.pointer x1, .string (ByteArray.mk #[60, 47, 115, 116, 114, 111, 110, 103, 62])] (fun e w10 => ∃ (r9_0 : Int), ∃ (r9_1 : Value), e = .returned (.tuple #[.int .i64 r9_0, r9_1]) ∧
 R (.returned (.tuple #[])) w10) w)
def l1 (R : EP) (x1 : OA) (x11q : OA) (x11n : Nat) (x11c : Nat) (x12 : Int) (x13 : Int) (w : World) : Prop :=
  ∀ X : OA → OA → Nat → Nat → Int → Int → WP, (∀ x1 x11q x11n x11c x12 x13 w, bl1 R X x1 x11q x11n x11c x12 x13 w → X x1 x11q x11n x11c x12 x13 w) → X x1 x11q x11n x11c x12 x13 w

noncomputable def al1 (R : EP) (Xa : OA → OA → Nat → Nat → Int → Int → WP) : AC :=
  (.leaf (sel [1, 0, 1, 0, 0] body))
end g_Strong_PrintHTML
def g_Strong_PrintHTML (R : EP) (x0 : OA) (x1 : OA) (w : World) : Prop :=
 callE P i_bytes_Buffer_WriteString #[.pointer x1, .string (ByteArray.mk #[60, 115, 116, 114, 111, 110, 103, 62])] (fun e w2 => ∃ (r1_0 : Int), ∃ (r1_1 : Value), e = .returned (.tuple #[.int .i64 r1_0, r1_1]) ∧
 nilP x0 fun a3 =>
 ∃ (v4q : OA), ∃ (v4n : Nat), ∃ (v4c : Nat), w2.cell? (a3.add 1) = some (.slice v4q v4n v4c) ∧
 g_Strong_PrintHTML.l1 R x1 v4q v4n v4c (v4n : Int) 0 w2) w

noncomputable def g_Strong_PrintHTML.ac (R : EP) : AC :=
  (.seq (.leaf (sel [0] g_Strong_PrintHTML.body)) (.seq (.seq (.leaf (sel [1, 0, 0] g_Strong_PrintHTML.body)) (.block 0 (.loop (leaf [(1, .s .ptr), (11, .s .slice), (12, .s (.int .i64)), (13, .s (.int .i64))] (g_Strong_PrintHTML.l1 R)) (sel [1, 0, 1, 0, 0] g_Strong_PrintHTML.body)))) (.leaf (sel [1, 1] g_Strong_PrintHTML.body))))
theorem g_Strong_PrintHTML.good (R : EP) : Good P 23 (g_Strong_PrintHTML.ac R) (QF P [] R) :=
  ⟨trivial, ⟨⟨trivial, (loopG (g_Strong_PrintHTML.al1 R) (g_Strong_PrintHTML.bl1 R) (fun _ => by kernel_rfl) (fun Xa => trivial) (fun Xa => by intro x1 x11q x11n x11c x12 x13 ρ w; kernel_rfl) (fun X h _ _ _ _ _ _ _ g => g X h))⟩, trivial⟩⟩
theorem g_Strong_PrintHTML.eq (R : EP) (x0 : OA) (x1 : OA) (w : World) : g_Strong_PrintHTML R x0 x1 w = vcA P 23 (g_Strong_PrintHTML.ac R) (QF P [] R) (fr0 [.pointer x0, .pointer x1]) w := by kernel_rfl
theorem g_Strong_PrintHTML.sound {R : EP} {x0 : OA} {x1 : OA} {w : World} (h : g_Strong_PrintHTML R x0 x1 w) : callE P i_Strong_PrintHTML #[.pointer x0, .pointer x1] R w :=
  callE_fin (c := g_Strong_PrintHTML.body) Tryz.func317 Tryz.call317 (by kernel_rfl) (by kernel_rfl) (by kernel_rfl) (by kernel_rfl) (by kernel_rfl) (g_Strong_PrintHTML.good R) (g_Strong_PrintHTML.eq R x0 x1 w) h
/- 337 (*pub-paratext/pub/rscmarkdown.AutoLink).PrintHTML -/
namespace g_AutoLink_PrintHTML
noncomputable def body : Code := bodyOf Tryz.f337
end g_AutoLink_PrintHTML
def g_AutoLink_PrintHTML (R : EP) (x0 : OA) (x1 : OA) (w : World) : Prop :=
 tk w fun w1 =>
 nilP x0 fun a2 =>
 nilP x0 fun a3 =>
 ∃ (v4 : BA), w1.cell? (a2.add 1) = some (.string v4) ∧
 ∃ (v5 : BA), w1.cell? a3 = some (.string v5) ∧
 callE P i_htmlLinkEscaper #[] (fun e w7 => ∃ (r6q : OA), ∃ (r6n : Nat), ∃ (r6c : Nat), e = .returned (.slice r6q r6n r6c) ∧
 SameC w1 w7 (a3) 1 ∧
 SameC w1 w7 (a2.add 1) 1 ∧
 callE P i_zzPairs_Replace #[.slice r6q r6n r6c, .string v4] (fun e w9 => ∃ (r8 : BA), e = .returned (.string r8) ∧
 SameC w7 w9 (a3) 1 ∧
 (((ByteArray.mk #[60, 97, 32, 104, 114, 101, 102, 61, 34]).size + r8.size : Nat) : Int) ≤ IntKind.i64.max ∧
 ((((ByteArray.mk #[60, 97, 32, 104, 114, 101, 102, 61, 34]) ++ r8).size + (ByteArray.mk #[34, 62]).size : Nat) : Int) ≤ IntKind.i64.max ∧
 callE P i_htmlEscaper #[] (fun e w11 => ∃ (r10q : OA), ∃ (r10n : Nat), ∃ (r10c : Nat), e = .returned (.slice r10q r10n r10c) ∧
 SameC w9 w11 (a3) 1 ∧
 callE P i_zzPairs_Replace #[.slice r10q r10n r10c, .string v5] (fun e w13 => ∃ (r12 : BA), e = .returned (.string r12) ∧
 (((((ByteArray.mk #[60, 97, 32, 104, 114, 101, 102, 61, 34]) ++ r8) ++ (ByteArray.mk #[34, 62])).size + r12.size : Nat) : Int) ≤ IntKind.i64.max ∧
 ((((((ByteArray.mk #[60, 97, 32, 104, 114, 101, 102, 61, 34]) ++ r8) ++ (ByteArray.mk #[34, 62])) ++ r12).size + (ByteArray.mk #[60, 47, 97, 62]).size : Nat) : Int) ≤ IntKind.i64.max ∧
 callE P i_bytes_Buffer_WriteString #[.pointer x1, .string (((((ByteArray.mk #[60, 97, 32, 104, 114, 101, 102, 61, 34]) ++ r8) ++ (ByteArray.mk #[34, 62])) ++ r12) ++ (ByteArray.mk #[60, 47, 97, 62]))] (fun e w15 => ∃ (r14_0 : Int), ∃ (r14_1 : Value), e = .returned (.tuple #[.int .i64 r14_0, r14_1]) ∧
 R (.returned (.tuple #[])) w15) w13) w11) w9) w7) w1

noncomputable def g_AutoLink_PrintHTML.ac (R : EP) : AC :=
  (.draw (.pure 0 (.pure 2 (.pure 3 (.pure 4 (.pure 10 (.pure 11 (.pure 12 (.load 5 (.load 13 (.one 1 (.one 6 (.pure 7 (.pure 8 (.one 9 (.one 14 (.pure 15 (.pure 16 (.one 17 .done)))))))))))))))))) (sel [] g_AutoLink_PrintHTML.body))
theorem g_AutoLink_PrintHTML.good (R : EP) : Good P 22 (g_AutoLink_PrintHTML.ac R) (QF P [] R) :=
  ⟨by kernel_rfl, by kernel_rfl, fun _ _ _ h => h⟩
theorem g_AutoLink_PrintHTML.eq (R : EP) (x0 : OA) (x1 : OA) (w : World) : g_AutoLink_PrintHTML R x0 x1 w = vcA P 22 (g_AutoLink_PrintHTML.ac R) (QF P [] R) (fr0 [.pointer x0, .pointer x1]) w := by kernel_rfl
theorem g_AutoLink_PrintHTML.sound {R : EP} {x0 : OA} {x1 : OA} {w : World} (h : g_AutoLink_PrintHTML R x0 x1 w) : callE P i_AutoLink_PrintHTML #[.pointer x0, .pointer x1] R w :=
  callE_fin (c := g_AutoLink_PrintHTML.body) Tryz.func337 Tryz.call337 (by kernel_rfl) (by kernel_rfl) (by kernel_rfl) (by kernel_rfl) (by kernel_rfl) (g_AutoLink_PrintHTML.good R) (g_AutoLink_PrintHTML.eq R x0 x1 w) h
/- 293 (*pub-paratext/pub/rscmarkdown.HardBreak).PrintHTML -/
namespace g_HardBreak_PrintHTML
noncomputable def body : Code := bodyOf Tryz.f293
end g_HardBreak_PrintHTML
def g_HardBreak_PrintHTML (R : EP) (x0 : OA) (x1 : OA) (w : World) : Prop :=
 callE P i_bytes_Buffer_WriteString #[.pointer x1, .string (ByteArray.mk #[60, 98, 114, 32, 47, 62, 10])] (fun e w2 => ∃ (r1_0 : Int), ∃ (r1_1 : Value), e = .returned (.tuple #[.int .i64 r1_0, r1_1]) ∧
 R (.returned (.tuple #[])) w2) w

noncomputable def g_HardBreak_PrintHTML.ac (R : EP) : AC :=
  (.leaf (sel [] g_HardBreak_PrintHTML.body))
theorem g_HardBreak_PrintHTML.good (R : EP) : Good P 6 (g_HardBreak_PrintHTML.ac R) (QF P [] R) :=
  trivial
theorem g_HardBreak_PrintHTML.eq (R : EP) (x0 : OA) (x1 : OA) (w : World) : g_HardBreak_PrintHTML R x0 x1 w = vcA P 6 (g_HardBreak_PrintHTML.ac R) (QF P [] R) (fr0 [.pointer x0, .pointer x1]) w := by kernel_rfl
theorem g_HardBreak_PrintHTML.sound {R : EP} {x0 : OA} {x1 : OA} {w : World} (h : g_HardBreak_PrintHTML R x0 x1 w) : callE P i_HardBreak_PrintHTML #[.pointer x0, .pointer x1] R w :=
  callE_fin (c := g_HardBreak_PrintHTML.body) Tryz.func293 Tryz.call293 (by kernel_rfl) (by kernel_rfl) (by kernel_rfl) (by kernel_rfl) (by kernel_rfl) (g_HardBreak_PrintHTML.good R) (g_HardBreak_PrintHTML.eq R x0 x1 w) h
/- 260 (*pub-paratext/pub/rscmarkdown.Link).PrintHTML -/
namespace g_Link_PrintHTML
noncomputable def body : Code := bodyOf Tryz.f260
def bl1 (R : EP) (Xa : OA → OA → Nat → Nat → Int → Int → WP) (x1 : OA) (x36q : OA) (x36n : Nat) (x36c : Nat) (x37 : Int) (x38 : Int) (w : World) : Prop :=
 br (decide (x38 < x37))
 (0 ≤ x38 ∧ x38 < (x36n : Int) ∧
 nilP x36q fun a25 =>
 ∃ (v26 : Value), w.cell? (a25.add (Int.toNat x38 * 1)) = some v26 ∧
 enterE P (callMethod v26 "PrintHTML" #[.pointer x1]) (fun e w28 => e = .returned (.tuple #[]) ∧
 Xa x1 x36q x36n x36c x37 (IntKind.i64.wrap (x38 + 1)) w28) w)
 (callE P i_bytes_Buffer_WriteString #[.pointer x1, .string (ByteArray.mk #[60, 47, 97, 62])] (fun e w30 => ∃ (r29_0 : Int), ∃ (r29_1 : Value), e = .returned (.tuple #[.int .i64 r29_0, r29_1]) ∧
 R (.returned (.tuple #[])) w30) w)
def l1 (R : EP) (x1 : OA) (x36q : OA) (x36n : Nat) (x36c : Nat) (x37 : Int) (x38 : Int) (w : World) : Prop :=
  ∀ X : OA → OA → Nat → Nat → Int → Int → WP, (∀ x1 x36q x36n x36c x37 x38 w, bl1 R X x1 x36q x36n x36c x37 x38 w → X x1 x36q x36n x36c x37 x38 w) → X x1 x36q x36n x36c x37 x38 w

noncomputable def al1 (R : EP) (Xa : OA → OA → Nat → Nat → Int → Int → WP) : AC :=
  (.leaf (sel [1, 1, 1, 0, 1, 0, 0] body))
def k1 (R : EP) (x0 : OA) (x1 : OA) (w : World) : Prop :=
 callE P i_bytes_Buffer_WriteString #[.pointer x1, .string (ByteArray.mk #[62])] (fun e w22 => ∃ (r21_0 : Int), ∃ (r21_1 : Value), e = .returned (.tuple #[.int .i64 r21_0, r21_1]) ∧
 nilP x0 fun a23 =>
 ∃ (v24q : OA), ∃ (v24n : Nat), ∃ (v24c : Nat), w22.cell? a23 = some (.slice v24q v24n v24c) ∧
 l1 R x1 v24q v24n v24c (v24n : Int) 0 w22) w

end g_Link_PrintHTML
def g_Link_PrintHTML (R : EP) (x0 : OA) (x1 : OA) (w : World) : Prop :=
 tk w fun w1 =>
 nilP x0 fun a2 =>
 ∃ (v3 : BA), w1.cell? (a2.add 1) = some (.string v3) ∧
 callE P i_htmlLinkEscaper #[] (fun e w5 => ∃ (r4q : OA), ∃ (r4n : Nat), ∃ (r4c : Nat), e = .returned (.slice r4q r4n r4c) ∧
 SameC w1 w5 (a2.add 1) 1 ∧
 callE P i_zzPairs_Replace #[.slice r4q r4n r4c, .string v3] (fun e w7 => ∃ (r6 : BA), e = .returned (.string r6) ∧
 (((ByteArray.mk #[60, 97, 32, 104, 114, 101, 102, 61, 34]).size + r6.size : Nat) : Int) ≤ IntKind.i64.max ∧
 ((((ByteArray.mk #[60, 97, 32, 104, 114, 101, 102, 61, 34]) ++ r6).size + (ByteArray.mk #[34]).size : Nat) : Int) ≤ IntKind.i64.max ∧
 callE P i_bytes_Buffer_WriteString #[.pointer x1, .string (((ByteArray.mk #[60, 97, 32, 104, 114, 101, 102, 61, 34]) ++ r6) ++ (ByteArray.mk #[34]))] (fun e w9 => ∃ (r8_0 : Int), ∃ (r8_1 : Value), e = .returned (.tuple #[.int .i64 r8_0, r8_1]) ∧
 nilP x0 fun a10 =>
 ∃ (v11 : BA), w9.cell? (a10.add 2) = some (.string v11) ∧
 br (!(v11.toList == (ByteArray.mk #[]).toList))
 (tk w9 fun w12 =>
 nilP x0 fun a13 =>
 ∃ (v14 : BA), w12.cell? (a13.add 2) = some (.string v14) ∧
 callE P i_htmlQuoteEscaper #[] (fun e w16 => ∃ (r15q : OA), ∃ (r15n : Nat), ∃ (r15c : Nat), e = .returned (.slice r15q r15n r15c) ∧
 SameC w12 w16 (a13.add 2) 1 ∧
 callE P i_zzPairs_Replace #[.slice r15q r15n r15c, .string v14] (fun e w18 => ∃ (r17 : BA), e = .returned (.string r17) ∧
 (((ByteArray.mk #[32, 116, 105, 116, 108, 101, 61, 34]).size + r17.size : Nat) : Int) ≤ IntKind.i64.max ∧
 ((((ByteArray.mk #[32, 116, 105, 116, 108, 101, 61, 34]) ++ r17).size + (ByteArray.mk #[34]).size : Nat) : Int) ≤ IntKind.i64.max ∧
 callE P i_bytes_Buffer_WriteString #[.pointer x1, .string (((ByteArray.mk #[32, 116, 105, 116, 108, 101, 61, 34]) ++ r17) ++ (ByteArray.mk #[34]))] (fun e w20 => ∃ (r19_0 : Int), ∃ (r19_1 : Value), e = .returned (.tuple #[.int .i64 r19_0, r19_1]) ∧
 g_Link_PrintHTML.k1 R x0 x1 w20) w18) w16) w12)
 (g_Link_PrintHTML.k1 R x0 x1 w9)) w7) w5) w1

noncomputable def g_Link_PrintHTML.ac (R : EP) : AC :=
  (.seq (.draw (.pure 0 (.pure 2 (.pure 3 (.pure 4 (.load 5 (.one 1 (.one 6 (.pure 7 (.pure 8 (.one 9 .done)))))))))) (sel [0] g_Link_PrintHTML.body)) (.seq (.seq (.leaf (sel [1, 0, 0] g_Link_PrintHTML.body)) (.cond 20 (.draw (.pure 0 (.pure 2 (.pure 3 (.pure 4 (.load 5 (.one 1 (.one 6 (.pure 7 (.pure 8 (.one 9 .done)))))))))) (sel [1, 0, 1, 0] g_Link_PrintHTML.body)) (.leaf (sel [1, 0, 1, 1] g_Link_PrintHTML.body)))) (.mark (leaf [(0, .s .ptr), (1, .s .ptr)] (g_Link_PrintHTML.k1 R)) (.seq (.leaf (sel [1, 1, 0] g_Link_PrintHTML.body)) (.seq (.seq (.leaf (sel [1, 1, 1, 0, 0] g_Link_PrintHTML.body)) (.block 0 (.loop (leaf [(1, .s .ptr), (36, .s .slice), (37, .s (.int .i64)), (38, .s (.int .i64))] (g_Link_PrintHTML.l1 R)) (sel [1, 1, 1, 0, 1, 0, 0] g_Link_PrintHTML.body)))) (.leaf (sel [1, 1, 1, 1] g_Link_PrintHTML.body)))))))
theorem g_Link_PrintHTML.good (R : EP) : Good P 48 (g_Link_PrintHTML.ac R) (QF P [] R) :=
  ⟨⟨by kernel_rfl, by kernel_rfl, fun _ _ _ h => h⟩, ⟨⟨trivial, ⟨⟨by kernel_rfl, by kernel_rfl, fun _ _ _ h => h⟩, trivial⟩⟩, ⟨⟨trivial, ⟨⟨trivial, (loopG (g_Link_PrintHTML.al1 R) (g_Link_PrintHTML.bl1 R) (fun _ => by kernel_rfl) (fun Xa => trivial) (fun Xa => by intro x1 x36q x36n x36c x37 x38 ρ w; kernel_rfl) (fun X h _ _ _ _ _ _ _ g => g X h))⟩, trivial⟩⟩, cutE (by intro x0 x1 ρ w; kernel_rfl)⟩⟩⟩
theorem g_Link_PrintHTML.eq (R : EP) (x0 : OA) (x1 : OA) (w : World) : g_Link_PrintHTML R x0 x1 w = vcA P 48 (g_Link_PrintHTML.ac R) (QF P [] R) (fr0 [.pointer x0, .pointer x1]) w := by kernel_rfl
theorem g_Link_PrintHTML.sound {R : EP} {x0 : OA} {x1 : OA} {w : World} (h : g_Link_PrintHTML R x0 x1 w) : callE P i_Link_PrintHTML #[.pointer x0, .pointer x1] R w :=
  callE_fin (c := g_Link_PrintHTML.body) Tryz.func260 Tryz.call260 (by kernel_rfl) (by kernel_rfl) (by kernel_rfl) (by kernel_rfl) (by kernel_rfl) (g_Link_PrintHTML.good R) (g_Link_PrintHTML.eq R x0 x1 w) h
/- 301 (*pub-paratext/pub/rscmarkdown.SoftBreak).PrintHTML -/
namespace g_SoftBreak_PrintHTML
noncomputable def body : Code := bodyOf Tryz.f301
end g_SoftBreak_PrintHTML
def g_SoftBreak_PrintHTML (R : EP) (x0 : OA) (x1 : OA) (w : World) : Prop :=
 callE P i_bytes_Buffer_WriteString #[.pointer x1, .string (ByteArray.mk #[10])] (fun e w2 => ∃ (r1_0 : Int), ∃ (r1_1 : Value), e = .returned (.tuple #[.int .i64 r1_0, r1_1]) ∧
 R (.returned (.tuple #[])) w2) w

noncomputable def g_SoftBreak_PrintHTML.ac (R : EP) : AC :=
  (.leaf (sel [] g_SoftBreak_PrintHTML.body))
theorem g_SoftBreak_PrintHTML.good (R : EP) : Good P 6 (g_SoftBreak_PrintHTML.ac R) (QF P [] R) :=
  trivial
theorem g_SoftBreak_PrintHTML.eq (R : EP) (x0 : OA) (x1 : OA) (w : World) : g_SoftBreak_PrintHTML R x0 x1 w = vcA P 6 (g_SoftBreak_PrintHTML.ac R) (QF P [] R) (fr0 [.pointer x0, .pointer x1]) w := by kernel_rfl
theorem g_SoftBreak_PrintHTML.sound {R : EP} {x0 : OA} {x1 : OA} {w : World} (h : g_SoftBreak_PrintHTML R x0 x1 w) : callE P i_SoftBreak_PrintHTML #[.pointer x0, .pointer x1] R w :=
  callE_fin (c := g_SoftBreak_PrintHTML.body) Tryz.func301 Tryz.call301 (by kernel_rfl) (by kernel_rfl) (by kernel_rfl) (by kernel_rfl) (by kernel_rfl) (g_SoftBreak_PrintHTML.good R) (g_SoftBreak_PrintHTML.eq R x0 x1 w) h
end Go.Proofs.YtmicoampfglaiaaGreatDoor

/- Leaves and links print themselves. -/
set_option linter.unusedVariables false
namespace Go.Proofs.YtmicoampfglaiaaGreatDoor
open Go.Proofs Go.IntWalk Go.RowKit
variable {σ : Out} {w : World} {L L' : List Chunk} {R : Ending → World → Prop}
/-- A method of a struct that is embedded first, met through a pointer. -/
def methB1 (P : Program) (t : TypeId) (name : String) (f : FuncId) : Bool :=
  match P.info? t with
  | some i => match i.methods.find? (·.name == name) with
    | some m => match m.path.toList with
      | [s] => s.deref && (match P.underlying s.struct with
        | some (.struct fields) => match fields[s.index]? with
          | some fd => Nat.beq fd.offset 0 && (match P.info? fd.type with
            | some ti => !(Nat.beq ti.size 0) && (match P.underlying fd.type with
              | some (.struct _) => (match m.func with | some (g, true) => Nat.beq g f | _ => false)
              | _ => false)
            | none => false)
          | none => false
        | _ => false)
      | _ => false
    | none => false
  | none => false
theorem methB1_run {P : Program} {t : TypeId} {name : String} {f : FuncId} (h : methB1 P t name f = true) (b : Nat) (fuel : Nat) (w : World) :
    (Go.method (fuel + 1) t (.pointer (some ⟨b, 0, none⟩)) name).run P w = .ok (f, .pointer (some ⟨b, 0, none⟩)) w := by
  unfold methB1 at h
  split at h
  · rename_i i hi
    split at h
    · rename_i m hm
      split at h
      · rename_i s hp
        simp only [Bool.and_eq_true] at h
        obtain ⟨hd, h⟩ := h
        split at h
        · rename_i fields hu
          split at h
          · rename_i fd hf
            simp only [Bool.and_eq_true] at h
            obtain ⟨h0, h⟩ := h
            have h0 := Nat.eq_of_beq_eq_true h0
            split at h
            · rename_i ti hti
              simp only [Bool.and_eq_true, Bool.not_eq_true'] at h
              obtain ⟨hsz, h⟩ := h
              have hsz : ti.size ≠ 0 := by intro h1; rw [h1] at hsz; simp at hsz
              split at h
              · rename_i fs hfu
                split at h
                · rename_i g hg
                  have hgf := Nat.eq_of_beq_eq_true h
                  subst hgf
                  simp [Go.method, typeInfo, hi, hm, hp, Go.follow, run_underlying hu, hf, hd, Go.Place.get, asAddr, Go.fieldPlace, sizeOf, hti, hsz, h0, hg, Go.receiverAt, run_underlying hfu, Addr.add_lit]
                · cases h
              · cases h
            · cases h
          · cases h
        · cases h
      · cases h
    · cases h
  · cases h
theorem enter_meth1 {t : TypeId} {name : String} {f : FuncId} {b : Nat} {args : Array Value} (hm : methB1 P t name f = true) (h : callE P f (#[.pointer (some ⟨b, 0, none⟩)] ++ args) R w) :
    enterE P (callMethod (.iface t (.pointer (some ⟨b, 0, none⟩))) name args) R w := by
  obtain ⟨n, hn⟩ := depth_succ P
  have hr := methB1_run hm b n w
  have e : (callMethod (.iface t (.pointer (some ⟨b, 0, none⟩))) name args).run P w = (callFunc f (#[.pointer (some ⟨b, 0, none⟩)] ++ args)).run P w := by
    simp only [callMethod, Sem.run_bind, run_program, Result.andThen_ok, hn, hr]
  unfold enterE
  rw [e]
  exact h.imp (fun h => ⟨f, _, w, h.1 _ _, h.2⟩) id
theorem meth_EscapedP : methB1 P ty_P_Escaped "PrintHTML" i_Plain_PrintHTML = true := by kernel_rfl
theorem meth_Soft : methB P ty_P_SoftBreak "PrintHTML" i_SoftBreak_PrintHTML = true := by kernel_rfl
theorem meth_Hard : methB P ty_P_HardBreak "PrintHTML" i_HardBreak_PrintHTML = true := by kernel_rfl
theorem meth_Auto : methB P ty_P_AutoLink "PrintHTML" i_AutoLink_PrintHTML = true := by kernel_rfl
theorem meth_Link : methB P ty_P_Link "PrintHTML" i_Link_PrintHTML = true := by kernel_rfl
theorem esc_prints {pb : Nat} {s : List UInt8} {cs : List Value} {e : TypeId} (hs : s.length < 4294967296) :
    Prints "PrintHTML" (.iface ty_P_Escaped (.pointer (some ⟨pb, 0, none⟩))) [(pb, cel (.string (bs s) :: cs) e)] [(pb, cel (.string (bs s) :: cs) e)] (ab (escS htmlPs s)) := by
  refine ⟨ab_le _, fun σ R b l M L w hB h hb hR => enter_meth1 meth_EscapedP ?_⟩
  exact plainPrint_ok hB h hs (Nat.le_trans (ab_le _ l) hb) hR
def softT : List UInt8 := [10]
def hardT : List UInt8 := [60, 98, 114, 32, 47, 62, 10]
theorem soft_prints {b : Nat} {T : List Chunk} : Prints "PrintHTML" (ptrV ty_P_SoftBreak b) T T (ab softT) := by
  refine ⟨ab_le _, fun σ R bb l M L w hB h hb hR => enter_meth meth_Soft ?_⟩
  refine g_SoftBreak_PrintHTML.sound ?_
  have hb' : (l ++ softT).length ≤ 549755813888 := hb
  rw [List.length_append] at hb'
  exact writeS_ok (s := softT) hB h (by omega) fun w M hB h => ⟨_, _, rfl, hR w M hB h⟩
theorem hard_prints {b : Nat} {T : List Chunk} : Prints "PrintHTML" (ptrV ty_P_HardBreak b) T T (ab hardT) := by
  refine ⟨ab_le _, fun σ R bb l M L w hB h hb hR => enter_meth meth_Hard ?_⟩
  refine g_HardBreak_PrintHTML.sound ?_
  have hb' : (l ++ hardT).length ≤ 549755813888 := hb
  rw [List.length_append] at hb'
  exact writeS_ok (s := hardT) hB h (by omega) fun w M hB h => ⟨_, _, rfl, hR w M hB h⟩
def aHref : List UInt8 := [60, 97, 32, 104, 114, 101, 102, 61, 34]
def aEnd : List UInt8 := [60, 47, 97, 62]
def tAttr : List UInt8 := [32, 116, 105, 116, 108, 101, 61, 34]
theorem linkPs8 : small8 linkPs = true := by decide
theorem linkPs_len : linkPs.length = 170 := by kernel_rfl
theorem linkReplace_ok {pb c : Nat} {e : TypeId} {s : List UInt8} (h : Sat σ w L) (hp : (pb, cel (pairC linkPs) e) ∈ L) (hs : s.length < 4294967296) (hR : ∀ w, Sat σ w L → R (.returned (.string (bs (escS linkPs s)))) w) :
    callE P i_zzPairs_Replace #[.slice (some ⟨pb, 0, none⟩) 340 c, .string (bs s)] R w := by
  have := pairsReplace_ok (c := c) (R := R) h hp linkPs8 (by rw [linkPs_len]; decide) hs hR
  rw [linkPs_len] at this
  exact this
theorem auto_prints {b : Nat} {e : TypeId} {t u : List UInt8} (ht : t.length < 100000000) (hu : u.length < 100000000) :
    Prints "PrintHTML" (ptrV ty_P_AutoLink b) [(b, cel [.string (bs t), .string (bs u)] e)] [(b, cel [.string (bs t), .string (bs u)] e)] (ab (aHref ++ escS linkPs u ++ [34, 62] ++ escS htmlPs t ++ aEnd)) := by
  refine ⟨ab_le _, fun σ R bb l M L w hB h hb hR => enter_meth meth_Auto ?_⟩
  have hmax : IntKind.i64.max = 9223372036854775807 := rfl
  have l1 := escS_length linkPs8 u
  have l2 := escS_length (ps := htmlPs) (by decide) t
  have hb' : (l ++ (aHref ++ escS linkPs u ++ [34, 62] ++ escS htmlPs t ++ aEnd)).length ≤ 549755813888 := hb
  rw [List.length_append] at hb'
  refine g_AutoLink_PrintHTML.sound ?_
  refine Sat.tk h fun w h => ?_
  refine nilP_some (nilP_some ?_)
  have hm : ∀ {M : List Chunk}, (b, cel [.string (bs t), .string (bs u)] e) ∈ M ++ ([(b, cel [.string (bs t), .string (bs u)] e)] ++ L) := List.mem_append_right _ (.head _)
  refine ⟨_, Sat.ld h (i := 1) hm rfl, _, Sat.ld h (i := 0) hm rfl, ?_⟩
  have h0 := h
  refine htmlLinkEscaper_ok h fun w eb h => ⟨_, _, _, rfl, h0.same h hm (.tail _ hm) 1, h0.same h hm (.tail _ hm) 1, ?_⟩
  have h0 := h
  refine linkReplace_ok h (.head _) (by omega) fun w h => ⟨_, rfl, h0.same h (.tail _ hm) (.tail _ hm) 1, ?_⟩
  rw [show ByteArray.mk #[60, 97, 32, 104, 114, 101, 102, 61, 34] = bs aHref from rfl, show ByteArray.mk #[34, 62] = bs [34, 62] from rfl, show ByteArray.mk #[60, 47, 97, 62] = bs aEnd from rfl, bs_append, bs_append]
  refine ⟨by rw [hmax]; simp [aHref]; omega, by rw [hmax]; simp [aHref]; omega, ?_⟩
  have h0 := h
  refine htmlEscaper_ok h fun w eb2 h => ⟨_, _, _, rfl, h0.same h (.tail _ hm) (.tail _ (.tail _ hm)) 1, ?_⟩
  refine pairsReplace_ok (ps := htmlPs) h (.head _) (by decide) (by decide) (by omega) fun w h => ⟨_, rfl, ?_⟩
  rw [bs_append, bs_append]
  refine ⟨by rw [hmax]; simp [aHref]; omega, by rw [hmax]; simp [aHref, aEnd]; omega, ?_⟩
  have h : Sat σ w (M ++ ([(b, cel [.string (bs t), .string (bs u)] e)] ++ L)) := h.tail.tail
  exact writeS_ok hB h (by omega) fun w M hB h => ⟨_, _, rfl, hR w M hB h⟩
/-- What stands ahead of a link's text. -/
def linkO (u t : List UInt8) : List UInt8 := aHref ++ escS linkPs u ++ [34] ++ (if t = [] then [] else tAttr ++ escS htmlPs t ++ [34]) ++ [62]
theorem link_prints {b : Nat} {e : TypeId} {u t : List UInt8} {cs : List Value} {q : Option Addr} {n c : Nat} {vs : List Value} {RM KM KM' : List Chunk} {f : List UInt8 → List UInt8} (hu : u.length < 100000000) (ht : t.length < 100000000) (hS : Sl 1 ty_Inline q n c vs RM) (hn : n < 4611686018427387904) (hP : PrintsL "PrintHTML" vs KM KM' f) :
    Prints "PrintHTML" (ptrV ty_P_Link b) ((b, cel (.slice q n c :: .string (bs u) :: .string (bs t) :: cs) e) :: (RM ++ KM)) ((b, cel (.slice q n c :: .string (bs u) :: .string (bs t) :: cs) e) :: (RM ++ KM')) (fun l => f (l ++ linkO u t) ++ aEnd) := by
  have hmax : IntKind.i64.max = 9223372036854775807 := rfl
  have l1 := escS_length linkPs8 u
  have l2 := escS_length (ps := htmlPs) (by decide) t
  refine ⟨fun l => ?_, fun σ R bb l M L w hB h hb hR => enter_meth meth_Link ?_⟩
  · have := hP.mono (l ++ linkO u t)
    simp only [List.length_append] at *; omega
  have hm := hP.mono (l ++ linkO u t)
  simp only [List.length_append] at hb hm
  refine g_Link_PrintHTML.sound ?_
  have hmem : ∀ {M : List Chunk}, (b, cel (.slice q n c :: .string (bs u) :: .string (bs t) :: cs) e) ∈ M ++ ((b, cel (.slice q n c :: .string (bs u) :: .string (bs t) :: cs) e) :: (RM ++ KM) ++ L) := List.mem_append_right _ (.head _)
  refine Sat.tk h fun w h => ?_
  refine nilP_some ⟨_, Sat.ld h (i := 1) hmem rfl, ?_⟩
  have h0 := h
  refine htmlLinkEscaper_ok h fun w eb h => ⟨_, _, _, rfl, h0.same h hmem (.tail _ hmem) 1, ?_⟩
  refine linkReplace_ok h (.head _) (by omega) fun w h => ⟨_, rfl, ?_⟩
  rw [show ByteArray.mk #[60, 97, 32, 104, 114, 101, 102, 61, 34] = bs aHref from rfl, show ByteArray.mk #[34] = bs [34] from rfl, bs_append, bs_append]
  have hlo : (linkO u t).length = (aHref ++ escS linkPs u ++ [34]).length + (if t = [] then [] else tAttr ++ escS htmlPs t ++ [34] : List UInt8).length + 1 := by simp [linkO]; omega
  refine ⟨by rw [hmax]; simp [aHref]; omega, by rw [hmax]; simp [aHref]; omega, ?_⟩
  have h : Sat σ w (M ++ ((b, cel (.slice q n c :: .string (bs u) :: .string (bs t) :: cs) e) :: (RM ++ KM) ++ L)) := h.tail
  refine writeS_ok hB h (by omega) fun w M hB h => ⟨_, _, rfl, ?_⟩
  refine nilP_some ⟨_, Sat.ld h (i := 2) hmem rfl, ?_⟩
  have k1 : ∀ w M, Buf bb (l ++ (aHref ++ escS linkPs u ++ [34] ++ (if t = [] then [] else tAttr ++ escS htmlPs t ++ [34]))) M → Sat σ w (M ++ ((b, cel (.slice q n c :: .string (bs u) :: .string (bs t) :: cs) e) :: (RM ++ KM) ++ L)) → g_Link_PrintHTML.k1 R (some ⟨b, 0, none⟩) (some ⟨bb, 0, none⟩) w := by
    intro w M hB h
    refine writeS_ok (s := [62]) hB h (by simp only [List.length_append, List.length_cons, List.length_nil] at hlo ⊢; omega) fun w M hB h => ⟨_, _, rfl, ?_⟩
    refine nilP_some ⟨_, _, _, Sat.ld h (i := 0) hmem rfl, ?_⟩
    intro X hX
    have e1 : l ++ (aHref ++ escS linkPs u ++ [34] ++ (if t = [] then [] else tAttr ++ escS htmlPs t ++ [34])) ++ [62] = l ++ linkO u t := by simp [linkO]
    rw [e1] at hB
    have h : Sat σ w (M ++ (RM ++ (KM ++ ((b, cel (.slice q n c :: .string (bs u) :: .string (bs t) :: cs) e) :: L)))) := h.re (by intro _; simp only [List.append_eq, cnt_append, cnt_cons, cnt_nil] <;> omega)
    refine printLoop (X := fun j w => X (some ⟨bb, 0, none⟩) q n c (n : Int) j w) (END := fun w => callE P i_bytes_Buffer_WriteString #[.pointer (some ⟨bb, 0, none⟩), .string (bs aEnd)] (fun e w10 => ∃ (r9_0 : Int), ∃ (r9_1 : Value), e = .returned (.tuple #[.int .i64 r9_0, r9_1]) ∧ R (.returned (.tuple #[])) w10) w) hS (fun j w hj => hX _ _ _ _ _ _ _ hj) hP hB h hn (by simp only [List.length_append] at *; omega) fun w M' hB h => ?_
    refine writeS_ok (s := aEnd) hB h (by simp only [List.length_append] at *; omega) fun w M hB h => ⟨_, _, rfl, ?_⟩
    exact hR w M hB (h.re (by intro _; simp only [List.append_eq, cnt_append, cnt_cons, cnt_nil] <;> omega))
  by_cases ht0 : t = []
  · refine br_false (by rw [ht0, bs_toList, mk_toList]; rfl) (k1 w M ?_ h)
    rw [if_pos ht0, List.append_nil]; exact hB
  · refine br_true (by rw [bs_toList, mk_toList]; simpa using ht0) ?_
    rw [if_neg ht0] at hlo
    simp only [List.length_append, List.length_cons, List.length_nil] at hlo
    refine Sat.tk h fun w h => ?_
    refine nilP_some ⟨_, Sat.ld h (i := 2) hmem rfl, ?_⟩
    have h0 := h
    refine htmlQuoteEscaper_ok h fun w eb h => ⟨_, _, _, rfl, h0.same h hmem (.tail _ hmem) 1, ?_⟩
    refine pairsReplace_ok (ps := htmlPs) h (.head _) (by decide) (by decide) (by omega) fun w h => ⟨_, rfl, ?_⟩
    rw [show ByteArray.mk #[32, 116, 105, 116, 108, 101, 61, 34] = bs tAttr from rfl, bs_append, bs_append]
    refine ⟨by rw [hmax]; simp [tAttr]; omega, by rw [hmax]; simp [tAttr]; omega, ?_⟩
    have h : Sat σ w (M ++ ((b, cel (.slice q n c :: .string (bs u) :: .string (bs t) :: cs) e) :: (RM ++ KM) ++ L)) := h.tail
    refine writeS_ok hB h (by simp only [List.length_append, List.length_cons, List.length_nil] at hlo ⊢; omega) fun w M hB h => ⟨_, _, rfl, k1 w M ?_ h⟩
    rw [if_neg ht0, ← List.append_assoc]; exact hB
end Go.Proofs.YtmicoampfglaiaaGreatDoor


/- Inlines print themselves. -/
set_option linter.unusedVariables false
namespace Go.Proofs.YtmicoampfglaiaaGreatDoor
open Go.Proofs Go.IntWalk Go.RowKit
variable {σ : Out} {w : World} {L L' : List Chunk} {R : Ending → World → Prop}
theorem meth_Strong : methB P ty_P_Strong "PrintHTML" i_Strong_PrintHTML = true := by kernel_rfl
theorem meth_Emph : methB P ty_P_Emph "PrintHTML" i_Emph_PrintHTML = true := by kernel_rfl
def oStrong : List UInt8 := [60, 115, 116, 114, 111, 110, 103, 62]
def cStrong : List UInt8 := [60, 47, 115, 116, 114, 111, 110, 103, 62]
def oEm : List UInt8 := [60, 101, 109, 62]
def cEm : List UInt8 := [60, 47, 101, 109, 62]
theorem strong_prints {b : Nat} {e : TypeId} {m : Value} {q : Option Addr} {n c : Nat} {vs : List Value} {RM KM KM' : List Chunk} {f : List UInt8 → List UInt8} (hS : Sl 1 ty_Inline q n c vs RM) (hn : n < 4611686018427387904) (hP : PrintsL "PrintHTML" vs KM KM' f) :
    Prints "PrintHTML" (.iface ty_P_Strong (.pointer (some ⟨b, 0, none⟩))) ((b, cel [m, .slice q n c] e) :: (RM ++ KM)) ((b, cel [m, .slice q n c] e) :: (RM ++ KM')) (fun l => f (l ++ oStrong) ++ cStrong) := by
  refine ⟨fun l => ?_, fun σ R bb l M L w hB h hb hR => enter_meth meth_Strong ?_⟩
  · have := hP.mono (l ++ oStrong)
    simp only [List.length_append] at *; omega
  refine g_Strong_PrintHTML.sound ?_
  have hm := hP.mono (l ++ oStrong)
  simp only [List.length_append] at hb hm
  refine writeS_ok (s := oStrong) hB h (by omega) fun w M hB h => ⟨_, _, rfl, ?_⟩
  refine nilP_some ?_
  refine ⟨_, _, _, Sat.ld h (List.mem_append_right _ (.head _)) rfl, ?_⟩
  intro X hX
  have h : Sat σ w (M ++ (RM ++ (KM ++ ((b, cel [m, .slice q n c] e) :: L)))) := h.re (by intro _; simp only [List.append_eq, cnt_append, cnt_cons, cnt_nil] <;> omega)
  refine printLoop (X := fun j w => X (some ⟨bb, 0, none⟩) q n c (n : Int) j w) (END := fun w => callE P i_bytes_Buffer_WriteString #[.pointer (some ⟨bb, 0, none⟩), .string (bs cStrong)] (fun e w10 => ∃ (r9_0 : Int), ∃ (r9_1 : Value), e = .returned (.tuple #[.int .i64 r9_0, r9_1]) ∧ R (.returned (.tuple #[])) w10) w) hS (fun j w hj => hX _ _ _ _ _ _ _ hj) hP hB h hn (by omega) fun w M' hB h => ?_
  refine writeS_ok (s := cStrong) hB h (by omega) fun w M hB h => ⟨_, _, rfl, ?_⟩
  exact hR w M hB (h.re (by intro _; simp only [List.append_eq, cnt_append, cnt_cons, cnt_nil] <;> omega))
theorem em_prints {b : Nat} {e : TypeId} {m : Value} {q : Option Addr} {n c : Nat} {vs : List Value} {RM KM KM' : List Chunk} {f : List UInt8 → List UInt8} (hS : Sl 1 ty_Inline q n c vs RM) (hn : n < 4611686018427387904) (hP : PrintsL "PrintHTML" vs KM KM' f) :
    Prints "PrintHTML" (.iface ty_P_Emph (.pointer (some ⟨b, 0, none⟩))) ((b, cel [m, .slice q n c] e) :: (RM ++ KM)) ((b, cel [m, .slice q n c] e) :: (RM ++ KM')) (fun l => f (l ++ oEm) ++ cEm) := by
  refine ⟨fun l => ?_, fun σ R bb l M L w hB h hb hR => enter_meth meth_Emph ?_⟩
  · have := hP.mono (l ++ oEm)
    simp only [List.length_append] at *; omega
  refine g_Emph_PrintHTML.sound ?_
  have hm := hP.mono (l ++ oEm)
  simp only [List.length_append] at hb hm
  refine writeS_ok (s := oEm) hB h (by omega) fun w M hB h => ⟨_, _, rfl, ?_⟩
  refine nilP_some ?_
  refine ⟨_, _, _, Sat.ld h (List.mem_append_right _ (.head _)) rfl, ?_⟩
  intro X hX
  have h : Sat σ w (M ++ (RM ++ (KM ++ ((b, cel [m, .slice q n c] e) :: L)))) := h.re (by intro _; simp only [List.append_eq, cnt_append, cnt_cons, cnt_nil] <;> omega)
  refine printLoop (X := fun j w => X (some ⟨bb, 0, none⟩) q n c (n : Int) j w) (END := fun w => callE P i_bytes_Buffer_WriteString #[.pointer (some ⟨bb, 0, none⟩), .string (bs cEm)] (fun e w10 => ∃ (r9_0 : Int), ∃ (r9_1 : Value), e = .returned (.tuple #[.int .i64 r9_0, r9_1]) ∧ R (.returned (.tuple #[])) w10) w) hS (fun j w hj => hX _ _ _ _ _ _ _ hj) hP hB h hn (by omega) fun w M' hB h => ?_
  refine writeS_ok (s := cEm) hB h (by omega) fun w M hB h => ⟨_, _, rfl, ?_⟩
  exact hR w M hB (h.re (by intro _; simp only [List.append_eq, cnt_append, cnt_cons, cnt_nil] <;> omega))
/-! ### In general -/
mutual
/-- What an inline prints (of the kinds that are covered). -/
def outI : Inl → List UInt8
  | .plain s => escS htmlPs s
  | .strong _ ks => oStrong ++ outL ks ++ cStrong
  | .emph _ ks => oEm ++ outL ks ++ cEm
  | .esc s => escS htmlPs s
  | .auto t u => aHref ++ escS linkPs u ++ [34, 62] ++ escS htmlPs t ++ aEnd
  | .link ks u t _ _ => linkO u t ++ outL ks ++ aEnd
  | .soft => softT
  | .hard => hardT
  | _ => []
def outL : List Inl → List UInt8
  | [] => []
  | t :: ts => outI t ++ outL ts
end
mutual
def okI : Inl → Prop
  | .plain s => s.length < 4294967296
  | .strong _ ks => okL ks ∧ ks.length < 1073741824
  | .emph _ ks => okL ks ∧ ks.length < 1073741824
  | .esc s => s.length < 4294967296
  | .auto t u => t.length < 100000000 ∧ u.length < 100000000
  | .link ks u t _ _ => okL ks ∧ ks.length < 1073741824 ∧ u.length < 100000000 ∧ t.length < 100000000
  | .soft => True
  | .hard => True
  | _ => False
def okL : List Inl → Prop
  | [] => True
  | t :: ts => okI t ∧ okL ts
end
theorem Prints.as {m : String} {v : Value} {T T' : List Chunk} {f g : List UInt8 → List UInt8} (h : Prints m v T T' f) (e : f = g) : Prints m v T T' g := e ▸ h
theorem PrintsL.as {m : String} {v : List Value} {T T' : List Chunk} {f g : List UInt8 → List UInt8} (h : PrintsL m v T T' f) (e : f = g) : PrintsL m v T T' g := e ▸ h
mutual
theorem inl_prints : ∀ (t : Inl) (v : Value) (M : List Chunk), InlAt t v M → okI t → Prints "PrintHTML" v M M (ab (outI t))
  | .plain s, v, M, h, ho => by
    obtain ⟨b, cs, e, rfl, rfl⟩ := h
    exact plain_prints ho
  | .strong m ks, v, M, h, ho => by
    obtain ⟨b, e, q, n, c, vs, RM, KM, rfl, rfl, hS, hI⟩ := h
    have hl := hI.length
    have h0 := hS.1
    have h1 := ho.2
    refine (strong_prints hS (by omega) (inls_print ks vs KM hI ho.1)).as ?_
    funext l
    simp [ab, outI]
  | .emph m ks, v, M, h, ho => by
    obtain ⟨b, e, q, n, c, vs, RM, KM, rfl, rfl, hS, hI⟩ := h
    have hl := hI.length
    have h0 := hS.1
    have h1 := ho.2
    refine (em_prints hS (by omega) (inls_print ks vs KM hI ho.1)).as ?_
    funext l
    simp [ab, outI]
  | .esc s, v, M, h, ho => by
    obtain ⟨b, e, rfl, rfl⟩ := h
    exact esc_prints ho
  | .auto t u, v, M, h, ho => by
    obtain ⟨b, e, rfl, rfl⟩ := h
    exact auto_prints ho.1 ho.2
  | .link ks u t tc k, v, M, h, ho => by
    obtain ⟨b, e, q, n, c, vs, RM, KM, rfl, rfl, hS, hI⟩ := h
    have hl := hI.length
    have h0 := hS.1
    obtain ⟨h1, h2, h3, h4⟩ := ho
    refine (link_prints h3 h4 hS (by omega) (inls_print ks vs KM hI h1)).as ?_
    funext l
    simp [ab, outI]
  | .soft, v, M, h, ho => by
    obtain ⟨b, e, rfl, rfl⟩ := h
    exact soft_prints
  | .hard, v, M, h, ho => by
    obtain ⟨b, e, rfl, rfl⟩ := h
    exact hard_prints
  | .openP _ _, v, M, h, ho => absurd ho id
  | .emphP _ _ _ _ _, v, M, h, ho => absurd ho id
  | .code _, v, M, h, ho => absurd ho id
  | .del _ _, v, M, h, ho => absurd ho id
  | .image _ _ _ _ _, v, M, h, ho => absurd ho id
  | .tag _, v, M, h, ho => absurd ho id
  | .task _, v, M, h, ho => absurd ho id
theorem inls_print : ∀ (ts : List Inl) (vs : List Value) (M : List Chunk), InlsAt ts vs M → okL ts → PrintsL "PrintHTML" vs M M (ab (outL ts))
  | [], vs, M, h, ho => by
    obtain ⟨rfl, rfl⟩ := h
    exact PrintsL.nil.as (by funext l; simp [ab, outL])
  | t :: ts, vs, M, h, ho => by
    obtain ⟨v, vs', M1, M2, rfl, rfl, h1, h2⟩ := h
    refine (PrintsL.cons (inl_prints t v M1 h1 ho.1) (inls_print ts vs' M2 h2 ho.2)).as ?_
    funext l
    simp [ab, outL]
end
end Go.Proofs.YtmicoampfglaiaaGreatDoor


set_option linter.unusedVariables false
set_option maxRecDepth 20000
namespace Go.Proofs.YtmicoampfglaiaaGreatDoor
open Go.Proofs
/- 10 pub-paratext/laws.word -/
namespace g_laws_word
noncomputable def body : Code := bodyOf Tryz.f10
end g_laws_word
def g_laws_word (R : EP) (x0 : BA) (w : World) : Prop :=
 br (!(x0.toList == (ByteArray.mk #[]).toList))
 (callE P i_laws_only #[.string x0, .string (ByteArray.mk #[97, 98, 122, 48, 49, 57]), .int .i64 20] (fun e w2 => ∃ (r1 : Bool), e = .returned (.bool r1) ∧
 R (.returned (.bool r1)) w2) w)
 (R (.returned (.bool false)) w)

noncomputable def g_laws_word.ac (R : EP) : AC :=
  (.leaf (sel [] g_laws_word.body))
theorem g_laws_word.good (R : EP) : Good P 9 (g_laws_word.ac R) (QF P [.tmp 2] R) :=
  trivial
theorem g_laws_word.eq (R : EP) (x0 : BA) (w : World) : g_laws_word R x0 w = vcA P 9 (g_laws_word.ac R) (QF P [.tmp 2] R) (fr0 [.string x0]) w := by kernel_rfl
theorem g_laws_word.sound {R : EP} {x0 : ByteArray} {w : World} (h : g_laws_word R x0 w) : callE P i_laws_word #[.string x0] R w :=
  callE_fin (c := g_laws_word.body) Tryz.func10 Tryz.call10 (by kernel_rfl) (by kernel_rfl) (by kernel_rfl) (by kernel_rfl) (by kernel_rfl) (g_laws_word.good R) (g_laws_word.eq R x0 w) h
end Go.Proofs.YtmicoampfglaiaaGreatDoor

/- Headings: small functions. -/
set_option linter.unusedVariables false
namespace Go.Proofs.YtmicoampfglaiaaGreatDoor
open Go.Proofs Go.IntWalk Go.RowKit
variable {σ : Out} {w : World} {L L' : List Chunk} {R : Ending → World → Prop}
def wordM (s : List UInt8) : Bool := !s.isEmpty && onlyM s [97, 98, 122, 48, 49, 57] 20
theorem word_ok {s : List UInt8} (hs : s.length < 4611686018427387904) (hR : R (.returned (.bool (wordM s))) w) : callE P i_laws_word #[.string (bs s)] R w := by
  refine g_laws_word.sound ?_
  cases hs0 : s with
  | nil => subst hs0; exact br_false (by rw [bs_toList, mk_toList]; rfl) hR
  | cons c t =>
    rw [← hs0]
    refine br_true (by rw [bs_toList, mk_toList, hs0]; rfl) ?_
    refine only_ok (set := [97, 98, 122, 48, 49, 57]) (n := 20) hs ⟨_, rfl, ?_⟩
    have : wordM s = onlyM s [97, 98, 122, 48, 49, 57] 20 := by unfold wordM; rw [hs0]; rfl
    rw [← this]; exact hR
end Go.Proofs.YtmicoampfglaiaaGreatDoor


/- FnInnermost: the law's walk. -/
set_option linter.unusedVariables false
namespace Go.Proofs.YtmicoampfglaiaaGreatDoor
open Go.Proofs Go.IntWalk Go.RowKit
variable {σ : Out} {w : World} {L L' : List Chunk} {R : Ending → World → Prop}
def inV : List UInt8 := [93, 40, 47, 118, 41]
def inU : List UInt8 := [93, 40, 47, 117, 41]
def tailV (m : Nat) : List UInt8 := (List.replicate m inV).flatten
theorem tailV_succ (m : Nat) : tailV (m + 1) = inV ++ tailV m := by simp [tailV, List.replicate_succ]
theorem tailV_succ' (m : Nat) : tailV m ++ inV = tailV (m + 1) := by simp [tailV, List.replicate_succ']
theorem tailV_len (m : Nat) : (tailV m).length = 5 * m := by
  induction m with
  | zero => rfl
  | succ m ih => rw [tailV_succ, List.length_append, ih, show inV.length = 5 from rfl]; omega
/-- n + 1 brackets around wd. -/
def innT (n : Nat) (wd : List UInt8) : List UInt8 := List.replicate (n + 1) 91 ++ (wd ++ (inU ++ tailV n))
theorem innT_len (n : Nat) (wd : List UInt8) : (innT n wd).length = n + 1 + wd.length + 5 + 5 * n := by simp [innT, tailV_len, inU]; omega
theorem innT_succ (n : Nat) (wd : List UInt8) : [91] ++ innT n wd ++ inV = innT (n + 1) wd := by
  unfold innT
  rw [← tailV_succ' n, List.replicate_succ (n := n + 1)]
  simp
def opT (n : Nat) : List Inl := (List.range n).map fun m => Inl.openP [91] (m + 1)
theorem opT_len (n : Nat) : (opT n).length = n := by simp [opT]
theorem opT_succ (n : Nat) : opT (n + 1) = opT n ++ [.openP [91] (n + 1)] := by simp [opT, List.range_succ]
section
variable {n : Nat} {wd : List UInt8}
theorem inn_open {k : Nat} (h : k ≤ n) : (innT n wd).getD k 0 = 91 := by
  unfold innT
  rw [getD_app' (by simp; omega), List.getD_eq_getElem?_getD, List.getElem?_replicate, if_pos (by omega)]; rfl
theorem inn_wd {k : Nat} (h : k < wd.length) : (innT n wd).getD (n + 1 + k) 0 = wd[k] := by
  unfold innT
  rw [getD_at (by simp), getD_app' h, ← getElem_getD h]
theorem inn_eq : innT n wd = (List.replicate (n + 1) 91 ++ wd) ++ 93 :: 40 :: ([47, 117] ++ 41 :: tailV n) := by simp [innT, inU]
theorem inn_sub : sub (innT n wd) (n + 1) (n + 1 + wd.length) = wd := by
  unfold sub
  rw [inn_eq, List.take_left' (by simp), List.drop_left' (by simp)]
theorem inn_drop : (innT n wd).drop (n + 1 + wd.length + 5) = tailV n := by
  have : innT n wd = (List.replicate (n + 1) 91 ++ wd ++ inU) ++ tailV n := by simp [innT]
  rw [this, List.drop_left' (by simp [inU]; omega)]
theorem inn_dropV {j m : Nat} (h : j + (m + 1) = n) : (innT n wd).drop (n + 1 + wd.length + 5 + 5 * j) = inV ++ tailV m := by
  rw [← List.drop_drop, inn_drop, ← tailV_succ]
  have : tailV n = tailV j ++ tailV (m + 1) := by
    rw [← h]; unfold tailV; rw [← List.flatten_append, List.replicate_append_replicate]
  rw [this, List.drop_left' (tailV_len j)]
theorem inn_v {j m d : Nat} (h : j + (m + 1) = n) (hd : d < 5) : (innT n wd).getD (n + 1 + wd.length + 5 + 5 * j + d) 0 = inV.getD d 0 := by
  rw [← drop_getD, inn_dropV h, getD_app' hd]
theorem fin_merge (n : Nat) (l : Inl) (hl : l.plain? = none) (t : List UInt8) : ∀ (m : Nat) (p : List (List UInt8)), mergeGo p (List.replicate m (.plain [91]) ++ [l, .plain t]) = flushP (p ++ List.replicate m [91]) ++ [l, .plain t]
  | 0, p => by
    simp only [List.replicate_zero, List.nil_append, List.append_nil, mergeGo, hl]
    show flushP p ++ l :: flushP [t] = _
    rw [show flushP [t] = [Inl.plain t] by simp [flushP]]
  | m + 1, p => by
    rw [List.replicate_succ, List.cons_append, mergeGo]
    simp only [Inl.plain?]
    rw [fin_merge n l hl t m, List.append_assoc, List.replicate_succ, List.singleton_append]
theorem opT_plain : ∀ n, (opT n).map plainO = List.replicate n (.plain [91]) := by
  intro n; unfold opT; rw [List.map_map]
  have : (plainO ∘ fun m => Inl.openP [91] (m + 1)) = fun _ => Inl.plain [91] := rfl
  rw [this, List.map_const']; simp
theorem plen_append (a b : List Inl) : plen (a ++ b) = plen a + plen b := by
  induction a with
  | nil => simp [plen]
  | cons t a ih => simp only [List.cons_append, plen, ih]; omega
theorem plen_rep (m : Nat) : plen (List.replicate m (.plain [91])) = m := by
  induction m with
  | zero => rfl
  | succ m ih => rw [List.replicate_succ]; simp only [plen, Inl.plain?, ih, List.length_singleton]; omega
def innLink (wd : List UInt8) : Inl := .link [.plain wd] [47, 117] [] 0 false
def innOut (n : Nat) (wd : List UInt8) : List UInt8 := List.replicate n 91 ++ (linkO [47, 117] [] ++ wd ++ aEnd ++ tailV n)
theorem inn_mem {c : UInt8} (h : c ∈ innT n wd) : c = 91 ∨ c ∈ wd ∨ c = 93 ∨ c = 40 ∨ c = 47 ∨ c = 117 ∨ c = 41 ∨ c = 118 := by
  simp only [innT, List.mem_append, inU, List.mem_cons, List.mem_nil_iff, or_false, tailV, List.mem_flatten] at h
  rcases h with h | h | h | ⟨l, hl, h⟩
  · have := List.eq_of_mem_replicate h; simp [this]
  · simp [h]
  · rcases h with h | h | h | h | h <;> simp [h]
  · rw [List.eq_of_mem_replicate hl] at h
    simp [inV] at h
    rcases h with h | h | h | h | h <;> simp [h]
theorem inn_nil {o : Opt} {c : UInt8} (hw : c = 40 ∨ c = 47 ∨ c = 118 ∨ c = 41) : parserOf o c = .nil ∧ c ≠ 93 := by
  rcases hw with rfl | rfl | rfl | rfl <;> exact ⟨rfl, by decide⟩
end
theorem innermost_inline {o : Opt} {n : Nat} {wd : List UInt8} (hoff : o.auto = false) (hn : 0 < n) (hn2 : n < 1000) (hw0 : wd ≠ []) (hwl : wd.length ≤ 1000) (hwn : ∀ c ∈ wd, parserOf o c = .nil ∧ c ≠ 93) (hwe : escS htmlPs wd = wd) : InlineOK o (innT n wd) (ab (innOut n wd)) := by
  intro σ R b pb p L w h hpz ho hlk hR
  have hlen := innT_len n wd
  have htrim : trimLR isST (innT n wd) = innT n wd := by
    unfold trimLR trimR
    have e1 : (innT n wd).dropWhile isST = innT n wd := by unfold innT; rw [List.replicate_succ, List.cons_append, List.dropWhile_cons_of_neg (by decide)]
    rw [e1]
    obtain ⟨m, rfl⟩ : ∃ m, n = m + 1 := ⟨n - 1, by omega⟩
    have e2 : innT (m + 1) wd = ([91] ++ innT m wd ++ [93, 40, 47, 118]) ++ [41] := by rw [← innT_succ]; simp [inV]
    rw [e2, List.reverse_append, List.reverse_singleton, List.singleton_append, List.dropWhile_cons_of_neg (by decide), List.reverse_cons, List.reverse_reverse]
  refine inl_begin h (by omega) fun w h => ?_
  rw [htrim] at h ⊢
  have gO := fun k hk => inn_open (n := n) (wd := wd) (k := k) hk
  have gW := fun k hk => inn_wd (n := n) (wd := wd) (k := k) hk
  have gV := fun j m d h hd => inn_v (n := n) (wd := wd) (j := j) (m := m) (d := d) h hd
  have hsub := inn_sub (n := n) (wd := wd)
  have heq := inn_eq (n := n) (wd := wd)
  have hdrop := inn_drop (n := n) (wd := wd)
  generalize hr : innT n wd = raw at h hlen gO gW gV hsub heq hdrop ⊢
  intro X hX
  have hXL : LoopB R X b raw := fun _ _ _ _ _ _ h => hX _ _ _ _ _ _ _ _ _ h
  generalize hp0 : ({ p with s := raw, em := 0, lq := none, ln := 0, lc := 0 } : PS) = p0 at h
  have hpz0 : p0.pz = some ⟨pb, 0, none⟩ := by rw [← hp0]; exact hpz
  have hcs : p0.coreS = p.coreS := by rw [← hp0]; rfl
  suffices hat : AtB X σ b p0 raw L 0 0 [] [] 0 from hat w p0 none 0 0 rfl (by rw [← hp0]) (by rw [← hp0]; rfl) h
  have gi : ∀ k (hk : k < raw.length) (c : UInt8), raw.getD k 0 = c → raw[k] = c := fun k hk c hc => by rw [getElem_getD hk 0]; exact hc
  have hwp := List.length_pos_iff.2 hw0
  -- the end
  have s4 : AtB X σ b p0 raw L raw.length (n + 1 + wd.length + 5) (opT n ++ [innLink wd]) [] ((n + 1 : Nat) : Int) := by
    have hem : emitM raw (n + 1 + wd.length + 5) raw.length (opT n ++ [innLink wd]) = opT n ++ [innLink wd, .plain (tailV n)] := by
      unfold emitM; rw [if_pos (by omega)]
      have : sub raw (n + 1 + wd.length + 5) raw.length = tailV n := by unfold sub; rw [List.take_length]; exact hdrop
      rw [this]; simp
    have hnr : ∀ t ∈ opT n ++ [innLink wd, .plain (tailV n)], noRun t = true := by
      intro t ht
      simp only [List.mem_append, List.mem_cons, List.mem_nil_iff, or_false, opT, List.mem_map] at ht
      rcases ht with ⟨_, _, rfl⟩ | rfl | rfl <;> rfl
    have hE := emphOK_noRun hnr (by simp [opT_len]; omega)
    have e1 : (opT n ++ [innLink wd, .plain (tailV n)]).map plainO = List.replicate n (.plain [91]) ++ [innLink wd, .plain (tailV n)] := by rw [List.map_append, opT_plain]; rfl
    rw [e1] at hE
    have em : mergeM (List.replicate n (.plain [91]) ++ [innLink wd, .plain (tailV n)]) = [.plain (List.replicate n 91), innLink wd, .plain (tailV n)] := by
      unfold mergeM
      rw [fin_merge n _ rfl]
      have : flushP ([] ++ List.replicate n [91]) = [Inl.plain (List.replicate n 91)] := by
        unfold flushP
        rw [if_neg (by intro h; have := congrArg List.length h; simp at this; omega)]
        simp
      rw [this]; rfl
    refine AtB.fin (ts' := List.replicate n (.plain [91]) ++ [innLink wd, .plain (tailV n)]) hXL (by omega) hpz0 ho hoff (by simp [opT_len]; omega) (by rw [hem]; exact hE) ?_ ?_ ?_
    · intro t ht s hs
      simp only [List.mem_append, List.mem_cons, List.mem_nil_iff, or_false] at ht
      rcases ht with h | rfl | rfl
      · rw [List.eq_of_mem_replicate h] at hs; simp [Inl.plain?] at hs; subst hs; simp
      · simp [innLink, Inl.plain?] at hs
      · simp [Inl.plain?] at hs; subst hs
        intro h; have := congrArg List.length h; rw [tailV_len] at this; simp at this; omega
    · rw [plen_append, plen_rep]
      simp [plen, innLink, Inl.plain?, tailV_len]; omega
    · intro w p' q n' c vs RM EM hp' hS hn' hI h
      rw [em] at hI
      have hok : okL [Inl.plain (List.replicate n 91), innLink wd, .plain (tailV n)] := by
        refine ⟨by show (List.replicate n (91 : UInt8)).length < _; simp; omega, ⟨⟨by show wd.length < _; omega, trivial⟩, by simp, by simp, by simp⟩, by show (tailV n).length < _; rw [tailV_len]; omega, trivial⟩
      have hP := inls_print _ _ _ hI hok
      have eo : outL [Inl.plain (List.replicate n 91), innLink wd, .plain (tailV n)] = innOut n wd := by
        have a1 : escS htmlPs (List.replicate n 91) = List.replicate n 91 := by
          have : ∀ s : List UInt8, (∀ c ∈ s, escB htmlPs c = [c]) → escS htmlPs s = s := by
            intro s hs
            induction s with
            | nil => rfl
            | cons c s ih => rw [escS_cons, hs c (.head _), ih (fun d hd => hs d (.tail _ hd))]; rfl
          exact this _ fun c hc => by rw [List.eq_of_mem_replicate hc]; decide
        have a2 : escS htmlPs (tailV n) = tailV n := by
          have : ∀ s : List UInt8, (∀ c ∈ s, escB htmlPs c = [c]) → escS htmlPs s = s := by
            intro s hs
            induction s with
            | nil => rfl
            | cons c s ih => rw [escS_cons, hs c (.head _), ih (fun d hd => hs d (.tail _ hd))]; rfl
          refine this _ fun c hc => ?_
          simp only [tailV, List.mem_flatten] at hc
          obtain ⟨l, hl, h⟩ := hc
          rw [List.eq_of_mem_replicate hl] at h
          simp [inV] at h
          rcases h with rfl | rfl | rfl | rfl | rfl <;> decide
        simp only [outL, innLink, outI, a1, a2, hwe, innOut, List.append_nil]
      rw [eo] at hP
      exact hR w p' q n' c vs RM EM EM (hp'.trans hcs) hS hn' hP h
  -- brackets that close nothing
  have s3 : ∀ m j, j + m = n → AtB X σ b p0 raw L (n + 1 + wd.length + 5 + 5 * j) (n + 1 + wd.length + 5) (opT n ++ [innLink wd]) (List.range m) ((n + 1 : Nat) : Int) := by
    intro m
    induction m with
    | zero =>
      intro j hj
      have : n + 1 + wd.length + 5 + 5 * j = raw.length := by omega
      rw [this]; exact s4
    | succ m ih =>
      intro j hj
      have hsp : opT n ++ [innLink wd] = opT m ++ .openP [91] (m + 1) :: ((opT n).drop (m + 1) ++ [innLink wd]) := by
        have e1 : opT n = (opT n).take (m + 1) ++ (opT n).drop (m + 1) := (List.take_append_drop _ _).symm
        have e2 : (opT n).take (m + 1) = opT (m + 1) := by unfold opT; rw [← List.map_take, List.take_range, Nat.min_eq_left (by omega)]
        rw [e2, opT_succ] at e1
        have e3 := congrArg (· ++ [innLink wd]) e1
        simp only [List.append_assoc, List.singleton_append] at e3
        exact e3
      have hv := fun d hd => gV j m d hj hd
      rw [List.range_succ, hsp]
      have hl1 : (opT m).length = m := opT_len m
      have hdl : ((opT n).drop (m + 1) ++ [innLink wd]).length = n - (m + 1) + 1 := by rw [List.length_append, List.length_drop, opT_len]; rfl
      have := AtB.pop (ts1 := opT m) (k := m + 1) (t := [91]) (opens := List.range m) (ts2 := (opT n).drop (m + 1) ++ [innLink wd]) (i := n + 1 + wd.length + 5 + 5 * j) (e := n + 1 + wd.length + 5) (lo := ((n + 1 : Nat) : Int)) (p0 := p0) (σ := σ) hXL (by omega) (by omega)
        (gi _ _ _ (hv 0 (by decide))) hpz0 ho rfl (by simp) (by omega) (by rw [List.length_append, hl1, hdl]; omega) (by simp; omega)
      rw [hl1] at this
      refine this ?_
      rw [← hsp]
      refine AtB.plains hXL (by omega) hpz0 ho 4 _ (by omega) (fun q hq h1 h2 => ?_) ?_
      · obtain ⟨d, rfl, hd1, hd2⟩ : ∃ d, q = n + 1 + wd.length + 5 + 5 * j + d ∧ 1 ≤ d ∧ d < 5 := ⟨q - (n + 1 + wd.length + 5 + 5 * j), by omega, by omega, by omega⟩
        rw [gi _ hq _ (hv d hd2)]
        have : d = 1 ∨ d = 2 ∨ d = 3 ∨ d = 4 := by omega
        rcases this with rfl | rfl | rfl | rfl
        · exact ⟨(inn_nil (.inl rfl)).1, .inl (by decide)⟩
        · exact ⟨(inn_nil (.inr (.inl rfl))).1, .inl (by decide)⟩
        · exact ⟨(inn_nil (.inr (.inr (.inl rfl)))).1, .inl (by decide)⟩
        · exact ⟨(inn_nil (.inr (.inr (.inr rfl)))).1, .inl (by decide)⟩
      · rw [show n + 1 + wd.length + 5 + 5 * j + 1 + 4 = n + 1 + wd.length + 5 + 5 * (j + 1) by omega]
        exact ih (j + 1) (by omega)
  -- the link
  have s2 : AtB X σ b p0 raw L (n + 1 + wd.length) (n + 1) (opT (n + 1)) (List.range (n + 1)) 0 := by
    have hx : emitX raw (n + 1) (n + 1 + wd.length) = [.plain wd] := by unfold emitX; rw [if_pos (by omega), hsub]
    have hnr : ∀ t ∈ [] ++ emitX raw (n + 1) (n + 1 + wd.length), noRun t = true := by rw [hx]; intro t ht; simp at ht; subst ht; rfl
    rw [opT_succ, List.range_succ]
    have hc := fun (p : PS) => close_plain (b := b) (p := p) (A := List.replicate (n + 1) 91 ++ wd) (B := tailV n) (D := [47, 117]) (t := [91]) (k := n + 1) (by rw [← heq]; omega) (by simp) (by decide)
    rw [← heq] at hc
    have hal : (List.replicate (n + 1) (91 : UInt8) ++ wd).length = n + 1 + wd.length := by simp
    rw [hal] at hc
    have hgb : raw.getD (n + 1 + wd.length) 0 = 93 := by rw [heq]; rw [show n + 1 + wd.length = (n + 1 + wd.length) + 0 by rfl, getD_at hal]; rfl
    have := AtB.close (ts1 := opT n) (k := n + 1) (t := [91]) (opens := List.range n) (ts2 := []) (i := n + 1 + wd.length) (e := n + 1) (lo := 0) (p0 := p0) (σ := σ) (img := false) (L0 := []) (en := n + 1 + wd.length + 5) (url := [47, 117]) (title := []) (tc := 0) (cor := false) hXL (by omega) (by omega)
      (gi _ _ _ hgb) hpz0 ho (by simp) rfl (by simp) (.inr (by omega)) (by decide) (fun p _ _ => hc p) (by rw [hx]; simp) (wfE_noRun hnr) (apartE_noRun hnr) (by simp [opT_len]; omega) (by simp; omega)
    rw [opT_len] at this
    refine this ?_
    have hks : emphM ([] ++ emitX raw (n + 1) (n + 1 + wd.length)) = [.plain wd] := by rw [emphM_noRun hnr, hx]; rfl
    rw [hks]
    exact s3 n 0 (by omega)
  -- the word
  have s1 : AtB X σ b p0 raw L (n + 1) (n + 1) (opT (n + 1)) (List.range (n + 1)) 0 := by
    refine AtB.plains hXL (by omega) hpz0 ho wd.length (n + 1) (by omega) (fun q hq h1 h2 => ?_) s2
    obtain ⟨d, rfl⟩ : ∃ d, q = n + 1 + d := ⟨q - (n + 1), by omega⟩
    rw [gi _ hq _ (gW d (by omega))]
    have := hwn _ (List.getElem_mem (show d < wd.length by omega))
    exact ⟨this.1, .inl this.2⟩
  -- the brackets that open
  have s0 : ∀ k j, j + k = n + 1 → AtB X σ b p0 raw L j j (opT j) (List.range j) 0 := by
    intro k
    induction k with
    | zero => intro j hj; obtain rfl : j = n + 1 := hj; exact s1
    | succ k ih =>
      intro j hj
      have hc : raw[j]'(by omega) = 91 := gi _ _ _ (gO j (by omega))
      have hem : emitM raw j j (opT j) = opT j := by unfold emitM; rw [if_neg (by omega)]
      refine AtB.leaf (Q := fun p p' => p' = p) hXL (by omega) (by omega) hpz0 ho (f := i_parseLinkOpen) (by rw [hc]; rfl) (L0 := []) (by simp) (fun p _ _ => linkOpen_leaf (by omega) (by omega) hc) (by omega) (by simp [opT_len]; omega) (by simp; omega) ?_
      rw [hem, opT_len, if_pos (show (Inl.openP [91] (j + 1)).isOpen = true from rfl), ← opT_succ, ← List.range_succ]
      exact ih (j + 1) (by omega)
  exact s0 (n + 1) 0 (by omega)
theorem inn_out_len (n : Nat) (wd : List UInt8) : (innOut n wd).length ≤ n + wd.length + 5 * n + 100 := by
  have h1 : (linkO [47, 117] []).length = 13 := by decide
  have h2 : aEnd.length = 4 := rfl
  simp only [innOut, List.length_append, List.length_replicate, tailV_len, h1, h2]; omega
theorem html_inn {o : Opt} {n : Nat} {wd : List UInt8} (hoff : o.auto = false) (hn : 0 < n) (hn2 : n < 1000) (hw : wordM wd = true) : ParsesTo o (innT n wd) (pOpen ++ innOut n wd ++ pClose) := by
  have hw' := hw
  simp only [wordM, Bool.and_eq_true, Bool.not_eq_true', onlyM, decide_eq_true_eq, List.all_eq_true] at hw'
  obtain ⟨hw0, hwl, hwa⟩ := hw'
  have hne : wd ≠ [] := by rintro rfl; simp at hw0
  have hm : ∀ c ∈ wd, c = 97 ∨ c = 98 ∨ c = 122 ∨ c = 48 ∨ c = 49 ∨ c = 57 := fun c hc => by simpa using hwa c hc
  have hlen := innT_len n wd
  have hI : InlineOK o (innT n wd) (ab (innOut n wd)) := innermost_inline hoff hn hn2 hne (by omega) (fun c hc => by rcases hm c hc with rfl | rfl | rfl | rfl | rfl | rfl <;> exact ⟨rfl, by decide⟩) (by
    have : ∀ s : List UInt8, (∀ c ∈ s, escB htmlPs c = [c]) → escS htmlPs s = s := by
      intro s hs
      induction s with
      | nil => rfl
      | cons c s ih => rw [escS_cons, hs c (.head _), ih (fun d hd => hs d (.tail _ hd))]; rfl
    exact this _ fun c hc => by rcases hm c hc with rfl | rfl | rfl | rfl | rfl | rfl <;> decide)
  have hno : ∀ c : UInt8, c = 0 ∨ c = 10 ∨ c = 13 → c ∉ innT n wd := by
    intro c hc hmem
    rcases inn_mem hmem with h | h | h | h | h | h | h | h
    all_goals first
      | (subst h; revert hc; decide)
      | (rcases hm c h with rfl | rfl | rfl | rfl | rfl | rfl <;> revert hc <;> decide)
  obtain ⟨m, rfl⟩ : ∃ m, n = m + 1 := ⟨n - 1, by omega⟩
  have hf : innT (m + 1) wd = 91 :: 91 :: (List.replicate m 91 ++ (wd ++ (inU ++ tailV (m + 1)))) := by unfold innT; rw [List.replicate_succ, List.replicate_succ]; rfl
  have hl2 : (List.replicate m 91 ++ (wd ++ (inU ++ tailV (m + 1)))).length + 2 = (innT (m + 1) wd).length := by rw [hf]; simp
  have hdw : (innT (m + 1) wd).dropWhile isST = innT (m + 1) wd := by rw [hf]; rfl
  have hplain : (lnOf (innT (m + 1) wd)).plain := by rw [hf]; exact plain_first (by decide) (by simp only [List.length_cons]; omega)
  have := parses_lineR (op := o) (raw := innT (m + 1) wd) (f := ab (innOut (m + 1) wd)) hplain (by omega) (idx_none (hno 0 (.inl rfl))) (idx_none (hno 10 (.inr (.inl rfl)))) (idx_none (hno 13 (.inr (.inr rfl))))
    (by rw [hdw, hf]; simp) (by rw [hdw, hf]; exact noRef_two (by omega)) (by rw [hdw]; exact hI)
  exact this
theorem fnInnermost_ok {x0 : ByteArray} {m : Int} (h : Sat σ w L) (hR : ∀ w, Sat σ w L → R (.returned (.bool true)) w) : callE P i_laws_FnInnermost #[.string x0, .int .i64 m] R w := by
  rw [bs_of x0]
  generalize x0.data.toList = wd
  refine g_laws_FnInnermost.sound ?_
  refine br_split (fun _ => hR w h) (fun hsz => ?_)
  simp only [decide_eq_false_iff_not, bs_size] at hsz
  refine word_ok (by omega) ⟨_, rfl, br_split (fun _ => hR w h) (fun hb => ?_)⟩
  simp only [Bool.or_eq_false_iff, Bool.not_eq_false', decide_eq_false_iff_not] at hb
  obtain ⟨⟨hw, hm2⟩, hm30⟩ := hb
  have hwl : wd.length ≤ 20 := by
    have := hw
    simp only [wordM, onlyM, Bool.and_eq_true, decide_eq_true_eq] at this
    exact this.2.1
  obtain ⟨n, rfl⟩ : ∃ n : Nat, m = ((n + 1 : Nat) : Int) := ⟨(m - 1).toNat, by omega⟩
  have hn1 : 1 ≤ n := by omega
  have hn2 : n ≤ 29 := by omega
  have hmax : IntKind.i64.max = 9223372036854775807 := rfl
  have b2 : ∀ s t : List UInt8, s.length + t.length < 10000 → (((bs s).size + (bs t).size : Nat) : Int) ≤ IntKind.i64.max := by intro s t hs; rw [hmax, bs_size, bs_size]; omega
  unfold g_laws_FnInnermost.k1
  rw [show ByteArray.mk #[91] = bs [91] from rfl, show ByteArray.mk #[93, 40, 47, 117, 41] = bs inU from rfl, show ByteArray.mk #[60, 97, 32, 104, 114, 101, 102, 61, 34, 47, 117, 34, 62] = bs (linkO [47, 117] []) from by rw [show linkO [47, 117] [] = [60, 97, 32, 104, 114, 101, 102, 61, 34, 47, 117, 34, 62] from by decide]; rfl,
    show ByteArray.mk #[60, 47, 97, 62] = bs aEnd from rfl]
  simp only [bs_append]
  have hlk : (linkO [47, 117] []).length = 13 := by decide
  have hae : aEnd.length = 4 := rfl
  have hiu : inU.length = 5 := rfl
  refine ⟨b2 _ _ (by simp; omega), b2 _ _ (by simp; omega), b2 _ _ (by omega), b2 _ _ (by simp; omega), ?_⟩
  have e0 : [91] ++ wd ++ inU = innT 0 wd := by simp [innT, tailV]
  have o0 : linkO [47, 117] [] ++ wd ++ aEnd = innOut 0 wd := by simp [innOut, tailV]
  rw [e0, o0, show IntKind.i64.wrap (((n + 1 : Nat) : Int) - 1) = (n : Int) by rw [show (((n + 1 : Nat) : Int) - 1) = (n : Int) by omega, i64_in _ (by omega)]]
  have osucc : ∀ j, [91] ++ innOut j wd ++ inV = innOut (j + 1) wd := by
    intro j; unfold innOut; rw [← tailV_succ' j, List.replicate_succ]; simp
  intro X hX
  have key : ∀ k j, j + k = n → X (bs (innT j wd)) (bs (innOut j wd)) (n : Int) (j : Int) w := by
    intro k
    induction k with
    | zero =>
      intro j hj
      obtain rfl : j = n := hj
      refine hX _ _ _ _ _ (br_false (by simp) ?_)
      have hol := inn_out_len j wd
      have hP := html_inn (o := optOff) (n := j) rfl hn1 (by omega) hw
      have h3 : pOpen.length = 3 := rfl
      have h4 : pClose.length = 5 := rfl
      show callE P i_impl_HTML #[optV optOff, .string (bs (innT j wd))] _ w
      refine html_ok hP (by simp only [List.length_append]; omega) h fun w h => ⟨_, rfl, ?_⟩
      rw [show ByteArray.mk #[60, 112, 62] = bs pOpen from rfl, show ByteArray.mk #[60, 47, 112, 62, 10] = bs pClose from rfl]
      simp only [bs_append]
      refine ⟨b2 _ _ (by omega), b2 _ _ (by simp only [List.length_append]; omega), ?_⟩
      rw [bs_toList]
      simpa using hR w h
    | succ k ih =>
      intro j hj
      refine hX _ _ _ _ _ (br_true (by simp; omega) ?_)
      have hl1 := innT_len j wd
      have hl2 := inn_out_len j wd
      rw [show ByteArray.mk #[91] = bs [91] from rfl, show ByteArray.mk #[93, 40, 47, 118, 41] = bs inV from rfl]
      simp only [bs_append]
      have hiv : inV.length = 5 := rfl
      refine ⟨b2 _ _ (by simp; omega), b2 _ _ (by simp only [List.length_append, List.length_singleton]; omega), b2 _ _ (by simp; omega), b2 _ _ (by simp only [List.length_append, List.length_singleton]; omega), ?_⟩
      rw [innT_succ, osucc, i64_inc (by omega)]
      exact ih (j + 1) (by omega)
  exact key n 0 (by omega)
end Go.Proofs.YtmicoampfglaiaaGreatDoor

