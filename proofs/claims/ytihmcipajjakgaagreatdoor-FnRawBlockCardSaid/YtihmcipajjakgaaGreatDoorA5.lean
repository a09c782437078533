/- Part 5 of the proof of the law FnRawBlock: for every input the law returns true, the inputs read as they did, and memory that was there is as it was; under the conditions of the given row alone. -/
import Derived.Laws.StructEq
import Derived.Test.YtihmcipajjakgaaGreatDoorA4
set_option linter.all false
set_option linter.unusedVariables false
namespace Go.Proofs.YtihmcipajjakgaaGreatDoor
open Go.Proofs Go.IntWalk Go.RowKit
variable {σ : Out} {w : World} {L L' : List Chunk} {R : Ending → World → Prop}
def flushP (p : List (List UInt8)) : List Inl := if p = [] then [] else [.plain p.flatten]
def mergeGo : List (List UInt8) → List Inl → List Inl
  | p, [] => flushP p
  | p, t :: ts => match t.plain? with
    | some s => mergeGo (p ++ [s]) ts
    | none => flushP p ++ t :: mergeGo [] ts
def mergeM (ts : List Inl) : List Inl := mergeGo [] ts
def plen : List Inl → Nat
  | [] => 0
  | t :: ts => (match t.plain? with | some s => s.length | none => 0) + plen ts
theorem set_mid {α : Type} {A B C : List α} {v : α} (hB : B ≠ []) : (A ++ (B ++ C)).set A.length v = (A ++ [v]) ++ (B.drop 1 ++ C) := by
  cases B with
  | nil => exact absurd rfl hB
  | cons x B => simp [List.set_append_right]
theorem fillP (v : Value) (hv : ∃ t b, v = ptrV t b) : Instr.fill (fun i => some (i * 1, 1)) ((Array.range (1 * 1)).map (rowInl.z.cells[· % rowInl.z.cells.size]!)) [(0, v)] = some v.cells := by
  obtain ⟨t, b, rfl⟩ := hv
  exact fillI t _
theorem und_PP : P.underlying ty_P_Plain = some (.pointer ty_Plain) := und_plain

theorem mergePlain_ok {pq q : Option Addr} {n c : Nat} {vs : List Value} {ts : List Inl} {RM EM : List Chunk} (hS : Sl 1 ty_Inline q n c vs RM) (hI : InlsAt ts vs EM) (hpos : ∀ t ∈ ts, ∀ s, t.plain? = some s → s ≠ []) (hb : plen ts < 1073741824) (hn : n < 1073741823)
    (h : Sat σ w (RM ++ (EM ++ L)))
    (hR : ∀ w n' vs' RM' EM', Sl 1 ty_Inline q n' c vs' RM' → n' ≤ n → InlsAt (mergeM ts) vs' EM' → Sat σ w (RM' ++ (EM' ++ L)) → R (.returned (.slice q n' c)) w) : callE P i_parseState_mergePlain #[.pointer pq, .slice q n c] R w := by
  have hl := hS.1
  have hnc := hS.2.1
  have htl := hI.length
  refine g_parseState_mergePlain.sound ?_
  refine ⟨_, _, _, _, sliceT rowInl.ht rowInl.hi q n c 0 (by omega) w, ?_⟩
  intro X hX
  obtain ⟨_, _, ⟨rfl, rfl, rfl, rfl⟩ | ⟨rb, sp, rfl, rfl, hsp⟩⟩ := hS
  · have hts : ts = [] := List.eq_nil_of_length_eq_zero (by omega)
    subst hts
    refine hX _ _ _ _ _ _ _ _ _ (br_false rfl ?_)
    refine br_false rfl (br_true rfl ?_)
    exact hR w 0 [] [] [] (Sl.nil 1 ty_Inline) (by omega) ⟨rfl, rfl⟩ (h.sub (by rw [List.nil_append]; exact List.sublist_append_right _ _))
  have hlen0 : vs.length = n := by omega
  have key : ∀ (rts : List Inl) (pts : List Inl) (us : List (List UInt8)) (ots : List Inl) (ovs junk pvs rvs : List Value) (OM PM RM : List Chunk) w,
      InlsAt ots ovs OM → InlsAt pts pvs PM → InlsAt rts rvs RM → pts.map Inl.plain? = us.map some → (∀ u ∈ us, u ≠ []) → (∀ t ∈ rts, ∀ s, t.plain? = some s → s ≠ []) → us.flatten.length + plen rts < 1073741824 →
      ovs.length + junk.length + pvs.length + rvs.length = n → mergeM ts = ots ++ mergeGo us rts →
      Sat σ w ((rb, cel (ovs ++ (junk ++ (pvs ++ (rvs ++ sp)))) ty_Inline) :: (OM ++ (PM ++ (RM ++ L)))) →
      X (some ⟨rb, 0, none⟩) n c (some ⟨rb, 0, none⟩) ovs.length c ((ovs.length + junk.length : Nat) : Int) ((ovs.length + junk.length + pvs.length : Nat) : Int) w := by
    intro rts
    induction rts with
    | nil =>
      intro pts us ots ovs junk pvs rvs OM PM RM w hO hP hRt hu hune hrne hbb hlen hm h
      obtain ⟨rfl, rfl⟩ := hRt
      have hpl := hP.length
      have hul : us.length = pts.length := by have := congrArg List.length hu; simpa using this.symm
      simp only [List.length_nil, Nat.add_zero] at hlen
      refine hX _ _ _ _ _ _ _ _ _ (br_false (by simp; omega) ?_)
      by_cases hp0 : pvs = []
      · subst hp0
        have hpts : pts = [] := by cases pts with
          | nil => rfl
          | cons _ _ => simp at hpl
        subst hpts
        have hus : us = [] := by cases us with
          | nil => rfl
          | cons _ _ => simp at hul
        subst hus
        obtain ⟨_, rfl⟩ := hP
        refine br_false (by simp) (br_true (by simp at hlen ⊢; omega) ?_)
        refine hR w ovs.length ovs [(rb, cel (ovs ++ (junk ++ sp)) ty_Inline)] OM ⟨by omega, by omega, .inr ⟨rb, junk ++ sp, rfl, rfl, ?_⟩⟩ (by omega) ?_ ?_
        · simp only [List.length_append] at hsp ⊢; simp at hlen; omega
        · rw [hm]; simpa [mergeGo, flushP] using hO
        · simp only [List.nil_append] at h; exact h.re (by intro _; simp only [List.append_eq, cnt_append, cnt_cons, cnt_nil] <;> omega)
      · have hpos1 : 0 < pvs.length := List.length_pos_iff.2 hp0
        refine br_true (by simp; omega) ?_
        refine ⟨_, _, _, _, sliceLH rowInl.ht rowInl.hi _ n c _ _ (by omega) (by omega) w, ?_⟩
        rw [if_neg (by omega), rowInl.hs]
        simp only [Option.map_some, Addr.add_lit, Nat.zero_add, Nat.mul_one]
        have hune0 : us ≠ [] := by intro h0; subst h0; simp at hul; omega
        have hfl : 0 < us.flatten.length := by
          cases us with
          | nil => exact absurd rfl hune0
          | cons u us =>
            have := List.length_pos_iff.2 (hune u (.head _))
            simp only [List.flatten_cons, List.length_append]; omega
        have h : Sat σ w ((rb, cel (ovs ++ (junk ++ (pvs ++ ([] ++ sp)))) ty_Inline) :: (PM ++ (OM ++ L))) := h.re (by intro _; simp only [List.append_eq, cnt_append, cnt_cons, cnt_nil] <;> omega)
        refine mergePlain1_ok (us := us) hP hu (by omega) (by omega) (by omega) ?_ hfl (by simp only [plen] at hbb; omega) h fun w nb EM' hN h => ⟨_, rfl, ?_⟩
        · intro j hj
          rw [List.getElem?_append_right (by omega), List.getElem?_append_right (by omega), List.getElem?_append_left (by omega)]
          congr 1; omega
        have h : Sat σ w ((rb, cel (ovs ++ ((junk ++ pvs) ++ sp)) ty_Inline) :: (EM' ++ (OM ++ L))) := by
          have e : ovs ++ (junk ++ (pvs ++ ([] ++ sp))) = ovs ++ ((junk ++ pvs) ++ sp) := by simp
          rw [← e]; exact h
        refine appRoom' rowInl h (v := ptrV ty_P_Plain nb) (by simp; omega) (by omega) rfl rfl (fillI _ _) fun w h => ?_
        rw [set_mid (by simp [hp0])] at h
        refine br_true (by simp; omega) ?_
        refine hR w (ovs.length + 1) (ovs ++ [ptrV ty_P_Plain nb]) [(rb, cel ((ovs ++ [ptrV ty_P_Plain nb]) ++ ((junk ++ pvs).drop 1 ++ sp)) ty_Inline)] (OM ++ EM') ⟨by simp, by omega, .inr ⟨rb, _, rfl, rfl, ?_⟩⟩ (by omega) ?_ ?_
        · simp only [List.length_append, List.length_drop, List.length_singleton] at hsp ⊢; omega
        · rw [hm]
          simp only [mergeGo, flushP, if_neg hune0]
          exact hO.append (InlsAt.one hN)
        · exact h.re (by intro _; simp only [List.append_eq, cnt_append, cnt_cons, cnt_nil] <;> omega)
    | cons t rts ih =>
      intro pts us ots ovs junk pvs rvs OM PM RM w hO hP hRt hu hune hrne hbb hlen hm h
      have hpl := hP.length
      have hul : us.length = pts.length := by have := congrArg List.length hu; simpa using this.symm
      obtain ⟨v, rvs', M1, M2, rfl, rfl, hv, hrest⟩ := hRt
      simp only [List.length_cons] at hlen
      refine hX _ _ _ _ _ _ _ _ _ (br_true (by simp; omega) ⟨by omega, by omega, nilP_some ?_⟩)
      simp only [Addr.add_lit, Int.toNat_natCast, Nat.mul_one, Nat.zero_add]
      have hg : (ovs ++ (junk ++ (pvs ++ (v :: rvs' ++ sp))))[ovs.length + junk.length + pvs.length]? = some v := by
        rw [List.getElem?_append_right (by omega), List.getElem?_append_right (by omega), List.getElem?_append_right (by omega)]
        rw [show ovs.length + junk.length + pvs.length - ovs.length - junk.length - pvs.length = 0 by omega]
        rfl
      refine ⟨v, Sat.ld h (.head _) hg, ?_⟩
      cases hpt : t.plain? with
      | some u =>
        refine toPlain_yes hv hpt fun bb ccs ee hM => ⟨_, rfl, ?_⟩
        refine ⟨_, _, neq_ptr_nil und_PP _ w, br_true rfl ?_⟩
        rw [i64_inc (by omega)]
        have := ih (pts ++ [t]) (us ++ [u]) ots ovs junk (pvs ++ [v]) rvs' OM (PM ++ M1) M2 w hO (hP.append (InlsAt.one hv)) hrest (by simp [hu, hpt])
          (by intro x hx; rcases List.mem_append.1 hx with hx | hx
              · exact hune x hx
              · simp at hx; subst hx; exact hrne t (.head _) _ hpt)
          (fun t' ht' => hrne t' (.tail _ ht')) (by simp only [plen, hpt] at hbb; simp only [List.flatten_append, List.flatten_cons, List.flatten_nil, List.length_append, List.append_nil]; omega) (by simp; omega) (by rw [hm, mergeGo, hpt]) ?_
        · simp only [List.length_append, List.length_singleton, ← Nat.add_assoc] at this
          exact this
        · have e : ovs ++ (junk ++ (pvs ++ [v] ++ (rvs' ++ sp))) = ovs ++ (junk ++ (pvs ++ (v :: rvs' ++ sp))) := by simp
          rw [e]; exact h.re (by intro _; simp only [List.append_eq, cnt_append, cnt_cons, cnt_nil] <;> omega)
      | none =>
        refine toPlain_no hv hpt ⟨_, rfl, ?_⟩
        refine ⟨_, _, neq_ptr_nil und_PP _ w, br_false rfl ?_⟩
        have hvp : ∃ t b, v = ptrV t b := by obtain ⟨b, _, _, _, h, _⟩ := hv.ptr; exact ⟨_, b, h⟩
        have hv1 : v.cells = #[v] ∧ v.oneCell' = true := by obtain ⟨t, b, rfl⟩ := hvp; exact ⟨rfl, rfl⟩
        have fin : ∀ (ots' : List Inl) (ovs' junk' : List Value) (OM' : List Chunk) w, InlsAt ots' ovs' OM' → mergeM ts = ots' ++ t :: mergeGo [] rts → ovs'.length + junk'.length = ovs.length + junk.length + pvs.length →
            Sat σ w ((rb, cel (ovs' ++ (junk' ++ (v :: rvs' ++ sp))) ty_Inline) :: (OM' ++ (M1 ++ (M2 ++ L)))) →
            g_parseState_mergePlain.k2 R X (some ⟨rb, 0, none⟩) n c (some ⟨rb, 0, none⟩) ovs'.length c ((ovs.length + junk.length + pvs.length : Nat) : Int) w := by
          intro ots' ovs' junk' OM' w hO' hm' hl' h
          refine br_false (by simp; omega) ⟨by omega, by omega, nilP_some ?_⟩
          simp only [Addr.add_lit, Int.toNat_natCast, Nat.mul_one, Nat.zero_add]
          have hg : (ovs' ++ (junk' ++ (v :: rvs' ++ sp)))[ovs.length + junk.length + pvs.length]? = some v := by
            rw [List.getElem?_append_right (by omega), List.getElem?_append_right (by omega)]
            rw [show ovs.length + junk.length + pvs.length - ovs'.length - junk'.length = 0 by omega]
            rfl
          refine ⟨v, Sat.ld h (.head _) hg, ?_⟩
          have e : ovs' ++ (junk' ++ (v :: rvs' ++ sp)) = ovs' ++ ((junk' ++ [v]) ++ (rvs' ++ sp)) := by simp
          rw [e] at h
          refine appRoom' rowInl h (v := v) (by simp; omega) (by omega) hv1.1 hv1.2 (fillP v hvp) fun w h => ?_
          rw [set_mid (by simp)] at h
          have e1 : IntKind.i64.wrap (((ovs.length + junk.length + pvs.length : Nat) : Int) + 1) = ((ovs.length + junk.length + pvs.length + 1 : Nat) : Int) := i64_inc (by omega)
          rw [e1]
          have := ih [] [] (ots' ++ [t]) (ovs' ++ [v]) ((junk' ++ [v]).drop 1) [] rvs' (OM' ++ M1) [] M2 w (hO'.append (InlsAt.one hv)) ⟨rfl, rfl⟩ hrest rfl (by simp) (fun t' ht' => hrne t' (.tail _ ht')) (by simp only [plen, hpt] at hbb; simp; omega)
            (by simp; omega) (by rw [hm']; simp) ?_
          · simp only [List.length_append, List.length_singleton, List.length_drop, List.length_nil, Nat.add_zero] at this
            have e2 : ovs'.length + 1 + (junk'.length + 1 - 1) = ovs.length + junk.length + pvs.length + 1 := by omega
            rw [e2] at this
            exact this
          · rw [List.nil_append]
            exact h.re (by intro _; simp only [List.append_eq, cnt_append, cnt_cons, cnt_nil] <;> omega)
        by_cases hp0 : pvs = []
        · subst hp0
          have hpts : pts = [] := by cases pts with
            | nil => rfl
            | cons _ _ => simp at hpl
          subst hpts
          have hus : us = [] := by cases us with
            | nil => rfl
            | cons _ _ => simp at hul
          subst hus
          obtain ⟨_, rfl⟩ := hP
          refine br_false (by simp) ?_
          refine fin ots ovs junk OM w hO (by rw [hm, mergeGo, hpt]; rfl) (by simp) ?_
          simp only [List.nil_append] at h
          exact h.re (by intro _; simp only [List.append_eq, cnt_append, cnt_cons, cnt_nil] <;> omega)
        · have hpos1 : 0 < pvs.length := List.length_pos_iff.2 hp0
          refine br_true (by simp; omega) ?_
          refine ⟨_, _, _, _, sliceLH rowInl.ht rowInl.hi _ n c _ _ (by omega) (by omega) w, ?_⟩
          rw [if_neg (by omega), rowInl.hs]
          simp only [Option.map_some, Addr.add_lit, Nat.zero_add, Nat.mul_one]
          have hune0 : us ≠ [] := by intro h0; subst h0; simp at hul; omega
          have hfl : 0 < us.flatten.length := by
            cases us with
            | nil => exact absurd rfl hune0
            | cons u us =>
              have := List.length_pos_iff.2 (hune u (.head _))
              simp only [List.flatten_cons, List.length_append]; omega
          have h : Sat σ w ((rb, cel (ovs ++ (junk ++ (pvs ++ (v :: rvs' ++ sp)))) ty_Inline) :: (PM ++ (OM ++ (M1 ++ (M2 ++ L))))) := h.re (by intro _; simp only [List.append_eq, cnt_append, cnt_cons, cnt_nil] <;> omega)
          refine mergePlain1_ok (us := us) hP hu (by omega) (by omega) (by omega) ?_ hfl (by simp only [plen] at hbb; omega) h fun w nb EM' hN h => ⟨_, rfl, ?_⟩
          · intro j hj
            rw [List.getElem?_append_right (by omega), List.getElem?_append_right (by omega), List.getElem?_append_left (by omega)]
            congr 1; omega
          have h : Sat σ w ((rb, cel (ovs ++ ((junk ++ pvs) ++ (v :: rvs' ++ sp))) ty_Inline) :: (EM' ++ (OM ++ (M1 ++ (M2 ++ L))))) := by
            have e : ovs ++ (junk ++ (pvs ++ (v :: rvs' ++ sp))) = ovs ++ ((junk ++ pvs) ++ (v :: rvs' ++ sp)) := by simp
            rw [← e]; exact h
          refine appRoom' rowInl h (v := ptrV ty_P_Plain nb) (by simp; omega) (by omega) rfl rfl (fillI _ _) fun w h => ?_
          rw [set_mid (by simp [hp0])] at h
          have := fin (ots ++ [.plain us.flatten]) (ovs ++ [ptrV ty_P_Plain nb]) ((junk ++ pvs).drop 1) (OM ++ EM') w (hO.append (InlsAt.one hN)) (by rw [hm, mergeGo, hpt]; simp [flushP, hune0]) (by simp; omega) (h.re (by intro _; simp only [List.append_eq, cnt_append, cnt_cons, cnt_nil] <;> omega))
          simp only [List.length_append, List.length_singleton] at this
          exact this
  have := key ts [] [] [] [] [] [] vs [] [] EM w ⟨rfl, rfl⟩ ⟨rfl, rfl⟩ hI rfl (by simp) hpos (by simpa using hb) (by simpa using hlen0) rfl (by simp only [List.nil_append]; exact h.re (by intro _; simp only [List.append_eq, cnt_append, cnt_cons, cnt_nil] <;> omega))
  exact this
end Go.Proofs.YtihmcipajjakgaaGreatDoor


set_option linter.unusedVariables false
namespace Go.Proofs.YtihmcipajjakgaaGreatDoor
open Go.Proofs Go.IntWalk Go.RowKit
variable {σ : Out} {w : World} {L L' : List Chunk} {R : Ending → World → Prop}
inductive PK where
  | nil
  | fn (f : FuncId)
  | code
def parserOf (o : Opt) (c : UInt8) : PK :=
  if c = 92 then .fn i_parseEscape else if c = 96 then .code else if c = 60 then .fn i_parseAutoLinkOrHTML else if c = 91 then .fn i_parseLinkOpen else if c = 33 then .fn i_parseImageOpen
  else if c = 95 ∨ c = 42 then .fn i_parseEmph else if c = 46 then (if o.dot then .fn i_parseDot else .nil) else if c = 45 then (if o.dash then .fn i_parseDash else .nil)
  else if c = 34 ∨ c = 39 then (if o.quote then .fn i_parseEmph else .nil) else if c = 126 then (if o.strike then .fn i_parseEmph else .nil) else if c = 10 then .fn i_parseBreak
  else if c = 38 then .fn i_parseHTMLEntity else if c = 58 then (if o.emoji then .fn i_parseEmoji else .nil) else .nil
abbrev XI := Option Addr → ByteArray → Option Addr → Nat → Nat → Int → Bool → Int → World → Prop
theorem inl_dispatch {X : XI} {b pb : Nat} {p : PS} {o : Opt} {s : List UInt8} {oq : Option Addr} {on oc : Nat} {lo : Int} {bk : Bool} {i : Nat} (hi : i < s.length) (hs : s.length < 4611686018427387904) (hpz : p.pz = some ⟨pb, 0, none⟩) (hp : p.at b ∈ L) (ho : o.at pb ∈ L) (h : Sat σ w L)
    (hK : match parserOf o s[i] with
      | .nil => g_parseState_inline.k1 R X (some ⟨b, 0, none⟩) (bs s) oq on oc lo bk i .nilFunc w
      | .fn f => g_parseState_inline.k1 R X (some ⟨b, 0, none⟩) (bs s) oq on oc lo bk i (.func (.func f) #[] #[]) w
      | .code => br (!bk) (callE P i_backtickParser_reset #[.pointer (some ⟨b, 12, none⟩)] (fun e w11 => e = .returned (.tuple #[]) ∧ g_parseState_inline.k1 R X (some ⟨b, 0, none⟩) (bs s) oq on oc lo true i (.func (.func i_backtickParser_parseCodeSpan) #[.pointer (some ⟨b, 12, none⟩)] #[]) w11) w)
          (g_parseState_inline.k1 R X (some ⟨b, 0, none⟩) (bs s) oq on oc lo bk i (.func (.func i_backtickParser_parseCodeSpan) #[.pointer (some ⟨b, 12, none⟩)] #[]) w)) :
    g_parseState_inline.bl1 R X (some ⟨b, 0, none⟩) (bs s) oq on oc lo bk i w := by
  have hld0 : w.cell? ⟨b, 0, none⟩ = some (.pointer (some ⟨pb, 0, none⟩)) := by rw [← hpz]; exact Sat.ld h hp rfl
  refine br_true (by simp; omega) ⟨by omega, by simp; omega, ?_⟩
  unfold parserOf at hK
  have hne : ∀ (d : UInt8) (m : Int), (d.toNat : Int) = m → ¬ s[i] = d → (bt (bs s) (i : Int) == m) = false := by
    intro d m hm hd; rw [bt_beq hi d m hm]; simpa using hd
  have hye : ∀ (d : UInt8) (m : Int), (d.toNat : Int) = m → s[i] = d → (bt (bs s) (i : Int) == m) = true := by
    intro d m hm hd; rw [bt_beq hi d m hm]; simpa using hd
  by_cases h92 : s[i] = 92
  · rw [if_pos h92] at hK; exact br_true (hye 92 92 rfl h92) hK
  rw [if_neg h92] at hK; refine br_false (hne 92 92 rfl h92) ?_
  by_cases h96 : s[i] = 96
  · rw [if_pos h96] at hK
    refine br_true (hye 96 96 rfl h96) ?_
    cases bk with
    | true => exact br_false rfl (nilP_some hK)
    | false => exact br_true rfl (nilP_some (by
        have hK : callE P i_backtickParser_reset #[.pointer (some ⟨b, 12, none⟩)] _ w := hK
        exact hK))
  rw [if_neg h96] at hK; refine br_false (hne 96 96 rfl h96) ?_
  by_cases h60 : s[i] = 60
  · rw [if_pos h60] at hK; exact br_true (hye 60 60 rfl h60) hK
  rw [if_neg h60] at hK; refine br_false (hne 60 60 rfl h60) ?_
  by_cases h91 : s[i] = 91
  · rw [if_pos h91] at hK; exact br_true (hye 91 91 rfl h91) hK
  rw [if_neg h91] at hK; refine br_false (hne 91 91 rfl h91) ?_
  by_cases h33 : s[i] = 33
  · rw [if_pos h33] at hK; exact br_true (hye 33 33 rfl h33) hK
  rw [if_neg h33] at hK; refine br_false (hne 33 33 rfl h33) ?_
  by_cases h95 : s[i] = 95
  · rw [if_pos (.inl h95)] at hK; exact br_true (hye 95 95 rfl h95) (br_true rfl hK)
  refine br_false (hne 95 95 rfl h95) ?_
  by_cases h42 : s[i] = 42
  · rw [if_pos (.inr h42)] at hK; exact br_true (hye 42 42 rfl h42) hK
  rw [if_neg (by simp [h95, h42])] at hK; refine br_false (hne 42 42 rfl h42) ?_
  have opt : ∀ {A B : Prop} (k : Nat) (v : Bool), o.cells[k]? = some (.bool v) → (v = true → A) → (v = false → B) →
      nilP (some (⟨b, 0, none⟩ : Addr)) fun a53 => ∃ (v54 : Option Addr), w.cell? a53 = some (.pointer v54) ∧ nilP v54 fun a55 => ∃ (v56 : Bool), w.cell? (a55.add k) = some (.bool v56) ∧ br v56 A B := by
    intro A B k v hv hA hB
    refine nilP_some ⟨_, hld0, nilP_some ?_⟩
    simp only [Addr.add_lit, Nat.zero_add]
    exact ⟨v, Sat.ld h ho hv, br_split hA hB⟩
  by_cases h46 : s[i] = 46
  · rw [if_pos h46] at hK
    refine br_true (hye 46 46 rfl h46) (opt 7 o.dot rfl (fun hv => ?_) (fun hv => ?_))
    · rw [if_pos hv] at hK; exact hK
    · rw [if_neg (by simp [hv])] at hK; exact hK
  rw [if_neg h46] at hK; refine br_false (hne 46 46 rfl h46) ?_
  by_cases h45 : s[i] = 45
  · rw [if_pos h45] at hK
    refine br_true (hye 45 45 rfl h45) (opt 8 o.dash rfl (fun hv => ?_) (fun hv => ?_))
    · rw [if_pos hv] at hK; exact hK
    · rw [if_neg (by simp [hv])] at hK; exact hK
  rw [if_neg h45] at hK; refine br_false (hne 45 45 rfl h45) ?_
  by_cases h34 : s[i] = 34
  · rw [if_pos (.inl h34)] at hK
    refine br_true (hye 34 34 rfl h34) (br_true rfl (opt 9 o.quote rfl (fun hv => ?_) (fun hv => ?_)))
    · rw [if_pos hv] at hK; exact hK
    · rw [if_neg (by simp [hv])] at hK; exact hK
  refine br_false (hne 34 34 rfl h34) ?_
  by_cases h39 : s[i] = 39
  · rw [if_pos (.inr h39)] at hK
    refine br_true (hye 39 39 rfl h39) (opt 9 o.quote rfl (fun hv => ?_) (fun hv => ?_))
    · rw [if_pos hv] at hK; exact hK
    · rw [if_neg (by simp [hv])] at hK; exact hK
  rw [if_neg (by simp [h34, h39])] at hK; refine br_false (hne 39 39 rfl h39) ?_
  by_cases h126 : s[i] = 126
  · rw [if_pos h126] at hK
    refine br_true (hye 126 126 rfl h126) (opt 1 o.strike rfl (fun hv => ?_) (fun hv => ?_))
    · rw [if_pos hv] at hK; exact hK
    · rw [if_neg (by simp [hv])] at hK; exact hK
  rw [if_neg h126] at hK; refine br_false (hne 126 126 rfl h126) ?_
  by_cases h10 : s[i] = 10
  · rw [if_pos h10] at hK; exact br_true (hye 10 10 rfl h10) hK
  rw [if_neg h10] at hK; refine br_false (hne 10 10 rfl h10) ?_
  by_cases h38 : s[i] = 38
  · rw [if_pos h38] at hK; exact br_true (hye 38 38 rfl h38) hK
  rw [if_neg h38] at hK; refine br_false (hne 38 38 rfl h38) ?_
  by_cases h58 : s[i] = 58
  · rw [if_pos h58] at hK
    refine br_true (hye 58 58 rfl h58) (opt 6 o.emoji rfl (fun hv => ?_) (fun hv => ?_))
    · rw [if_pos hv] at hK; exact hK
    · rw [if_neg (by simp [hv])] at hK; exact hK
  rw [if_neg h58] at hK; exact br_false (hne 58 58 rfl h58) hK
end Go.Proofs.YtihmcipajjakgaaGreatDoor


set_option linter.unusedVariables false
namespace Go.Proofs.YtihmcipajjakgaaGreatDoor
open Go.Proofs Go.IntWalk Go.RowKit
variable {σ : Out} {w : World} {L L' : List Chunk} {R : Ending → World → Prop}
def PS.core (p : PS) : PS := { p with em := 0, lq := none, ln := 0, lc := 0, corner := false, bt := [] }
def PS.core2 (p : PS) : PS := { p with corner := false, bt := [] }
theorem PS.core_of2 {p p' : PS} (h : p'.core2 = p.core2) : p'.core = p.core := by
  have := congrArg PS.core h
  simpa [PS.core, PS.core2] using this
def IIn (σ : Out) (b : Nat) (p : PS) (ts : List Inl) (opens : List Nat) (oq : Option Addr) (on oc : Nat) (L : List Chunk) (w : World) : Prop :=
  ∃ vs RM EM OM, Sl 1 ty_Inline p.lq p.ln p.lc vs RM ∧ InlsAt ts vs EM ∧ Sl 1 ty_int oq on oc (opens.map fun (n : Nat) => Value.int .i64 n) OM ∧ ts.length < 1073741824 ∧ Sat σ w (p.at b :: (RM ++ (EM ++ (OM ++ L))))
def sub (s : List UInt8) (i j : Nat) : List UInt8 := (s.take j).drop i
def emitM (s : List UInt8) (em i : Nat) (ts : List Inl) : List Inl := if em < i then ts ++ [.plain (sub s em i)] else ts
theorem emitI_ok {b e i : Nat} {p : PS} {ts : List Inl} {opens : List Nat} {oq : Option Addr} {on oc : Nat} (h : IIn σ b p ts opens oq on oc L w) (he : p.em = e) (hl : i ≤ p.s.length) (hn : ts.length < 1073741823)
    (hR : ∀ w p', p'.core = p.core → p'.bt = p.bt → p'.em = ((max e i : Nat) : Int) → IIn σ b p' (emitM p.s e i ts) opens oq on oc L w → R (.returned (.tuple #[])) w) :
    callE P i_parseState_emit #[.pointer (some ⟨b, 0, none⟩), .int .i64 i] R w := by
  obtain ⟨vs, RM, EM, OM, hS, hI, hO, hlen, h⟩ := h
  have hvl := hI.length
  by_cases hi : e < i
  · have h : Sat σ w (p.at b :: RM ++ (EM ++ (OM ++ L))) := h
    refine emit_ok (L := EM ++ (OM ++ L)) h ⟨hS, by omega⟩ he hi hl (by omega) fun w p' M' nb hp' hS' h => ?_
    refine hR w p' (by rw [hp']; rfl) (by rw [hp']) (by rw [hp']; show ((i : Nat) : Int) = _; congr 1; omega) ⟨_, M', EM ++ [plainC nb (sub p.s e i)], OM, hS'.1, ?_, hO, ?_, ?_⟩
    · unfold emitM; rw [if_pos hi]
      exact hI.append (InlsAt.one ⟨nb, [], _, rfl, rfl⟩)
    · unfold emitM; rw [if_pos hi]; simp; omega
    · have h : Sat σ w (p'.at b :: M' ++ (plainC nb (sub p.s e i) :: (EM ++ (OM ++ L)))) := h
      exact h.re (by intro _; simp only [List.append_eq, cnt_append, cnt_cons, cnt_nil] <;> omega)
  · refine emit_no h (by rw [he]; omega) fun w h => ?_
    refine hR w p rfl rfl (by rw [he]; congr 1; omega) ⟨vs, RM, EM, OM, hS, ?_, hO, ?_, h⟩
    · unfold emitM; rw [if_neg hi]; exact hI
    · unfold emitM; rw [if_neg hi]; exact hlen

def LeafOK (b : Nat) (p : PS) (s : List UInt8) (i : Nat) (fv : Value) (L0 : List Chunk) (res : Option (Inl × Nat × Nat)) (Q : PS → Prop) : Prop :=
  ∀ (σ : Out) (R : Ending → World → Prop) (L : List Chunk) (w : World), (∀ c ∈ L0, c ∈ L) → Sat σ w (p.at b :: L) →
    (match res with
      | none => ∀ w p' v x y, p'.core2 = p.core2 → Q p' → Sat σ w (p'.at b :: L) → R (.returned (.tuple #[v, .int .i64 x, .int .i64 y, .bool false])) w
      | some (t, st, en) => ∀ w p' v TM, p'.core2 = p.core2 → Q p' → InlAt t v TM → Sat σ w (p'.at b :: (TM ++ L)) → R (.returned (.tuple #[v, .int .i64 st, .int .i64 en, .bool true])) w) →
    enterE P (do let d ← Deferred.ofValue fv #[.pointer (some ⟨b, 0, none⟩), .string (bs s), .int .i64 i]; invoke d.target d.args) R w
def isFuncB (P : Program) (t : TypeId) : Bool := match P.underlying t with | some (.func _ _ _) => true | _ => false
theorem isFunc_out {P : Program} {t : TypeId} (h : isFuncB P t = true) : ∃ ps rs vr, P.underlying t = some (.func ps rs vr) := by
  unfold isFuncB at h
  split at h
  · rename_i a b c hd; exact ⟨_, _, _, hd⟩
  · cases h
theorem und_pf : isFuncB P ty_func_P_parseState_string_int_I_18a27a = true := by kernel_rfl
theorem neq_pf {x y : Operand} (k : FuncId) (f g : Array Value) (w : World) :
    (do eqGuard .neq ty_func_P_parseState_string_int_I_18a27a x y (.func (.func k) f g) .nilFunc; binOp .neq ty_func_P_parseState_string_int_I_18a27a (.func (.func k) f g) .nilFunc).run P w = .ok (.bool true) w := by
  obtain ⟨_, _, _, h⟩ := isFunc_out und_pf
  exact neq_func_nil h k f g w
theorem neq_pn {x y : Operand} (w : World) :
    (do eqGuard .neq ty_func_P_parseState_string_int_I_18a27a x y .nilFunc .nilFunc; binOp .neq ty_func_P_parseState_string_int_I_18a27a .nilFunc .nilFunc).run P w = .ok (.bool false) w := by
  obtain ⟨_, _, _, h⟩ := isFunc_out und_pf
  exact neq_nil_nil h w
def Inl.isOpen : Inl → Bool
  | .openP _ _ => true
  | _ => false
theorem Inl.ty_open {t : Inl} (h : t.isOpen = false) : t.ty ≠ ty_P_openPlain := by
  cases t <;> simp only [Inl.isOpen, reduceCtorEq] at h <;> (simp only [Inl.ty]; decide)
noncomputable def rowInt : Row P ty_S_int ty_int 1 8 :=
  ⟨(P.info? ty_int).getD default, ((P.info? ty_int).bind (·.zero)).getD default, by kernel_rfl, by kernel_rfl, by kernel_rfl, by kernel_rfl, by kernel_rfl, by kernel_rfl, by decide⟩
theorem fillN (n : Nat) : Instr.fill (fun i => some (i * 1, 1)) ((Array.range (1 * 1)).map (rowInt.z.cells[· % rowInt.z.cells.size]!)) [(0, .int .i64 n)] = some #[.int .i64 n] := by kernel_rfl
theorem inl_leaf {X : XI} {b i e st en : Nat} {p : PS} {ts : List Inl} {opens : List Nat} {oq : Option Addr} {on oc : Nat} {lo : Int} {bk : Bool} {f : FuncId} {fr cp : Array Value} {t : Inl} {L0 : List Chunk} {Q : PS → Prop}
    (h : IIn σ b p ts opens oq on oc L w) (hL0 : ∀ c ∈ L0, c ∈ L) (hf : LeafOK b p p.s i (.func (.func f) fr cp) L0 (some (t, st, en)) Q) (he : p.em = e) (hst : st ≤ p.s.length) (hs : p.s.length < 1000000000) (hn : ts.length < 1000000000) (hon : opens.length < 1000000000)
    (hK : ∀ w p' oq on oc, p'.core = p.core → p'.em = (en : Int) → (∃ p'', Q p'' ∧ p'.bt = p''.bt) → IIn σ b p' (emitM p.s e st ts ++ [t]) (if t.isOpen then opens ++ [(emitM p.s e st ts).length] else opens) oq on oc L w → X (some ⟨b, 0, none⟩) (bs p.s) oq on oc lo bk en w) :
    g_parseState_inline.k1 R X (some ⟨b, 0, none⟩) (bs p.s) oq on oc lo bk i (.func (.func f) fr cp) w := by
  refine ⟨_, _, neq_pf f fr cp w, br_true rfl ?_⟩
  obtain ⟨vs, RM, EM, OM, hS, hI, hO, hlen, h⟩ := h
  have hcl : ∀ c ∈ L0, c ∈ RM ++ (EM ++ (OM ++ L)) := fun c hc => List.mem_append_right _ (List.mem_append_right _ (List.mem_append_right _ (hL0 c hc)))
  refine hf σ _ (RM ++ (EM ++ (OM ++ L))) w hcl h fun w p1 v TM hp1 hq1 ht h => ⟨_, _, _, _, rfl, br_true rfl ?_⟩
  have hc1 := PS.core_of2 hp1
  have e1 : p1.lq = p.lq := by have := congrArg PS.lq hp1; exact this
  have e2 : p1.ln = p.ln := by have := congrArg PS.ln hp1; exact this
  have e3 : p1.lc = p.lc := by have := congrArg PS.lc hp1; exact this
  have e4 : p1.s = p.s := by have := congrArg PS.s hp1; exact this
  have e5 : p1.em = e := by have := congrArg PS.em hp1; rw [← he]; exact this
  have hI1 : IIn σ b p1 ts opens oq on oc (TM ++ L) w := ⟨vs, RM, EM, OM, by rw [e1, e2, e3]; exact hS, hI, hO, hlen, h.re (by intro _; simp only [List.append_eq, cnt_append, cnt_cons, cnt_nil] <;> omega)⟩
  refine emitI_ok hI1 e5 (by rw [e4]; exact hst) (by omega) fun w p2 hp2 hbt he2 h2 => ⟨rfl, ?_⟩
  rw [e4] at h2
  obtain ⟨pb, cs, ee, TM', rfl, rfl⟩ := ht.ptr
  have hc2 : p2.core = p.core := hp2.trans hc1
  have hs2 : p2.s = p.s := by have := congrArg PS.s hc2; exact this
  have elen : (emitM p.s e st ts).length ≤ ts.length + 1 := by unfold emitM; split <;> simp
  have fin : ∀ w oq on oc opens', opens' = (if t.isOpen then opens ++ [(emitM p.s e st ts).length] else opens) → IIn σ b p2 (emitM p.s e st ts) opens' oq on oc (((pb, cel cs ee) :: TM') ++ L) w →
      g_parseState_inline.k4 R X (some ⟨b, 0, none⟩) (bs p.s) oq on oc lo bk (ptrV t.ty pb) en w := by
    intro w oq on oc opens' ho h
    obtain ⟨vs, RM, EM, OM, hS, hI, hO, hlen, h⟩ := h
    have hvl := hI.length
    have hn0 := hS.1
    refine nilP_some ?_
    refine ⟨_, _, _, Sat.ld h (by first | assumption | (repeat (first | exact .head _ | apply List.Mem.tail))) (by exact rfl), ?_⟩
    have h : Sat σ w (RM ++ (p2.at b :: (EM ++ (OM ++ (((pb, cel cs ee) :: TM') ++ L))))) := h.re (by intro _; simp only [List.append_eq, cnt_append, cnt_cons, cnt_nil] <;> omega)
    refine Sat.app1 rowInl hS h (v := ptrV t.ty pb) rfl (by simp [ptrV, Value.cells, Value.oneCell']) (fillI _ _) (by omega) (by omega) (by decide) fun q' c' w' M' hS' h => ?_
    have h : Sat σ w' (p2.at b :: (M' ++ (EM ++ (OM ++ (((pb, cel cs ee) :: TM') ++ L))))) := h.re (by intro _; simp only [List.append_eq, cnt_append, cnt_cons, cnt_nil] <;> omega)
    refine nilP_some ?_
    refine Sat.st h (k := 0) rfl (Nat.le_of_ble_eq_true rfl) trivial (by first | (dsimp only [List.set]; exact rfl) | exact rfl) fun w h => ?_
    let p3 : PS := { p2 with lq := q', ln := p2.ln + 1, lc := c' }
    have h : Sat σ w (p3.at b :: (M' ++ (EM ++ (OM ++ (((pb, cel cs ee) :: TM') ++ L))))) := h
    refine skipTo_ok h fun w h => ⟨rfl, ?_⟩
    refine hK w { p3 with em := en } oq on oc (by rw [← hc2]; rfl) rfl ⟨p1, hq1, hbt⟩ ⟨_, M', EM ++ ((pb, cel cs ee) :: TM'), OM, hS', ?_, by rw [← ho]; exact hO, by simp; omega, h.re (by intro _; simp only [List.append_eq, cnt_append, cnt_cons, cnt_nil] <;> omega)⟩
    exact hI.append (InlsAt.one ht)
  cases hto : t.isOpen with
  | false =>
    refine ⟨_, _, w, ta_open_no (Inl.ty_open hto) w, br_false rfl ?_⟩
    exact fin w oq on oc opens (by rw [hto]; rfl) h2
  | true =>
    have hty : t.ty = ty_P_openPlain := by cases t <;> simp only [Inl.isOpen, reduceCtorEq] at hto; rfl
    have hta : (Instr.typeAssert (ptrV t.ty pb) ty_Inline ty_P_openPlain true).run P w = .ok (.tuple #[.pointer (some ⟨pb, 0, none⟩), .bool true]) w := by
      rw [hty]; exact ta_open_yes w
    refine ⟨_, _, w, hta, br_true rfl ?_⟩
    obtain ⟨vs, RM, EM, OM, hS, hI, hO, hlen, h⟩ := h2
    have hvl := hI.length
    have hn0 := hS.1
    have hol := hO.1
    rw [List.length_map] at hol
    refine nilP_some ?_
    refine ⟨_, _, _, Sat.ld h (by first | assumption | (repeat (first | exact .head _ | apply List.Mem.tail))) (by exact rfl), ?_⟩
    have h : Sat σ w (OM ++ (p2.at b :: (RM ++ (EM ++ (((pb, cel cs ee) :: TM') ++ L))))) := h.re (by intro _; simp only [List.append_eq, cnt_append, cnt_cons, cnt_nil] <;> omega)
    have hln : p2.ln = (emitM p.s e st ts).length := by omega
    rw [hln]
    generalize hm : (emitM p.s e st ts).length = m at fin elen hln ⊢
    refine Sat.app1 rowInt hO h (v := .int .i64 (m : Nat)) rfl (by simp [Value.cells, Value.oneCell']) (fillN m) (by omega) (by omega) (by decide) fun q' c' w' M' hO' h => ?_
    refine fin w' q' _ c' _ (by rw [hto] <;> rfl) ⟨vs, RM, EM, M', hS, hI, ?_, hlen, h.re (by intro _; simp only [List.append_eq, cnt_append, cnt_cons, cnt_nil] <;> omega)⟩
    rw [if_pos rfl, List.map_append]; exact hO'
theorem inl_k5 {X : XI} {b i : Nat} {s : List UInt8} {oq : Option Addr} {on oc : Nat} {lo : Int} {bk : Bool} (hi : i < s.length) (hs : s.length < 4611686018427387904) (hc : s[i] ≠ 93 ∨ on = 0)
    (hK : X (some ⟨b, 0, none⟩) (bs s) oq on oc lo bk ((i + 1 : Nat) : Int) w) : g_parseState_inline.k5 R X (some ⟨b, 0, none⟩) (bs s) oq on oc lo bk i w := by
  refine ⟨by omega, by simp; omega, ?_⟩
  refine br_false ?_ ?_
  · rw [bt_beq hi 93 93 rfl]
    rcases hc with hc | hc
    · simp [hc]
    · simp [hc]
  · rw [i64_inc (by omega)]; exact hK
theorem inl_none {X : XI} {b i : Nat} {s : List UInt8} {oq : Option Addr} {on oc : Nat} {lo : Int} {bk : Bool} (hK : g_parseState_inline.k5 R X (some ⟨b, 0, none⟩) (bs s) oq on oc lo bk i w) :
    g_parseState_inline.k1 R X (some ⟨b, 0, none⟩) (bs s) oq on oc lo bk i .nilFunc w :=
  ⟨_, _, neq_pn w, br_false rfl hK⟩
theorem inl_decl {X : XI} {b i : Nat} {p : PS} {ts : List Inl} {opens : List Nat} {oq : Option Addr} {on oc : Nat} {lo : Int} {bk : Bool} {f : FuncId} {fr cp : Array Value} {L0 : List Chunk} {Q : PS → Prop}
    (h : IIn σ b p ts opens oq on oc L w) (hL0 : ∀ c ∈ L0, c ∈ L) (hf : LeafOK b p p.s i (.func (.func f) fr cp) L0 none Q)
    (hK : ∀ w p', p'.core2 = p.core2 → Q p' → IIn σ b p' ts opens oq on oc L w → g_parseState_inline.k5 R X (some ⟨b, 0, none⟩) (bs p.s) oq on oc lo bk i w) :
    g_parseState_inline.k1 R X (some ⟨b, 0, none⟩) (bs p.s) oq on oc lo bk i (.func (.func f) fr cp) w := by
  refine ⟨_, _, neq_pf f fr cp w, br_true rfl ?_⟩
  obtain ⟨vs, RM, EM, OM, hS, hI, hO, hlen, h⟩ := h
  have hcl : ∀ c ∈ L0, c ∈ RM ++ (EM ++ (OM ++ L)) := fun c hc => List.mem_append_right _ (List.mem_append_right _ (List.mem_append_right _ (hL0 c hc)))
  refine hf σ _ (RM ++ (EM ++ (OM ++ L))) w hcl h fun w p1 v x y hp1 hq1 h => ⟨_, _, _, _, rfl, br_false rfl ?_⟩
  have e1 : p1.lq = p.lq := by have := congrArg PS.lq hp1; exact this
  have e2 : p1.ln = p.ln := by have := congrArg PS.ln hp1; exact this
  have e3 : p1.lc = p.lc := by have := congrArg PS.lc hp1; exact this
  exact hK w p1 hp1 hq1 ⟨vs, RM, EM, OM, by rw [e1, e2, e3]; exact hS, hI, hO, hlen, h⟩
end Go.Proofs.YtihmcipajjakgaaGreatDoor


set_option linter.unusedVariables false
namespace Go.Proofs.YtihmcipajjakgaaGreatDoor
open Go.Proofs Go.IntWalk Go.RowKit
variable {σ : Out} {w : World} {L L' : List Chunk} {R : Ending → World → Prop}
def htmC (hb : Nat) (q : Option Addr) (n c eb : Nat) : Chunk := (hb, cel [.bool false, .slice q n c, .func (.func i_parseState_startHTML_1) #[] #[.pointer (some ⟨eb, 0, none⟩)]] ty_htmlBuilder)
def HtmAt (hb : Nat) (en : List UInt8) (ls : List (List UInt8)) (M : List Chunk) : Prop :=
  ∃ q c SM eb, Sl 1 ty_string q ls.length c (sv ls) SM ∧ M = htmC hb q ls.length c eb :: (SM ++ [(eb, cel [.string (bs en)] ty_string)])
theorem und_fsb : isFuncB P ty_func_string_bool = true := by kernel_rfl
theorem endFn_ok {eb : Nat} {en t : List UInt8} (h : Sat σ w L) (hm : (eb, cel [.string (bs en)] ty_string) ∈ L) (ht : t.length < 4611686018427387904) (hen : en.length < 4611686018427387904) (hR : R (.returned (.bool (idx t en).isSome)) w) :
    enterE P (do let d ← Deferred.ofValue (.func (.func i_parseState_startHTML_1) #[] #[.pointer (some ⟨eb, 0, none⟩)]) #[.string (bs t)]; invoke d.target d.args) R w := by
  refine enter_fn ?_
  refine g_parseState_startHTML_1.sound ?_
  exact ⟨_, Sat.ld h hm rfl, zzContains_ok ht hen ⟨_, rfl, hR⟩⟩
theorem meth_htmExtend : methB P ty_P_htmlBuilder "pub-paratext/pub/rscmarkdown.extend" i_htmlBuilder_extend = true := by kernel_rfl
theorem meth_htmBuild : methB P ty_P_htmlBuilder "pub-paratext/pub/rscmarkdown.build" i_htmlBuilder_build = true := by kernel_rfl
theorem htmExtend_ok {hb : Nat} {q2 : Option Addr} {en : List UInt8} {ls : List (List UInt8)} {HM : List Chunk} {l : Ln} (h : Sat σ w (HM ++ L)) (hH : HtmAt hb en ls HM) (hl : l.ok) (hls : ls.length < 1048576) (ht : l.str.length < 4611686018427387904) (hen : en.length < 4611686018427387904)
    (hR : ∀ w HM', HtmAt hb en (ls ++ [l.str]) HM' → Sat σ w (HM' ++ L) → R (.returned (.tuple #[Ln.zero.val, .bool (!(idx l.str en).isSome)])) w) : callE P i_htmlBuilder_extend #[.pointer (some ⟨hb, 0, none⟩), .pointer q2, l.val] R w := by
  obtain ⟨q, c, SM, eb, hS, rfl⟩ := hH
  refine g_htmlBuilder_extend.sound ?_
  refine Sat.bx h fun b1 w h => ?_
  refine Sat.bx h fun b3 w h => ?_
  have h : Sat σ w (zLn b3 :: l.at b1 :: (htmC hb q ls.length c eb :: (SM ++ [(eb, cel [.string (bs en)] ty_string)]) ++ L)) := h
  refine nilP_some ⟨false, Sat.ld h (.tail _ (.tail _ (.head _))) rfl, br_false rfl ?_⟩
  refine string_ok h (.tail _ (.head _)) hl fun w h => ⟨_, rfl, nilP_some ?_⟩
  refine ⟨_, _, _, Sat.ld h (by first | assumption | (repeat (first | exact .head _ | apply List.Mem.tail))) (by exact rfl), ?_⟩
  have h : Sat σ w (SM ++ (zLn b3 :: l.at b1 :: htmC hb q ls.length c eb :: (eb, cel [.string (bs en)] ty_string) :: L)) := h.re (by intro _; simp only [List.append_eq, cnt_append, cnt_cons, cnt_nil] <;> omega)
  refine Sat.app1 rowStr hS h (v := .string (bs l.str)) rfl (by simp [Value.cells, Value.oneCell']) (fillS l.str) (by omega) (by omega) (by decide) fun q' c' w M' hS' h => ?_
  have h : Sat σ w (zLn b3 :: htmC hb q ls.length c eb :: (M' ++ (l.at b1 :: (eb, cel [.string (bs en)] ty_string) :: L))) := h.re (by intro _; simp only [List.append_eq, cnt_append, cnt_cons, cnt_nil] <;> omega)
  refine nilP_some ?_
  refine Sat.st h (k := 1) rfl (Nat.le_of_ble_eq_true rfl) trivial (by first | (dsimp only [List.set]; exact rfl) | exact rfl) fun w h => ?_
  have h : Sat σ w (zLn b3 :: htmC hb q' (ls.length + 1) c' eb :: (M' ++ (l.at b1 :: (eb, cel [.string (bs en)] ty_string) :: L))) := h
  obtain ⟨_, _, _, hfu⟩ := isFunc_out und_fsb
  refine nilP_some ⟨_, Sat.ld h (.tail _ (.head _)) (i := 2) rfl, true, w, neq_func_nil hfu _ _ _ w, br_true rfl (nilP_some ?_)⟩
  refine ⟨_, Sat.ld h (.tail _ (.head _)) (i := 2) rfl, ?_⟩
  have hfin : ∀ w, Sat σ w (zLn b3 :: htmC hb q' (ls.length + 1) c' eb :: (M' ++ (l.at b1 :: (eb, cel [.string (bs en)] ty_string) :: L))) → R (.returned (.tuple #[Ln.zero.val, .bool (!(idx l.str en).isSome)])) w := by
    intro w h
    refine hR w (htmC hb q' (ls ++ [l.str]).length c' eb :: (M' ++ [(eb, cel [.string (bs en)] ty_string)])) ⟨q', c', M', eb, ?_, rfl⟩ ?_
    · rw [List.length_append, List.length_singleton]
      have e : sv (ls ++ [l.str]) = sv ls ++ [.string (bs l.str)] := by simp [sv]
      rw [e]; exact hS'
    · rw [List.length_append, List.length_singleton]
      exact h.less [zLn b3, l.at b1] (by intro _; simp only [List.append_eq, cnt_append, cnt_cons, cnt_nil] <;> omega)
  refine endFn_ok h (by simp) ht hen ⟨_, rfl, ?_⟩
  cases hx : (idx l.str en).isSome with
  | true =>
    rw [hx] at hfin
    refine br_true rfl ?_
    repeat (first | refine nilP_some ?_ | refine Sat.tk h fun w h => ?_ | refine ⟨_, Sat.ld h (by first | assumption | (repeat (first | exact .head _ | apply List.Mem.tail))) (by exact rfl), ?_⟩ | refine ⟨_, _, _, Sat.ld h (by first | assumption | (repeat (first | exact .head _ | apply List.Mem.tail))) (by exact rfl), ?_⟩ | refine Sat.st h (k := 0) rfl (Nat.le_of_ble_eq_true rfl) trivial (by first | (dsimp only [List.set]; exact rfl) | exact rfl) fun w h => ?_ | refine Sat.st h (k := 1) rfl (Nat.le_of_ble_eq_true rfl) trivial (by first | (dsimp only [List.set]; exact rfl) | exact rfl) fun w h => ?_ | refine Sat.st h (k := 2) rfl (Nat.le_of_ble_eq_true rfl) trivial (by first | (dsimp only [List.set]; exact rfl) | exact rfl) fun w h => ?_ | refine Sat.st h (k := 3) rfl (Nat.le_of_ble_eq_true rfl) trivial (by first | (dsimp only [List.set]; exact rfl) | exact rfl) fun w h => ?_ | refine Sat.st h (k := 4) rfl (Nat.le_of_ble_eq_true rfl) trivial (by first | (dsimp only [List.set]; exact rfl) | exact rfl) fun w h => ?_ | refine Sat.st h (k := 5) rfl (Nat.le_of_ble_eq_true rfl) trivial (by first | (dsimp only [List.set]; exact rfl) | exact rfl) fun w h => ?_ | refine Sat.st h (k := 6) rfl (Nat.le_of_ble_eq_true rfl) trivial (by first | (dsimp only [List.set]; exact rfl) | exact rfl) fun w h => ?_ | refine Sat.bx h fun b0 w h => ?_)
    exact hfin _ h
  | false =>
    rw [hx] at hfin
    refine br_false rfl ?_
    repeat (first | refine nilP_some ?_ | refine Sat.tk h fun w h => ?_ | refine ⟨_, Sat.ld h (by first | assumption | (repeat (first | exact .head _ | apply List.Mem.tail))) (by exact rfl), ?_⟩ | refine ⟨_, _, _, Sat.ld h (by first | assumption | (repeat (first | exact .head _ | apply List.Mem.tail))) (by exact rfl), ?_⟩ | refine Sat.st h (k := 0) rfl (Nat.le_of_ble_eq_true rfl) trivial (by first | (dsimp only [List.set]; exact rfl) | exact rfl) fun w h => ?_ | refine Sat.st h (k := 1) rfl (Nat.le_of_ble_eq_true rfl) trivial (by first | (dsimp only [List.set]; exact rfl) | exact rfl) fun w h => ?_ | refine Sat.st h (k := 2) rfl (Nat.le_of_ble_eq_true rfl) trivial (by first | (dsimp only [List.set]; exact rfl) | exact rfl) fun w h => ?_ | refine Sat.st h (k := 3) rfl (Nat.le_of_ble_eq_true rfl) trivial (by first | (dsimp only [List.set]; exact rfl) | exact rfl) fun w h => ?_ | refine Sat.st h (k := 4) rfl (Nat.le_of_ble_eq_true rfl) trivial (by first | (dsimp only [List.set]; exact rfl) | exact rfl) fun w h => ?_ | refine Sat.st h (k := 5) rfl (Nat.le_of_ble_eq_true rfl) trivial (by first | (dsimp only [List.set]; exact rfl) | exact rfl) fun w h => ?_ | refine Sat.st h (k := 6) rfl (Nat.le_of_ble_eq_true rfl) trivial (by first | (dsimp only [List.set]; exact rfl) | exact rfl) fun w h => ?_ | refine Sat.bx h fun b0 w h => ?_)
    exact hfin _ h
def hblC (nb s e : Nat) (q : Option Addr) (n c : Nat) : Chunk := (nb, cel [.int .i64 s, .int .i64 e, .slice q n c] ty_HTMLBlock)
theorem htmBuild_ok {b hb : Nat} {p : PS} {ob : List OB} {o : OB} {en : List UInt8} {ls : List (List UInt8)} {M HM : List Chunk} (h : Sat σ w (p.at b :: M ++ (HM ++ L))) (hs : Stk p (ob ++ [o]) M) (hH : HtmAt hb en ls HM)
    (hR : ∀ w nb q c SM, Sl 1 ty_string q ls.length c (sv ls) SM → Sat σ w (p.at b :: M ++ (hblC nb o.s o.e q ls.length c :: (SM ++ L))) → R (.returned (.iface ty_P_HTMLBlock (.pointer (some ⟨nb, 0, none⟩)))) w) :
    callE P i_htmlBuilder_build #[.pointer (some ⟨hb, 0, none⟩), .iface ty_P_parseState (.pointer (some ⟨b, 0, none⟩))] R w := by
  obtain ⟨q, c, SM, eb, hS, rfl⟩ := hH
  refine g_htmlBuilder_build.sound ?_
  have h : Sat σ w (htmC hb q ls.length c eb :: (p.at b :: M ++ (SM ++ ((eb, cel [.string (bs en)] ty_string) :: L)))) := h.re (by intro _; simp only [List.append_eq, cnt_append, cnt_cons, cnt_nil] <;> omega)
  refine Sat.tk h fun w h => ?_
  refine nilP_some ?_
  refine ⟨_, _, _, Sat.ld h (by first | assumption | (repeat (first | exact .head _ | apply List.Mem.tail))) (by exact rfl), ?_⟩
  have h0 := h
  have h : Sat σ w (p.at b :: M ++ (htmC hb q ls.length c eb :: (SM ++ ((eb, cel [.string (bs en)] ty_string) :: L)))) := h.re (by intro _; simp only [List.append_eq, cnt_append, cnt_cons, cnt_nil] <;> omega)
  refine enter_meth meth_pos ?_
  refine pos_ok h hs fun w h => ⟨_, _, rfl, h0.same h (.head _) (List.mem_append_right _ (.head _)) 1, ?_⟩
  refine Sat.bx h fun nb w h => ?_
  refine hR w nb q c SM hS ?_
  have h : Sat σ w (hblC nb o.s o.e q ls.length c :: (p.at b :: M ++ (htmC hb q ls.length c eb :: (SM ++ ((eb, cel [.string (bs en)] ty_string) :: L))))) := h
  exact h.less [htmC hb q ls.length c eb, (eb, cel [.string (bs en)] ty_string)] (by intro _; simp only [List.append_eq, cnt_append, cnt_cons, cnt_nil] <;> omega)
theorem meth_HTMLBlock : methB P ty_P_HTMLBlock "PrintHTML" i_HTMLBlock_PrintHTML = true := by kernel_rfl
def rawOut (ls : List (List UInt8)) : List UInt8 := ls.flatMap fun l => l ++ [10]
theorem html_prints {nb s e : Nat} {q : Option Addr} {c : Nat} {ls : List (List UInt8)} {SM : List Chunk} (hS : Sl 1 ty_string q ls.length c (sv ls) SM) (hn : ls.length < 1048576) (hl : ∀ l ∈ ls, l.length < 4294967296) :
    Prints "PrintHTML" (.iface ty_P_HTMLBlock (.pointer (some ⟨nb, 0, none⟩))) (hblC nb s e q ls.length c :: SM) (hblC nb s e q ls.length c :: SM) (ab (rawOut ls)) := by
  refine ⟨ab_le _, fun σ R b l M L w hB h hb hR => enter_meth meth_HTMLBlock ?_⟩
  refine g_HTMLBlock_PrintHTML.sound ?_
  have hb' : (l ++ rawOut ls).length ≤ 549755813888 := hb
  refine nilP_some ⟨_, _, _, Sat.ld h (List.mem_append_right _ (.head _)) (i := 2) rfl, ?_⟩
  intro X hX
  have key : ∀ k j M w, j + k = ls.length → Buf b (l ++ rawOut (ls.take j)) M → Sat σ w (M ++ (hblC nb s e q ls.length c :: SM ++ L)) → X (some ⟨b, 0, none⟩) q ls.length c (ls.length : Int) (j : Int) w := by
    intro k
    induction k with
    | zero =>
      intro j M w hj hB h
      rw [List.take_of_length_le (by omega)] at hB
      exact hX _ _ _ _ _ _ _ (br_false (by simp; omega) (hR w M hB h))
    | succ k ih =>
      intro j M w hj hB h
      have hjl : j < ls.length := by omega
      have hst : rawOut (ls.take (j + 1)) = rawOut (ls.take j) ++ (ls[j] ++ [10]) := by unfold rawOut; rw [List.take_succ_eq_append_getElem hjl, List.flatMap_append]; simp
      have hle : (rawOut (ls.take (j + 1))).length ≤ (rawOut ls).length := by
        have : rawOut ls = rawOut (ls.take (j + 1)) ++ rawOut (ls.drop (j + 1)) := by unfold rawOut; rw [← List.flatMap_append, List.take_append_drop]
        rw [this, List.length_append]; omega
      rw [hst] at hle
      simp only [List.length_append, List.length_cons, List.length_nil] at hle hb'
      have hS2 : Sat σ w (SM ++ (M ++ (hblC nb s e q ls.length c :: L))) := h.re (by intro _; simp only [List.append_eq, cnt_append, cnt_cons, cnt_nil] <;> omega)
      refine hX _ _ _ _ _ _ _ (br_true (by simp; omega) ⟨by omega, by omega, ?_⟩)
      refine hS.loadAt hS2 (sv_get hjl) fun qb hq hc => ?_
      simp only [Addr.add_lit, Int.toNat_natCast, Nat.mul_one, Nat.zero_add]
      refine ⟨_, hc, ?_⟩
      refine writeS_ok (s := ls[j]) hB h (by simp only [List.length_append]; omega) fun w M hB h => ⟨_, _, rfl, ?_⟩
      refine writeS_ok (s := [10]) hB h (by simp only [List.length_append, List.length_cons, List.length_nil]; omega) fun w M hB h => ⟨_, _, rfl, ?_⟩
      rw [i64_inc (by omega)]
      refine ih (j + 1) M w (by omega) ?_ h
      rw [hst, ← List.append_assoc, ← List.append_assoc]; exact hB
  exact key ls.length 0 M w (by omega) (by simpa [rawOut] using hB) h
end Go.Proofs.YtihmcipajjakgaaGreatDoor


set_option linter.unusedVariables false
set_option maxRecDepth 20000
namespace Go.Proofs.YtihmcipajjakgaaGreatDoor
open Go.Proofs
namespace g_internal_stringslite_HasPrefix
noncomputable def body : Code := bodyOf Tryz.f152
end g_internal_stringslite_HasPrefix
def g_internal_stringslite_HasPrefix (R : EP) (x0 : BA) (x1 : BA) (w : World) : Prop :=
 br (decide ((x0.size : Int) ≥ (x1.size : Int)))
 (0 ≤ (x1.size : Int) ∧ (x1.size : Int) ≤ (x0.size : Int) ∧
 R (.returned (.bool ((x0.extract 0 (Int.toNat (x1.size : Int))).toList == x1.toList))) w)
 (R (.returned (.bool false)) w)

noncomputable def g_internal_stringslite_HasPrefix.ac (R : EP) : AC :=
  (.leaf (sel [] g_internal_stringslite_HasPrefix.body))
theorem g_internal_stringslite_HasPrefix.good (R : EP) : Good P 18 (g_internal_stringslite_HasPrefix.ac R) (QF P [.tmp 4] R) :=
  trivial
theorem g_internal_stringslite_HasPrefix.eq (R : EP) (x0 : BA) (x1 : BA) (w : World) : g_internal_stringslite_HasPrefix R x0 x1 w = vcA P 18 (g_internal_stringslite_HasPrefix.ac R) (QF P [.tmp 4] R) (fr0 [.string x0, .string x1]) w := by kernel_rfl
theorem g_internal_stringslite_HasPrefix.sound {R : EP} {x0 : ByteArray} {x1 : ByteArray} {w : World} (h : g_internal_stringslite_HasPrefix R x0 x1 w) : callE P i_internal_stringslite_HasPrefix #[.string x0, .string x1] R w :=
  callE_fin (c := g_internal_stringslite_HasPrefix.body) Tryz.func152 Tryz.call152 (by kernel_rfl) (by kernel_rfl) (by kernel_rfl) (by kernel_rfl) (by kernel_rfl) (g_internal_stringslite_HasPrefix.good R) (g_internal_stringslite_HasPrefix.eq R x0 x1 w) h
namespace g_isLetter
noncomputable def body : Code := bodyOf Tryz.f120
end g_isLetter
def g_isLetter (R : EP) (x0 : Int) (w : World) : Prop :=
 R (.returned (.bool (((decide (65 ≤ x0)) && (decide (x0 ≤ 90))) || ((decide (97 ≤ x0)) && (decide (x0 ≤ 122)))))) w

noncomputable def g_isLetter.ac (R : EP) : AC :=
  (.leaf (sel [] g_isLetter.body))
theorem g_isLetter.good (R : EP) : Good P 17 (g_isLetter.ac R) (QF P [.tmp 2] R) :=
  trivial
theorem g_isLetter.eq (R : EP) (x0 : Int) (w : World) : g_isLetter R x0 w = vcA P 17 (g_isLetter.ac R) (QF P [.tmp 2] R) (fr0 [.int .u8 x0]) w := by kernel_rfl
theorem g_isLetter.sound {R : EP} {x0 : Int} {w : World} (h : g_isLetter R x0 w) : callE P i_isLetter #[.int .u8 x0] R w :=
  callE_fin (c := g_isLetter.body) Tryz.func120 Tryz.call120 (by kernel_rfl) (by kernel_rfl) (by kernel_rfl) (by kernel_rfl) (by kernel_rfl) (g_isLetter.good R) (g_isLetter.eq R x0 w) h
namespace g_strings_HasPrefix
noncomputable def body : Code := bodyOf Tryz.f96
end g_strings_HasPrefix
def g_strings_HasPrefix (R : EP) (x0 : BA) (x1 : BA) (w : World) : Prop :=
 callE P i_internal_stringslite_HasPrefix #[.string x0, .string x1] (fun e w2 => ∃ (r1 : Bool), e = .returned (.bool r1) ∧
 R (.returned (.bool r1)) w2) w

noncomputable def g_strings_HasPrefix.ac (R : EP) : AC :=
  (.leaf (sel [] g_strings_HasPrefix.body))
theorem g_strings_HasPrefix.good (R : EP) : Good P 8 (g_strings_HasPrefix.ac R) (QF P [.tmp 4] R) :=
  trivial
theorem g_strings_HasPrefix.eq (R : EP) (x0 : BA) (x1 : BA) (w : World) : g_strings_HasPrefix R x0 x1 w = vcA P 8 (g_strings_HasPrefix.ac R) (QF P [.tmp 4] R) (fr0 [.string x0, .string x1]) w := by kernel_rfl
theorem g_strings_HasPrefix.sound {R : EP} {x0 : ByteArray} {x1 : ByteArray} {w : World} (h : g_strings_HasPrefix R x0 x1 w) : callE P i_strings_HasPrefix #[.string x0, .string x1] R w :=
  callE_fin (c := g_strings_HasPrefix.body) Tryz.func96 Tryz.call96 (by kernel_rfl) (by kernel_rfl) (by kernel_rfl) (by kernel_rfl) (by kernel_rfl) (g_strings_HasPrefix.good R) (g_strings_HasPrefix.eq R x0 x1 w) h
end Go.Proofs.YtihmcipajjakgaaGreatDoor

set_option linter.unusedVariables false
namespace Go.Proofs.YtihmcipajjakgaaGreatDoor
open Go.Proofs
def optOff : Opt := ⟨false, false, false, false, false, false, false, false, false, false⟩
end Go.Proofs.YtihmcipajjakgaaGreatDoor


set_option linter.unusedVariables false
namespace Go.Proofs.YtihmcipajjakgaaGreatDoor
open Go.Proofs Go.IntWalk Go.RowKit
variable {σ : Out} {w : World} {L L' : List Chunk} {R : Ending → World → Prop}
theorem u8_le' (c : UInt8) (n : Nat) : decide ((n : Int) ≤ ((c.toNat : Nat) : Int)) = decide (n ≤ c.toNat) := by rw [decide_eq_decide]; omega
theorem u8_ge' (c : UInt8) (n : Nat) : decide (((c.toNat : Nat) : Int) ≤ (n : Int)) = decide (c.toNat ≤ n) := by rw [decide_eq_decide]; omega
def letB (c : UInt8) : Bool := (decide (65 ≤ c.toNat) && decide (c.toNat ≤ 90)) || (decide (97 ≤ c.toNat) && decide (c.toNat ≤ 122))
def ldigB (c : UInt8) : Bool := letB c || (decide (48 ≤ c.toNat) && decide (c.toNat ≤ 57))
def ldhB (c : UInt8) : Bool := ldigB c || c == 45
theorem isLetter_ok {c : UInt8} (hR : R (.returned (.bool (letB c))) w) : callE P i_isLetter #[.int .u8 (c.toNat : Int)] R w := by
  refine g_isLetter.sound ?_
  unfold g_isLetter
  have e : (((decide ((65 : Int) ≤ ((c.toNat : Nat) : Int))) && (decide (((c.toNat : Nat) : Int) ≤ 90))) || ((decide ((97 : Int) ≤ ((c.toNat : Nat) : Int))) && (decide (((c.toNat : Nat) : Int) ≤ 122)))) = letB c := by
    unfold letB
    rw [← u8_le' c 65, ← u8_ge' c 90, ← u8_le' c 97, ← u8_ge' c 122]; rfl
  rw [e]; exact hR
theorem hasPrefix_ok {s t : List UInt8} (hR : R (.returned (.bool (decide (s.take t.length = t)))) w) : callE P i_strings_HasPrefix #[.string (bs s), .string (bs t)] R w := by
  refine g_strings_HasPrefix.sound ?_
  refine g_internal_stringslite_HasPrefix.sound ?_
  by_cases hl : t.length ≤ s.length
  · refine br_true (by simp; omega) ⟨by omega, by simp; omega, ?_⟩
    rw [bs_size, Int.toNat_natCast, bs_extract, List.drop_zero, bs_toList, bs_toList]
    have e : (s.take t.length == t) = decide (s.take t.length = t) := by rw [Bool.eq_iff_iff]; simp
    rw [e]; exact ⟨_, rfl, hR⟩
  · refine br_false (by simp; omega) ?_
    have : decide (s.take t.length = t) = false := decide_eq_false fun h => by have := congrArg List.length h; simp at this; omega
    rw [← this]; exact ⟨_, rfl, hR⟩
structure RunTo (s : List UInt8) (p : UInt8 → Bool) (i j : Nat) : Prop where
  le : i ≤ j
  len : j ≤ s.length
  all : ∀ k, i ≤ k → k < j → p (s.getD k 0) = true
  stop : j < s.length → p (s.getD j 0) = false
end Go.Proofs.YtihmcipajjakgaaGreatDoor


set_option linter.unusedVariables false
namespace Go.Proofs.YtihmcipajjakgaaGreatDoor
open Go.Proofs Go.IntWalk Go.RowKit
variable {σ : Out} {w : World} {L L' : List Chunk} {R : Ending → World → Prop}
def lowB (c : UInt8) : Bool := (decide (97 ≤ c.toNat) && decide (c.toNat ≤ 122)) || (decide (48 ≤ c.toNat) && decide (c.toNat ≤ 57))
def preWords : List (List UInt8) := [[112, 114, 101], [115, 99, 114, 105, 112, 116], [115, 116, 121, 108, 101], [116, 101, 120, 116, 97, 114, 101, 97]]
structure NoTag (s : List UInt8) (e m : Nat) : Prop where
  len : s.length < 1000000
  hd : s.getD 0 0 = 60
  n1 : s.getD 1 0 ≠ 33 ∧ s.getD 1 0 ≠ 63 ∧ s.getD 1 0 ≠ 47
  e1 : 1 ≤ e ∧ e < s.length ∧ e ≤ 17
  run : ∀ k, 1 ≤ k → k < e → lowB (s.getD k 0) = true
  stop : e = 17 ∨ (lowB (s.getD e 0) = false ∧ letB (s.getD e 0) = false)
  sep : s.getD e 0 ≠ 32 ∧ s.getD e 0 ≠ 9 ∧ s.getD e 0 ≠ 62 ∧ s.getD e 0 ≠ 47
  tag : letB (s.getD 1 0) = false ∨ (RunTo s ldhB 2 m ∧ m < s.length ∧ sub s 1 m ∉ preWords ∧ s.getD m 0 ≠ 32 ∧ s.getD m 0 ≠ 9 ∧ s.getD m 0 ≠ 10 ∧ s.getD m 0 ≠ 47 ∧ s.getD m 0 ≠ 62)
end Go.Proofs.YtihmcipajjakgaaGreatDoor


set_option linter.unusedVariables false
namespace Go.Proofs.YtihmcipajjakgaaGreatDoor
open Go.Proofs Go.IntWalk Go.RowKit
variable {σ : Out} {w : World} {L L' : List Chunk} {R : Ending → World → Prop}
theorem startHTML_k1 {b b1 b20 : Nat} {p : PS} {ob : List OB} {M : List Chunk} {en s : List UInt8} {l : Ln} (h : Sat σ w (l.at b1 :: (b20, cel [.string (bs en)] ty_string) :: (p.at b :: M ++ L))) (hs : Stk p ob M) (hd : p.depth + 1 = ob.length) (hob : ob.length < 1048575)
    (hl : l.ok) (hen : en ≠ []) (hlen : en.length < 100) (hsl : s.length < 1000000) (hx : idx s en = none)
    (hR : ∀ w p' M' hb HM, p' = { p with stq := p'.stq, stn := ob.length + 1, stc := p'.stc } → HtmAt hb en [l.str] HM → Stk p' (ob ++ [⟨.iface ty_P_htmlBuilder (.pointer (some ⟨hb, 0, none⟩)), none, 0, 0, p.lineno, p.lineno⟩]) M' → Sat σ w (l.at b1 :: (p'.at b :: M' ++ (HM ++ L))) → R (.returned (.bool true)) w) :
    g_parseState_startHTML.k1 R (some ⟨b, 0, none⟩) (some ⟨b1, 0, none⟩) (bs s) b20 w := by
  unfold g_parseState_startHTML.k1
  refine ⟨_, Sat.ld h (.tail _ (.head _)) rfl, ?_⟩
  refine br_true (by rw [bs_toList, mk_toList]; simpa using hen) ?_
  refine Sat.bx h fun hb w h => ?_
  have h : Sat σ w (htmC hb none 0 0 b20 :: l.at b1 :: (b20, cel [.string (bs en)] ty_string) :: (p.at b :: M ++ L)) := h
  have h : Sat σ w (p.at b :: M ++ (htmC hb none 0 0 b20 :: l.at b1 :: (b20, cel [.string (bs en)] ty_string) :: L)) := h.re (by intro _; simp only [List.append_eq, cnt_append, cnt_cons, cnt_nil] <;> omega)
  refine addBlock_ok h hs hd hob fun w p' M' hp' hs' h => ⟨rfl, ?_⟩
  have h : Sat σ w (l.at b1 :: htmC hb none 0 0 b20 :: (b20, cel [.string (bs en)] ty_string) :: (p'.at b :: M' ++ L)) := h.re (by intro _; simp only [List.append_eq, cnt_append, cnt_cons, cnt_nil] <;> omega)
  have hg := h
  refine Sat.tk h fun w h => ?_
  refine ⟨_, _, _, Sat.ld h (.tail _ (.head _)) (i := 1) rfl, ?_⟩
  have h0 := h
  refine string_ok h (.head _) hl fun w h => ⟨_, rfl, h0.same h (.tail _ (.head _)) (.tail _ (.head _)) 1, ?_⟩
  have h1 := h
  have h : Sat σ w ([] ++ (l.at b1 :: htmC hb none 0 0 b20 :: (b20, cel [.string (bs en)] ty_string) :: (p'.at b :: M' ++ L))) := h
  refine Sat.app1S rowStr (Sl.nil 1 ty_string) h (v := .string (bs l.str)) rfl (by simp [Value.cells, Value.oneCell']) (fillS l.str) (by omega) (by omega) (by decide) (fun w1 X h2 => h1.same h2 (.tail _ (.head _)) (.tail _ (.tail _ (.head _))) 1) fun q' c' w M1 hS' h => ?_
  have h : Sat σ w (htmC hb none 0 0 b20 :: l.at b1 :: (M1 ++ ((b20, cel [.string (bs en)] ty_string) :: (p'.at b :: M' ++ L)))) := h.re (by intro _; simp only [List.append_eq, cnt_append, cnt_cons, cnt_nil] <;> omega)
  refine Sat.st h (k := 0) rfl (Nat.le_of_ble_eq_true rfl) trivial (by first | (dsimp only [List.set]; exact rfl) | exact rfl) fun w h => ?_
  have h : Sat σ w (htmC hb q' 1 c' b20 :: l.at b1 :: (M1 ++ ((b20, cel [.string (bs en)] ty_string) :: (p'.at b :: M' ++ L)))) := h
  refine ⟨_, Sat.ld h (.head _) (i := 2) rfl, ?_⟩
  refine endFn_ok (en := en) h (by simp) (by omega) (by omega) ⟨_, rfl, ?_⟩
  rw [hx]
  refine br_false rfl ?_
  refine hR w p' M' hb (htmC hb q' 1 c' b20 :: (M1 ++ [(b20, cel [.string (bs en)] ty_string)])) hp' ⟨q', c', M1, b20, ?_, rfl⟩ hs' (h.re (by intro _; simp only [List.append_eq, cnt_append, cnt_cons, cnt_nil] <;> omega))
  exact hS'
inductive HtmB : List UInt8 → List UInt8 → Prop where
  | remark : HtmB [60, 33, 45, 45] [45, 45, 62]
  | instr : HtmB [60, 63] [63, 62]
  | decl : HtmB [60, 33, 65] [62]
  | cdata : HtmB [60, 33, 91, 67, 68, 65, 84, 65, 91] [93, 93, 62]
theorem startHTML_yes {b b1 : Nat} {p : PS} {ob : List OB} {M : List Chunk} {en s : List UInt8} {l : Ln} (h : Sat σ w (l.at b1 :: (p.at b :: M ++ L))) (hs : Stk p ob M) (hd : p.depth + 1 = ob.length) (hob : ob.length < 1048575)
    (hl : l.ok) (hp : (l.lead 3 false).peek = 60) (hst : (l.lead 3 false).str = s) (hB : HtmB s en)
    (hR : ∀ w p' M' hb HM, p' = { p with stq := p'.stq, stn := ob.length + 1, stc := p'.stc } → HtmAt hb en [l.str] HM → Stk p' (ob ++ [⟨.iface ty_P_htmlBuilder (.pointer (some ⟨hb, 0, none⟩)), none, 0, 0, p.lineno, p.lineno⟩]) M' → Sat σ w (l.at b1 :: (p'.at b :: M' ++ (HM ++ L))) → R (.returned (.bool true)) w) :
    callE P i_parseState_startHTML #[.pointer (some ⟨b, 0, none⟩), .pointer (some ⟨b1, 0, none⟩)] R w := by
  refine g_parseState_startHTML.sound ?_
  repeat (first | refine nilP_some ?_ | refine Sat.tk h fun w h => ?_ | refine ⟨_, Sat.ld h (by first | assumption | (repeat (first | exact .head _ | apply List.Mem.tail))) (by exact rfl), ?_⟩ | refine ⟨_, _, _, Sat.ld h (by first | assumption | (repeat (first | exact .head _ | apply List.Mem.tail))) (by exact rfl), ?_⟩ | refine Sat.st h (k := 0) rfl (Nat.le_of_ble_eq_true rfl) trivial (by first | (dsimp only [List.set]; exact rfl) | exact rfl) fun w h => ?_ | refine Sat.st h (k := 1) rfl (Nat.le_of_ble_eq_true rfl) trivial (by first | (dsimp only [List.set]; exact rfl) | exact rfl) fun w h => ?_ | refine Sat.st h (k := 2) rfl (Nat.le_of_ble_eq_true rfl) trivial (by first | (dsimp only [List.set]; exact rfl) | exact rfl) fun w h => ?_ | refine Sat.st h (k := 3) rfl (Nat.le_of_ble_eq_true rfl) trivial (by first | (dsimp only [List.set]; exact rfl) | exact rfl) fun w h => ?_ | refine Sat.st h (k := 4) rfl (Nat.le_of_ble_eq_true rfl) trivial (by first | (dsimp only [List.set]; exact rfl) | exact rfl) fun w h => ?_ | refine Sat.st h (k := 5) rfl (Nat.le_of_ble_eq_true rfl) trivial (by first | (dsimp only [List.set]; exact rfl) | exact rfl) fun w h => ?_ | refine Sat.st h (k := 6) rfl (Nat.le_of_ble_eq_true rfl) trivial (by first | (dsimp only [List.set]; exact rfl) | exact rfl) fun w h => ?_ | refine Sat.bx h fun b0 w h => ?_)
  have h : Sat σ _ (l.at b0 :: l.at b1 :: (p.at b :: M ++ L)) := h
  refine lead_ok (max := 3) h hl (by decide) fun w h => ⟨_, rfl, ?_⟩
  have hlok := Ln.lead_ok (m := 3) (eol := false) hl
  refine peek_ok h (by first | assumption | (repeat (first | exact .head _ | apply List.Mem.tail))) hlok fun w h => ⟨_, rfl, ?_⟩
  rw [hp]
  refine br_false (by decide) ?_
  refine string_ok h (by first | assumption | (repeat (first | exact .head _ | apply List.Mem.tail))) hlok fun w h => ⟨_, rfl, ?_⟩
  rw [hst]
  refine Sat.bx h fun b20 w h => ?_
  have h : Sat σ w ((b20, cel [.string (bs [])] ty_string) :: (l.lead 3 false).at b0 :: l.at b1 :: (p.at b :: M ++ L)) := h
  have fin : ∀ w, en ≠ [] → en.length < 100 → s.length < 1000000 → idx s en = none → Sat σ w ((b20, cel [.string (bs en)] ty_string) :: (l.lead 3 false).at b0 :: l.at b1 :: (p.at b :: M ++ L)) → g_parseState_startHTML.k1 R (some ⟨b, 0, none⟩) (some ⟨b1, 0, none⟩) (bs s) b20 w := by
    intro w h1 h2 h3 h4 h
    have h : Sat σ w (l.at b1 :: (b20, cel [.string (bs en)] ty_string) :: (p.at b :: M ++ ((l.lead 3 false).at b0 :: L))) := h.re (by intro _; simp only [List.append_eq, cnt_append, cnt_cons, cnt_nil] <;> omega)
    refine startHTML_k1 h hs hd hob hl h1 h2 h3 h4 fun w p' M' hb HM a1 a2 a3 h => ?_
    exact hR w p' M' hb HM a1 a2 a3 (h.less [(l.lead 3 false).at b0] (by intro _; simp only [List.append_eq, cnt_append, cnt_cons, cnt_nil] <;> omega))
  cases hB with
  | remark =>
    refine hasPrefix_ok (t := [60, 33, 45, 45]) ⟨_, rfl, br_true rfl ?_⟩
    refine Sat.st h (k := 0) rfl (Nat.le_of_ble_eq_true rfl) trivial (by first | (dsimp only [List.set]; exact rfl) | exact rfl) fun w h => ?_
    exact fin _ (by decide) (by decide) (by decide) (by decide) h
  | instr =>
    refine hasPrefix_ok (t := [60, 33, 45, 45]) ⟨_, rfl, br_false rfl ?_⟩
    refine hasPrefix_ok (t := [60, 63]) ⟨_, rfl, br_true rfl ?_⟩
    refine Sat.st h (k := 0) rfl (Nat.le_of_ble_eq_true rfl) trivial (by first | (dsimp only [List.set]; exact rfl) | exact rfl) fun w h => ?_
    exact fin _ (by decide) (by decide) (by decide) (by decide) h
  | cdata =>
    refine hasPrefix_ok (t := [60, 33, 45, 45]) ⟨_, rfl, br_false rfl ?_⟩
    refine hasPrefix_ok (t := [60, 63]) ⟨_, rfl, br_false rfl ?_⟩
    refine hasPrefix_ok (t := [60, 33, 91, 67, 68, 65, 84, 65, 91]) ⟨_, rfl, br_true rfl ?_⟩
    refine Sat.st h (k := 0) rfl (Nat.le_of_ble_eq_true rfl) trivial (by first | (dsimp only [List.set]; exact rfl) | exact rfl) fun w h => ?_
    exact fin _ (by decide) (by decide) (by decide) (by decide) h
  | decl =>
    refine hasPrefix_ok (t := [60, 33, 45, 45]) ⟨_, rfl, br_false rfl ?_⟩
    refine hasPrefix_ok (t := [60, 63]) ⟨_, rfl, br_false rfl ?_⟩
    refine hasPrefix_ok (t := [60, 33, 91, 67, 68, 65, 84, 65, 91]) ⟨_, rfl, br_false rfl ?_⟩
    refine hasPrefix_ok (t := [60, 33]) ⟨_, rfl, fun _ => ⟨by decide, by decide⟩, br_true rfl ?_⟩
    refine isLetter_ok (c := 65) ⟨_, rfl, ?_⟩
    refine br_true rfl ⟨by decide, by decide, fun _ => ⟨by decide, by decide⟩, br_false rfl ?_⟩
    refine Sat.st h (k := 0) rfl (Nat.le_of_ble_eq_true rfl) trivial (by first | (dsimp only [List.set]; exact rfl) | exact rfl) fun w h => ?_
    exact fin _ (by decide) (by decide) (by decide) (by decide) h
theorem newHTML_yes {b : Nat} {p : PS} {ob : List OB} {M : List Chunk} {en s : List UInt8} {l : Ln} (h : Sat σ w (p.at b :: M ++ L)) (hs : Stk p ob M) (hd : p.depth + 1 = ob.length) (hob : ob.length < 1048575)
    (hl : l.ok) (hp : (l.lead 3 false).peek = 60) (hst : (l.lead 3 false).str = s) (hB : HtmB s en)
    (hR : ∀ w p' M' hb HM, p' = { p with stq := p'.stq, stn := ob.length + 1, stc := p'.stc } → HtmAt hb en [l.str] HM → Stk p' (ob ++ [⟨.iface ty_P_htmlBuilder (.pointer (some ⟨hb, 0, none⟩)), none, 0, 0, p.lineno, p.lineno⟩]) M' → Sat σ w (p'.at b :: M' ++ (HM ++ L)) → R (.returned (.tuple #[Ln.zero.val, .bool true])) w) :
    callE P i_newHTML #[.pointer (some ⟨b, 0, none⟩), l.val] R w := by
  refine g_newHTML.sound ?_
  refine Sat.bx h fun b1 w h => ?_
  refine Sat.bx h fun b3 w h => ?_
  repeat (first | refine nilP_some ?_ | refine Sat.tk h fun w h => ?_ | refine ⟨_, Sat.ld h (by first | assumption | (repeat (first | exact .head _ | apply List.Mem.tail))) (by exact rfl), ?_⟩ | refine ⟨_, _, _, Sat.ld h (by first | assumption | (repeat (first | exact .head _ | apply List.Mem.tail))) (by exact rfl), ?_⟩ | refine Sat.st h (k := 0) rfl (Nat.le_of_ble_eq_true rfl) trivial (by first | (dsimp only [List.set]; exact rfl) | exact rfl) fun w h => ?_ | refine Sat.st h (k := 1) rfl (Nat.le_of_ble_eq_true rfl) trivial (by first | (dsimp only [List.set]; exact rfl) | exact rfl) fun w h => ?_ | refine Sat.st h (k := 2) rfl (Nat.le_of_ble_eq_true rfl) trivial (by first | (dsimp only [List.set]; exact rfl) | exact rfl) fun w h => ?_ | refine Sat.st h (k := 3) rfl (Nat.le_of_ble_eq_true rfl) trivial (by first | (dsimp only [List.set]; exact rfl) | exact rfl) fun w h => ?_ | refine Sat.st h (k := 4) rfl (Nat.le_of_ble_eq_true rfl) trivial (by first | (dsimp only [List.set]; exact rfl) | exact rfl) fun w h => ?_ | refine Sat.st h (k := 5) rfl (Nat.le_of_ble_eq_true rfl) trivial (by first | (dsimp only [List.set]; exact rfl) | exact rfl) fun w h => ?_ | refine Sat.st h (k := 6) rfl (Nat.le_of_ble_eq_true rfl) trivial (by first | (dsimp only [List.set]; exact rfl) | exact rfl) fun w h => ?_ | refine Sat.bx h fun b0 w h => ?_)
  have h : Sat σ _ (l.at b0 :: zLn b3 :: l.at b1 :: (p.at b :: M ++ L)) := h
  have h : Sat σ _ (l.at b0 :: (p.at b :: M ++ (zLn b3 :: l.at b1 :: L))) := h.re (by intro _; simp only [List.append_eq, cnt_append, cnt_cons, cnt_nil] <;> omega)
  refine startHTML_yes h hs hd hob hl hp hst hB fun w p' M' hb HM a1 a2 a3 h => ⟨_, rfl, br_true rfl ?_⟩
  have h : Sat σ w (zLn b3 :: (p'.at b :: M' ++ (HM ++ (l.at b0 :: l.at b1 :: L)))) := h.re (by intro _; simp only [List.append_eq, cnt_append, cnt_cons, cnt_nil] <;> omega)
  repeat (first | refine nilP_some ?_ | refine Sat.tk h fun w h => ?_ | refine ⟨_, Sat.ld h (by first | assumption | (repeat (first | exact .head _ | apply List.Mem.tail))) (by exact rfl), ?_⟩ | refine ⟨_, _, _, Sat.ld h (by first | assumption | (repeat (first | exact .head _ | apply List.Mem.tail))) (by exact rfl), ?_⟩ | refine Sat.st h (k := 0) rfl (Nat.le_of_ble_eq_true rfl) trivial (by first | (dsimp only [List.set]; exact rfl) | exact rfl) fun w h => ?_ | refine Sat.st h (k := 1) rfl (Nat.le_of_ble_eq_true rfl) trivial (by first | (dsimp only [List.set]; exact rfl) | exact rfl) fun w h => ?_ | refine Sat.st h (k := 2) rfl (Nat.le_of_ble_eq_true rfl) trivial (by first | (dsimp only [List.set]; exact rfl) | exact rfl) fun w h => ?_ | refine Sat.st h (k := 3) rfl (Nat.le_of_ble_eq_true rfl) trivial (by first | (dsimp only [List.set]; exact rfl) | exact rfl) fun w h => ?_ | refine Sat.st h (k := 4) rfl (Nat.le_of_ble_eq_true rfl) trivial (by first | (dsimp only [List.set]; exact rfl) | exact rfl) fun w h => ?_ | refine Sat.st h (k := 5) rfl (Nat.le_of_ble_eq_true rfl) trivial (by first | (dsimp only [List.set]; exact rfl) | exact rfl) fun w h => ?_ | refine Sat.st h (k := 6) rfl (Nat.le_of_ble_eq_true rfl) trivial (by first | (dsimp only [List.set]; exact rfl) | exact rfl) fun w h => ?_ | refine Sat.bx h fun b0 w h => ?_)
  refine hR _ p' M' hb HM a1 a2 a3 ?_
  have h : Sat σ _ (zLn b3 :: (p'.at b :: M' ++ (HM ++ (l.at b0 :: l.at b1 :: L)))) := h
  exact h.less [zLn b3, l.at b0, l.at b1] (by intro _; simp only [List.append_eq, cnt_append, cnt_cons, cnt_nil] <;> omega)
end Go.Proofs.YtihmcipajjakgaaGreatDoor


set_option linter.unusedVariables false
namespace Go.Proofs.YtihmcipajjakgaaGreatDoor
open Go.Proofs Go.IntWalk Go.RowKit
variable {σ : Out} {w : World} {L L' : List Chunk} {R : Ending → World → Prop}
inductive Leaf where
  | none
  | para (ls : List (List UInt8))
  | other (A : List OB → List Chunk → Prop)
def LeafAt : Leaf → List OB → List Chunk → Prop
  | .none, ob, M => ob = [] ∧ M = []
  | .para ls, ob, M => ∃ qb s e, ob = [paraOB qb s e] ∧ ParaAt qb ls M ∧ s < 1000000000 ∧ ls ≠ [] ∧ ls.length < 1048570
  | .other A, ob, M => A ob M
def rootV (rb : Nat) : Value := .iface ty_P_rootBuilder (.pointer (some ⟨rb, 0, none⟩))
def DocS (σ : Out) (b rb : Nat) (L : List Chunk) (D : List DB) (lf : Leaf) (p : PS) (w : World) : Prop :=
  ∃ r obs M TM IM LM, r.bd = rootV rb ∧ Stk p (r :: obs) M ∧ Txts p ((txsC D).map TX.t) TM ∧ Sl 1 ty_Block r.q r.n r.c (D.map DB.v) IM ∧ LeafAt lf obs LM ∧
    Sat σ w (p.at b :: M ++ (IM ++ (TM ++ (LM ++ (ownC D ++ ((txsC D).map TX.chunk ++ L))))))
def PS.base (p : PS) : PS := { p with lineno := 0, stq := none, stn := 0, stc := 0, depth := 0, corner := false, tq := none, tn := 0, tc := 0 }
def paraDB (nb t s e : Nat) (raw : List UInt8) : DB := ⟨.iface ty_P_Paragraph (.pointer (some ⟨nb, 0, none⟩)), [paraC nb s e t], [⟨t, s, e, raw⟩]⟩
def LeafClosed (lf : Leaf) (D : List DB) (D' : List DB) : Prop :=
  match lf with
  | .none => D' = D
  | .para ls => ∃ nb t s e, D' = D ++ [paraDB nb t s e (joinL [10] ls)]
  | .other _ => False
def Leaf.fin : Leaf → Prop
  | .none => True
  | .para ls => (joinL [10] ls).length < 1073741824 ∧ joinL [10] ls ≠ [] ∧ ((joinL [10] ls).dropWhile isSTN).head? ≠ some 91
  | .other _ => False
def Leaf.finN : Leaf → Prop
  | .none => True
  | .para ls => (joinL [10] ls).length < 1073741824 ∧ joinL [10] ls ≠ [] ∧ NoRef (joinL [10] ls)
  | .other _ => False
theorem Leaf.fin.toN {lf : Leaf} (h : lf.fin) : lf.finN := by
  cases lf with
  | none => trivial
  | para ls => exact ⟨h.1, h.2.1, noRef_of (by have := h.1; omega) h.2.2⟩
  | other A => exact h
theorem closeLeaf_ok {b rb : Nat} {p : PS} {D : List DB} {ls : List (List UInt8)} (h : DocS σ b rb L D (.para ls) p w) (hf : Leaf.finN (.para ls)) (hD : D.length < 100000) (hX : (txsC D).length < 100000)
    (hR : ∀ w p' D' x, p'.base = p.base → p'.depth = p.depth → p'.lineno = p.lineno → p'.stn = 1 → LeafClosed (.para ls) D D' → DocS σ b rb L D' .none p' w → R (.returned x) w) :
    callE P i_parseState_closeBlock #[.pointer (some ⟨b, 0, none⟩)] R w := by
  obtain ⟨r, obs, M, TM, IM, LM, hr, hs, ht, hI, ⟨qb, s, e, rfl, hp, hs1, hne, hln⟩, h⟩ := h
  obtain ⟨hf1, hf2, hf3⟩ := hf
  have hIl := hI.1
  simp only [List.length_map, Nat.mul_one] at hIl
  refine closePara_ok (ob := []) (par := r) (o := paraOB qb s e) h hs rfl hI (by omega) ht (by simp; omega) hp hne (by omega) rfl hf1 hf2 hf3 (by exact hs1) fun w p' M' IM' TM' t nb q' c' x hp' hs' ht' hI' h => ?_
  refine hR w p' (D ++ [paraDB nb t s (s + ls.length - 1) (joinL [10] ls)]) x (by rw [hp']; rfl) (by rw [hp']) (by rw [hp']) (by rw [hp']; rfl) ⟨nb, t, s, _, rfl⟩ ?_
  refine ⟨{ r with q := q', n := r.n + 1, c := c' }, [], M', TM', IM', [], hr, hs', ?_, ?_, ⟨rfl, rfl⟩, ?_⟩
  · rw [txsC_snoc, List.map_append]; exact ht'
  · rw [List.map_append]; exact hI'
  · rw [ownC_snoc, txsC_snoc, List.map_append]
    have h : Sat σ w (p'.at b :: M' ++ (IM' ++ (TM' ++ (paraC nb s (s + ls.length - 1) t :: textC t s (s + ls.length - 1) none 0 0 (joinL [10] ls) :: (ownC D ++ ((txsC D).map TX.chunk ++ L)))))) := h
    show Sat σ w (p'.at b :: M' ++ (IM' ++ (TM' ++ ([] ++ ((ownC D ++ [paraC nb s (s + ls.length - 1) t]) ++ (((txsC D).map TX.chunk ++ [textC t s (s + ls.length - 1) none 0 0 (joinL [10] ls)]) ++ L))))))
    exact h.re (by intro _; simp only [List.append_eq, cnt_append, cnt_cons, cnt_nil] <;> omega)
theorem DocS.upd {b rb : Nat} {D : List DB} {lf : Leaf} {p p' : PS} {w' : World} (h : DocS σ b rb L D lf p w) (h1 : p'.stq = p.stq) (h2 : p'.stn = p.stn) (h3 : p'.stc = p.stc) (h4 : p'.tq = p.tq) (h5 : p'.tn = p.tn) (h6 : p'.tc = p.tc)
    (hw : ∀ K, Sat σ w (p.at b :: K) → Sat σ w' (p'.at b :: K)) : DocS σ b rb L D lf p' w' := by
  obtain ⟨r, obs, M, TM, IM, LM, hr, hs, ht, hI, hL, h⟩ := h
  exact ⟨r, obs, M, TM, IM, LM, hr, hs.of h1 h2 h3, ht.of h4 h5 h6, hI, hL, hw _ h⟩
theorem lineFields : (P.fieldsOf ty_line).toList.map (fun f => (f.name == "_", f.type, f.offset)) = [(false, ty_int, 0), (false, ty_int, 1), (false, ty_int, 2), (false, ty_string, 3), (false, ty_uint8, 4)] := by kernel_rfl
theorem und_int : P.underlying ty_int = some (.int .i64) := by kernel_rfl
theorem und_u8 : P.underlying ty_uint8 = some (.int .u8) := by kernel_rfl
theorem und_str : P.underlying ty_string = some .string := by kernel_rfl
theorem part_line {t : TypeId} {d : TypeDesc} (hd : P.underlying t = some d) (h1 : ∀ f, d ≠ .struct f) (h2 : ∀ n e, d ≠ .array n e) {cs : Array Value} {k : Nat} {v : Value} (hv : cs[k]? = some v) (w : World) : (part t cs k).run P w = .ok v w := by
  cases d <;> first | exact absurd rfl (h1 _) | exact absurd rfl (h2 _ _) | simp [part, isAgg, run_underlying hd, hv]
end Go.Proofs.YtihmcipajjakgaaGreatDoor


set_option linter.unusedVariables false
namespace Go.Proofs.YtihmcipajjakgaaGreatDoor
open Go.Proofs Go.IntWalk Go.RowKit
variable {σ : Out} {w : World} {L L' : List Chunk} {R : Ending → World → Prop}
theorem news_rounds {Xb : OA → Nat → WP} {Y : OA → Nat → OA → Nat → Nat → Int → Int → WP} {b b1 nb : Nat} {e : TypeId} {p : PS} {M : List Chunk} {l : Ln}
    (hY : ∀ x0 x3 x86q x86n x86c x87 x88 w, g_parseState_addLine.bl2 R Xb Y x0 x3 x86q x86n x86c x87 x88 w → Y x0 x3 x86q x86n x86c x87 x88 w) (i : Nat) :
    ∀ (k : Nat) w, i ≤ 8 → k ≤ i → (∀ j (hj : j < newsF.length), k ≤ j → j < i → Decl b p M l newsF[j]) → Sat σ w (p.at b :: M ++ (l.at b1 :: (nb, cel newsC e) :: L)) →
      (∀ w, Sat σ w (p.at b :: M ++ (l.at b1 :: (nb, cel newsC e) :: L)) → Y (some ⟨b, 0, none⟩) b1 (some ⟨nb, 0, none⟩) 8 8 8 (i : Nat) w) → Y (some ⟨b, 0, none⟩) b1 (some ⟨nb, 0, none⟩) 8 8 8 (k : Nat) w := by
  intro k
  generalize hm : i - k = m
  induction m generalizing k with
  | zero =>
    intro w hi hk hd h hE
    obtain rfl : k = i := by omega
    exact hE w h
  | succ m ih =>
    intro w hi hk hd h hE
    refine hY _ _ _ _ _ _ _ _ (br_true (by simp; omega) ⟨by omega, by omega, ?_⟩)
    have hl : k < newsF.length := by show k < 8; omega
    have hf := List.getElem?_eq_getElem hl
    refine nilP_some ?_
    simp only [Addr.add_lit, Nat.zero_add, Int.toNat_natCast, Nat.mul_one]
    have h : Sat σ w (l.at b1 :: (nb, cel newsC e) :: (p.at b :: (M ++ L))) := h.re (by intro _; simp only [List.append_eq, cnt_append, cnt_cons, cnt_nil] <;> omega)
    refine ⟨_, Sat.ld h (.tail _ (.head _)) (newsC_get hf), ?_⟩
    refine ⟨_, Sat.ld h (.head _) rfl, _, Sat.ld h (.head _) rfl, _, Sat.ld h (.head _) rfl, _, Sat.ld h (.head _) rfl, _, Sat.ld h (.head _) rfl, ?_⟩
    have h : Sat σ w (p.at b :: M ++ (l.at b1 :: (nb, cel newsC e) :: L)) := h.re (by intro _; simp only [List.append_eq, cnt_append, cnt_cons, cnt_nil] <;> omega)
    refine enter_fn ?_
    refine hd k hl (Nat.le_refl _) (by omega) σ w _ _ h fun w h => ⟨_, _, _, _, _, _, rfl, ?_⟩
    repeat (first | refine nilP_some ?_ | refine Sat.tk h fun w h => ?_ | refine ⟨_, Sat.ld h (by first | assumption | (repeat (first | exact .head _ | apply List.Mem.tail))) (by exact rfl), ?_⟩ | refine ⟨_, _, _, Sat.ld h (by first | assumption | (repeat (first | exact .head _ | apply List.Mem.tail))) (by exact rfl), ?_⟩ | refine Sat.st h (k := 0) rfl (Nat.le_of_ble_eq_true rfl) trivial (by first | (dsimp only [List.set]; exact rfl) | exact rfl) fun w h => ?_ | refine Sat.st h (k := 1) rfl (Nat.le_of_ble_eq_true rfl) trivial (by first | (dsimp only [List.set]; exact rfl) | exact rfl) fun w h => ?_ | refine Sat.st h (k := 2) rfl (Nat.le_of_ble_eq_true rfl) trivial (by first | (dsimp only [List.set]; exact rfl) | exact rfl) fun w h => ?_ | refine Sat.st h (k := 3) rfl (Nat.le_of_ble_eq_true rfl) trivial (by first | (dsimp only [List.set]; exact rfl) | exact rfl) fun w h => ?_ | refine Sat.st h (k := 4) rfl (Nat.le_of_ble_eq_true rfl) trivial (by first | (dsimp only [List.set]; exact rfl) | exact rfl) fun w h => ?_ | refine Sat.st h (k := 5) rfl (Nat.le_of_ble_eq_true rfl) trivial (by first | (dsimp only [List.set]; exact rfl) | exact rfl) fun w h => ?_ | refine Sat.st h (k := 6) rfl (Nat.le_of_ble_eq_true rfl) trivial (by first | (dsimp only [List.set]; exact rfl) | exact rfl) fun w h => ?_ | refine Sat.bx h fun b0 w h => ?_)
    rw [i64_inc (by omega)]
    have h : Sat σ _ (l.at b0 :: (p.at b :: M ++ (l.at b1 :: (nb, cel newsC e) :: L))) := h
    exact ih (k + 1) (by omega) _ hi (by omega) (fun j hj h1 h2 => hd j hj (by omega) h2) h.tail hE
theorem bl102_take {Xb : OA → Nat → WP} {b b1 : Nat} {p : PS} {M : List Chunk} {l : Ln} (i : Nat) (hi : i < newsF.length) (h : Sat σ w (p.at b :: M ++ (l.at b1 :: L))) (hd : ∀ j (hj : j < newsF.length), j < i → Decl b p M l newsF[j])
    (hP : ∀ w nb e (R' : Ending → World → Prop), Sat σ w (p.at b :: M ++ (l.at b1 :: (nb, cel newsC e) :: L)) →
      (∀ w L2, Sat σ w (l.at b1 :: L2) → (∀ w, Sat σ w L2 → R (.returned (.tuple #[])) w) → R' (.returned (.tuple #[Ln.zero.val, .bool true])) w) → callE P newsF[i] #[.pointer (some ⟨b, 0, none⟩), l.val] R' w) :
    g_parseState_addLine.bl102 R Xb (some ⟨b, 0, none⟩) b1 w := by
  have hi8 : i < 8 := hi
  refine news_ok h fun w nb e h => ⟨_, _, _, rfl, ?_⟩
  intro Y hY
  have h : Sat σ w (p.at b :: M ++ (l.at b1 :: (nb, cel newsC e) :: L)) := h.re (by intro _; simp only [List.append_eq, cnt_append, cnt_cons, cnt_nil] <;> omega)
  refine news_rounds hY i 0 w (by omega) (by omega) (fun j hj _ h2 => hd j hj h2) h fun w h => ?_
  refine hY _ _ _ _ _ _ _ _ (br_true (by simp; omega) ⟨by omega, by omega, ?_⟩)
  have hf := List.getElem?_eq_getElem hi
  refine nilP_some ?_
  simp only [Addr.add_lit, Nat.zero_add, Int.toNat_natCast, Nat.mul_one]
  have h : Sat σ w (l.at b1 :: (nb, cel newsC e) :: (p.at b :: (M ++ L))) := h.re (by intro _; simp only [List.append_eq, cnt_append, cnt_cons, cnt_nil] <;> omega)
  refine ⟨_, Sat.ld h (.tail _ (.head _)) (newsC_get hf), ?_⟩
  refine ⟨_, Sat.ld h (.head _) rfl, _, Sat.ld h (.head _) rfl, _, Sat.ld h (.head _) rfl, _, Sat.ld h (.head _) rfl, _, Sat.ld h (.head _) rfl, ?_⟩
  have h : Sat σ w (p.at b :: M ++ (l.at b1 :: (nb, cel newsC e) :: L)) := h.re (by intro _; simp only [List.append_eq, cnt_append, cnt_cons, cnt_nil] <;> omega)
  refine enter_fn ?_
  refine hP w nb e _ h fun w L2 h hR => ⟨_, _, _, _, _, _, rfl, ?_⟩
  refine Sat.bx h fun b85 w h => ?_
  refine Sat.st h (k := 0) rfl (Nat.le_of_ble_eq_true rfl) trivial (by first | (dsimp only [List.set]; exact rfl) | exact rfl) fun w h => ?_
  refine Sat.st h (k := 0) rfl (Nat.le_of_ble_eq_true rfl) trivial (by first | (dsimp only [List.set]; exact rfl) | exact rfl) fun w h => ?_
  refine Sat.st h (k := 0) rfl (Nat.le_of_ble_eq_true rfl) trivial (by first | (dsimp only [List.set]; exact rfl) | exact rfl) fun w h => ?_
  refine Sat.st h (k := 0) rfl (Nat.le_of_ble_eq_true rfl) trivial (by first | (dsimp only [List.set]; exact rfl) | exact rfl) fun w h => ?_
  refine Sat.st h (k := 0) rfl (Nat.le_of_ble_eq_true rfl) trivial (by first | (dsimp only [List.set]; exact rfl) | exact rfl) fun w h => ?_
  have h : Sat σ w (Ln.zero.at b85 :: l.at b1 :: L2) := h
  refine br_true rfl ?_
  refine ⟨_, Sat.ld h (by first | assumption | (repeat (first | exact .head _ | apply List.Mem.tail))) (by exact rfl), ?_⟩
  refine ⟨_, Sat.ld h (by first | assumption | (repeat (first | exact .head _ | apply List.Mem.tail))) (by exact rfl), ?_⟩
  refine ⟨_, Sat.ld h (by first | assumption | (repeat (first | exact .head _ | apply List.Mem.tail))) (by exact rfl), ?_⟩
  refine ⟨_, Sat.ld h (by first | assumption | (repeat (first | exact .head _ | apply List.Mem.tail))) (by exact rfl), ?_⟩
  refine ⟨_, Sat.ld h (by first | assumption | (repeat (first | exact .head _ | apply List.Mem.tail))) (by exact rfl), ?_⟩
  refine Sat.st h (k := 1) rfl (Nat.le_of_ble_eq_true rfl) trivial (by first | (dsimp only [List.set]; exact rfl) | exact rfl) fun w h => ?_
  refine Sat.st h (k := 1) rfl (Nat.le_of_ble_eq_true rfl) trivial (by first | (dsimp only [List.set]; exact rfl) | exact rfl) fun w h => ?_
  refine Sat.st h (k := 1) rfl (Nat.le_of_ble_eq_true rfl) trivial (by first | (dsimp only [List.set]; exact rfl) | exact rfl) fun w h => ?_
  refine Sat.st h (k := 1) rfl (Nat.le_of_ble_eq_true rfl) trivial (by first | (dsimp only [List.set]; exact rfl) | exact rfl) fun w h => ?_
  refine Sat.st h (k := 1) rfl (Nat.le_of_ble_eq_true rfl) trivial (by first | (dsimp only [List.set]; exact rfl) | exact rfl) fun w h => ?_
  have h : Sat σ w (Ln.zero.at b85 :: Ln.zero.at b1 :: L2) := h
  refine isBlank_ok (l := Ln.zero) h (.tail _ (.head _)) ⟨by decide, by decide, by decide, by decide⟩ fun w h => ⟨_, rfl, ?_⟩
  exact br_true rfl (hR _ h.tail.tail)
def Ln.rest (l : Ln) : List UInt8 := (l.text.drop l.i).dropWhile isST
theorem addLine_plain0 {b rb pb : Nat} {op : Opt} {p : PS} {D : List DB} {l : Ln} (h : DocS σ b rb L D .none p w) (hpz : p.pz = some ⟨pb, 0, none⟩) (hop : op.at pb ∈ L) (hl : l.plain) (hno : p.lineno < 1000000000)
    (hR : ∀ w p', p'.base = p.base → p'.lineno = p.lineno → DocS σ b rb L D (.para [l.rest]) p' w → R (.returned (.tuple #[])) w) :
    callE P i_parseState_addLine #[.pointer (some ⟨b, 0, none⟩), l.val] R w := by
  obtain ⟨r, obs, M, TM, IM, LM, hr, hs, ht, hI, ⟨rfl, rfl⟩, h⟩ := h
  have hm : op.at pb ∈ IM ++ (TM ++ ([] ++ (ownC D ++ ((txsC D).map TX.chunk ++ L)))) := by
    simp only [List.mem_append]; exact .inr (.inr (.inr (.inr (.inr hop))))
  refine addLine_para (op := op) h hs hpz hm hr (by decide) (by decide) hl fun w p' M' qb PM hp' hs' hPM h => ?_
  have e1 : p'.base = p.base := by rw [hp']; rfl
  have e2 : p'.lineno = p.lineno := by rw [hp']
  have e3 : p'.tq = p.tq := by rw [hp']
  have e4 : p'.tn = p.tn := by rw [hp']
  have e5 : p'.tc = p.tc := by rw [hp']
  have h : Sat σ w (p'.at b :: M' ++ (IM ++ (TM ++ (PM ++ (ownC D ++ ((txsC D).map TX.chunk ++ L)))))) := h.re (by intro _; simp only [List.append_eq, cnt_append, cnt_cons, cnt_nil] <;> omega)
  exact hR w p' e1 e2 ⟨r, _, M', TM, IM, PM, hr, hs', ht.of e3 e4 e5, hI, ⟨qb, p.lineno, p.lineno, rfl, hPM, hno, by simp, by simp⟩, h⟩
structure Ln.cont (l : Ln) : Prop where
  plain : l.plain
  lt : (l.lead 3 false).peek ≠ 60
  dash : (l.lead 3 false).peek ≠ 45
  eq : (l.lead 3 false).peek ≠ 61
end Go.Proofs.YtihmcipajjakgaaGreatDoor


set_option linter.unusedVariables false
namespace Go.Proofs.YtihmcipajjakgaaGreatDoor
open Go.Proofs Go.IntWalk Go.RowKit
variable {σ : Out} {w : World} {L L' : List Chunk} {R : Ending → World → Prop}
def htmOB (hb s e : Nat) : OB := ⟨.iface ty_P_htmlBuilder (.pointer (some ⟨hb, 0, none⟩)), none, 0, 0, s, e⟩
theorem closeHtm_ok {b hb s e : Nat} {p : PS} {ob : List OB} {par : OB} {M HM IM : List Chunk} {inner : List Value} {en : List UInt8} {ls : List (List UInt8)} (h : Sat σ w (p.at b :: M ++ (IM ++ (HM ++ L)))) (hs : Stk p (ob ++ [par] ++ [htmOB hb s e]) M)
    (hI : Sl 1 ty_Block par.q par.n par.c inner IM) (hin : par.n < 1000000) (hH : HtmAt hb en ls HM)
    (hR : ∀ w p' M' IM' nb q c SM q' c' x, p' = { p with stn := ob.length + 1 } → Stk p' (ob ++ [{ par with q := q', n := par.n + 1, c := c' }]) M' → Sl 1 ty_string q ls.length c (sv ls) SM →
      Sl 1 ty_Block q' (par.n + 1) c' (inner ++ [.iface ty_P_HTMLBlock (.pointer (some ⟨nb, 0, none⟩))]) IM' → Sat σ w (p'.at b :: M' ++ (IM' ++ (hblC nb s e q ls.length c :: (SM ++ L)))) → R (.returned x) w) :
    callE P i_parseState_closeBlock #[.pointer (some ⟨b, 0, none⟩)] R w := by
  refine closeBlock_ok (ob := ob) (par := par) (o := htmOB hb s e) (IM := IM) (inner := inner) (fun p1 L1 tb q => ∃ nb q1 c SM, p1 = p ∧ Sl 1 ty_string q1 ls.length c (sv ls) SM ∧ L1 = hblC nb s e q1 ls.length c :: (SM ++ L) ∧ tb = ty_P_HTMLBlock ∧ q = some ⟨nb, 0, none⟩) h hs rfl hI hin ?_ ?_
  · intro R' w h hk
    have h : Sat σ w (p.at b :: M ++ (HM ++ (IM ++ L))) := h.re (by intro _; simp only [List.append_eq, cnt_append, cnt_cons, cnt_nil] <;> omega)
    refine enter_meth meth_htmBuild ?_
    refine htmBuild_ok h hs hH fun w nb q c SM hS h => ?_
    have h : Sat σ w (p.at b :: M ++ (hblC nb s e q ls.length c :: (SM ++ (IM ++ L)))) := h
    exact hk w p _ ty_P_HTMLBlock _ rfl rfl rfl (by decide) ⟨nb, q, c, SM, rfl, hS, rfl, rfl, rfl⟩ (h.re (by intro _; simp only [List.append_eq, cnt_append, cnt_cons, cnt_nil] <;> omega))
  · intro w p2 M2 IM2 p1 L1 tb q q' c' hpost hp2 hs2 hI2 h
    obtain ⟨nb, q1, c, SM, rfl, hS, rfl, rfl, rfl⟩ := hpost
    exact hR w p2 M2 IM2 nb q1 c SM q' c' _ hp2 hs2 hS hI2 h
theorem eqFields_any {xs ys : Array Value} : ∀ {fs : List Field} {gs : List (TypeId × Nat)}, fs.map (fun f => (f.name == "_", f.type, f.offset)) = gs.map (fun g => (false, g.1, g.2)) →
    (∀ g ∈ gs, ∃ u v r, (part g.1 xs g.2).run P w = .ok u w ∧ (part g.1 ys g.2).run P w = .ok v w ∧ (Op.equalIn 9999 g.1 u v).run P w = .ok r w) → ∃ r, (Op.eqFields 9999 xs ys fs).run P w = .ok r w
  | [], [], _, _ => ⟨_, rfl⟩
  | [], g :: gs, h, _ => by simp at h
  | f :: fs, [], h, _ => by simp at h
  | f :: fs, g :: gs, h, hg => by
    simp only [List.map_cons, List.cons.injEq, Prod.mk.injEq] at h
    obtain ⟨⟨h1, h2, h3⟩, h4⟩ := h
    obtain ⟨u, v, r, e1, e2, e3⟩ := hg g (List.mem_cons_self ..)
    obtain ⟨r2, ih⟩ := eqFields_any h4 (fun g' hg' => hg g' (List.mem_cons_of_mem _ hg'))
    have hn : f.name ≠ "_" := by simpa using h1
    rw [← h2, ← h3] at e1 e2
    rw [← h2] at e3
    simp only [Op.eqFields, ne_eq, hn, not_false_eq_true, if_true, Sem.run_bind, e1, e2, e3, Result.andThen_ok]
    cases r with
    | true => simp only [Bool.not_true, Bool.false_eq_true, if_false]; exact ⟨_, ih⟩
    | false => simp
theorem any_int {t : TypeId} {k : IntKind} (hu : P.underlying t = some (.int k)) {cs ds : Array Value} {i : Nat} {a b : Int} (hv : cs[i]? = some (.int k a)) (hw : ds[i]? = some (.int k b)) : ∃ u v r, (part t cs i).run P w = .ok u w ∧ (part t ds i).run P w = .ok v w ∧ (Op.equalIn 9999 t u v).run P w = .ok r w :=
  ⟨_, _, _, part_line hu (fun _ h => by cases h) (fun _ _ h => by cases h) hv w, part_line hu (fun _ h => by cases h) (fun _ _ h => by cases h) hw w, run_equalIn_int w 9998 t k k a b hu⟩
theorem any_str {cs ds : Array Value} {i : Nat} {a b : ByteArray} (hv : cs[i]? = some (.string a)) (hw : ds[i]? = some (.string b)) : ∃ u v r, (part ty_string cs i).run P w = .ok u w ∧ (part ty_string ds i).run P w = .ok v w ∧ (Op.equalIn 9999 ty_string u v).run P w = .ok r w :=
  ⟨_, _, _, part_line und_str (fun _ h => by cases h) (fun _ _ h => by cases h) hv w, part_line und_str (fun _ h => by cases h) (fun _ _ h => by cases h) hw w, run_equalIn_string w 9998 ty_string a b und_str⟩
theorem neq_lines (l m : Ln) (x y : Operand) (w : World) : ∃ r, (do eqGuard .neq ty_line x y l.val m.val; binOp .neq ty_line l.val m.val).run P w = .ok (.bool r) w := by
  have hg : (eqGuard .neq ty_line x y l.val m.val).run P w = .ok () w := run_eqGuard_agg w .neq ty_line x y _ _ (by kernel_rfl)
  have hb := run_neq_struct (P := P) w ty_line #[.int .i64 l.sp, .int .i64 l.i, .int .i64 l.tab, .string (bs l.text), .int .u8 l.nl.toNat] #[.int .i64 m.sp, .int .i64 m.i, .int .i64 m.tab, .string (bs m.text), .int .u8 m.nl.toNat]
  have he : ∃ r, (Op.equalIn 10000 ty_line (.agg #[.int .i64 l.sp, .int .i64 l.i, .int .i64 l.tab, .string (bs l.text), .int .u8 l.nl.toNat]) (.agg #[.int .i64 m.sp, .int .i64 m.i, .int .i64 m.tab, .string (bs m.text), .int .u8 m.nl.toNat])).run P w = .ok r w := by
    rw [run_equalIn_struct w 9999 ty_line _ _ (by kernel_rfl) (by kernel_rfl)]
    refine eqFields_any (gs := [(ty_int, 0), (ty_int, 1), (ty_int, 2), (ty_string, 3), (ty_uint8, 4)]) lineFields ?_
    intro g hg
    simp only [List.mem_cons, List.mem_nil_iff, or_false] at hg
    rcases hg with rfl | rfl | rfl | rfl | rfl
    · exact any_int und_int rfl rfl
    · exact any_int und_int rfl rfl
    · exact any_int und_int rfl rfl
    · exact any_str rfl rfl
    · exact any_int und_u8 rfl rfl
  obtain ⟨r, he⟩ := he
  rw [Sem.run_bind, hg, Result.andThen_ok]
  refine ⟨!r, hb.trans ?_⟩
  rw [he]; rfl
theorem addLine_htm {b hb s e : Nat} {p : PS} {r : OB} {M HM : List Chunk} {en : List UInt8} {ls : List (List UInt8)} {l : Ln} (h : Sat σ w (p.at b :: M ++ (HM ++ L))) (hs : Stk p [r, htmOB hb s e] M) (hH : HtmAt hb en ls HM) (hl : l.ok)
    (hls : ls.length < 1048576) (ht : l.str.length < 4611686018427387904) (hen : en.length < 4611686018427387904)
    (hno : (idx l.str en).isSome = false → ∀ w p' M' HM' e', p' = { p with depth := 1 } → Stk p' [r, htmOB hb s e'] M' → HtmAt hb en (ls ++ [l.str]) HM' → Sat σ w (p'.at b :: M' ++ (HM' ++ L)) → R (.returned (.tuple #[])) w)
    (hyes : (idx l.str en).isSome = true → ∀ w p' M' HM' e' b1 b2, p' = { p with depth := 0 } → Stk p' [r, htmOB hb s e'] M' → HtmAt hb en (ls ++ [l.str]) HM' → Sat σ w (p'.at b :: M' ++ (HM' ++ (l.at b2 :: Ln.zero.at b1 :: L))) →
      callE P i_parseState_trimStack #[.pointer (some ⟨b, 0, none⟩), .int .i64 1] (fun e w => e = .returned (.tuple #[]) ∧ R (.returned (.tuple #[])) w) w) :
    callE P i_parseState_addLine #[.pointer (some ⟨b, 0, none⟩), l.val] R w := by
  have hn : p.stn = 2 := hs.2.1
  have hz : Ln.zero.ok := ⟨by decide, by decide, by decide, by decide⟩
  have hzb : Ln.zero.blank = true := rfl
  refine g_parseState_addLine.sound ?_
  refine Sat.bx h fun b1 w h => ?_
  repeat (first | refine nilP_some ?_ | refine Sat.tk h fun w h => ?_ | refine ⟨_, Sat.ld h (by first | assumption | (repeat (first | exact .head _ | apply List.Mem.tail))) (by exact rfl), ?_⟩ | refine ⟨_, _, _, Sat.ld h (by first | assumption | (repeat (first | exact .head _ | apply List.Mem.tail))) (by exact rfl), ?_⟩ | refine Sat.st h (k := 0) rfl (Nat.le_of_ble_eq_true rfl) trivial (by first | (dsimp only [List.set]; exact rfl) | exact rfl) fun w h => ?_ | refine Sat.st h (k := 1) rfl (Nat.le_of_ble_eq_true rfl) trivial (by first | (dsimp only [List.set]; exact rfl) | exact rfl) fun w h => ?_ | refine Sat.st h (k := 2) rfl (Nat.le_of_ble_eq_true rfl) trivial (by first | (dsimp only [List.set]; exact rfl) | exact rfl) fun w h => ?_ | refine Sat.st h (k := 3) rfl (Nat.le_of_ble_eq_true rfl) trivial (by first | (dsimp only [List.set]; exact rfl) | exact rfl) fun w h => ?_ | refine Sat.st h (k := 4) rfl (Nat.le_of_ble_eq_true rfl) trivial (by first | (dsimp only [List.set]; exact rfl) | exact rfl) fun w h => ?_ | refine Sat.st h (k := 5) rfl (Nat.le_of_ble_eq_true rfl) trivial (by first | (dsimp only [List.set]; exact rfl) | exact rfl) fun w h => ?_ | refine Sat.st h (k := 6) rfl (Nat.le_of_ble_eq_true rfl) trivial (by first | (dsimp only [List.set]; exact rfl) | exact rfl) fun w h => ?_ | refine Sat.bx h fun b0 w h => ?_)
  let p1 : PS := { p with depth := 0 }
  have h : Sat σ _ (l.at b1 :: p1.at b :: (M ++ (HM ++ L))) := h
  intro X hX
  refine hX _ _ _ ?_
  repeat (first | refine nilP_some ?_ | refine Sat.tk h fun w h => ?_ | refine ⟨_, Sat.ld h (by first | assumption | (repeat (first | exact .head _ | apply List.Mem.tail))) (by exact rfl), ?_⟩ | refine ⟨_, _, _, Sat.ld h (by first | assumption | (repeat (first | exact .head _ | apply List.Mem.tail))) (by exact rfl), ?_⟩)
  rw [show p1.stn = 2 from hn]
  refine br_true rfl ?_
  repeat (first | refine nilP_some ?_ | refine Sat.tk h fun w h => ?_ | refine ⟨_, Sat.ld h (by first | assumption | (repeat (first | exact .head _ | apply List.Mem.tail))) (by exact rfl), ?_⟩ | refine ⟨_, _, _, Sat.ld h (by first | assumption | (repeat (first | exact .head _ | apply List.Mem.tail))) (by exact rfl), ?_⟩ | refine Sat.st h (k := 0) rfl (Nat.le_of_ble_eq_true rfl) trivial (by first | (dsimp only [List.set]; exact rfl) | exact rfl) fun w h => ?_ | refine Sat.st h (k := 1) rfl (Nat.le_of_ble_eq_true rfl) trivial (by first | (dsimp only [List.set]; exact rfl) | exact rfl) fun w h => ?_ | refine Sat.st h (k := 2) rfl (Nat.le_of_ble_eq_true rfl) trivial (by first | (dsimp only [List.set]; exact rfl) | exact rfl) fun w h => ?_ | refine Sat.st h (k := 3) rfl (Nat.le_of_ble_eq_true rfl) trivial (by first | (dsimp only [List.set]; exact rfl) | exact rfl) fun w h => ?_ | refine Sat.st h (k := 4) rfl (Nat.le_of_ble_eq_true rfl) trivial (by first | (dsimp only [List.set]; exact rfl) | exact rfl) fun w h => ?_ | refine Sat.st h (k := 5) rfl (Nat.le_of_ble_eq_true rfl) trivial (by first | (dsimp only [List.set]; exact rfl) | exact rfl) fun w h => ?_ | refine Sat.st h (k := 6) rfl (Nat.le_of_ble_eq_true rfl) trivial (by first | (dsimp only [List.set]; exact rfl) | exact rfl) fun w h => ?_ | refine Sat.bx h fun b0 w h => ?_)
  have h : Sat σ _ (l.at b0 :: l.at b1 :: p1.at b :: (M ++ (HM ++ L))) := h
  obtain ⟨sb, sp, hq, hM, hsp⟩ := hs.split (by simp)
  rw [show p1.stn = 2 from hn, show p1.stq = some ⟨sb, 0, none⟩ from hq]
  rw [show IntKind.i64.wrap (p1.depth + 1) = 1 from rfl]
  refine ⟨by decide, by decide, nilP_some ?_⟩
  simp only [Addr.add_lit, Nat.zero_add]
  have hmem : (sb, cel (obCells [r, htmOB hb s e] ++ sp) ty_openBlock) ∈ (l.at b0 :: l.at b1 :: p1.at b :: (M ++ (HM ++ L))) := by rw [hM]; simp
  refine ⟨_, Sat.ld h hmem (stk_get (j := 1) (f := 0) (by decide) rfl), ?_⟩
  refine ⟨_, Sat.ld h (by first | assumption | (repeat (first | exact .head _ | apply List.Mem.tail))) (by exact rfl), ?_⟩
  refine ⟨_, Sat.ld h (by first | assumption | (repeat (first | exact .head _ | apply List.Mem.tail))) (by exact rfl), ?_⟩
  refine ⟨_, Sat.ld h (by first | assumption | (repeat (first | exact .head _ | apply List.Mem.tail))) (by exact rfl), ?_⟩
  refine ⟨_, Sat.ld h (by first | assumption | (repeat (first | exact .head _ | apply List.Mem.tail))) (by exact rfl), ?_⟩
  refine ⟨_, Sat.ld h (by first | assumption | (repeat (first | exact .head _ | apply List.Mem.tail))) (by exact rfl), ?_⟩
  refine enter_meth meth_htmExtend ?_
  have h : Sat σ _ (HM ++ (l.at b0 :: l.at b1 :: p1.at b :: (M ++ L))) := h.re (by intro _; simp only [List.append_eq, cnt_append, cnt_cons, cnt_nil] <;> omega)
  refine htmExtend_ok h hH hl hls ht hen fun w HM' hH' h => ⟨_, _, _, _, _, _, rfl, ?_⟩
  have h : Sat σ w (l.at b0 :: l.at b1 :: p1.at b :: (M ++ (HM' ++ L))) := h.re (by intro _; simp only [List.append_eq, cnt_append, cnt_cons, cnt_nil] <;> omega)
  refine Sat.st h (k := 1) rfl (Nat.le_of_ble_eq_true rfl) trivial (by first | (dsimp only [List.set]; exact rfl) | exact rfl) fun w h => ?_
  refine Sat.st h (k := 1) rfl (Nat.le_of_ble_eq_true rfl) trivial (by first | (dsimp only [List.set]; exact rfl) | exact rfl) fun w h => ?_
  refine Sat.st h (k := 1) rfl (Nat.le_of_ble_eq_true rfl) trivial (by first | (dsimp only [List.set]; exact rfl) | exact rfl) fun w h => ?_
  refine Sat.st h (k := 1) rfl (Nat.le_of_ble_eq_true rfl) trivial (by first | (dsimp only [List.set]; exact rfl) | exact rfl) fun w h => ?_
  refine Sat.st h (k := 1) rfl (Nat.le_of_ble_eq_true rfl) trivial (by first | (dsimp only [List.set]; exact rfl) | exact rfl) fun w h => ?_
  have h : Sat σ w (l.at b0 :: Ln.zero.at b1 :: p1.at b :: (M ++ (HM' ++ L))) := h
  refine isBlank_ok h (.head _) hl fun w h => ⟨_, rfl, ?_⟩
  have hs1 : Stk p1 [r, htmOB hb s e] M := hs.of rfl rfl rfl
  have kE : ∀ x5 x59 w, Sat σ w (l.at b0 :: Ln.zero.at b1 :: p1.at b :: (M ++ (HM' ++ L))) → (∀ w M' e', Stk p1 [r, htmOB hb s e'] M' → Sat σ w (l.at b0 :: Ln.zero.at b1 :: p1.at b :: (M' ++ (HM' ++ L))) →
      br (!x5) (g_parseState_addLine.k2 R (some ⟨b, 0, none⟩) b1 w) (g_parseState_addLine.k3 R X (some ⟨b, 0, none⟩) b1 w)) → g_parseState_addLine.k1 R X (some ⟨b, 0, none⟩) b1 x5 x59 w := by
    intro x5 x59 w h hk
    cases x59 with
    | false => exact br_false rfl (hk w M e hs1 h)
    | true =>
      refine br_true rfl ?_
      repeat (first | refine nilP_some ?_ | refine Sat.tk h fun w h => ?_ | refine ⟨_, Sat.ld h (by first | assumption | (repeat (first | exact .head _ | apply List.Mem.tail))) (by exact rfl), ?_⟩ | refine ⟨_, _, _, Sat.ld h (by first | assumption | (repeat (first | exact .head _ | apply List.Mem.tail))) (by exact rfl), ?_⟩)
      rw [show p1.stn = 2 from hn, show p1.stq = some ⟨sb, 0, none⟩ from hq]
      rw [show IntKind.i64.wrap (p1.depth + 1) = 1 from rfl]
      refine ⟨by decide, by decide, nilP_some ?_⟩
      simp only [Addr.add_lit, Nat.zero_add]
      rw [hM] at h
      have h : Sat σ _ (l.at b0 :: Ln.zero.at b1 :: p1.at b :: (sb, cel (obCells ([r] ++ [htmOB hb s e]) ++ sp) ty_openBlock) :: (HM' ++ L)) := h
      refine Sat.st h (k := 3) rfl (by rw [List.length_append, obCells_length]; simp; omega) trivial rfl fun w h => ?_
      have h : Sat σ w (l.at b0 :: Ln.zero.at b1 :: p1.at b :: (sb, cel (obCells ([r] ++ [htmOB hb s p.lineno]) ++ sp) ty_openBlock) :: (HM' ++ L)) := by
        have e0 := stk_set (l := [r]) (sp := sp) (o := htmOB hb s e) (o' := htmOB hb s p.lineno) (f := 3) (v := .int .i64 p.lineno) (by decide) rfl
        have h := h
        rw [← e0]
        exact h
      refine hk w [(sb, cel (obCells [r, htmOB hb s p.lineno] ++ sp) ty_openBlock)] p.lineno ?_ h
      refine Stk.mk' hq ?_ hn (by simp)
      rw [← hsp, List.length_append, List.length_append, obCells_length, obCells_length]
      rfl
  cases hx : (idx l.str en).isSome with
  | false =>
    have fin : ∀ x59 w, Sat σ w (l.at b0 :: Ln.zero.at b1 :: p1.at b :: (M ++ (HM' ++ L))) → g_parseState_addLine.k1 R X (some ⟨b, 0, none⟩) b1 true x59 w := by
      intro x59 w h
      refine kE true x59 w h fun w M' e' hs' h => br_false rfl ?_
      unfold g_parseState_addLine.k3
      refine nilP_some ?_
      refine ⟨_, Sat.ld h (by first | assumption | (repeat (first | exact .head _ | apply List.Mem.tail))) (by exact rfl), ?_⟩
      refine nilP_some ?_
      rw [show IntKind.i64.wrap (p1.depth + 1) = 1 from rfl]
      refine Sat.st h (k := 2) rfl (by simp [PS.cells]) trivial rfl fun w h => ?_
      let p2 : PS := { p with depth := 1 }
      have h : Sat σ w (l.at b0 :: Ln.zero.at b1 :: p2.at b :: (M' ++ (HM' ++ L))) := h
      refine hX _ _ _ ?_
      repeat (first | refine nilP_some ?_ | refine Sat.tk h fun w h => ?_ | refine ⟨_, Sat.ld h (by first | assumption | (repeat (first | exact .head _ | apply List.Mem.tail))) (by exact rfl), ?_⟩ | refine ⟨_, _, _, Sat.ld h (by first | assumption | (repeat (first | exact .head _ | apply List.Mem.tail))) (by exact rfl), ?_⟩)
      rw [show p2.stn = 2 from hn]
      refine br_false rfl ?_
      unfold g_parseState_addLine.k2
      refine isBlank_ok (l := Ln.zero) h (.tail _ (.head _)) hz fun w h => ⟨_, rfl, ?_⟩
      refine br_true hzb (nilP_some ?_)
      refine ⟨_, Sat.ld h (by first | assumption | (repeat (first | exact .head _ | apply List.Mem.tail))) (by exact rfl), ?_⟩
      have h : Sat σ w (p2.at b :: (l.at b0 :: Ln.zero.at b1 :: (M' ++ (HM' ++ L)))) := h.re (by intro _; simp only [List.append_eq, cnt_append, cnt_cons, cnt_nil] <;> omega)
      refine trimStack_noop h (by rw [show p2.stn = 2 from hn]; rfl) fun w h => ⟨rfl, ?_⟩
      refine hno hx w p2 M' HM' e' rfl (hs'.of rfl rfl rfl) hH' ?_
      exact h.less [l.at b0, Ln.zero.at b1] (by intro _; simp only [List.append_eq, cnt_append, cnt_cons, cnt_nil] <;> omega)
    exact br_split (fun _ => br_true rfl (fin _ _ h)) (fun _ => fin _ _ h)
  | true =>
    have fin : ∀ x59 w, Sat σ w (l.at b0 :: Ln.zero.at b1 :: p1.at b :: (M ++ (HM' ++ L))) → g_parseState_addLine.k1 R X (some ⟨b, 0, none⟩) b1 false x59 w := by
      intro x59 w h
      refine kE false x59 w h fun w M' e' hs' h => br_true rfl ?_
      unfold g_parseState_addLine.k2
      refine isBlank_ok (l := Ln.zero) h (.tail _ (.head _)) hz fun w h => ⟨_, rfl, ?_⟩
      refine br_true hzb (nilP_some ?_)
      refine ⟨_, Sat.ld h (by first | assumption | (repeat (first | exact .head _ | apply List.Mem.tail))) (by exact rfl), ?_⟩
      rw [show IntKind.i64.wrap (p1.depth + 1) = 1 from rfl]
      exact hyes hx w p1 M' HM' e' b1 b0 rfl hs' hH' (h.re (by intro _; simp only [List.append_eq, cnt_append, cnt_cons, cnt_nil] <;> omega))
    refine br_split (fun _ => br_false rfl ?_) (fun _ => fin _ _ h)
    refine ⟨_, Sat.ld h (by first | assumption | (repeat (first | exact .head _ | apply List.Mem.tail))) (by exact rfl), ?_⟩
    refine ⟨_, Sat.ld h (by first | assumption | (repeat (first | exact .head _ | apply List.Mem.tail))) (by exact rfl), ?_⟩
    refine ⟨_, Sat.ld h (by first | assumption | (repeat (first | exact .head _ | apply List.Mem.tail))) (by exact rfl), ?_⟩
    refine ⟨_, Sat.ld h (by first | assumption | (repeat (first | exact .head _ | apply List.Mem.tail))) (by exact rfl), ?_⟩
    refine ⟨_, Sat.ld h (by first | assumption | (repeat (first | exact .head _ | apply List.Mem.tail))) (by exact rfl), ?_⟩
    refine ⟨_, Sat.ld h (by first | assumption | (repeat (first | exact .head _ | apply List.Mem.tail))) (by exact rfl), ?_⟩
    refine ⟨_, Sat.ld h (by first | assumption | (repeat (first | exact .head _ | apply List.Mem.tail))) (by exact rfl), ?_⟩
    refine ⟨_, Sat.ld h (by first | assumption | (repeat (first | exact .head _ | apply List.Mem.tail))) (by exact rfl), ?_⟩
    refine ⟨_, Sat.ld h (by first | assumption | (repeat (first | exact .head _ | apply List.Mem.tail))) (by exact rfl), ?_⟩
    refine ⟨_, Sat.ld h (by first | assumption | (repeat (first | exact .head _ | apply List.Mem.tail))) (by exact rfl), ?_⟩
    obtain ⟨r0, hr0⟩ := neq_lines Ln.zero l (.tmp 55) (.tmp 56) w
    exact ⟨r0, w, hr0, fin _ _ h⟩
end Go.Proofs.YtihmcipajjakgaaGreatDoor


set_option linter.unusedVariables false
set_option maxRecDepth 20000
namespace Go.Proofs.YtihmcipajjakgaaGreatDoor
open Go.Proofs
namespace g_Parser_parse
noncomputable def body : Code := bodyOf Tryz.f26
def k3 (R : EP) (Xa : OA → BA → Nat → WP) (x0 : OA) (x1 : BA) (x6 : Nat) (x7 : BA) (x10 : Int) (w : World) : Prop :=
 ∃ (v33 : Int), w.cell? ⟨x6, 3, none⟩ = some (.int .i64 v33) ∧
 stV w ⟨x6, 3, none⟩ (.int .i64 (IntKind.i64.wrap (v33 + 1))) fun w34 =>
 callE P i_parseState_addLine #[.pointer (some ⟨x6, 0, none⟩), .agg #[.int .i64 0, .int .i64 0, .int .i64 0, .string x7, .int .u8 x10]] (fun e w36 => e = .returned (.tuple #[]) ∧
 Xa x0 x1 x6 w36) w34

def k4 (R : EP) (x6 : Nat) (w : World) : Prop :=
 tk w fun w41 =>
 ∃ (v42 : OA), w41.cell? ⟨x6, 1, none⟩ = some (.pointer v42) ∧
 ∃ (v43 : Bool), w41.cell? ⟨x6, 6, none⟩ = some (.bool v43) ∧
 R (.returned (.tuple #[.pointer v42, .bool v43])) w41

def k2 (R : EP) (Xa : OA → BA → Nat → WP) (x0 : OA) (x1 : BA) (x6 : Nat) (x8 : Int) (x9 : Int) (x10 : Int) (x34 : Bool) (w : World) : Prop :=
 br x34
 (0 ≤ x9 ∧ x9 ≤ (x1.size : Int) ∧
 br (x8 == (IntKind.i64.wrap (x9 + 1)))
 (0 ≤ (IntKind.i64.wrap (x9 + 2)) ∧ (IntKind.i64.wrap (x9 + 2)) ≤ (x1.size : Int) ∧
 k3 R Xa x0 (x1.extract (Int.toNat (IntKind.i64.wrap (x9 + 2))) x1.size) x6 (x1.extract 0 (Int.toNat x9)) 23 w)
 (0 ≤ (IntKind.i64.wrap (x9 + 1)) ∧ (IntKind.i64.wrap (x9 + 1)) ≤ (x1.size : Int) ∧
 k3 R Xa x0 (x1.extract (Int.toNat (IntKind.i64.wrap (x9 + 1))) x1.size) x6 (x1.extract 0 (Int.toNat x9)) 13 w))
 (br (decide (x8 ≥ 0))
 (tk w fun w21 =>
 0 ≤ x8 ∧ x8 ≤ (x1.size : Int) ∧
 0 ≤ (IntKind.i64.wrap (x8 + 1)) ∧ (IntKind.i64.wrap (x8 + 1)) ≤ (x1.size : Int) ∧
 k3 R Xa x0 (x1.extract (Int.toNat (IntKind.i64.wrap (x8 + 1))) x1.size) x6 (x1.extract 0 (Int.toNat x8)) 10 w21)
 (k3 R Xa x0 (ByteArray.mk #[]) x6 x1 x10 w))

def bl3 (R : EP) (Xb : Nat → OA → Nat → Nat → Int → Int → WP) (x6 : Nat) (x101q : OA) (x101n : Nat) (x101c : Nat) (x102 : Int) (x103 : Int) (w : World) : Prop :=
 br (decide (x103 < x102))
 (0 ≤ x103 ∧ x103 < (x101n : Int) ∧
 nilP x101q fun a37 =>
 ∃ (v38 : OA), w.cell? (a37.add (Int.toNat x103 * 1)) = some (.pointer v38) ∧
 callE P i_parseState_taskList #[.pointer (some ⟨x6, 0, none⟩), .pointer v38] (fun e w40 => e = .returned (.tuple #[]) ∧
 Xb x6 x101q x101n x101c x102 (IntKind.i64.wrap (x103 + 1)) w40) w)
 (k4 R x6 w)
def l3 (R : EP) (x6 : Nat) (x101q : OA) (x101n : Nat) (x101c : Nat) (x102 : Int) (x103 : Int) (w : World) : Prop :=
  ∀ X : Nat → OA → Nat → Nat → Int → Int → WP, (∀ x6 x101q x101n x101c x102 x103 w, bl3 R X x6 x101q x101n x101c x102 x103 w → X x6 x101q x101n x101c x102 x103 w) → X x6 x101q x101n x101c x102 x103 w

noncomputable def al3 (R : EP) (Xb : Nat → OA → Nat → Nat → Int → Int → WP) : AC :=
  (.leaf (sel [1, 1, 1, 1, 1, 1, 1, 1, 1, 0, 1, 0, 1, 0, 0] body))
def bl2 (R : EP) (Xc : OA → Nat → OA → Nat → Nat → Int → Int → WP) (x0 : OA) (x6 : Nat) (x81q : OA) (x81n : Nat) (x81c : Nat) (x82 : Int) (x83 : Int) (w : World) : Prop :=
 br (decide (x83 < x82))
 (0 ≤ x83 ∧ x83 < (x81n : Int) ∧
 nilP x81q fun a22 =>
 ∃ (v23 : OA), w.cell? (a22.add (Int.toNat x83 * 1)) = some (.pointer v23) ∧
 nilP v23 fun a24 =>
 ∃ (v25 : BA), w.cell? (a24.add 3) = some (.string v25) ∧
 callE P i_parseState_inline #[.pointer (some ⟨x6, 0, none⟩), .string v25] (fun e w27 => ∃ (r26q : OA), ∃ (r26n : Nat), ∃ (r26c : Nat), e = .returned (.slice r26q r26n r26c) ∧
 nilP v23 fun a28 =>
 stV w27 ((a28.add 2).add 0) (.slice r26q r26n r26c) fun w29 =>
 Xc x0 x6 x81q x81n x81c x82 (IntKind.i64.wrap (x83 + 1)) w29) w)
 (nilP x0 fun a30 =>
 ∃ (v31 : Bool), w.cell? (a30.add 2) = some (.bool v31) ∧
 br v31
 (∃ (v32q : OA), ∃ (v32n : Nat), ∃ (v32c : Nat), w.cell? ⟨x6, 10, none⟩ = some (.slice v32q v32n v32c) ∧
 l3 R x6 v32q v32n v32c (v32n : Int) 0 w)
 (k4 R x6 w))
def l2 (R : EP) (x0 : OA) (x6 : Nat) (x81q : OA) (x81n : Nat) (x81c : Nat) (x82 : Int) (x83 : Int) (w : World) : Prop :=
  ∀ X : OA → Nat → OA → Nat → Nat → Int → Int → WP, (∀ x0 x6 x81q x81n x81c x82 x83 w, bl2 R X x0 x6 x81q x81n x81c x82 x83 w → X x0 x6 x81q x81n x81c x82 x83 w) → X x0 x6 x81q x81n x81c x82 x83 w

noncomputable def al2 (R : EP) (Xc : OA → Nat → OA → Nat → Nat → Int → Int → WP) : AC :=
  (.leaf (sel [1, 1, 1, 1, 1, 1, 1, 1, 0, 1, 0, 0] body))
def bl1 (R : EP) (Xa : OA → BA → Nat → WP) (x0 : OA) (x1 : BA) (x6 : Nat) (w : World) : Prop :=
 br (!(x1.toList == (ByteArray.mk #[]).toList))
 (callE P i_zzIndex #[.string x1, .string (ByteArray.mk #[10])] (fun e w15 => ∃ (r14 : Int), e = .returned (.int .i64 r14) ∧
 callE P i_zzIndex #[.string x1, .string (ByteArray.mk #[13])] (fun e w17 => ∃ (r16 : Int), e = .returned (.int .i64 r16) ∧
 k2 R Xa x0 x1 x6 r14 r16 0 ((decide (r16 ≥ 0)) && ((decide (r14 < 0)) || (decide (r16 < r14)))) w17) w15) w)
 (callE P i_parseState_trimStack #[.pointer (some ⟨x6, 0, none⟩), .int .i64 0] (fun e w19 => e = .returned (.tuple #[]) ∧
 ∃ (v20q : OA), ∃ (v20n : Nat), ∃ (v20c : Nat), w19.cell? ⟨x6, 11, none⟩ = some (.slice v20q v20n v20c) ∧
 l2 R x0 x6 v20q v20n v20c (v20n : Int) 0 w19) w)
def l1 (R : EP) (x0 : OA) (x1 : BA) (x6 : Nat) (w : World) : Prop :=
  ∀ X : OA → BA → Nat → WP, (∀ x0 x1 x6 w, bl1 R X x0 x1 x6 w → X x0 x1 x6 w) → X x0 x1 x6 w

noncomputable def al1 (R : EP) (Xa : OA → BA → Nat → WP) : AC :=
  (.seq (.leaf (sel [1, 1, 1, 1, 1, 1, 0, 0, 0, 0] body)) (.block 1 (.seq (.leaf (sel [1, 1, 1, 1, 1, 1, 0, 0, 0, 1, 0, 0] body)) (.seq (.leaf (sel [1, 1, 1, 1, 1, 1, 0, 0, 0, 1, 0, 1, 0] body)) (.seq (.leaf (sel [1, 1, 1, 1, 1, 1, 0, 0, 0, 1, 0, 1, 1, 0] body)) (.seq (.leaf (sel [1, 1, 1, 1, 1, 1, 0, 0, 0, 1, 0, 1, 1, 1, 0] body)) (.seq (.block 2 (.seq (.leaf (sel [1, 1, 1, 1, 1, 1, 0, 0, 0, 1, 0, 1, 1, 1, 1, 0, 0, 0] body)) (.mark (leaf [(0, .s .ptr), (1, .s .str), (6, .s .loc), (8, .s (.int .i64)), (9, .s (.int .i64)), (10, .s (.int .u8)), (34, .s .bool)] (k2 R Xa)) (.cond 34 (.leaf (sel [1, 1, 1, 1, 1, 1, 0, 0, 0, 1, 0, 1, 1, 1, 1, 0, 0, 1, 0] body)) (.seq (.leaf (sel [1, 1, 1, 1, 1, 1, 0, 0, 0, 1, 0, 1, 1, 1, 1, 0, 0, 1, 1, 0] body)) (.cond 61 (.seq (.draw (.pure 0 (.pure 1 (.pure 2 (.pure 3 (.pure 4 (.pure 5 (.pure 6 (.pure 7 (.pure 8 .done))))))))) (sel [1, 1, 1, 1, 1, 1, 0, 0, 0, 1, 0, 1, 1, 1, 1, 0, 0, 1, 1, 1, 0, 0] body)) (.leaf (sel [1, 1, 1, 1, 1, 1, 0, 0, 0, 1, 0, 1, 1, 1, 1, 0, 0, 1, 1, 1, 0, 1] body))) (.leaf (sel [1, 1, 1, 1, 1, 1, 0, 0, 0, 1, 0, 1, 1, 1, 1, 0, 0, 1, 1, 1, 1] body)))))))) (.mark (leaf [(0, .s .ptr), (1, .s .str), (6, .s .loc), (7, .s .str), (10, .s (.int .u8))] (k3 R Xa)) (.leaf (sel [1, 1, 1, 1, 1, 1, 0, 0, 0, 1, 0, 1, 1, 1, 1, 1] body))))))))))
def k1 (R : EP) (x0 : OA) (x1 : BA) (x6 : Nat) (w : World) : Prop :=
 stV w ⟨x6, 5, none⟩ (.int .i64 (-1)) fun w9 =>
 box w9 #[] ty_rootBuilder fun b10 w11 =>
 callE P i_parseState_addBlock #[.pointer (some ⟨x6, 0, none⟩), .iface ty_P_rootBuilder (.pointer (some ⟨b10, 0, none⟩))] (fun e w13 => e = .returned (.tuple #[]) ∧
 l1 R x0 x1 x6 w13) w11

end g_Parser_parse
def g_Parser_parse (R : EP) (x0 : OA) (x1 : BA) (w : World) : Prop :=
 box w #[.pointer none, .pointer none, .map none, .int .i64 0, .slice none 0 0, .int .i64 0, .bool false, .string (ByteArray.mk #[]), .int .i64 0, .slice none 0 0, .slice none 0 0, .slice none 0 0, .int .i64 0, .int .i64 0, .int .i64 0, .int .i64 0, .int .i64 0, .int .i64 0, .int .i64 0, .int .i64 0, .int .i64 0, .int .i64 0, .int .i64 0, .int .i64 0, .int .i64 0, .int .i64 0, .int .i64 0, .int .i64 0, .int .i64 0, .int .i64 0, .int .i64 0, .int .i64 0, .int .i64 0, .int .i64 0, .int .i64 0, .int .i64 0, .int .i64 0, .int .i64 0, .int .i64 0, .int .i64 0, .int .i64 0, .int .i64 0, .int .i64 0, .int .i64 0, .int .i64 0, .int .i64 0, .int .i64 0, .int .i64 0, .int .i64 0, .int .i64 0, .int .i64 0, .int .i64 0, .int .i64 0, .int .i64 0, .int .i64 0, .int .i64 0, .int .i64 0, .int .i64 0, .int .i64 0, .int .i64 0, .int .i64 0, .int .i64 0, .int .i64 0, .int .i64 0, .int .i64 0, .int .i64 0, .int .i64 0, .int .i64 0, .int .i64 0, .int .i64 0, .int .i64 0, .int .i64 0, .int .i64 0, .int .i64 0, .int .i64 0, .int .i64 0, .int .i64 0, .int .i64 0, .int .i64 0, .int .i64 0, .int .i64 0, .int .i64 0, .int .i64 0, .int .i64 0, .int .i64 0, .int .i64 0, .int .i64 0, .int .i64 0, .int .i64 0, .int .i64 0, .int .i64 0, .int .i64 0, .bool false] ty_parseState fun b1 w2 =>
 stV w2 ⟨b1, 0, none⟩ (.pointer x0) fun w3 =>
 callE P i_zzContains #[.string x1, .string (ByteArray.mk #[0])] (fun e w5 => ∃ (r4 : Bool), e = .returned (.bool r4) ∧
 br r4
 (callE P i_zzReplaceAll #[.string x1, .string (ByteArray.mk #[0]), .string (ByteArray.mk #[239, 191, 189])] (fun e w7 => ∃ (r6 : BA), e = .returned (.string r6) ∧
 stV w7 ⟨b1, 6, none⟩ (.bool true) fun w8 =>
 g_Parser_parse.k1 R x0 r6 b1 w8) w5)
 (g_Parser_parse.k1 R x0 x1 b1 w5)) w3

noncomputable def g_Parser_parse.ac (R : EP) : AC :=
  (.seq (.leaf (sel [0] g_Parser_parse.body)) (.seq (.leaf (sel [1, 0] g_Parser_parse.body)) (.seq (.leaf (sel [1, 1, 0] g_Parser_parse.body)) (.seq (.leaf (sel [1, 1, 1, 0] g_Parser_parse.body)) (.mark (leaf [(0, .s .ptr), (1, .s .str), (6, .s .loc)] (g_Parser_parse.k1 R)) (.seq (.leaf (sel [1, 1, 1, 1, 0] g_Parser_parse.body)) (.seq (.leaf (sel [1, 1, 1, 1, 1, 0] g_Parser_parse.body)) (.seq (.block 0 (.loop (leaf [(0, .s .ptr), (1, .s .str), (6, .s .loc)] (g_Parser_parse.l1 R)) (sel [1, 1, 1, 1, 1, 1, 0, 0, 0] g_Parser_parse.body))) (.seq (.leaf (sel [1, 1, 1, 1, 1, 1, 1, 0] g_Parser_parse.body)) (.seq (.seq (.leaf (sel [1, 1, 1, 1, 1, 1, 1, 1, 0, 0] g_Parser_parse.body)) (.block 3 (.loop (leaf [(0, .s .ptr), (6, .s .loc), (81, .s .slice), (82, .s (.int .i64)), (83, .s (.int .i64))] (g_Parser_parse.l2 R)) (sel [1, 1, 1, 1, 1, 1, 1, 1, 0, 1, 0, 0] g_Parser_parse.body)))) (.seq (.seq (.leaf (sel [1, 1, 1, 1, 1, 1, 1, 1, 1, 0, 0] g_Parser_parse.body)) (.cond 99 (.seq (.leaf (sel [1, 1, 1, 1, 1, 1, 1, 1, 1, 0, 1, 0, 0] g_Parser_parse.body)) (.block 5 (.loop (leaf [(6, .s .loc), (101, .s .slice), (102, .s (.int .i64)), (103, .s (.int .i64))] (g_Parser_parse.l3 R)) (sel [1, 1, 1, 1, 1, 1, 1, 1, 1, 0, 1, 0, 1, 0, 0] g_Parser_parse.body)))) (.leaf (sel [1, 1, 1, 1, 1, 1, 1, 1, 1, 0, 1, 1] g_Parser_parse.body)))) (.mark (leaf [(6, .s .loc)] (g_Parser_parse.k4 R)) (.seq (.draw (.pure 0 (.pure 2 (.load 1 (.pure 4 (.load 3 (.pure 5 .done)))))) (sel [1, 1, 1, 1, 1, 1, 1, 1, 1, 1, 0] g_Parser_parse.body)) (.leaf (sel [1, 1, 1, 1, 1, 1, 1, 1, 1, 1, 1] g_Parser_parse.body)))))))))))))))
theorem g_Parser_parse.good (R : EP) : Good P 114 (g_Parser_parse.ac R) (QF P [.tmp 4, .tmp 5] R) :=
  ⟨trivial, ⟨trivial, ⟨trivial, ⟨trivial, ⟨⟨trivial, ⟨trivial, ⟨(loopG (g_Parser_parse.al1 R) (g_Parser_parse.bl1 R) (fun _ => by kernel_rfl) (fun Xa => ⟨trivial, ⟨trivial, ⟨trivial, ⟨trivial, ⟨trivial, ⟨⟨trivial, ⟨⟨trivial, ⟨trivial, ⟨⟨⟨by kernel_rfl, by kernel_rfl, fun _ _ _ h => h⟩, trivial⟩, trivial⟩⟩⟩, cutE (by intro x0 x1 x6 x8 x9 x10 x34 ρ w; kernel_rfl)⟩⟩, ⟨trivial, cutE (by intro x0 x1 x6 x7 x10 ρ w; kernel_rfl)⟩⟩⟩⟩⟩⟩⟩) (fun Xa => by intro x0 x1 x6 ρ w; kernel_rfl) (fun X h _ _ _ _ g => g X h)), ⟨trivial, ⟨⟨trivial, (loopG (g_Parser_parse.al2 R) (g_Parser_parse.bl2 R) (fun _ => by kernel_rfl) (fun Xc => trivial) (fun Xc => by intro x0 x6 x81q x81n x81c x82 x83 ρ w; kernel_rfl) (fun X h _ _ _ _ _ _ _ _ g => g X h))⟩, ⟨⟨trivial, ⟨⟨trivial, (loopG (g_Parser_parse.al3 R) (g_Parser_parse.bl3 R) (fun _ => by kernel_rfl) (fun Xb => trivial) (fun Xb => by intro x6 x101q x101n x101c x102 x103 ρ w; kernel_rfl) (fun X h _ _ _ _ _ _ _ g => g X h))⟩, trivial⟩⟩, ⟨⟨⟨by kernel_rfl, by kernel_rfl, fun _ _ _ h => h⟩, trivial⟩, cutE (by intro x6 ρ w; kernel_rfl)⟩⟩⟩⟩⟩⟩⟩, cutE (by intro x0 x1 x6 ρ w; kernel_rfl)⟩⟩⟩⟩⟩
theorem g_Parser_parse.eq (R : EP) (x0 : OA) (x1 : BA) (w : World) : g_Parser_parse R x0 x1 w = vcA P 114 (g_Parser_parse.ac R) (QF P [.tmp 4, .tmp 5] R) (fr0 [.pointer x0, .string x1]) w := by kernel_rfl
theorem g_Parser_parse.sound {R : EP} {x0 : OA} {x1 : ByteArray} {w : World} (h : g_Parser_parse R x0 x1 w) : callE P i_Parser_parse #[.pointer x0, .string x1] R w :=
  callE_fin (c := g_Parser_parse.body) Tryz.func26 Tryz.call26 (by kernel_rfl) (by kernel_rfl) (by kernel_rfl) (by kernel_rfl) (by kernel_rfl) (g_Parser_parse.good R) (g_Parser_parse.eq R x0 x1 w) h
namespace g_parseState_autoLinkText
noncomputable def body : Code := bodyOf Tryz.f59
def k1 (R : EP) (Xa : OA → OA → Nat → Nat → OA → Nat → Nat → OA → Nat → Nat → Int → Int → WP) (x0 : OA) (x1q : OA) (x1n : Nat) (x1c : Nat) (x5q : OA) (x5n : Nat) (x5c : Nat) (x9q : OA) (x9n : Nat) (x9c : Nat) (x22q : OA) (x22n : Nat) (x22c : Nat) (x23 : Int) (x24 : Int) (w : World) : Prop :=
 ∃ (r47q : OA), ∃ (r47n : Nat), ∃ (r47c : Nat), ∃ w48, (Builtin.append_ #[ty_S_Inline, ty_S_Inline] ty_S_Inline #[.slice x5q x5n x5c, .slice x9q x9n x9c]).run P w = .ok (.slice r47q r47n r47c) w48 ∧
 Xa x0 x1q x1n x1c r47q r47n r47c x22q x22n x22c x23 (IntKind.i64.wrap (x24 + 1)) w48

def k2 (R : EP) (Xa : OA → OA → Nat → Nat → OA → Nat → Nat → OA → Nat → Nat → Int → Int → WP) (x0 : OA) (x1q : OA) (x1n : Nat) (x1c : Nat) (x5q : OA) (x5n : Nat) (x5c : Nat) (x7 : Value) (x22q : OA) (x22n : Nat) (x22c : Nat) (x23 : Int) (x24 : Int) (w : World) : Prop :=
 ∃ (r49 : Bool), ∃ w50, (do eqGuard .neq ty_S_Inline (.tmp 87) (.const (.slice none 0 0)) (.slice x5q x5n x5c) (.slice none 0 0); binOp .neq ty_S_Inline (.slice x5q x5n x5c) (.slice none 0 0)).run P w = .ok (.bool r49) w50 ∧
 br r49
 (∃ (r51q : OA), ∃ (r51n : Nat), ∃ (r51c : Nat), ∃ w52, (Instr.buildSlice ty_S_Inline 1 #[(0, x7)]).run P w50 = .ok (.slice r51q r51n r51c) w52 ∧
 ∃ (r53q : OA), ∃ (r53n : Nat), ∃ (r53c : Nat), ∃ w54, (Builtin.append_ #[ty_S_Inline, ty_S_Inline] ty_S_Inline #[.slice x5q x5n x5c, .slice r51q r51n r51c]).run P w52 = .ok (.slice r53q r53n r53c) w54 ∧
 Xa x0 x1q x1n x1c r53q r53n r53c x22q x22n x22c x23 (IntKind.i64.wrap (x24 + 1)) w54)
 (Xa x0 x1q x1n x1c x5q x5n x5c x22q x22n x22c x23 (IntKind.i64.wrap (x24 + 1)) w50)

def bl1 (R : EP) (Xa : OA → OA → Nat → Nat → OA → Nat → Nat → OA → Nat → Nat → Int → Int → WP) (x0 : OA) (x1q : OA) (x1n : Nat) (x1c : Nat) (x5q : OA) (x5n : Nat) (x5c : Nat) (x22q : OA) (x22n : Nat) (x22c : Nat) (x23 : Int) (x24 : Int) (w : World) : Prop :=
 br (decide (x24 < x23))
 (0 ≤ x24 ∧ x24 < (x22n : Int) ∧
 nilP x22q fun a5 =>
 ∃ (v6 : Value), w.cell? (a5.add (Int.toNat x24 * 1)) = some v6 ∧
 ∃ (r7_0 : OA), ∃ (r7_1 : Bool), ∃ w8, (Instr.typeAssert v6 ty_Inline ty_P_Plain true).run P w = .ok (.tuple #[.pointer r7_0, .bool r7_1]) w8 ∧
 br r7_1
 (nilP r7_0 fun a9 =>
 ∃ (v10 : BA), w8.cell? a9 = some (.string v10) ∧
 callE P i_parseState_autoLinkPlain #[.pointer x0, .string v10] (fun e w12 => ∃ (r11q : OA), ∃ (r11n : Nat), ∃ (r11c : Nat), e = .returned (.slice r11q r11n r11c) ∧
 ∃ (r13 : Bool), ∃ w14, (do eqGuard .neq ty_S_Inline (.tmp 39) (.const (.slice none 0 0)) (.slice r11q r11n r11c) (.slice none 0 0); binOp .neq ty_S_Inline (.slice r11q r11n r11c) (.slice none 0 0)).run P w12 = .ok (.bool r13) w14 ∧
 br r13
 (∃ (r15 : Bool), ∃ w16, (do eqGuard .eql ty_S_Inline (.tmp 41) (.const (.slice none 0 0)) (.slice x5q x5n x5c) (.slice none 0 0); binOp .eql ty_S_Inline (.slice x5q x5n x5c) (.slice none 0 0)).run P w14 = .ok (.bool r15) w16 ∧
 br r15
 (∃ (r17q : OA), ∃ (r17n : Nat), ∃ (r17c : Nat), ∃ w18, (Instr.sliceAt ty_S_Inline (.slice x1q x1n x1c) none (some (.int .i64 x24)) none).run P w16 = .ok (.slice r17q r17n r17c) w18 ∧
 ∃ (r19q : OA), ∃ (r19n : Nat), ∃ (r19c : Nat), ∃ w20, (Builtin.append_ #[ty_S_Inline, ty_S_Inline] ty_S_Inline #[.slice x5q x5n x5c, .slice r17q r17n r17c]).run P w18 = .ok (.slice r19q r19n r19c) w20 ∧
 k1 R Xa x0 x1q x1n x1c r19q r19n r19c r11q r11n r11c x22q x22n x22c x23 x24 w20)
 (k1 R Xa x0 x1q x1n x1c x5q x5n x5c r11q r11n r11c x22q x22n x22c x23 x24 w16))
 (k2 R Xa x0 x1q x1n x1c x5q x5n x5c v6 x22q x22n x22c x23 x24 w14)) w8)
 (∃ (r21_0 : OA), ∃ (r21_1 : Bool), ∃ w22, (Instr.typeAssert v6 ty_Inline ty_P_Strong true).run P w8 = .ok (.tuple #[.pointer r21_0, .bool r21_1]) w22 ∧
 br r21_1
 (nilP r21_0 fun a23 =>
 ∃ (v24q : OA), ∃ (v24n : Nat), ∃ (v24c : Nat), w22.cell? (a23.add 1) = some (.slice v24q v24n v24c) ∧
 callE P i_parseState_autoLinkText #[.pointer x0, .slice v24q v24n v24c] (fun e w26 => ∃ (r25q : OA), ∃ (r25n : Nat), ∃ (r25c : Nat), e = .returned (.slice r25q r25n r25c) ∧
 nilP r21_0 fun a27 =>
 stV w26 ((a27.add 1).add 0) (.slice r25q r25n r25c) fun w28 =>
 k2 R Xa x0 x1q x1n x1c x5q x5n x5c v6 x22q x22n x22c x23 x24 w28) w22)
 (∃ (r29_0 : OA), ∃ (r29_1 : Bool), ∃ w30, (Instr.typeAssert v6 ty_Inline ty_P_Del true).run P w22 = .ok (.tuple #[.pointer r29_0, .bool r29_1]) w30 ∧
 br r29_1
 (nilP r29_0 fun a31 =>
 ∃ (v32q : OA), ∃ (v32n : Nat), ∃ (v32c : Nat), w30.cell? (a31.add 1) = some (.slice v32q v32n v32c) ∧
 callE P i_parseState_autoLinkText #[.pointer x0, .slice v32q v32n v32c] (fun e w34 => ∃ (r33q : OA), ∃ (r33n : Nat), ∃ (r33c : Nat), e = .returned (.slice r33q r33n r33c) ∧
 nilP r29_0 fun a35 =>
 stV w34 ((a35.add 1).add 0) (.slice r33q r33n r33c) fun w36 =>
 k2 R Xa x0 x1q x1n x1c x5q x5n x5c v6 x22q x22n x22c x23 x24 w36) w30)
 (∃ (r37_0 : OA), ∃ (r37_1 : Bool), ∃ w38, (Instr.typeAssert v6 ty_Inline ty_P_Emph true).run P w30 = .ok (.tuple #[.pointer r37_0, .bool r37_1]) w38 ∧
 br r37_1
 (nilP r37_0 fun a39 =>
 ∃ (v40q : OA), ∃ (v40n : Nat), ∃ (v40c : Nat), w38.cell? (a39.add 1) = some (.slice v40q v40n v40c) ∧
 callE P i_parseState_autoLinkText #[.pointer x0, .slice v40q v40n v40c] (fun e w42 => ∃ (r41q : OA), ∃ (r41n : Nat), ∃ (r41c : Nat), e = .returned (.slice r41q r41n r41c) ∧
 nilP r37_0 fun a43 =>
 stV w42 ((a43.add 1).add 0) (.slice r41q r41n r41c) fun w44 =>
 k2 R Xa x0 x1q x1n x1c x5q x5n x5c v6 x22q x22n x22c x23 x24 w44) w38)
 (k2 R Xa x0 x1q x1n x1c x5q x5n x5c v6 x22q x22n x22c x23 x24 w38)))))
 (∃ (r45 : Bool), ∃ w46, (do eqGuard .eql ty_S_Inline (.tmp 94) (.const (.slice none 0 0)) (.slice x5q x5n x5c) (.slice none 0 0); binOp .eql ty_S_Inline (.slice x5q x5n x5c) (.slice none 0 0)).run P w = .ok (.bool r45) w46 ∧
 br r45
 (R (.returned (.slice x1q x1n x1c)) w46)
 (R (.returned (.slice x5q x5n x5c)) w46))
def l1 (R : EP) (x0 : OA) (x1q : OA) (x1n : Nat) (x1c : Nat) (x5q : OA) (x5n : Nat) (x5c : Nat) (x22q : OA) (x22n : Nat) (x22c : Nat) (x23 : Int) (x24 : Int) (w : World) : Prop :=
  ∀ X : OA → OA → Nat → Nat → OA → Nat → Nat → OA → Nat → Nat → Int → Int → WP, (∀ x0 x1q x1n x1c x5q x5n x5c x22q x22n x22c x23 x24 w, bl1 R X x0 x1q x1n x1c x5q x5n x5c x22q x22n x22c x23 x24 w → X x0 x1q x1n x1c x5q x5n x5c x22q x22n x22c x23 x24 w) → X x0 x1q x1n x1c x5q x5n x5c x22q x22n x22c x23 x24 w

noncomputable def al1 (R : EP) (Xa : OA → OA → Nat → Nat → OA → Nat → Nat → OA → Nat → Nat → Int → Int → WP) : AC :=
  (.seq (.leaf (sel [1, 1, 1, 0, 1, 0, 0, 0] body)) (.seq (.leaf (sel [1, 1, 1, 0, 1, 0, 0, 1, 0] body)) (.seq (.block 1 (.seq (.leaf (sel [1, 1, 1, 0, 1, 0, 0, 1, 1, 0, 0, 0] body)) (.seq (.seq (.leaf (sel [1, 1, 1, 0, 1, 0, 0, 1, 1, 0, 0, 1, 0, 0] body)) (.block 2 (.seq (.leaf (sel [1, 1, 1, 0, 1, 0, 0, 1, 1, 0, 0, 1, 0, 1, 0, 0] body)) (.cond 31 (.seq (.leaf (sel [1, 1, 1, 0, 1, 0, 0, 1, 1, 0, 0, 1, 0, 1, 0, 1, 0, 0] body)) (.seq (.leaf (sel [1, 1, 1, 0, 1, 0, 0, 1, 1, 0, 0, 1, 0, 1, 0, 1, 0, 1, 0] body)) (.seq (.leaf (sel [1, 1, 1, 0, 1, 0, 0, 1, 1, 0, 0, 1, 0, 1, 0, 1, 0, 1, 1, 0] body)) (.cond 40 (.seq (.leaf (sel [1, 1, 1, 0, 1, 0, 0, 1, 1, 0, 0, 1, 0, 1, 0, 1, 0, 1, 1, 1, 0, 0] body)) (.mark (leaf [(0, .s .ptr), (1, .s .slice), (5, .s .slice), (9, .s .slice), (22, .s .slice), (23, .s (.int .i64)), (24, .s (.int .i64))] (k1 R Xa)) (.leaf (sel [1, 1, 1, 0, 1, 0, 0, 1, 1, 0, 0, 1, 0, 1, 0, 1, 0, 1, 1, 1, 0, 1] body)))) (.leaf (sel [1, 1, 1, 0, 1, 0, 0, 1, 1, 0, 0, 1, 0, 1, 0, 1, 0, 1, 1, 1, 1] body)))))) (.leaf (sel [1, 1, 1, 0, 1, 0, 0, 1, 1, 0, 0, 1, 0, 1, 0, 1, 1] body)))))) (.mark (leaf [(0, .s .ptr), (1, .s .slice), (5, .s .slice), (7, .s .any), (22, .s .slice), (23, .s (.int .i64)), (24, .s (.int .i64))] (k2 R Xa)) (.leaf (sel [1, 1, 1, 0, 1, 0, 0, 1, 1, 0, 0, 1, 1] body)))))) (.leaf (sel [1, 1, 1, 0, 1, 0, 0, 1, 1, 1] body)))))
end g_parseState_autoLinkText
def g_parseState_autoLinkText (R : EP) (x0 : OA) (x1q : OA) (x1n : Nat) (x1c : Nat) (w : World) : Prop :=
 nilP x0 fun a1 =>
 ∃ (v2 : OA), w.cell? a1 = some (.pointer v2) ∧
 nilP v2 fun a3 =>
 ∃ (v4 : Bool), w.cell? (a3.add 3) = some (.bool v4) ∧
 br (!v4)
 (R (.returned (.slice x1q x1n x1c)) w)
 (g_parseState_autoLinkText.l1 R x0 x1q x1n x1c none 0 0 x1q x1n x1c (x1n : Int) 0 w)

noncomputable def g_parseState_autoLinkText.ac (R : EP) : AC :=
  (.seq (.leaf (sel [0] g_parseState_autoLinkText.body)) (.seq (.leaf (sel [1, 0] g_parseState_autoLinkText.body)) (.seq (.leaf (sel [1, 1, 0] g_parseState_autoLinkText.body)) (.seq (.seq (.leaf (sel [1, 1, 1, 0, 0] g_parseState_autoLinkText.body)) (.block 0 (.loop (leaf [(0, .s .ptr), (1, .s .slice), (5, .s .slice), (22, .s .slice), (23, .s (.int .i64)), (24, .s (.int .i64))] (g_parseState_autoLinkText.l1 R)) (sel [1, 1, 1, 0, 1, 0, 0] g_parseState_autoLinkText.body)))) (.leaf (sel [1, 1, 1, 1] g_parseState_autoLinkText.body))))))
theorem g_parseState_autoLinkText.good (R : EP) : Good P 98 (g_parseState_autoLinkText.ac R) (QF P [.tmp 4] R) :=
  ⟨trivial, ⟨trivial, ⟨trivial, ⟨⟨trivial, (loopG (g_parseState_autoLinkText.al1 R) (g_parseState_autoLinkText.bl1 R) (fun _ => by kernel_rfl) (fun Xa => ⟨trivial, ⟨trivial, ⟨⟨trivial, ⟨⟨trivial, ⟨trivial, ⟨⟨trivial, ⟨trivial, ⟨trivial, ⟨⟨trivial, ⟨trivial, cutE (by intro x0 x1q x1n x1c x5q x5n x5c x9q x9n x9c x22q x22n x22c x23 x24 ρ w; kernel_rfl)⟩⟩, trivial⟩⟩⟩⟩, trivial⟩⟩⟩, ⟨trivial, cutE (by intro x0 x1q x1n x1c x5q x5n x5c x7 x22q x22n x22c x23 x24 ρ w; kernel_rfl)⟩⟩⟩, trivial⟩⟩⟩) (fun Xa => by intro x0 x1q x1n x1c x5q x5n x5c x22q x22n x22c x23 x24 ρ w; kernel_rfl) (fun X h _ _ _ _ _ _ _ _ _ _ _ _ _ g => g X h))⟩, trivial⟩⟩⟩⟩
theorem g_parseState_autoLinkText.eq (R : EP) (x0 : OA) (x1q : OA) (x1n : Nat) (x1c : Nat) (w : World) : g_parseState_autoLinkText R x0 x1q x1n x1c w = vcA P 98 (g_parseState_autoLinkText.ac R) (QF P [.tmp 4] R) (fr0 [.pointer x0, .slice x1q x1n x1c]) w := by kernel_rfl
theorem g_parseState_autoLinkText.sound {R : EP} {x0 : OA} {x1q : OA} {x1n : Nat} {x1c : Nat} {w : World} (h : g_parseState_autoLinkText R x0 x1q x1n x1c w) : callE P i_parseState_autoLinkText #[.pointer x0, .slice x1q x1n x1c] R w :=
  callE_fin (c := g_parseState_autoLinkText.body) Tryz.func59 Tryz.call59 (by kernel_rfl) (by kernel_rfl) (by kernel_rfl) (by kernel_rfl) (by kernel_rfl) (g_parseState_autoLinkText.good R) (g_parseState_autoLinkText.eq R x0 x1q x1n x1c w) h
end Go.Proofs.YtihmcipajjakgaaGreatDoor

set_option linter.unusedVariables false
namespace Go.Proofs.YtihmcipajjakgaaGreatDoor
open Go.Proofs Go.IntWalk Go.RowKit
variable {σ : Out} {w : World} {L L' : List Chunk} {R : Ending → World → Prop}
def EmphOK (ts ts' : List Inl) : Prop :=
  ∀ (σ : Out) (R : Ending → World → Prop) (pq q : Option Addr) (n c : Nat) vs RM EM L w, Sl 1 ty_Inline q n c vs RM → InlsAt ts vs EM → n < 1073741823 → Sat σ w (RM ++ (EM ++ L)) →
    (∀ w q' n' c' vs' RM' EM', Sl 1 ty_Inline q' n' c' vs' RM' → n' ≤ n → InlsAt ts' vs' EM' → Sat σ w (RM' ++ (EM' ++ L)) → R (.returned (.slice q' n' c')) w) →
    callE P i_parseState_emph #[.pointer pq, .slice q 0 c, .slice q n c] R w
theorem emphOK_none {ts : List Inl} (hno : ∀ t ∈ ts, t.ty ≠ ty_P_openPlain ∧ t.ty ≠ ty_P_emphPlain) : EmphOK ts ts := by
  intro σ R pq q n c vs RM EM L w hS hI hn h hR
  exact emph_none_ok hS hI hno (by omega) h fun w h => hR w q n c vs RM EM hS (Nat.le_refl _) hI h
theorem autoOff_ok {b pb : Nat} {p : PS} {o : Opt} {q : Option Addr} {n c : Nat} (hpz : p.pz = some ⟨pb, 0, none⟩) (hp : p.at b ∈ L) (ho : o.at pb ∈ L) (hoff : o.auto = false) (h : Sat σ w L) (hR : R (.returned (.slice q n c)) w) :
    callE P i_parseState_autoLinkText #[.pointer (some ⟨b, 0, none⟩), .slice q n c] R w := by
  refine g_parseState_autoLinkText.sound ?_
  refine nilP_some ⟨_, by rw [← hpz]; exact Sat.ld h hp rfl, nilP_some ?_⟩
  simp only [Addr.add_lit, Nat.zero_add]
  exact ⟨o.auto, Sat.ld h ho rfl, br_true (by rw [hoff]; rfl) hR⟩
def AutoOK (o : Opt) (ts ts' : List Inl) : Prop :=
  ∀ (σ : Out) (R : Ending → World → Prop) (b pb : Nat) (p : PS) (q : Option Addr) (n c : Nat) (vs : List Value) (RM EM L : List Chunk) (w : World), p.pz = some ⟨pb, 0, none⟩ → p.at b ∈ L → o.at pb ∈ L → Sl 1 ty_Inline q n c vs RM → n < 1073741824 → InlsAt ts vs EM → Sat σ w (RM ++ (EM ++ L)) →
    (∀ w q' n' c' vs' RM' EM', Sl 1 ty_Inline q' n' c' vs' RM' → n' < 1073741824 → InlsAt ts' vs' EM' → Sat σ w (RM' ++ (EM' ++ L)) → R (.returned (.slice q' n' c')) w) →
    callE P i_parseState_autoLinkText #[.pointer (some ⟨b, 0, none⟩), .slice q n c] R w
theorem autoOK_off {o : Opt} {ts : List Inl} (hoff : o.auto = false) : AutoOK o ts ts := fun σ R b pb p q n c vs RM EM L w hpz hp ho hS hn hI h hR =>
  autoOff_ok hpz (List.mem_append_right _ (List.mem_append_right _ hp)) (List.mem_append_right _ (List.mem_append_right _ ho)) hoff h (hR w q n c vs RM EM hS hn hI h)
theorem inl_endA {X : XI} {b pb e : Nat} {p : PS} {o : Opt} {ts ts' ts2 : List Inl} {opens : List Nat} {oq : Option Addr} {on oc : Nat} {lo : Int} {bk : Bool} (h : IIn σ b p ts opens oq on oc L w) (he : p.em = e) (hs : p.s.length < 1000000000)
    (hn : ts.length < 1000000000) (hpz : p.pz = some ⟨pb, 0, none⟩) (ho : o.at pb ∈ L) (hE : EmphOK (emitM p.s e p.s.length ts) ts') (hpos : ∀ t ∈ ts', ∀ s, t.plain? = some s → s ≠ []) (hb : plen ts' < 1073741824) (hA : AutoOK o (mergeM ts') ts2)
    (hR : ∀ w (p' : PS) q n c vs RM EM, p'.core = p.core → Sl 1 ty_Inline q n c vs RM → n < 1073741824 → InlsAt ts2 vs EM → Sat σ w (p'.at b :: (RM ++ (EM ++ L))) → R (.returned (.slice q n c)) w) :
    g_parseState_inline.bl1 R X (some ⟨b, 0, none⟩) (bs p.s) oq on oc lo bk (p.s.length : Nat) w := by
  have elen : (emitM p.s e p.s.length ts).length ≤ ts.length + 1 := by unfold emitM; split <;> simp
  refine br_false (by simp) ?_
  rw [bs_size]
  refine emitI_ok h he (Nat.le_refl _) (by omega) fun w p1 hp1 _ _ h => ⟨rfl, ?_⟩
  obtain ⟨vs, RM, EM, OM, hS, hI, hO, hlen, h⟩ := h
  have hvl := hI.length
  have hn0 := hS.1
  have hnc := hS.2.1
  have c1 : p1.pz = p.pz := by have := congrArg PS.pz hp1; exact this
  refine Sat.tk h fun w h => ?_
  refine nilP_some (nilP_some ?_)
  refine ⟨_, _, _, Sat.ld h (by first | assumption | (repeat (first | exact .head _ | apply List.Mem.tail))) (by exact rfl), ?_⟩
  refine ⟨_, _, _, fun w => sliceT rowInl.ht rowInl.hi _ _ _ 0 (by omega) w, ?_⟩
  refine ⟨_, _, _, Sat.ld h (by first | assumption | (repeat (first | exact .head _ | apply List.Mem.tail))) (by exact rfl), ?_⟩
  have h : Sat σ w (RM ++ (EM ++ (p1.at b :: (OM ++ L)))) := h.re (by intro _; simp only [List.append_eq, cnt_append, cnt_cons, cnt_nil] <;> omega)
  refine hE σ _ _ p1.lq p1.ln p1.lc vs RM EM _ w hS hI (by omega) h fun w q' n' c' vs' RM' EM' hS' hnn hI' h => ⟨_, _, _, rfl, nilP_some ?_⟩
  have h : Sat σ w (p1.at b :: (RM' ++ (EM' ++ (OM ++ L)))) := h.re (by intro _; simp only [List.append_eq, cnt_append, cnt_cons, cnt_nil] <;> omega)
  refine Sat.st h (k := 0) rfl (Nat.le_of_ble_eq_true rfl) trivial (by first | (dsimp only [List.set]; exact rfl) | exact rfl) fun w h => ?_
  let p2 : PS := { p1 with lq := q', ln := n', lc := c' }
  have h : Sat σ w (p2.at b :: (RM' ++ (EM' ++ (OM ++ L)))) := h
  refine nilP_some ?_
  refine ⟨_, _, _, Sat.ld h (by first | assumption | (repeat (first | exact .head _ | apply List.Mem.tail))) (by exact rfl), ?_⟩
  have h : Sat σ w (RM' ++ (EM' ++ (p2.at b :: (OM ++ L)))) := h.re (by intro _; simp only [List.append_eq, cnt_append, cnt_cons, cnt_nil] <;> omega)
  refine mergePlain_ok (n := n') hS' hI' hpos hb (by omega) h fun w n2 vs2 RM2 EM2 hS2 hn2 hI2 h => ⟨_, _, _, rfl, nilP_some ?_⟩
  have h : Sat σ w (p2.at b :: (RM2 ++ (EM2 ++ (OM ++ L)))) := h.re (by intro _; simp only [List.append_eq, cnt_append, cnt_cons, cnt_nil] <;> omega)
  refine Sat.st h (k := 0) rfl (Nat.le_of_ble_eq_true rfl) trivial (by first | (dsimp only [List.set]; exact rfl) | exact rfl) fun w h => ?_
  let p3 : PS := { p1 with lq := q', ln := n2, lc := c' }
  have h : Sat σ w (p3.at b :: (RM2 ++ (EM2 ++ (OM ++ L)))) := h
  refine nilP_some ?_
  refine ⟨_, _, _, Sat.ld h (by first | assumption | (repeat (first | exact .head _ | apply List.Mem.tail))) (by exact rfl), ?_⟩
  have h : Sat σ w (RM2 ++ (EM2 ++ (p3.at b :: (OM ++ L)))) := h.re (by intro _; simp only [List.append_eq, cnt_append, cnt_cons, cnt_nil] <;> omega)
  refine hA σ _ b pb p3 q' n2 c' vs2 RM2 EM2 _ w (by rw [← hpz, ← c1]) (.head _) (.tail _ (List.mem_append_right _ ho)) hS2 (by omega) hI2 h fun w q3 n3 c3 vs3 RM3 EM3 hS3 hn3 hI3 h => ⟨_, _, _, rfl, nilP_some ?_⟩
  have h : Sat σ w (p3.at b :: (RM3 ++ (EM3 ++ (OM ++ L)))) := h.re (by intro _; simp only [List.append_eq, cnt_append, cnt_cons, cnt_nil] <;> omega)
  refine Sat.st h (k := 0) rfl (Nat.le_of_ble_eq_true rfl) trivial (by first | (dsimp only [List.set]; exact rfl) | exact rfl) fun w h => ?_
  refine nilP_some ?_
  refine ⟨_, _, _, Sat.ld h (by first | assumption | (repeat (first | exact .head _ | apply List.Mem.tail))) (by exact rfl), ?_⟩
  let p4 : PS := { p1 with lq := q3, ln := n3, lc := c3 }
  have h : Sat σ w (p4.at b :: (RM3 ++ (EM3 ++ (OM ++ L)))) := h
  exact hR w p4 q3 n3 c3 vs3 RM3 EM3 (by rw [← hp1]; rfl) hS3 hn3 hI3 (h.less OM (by intro _; simp only [List.append_eq, cnt_append, cnt_cons, cnt_nil] <;> omega))
theorem inl_begin {b : Nat} {p : PS} {raw : List UInt8} (h : Sat σ w (p.at b :: L)) (hl : raw.length < 4611686018427387904)
    (hK : ∀ w, IIn σ b { p with s := trimLR isST raw, em := 0, lq := none, ln := 0, lc := 0 } [] [] none 0 0 L w → g_parseState_inline.l1 R (some ⟨b, 0, none⟩) (bs (trimLR isST raw)) none 0 0 0 false 0 w) :
    callE P i_parseState_inline #[.pointer (some ⟨b, 0, none⟩), .string (bs raw)] R w := by
  refine g_parseState_inline.sound ?_
  refine trimSpaceTab_ok hl ⟨_, rfl, nilP_some ?_⟩
  refine Sat.st h (k := 0) rfl (Nat.le_of_ble_eq_true rfl) trivial (by first | (dsimp only [List.set]; exact rfl) | exact rfl) fun w h => ?_
  refine nilP_some ?_
  refine Sat.st h (k := 0) rfl (Nat.le_of_ble_eq_true rfl) trivial (by first | (dsimp only [List.set]; exact rfl) | exact rfl) fun w h => ?_
  refine nilP_some ?_
  refine Sat.st h (k := 0) rfl (Nat.le_of_ble_eq_true rfl) trivial (by first | (dsimp only [List.set]; exact rfl) | exact rfl) fun w h => ?_
  exact hK w ⟨[], [], [], [], Sl.nil _ _, ⟨rfl, rfl⟩, Sl.nil _ _, by simp, h⟩
end Go.Proofs.YtihmcipajjakgaaGreatDoor


set_option linter.unusedVariables false
namespace Go.Proofs.YtihmcipajjakgaaGreatDoor
open Go.Proofs Go.IntWalk Go.RowKit
variable {σ : Out} {w : World} {L L' : List Chunk} {R : Ending → World → Prop}
def PS.coreS (p : PS) : PS := ({ p with s := [] } : PS).core
def InlineOK (op : Opt) (s : List UInt8) (f : List UInt8 → List UInt8) : Prop :=
  ∀ (σ : Out) (R : Ending → World → Prop) (b pb : Nat) (p : PS) (L : List Chunk) (w : World), Sat σ w (p.at b :: L) → p.pz = some ⟨pb, 0, none⟩ → op.at pb ∈ L → p.links = none →
    (∀ w (p' : PS) q n c vs RM KM KM', p'.coreS = p.coreS → Sl 1 ty_Inline q n c vs RM → n < 1073741824 → PrintsL "PrintHTML" vs KM KM' f → Sat σ w (p'.at b :: (RM ++ (KM ++ L))) → R (.returned (.slice q n c)) w) →
    callE P i_parseState_inline #[.pointer (some ⟨b, 0, none⟩), .string (bs s)] R w
def InlineOKG (lk : Option Nat) (L0 : List Chunk) (op : Opt) (s : List UInt8) (f : List UInt8 → List UInt8) : Prop :=
  ∀ (σ : Out) (R : Ending → World → Prop) (b pb : Nat) (p : PS) (L : List Chunk) (w : World), (∀ c ∈ L0, c ∈ L) → Sat σ w (p.at b :: L) → p.pz = some ⟨pb, 0, none⟩ → op.at pb ∈ L → p.links = lk →
    (∀ w (p' : PS) q n c vs RM KM KM', p'.coreS = p.coreS → Sl 1 ty_Inline q n c vs RM → n < 1073741824 → PrintsL "PrintHTML" vs KM KM' f → Sat σ w (p'.at b :: (RM ++ (KM ++ L))) → R (.returned (.slice q n c)) w) →
    callE P i_parseState_inline #[.pointer (some ⟨b, 0, none⟩), .string (bs s)] R w
abbrev InlineOKL (L0 : List Chunk) (op : Opt) (s : List UInt8) (f : List UInt8 → List UInt8) : Prop := InlineOKG none L0 op s f
theorem InlineOK.lift {op : Opt} {s : List UInt8} {f : List UInt8 → List UInt8} (h : InlineOK op s f) : InlineOKL [] op s f := fun σ R b pb p L w _ => h σ R b pb p L w
def PS0 (pz : Option Addr) : PS := ⟨pz, none, none, 0, none, 0, 0, 0, false, [], 0, none, 0, 0, none, 0, 0, none, 0, 0, List.replicate 80 (.int .i64 0) ++ [.bool false]⟩
end Go.Proofs.YtihmcipajjakgaaGreatDoor


set_option linter.unusedVariables false
set_option maxRecDepth 20000
namespace Go.Proofs.YtihmcipajjakgaaGreatDoor
open Go.Proofs
namespace g_Parser_Parse
noncomputable def body : Code := bodyOf Tryz.f22
end g_Parser_Parse
def g_Parser_Parse (R : EP) (x0 : OA) (x1 : BA) (w : World) : Prop :=
 callE P i_Parser_parse #[.pointer x0, .string x1] (fun e w2 => ∃ (r1_0 : OA), ∃ (r1_1 : Bool), e = .returned (.tuple #[.pointer r1_0, .bool r1_1]) ∧
 R (.returned (.pointer r1_0)) w2) w

noncomputable def g_Parser_Parse.ac (R : EP) : AC :=
  (.leaf (sel [] g_Parser_Parse.body))
theorem g_Parser_Parse.good (R : EP) : Good P 14 (g_Parser_Parse.ac R) (QF P [.tmp 4] R) :=
  trivial
theorem g_Parser_Parse.eq (R : EP) (x0 : OA) (x1 : BA) (w : World) : g_Parser_Parse R x0 x1 w = vcA P 14 (g_Parser_Parse.ac R) (QF P [.tmp 4] R) (fr0 [.pointer x0, .string x1]) w := by kernel_rfl
theorem g_Parser_Parse.sound {R : EP} {x0 : OA} {x1 : ByteArray} {w : World} (h : g_Parser_Parse R x0 x1 w) : callE P i_Parser_Parse #[.pointer x0, .string x1] R w :=
  callE_fin (c := g_Parser_Parse.body) Tryz.func22 Tryz.call22 (by kernel_rfl) (by kernel_rfl) (by kernel_rfl) (by kernel_rfl) (by kernel_rfl) (g_Parser_Parse.good R) (g_Parser_Parse.eq R x0 x1 w) h
namespace g_impl_HTML
noncomputable def body : Code := bodyOf Tryz.f8
end g_impl_HTML
def g_impl_HTML (R : EP) (x0_0 : Bool) (x0_1 : Bool) (x0_2 : Bool) (x0_3 : Bool) (x0_4 : Bool) (x0_5 : Bool) (x0_6 : Bool) (x0_7 : Bool) (x0_8 : Bool) (x0_9 : Bool) (x1 : BA) (w : World) : Prop :=
 box w #[.bool x0_0, .bool x0_1, .bool x0_2, .bool x0_3, .bool x0_4, .bool x0_5, .bool x0_6, .bool x0_7, .bool x0_8, .bool x0_9] ty_impl_Options fun b1 w2 =>
 ∃ (v3 : Bool), w2.cell? ⟨b1, 0, none⟩ = some (.bool v3) ∧
 ∃ (v4 : Bool), w2.cell? ⟨b1, 1, none⟩ = some (.bool v4) ∧
 ∃ (v5 : Bool), w2.cell? ⟨b1, 2, none⟩ = some (.bool v5) ∧
 ∃ (v6 : Bool), w2.cell? ⟨b1, 3, none⟩ = some (.bool v6) ∧
 ∃ (v7 : Bool), w2.cell? ⟨b1, 4, none⟩ = some (.bool v7) ∧
 ∃ (v8 : Bool), w2.cell? ⟨b1, 5, none⟩ = some (.bool v8) ∧
 ∃ (v9 : Bool), w2.cell? ⟨b1, 6, none⟩ = some (.bool v9) ∧
 ∃ (v10 : Bool), w2.cell? ⟨b1, 7, none⟩ = some (.bool v10) ∧
 ∃ (v11 : Bool), w2.cell? ⟨b1, 8, none⟩ = some (.bool v11) ∧
 ∃ (v12 : Bool), w2.cell? ⟨b1, 9, none⟩ = some (.bool v12) ∧
 callE P i_impl_parser #[.agg #[.bool v3, .bool v4, .bool v5, .bool v6, .bool v7, .bool v8, .bool v9, .bool v10, .bool v11, .bool v12]] (fun e w14 => ∃ (r13 : OA), e = .returned (.pointer r13) ∧
 callE P i_Parser_Parse #[.pointer r13, .string x1] (fun e w16 => ∃ (r15 : OA), e = .returned (.pointer r15) ∧
 callE P i_ToHTML #[.iface ty_P_Document (.pointer r15)] (fun e w18 => ∃ (r17 : BA), e = .returned (.string r17) ∧
 R (.returned (.string r17)) w18) w16) w14) w2

noncomputable def g_impl_HTML.ac (R : EP) : AC :=
  (.leaf (sel [] g_impl_HTML.body))
theorem g_impl_HTML.good (R : EP) : Good P 11 (g_impl_HTML.ac R) (QF P [.tmp 4] R) :=
  trivial
theorem g_impl_HTML.eq (R : EP) (x0_0 : Bool) (x0_1 : Bool) (x0_2 : Bool) (x0_3 : Bool) (x0_4 : Bool) (x0_5 : Bool) (x0_6 : Bool) (x0_7 : Bool) (x0_8 : Bool) (x0_9 : Bool) (x1 : BA) (w : World) : g_impl_HTML R x0_0 x0_1 x0_2 x0_3 x0_4 x0_5 x0_6 x0_7 x0_8 x0_9 x1 w = vcA P 11 (g_impl_HTML.ac R) (QF P [.tmp 4] R) (fr0 [.agg #[.bool x0_0, .bool x0_1, .bool x0_2, .bool x0_3, .bool x0_4, .bool x0_5, .bool x0_6, .bool x0_7, .bool x0_8, .bool x0_9], .string x1]) w := by kernel_rfl
theorem g_impl_HTML.sound {R : EP} {x0_0 : Bool} {x0_1 : Bool} {x0_2 : Bool} {x0_3 : Bool} {x0_4 : Bool} {x0_5 : Bool} {x0_6 : Bool} {x0_7 : Bool} {x0_8 : Bool} {x0_9 : Bool} {x1 : ByteArray} {w : World} (h : g_impl_HTML R x0_0 x0_1 x0_2 x0_3 x0_4 x0_5 x0_6 x0_7 x0_8 x0_9 x1 w) : callE P i_impl_HTML #[.agg #[.bool x0_0, .bool x0_1, .bool x0_2, .bool x0_3, .bool x0_4, .bool x0_5, .bool x0_6, .bool x0_7, .bool x0_8, .bool x0_9], .string x1] R w :=
  callE_fin (c := g_impl_HTML.body) Tryz.func8 Tryz.call8 (by kernel_rfl) (by kernel_rfl) (by kernel_rfl) (by kernel_rfl) (by kernel_rfl) (g_impl_HTML.good R) (g_impl_HTML.eq R x0_0 x0_1 x0_2 x0_3 x0_4 x0_5 x0_6 x0_7 x0_8 x0_9 x1 w) h
namespace g_impl_parser
noncomputable def body : Code := bodyOf Tryz.f21
end g_impl_parser
def g_impl_parser (R : EP) (x0_0 : Bool) (x0_1 : Bool) (x0_2 : Bool) (x0_3 : Bool) (x0_4 : Bool) (x0_5 : Bool) (x0_6 : Bool) (x0_7 : Bool) (x0_8 : Bool) (x0_9 : Bool) (w : World) : Prop :=
 box w #[.bool x0_0, .bool x0_1, .bool x0_2, .bool x0_3, .bool x0_4, .bool x0_5, .bool x0_6, .bool x0_7, .bool x0_8, .bool x0_9] ty_impl_Options fun b1 w2 =>
 ∃ (v3 : Bool), w2.cell? ⟨b1, 8, none⟩ = some (.bool v3) ∧
 ∃ (v4 : Bool), w2.cell? ⟨b1, 0, none⟩ = some (.bool v4) ∧
 ∃ (v5 : Bool), w2.cell? ⟨b1, 1, none⟩ = some (.bool v5) ∧
 ∃ (v6 : Bool), w2.cell? ⟨b1, 2, none⟩ = some (.bool v6) ∧
 ∃ (v7 : Bool), w2.cell? ⟨b1, 3, none⟩ = some (.bool v7) ∧
 ∃ (v8 : Bool), w2.cell? ⟨b1, 4, none⟩ = some (.bool v8) ∧
 ∃ (v9 : Bool), w2.cell? ⟨b1, 9, none⟩ = some (.bool v9) ∧
 ∃ (v10 : Bool), w2.cell? ⟨b1, 5, none⟩ = some (.bool v10) ∧
 ∃ (v11 : Bool), w2.cell? ⟨b1, 6, none⟩ = some (.bool v11) ∧
 ∃ (v12 : Bool), w2.cell? ⟨b1, 7, none⟩ = some (.bool v12) ∧
 box w2 #[.bool v3, .bool v4, .bool v5, .bool v6, .bool v7, .bool v8, .bool v9, .bool v10, .bool v11, .bool v12] ty_Parser fun b13 w14 =>
 R (.returned (.pointer (some ⟨b13, 0, none⟩))) w14

noncomputable def g_impl_parser.ac (R : EP) : AC :=
  (.leaf (sel [] g_impl_parser.body))
theorem g_impl_parser.good (R : EP) : Good P 25 (g_impl_parser.ac R) (QF P [.tmp 2] R) :=
  trivial
theorem g_impl_parser.eq (R : EP) (x0_0 : Bool) (x0_1 : Bool) (x0_2 : Bool) (x0_3 : Bool) (x0_4 : Bool) (x0_5 : Bool) (x0_6 : Bool) (x0_7 : Bool) (x0_8 : Bool) (x0_9 : Bool) (w : World) : g_impl_parser R x0_0 x0_1 x0_2 x0_3 x0_4 x0_5 x0_6 x0_7 x0_8 x0_9 w = vcA P 25 (g_impl_parser.ac R) (QF P [.tmp 2] R) (fr0 [.agg #[.bool x0_0, .bool x0_1, .bool x0_2, .bool x0_3, .bool x0_4, .bool x0_5, .bool x0_6, .bool x0_7, .bool x0_8, .bool x0_9]]) w := by kernel_rfl
theorem g_impl_parser.sound {R : EP} {x0_0 : Bool} {x0_1 : Bool} {x0_2 : Bool} {x0_3 : Bool} {x0_4 : Bool} {x0_5 : Bool} {x0_6 : Bool} {x0_7 : Bool} {x0_8 : Bool} {x0_9 : Bool} {w : World} (h : g_impl_parser R x0_0 x0_1 x0_2 x0_3 x0_4 x0_5 x0_6 x0_7 x0_8 x0_9 w) : callE P i_impl_parser #[.agg #[.bool x0_0, .bool x0_1, .bool x0_2, .bool x0_3, .bool x0_4, .bool x0_5, .bool x0_6, .bool x0_7, .bool x0_8, .bool x0_9]] R w :=
  callE_fin (c := g_impl_parser.body) Tryz.func21 Tryz.call21 (by kernel_rfl) (by kernel_rfl) (by kernel_rfl) (by kernel_rfl) (by kernel_rfl) (g_impl_parser.good R) (g_impl_parser.eq R x0_0 x0_1 x0_2 x0_3 x0_4 x0_5 x0_6 x0_7 x0_8 x0_9 w) h
namespace g_laws_only
noncomputable def body : Code := bodyOf Tryz.f7
def bl1 (R : EP) (Xa : BA → BA → Int → Int → WP) (x0 : BA) (x1 : BA) (x13 : Int) (x14 : Int) (w : World) : Prop :=
 br (decide (x14 < x13))
 (0 ≤ x14 ∧ x14 < (x0.size : Int) ∧
 callE P i_strings_IndexByte #[.string x1, .int .u8 (bt x0 x14)] (fun e w2 => ∃ (r1 : Int), e = .returned (.int .i64 r1) ∧
 br (decide (r1 < 0))
 (R (.returned (.bool false)) w2)
 (Xa x0 x1 x13 (IntKind.i64.wrap (x14 + 1)) w2)) w)
 (R (.returned (.bool true)) w)
def l1 (R : EP) (x0 : BA) (x1 : BA) (x13 : Int) (x14 : Int) (w : World) : Prop :=
  ∀ X : BA → BA → Int → Int → WP, (∀ x0 x1 x13 x14 w, bl1 R X x0 x1 x13 x14 w → X x0 x1 x13 x14 w) → X x0 x1 x13 x14 w

noncomputable def al1 (R : EP) (Xa : BA → BA → Int → Int → WP) : AC :=
  (.leaf (sel [1, 1, 0, 1, 0, 0] body))
end g_laws_only
def g_laws_only (R : EP) (x0 : BA) (x1 : BA) (x2 : Int) (w : World) : Prop :=
 br (decide ((x0.size : Int) > x2))
 (R (.returned (.bool false)) w)
 (g_laws_only.l1 R x0 x1 (x0.size : Int) 0 w)

noncomputable def g_laws_only.ac (R : EP) : AC :=
  (.seq (.leaf (sel [0] g_laws_only.body)) (.seq (.leaf (sel [1, 0] g_laws_only.body)) (.seq (.seq (.leaf (sel [1, 1, 0, 0] g_laws_only.body)) (.block 0 (.loop (leaf [(0, .s .str), (1, .s .str), (13, .s (.int .i64)), (14, .s (.int .i64))] (g_laws_only.l1 R)) (sel [1, 1, 0, 1, 0, 0] g_laws_only.body)))) (.leaf (sel [1, 1, 1] g_laws_only.body)))))
theorem g_laws_only.good (R : EP) : Good P 24 (g_laws_only.ac R) (QF P [.tmp 6] R) :=
  ⟨trivial, ⟨trivial, ⟨⟨trivial, (loopG (g_laws_only.al1 R) (g_laws_only.bl1 R) (fun _ => by kernel_rfl) (fun Xa => trivial) (fun Xa => by intro x0 x1 x13 x14 ρ w; kernel_rfl) (fun X h _ _ _ _ _ g => g X h))⟩, trivial⟩⟩⟩
theorem g_laws_only.eq (R : EP) (x0 : BA) (x1 : BA) (x2 : Int) (w : World) : g_laws_only R x0 x1 x2 w = vcA P 24 (g_laws_only.ac R) (QF P [.tmp 6] R) (fr0 [.string x0, .string x1, .int .i64 x2]) w := by kernel_rfl
theorem g_laws_only.sound {R : EP} {x0 : ByteArray} {x1 : ByteArray} {x2 : Int} {w : World} (h : g_laws_only R x0 x1 x2 w) : callE P i_laws_only #[.string x0, .string x1, .int .i64 x2] R w :=
  callE_fin (c := g_laws_only.body) Tryz.func7 Tryz.call7 (by kernel_rfl) (by kernel_rfl) (by kernel_rfl) (by kernel_rfl) (by kernel_rfl) (g_laws_only.good R) (g_laws_only.eq R x0 x1 x2 w) h
end Go.Proofs.YtihmcipajjakgaaGreatDoor

set_option linter.unusedVariables false
namespace Go.Proofs.YtihmcipajjakgaaGreatDoor
open Go.Proofs Go.IntWalk Go.RowKit
variable {σ : Out} {w : World} {L L' : List Chunk} {R : Ending → World → Prop}
def optV (o : Opt) : Value := .agg #[.bool o.strike, .bool o.task, .bool o.auto, .bool o.http, .bool o.table, .bool o.dot, .bool o.dash, .bool o.quote, .bool o.ids, .bool o.emoji]
theorem parser_ok {o : Opt} (h : Sat σ w L) (hR : ∀ w pb, Sat σ w (o.at pb :: L) → R (.returned (.pointer (some ⟨pb, 0, none⟩))) w) : callE P i_impl_parser #[optV o] R w := by
  refine g_impl_parser.sound ?_
  refine Sat.bx h fun b w h => ?_
  have ld : ∀ (k : Nat) (v : Bool), ([Value.bool o.strike, .bool o.task, .bool o.auto, .bool o.http, .bool o.table, .bool o.dot, .bool o.dash, .bool o.quote, .bool o.ids, .bool o.emoji])[k]? = some (.bool v) → w.cell? ⟨b, k, none⟩ = some (.bool v) := fun k v hv => Sat.ld h (.head _) hv
  refine ⟨_, ld 8 _ rfl, _, ld 0 _ rfl, _, ld 1 _ rfl, _, ld 2 _ rfl, _, ld 3 _ rfl, _, ld 4 _ rfl, _, ld 9 _ rfl, _, ld 5 _ rfl, _, ld 6 _ rfl, _, ld 7 _ rfl, ?_⟩
  refine Sat.bx h fun pb w h => hR w pb ?_
  have h : Sat σ w (o.at pb :: (b, cel [Value.bool o.strike, .bool o.task, .bool o.auto, .bool o.http, .bool o.table, .bool o.dot, .bool o.dash, .bool o.quote, .bool o.ids, .bool o.emoji] ty_impl_Options) :: L) := h
  exact (h.less [(b, cel [Value.bool o.strike, .bool o.task, .bool o.auto, .bool o.http, .bool o.table, .bool o.dot, .bool o.dash, .bool o.quote, .bool o.ids, .bool o.emoji] ty_impl_Options)] (by intro _; simp only [List.append_eq, cnt_append, cnt_cons, cnt_nil] <;> omega))
def ParsesTo (o : Opt) (raw out : List UInt8) : Prop :=
  ∀ (σ : Out) (R : Ending → World → Prop) (L : List Chunk) (w : World) (pb : Nat), Sat σ w L → o.at pb ∈ L →
    (∀ w db k DM DM' f, Prints "PrintHTML" (.iface ty_P_Document (.pointer (some ⟨db, 0, none⟩))) DM DM' f → f [] = out → Sat σ w (DM ++ L) → R (.returned (.tuple #[.pointer (some ⟨db, 0, none⟩), .bool k])) w) →
    callE P i_Parser_parse #[.pointer (some ⟨pb, 0, none⟩), .string (bs raw)] R w
def ParsesToL (L0 : List Chunk) (o : Opt) (raw out : List UInt8) : Prop :=
  ∀ (σ : Out) (R : Ending → World → Prop) (L : List Chunk) (w : World) (pb : Nat), (∀ c ∈ L0, c ∈ L) → Sat σ w L → o.at pb ∈ L →
    (∀ w db k DM DM' f, Prints "PrintHTML" (.iface ty_P_Document (.pointer (some ⟨db, 0, none⟩))) DM DM' f → f [] = out → Sat σ w (DM ++ L) → R (.returned (.tuple #[.pointer (some ⟨db, 0, none⟩), .bool k])) w) →
    callE P i_Parser_parse #[.pointer (some ⟨pb, 0, none⟩), .string (bs raw)] R w
theorem ParsesTo.lift {o : Opt} {raw out : List UInt8} (h : ParsesTo o raw out) : ParsesToL [] o raw out := fun σ R L w pb _ => h σ R L w pb
theorem html_okL {L0 : List Chunk} {o : Opt} {raw out : List UInt8} (hP : ParsesToL L0 o raw out) (hL0 : ∀ c ∈ L0, c ∈ L) (hout : out.length ≤ 549755813888) (h : Sat σ w L) (hR : ∀ w, Sat σ w L → R (.returned (.string (bs out))) w) : callE P i_impl_HTML #[optV o, .string (bs raw)] R w := by
  refine g_impl_HTML.sound ?_
  refine Sat.bx h fun b w h => ?_
  have ld : ∀ (k : Nat) (v : Bool), ([Value.bool o.strike, .bool o.task, .bool o.auto, .bool o.http, .bool o.table, .bool o.dot, .bool o.dash, .bool o.quote, .bool o.ids, .bool o.emoji])[k]? = some (.bool v) → w.cell? ⟨b, k, none⟩ = some (.bool v) := fun k v hv => Sat.ld h (.head _) hv
  refine ⟨_, ld 0 _ rfl, _, ld 1 _ rfl, _, ld 2 _ rfl, _, ld 3 _ rfl, _, ld 4 _ rfl, _, ld 5 _ rfl, _, ld 6 _ rfl, _, ld 7 _ rfl, _, ld 8 _ rfl, _, ld 9 _ rfl, ?_⟩
  refine parser_ok h fun w pb h => ⟨_, rfl, ?_⟩
  refine g_Parser_Parse.sound ?_
  refine hP σ _ _ w pb (fun c hc => .tail _ (.tail _ (hL0 c hc))) h (.head _) fun w db k DM DM' f hf hfo h => ⟨_, _, rfl, _, rfl, ?_⟩
  subst hfo
  refine toHTML_ok hf h hout fun w h => ⟨_, rfl, hR w ?_⟩
  exact h.less (DM' ++ (o.at pb :: [(b, cel [Value.bool o.strike, .bool o.task, .bool o.auto, .bool o.http, .bool o.table, .bool o.dot, .bool o.dash, .bool o.quote, .bool o.ids, .bool o.emoji] ty_impl_Options)])) (by intro _; simp only [List.append_eq, cnt_append, cnt_cons, cnt_nil] <;> omega)
theorem html_ok {o : Opt} {raw out : List UInt8} (hP : ParsesTo o raw out) (hout : out.length ≤ 549755813888) (h : Sat σ w L) (hR : ∀ w, Sat σ w L → R (.returned (.string (bs out))) w) : callE P i_impl_HTML #[optV o, .string (bs raw)] R w :=
  html_okL hP.lift (by simp) hout h hR
theorem bs_of (b : ByteArray) : b = bs b.data.toList := by
  cases b; rfl
def onlyM (s set : List UInt8) (n : Nat) : Bool := decide (s.length ≤ n) && s.all fun c => decide (c ∈ set)
theorem only_ok {s set : List UInt8} {n : Nat} (hs : s.length < 4611686018427387904) (hR : R (.returned (.bool (onlyM s set n))) w) : callE P i_laws_only #[.string (bs s), .string (bs set), .int .i64 n] R w := by
  refine g_laws_only.sound ?_
  by_cases hn : n < s.length
  · refine br_true (by simp; omega) ?_
    have : onlyM s set n = false := by unfold onlyM; rw [decide_eq_false (by omega)]; rfl
    rw [← this]; exact hR
  refine br_false (by simp; omega) ?_
  intro X hX
  rw [bs_size]
  have hall : onlyM s set n = s.all fun c => decide (c ∈ set) := by unfold onlyM; rw [decide_eq_true (by omega)]; rfl
  rw [hall] at hR
  have key : ∀ k i, i + k = s.length → (s.all fun c => decide (c ∈ set)) = ((s.drop i).all fun c => decide (c ∈ set)) → X (bs s) (bs set) (s.length : Nat) (i : Int) w := by
    intro k
    induction k with
    | zero =>
      intro i hi ha
      refine hX _ _ _ _ _ (br_false (by simp; omega) ?_)
      rw [List.drop_eq_nil_of_le (by omega)] at ha
      rw [ha] at hR; exact hR
    | succ k ih =>
      intro i hi ha
      have hil : i < s.length := by omega
      rw [List.drop_eq_getElem_cons hil, List.all_cons] at ha
      refine hX _ _ _ _ _ (br_true (by simp; omega) ⟨by omega, by simp; omega, ?_⟩)
      rw [bt_at hil]
      refine indexByte2_ok ⟨_, rfl, ?_⟩
      by_cases hm : s[i] ∈ set
      · refine br_false (by simpa using idxB_nonneg.2 hm) ?_
        rw [i64_inc (by omega)]
        refine ih (i + 1) (by omega) ?_
        rw [ha]; simp [hm]
      · have := mt idxB_nonneg.1 hm
        refine br_true (by simpa using this) ?_
        rw [ha] at hR
        simpa [hm] using hR
  exact key s.length 0 (by omega) (by rw [List.drop_zero])
end Go.Proofs.YtihmcipajjakgaaGreatDoor


set_option linter.unusedVariables false
namespace Go.Proofs.YtihmcipajjakgaaGreatDoor
open Go.Proofs Go.IntWalk Go.RowKit
variable {σ : Out} {w : World} {L L' : List Chunk} {R : Ending → World → Prop}
structure TF where
  q : Option Addr
  n : Nat
  c : Nat
  vs : List Value
  RM : List Chunk
  KM : List Chunk
  KM' : List Chunk
  f : List UInt8 → List UInt8
def TF.ok (t : TF) : Prop := Sl 1 ty_Inline t.q t.n t.c t.vs t.RM ∧ t.n < 1073741824 ∧ PrintsL "PrintHTML" t.vs t.KM t.KM' t.f
def fill (x : TX) (t : TF) : List Chunk := textC x.t x.s x.e t.q t.n t.c x.raw :: (t.RM ++ t.KM)
def fill' (x : TX) (t : TF) : List Chunk := textC x.t x.s x.e t.q t.n t.c x.raw :: (t.RM ++ t.KM')
def fills : List TX → List TF → List Chunk
  | x :: xs, t :: ts => fill x t ++ fills xs ts
  | _, _ => []
def fills' : List TX → List TF → List Chunk
  | x :: xs, t :: ts => fill' x t ++ fills' xs ts
  | _, _ => []
inductive Filled (F : List UInt8 → List UInt8 → List UInt8) : List TX → List TF → Prop where
  | nil : Filled F [] []
  | cons {x : TX} {t : TF} {xs : List TX} {ts : List TF} : t.ok → t.f = F x.raw → Filled F xs ts → Filled F (x :: xs) (t :: ts)
theorem Filled.split {F : List UInt8 → List UInt8 → List UInt8} : ∀ {xs ys : List TX} {ts : List TF}, Filled F (xs ++ ys) ts → ∃ ts1 ts2, ts = ts1 ++ ts2 ∧ Filled F xs ts1 ∧ Filled F ys ts2
  | [], ys, ts, h => ⟨[], ts, rfl, .nil, h⟩
  | x :: xs, ys, ts, h => by
    cases h with
    | cons h1 h2 h3 =>
      obtain ⟨ts1, ts2, rfl, h4, h5⟩ := h3.split
      exact ⟨_ :: ts1, ts2, rfl, .cons h1 h2 h4, h5⟩
theorem Filled.append {F : List UInt8 → List UInt8 → List UInt8} {xs ys : List TX} {ts us : List TF} (h1 : Filled F xs ts) (h2 : Filled F ys us) : Filled F (xs ++ ys) (ts ++ us) := by
  induction h1 with
  | nil => exact h2
  | cons a b _ ih => exact .cons a b ih
theorem fills_append {F : List UInt8 → List UInt8 → List UInt8} : ∀ {xs ys : List TX} {ts us : List TF}, Filled F xs ts → fills (xs ++ ys) (ts ++ us) = fills xs ts ++ fills ys us
  | _, _, _, _, .nil => rfl
  | _, _, _, _, .cons h1 h2 h3 => by simp only [List.cons_append, fills, List.append_assoc]; rw [fills_append h3]
def DB.shows (F : List UInt8 → List UInt8 → List UInt8) (d : DB) (g : List UInt8 → List UInt8) : Prop :=
  ∀ ts, Filled F d.txs ts → Prints "PrintHTML" d.v (d.own ++ fills d.txs ts) (d.own ++ fills' d.txs ts) g
inductive Show (F : List UInt8 → List UInt8 → List UInt8) : List DB → List (List UInt8 → List UInt8) → Prop where
  | nil : Show F [] []
  | cons {d : DB} {g : List UInt8 → List UInt8} {D : List DB} {gs : List (List UInt8 → List UInt8)} : d.shows F g → Show F D gs → Show F (d :: D) (g :: gs)
theorem Show.append {F : List UInt8 → List UInt8 → List UInt8} {D E : List DB} {gs hs : List (List UInt8 → List UInt8)} (h1 : Show F D gs) (h2 : Show F E hs) : Show F (D ++ E) (gs ++ hs) := by
  induction h1 with
  | nil => exact h2
  | cons h _ ih => exact .cons h ih
def compL : List (List UInt8 → List UInt8) → List UInt8 → List UInt8
  | [], l => l
  | g :: gs, l => compL gs (g l)
theorem docs_print {F : List UInt8 → List UInt8 → List UInt8} {D : List DB} {gs : List (List UInt8 → List UInt8)} (h : Show F D gs) : ∀ ts, Filled F (txsC D) ts →
    ∃ KM KM', PrintsL "PrintHTML" (D.map DB.v) KM KM' (compL gs) ∧ (∀ a, cnt a (ownC D ++ fills (txsC D) ts) = cnt a KM) := by
  induction h with
  | nil => intro ts ht; cases ht; exact ⟨[], [], .nil, fun a => rfl⟩
  | @cons d g D gs h1 h2 ih =>
    intro ts ht
    have e : txsC (d :: D) = d.txs ++ txsC D := by simp [txsC]
    rw [e] at ht ⊢
    obtain ⟨ts1, ts2, rfl, h3, h4⟩ := ht.split
    obtain ⟨KM, KM', h5, h6⟩ := ih ts2 h4
    refine ⟨_, _, .cons (h1 ts1 h3) h5, fun a => ?_⟩
    have := h6 a
    rw [fills_append h3, show ownC (d :: D) = d.own ++ ownC D by simp [ownC]]
    simp only [cnt_append] at this ⊢
    omega
theorem paraDB_shows {F : List UInt8 → List UInt8 → List UInt8} {nb t s e : Nat} {raw : List UInt8} : (paraDB nb t s e raw).shows F (fun l => F raw (l ++ pOpen) ++ pClose) := by
  intro ts ht
  cases ht with
  | cons h1 h2 h3 =>
    cases h3
    rw [← h2]
    have := para_prints (nb := nb) (t := t) (s := s) (e := e) (s' := s) (e' := e) (raw := raw) h1.1 (by have := h1.2.1; omega) h1.2.2
    simpa [paraDB, fills, fills', fill, fill'] using this
theorem texts_ok {b pb : Nat} {op : Opt} {F : List UInt8 → List UInt8 → List UInt8} {p : PS} {xs : List TX} {TM L0 : List Chunk} {lk : Option Nat} (h : Sat σ w (p.at b :: (TM ++ (xs.map TX.chunk ++ L)))) (ht : Txts p (xs.map TX.t) TM) (hpz : p.pz = some ⟨pb, 0, none⟩) (ho : op.at pb ∈ L) (hlk : p.links = lk) (hL0 : ∀ c ∈ L0, c ∈ L)
    (hLL : p.Lq = none ∧ p.Ln = 0 ∧ p.Lc = 0) (hI : ∀ x ∈ xs, InlineOKG lk L0 op x.raw (F x.raw))
    (hR : ∀ w (p' : PS) ts, p'.coreS = p.coreS → Filled F xs ts → Sat σ w (p'.at b :: (TM ++ (fills xs ts ++ L))) → g_Parser_parse.k4 R b w) :
    g_Parser_parse.l2 R (some ⟨pb, 0, none⟩) b p.tq p.tn p.tc (p.tn : Nat) 0 w := by
  have hn : p.tn = xs.length := by rw [ht.2.1, List.length_map]
  have hx : xs.length < 1048576 := by have := ht.2.2; rwa [List.length_map] at this
  intro Y hY
  have h00 := h
  clear h
  have key : ∀ (xs2 xs1 : List TX) ts1 w (p1 : PS), xs1 ++ xs2 = xs → p1.coreS = p.coreS → Filled F xs1 ts1 → Sat σ w (p1.at b :: (TM ++ (fills xs1 ts1 ++ (xs2.map TX.chunk ++ L)))) → Y (some ⟨pb, 0, none⟩) b p.tq p.tn p.tc (p.tn : Nat) (xs1.length : Nat) w := by
    intro xs2
    induction xs2 with
    | nil =>
      intro xs1 ts1 w p1 hxs hp1 hf h
      rw [List.append_nil] at hxs
      subst hxs
      have e1 : p1.Lq = none := by have := congrArg PS.Lq hp1; rw [show p1.Lq = p.Lq from this]; exact hLL.1
      have e2 : p1.Ln = 0 := by have := congrArg PS.Ln hp1; rw [show p1.Ln = p.Ln from this]; exact hLL.2.1
      have e3 : p1.Lc = 0 := by have := congrArg PS.Lc hp1; rw [show p1.Lc = p.Lc from this]; exact hLL.2.2
      have h : Sat σ w (p1.at b :: (TM ++ (fills xs1 ts1 ++ L))) := h
      have hm : op.at pb ∈ p1.at b :: (TM ++ (fills xs1 ts1 ++ L)) := by simp [ho]
      have fin : g_Parser_parse.k4 R b w := hR w p1 ts1 hp1 hf h
      refine hY _ _ _ _ _ _ _ _ (br_false (by simp; omega) (nilP_some ?_))
      simp only [Addr.add_lit, Nat.zero_add]
      refine ⟨op.task, Sat.ld h hm rfl, br_split (fun _ => ?_) (fun _ => fin)⟩
      refine ⟨_, _, _, Sat.ld h (.head _) (i := 10) rfl, ?_⟩
      rw [e1, e2, e3]
      intro Z hZ
      exact hZ _ _ _ _ _ _ _ (br_false rfl fin)
    | cons x xs2 ih =>
      intro xs1 ts1 w p1 hxs hp1 hf h
      have hlt : xs1.length < xs.length := by rw [← hxs]; simp
      obtain ⟨rb, sp, htq, rfl⟩ := ht.1.rowAt (by omega)
      refine hY _ _ _ _ _ _ _ _ (br_true (by simp; omega) ⟨by omega, by omega, ?_⟩)
      rw [htq]
      refine nilP_some ?_
      simp only [Addr.add_lit, Nat.zero_add, Int.toNat_natCast, Nat.mul_one]
      have hget : ((xs.map TX.t).map (fun t => Value.pointer (some ⟨t, 0, none⟩)) ++ sp)[xs1.length]? = some (.pointer (some ⟨x.t, 0, none⟩)) := by
        rw [List.getElem?_append_left (by simp; omega), ← hxs]; simp
      refine ⟨_, Sat.ld h (.tail _ (.head _)) hget, nilP_some ?_⟩
      simp only [Addr.add_lit, Nat.zero_add]
      have h : Sat σ w (p1.at b :: (x.chunk :: ([(rb, cel ((xs.map TX.t).map (fun t => Value.pointer (some ⟨t, 0, none⟩)) ++ sp) ty_P_Text)] ++ (fills xs1 ts1 ++ (xs2.map TX.chunk ++ L))))) := by
        rw [List.map_cons] at h
        exact h.re (by intro _; simp only [List.append_eq, cnt_append, cnt_cons, cnt_nil] <;> omega)
      refine ⟨_, Sat.ld h (.tail _ (.head _)) (i := 3) rfl, ?_⟩
      have hc : p1.pz = some ⟨pb, 0, none⟩ := by have := congrArg PS.pz hp1; rw [show p1.pz = p.pz from this]; exact hpz
      have hk : p1.links = lk := by have := congrArg PS.links hp1; rw [show p1.links = p.links from this]; exact hlk
      refine hI x (by rw [← hxs]; simp) σ _ b pb p1 _ w (fun c hc => by simp [hL0 c hc]) h hc (by simp [ho]) hk fun w p2 q n c vs RM KM KM' hp2 hS hn2 hP h => ⟨_, _, _, rfl, nilP_some ?_⟩
      have h : Sat σ w (textC x.t x.s x.e none 0 0 x.raw :: (p2.at b :: (RM ++ (KM ++ ([(rb, cel ((xs.map TX.t).map (fun t => Value.pointer (some ⟨t, 0, none⟩)) ++ sp) ty_P_Text)] ++ (fills xs1 ts1 ++ (xs2.map TX.chunk ++ L))))))) := by
        have h : Sat σ w (p2.at b :: (RM ++ (KM ++ (textC x.t x.s x.e none 0 0 x.raw :: ([(rb, cel ((xs.map TX.t).map (fun t => Value.pointer (some ⟨t, 0, none⟩)) ++ sp) ty_P_Text)] ++ (fills xs1 ts1 ++ (xs2.map TX.chunk ++ L))))))) := h
        exact h.re (by intro _; simp only [List.append_eq, cnt_append, cnt_cons, cnt_nil] <;> omega)
      refine Sat.st h (k := 0) rfl (Nat.le_of_ble_eq_true rfl) trivial (by first | (dsimp only [List.set]; exact rfl) | exact rfl) fun w h => ?_
      have h : Sat σ w (textC x.t x.s x.e q n c x.raw :: (p2.at b :: (RM ++ (KM ++ ([(rb, cel ((xs.map TX.t).map (fun t => Value.pointer (some ⟨t, 0, none⟩)) ++ sp) ty_P_Text)] ++ (fills xs1 ts1 ++ (xs2.map TX.chunk ++ L))))))) := h
      rw [i64_inc (by omega)]
      have hf2 : Filled F (xs1 ++ [x]) (ts1 ++ [⟨q, n, c, vs, RM, KM, KM', F x.raw⟩]) := hf.append (.cons ⟨hS, hn2, hP⟩ rfl .nil)
      have := ih (xs1 ++ [x]) _ w p2 (by rw [← hxs]; simp) (hp2.trans hp1) hf2 ?_
      · rw [List.length_append, List.length_singleton, htq] at this; exact this
      · rw [fills_append hf]
        show Sat σ w (p2.at b :: ([(rb, cel ((xs.map TX.t).map (fun t => Value.pointer (some ⟨t, 0, none⟩)) ++ sp) ty_P_Text)] ++ ((fills xs1 ts1 ++ ((textC x.t x.s x.e q n c x.raw :: (RM ++ KM)) ++ [])) ++ (xs2.map TX.chunk ++ L))))
        exact h.re (by intro _; simp only [List.append_eq, cnt_append, cnt_cons, cnt_nil] <;> omega)
  exact key xs [] [] w p rfl rfl .nil h00
theorem finishDoc_ok {b rb : Nat} {p : PS} {D : List DB} {lf : Leaf} (h : DocS σ b rb L D lf p w) (hf : lf.fin) (hD : D.length < 100000) (hX : (txsC D).length < 100000)
    (hR : ∀ w (p' : PS) D' db IM TM q n c s e, p'.base = { p.base with root := some ⟨db, 0, none⟩ } → LeafClosed lf D D' → Txts p' ((txsC D').map TX.t) TM → Sl 1 ty_Block q n c (D'.map DB.v) IM → n < 1000000 →
      Sat σ w (p'.at b :: (TM ++ ((txsC D').map TX.chunk ++ (docC db s e q n c p.links :: (IM ++ (ownC D' ++ L)))))) → R (.returned (.tuple #[])) w) :
    callE P i_parseState_trimStack #[.pointer (some ⟨b, 0, none⟩), .int .i64 0] R w := by
  refine g_parseState_trimStack.sound ?_
  have root : ∀ {X : OA → Int → WP} {w} {p1 : PS} {D'}, (∀ x0 x1 w, g_parseState_trimStack.bl1 R X x0 x1 w → X x0 x1 w) → p1.base = p.base → LeafClosed lf D D' → DocS σ b rb L D' .none p1 w → X (some ⟨b, 0, none⟩) 0 w := by
    intro X w p1 D' hX' hb hcl h
    obtain ⟨r, obs, M, TM, IM, LM, hr, hs, ht, hI, ⟨rfl, rfl⟩, h⟩ := h
    have hn : p1.stn = 1 := hs.2.1
    have hlk : p1.links = p.links := by have := congrArg PS.links hb; exact this
    refine hX' _ _ _ (nilP_some ?_)
    refine ⟨_, _, _, Sat.ld h (by first | assumption | (repeat (first | exact .head _ | apply List.Mem.tail))) (by exact rfl), ?_⟩
    rw [hn]
    refine br_true rfl ?_
    refine closeRoot_ok h hs hr fun w db h => ⟨_, rfl, hX' _ _ _ (nilP_some ?_)⟩
    refine ⟨_, _, _, Sat.ld h (by first | assumption | (repeat (first | exact .head _ | apply List.Mem.tail))) (by exact rfl), ?_⟩
    refine br_false rfl ?_
    have hIl := hI.1
    simp only [List.length_map, Nat.mul_one] at hIl
    have hDl : D'.length < 1000000 := by
      cases lf with
      | other A => exact hf.elim
      | none => rw [show D' = D from hcl]; omega
      | para ls => obtain ⟨nb, t, s, e, rfl⟩ := hcl; simp; omega
    refine hR w { p1 with stn := 0, root := some ⟨db, 0, none⟩ } D' db IM TM r.q r.n r.c r.s r.e ?_ hcl (ht.of rfl rfl rfl) hI (by omega) ?_
    · have e : ({ p1 with stn := 0, root := some ⟨db, 0, none⟩ } : PS).base = { p1.base with root := some ⟨db, 0, none⟩ } := rfl
      rw [e, hb]
    · rw [← hlk]
      have h : Sat σ w (({ p1 with stn := 0, root := some ⟨db, 0, none⟩ } : PS).at b :: M ++ (docC db r.s r.e r.q r.n r.c p1.links :: (IM ++ (TM ++ ([] ++ (ownC D' ++ ((txsC D').map TX.chunk ++ L))))))) := h
      exact h.less M (by intro _; simp only [List.append_eq, cnt_append, cnt_cons, cnt_nil] <;> omega)
  have h0 := h
  obtain ⟨r, obs, M, TM, IM, LM, hr, hs, ht, hI, hL, h⟩ := h
  refine nilP_some ?_
  refine ⟨_, _, _, Sat.ld h (by first | assumption | (repeat (first | exact .head _ | apply List.Mem.tail))) (by exact rfl), ?_⟩
  refine br_false (by simp) ?_
  intro X hX'
  cases lf with
  | other A => exact hf.elim
  | none => exact root hX' rfl rfl h0
  | para ls =>
    obtain ⟨qb, s, e, rfl, hp, hs1, hne, hln⟩ := hL
    have hn : p.stn = 2 := hs.2.1
    refine hX' _ _ _ (nilP_some ?_)
    refine ⟨_, _, _, Sat.ld h (by first | assumption | (repeat (first | exact .head _ | apply List.Mem.tail))) (by exact rfl), ?_⟩
    rw [hn]
    refine br_true rfl ?_
    exact closeLeaf_ok h0 hf.toN hD hX fun w p' D' x h1 h2 h3 h4 h5 h => ⟨_, rfl, root hX' h1 h5 h⟩
end Go.Proofs.YtihmcipajjakgaaGreatDoor


set_option linter.unusedVariables false
namespace Go.Proofs.YtihmcipajjakgaaGreatDoor
open Go.Proofs Go.IntWalk Go.RowKit
variable {σ : Out} {w : World} {L L' : List Chunk} {R : Ending → World → Prop}
def htmLeaf (en : List UInt8) (ls : List (List UInt8)) : Leaf := .other fun ob M => ∃ hb s e, ob = [htmOB hb s e] ∧ HtmAt hb en ls M
def htmlDB (nb s e : Nat) (q : Option Addr) (n c : Nat) (SM : List Chunk) : DB := ⟨.iface ty_P_HTMLBlock (.pointer (some ⟨nb, 0, none⟩)), hblC nb s e q n c :: SM, []⟩
def HtmDone (ls : List (List UInt8)) (d : DB) : Prop := ∃ nb s e q c SM, Sl 1 ty_string q ls.length c (sv ls) SM ∧ d = htmlDB nb s e q ls.length c SM
theorem HtmDone.txs {ls : List (List UInt8)} {d : DB} (h : HtmDone ls d) : d.txs = [] := by
  obtain ⟨nb, s, e, q, c, SM, _, rfl⟩ := h; rfl
theorem HtmDone.shows {F : List UInt8 → List UInt8 → List UInt8} {ls : List (List UInt8)} {d : DB} (h : HtmDone ls d) (hn : ls.length < 1048576) (hl : ∀ l ∈ ls, l.length < 4294967296) : d.shows F (ab (rawOut ls)) := by
  obtain ⟨nb, s, e, q, c, SM, hS, rfl⟩ := h
  intro ts ht
  cases ht
  have := html_prints (nb := nb) (s := s) (e := e) hS hn hl
  simpa [htmlDB, fills, fills'] using this
theorem htmB_ok {s en : List UInt8} (hB : HtmB s en) : (lnOf s 10).ok ∧ (lnOf s 10).blank = false ∧ (lnOf s 10).quote = none ∧ (lnOf s 10).heading = none ∧ (lnOf s 10).isHR = false ∧ isBullet ((lnOf s 10).strip 3 0).2.peek = false ∧
    ((lnOf s 10).lead 3 false).peek = 60 ∧ ((lnOf s 10).lead 3 false).str = s ∧ (lnOf s 10).str = s := by
  cases hB <;> exact ⟨lnOf_ok (by decide), by decide, by decide, by decide, by decide, by decide, by decide, by decide, by decide⟩
theorem addLine_htm0 {b rb : Nat} {p : PS} {D : List DB} {s en : List UInt8} (h : DocS σ b rb L D .none p w) (hB : HtmB s en)
    (hR : ∀ w p', p'.base = p.base → p'.lineno = p.lineno → DocS σ b rb L D (htmLeaf en [s]) p' w → R (.returned (.tuple #[])) w) :
    callE P i_parseState_addLine #[.pointer (some ⟨b, 0, none⟩), (lnOf s 10).val] R w := by
  obtain ⟨r, obs, M, TM, IM, LM, hr, hs, ht, hI, ⟨rfl, rfl⟩, h⟩ := h
  obtain ⟨hl, hbl, hqu, hhd, hhr, hbu, hp, hst, hstr⟩ := htmB_ok hB
  generalize lnOf s 10 = l at hl hbl hqu hhd hhr hbu hp hst hstr ⊢
  refine g_parseState_addLine.sound ?_
  refine Sat.bx h fun b1 w h => ?_
  repeat (first | refine nilP_some ?_ | refine Sat.tk h fun w h => ?_ | refine ⟨_, Sat.ld h (by first | assumption | (repeat (first | exact .head _ | apply List.Mem.tail))) (by exact rfl), ?_⟩ | refine ⟨_, _, _, Sat.ld h (by first | assumption | (repeat (first | exact .head _ | apply List.Mem.tail))) (by exact rfl), ?_⟩ | refine Sat.st h (k := 0) rfl (Nat.le_of_ble_eq_true rfl) trivial (by first | (dsimp only [List.set]; exact rfl) | exact rfl) fun w h => ?_ | refine Sat.st h (k := 1) rfl (Nat.le_of_ble_eq_true rfl) trivial (by first | (dsimp only [List.set]; exact rfl) | exact rfl) fun w h => ?_ | refine Sat.st h (k := 2) rfl (Nat.le_of_ble_eq_true rfl) trivial (by first | (dsimp only [List.set]; exact rfl) | exact rfl) fun w h => ?_ | refine Sat.st h (k := 3) rfl (Nat.le_of_ble_eq_true rfl) trivial (by first | (dsimp only [List.set]; exact rfl) | exact rfl) fun w h => ?_ | refine Sat.st h (k := 4) rfl (Nat.le_of_ble_eq_true rfl) trivial (by first | (dsimp only [List.set]; exact rfl) | exact rfl) fun w h => ?_ | refine Sat.st h (k := 5) rfl (Nat.le_of_ble_eq_true rfl) trivial (by first | (dsimp only [List.set]; exact rfl) | exact rfl) fun w h => ?_ | refine Sat.st h (k := 6) rfl (Nat.le_of_ble_eq_true rfl) trivial (by first | (dsimp only [List.set]; exact rfl) | exact rfl) fun w h => ?_ | refine Sat.bx h fun b0 w h => ?_)
  let p1 : PS := { p with depth := 0 }
  have hs1 : Stk p1 ([] ++ [r]) M := hs
  have h : Sat σ _ (l.at b1 :: p1.at b :: (M ++ (IM ++ (TM ++ ([] ++ (ownC D ++ ((txsC D).map TX.chunk ++ L))))))) := h
  intro X hX
  refine hX _ _ _ ?_
  repeat (first | refine nilP_some ?_ | refine Sat.tk h fun w h => ?_ | refine ⟨_, Sat.ld h (by first | assumption | (repeat (first | exact .head _ | apply List.Mem.tail))) (by exact rfl), ?_⟩ | refine ⟨_, _, _, Sat.ld h (by first | assumption | (repeat (first | exact .head _ | apply List.Mem.tail))) (by exact rfl), ?_⟩)
  have hn : p1.stn = 1 := hs.2.1
  rw [hn]
  refine br_false rfl ?_
  refine isBlank_ok h (by first | assumption | (repeat (first | exact .head _ | apply List.Mem.tail))) hl fun w h => ⟨_, rfl, ?_⟩
  rw [hbl]
  refine br_false rfl ?_
  have h : Sat σ w (p1.at b :: M ++ (l.at b1 :: (IM ++ (TM ++ ([] ++ (ownC D ++ ((txsC D).map TX.chunk ++ L))))))) := h.re (by intro _; simp only [List.append_eq, cnt_append, cnt_cons, cnt_nil] <;> omega)
  refine bl102_take 5 (by decide) h ?_ fun w nb e R' h hk => ?_
  · intro j hj h5 σ w L R h hR
    match j, h5 with
    | 0, _ => exact newQuote_no (x := .nilIface) h hl hqu hR
    | 1, _ => exact newATX_no h hl hhd hR
    | 2, _ => exact newSetext_no h hs1 rfl rfl hr (by decide) hl hR
    | 3, _ => exact newHR_no h hl hhr hR
    | 4, _ => exact LDecl.of_peek hl hbu b 0 p1 [r] r M _ _ hs1 rfl rfl hr (by decide) σ w L R h hR
  · refine newHTML_yes h hs1 (by rfl) (by simp) hl hp hst hB fun w p' M' hb HM hp' hH hs' h => ?_
    rw [hstr] at hH
    have h : Sat σ w (l.at b1 :: (p'.at b :: M' ++ (HM ++ ((nb, cel newsC e) :: (IM ++ (TM ++ ([] ++ (ownC D ++ ((txsC D).map TX.chunk ++ L))))))))) := h.re (by intro _; simp only [List.append_eq, cnt_append, cnt_cons, cnt_nil] <;> omega)
    refine hk w _ h fun w h => ?_
    refine hR w p' (by rw [hp']; rfl) (by rw [hp']) ⟨r, [htmOB hb p1.lineno p1.lineno], M', TM, IM, HM, hr, hs', ht.of (by rw [hp']) (by rw [hp']) (by rw [hp']), hI, ⟨hb, _, _, rfl, hH⟩, ?_⟩
    exact h.less [(nb, cel newsC e)] (by intro _; simp only [List.append_eq, cnt_append, cnt_cons, cnt_nil] <;> omega)
theorem addLine_htm1 {b rb : Nat} {p : PS} {D : List DB} {en : List UInt8} {ls : List (List UInt8)} {l : Ln} (h : DocS σ b rb L D (htmLeaf en ls) p w) (hl : l.ok) (hls : ls.length < 1048576) (ht : l.str.length < 4611686018427387904) (hen : en.length < 4611686018427387904) (hno : idx l.str en = none)
    (hR : ∀ w p', p'.base = p.base → p'.lineno = p.lineno → DocS σ b rb L D (htmLeaf en (ls ++ [l.str])) p' w → R (.returned (.tuple #[])) w) :
    callE P i_parseState_addLine #[.pointer (some ⟨b, 0, none⟩), l.val] R w := by
  obtain ⟨r, obs, M, TM, IM, LM, hr, hs, htx, hI, ⟨hb, s, e, rfl, hH⟩, h⟩ := h
  have h : Sat σ w (p.at b :: M ++ (LM ++ (IM ++ (TM ++ (ownC D ++ ((txsC D).map TX.chunk ++ L)))))) := h.re (by intro _; simp only [List.append_eq, cnt_append, cnt_cons, cnt_nil] <;> omega)
  refine addLine_htm h hs hH hl hls ht hen (fun _ w p' M' HM' e' hp' hs' hH' h => ?_) (fun hx => by rw [hno] at hx; exact absurd hx (by decide))
  refine hR w p' (by rw [hp']; rfl) (by rw [hp']) ⟨r, _, M', TM, IM, HM', hr, hs', htx.of (by rw [hp']) (by rw [hp']) (by rw [hp']), hI, ⟨hb, s, e', rfl, hH'⟩, ?_⟩
  exact h.re (by intro _; simp only [List.append_eq, cnt_append, cnt_cons, cnt_nil] <;> omega)
theorem addLine_htm2 {b rb : Nat} {p : PS} {D : List DB} {en : List UInt8} {ls : List (List UInt8)} {l : Ln} (h : DocS σ b rb L D (htmLeaf en ls) p w) (hl : l.ok) (hls : ls.length < 1048576) (ht : l.str.length < 4611686018427387904) (hen : en.length < 4611686018427387904) (hyes : (idx l.str en).isSome = true) (hD : D.length < 100000)
    (hR : ∀ w p' d, p'.base = p.base → p'.lineno = p.lineno → HtmDone (ls ++ [l.str]) d → DocS σ b rb L (D ++ [d]) .none p' w → R (.returned (.tuple #[])) w) :
    callE P i_parseState_addLine #[.pointer (some ⟨b, 0, none⟩), l.val] R w := by
  obtain ⟨r, obs, M, TM, IM, LM, hr, hs, htx, hI, ⟨hb, s, e, rfl, hH⟩, h⟩ := h
  have h : Sat σ w (p.at b :: M ++ (LM ++ (IM ++ (TM ++ (ownC D ++ ((txsC D).map TX.chunk ++ L)))))) := h.re (by intro _; simp only [List.append_eq, cnt_append, cnt_cons, cnt_nil] <;> omega)
  refine addLine_htm h hs hH hl hls ht hen (fun hx => by rw [hyes] at hx; exact absurd hx (by decide)) fun _ w p' M' HM' e' b1 b2 hp' hs' hH' h => ?_
  have hn : p'.stn = 2 := hs'.2.1
  have hIl := hI.1
  simp only [List.length_map, Nat.mul_one] at hIl
  refine g_parseState_trimStack.sound ?_
  refine nilP_some ?_
  refine ⟨_, _, _, Sat.ld h (by first | assumption | (repeat (first | exact .head _ | apply List.Mem.tail))) (by exact rfl), ?_⟩
  rw [hn]
  refine br_false rfl ?_
  intro X hX
  refine hX _ _ _ (nilP_some ?_)
  refine ⟨_, _, _, Sat.ld h (by first | assumption | (repeat (first | exact .head _ | apply List.Mem.tail))) (by exact rfl), ?_⟩
  rw [hn]
  refine br_true rfl ?_
  have h : Sat σ w (p'.at b :: M' ++ (IM ++ (HM' ++ (l.at b2 :: Ln.zero.at b1 :: (TM ++ (ownC D ++ ((txsC D).map TX.chunk ++ L))))))) := h.re (by intro _; simp only [List.append_eq, cnt_append, cnt_cons, cnt_nil] <;> omega)
  refine closeHtm_ok (ob := []) (par := r) h hs' hI (by omega) hH' fun w p2 M2 IM2 nb q c SM q' c' x hp2 hs2 hS hI2 h => ⟨_, rfl, ?_⟩
  refine hX _ _ _ (nilP_some ?_)
  refine ⟨_, _, _, Sat.ld h (by first | assumption | (repeat (first | exact .head _ | apply List.Mem.tail))) (by exact rfl), ?_⟩
  rw [show p2.stn = 1 by rw [hp2]; rfl]
  refine br_false rfl ⟨rfl, ?_⟩
  refine hR w p2 (htmlDB nb s e' q (ls ++ [l.str]).length c SM) (by rw [hp2, hp']; rfl) (by rw [hp2, hp']) ⟨nb, s, e', q, c, SM, hS, rfl⟩ ?_
  refine ⟨{ r with q := q', n := r.n + 1, c := c' }, [], M2, TM, IM2, [], hr, hs2, ?_, ?_, ⟨rfl, rfl⟩, ?_⟩
  · rw [txsC_snoc, List.map_append]
    show Txts p2 ((txsC D).map TX.t ++ []) TM
    rw [List.append_nil]
    exact htx.of (by rw [hp2, hp']) (by rw [hp2, hp']) (by rw [hp2, hp'])
  · rw [List.map_append]; exact hI2
  · rw [ownC_snoc, txsC_snoc, List.map_append]
    show Sat σ w (p2.at b :: M2 ++ (IM2 ++ (TM ++ ([] ++ ((ownC D ++ (hblC nb s e' q (ls ++ [l.str]).length c :: SM)) ++ (((txsC D).map TX.chunk ++ []) ++ L))))))
    exact h.less [l.at b2, Ln.zero.at b1] (by intro _; simp only [List.append_eq, cnt_append, cnt_cons, cnt_nil] <;> omega)
end Go.Proofs.YtihmcipajjakgaaGreatDoor


set_option linter.unusedVariables false
namespace Go.Proofs.YtihmcipajjakgaaGreatDoor
open Go.Proofs Go.IntWalk Go.RowKit
variable {σ : Out} {w : World} {L L' : List Chunk} {R : Ending → World → Prop}
def noNL (l : List UInt8) : Prop := 10 ∉ l ∧ 13 ∉ l
inductive LinesOf : List UInt8 → List (List UInt8 × UInt8) → Prop where
  | nil : LinesOf [] []
  | last {l : List UInt8} : l ≠ [] → noNL l → LinesOf l [(l, 0)]
  | cons {l t : List UInt8} {ls : List (List UInt8 × UInt8)} : noNL l → LinesOf t ls → LinesOf (l ++ 10 :: t) ((l, 10) :: ls)
theorem LinesOf.no13 {t : List UInt8} {ls : List (List UInt8 × UInt8)} (h : LinesOf t ls) : 13 ∉ t := by
  induction h with
  | nil => simp
  | last h1 h2 => exact h2.2
  | cons h1 h2 ih =>
    simp only [List.mem_append, List.mem_cons, not_or]
    exact ⟨h1.2, by decide, ih⟩
theorem LinesOf.len {t : List UInt8} {ls : List (List UInt8 × UInt8)} (h : LinesOf t ls) : ls.length ≤ t.length := by
  induction h with
  | nil => simp
  | last h1 h2 => have := List.length_pos_iff.2 h1; simp; omega
  | cons h1 h2 ih => simp; omega
theorem findSub_first {A B : List UInt8} {c : UInt8} (hc : c ∉ A) : ∀ (k i : Nat), i + k = A.length → ∀ f, k < f → findSub [c] (A ++ c :: B) f i = some A.length
  | 0, i, hi, f + 1, _ => by
    obtain rfl : i = A.length := by omega
    simp only [findSub, List.length_singleton]
    rw [if_pos (by simp), List.drop_left, if_pos (by simp)]
  | k + 1, i, hi, f + 1, hf => by
    simp only [findSub, List.length_singleton]
    rw [if_pos (by simp; omega), if_neg]
    · exact findSub_first hc k (i + 1) (by omega) f (by omega)
    · intro he
      have hil : i < A.length := by omega
      rw [List.drop_append_of_le_length (by omega), List.drop_eq_getElem_cons hil, List.cons_append, List.take_succ_cons, List.take_zero] at he
      have he2 : A[i] = c := (List.cons.inj he).1
      exact hc (he2 ▸ List.getElem_mem hil)
theorem idx_first {A B : List UInt8} {c : UInt8} (hc : c ∉ A) : idx (A ++ c :: B) [c] = some A.length := by
  unfold idx
  exact findSub_first hc A.length 0 (by omega) _ (by simp; omega)
def StepOK (op : Opt) (l : List UInt8) (nl : UInt8) (D : List DB) (lf : Leaf) (J : List DB → Leaf → Prop) : Prop :=
  ∀ (σ : Out) (R : Ending → World → Prop) (L : List Chunk) (b rb pb : Nat) (p : PS) (w : World), op.at pb ∈ L → p.pz = some ⟨pb, 0, none⟩ → p.lineno < 1000000000 → DocS σ b rb L D lf p w →
    (∀ w (p' : PS) D' lf', p'.base = p.base → p'.lineno = p.lineno → J D' lf' → DocS σ b rb L D' lf' p' w → R (.returned (.tuple #[])) w) → callE P i_parseState_addLine #[.pointer (some ⟨b, 0, none⟩), (lnOf l nl).val] R w
def StepOKL (L0 : List Chunk) (op : Opt) (l : List UInt8) (nl : UInt8) (D : List DB) (lf : Leaf) (J : List DB → Leaf → Prop) : Prop :=
  ∀ (σ : Out) (R : Ending → World → Prop) (L : List Chunk) (b rb pb : Nat) (p : PS) (w : World), (∀ c ∈ L0, c ∈ L) → op.at pb ∈ L → p.pz = some ⟨pb, 0, none⟩ → p.lineno < 1000000000 → DocS σ b rb L D lf p w →
    (∀ w (p' : PS) D' lf', p'.base = p.base → p'.lineno = p.lineno → J D' lf' → DocS σ b rb L D' lf' p' w → R (.returned (.tuple #[])) w) → callE P i_parseState_addLine #[.pointer (some ⟨b, 0, none⟩), (lnOf l nl).val] R w
theorem lines_okL {L0 : List Chunk} {op : Opt} {I : List (List UInt8 × UInt8) → List DB → Leaf → Prop} (step : ∀ l nl rem D lf, I ((l, nl) :: rem) D lf → StepOKL L0 op l nl D lf (I rem)) (hL0 : ∀ c ∈ L0, c ∈ L) {X : OA → BA → Nat → WP} {b rb pb : Nat} {p0 : PS}
    (hX : ∀ x0 x1 x6 w, g_Parser_parse.bl1 R X x0 x1 x6 w → X x0 x1 x6 w) (hop : op.at pb ∈ L) (hpz : p0.pz = some ⟨pb, 0, none⟩)
    (hE : ∀ w (p : PS) D lf, p.base = p0.base → I [] D lf → DocS σ b rb L D lf p w → g_Parser_parse.bl1 R X (some ⟨pb, 0, none⟩) (bs []) b w) {text : List UInt8} {ls : List (List UInt8 × UInt8)} (hL : LinesOf text ls) :
    ∀ w (p : PS) D lf, text.length < 1000000 → p.lineno + ls.length < 1000000000 → p.base = p0.base → I ls D lf → DocS σ b rb L D lf p w → X (some ⟨pb, 0, none⟩) (bs text) b w := by
  have k3 : ∀ (l : List UInt8) (nl : UInt8) (t : List UInt8) (rem : List (List UInt8 × UInt8)) w (p : PS) D lf, (∀ w (p : PS) D lf, p.lineno + rem.length < 1000000000 → p.base = p0.base → I rem D lf → DocS σ b rb L D lf p w → X (some ⟨pb, 0, none⟩) (bs t) b w) →
      p.lineno + rem.length + 1 < 1000000000 → p.base = p0.base → I ((l, nl) :: rem) D lf → DocS σ b rb L D lf p w → g_Parser_parse.k3 R X (some ⟨pb, 0, none⟩) (bs t) b (bs l) (nl.toNat : Int) w := by
    intro l nl t rem w p D lf next hno hb hI h
    obtain ⟨r, obs, M, TM, IM, LM, hr, hs, ht, hIs, hL, h⟩ := h
    unfold g_Parser_parse.k3
    refine ⟨_, Sat.ld h (.head _) (i := 3) rfl, ?_⟩
    rw [i64_inc (by omega)]
    refine Sat.st h (k := 0) rfl (Nat.le_of_ble_eq_true rfl) trivial (by first | (dsimp only [List.set]; exact rfl) | exact rfl) fun w h => ?_
    let p1 : PS := { p with lineno := p.lineno + 1 }
    have h : Sat σ w (p1.at b :: M ++ (IM ++ (TM ++ (LM ++ (ownC D ++ ((txsC D).map TX.chunk ++ L)))))) := h
    have hb1 : p1.base = p0.base := hb
    have hpz1 : p1.pz = some ⟨pb, 0, none⟩ := by
      have := congrArg PS.pz hb1
      rw [show p1.pz = p0.pz from this]; exact hpz
    refine step l nl rem D lf hI σ _ L b rb pb p1 w hL0 hop hpz1 (by show p.lineno + 1 < _; omega) ⟨r, obs, M, TM, IM, LM, hr, hs.of rfl rfl rfl, ht.of rfl rfl rfl, hIs, hL, h⟩ fun w p2 D' lf' h1 h2 h3 h4 => ⟨rfl, ?_⟩
    exact next w p2 D' lf' (by rw [h2]; show p.lineno + 1 + _ < _; omega) (h1.trans hb1) h3 h4
  induction hL with
  | nil =>
    intro w p D lf hlen hno hb hI h
    exact hX _ _ _ _ (hE w p D lf hb hI h)
  | @last l hne hnl =>
    intro w p D lf hlen hno hb hI h
    have e10 : idxInt l [10] = -1 := by unfold idxInt; rw [idx_none hnl.1]
    have e13 : idxInt l [13] = -1 := by unfold idxInt; rw [idx_none hnl.2]
    refine hX _ _ _ _ (br_true (by rw [bs_toList]; simpa using hne) ?_)
    refine zzIndex_ok (sub := [10]) (by omega) (by decide) ⟨_, rfl, ?_⟩
    refine zzIndex_ok (sub := [13]) (by omega) (by decide) ⟨_, rfl, ?_⟩
    rw [e10, e13]
    refine br_false rfl (br_false rfl ?_)
    refine k3 l 0 [] [] w p D lf ?_ (by simp at hno ⊢; omega) hb hI h
    intro w p D lf hno hb hI h
    exact hX _ _ _ _ (hE w p D lf hb hI h)
  | @cons l t ls hnl hLt ih =>
    intro w p D lf hlen hno hb hI h
    have hl13 : 13 ∉ l ++ 10 :: t := (LinesOf.cons hnl hLt).no13
    have e10 : idxInt (l ++ 10 :: t) [10] = (l.length : Nat) := by unfold idxInt; rw [idx_first hnl.1]
    have e13 : idxInt (l ++ 10 :: t) [13] = -1 := by unfold idxInt; rw [idx_none hl13]
    have hlen' : (l ++ 10 :: t).length = l.length + t.length + 1 := by simp; omega
    refine hX _ _ _ _ (br_true (by rw [bs_toList]; simp [mk_toList]) ?_)
    refine zzIndex_ok (sub := [10]) (by omega) (by decide) ⟨_, rfl, ?_⟩
    refine zzIndex_ok (sub := [13]) (by omega) (by decide) ⟨_, rfl, ?_⟩
    rw [e10, e13]
    refine br_false rfl ?_
    refine br_true (by simp) ?_
    obtain ⟨r, obs, M, TM, IM, LM, hr, hs, ht, hIs, hL, h⟩ := h
    refine Sat.tk h fun w h => ?_
    rw [i64_inc (by omega), bs_size, Int.toNat_natCast, Int.toNat_natCast, bs_ext, bs_extract, List.drop_zero, List.take_left]
    refine ⟨by omega, by rw [hlen']; omega, by omega, by rw [hlen']; omega, ?_⟩
    have ed : (l ++ 10 :: t).drop (l.length + 1) = t := by rw [List.drop_append]; simp
    rw [ed]
    refine k3 l 10 t ls w p D lf ?_ (by simp at hno ⊢; omega) hb hI ⟨r, obs, M, TM, IM, LM, hr, hs, ht, hIs, hL, h⟩
    intro w p D lf hno hb hI h
    exact ih w p D lf (by rw [hlen'] at hlen; omega) hno hb hI h
theorem parses_docL {L0 : List Chunk} {op : Opt} {text out : List UInt8} {ls : List (List UInt8 × UInt8)} {F : List UInt8 → List UInt8 → List UInt8} (hL : LinesOf text ls) (h0 : 0 ∉ text) (hlen : text.length < 1000000)
    (I : List (List UInt8 × UInt8) → List DB → Leaf → Prop) (hI0 : I ls [] .none) (step : ∀ l nl rem D lf, I ((l, nl) :: rem) D lf → StepOKL L0 op l nl D lf (I rem))
    (fin : ∀ D lf, I [] D lf → lf.fin ∧ D.length < 100000 ∧ (txsC D).length < 100000 ∧ ∀ D', LeafClosed lf D D' → ∃ gs, Show F D' gs ∧ compL gs [] = out ∧ ∀ x ∈ txsC D', InlineOK op x.raw (F x.raw)) : ParsesToL L0 op text out := by
  intro σ R L w pb hL0 h ho hR
  refine g_Parser_parse.sound ?_
  refine Sat.bx h fun b w h => ?_
  refine Sat.st h (k := 0) rfl (Nat.le_of_ble_eq_true rfl) trivial (by first | (dsimp only [List.set]; exact rfl) | exact rfl) fun w h => ?_
  have h : Sat σ w ((PS0 (some ⟨pb, 0, none⟩)).at b :: L) := h
  refine zzContains_ok (sub := [0]) (by omega) (by decide) ⟨_, rfl, ?_⟩
  rw [idx_none h0]
  refine br_false rfl ?_
  refine Sat.st h (k := 0) rfl (Nat.le_of_ble_eq_true rfl) trivial (by first | (dsimp only [List.set]; exact rfl) | exact rfl) fun w h => ?_
  refine Sat.bx h fun rb w h => ?_
  let p0 : PS := { PS0 (some ⟨pb, 0, none⟩) with depth := -1 }
  have h : Sat σ w (p0.at b :: [] ++ ((rb, cel [] ty_rootBuilder) :: L)) := h.up1
  have hstk : Stk p0 [] [] := ⟨Sl.nil 4 ty_openBlock, rfl, by simp⟩
  refine addBlock_ok h hstk rfl (by decide) fun w p1 M hp1 hs1 h => ⟨rfl, ?_⟩
  intro X hX
  have hll := hL.len
  have e1 : p1.base = p0.base := by rw [hp1]; rfl
  have e2 : p1.lineno = 0 := by rw [hp1]; rfl
  have htx : Txts p1 [] [] := by
    have : p1.tq = none ∧ p1.tn = 0 ∧ p1.tc = 0 := by rw [hp1]; exact ⟨rfl, rfl, rfl⟩
    obtain ⟨a, b, c⟩ := this
    unfold Txts
    rw [a, b, c]
    exact ⟨Sl.nil 1 ty_P_Text, rfl, by simp⟩
  have hd : DocS σ b rb ((rb, cel [] ty_rootBuilder) :: L) [] .none p1 w :=
    ⟨⟨rootV rb, none, 0, 0, 0, 0⟩, [], M, [], [], [], rfl, hs1, htx, Sl.nil 1 ty_Block, ⟨rfl, rfl⟩, h⟩
  refine lines_okL (p0 := p0) (op := op) step (fun c hc => .tail _ (hL0 c hc)) hX (.tail _ ho) rfl ?_ hL w p1 [] .none hlen (by rw [e2]; omega) e1 hI0 hd
  intro w p D lf hb hI hds
  obtain ⟨f1, f2, f3, f4⟩ := fin D lf hI
  refine br_false (by rw [bs_toList, mk_toList]; rfl) ?_
  refine finishDoc_ok hds f1 f2 f3 fun w p' D' db IM TM q n c s e hb' hcl ht hIM hn h => ⟨rfl, ?_⟩
  obtain ⟨gs, hS, hout, hIn⟩ := f4 D' hcl
  have hbb : p'.base = { p0.base with root := some ⟨db, 0, none⟩ } := by rw [hb', hb]
  have hpz : p'.pz = some ⟨pb, 0, none⟩ := by have := congrArg PS.pz hbb; exact this
  have hlk : p'.links = none := by have := congrArg PS.links hbb; exact this
  have hrt : p'.root = some ⟨db, 0, none⟩ := by have := congrArg PS.root hbb; exact this
  have hLL : p'.Lq = none ∧ p'.Ln = 0 ∧ p'.Lc = 0 := ⟨by have := congrArg PS.Lq hbb; exact this, by have := congrArg PS.Ln hbb; exact this, by have := congrArg PS.Lc hbb; exact this⟩
  refine ⟨_, _, _, Sat.ld h (.head _) (i := 11) rfl, ?_⟩
  refine texts_ok (op := op) (F := F) (L0 := []) h ht hpz (by simp [ho]) hlk (by simp) hLL (fun x hx => (hIn x hx).lift) fun w p2 ts hp2 hf h => ?_
  have hrt2 : p2.root = some ⟨db, 0, none⟩ := by have := congrArg PS.root hp2; rw [show p2.root = p'.root from this]; exact hrt
  unfold g_Parser_parse.k4
  refine Sat.tk h fun w h => ?_
  refine ⟨_, Sat.ld h (.head _) (i := 1) rfl, _, Sat.ld h (.head _) (i := 6) rfl, ?_⟩
  rw [hrt2]
  obtain ⟨KM, KM', hP, hcnt⟩ := docs_print hS ts hf
  refine hR w db p2.corner (docC db s e q n c p.links :: (IM ++ KM)) (docC db s e q n c p.links :: (IM ++ KM')) (compL gs) (doc_prints hIM (by omega) hP) hout ?_
  refine Sat.less (p2.at b :: TM ++ [(rb, cel [] ty_rootBuilder)]) h fun a => ?_
  have := hcnt a
  simp only [List.append_eq, cnt_append, cnt_cons, cnt_nil] at this ⊢
  omega
theorem parses_doc {op : Opt} {text out : List UInt8} {ls : List (List UInt8 × UInt8)} {F : List UInt8 → List UInt8 → List UInt8} (hL : LinesOf text ls) (h0 : 0 ∉ text) (hlen : text.length < 1000000)
    (I : List (List UInt8 × UInt8) → List DB → Leaf → Prop) (hI0 : I ls [] .none) (step : ∀ l nl rem D lf, I ((l, nl) :: rem) D lf → StepOK op l nl D lf (I rem))
    (fin : ∀ D lf, I [] D lf → lf.fin ∧ D.length < 100000 ∧ (txsC D).length < 100000 ∧ ∀ D', LeafClosed lf D D' → ∃ gs, Show F D' gs ∧ compL gs [] = out ∧ ∀ x ∈ txsC D', InlineOK op x.raw (F x.raw)) : ParsesTo op text out :=
  fun σ R L w pb => parses_docL (L0 := []) hL h0 hlen I hI0 (fun l nl rem D lf hI σ R L b rb pb p w _ => step l nl rem D lf hI σ R L b rb pb p w) fin σ R L w pb (by simp)
end Go.Proofs.YtihmcipajjakgaaGreatDoor


set_option linter.unusedVariables false
namespace Go.Proofs.YtihmcipajjakgaaGreatDoor
open Go.Proofs Go.IntWalk Go.RowKit
variable {σ : Out} {w : World} {L L' : List Chunk} {R : Ending → World → Prop}
def splitNL : List UInt8 → List (List UInt8)
  | [] => [[]]
  | c :: s => if c = 10 then [] :: splitNL s else match splitNL s with
    | [] => [[c]]
    | l :: ls => (c :: l) :: ls
theorem splitNL_ne (s : List UInt8) : splitNL s ≠ [] := by
  cases s with
  | nil => simp [splitNL]
  | cons c s =>
    simp only [splitNL]
    split
    · simp
    · split <;> simp
theorem splitNL_len (s : List UInt8) : (splitNL s).length ≤ s.length + 1 := by
  induction s with
  | nil => simp [splitNL]
  | cons c s ih =>
    simp only [splitNL]
    split
    · simp; omega
    · split
      · simp
      · rename_i l ls he
        rw [he] at ih
        simp at ih ⊢; omega
theorem splitNL_mem (s : List UInt8) : ∀ l ∈ splitNL s, l.length ≤ s.length ∧ ∀ c ∈ l, c ∈ s ∧ c ≠ 10 := by
  induction s with
  | nil => simp [splitNL]
  | cons c s ih =>
    simp only [splitNL]
    split
    · rename_i hc
      intro l hl
      rcases List.mem_cons.1 hl with rfl | hl
      · simp
      · obtain ⟨a, b⟩ := ih l hl
        exact ⟨by simp; omega, fun d hd => ⟨List.mem_cons_of_mem _ (b d hd).1, (b d hd).2⟩⟩
    · rename_i hc
      split
      · rename_i he; exact absurd he (splitNL_ne s)
      · rename_i l0 ls he
        rw [he] at ih
        intro l hl
        rcases List.mem_cons.1 hl with rfl | hl
        · obtain ⟨a, b⟩ := ih l0 (by simp)
          refine ⟨by simp; omega, fun d hd => ?_⟩
          rcases List.mem_cons.1 hd with rfl | hd
          · exact ⟨by simp, hc⟩
          · exact ⟨List.mem_cons_of_mem _ (b d hd).1, (b d hd).2⟩
        · obtain ⟨a, b⟩ := ih l (List.mem_cons_of_mem _ hl)
          exact ⟨by simp; omega, fun d hd => ⟨List.mem_cons_of_mem _ (b d hd).1, (b d hd).2⟩⟩
theorem rawOut_split (s : List UInt8) : rawOut (splitNL s) = s ++ [10] := by
  induction s with
  | nil => rfl
  | cons c s ih =>
    simp only [splitNL]
    split
    · rename_i hc
      subst hc
      show [] ++ [10] ++ rawOut (splitNL s) = _
      rw [ih]; simp
    · split
      · rename_i he; exact absurd he (splitNL_ne s)
      · rename_i l ls he
        rw [he] at ih
        have e1 : rawOut ((c :: l) :: ls) = c :: rawOut (l :: ls) := by simp [rawOut]
        rw [e1, ih]; rfl
theorem linesOf_raw {t : List UInt8} {rem : List (List UInt8 × UInt8)} (ht : LinesOf t rem) : ∀ ls : List (List UInt8), (∀ l ∈ ls, noNL l) → LinesOf (rawOut ls ++ t) (ls.map (fun l => (l, 10)) ++ rem)
  | [], _ => ht
  | l :: ls, h => by
    have e1 : rawOut (l :: ls) ++ t = l ++ 10 :: (rawOut ls ++ t) := by simp [rawOut]
    rw [e1]
    exact .cons (h l (by simp)) (linesOf_raw ht ls fun x hx => h x (List.mem_cons_of_mem _ hx))
theorem lnOf_str (l : List UInt8) (nl : UInt8) : (lnOf l nl).str = l := by simp [Ln.str, lnOf]
end Go.Proofs.YtihmcipajjakgaaGreatDoor


set_option linter.unusedVariables false
namespace Go.Proofs.YtihmcipajjakgaaGreatDoor
open Go.Proofs Go.IntWalk Go.RowKit
variable {σ : Out} {w : World} {L L' : List Chunk} {R : Ending → World → Prop}
def AtI (X : XI) (σ : Out) (b : Nat) (p0 : PS) (raw : List UInt8) (L : List Chunk) (i e : Nat) (ts : List Inl) : Prop :=
  ∀ w (p : PS) oq on oc, p.coreS = p0.coreS → p.s = raw → p.em = (e : Int) → IIn σ b p ts [] oq on oc L w → X (some ⟨b, 0, none⟩) (bs raw) oq on oc 0 false (i : Int) w
def LoopX (R : Ending → World → Prop) (X : XI) (b : Nat) (raw : List UInt8) : Prop :=
  ∀ oq on oc (i : Int) w, g_parseState_inline.bl1 R X (some ⟨b, 0, none⟩) (bs raw) oq on oc 0 false i w → X (some ⟨b, 0, none⟩) (bs raw) oq on oc 0 false i w
theorem PS.pz_of {p p0 : PS} (h : p.coreS = p0.coreS) : p.pz = p0.pz := by have := congrArg PS.pz h; exact this
theorem PS.coreS_of {p' p p0 : PS} (h1 : p'.core = p.core) (h2 : p.coreS = p0.coreS) : p'.coreS = p0.coreS := by
  rw [← h2]
  have := congrArg (fun q : PS => ({ q with s := [] } : PS)) h1
  exact this
theorem AtI.plain {X : XI} {b pb i e : Nat} {p0 : PS} {raw : List UInt8} {ts : List Inl} {o : Opt} (hX : LoopX R X b raw) (hi : i < raw.length) (hs : raw.length < 1000000000) (hpz : p0.pz = some ⟨pb, 0, none⟩) (ho : o.at pb ∈ L) (hp : parserOf o raw[i] = .nil) (h93 : raw[i] ≠ 93)
    (h : AtI X σ b p0 raw L (i + 1) e ts) : AtI X σ b p0 raw L i e ts := by
  intro w p oq on oc hc hraw he hI
  refine hX _ _ _ _ _ ?_
  obtain ⟨vs, RM, EM, OM, hS, hIn, hO, hlen, hsat⟩ := hI
  refine inl_dispatch (p := p) hi (by omega) (by rw [PS.pz_of hc, hpz]) (.head _) (.tail _ (List.mem_append_right _ (List.mem_append_right _ (List.mem_append_right _ ho)))) hsat ?_
  rw [hp]
  exact inl_none (inl_k5 hi (by omega) (.inl h93) (h w p oq on oc hc hraw he ⟨vs, RM, EM, OM, hS, hIn, hO, hlen, hsat⟩))
theorem AtI.leaf {X : XI} {b pb i e st en : Nat} {p0 : PS} {raw : List UInt8} {ts : List Inl} {o : Opt} {f : FuncId} {t : Inl} {L0 : List Chunk} {Q : PS → PS → Prop} (hX : LoopX R X b raw) (hi : i < raw.length) (hs : raw.length < 1000000000) (hpz : p0.pz = some ⟨pb, 0, none⟩) (ho : o.at pb ∈ L)
    (hp : parserOf o raw[i] = .fn f) (hL0 : ∀ c ∈ L0, c ∈ L) (hf : ∀ p : PS, p.coreS = p0.coreS → p.s = raw → LeafOK b p raw i (.func (.func f) #[] #[]) L0 (some (t, st, en)) (Q p)) (ht : t.isOpen = false) (hst : st ≤ raw.length) (hn : ts.length < 1000000000)
    (h : AtI X σ b p0 raw L en en (emitM raw e st ts ++ [t])) : AtI X σ b p0 raw L i e ts := by
  intro w p oq on oc hc hraw he hI
  refine hX _ _ _ _ _ ?_
  obtain ⟨vs, RM, EM, OM, hS, hIn, hO, hlen, hsat⟩ := hI
  refine inl_dispatch (p := p) hi (by omega) (by rw [PS.pz_of hc, hpz]) (.head _) (.tail _ (List.mem_append_right _ (List.mem_append_right _ (List.mem_append_right _ ho)))) hsat ?_
  rw [hp]
  dsimp only
  have hleaf := hf p hc hraw
  subst hraw
  refine inl_leaf ⟨vs, RM, EM, OM, hS, hIn, hO, hlen, hsat⟩ hL0 hleaf he hst hs hn (by simp) fun w p2 oq on oc hp2 hem2 _ h2 => ?_
  rw [ht] at h2
  refine h w p2 oq on oc (PS.coreS_of hp2 hc) ?_ hem2 h2
  have := congrArg PS.s hp2; exact this
theorem AtI.decl {X : XI} {b pb i e : Nat} {p0 : PS} {raw : List UInt8} {ts : List Inl} {o : Opt} {f : FuncId} {L0 : List Chunk} (hX : LoopX R X b raw) (hi : i < raw.length) (hs : raw.length < 1000000000) (hpz : p0.pz = some ⟨pb, 0, none⟩) (ho : o.at pb ∈ L)
    (hp : parserOf o raw[i] = .fn f) (h93 : raw[i] ≠ 93) (hL0 : ∀ c ∈ L0, c ∈ L) (hf : ∀ p : PS, p.coreS = p0.coreS → p.s = raw → LeafOK b p raw i (.func (.func f) #[] #[]) L0 none (fun p' => p' = p))
    (h : AtI X σ b p0 raw L (i + 1) e ts) : AtI X σ b p0 raw L i e ts := by
  intro w p oq on oc hc hraw he hI
  refine hX _ _ _ _ _ ?_
  obtain ⟨vs, RM, EM, OM, hS, hIn, hO, hlen, hsat⟩ := hI
  refine inl_dispatch (p := p) hi (by omega) (by rw [PS.pz_of hc, hpz]) (.head _) (.tail _ (List.mem_append_right _ (List.mem_append_right _ (List.mem_append_right _ ho)))) hsat ?_
  rw [hp]
  dsimp only
  have hleaf := hf p hc hraw
  subst hraw
  refine inl_decl ⟨vs, RM, EM, OM, hS, hIn, hO, hlen, hsat⟩ hL0 hleaf fun w p2 _ hp2 h2 => ?_
  subst hp2
  exact inl_k5 hi (by omega) (.inl h93) (h w p2 oq on oc hc rfl he h2)
theorem AtI.finA {X : XI} {b pb e : Nat} {p0 : PS} {raw : List UInt8} {ts ts' ts2 : List Inl} {o : Opt} (hX : LoopX R X b raw) (hs : raw.length < 1000000000) (hpz : p0.pz = some ⟨pb, 0, none⟩) (ho : o.at pb ∈ L) (hn : ts.length < 1000000000)
    (hE : EmphOK (emitM raw e raw.length ts) ts') (hpos : ∀ t ∈ ts', ∀ s, t.plain? = some s → s ≠ []) (hb : plen ts' < 1073741824) (hA : AutoOK o (mergeM ts') ts2)
    (hR : ∀ w (p' : PS) q n c vs RM EM, p'.coreS = p0.coreS → Sl 1 ty_Inline q n c vs RM → n < 1073741824 → InlsAt ts2 vs EM → Sat σ w (p'.at b :: (RM ++ (EM ++ L))) → R (.returned (.slice q n c)) w) :
    AtI X σ b p0 raw L raw.length e ts := by
  intro w p oq on oc hc hraw he hI
  refine hX _ _ _ _ _ ?_
  subst hraw
  exact inl_endA hI he hs hn (by rw [PS.pz_of hc, hpz]) ho hE hpos hb hA fun w p2 q n c vs RM EM hp2 hS hn hI h => hR w p2 q n c vs RM EM (PS.coreS_of hp2 hc) hS hn hI h
theorem AtI.fin {X : XI} {b pb e : Nat} {p0 : PS} {raw : List UInt8} {ts ts' : List Inl} {o : Opt} (hX : LoopX R X b raw) (hs : raw.length < 1000000000) (hpz : p0.pz = some ⟨pb, 0, none⟩) (ho : o.at pb ∈ L) (hoff : o.auto = false) (hn : ts.length < 1000000000)
    (hE : EmphOK (emitM raw e raw.length ts) ts') (hpos : ∀ t ∈ ts', ∀ s, t.plain? = some s → s ≠ []) (hb : plen ts' < 1073741824)
    (hR : ∀ w (p' : PS) q n c vs RM EM, p'.coreS = p0.coreS → Sl 1 ty_Inline q n c vs RM → n < 1073741824 → InlsAt (mergeM ts') vs EM → Sat σ w (p'.at b :: (RM ++ (EM ++ L))) → R (.returned (.slice q n c)) w) :
    AtI X σ b p0 raw L raw.length e ts :=
  AtI.finA hX hs hpz ho hn hE hpos hb (autoOK_off hoff) hR
end Go.Proofs.YtihmcipajjakgaaGreatDoor


set_option linter.unusedVariables false
namespace Go.Proofs.YtihmcipajjakgaaGreatDoor
open Go.Proofs Go.IntWalk Go.RowKit
variable {σ : Out} {w : World} {L L' : List Chunk} {R : Ending → World → Prop}
theorem sub_self (s : List UInt8) (i : Nat) : sub s i i = [] := List.drop_eq_nil_of_le (by rw [List.length_take]; omega)
end Go.Proofs.YtihmcipajjakgaaGreatDoor


set_option linter.unusedVariables false
set_option maxRecDepth 20000
namespace Go.Proofs.YtihmcipajjakgaaGreatDoor
open Go.Proofs
namespace g_Emph_PrintHTML
noncomputable def body : Code := bodyOf Tryz.f299
def bl1 (R : EP) (Xa : OA → OA → Nat → Nat → Int → Int → WP) (x1 : OA) (x11q : OA) (x11n : Nat) (x11c : Nat) (x12 : Int) (x13 : Int) (w : World) : Prop :=
 br (decide (x13 < x12))
 (0 ≤ x13 ∧ x13 < (x11n : Int) ∧
 nilP x11q fun a5 =>
 ∃ (v6 : Value), w.cell? (a5.add (Int.toNat x13 * 1)) = some v6 ∧
 enterE P (callMethod v6 "PrintHTML" #[.pointer x1]) (fun e w8 => e = .returned (.tuple #[]) ∧
 Xa x1 x11q x11n x11c x12 (IntKind.i64.wrap (x13 + 1)) w8) w)
 (callE P i_bytes_Buffer_WriteString #[.pointer x1, .string (ByteArray.mk #[60, 47, 101, 109, 62])] (fun e w10 => ∃ (r9_0 : Int), ∃ (r9_1 : Value), e = .returned (.tuple #[.int .i64 r9_0, r9_1]) ∧
 R (.returned (.tuple #[])) w10) w)
def l1 (R : EP) (x1 : OA) (x11q : OA) (x11n : Nat) (x11c : Nat) (x12 : Int) (x13 : Int) (w : World) : Prop :=
  ∀ X : OA → OA → Nat → Nat → Int → Int → WP, (∀ x1 x11q x11n x11c x12 x13 w, bl1 R X x1 x11q x11n x11c x12 x13 w → X x1 x11q x11n x11c x12 x13 w) → X x1 x11q x11n x11c x12 x13 w

noncomputable def al1 (R : EP) (Xa : OA → OA → Nat → Nat → Int → Int → WP) : AC :=
  (.leaf (sel [1, 0, 1, 0, 0] body))
end g_Emph_PrintHTML
def g_Emph_PrintHTML (R : EP) (x0 : OA) (x1 : OA) (w : World) : Prop :=
 callE P i_bytes_Buffer_WriteString #[.pointer x1, .string (ByteArray.mk #[60, 101, 109, 62])] (fun e w2 => ∃ (r1_0 : Int), ∃ (r1_1 : Value), e = .returned (.tuple #[.int .i64 r1_0, r1_1]) ∧
 nilP x0 fun a3 =>
 ∃ (v4q : OA), ∃ (v4n : Nat), ∃ (v4c : Nat), w2.cell? (a3.add 1) = some (.slice v4q v4n v4c) ∧
 g_Emph_PrintHTML.l1 R x1 v4q v4n v4c (v4n : Int) 0 w2) w

noncomputable def g_Emph_PrintHTML.ac (R : EP) : AC :=
  (.seq (.leaf (sel [0] g_Emph_PrintHTML.body)) (.seq (.seq (.leaf (sel [1, 0, 0] g_Emph_PrintHTML.body)) (.block 0 (.loop (leaf [(1, .s .ptr), (11, .s .slice), (12, .s (.int .i64)), (13, .s (.int .i64))] (g_Emph_PrintHTML.l1 R)) (sel [1, 0, 1, 0, 0] g_Emph_PrintHTML.body)))) (.leaf (sel [1, 1] g_Emph_PrintHTML.body))))
theorem g_Emph_PrintHTML.good (R : EP) : Good P 23 (g_Emph_PrintHTML.ac R) (QF P [] R) :=
  ⟨trivial, ⟨⟨trivial, (loopG (g_Emph_PrintHTML.al1 R) (g_Emph_PrintHTML.bl1 R) (fun _ => by kernel_rfl) (fun Xa => trivial) (fun Xa => by intro x1 x11q x11n x11c x12 x13 ρ w; kernel_rfl) (fun X h _ _ _ _ _ _ _ g => g X h))⟩, trivial⟩⟩
theorem g_Emph_PrintHTML.eq (R : EP) (x0 : OA) (x1 : OA) (w : World) : g_Emph_PrintHTML R x0 x1 w = vcA P 23 (g_Emph_PrintHTML.ac R) (QF P [] R) (fr0 [.pointer x0, .pointer x1]) w := by kernel_rfl
theorem g_Emph_PrintHTML.sound {R : EP} {x0 : OA} {x1 : OA} {w : World} (h : g_Emph_PrintHTML R x0 x1 w) : callE P i_Emph_PrintHTML #[.pointer x0, .pointer x1] R w :=
  callE_fin (c := g_Emph_PrintHTML.body) Tryz.func299 Tryz.call299 (by kernel_rfl) (by kernel_rfl) (by kernel_rfl) (by kernel_rfl) (by kernel_rfl) (g_Emph_PrintHTML.good R) (g_Emph_PrintHTML.eq R x0 x1 w) h
namespace g_Strong_PrintHTML
noncomputable def body : Code := bodyOf Tryz.f307
def bl1 (R : EP) (Xa : OA → OA → Nat → Nat → Int → Int → WP) (x1 : OA) (x11q : OA) (x11n : Nat) (x11c : Nat) (x12 : Int) (x13 : Int) (w : World) : Prop :=
 br (decide (x13 < x12))
 (0 ≤ x13 ∧ x13 < (x11n : Int) ∧
 nilP x11q fun a5 =>
 ∃ (v6 : Value), w.cell? (a5.add (Int.toNat x13 * 1)) = some v6 ∧
 enterE P (callMethod v6 "PrintHTML" #[.pointer x1]) (fun e w8 => e = .returned (.tuple #[]) ∧
 Xa x1 x11q x11n x11c x12 (IntKind.i64.wrap (x13 + 1)) w8) w)
 (callE P i_bytes_Buffer_WriteString #[.pointer x1, .string (ByteArray.mk #[60, 47, 115, 116, 114, 111, 110, 103, 62])] (fun e w10 => ∃ (r9_0 : Int), ∃ (r9_1 : Value), e = .returned (.tuple #[.int .i64 r9_0, r9_1]) ∧
 R (.returned (.tuple #[])) w10) w)
def l1 (R : EP) (x1 : OA) (x11q : OA) (x11n : Nat) (x11c : Nat) (x12 : Int) (x13 : Int) (w : World) : Prop :=
  ∀ X : OA → OA → Nat → Nat → Int → Int → WP, (∀ x1 x11q x11n x11c x12 x13 w, bl1 R X x1 x11q x11n x11c x12 x13 w → X x1 x11q x11n x11c x12 x13 w) → X x1 x11q x11n x11c x12 x13 w

noncomputable def al1 (R : EP) (Xa : OA → OA → Nat → Nat → Int → Int → WP) : AC :=
  (.leaf (sel [1, 0, 1, 0, 0] body))
end g_Strong_PrintHTML
def g_Strong_PrintHTML (R : EP) (x0 : OA) (x1 : OA) (w : World) : Prop :=
 callE P i_bytes_Buffer_WriteString #[.pointer x1, .string (ByteArray.mk #[60, 115, 116, 114, 111, 110, 103, 62])] (fun e w2 => ∃ (r1_0 : Int), ∃ (r1_1 : Value), e = .returned (.tuple #[.int .i64 r1_0, r1_1]) ∧
 nilP x0 fun a3 =>
 ∃ (v4q : OA), ∃ (v4n : Nat), ∃ (v4c : Nat), w2.cell? (a3.add 1) = some (.slice v4q v4n v4c) ∧
 g_Strong_PrintHTML.l1 R x1 v4q v4n v4c (v4n : Int) 0 w2) w

noncomputable def g_Strong_PrintHTML.ac (R : EP) : AC :=
  (.seq (.leaf (sel [0] g_Strong_PrintHTML.body)) (.seq (.seq (.leaf (sel [1, 0, 0] g_Strong_PrintHTML.body)) (.block 0 (.loop (leaf [(1, .s .ptr), (11, .s .slice), (12, .s (.int .i64)), (13, .s (.int .i64))] (g_Strong_PrintHTML.l1 R)) (sel [1, 0, 1, 0, 0] g_Strong_PrintHTML.body)))) (.leaf (sel [1, 1] g_Strong_PrintHTML.body))))
theorem g_Strong_PrintHTML.good (R : EP) : Good P 23 (g_Strong_PrintHTML.ac R) (QF P [] R) :=
  ⟨trivial, ⟨⟨trivial, (loopG (g_Strong_PrintHTML.al1 R) (g_Strong_PrintHTML.bl1 R) (fun _ => by kernel_rfl) (fun Xa => trivial) (fun Xa => by intro x1 x11q x11n x11c x12 x13 ρ w; kernel_rfl) (fun X h _ _ _ _ _ _ _ g => g X h))⟩, trivial⟩⟩
theorem g_Strong_PrintHTML.eq (R : EP) (x0 : OA) (x1 : OA) (w : World) : g_Strong_PrintHTML R x0 x1 w = vcA P 23 (g_Strong_PrintHTML.ac R) (QF P [] R) (fr0 [.pointer x0, .pointer x1]) w := by kernel_rfl
theorem g_Strong_PrintHTML.sound {R : EP} {x0 : OA} {x1 : OA} {w : World} (h : g_Strong_PrintHTML R x0 x1 w) : callE P i_Strong_PrintHTML #[.pointer x0, .pointer x1] R w :=
  callE_fin (c := g_Strong_PrintHTML.body) Tryz.func307 Tryz.call307 (by kernel_rfl) (by kernel_rfl) (by kernel_rfl) (by kernel_rfl) (by kernel_rfl) (g_Strong_PrintHTML.good R) (g_Strong_PrintHTML.eq R x0 x1 w) h
namespace g_AutoLink_PrintHTML
noncomputable def body : Code := bodyOf Tryz.f327
end g_AutoLink_PrintHTML
def g_AutoLink_PrintHTML (R : EP) (x0 : OA) (x1 : OA) (w : World) : Prop :=
 tk w fun w1 =>
 nilP x0 fun a2 =>
 nilP x0 fun a3 =>
 ∃ (v4 : BA), w1.cell? (a2.add 1) = some (.string v4) ∧
 ∃ (v5 : BA), w1.cell? a3 = some (.string v5) ∧
 callE P i_htmlLinkEscaper #[] (fun e w7 => ∃ (r6q : OA), ∃ (r6n : Nat), ∃ (r6c : Nat), e = .returned (.slice r6q r6n r6c) ∧
 SameC w1 w7 (a3) 1 ∧
 SameC w1 w7 (a2.add 1) 1 ∧
 callE P i_zzPairs_Replace #[.slice r6q r6n r6c, .string v4] (fun e w9 => ∃ (r8 : BA), e = .returned (.string r8) ∧
 SameC w7 w9 (a3) 1 ∧
 (((ByteArray.mk #[60, 97, 32, 104, 114, 101, 102, 61, 34]).size + r8.size : Nat) : Int) ≤ IntKind.i64.max ∧
 ((((ByteArray.mk #[60, 97, 32, 104, 114, 101, 102, 61, 34]) ++ r8).size + (ByteArray.mk #[34, 62]).size : Nat) : Int) ≤ IntKind.i64.max ∧
 callE P i_htmlEscaper #[] (fun e w11 => ∃ (r10q : OA), ∃ (r10n : Nat), ∃ (r10c : Nat), e = .returned (.slice r10q r10n r10c) ∧
 SameC w9 w11 (a3) 1 ∧
 callE P i_zzPairs_Replace #[.slice r10q r10n r10c, .string v5] (fun e w13 => ∃ (r12 : BA), e = .returned (.string r12) ∧
 (((((ByteArray.mk #[60, 97, 32, 104, 114, 101, 102, 61, 34]) ++ r8) ++ (ByteArray.mk #[34, 62])).size + r12.size : Nat) : Int) ≤ IntKind.i64.max ∧
 ((((((ByteArray.mk #[60, 97, 32, 104, 114, 101, 102, 61, 34]) ++ r8) ++ (ByteArray.mk #[34, 62])) ++ r12).size + (ByteArray.mk #[60, 47, 97, 62]).size : Nat) : Int) ≤ IntKind.i64.max ∧
 callE P i_bytes_Buffer_WriteString #[.pointer x1, .string (((((ByteArray.mk #[60, 97, 32, 104, 114, 101, 102, 61, 34]) ++ r8) ++ (ByteArray.mk #[34, 62])) ++ r12) ++ (ByteArray.mk #[60, 47, 97, 62]))] (fun e w15 => ∃ (r14_0 : Int), ∃ (r14_1 : Value), e = .returned (.tuple #[.int .i64 r14_0, r14_1]) ∧
 R (.returned (.tuple #[])) w15) w13) w11) w9) w7) w1

noncomputable def g_AutoLink_PrintHTML.ac (R : EP) : AC :=
  (.draw (.pure 0 (.pure 2 (.pure 3 (.pure 4 (.pure 10 (.pure 11 (.pure 12 (.load 5 (.load 13 (.one 1 (.one 6 (.pure 7 (.pure 8 (.one 9 (.one 14 (.pure 15 (.pure 16 (.one 17 .done)))))))))))))))))) (sel [] g_AutoLink_PrintHTML.body))
theorem g_AutoLink_PrintHTML.good (R : EP) : Good P 22 (g_AutoLink_PrintHTML.ac R) (QF P [] R) :=
  ⟨by kernel_rfl, by kernel_rfl, fun _ _ _ h => h⟩
theorem g_AutoLink_PrintHTML.eq (R : EP) (x0 : OA) (x1 : OA) (w : World) : g_AutoLink_PrintHTML R x0 x1 w = vcA P 22 (g_AutoLink_PrintHTML.ac R) (QF P [] R) (fr0 [.pointer x0, .pointer x1]) w := by kernel_rfl
theorem g_AutoLink_PrintHTML.sound {R : EP} {x0 : OA} {x1 : OA} {w : World} (h : g_AutoLink_PrintHTML R x0 x1 w) : callE P i_AutoLink_PrintHTML #[.pointer x0, .pointer x1] R w :=
  callE_fin (c := g_AutoLink_PrintHTML.body) Tryz.func327 Tryz.call327 (by kernel_rfl) (by kernel_rfl) (by kernel_rfl) (by kernel_rfl) (by kernel_rfl) (g_AutoLink_PrintHTML.good R) (g_AutoLink_PrintHTML.eq R x0 x1 w) h
namespace g_HardBreak_PrintHTML
noncomputable def body : Code := bodyOf Tryz.f283
end g_HardBreak_PrintHTML
def g_HardBreak_PrintHTML (R : EP) (x0 : OA) (x1 : OA) (w : World) : Prop :=
 callE P i_bytes_Buffer_WriteString #[.pointer x1, .string (ByteArray.mk #[60, 98, 114, 32, 47, 62, 10])] (fun e w2 => ∃ (r1_0 : Int), ∃ (r1_1 : Value), e = .returned (.tuple #[.int .i64 r1_0, r1_1]) ∧
 R (.returned (.tuple #[])) w2) w

noncomputable def g_HardBreak_PrintHTML.ac (R : EP) : AC :=
  (.leaf (sel [] g_HardBreak_PrintHTML.body))
theorem g_HardBreak_PrintHTML.good (R : EP) : Good P 6 (g_HardBreak_PrintHTML.ac R) (QF P [] R) :=
  trivial
theorem g_HardBreak_PrintHTML.eq (R : EP) (x0 : OA) (x1 : OA) (w : World) : g_HardBreak_PrintHTML R x0 x1 w = vcA P 6 (g_HardBreak_PrintHTML.ac R) (QF P [] R) (fr0 [.pointer x0, .pointer x1]) w := by kernel_rfl
theorem g_HardBreak_PrintHTML.sound {R : EP} {x0 : OA} {x1 : OA} {w : World} (h : g_HardBreak_PrintHTML R x0 x1 w) : callE P i_HardBreak_PrintHTML #[.pointer x0, .pointer x1] R w :=
  callE_fin (c := g_HardBreak_PrintHTML.body) Tryz.func283 Tryz.call283 (by kernel_rfl) (by kernel_rfl) (by kernel_rfl) (by kernel_rfl) (by kernel_rfl) (g_HardBreak_PrintHTML.good R) (g_HardBreak_PrintHTML.eq R x0 x1 w) h
namespace g_Link_PrintHTML
noncomputable def body : Code := bodyOf Tryz.f250
def bl1 (R : EP) (Xa : OA → OA → Nat → Nat → Int → Int → WP) (x1 : OA) (x36q : OA) (x36n : Nat) (x36c : Nat) (x37 : Int) (x38 : Int) (w : World) : Prop :=
 br (decide (x38 < x37))
 (0 ≤ x38 ∧ x38 < (x36n : Int) ∧
 nilP x36q fun a25 =>
 ∃ (v26 : Value), w.cell? (a25.add (Int.toNat x38 * 1)) = some v26 ∧
 enterE P (callMethod v26 "PrintHTML" #[.pointer x1]) (fun e w28 => e = .returned (.tuple #[]) ∧
 Xa x1 x36q x36n x36c x37 (IntKind.i64.wrap (x38 + 1)) w28) w)
 (callE P i_bytes_Buffer_WriteString #[.pointer x1, .string (ByteArray.mk #[60, 47, 97, 62])] (fun e w30 => ∃ (r29_0 : Int), ∃ (r29_1 : Value), e = .returned (.tuple #[.int .i64 r29_0, r29_1]) ∧
 R (.returned (.tuple #[])) w30) w)
def l1 (R : EP) (x1 : OA) (x36q : OA) (x36n : Nat) (x36c : Nat) (x37 : Int) (x38 : Int) (w : World) : Prop :=
  ∀ X : OA → OA → Nat → Nat → Int → Int → WP, (∀ x1 x36q x36n x36c x37 x38 w, bl1 R X x1 x36q x36n x36c x37 x38 w → X x1 x36q x36n x36c x37 x38 w) → X x1 x36q x36n x36c x37 x38 w

noncomputable def al1 (R : EP) (Xa : OA → OA → Nat → Nat → Int → Int → WP) : AC :=
  (.leaf (sel [1, 1, 1, 0, 1, 0, 0] body))
def k1 (R : EP) (x0 : OA) (x1 : OA) (w : World) : Prop :=
 callE P i_bytes_Buffer_WriteString #[.pointer x1, .string (ByteArray.mk #[62])] (fun e w22 => ∃ (r21_0 : Int), ∃ (r21_1 : Value), e = .returned (.tuple #[.int .i64 r21_0, r21_1]) ∧
 nilP x0 fun a23 =>
 ∃ (v24q : OA), ∃ (v24n : Nat), ∃ (v24c : Nat), w22.cell? a23 = some (.slice v24q v24n v24c) ∧
 l1 R x1 v24q v24n v24c (v24n : Int) 0 w22) w

end g_Link_PrintHTML
def g_Link_PrintHTML (R : EP) (x0 : OA) (x1 : OA) (w : World) : Prop :=
 tk w fun w1 =>
 nilP x0 fun a2 =>
 ∃ (v3 : BA), w1.cell? (a2.add 1) = some (.string v3) ∧
 callE P i_htmlLinkEscaper #[] (fun e w5 => ∃ (r4q : OA), ∃ (r4n : Nat), ∃ (r4c : Nat), e = .returned (.slice r4q r4n r4c) ∧
 SameC w1 w5 (a2.add 1) 1 ∧
 callE P i_zzPairs_Replace #[.slice r4q r4n r4c, .string v3] (fun e w7 => ∃ (r6 : BA), e = .returned (.string r6) ∧
 (((ByteArray.mk #[60, 97, 32, 104, 114, 101, 102, 61, 34]).size + r6.size : Nat) : Int) ≤ IntKind.i64.max ∧
 ((((ByteArray.mk #[60, 97, 32, 104, 114, 101, 102, 61, 34]) ++ r6).size + (ByteArray.mk #[34]).size : Nat) : Int) ≤ IntKind.i64.max ∧
 callE P i_bytes_Buffer_WriteString #[.pointer x1, .string (((ByteArray.mk #[60, 97, 32, 104, 114, 101, 102, 61, 34]) ++ r6) ++ (ByteArray.mk #[34]))] (fun e w9 => ∃ (r8_0 : Int), ∃ (r8_1 : Value), e = .returned (.tuple #[.int .i64 r8_0, r8_1]) ∧
 nilP x0 fun a10 =>
 ∃ (v11 : BA), w9.cell? (a10.add 2) = some (.string v11) ∧
 br (!(v11.toList == (ByteArray.mk #[]).toList))
 (tk w9 fun w12 =>
 nilP x0 fun a13 =>
 ∃ (v14 : BA), w12.cell? (a13.add 2) = some (.string v14) ∧
 callE P i_htmlQuoteEscaper #[] (fun e w16 => ∃ (r15q : OA), ∃ (r15n : Nat), ∃ (r15c : Nat), e = .returned (.slice r15q r15n r15c) ∧
 SameC w12 w16 (a13.add 2) 1 ∧
 callE P i_zzPairs_Replace #[.slice r15q r15n r15c, .string v14] (fun e w18 => ∃ (r17 : BA), e = .returned (.string r17) ∧
 (((ByteArray.mk #[32, 116, 105, 116, 108, 101, 61, 34]).size + r17.size : Nat) : Int) ≤ IntKind.i64.max ∧
 ((((ByteArray.mk #[32, 116, 105, 116, 108, 101, 61, 34]) ++ r17).size + (ByteArray.mk #[34]).size : Nat) : Int) ≤ IntKind.i64.max ∧
 callE P i_bytes_Buffer_WriteString #[.pointer x1, .string (((ByteArray.mk #[32, 116, 105, 116, 108, 101, 61, 34]) ++ r17) ++ (ByteArray.mk #[34]))] (fun e w20 => ∃ (r19_0 : Int), ∃ (r19_1 : Value), e = .returned (.tuple #[.int .i64 r19_0, r19_1]) ∧
 g_Link_PrintHTML.k1 R x0 x1 w20) w18) w16) w12)
 (g_Link_PrintHTML.k1 R x0 x1 w9)) w7) w5) w1

noncomputable def g_Link_PrintHTML.ac (R : EP) : AC :=
  (.seq (.draw (.pure 0 (.pure 2 (.pure 3 (.pure 4 (.load 5 (.one 1 (.one 6 (.pure 7 (.pure 8 (.one 9 .done)))))))))) (sel [0] g_Link_PrintHTML.body)) (.seq (.seq (.leaf (sel [1, 0, 0] g_Link_PrintHTML.body)) (.cond 20 (.draw (.pure 0 (.pure 2 (.pure 3 (.pure 4 (.load 5 (.one 1 (.one 6 (.pure 7 (.pure 8 (.one 9 .done)))))))))) (sel [1, 0, 1, 0] g_Link_PrintHTML.body)) (.leaf (sel [1, 0, 1, 1] g_Link_PrintHTML.body)))) (.mark (leaf [(0, .s .ptr), (1, .s .ptr)] (g_Link_PrintHTML.k1 R)) (.seq (.leaf (sel [1, 1, 0] g_Link_PrintHTML.body)) (.seq (.seq (.leaf (sel [1, 1, 1, 0, 0] g_Link_PrintHTML.body)) (.block 0 (.loop (leaf [(1, .s .ptr), (36, .s .slice), (37, .s (.int .i64)), (38, .s (.int .i64))] (g_Link_PrintHTML.l1 R)) (sel [1, 1, 1, 0, 1, 0, 0] g_Link_PrintHTML.body)))) (.leaf (sel [1, 1, 1, 1] g_Link_PrintHTML.body)))))))
theorem g_Link_PrintHTML.good (R : EP) : Good P 48 (g_Link_PrintHTML.ac R) (QF P [] R) :=
  ⟨⟨by kernel_rfl, by kernel_rfl, fun _ _ _ h => h⟩, ⟨⟨trivial, ⟨⟨by kernel_rfl, by kernel_rfl, fun _ _ _ h => h⟩, trivial⟩⟩, ⟨⟨trivial, ⟨⟨trivial, (loopG (g_Link_PrintHTML.al1 R) (g_Link_PrintHTML.bl1 R) (fun _ => by kernel_rfl) (fun Xa => trivial) (fun Xa => by intro x1 x36q x36n x36c x37 x38 ρ w; kernel_rfl) (fun X h _ _ _ _ _ _ _ g => g X h))⟩, trivial⟩⟩, cutE (by intro x0 x1 ρ w; kernel_rfl)⟩⟩⟩
theorem g_Link_PrintHTML.eq (R : EP) (x0 : OA) (x1 : OA) (w : World) : g_Link_PrintHTML R x0 x1 w = vcA P 48 (g_Link_PrintHTML.ac R) (QF P [] R) (fr0 [.pointer x0, .pointer x1]) w := by kernel_rfl
theorem g_Link_PrintHTML.sound {R : EP} {x0 : OA} {x1 : OA} {w : World} (h : g_Link_PrintHTML R x0 x1 w) : callE P i_Link_PrintHTML #[.pointer x0, .pointer x1] R w :=
  callE_fin (c := g_Link_PrintHTML.body) Tryz.func250 Tryz.call250 (by kernel_rfl) (by kernel_rfl) (by kernel_rfl) (by kernel_rfl) (by kernel_rfl) (g_Link_PrintHTML.good R) (g_Link_PrintHTML.eq R x0 x1 w) h
namespace g_SoftBreak_PrintHTML
noncomputable def body : Code := bodyOf Tryz.f291
end g_SoftBreak_PrintHTML
def g_SoftBreak_PrintHTML (R : EP) (x0 : OA) (x1 : OA) (w : World) : Prop :=
 callE P i_bytes_Buffer_WriteString #[.pointer x1, .string (ByteArray.mk #[10])] (fun e w2 => ∃ (r1_0 : Int), ∃ (r1_1 : Value), e = .returned (.tuple #[.int .i64 r1_0, r1_1]) ∧
 R (.returned (.tuple #[])) w2) w

noncomputable def g_SoftBreak_PrintHTML.ac (R : EP) : AC :=
  (.leaf (sel [] g_SoftBreak_PrintHTML.body))
theorem g_SoftBreak_PrintHTML.good (R : EP) : Good P 6 (g_SoftBreak_PrintHTML.ac R) (QF P [] R) :=
  trivial
theorem g_SoftBreak_PrintHTML.eq (R : EP) (x0 : OA) (x1 : OA) (w : World) : g_SoftBreak_PrintHTML R x0 x1 w = vcA P 6 (g_SoftBreak_PrintHTML.ac R) (QF P [] R) (fr0 [.pointer x0, .pointer x1]) w := by kernel_rfl
theorem g_SoftBreak_PrintHTML.sound {R : EP} {x0 : OA} {x1 : OA} {w : World} (h : g_SoftBreak_PrintHTML R x0 x1 w) : callE P i_SoftBreak_PrintHTML #[.pointer x0, .pointer x1] R w :=
  callE_fin (c := g_SoftBreak_PrintHTML.body) Tryz.func291 Tryz.call291 (by kernel_rfl) (by kernel_rfl) (by kernel_rfl) (by kernel_rfl) (by kernel_rfl) (g_SoftBreak_PrintHTML.good R) (g_SoftBreak_PrintHTML.eq R x0 x1 w) h
end Go.Proofs.YtihmcipajjakgaaGreatDoor

set_option linter.unusedVariables false
namespace Go.Proofs.YtihmcipajjakgaaGreatDoor
open Go.Proofs Go.IntWalk Go.RowKit
variable {σ : Out} {w : World} {L L' : List Chunk} {R : Ending → World → Prop}
def methB1 (P : Program) (t : TypeId) (name : String) (f : FuncId) : Bool :=
  match P.info? t with
  | some i => match i.methods.find? (·.name == name) with
    | some m => match m.path.toList with
      | [s] => s.deref && (match P.underlying s.struct with
        | some (.struct fields) => match fields[s.index]? with
          | some fd => Nat.beq fd.offset 0 && (match P.info? fd.type with
            | some ti => !(Nat.beq ti.size 0) && (match P.underlying fd.type with
              | some (.struct _) => (match m.func with | some (g, true) => Nat.beq g f | _ => false)
              | _ => false)
            | none => false)
          | none => false
        | _ => false)
      | _ => false
    | none => false
  | none => false
theorem methB1_run {P : Program} {t : TypeId} {name : String} {f : FuncId} (h : methB1 P t name f = true) (b : Nat) (fuel : Nat) (w : World) :
    (Go.method (fuel + 1) t (.pointer (some ⟨b, 0, none⟩)) name).run P w = .ok (f, .pointer (some ⟨b, 0, none⟩)) w := by
  unfold methB1 at h
  split at h
  · rename_i i hi
    split at h
    · rename_i m hm
      split at h
      · rename_i s hp
        simp only [Bool.and_eq_true] at h
        obtain ⟨hd, h⟩ := h
        split at h
        · rename_i fields hu
          split at h
          · rename_i fd hf
            simp only [Bool.and_eq_true] at h
            obtain ⟨h0, h⟩ := h
            have h0 := Nat.eq_of_beq_eq_true h0
            split at h
            · rename_i ti hti
              simp only [Bool.and_eq_true, Bool.not_eq_true'] at h
              obtain ⟨hsz, h⟩ := h
              have hsz : ti.size ≠ 0 := by intro h1; rw [h1] at hsz; simp at hsz
              split at h
              · rename_i fs hfu
                split at h
                · rename_i g hg
                  have hgf := Nat.eq_of_beq_eq_true h
                  subst hgf
                  simp [Go.method, typeInfo, hi, hm, hp, Go.follow, run_underlying hu, hf, hd, Go.Place.get, asAddr, Go.fieldPlace, sizeOf, hti, hsz, h0, hg, Go.receiverAt, run_underlying hfu, Addr.add_lit]
                · cases h
              · cases h
            · cases h
          · cases h
        · cases h
      · cases h
    · cases h
  · cases h
theorem enter_meth1 {t : TypeId} {name : String} {f : FuncId} {b : Nat} {args : Array Value} (hm : methB1 P t name f = true) (h : callE P f (#[.pointer (some ⟨b, 0, none⟩)] ++ args) R w) :
    enterE P (callMethod (.iface t (.pointer (some ⟨b, 0, none⟩))) name args) R w := by
  obtain ⟨n, hn⟩ := depth_succ P
  have hr := methB1_run hm b n w
  have e : (callMethod (.iface t (.pointer (some ⟨b, 0, none⟩))) name args).run P w = (callFunc f (#[.pointer (some ⟨b, 0, none⟩)] ++ args)).run P w := by
    simp only [callMethod, Sem.run_bind, run_program, Result.andThen_ok, hn, hr]
  unfold enterE
  rw [e]
  exact h.imp (fun h => ⟨f, _, w, h.1 _ _, h.2⟩) id
theorem meth_EscapedP : methB1 P ty_P_Escaped "PrintHTML" i_Plain_PrintHTML = true := by kernel_rfl
theorem meth_Soft : methB P ty_P_SoftBreak "PrintHTML" i_SoftBreak_PrintHTML = true := by kernel_rfl
theorem meth_Hard : methB P ty_P_HardBreak "PrintHTML" i_HardBreak_PrintHTML = true := by kernel_rfl
theorem meth_Auto : methB P ty_P_AutoLink "PrintHTML" i_AutoLink_PrintHTML = true := by kernel_rfl
theorem meth_Link : methB P ty_P_Link "PrintHTML" i_Link_PrintHTML = true := by kernel_rfl
theorem esc_prints {pb : Nat} {s : List UInt8} {cs : List Value} {e : TypeId} (hs : s.length < 4294967296) :
    Prints "PrintHTML" (.iface ty_P_Escaped (.pointer (some ⟨pb, 0, none⟩))) [(pb, cel (.string (bs s) :: cs) e)] [(pb, cel (.string (bs s) :: cs) e)] (ab (escS htmlPs s)) := by
  refine ⟨ab_le _, fun σ R b l M L w hB h hb hR => enter_meth1 meth_EscapedP ?_⟩
  exact plainPrint_ok hB h hs (Nat.le_trans (ab_le _ l) hb) hR
def softT : List UInt8 := [10]
def hardT : List UInt8 := [60, 98, 114, 32, 47, 62, 10]
theorem soft_prints {b : Nat} {T : List Chunk} : Prints "PrintHTML" (ptrV ty_P_SoftBreak b) T T (ab softT) := by
  refine ⟨ab_le _, fun σ R bb l M L w hB h hb hR => enter_meth meth_Soft ?_⟩
  refine g_SoftBreak_PrintHTML.sound ?_
  have hb' : (l ++ softT).length ≤ 549755813888 := hb
  rw [List.length_append] at hb'
  exact writeS_ok (s := softT) hB h (by omega) fun w M hB h => ⟨_, _, rfl, hR w M hB h⟩
theorem hard_prints {b : Nat} {T : List Chunk} : Prints "PrintHTML" (ptrV ty_P_HardBreak b) T T (ab hardT) := by
  refine ⟨ab_le _, fun σ R bb l M L w hB h hb hR => enter_meth meth_Hard ?_⟩
  refine g_HardBreak_PrintHTML.sound ?_
  have hb' : (l ++ hardT).length ≤ 549755813888 := hb
  rw [List.length_append] at hb'
  exact writeS_ok (s := hardT) hB h (by omega) fun w M hB h => ⟨_, _, rfl, hR w M hB h⟩
def aHref : List UInt8 := [60, 97, 32, 104, 114, 101, 102, 61, 34]
def aEnd : List UInt8 := [60, 47, 97, 62]
def tAttr : List UInt8 := [32, 116, 105, 116, 108, 101, 61, 34]
theorem linkPs8 : small8 linkPs = true := by decide
theorem linkPs_len : linkPs.length = 170 := by kernel_rfl
theorem linkReplace_ok {pb c : Nat} {e : TypeId} {s : List UInt8} (h : Sat σ w L) (hp : (pb, cel (pairC linkPs) e) ∈ L) (hs : s.length < 4294967296) (hR : ∀ w, Sat σ w L → R (.returned (.string (bs (escS linkPs s)))) w) :
    callE P i_zzPairs_Replace #[.slice (some ⟨pb, 0, none⟩) 340 c, .string (bs s)] R w := by
  have := pairsReplace_ok (c := c) (R := R) h hp linkPs8 (by rw [linkPs_len]; decide) hs hR
  rw [linkPs_len] at this
  exact this
theorem auto_prints {b : Nat} {e : TypeId} {t u : List UInt8} (ht : t.length < 100000000) (hu : u.length < 100000000) :
    Prints "PrintHTML" (ptrV ty_P_AutoLink b) [(b, cel [.string (bs t), .string (bs u)] e)] [(b, cel [.string (bs t), .string (bs u)] e)] (ab (aHref ++ escS linkPs u ++ [34, 62] ++ escS htmlPs t ++ aEnd)) := by
  refine ⟨ab_le _, fun σ R bb l M L w hB h hb hR => enter_meth meth_Auto ?_⟩
  have hmax : IntKind.i64.max = 9223372036854775807 := rfl
  have l1 := escS_length linkPs8 u
  have l2 := escS_length (ps := htmlPs) (by decide) t
  have hb' : (l ++ (aHref ++ escS linkPs u ++ [34, 62] ++ escS htmlPs t ++ aEnd)).length ≤ 549755813888 := hb
  rw [List.length_append] at hb'
  refine g_AutoLink_PrintHTML.sound ?_
  refine Sat.tk h fun w h => ?_
  refine nilP_some (nilP_some ?_)
  have hm : ∀ {M : List Chunk}, (b, cel [.string (bs t), .string (bs u)] e) ∈ M ++ ([(b, cel [.string (bs t), .string (bs u)] e)] ++ L) := List.mem_append_right _ (.head _)
  refine ⟨_, Sat.ld h (i := 1) hm rfl, _, Sat.ld h (i := 0) hm rfl, ?_⟩
  have h0 := h
  refine htmlLinkEscaper_ok h fun w eb h => ⟨_, _, _, rfl, h0.same h hm (.tail _ hm) 1, h0.same h hm (.tail _ hm) 1, ?_⟩
  have h0 := h
  refine linkReplace_ok h (.head _) (by omega) fun w h => ⟨_, rfl, h0.same h (.tail _ hm) (.tail _ hm) 1, ?_⟩
  rw [show ByteArray.mk #[60, 97, 32, 104, 114, 101, 102, 61, 34] = bs aHref from rfl, show ByteArray.mk #[34, 62] = bs [34, 62] from rfl, show ByteArray.mk #[60, 47, 97, 62] = bs aEnd from rfl, bs_append, bs_append]
  refine ⟨by rw [hmax]; simp [aHref]; omega, by rw [hmax]; simp [aHref]; omega, ?_⟩
  have h0 := h
  refine htmlEscaper_ok h fun w eb2 h => ⟨_, _, _, rfl, h0.same h (.tail _ hm) (.tail _ (.tail _ hm)) 1, ?_⟩
  refine pairsReplace_ok (ps := htmlPs) h (.head _) (by decide) (by decide) (by omega) fun w h => ⟨_, rfl, ?_⟩
  rw [bs_append, bs_append]
  refine ⟨by rw [hmax]; simp [aHref]; omega, by rw [hmax]; simp [aHref, aEnd]; omega, ?_⟩
  have h : Sat σ w (M ++ ([(b, cel [.string (bs t), .string (bs u)] e)] ++ L)) := h.tail.tail
  exact writeS_ok hB h (by omega) fun w M hB h => ⟨_, _, rfl, hR w M hB h⟩
def linkO (u t : List UInt8) : List UInt8 := aHref ++ escS linkPs u ++ [34] ++ (if t = [] then [] else tAttr ++ escS htmlPs t ++ [34]) ++ [62]
theorem link_prints {b : Nat} {e : TypeId} {u t : List UInt8} {cs : List Value} {q : Option Addr} {n c : Nat} {vs : List Value} {RM KM KM' : List Chunk} {f : List UInt8 → List UInt8} (hu : u.length < 100000000) (ht : t.length < 100000000) (hS : Sl 1 ty_Inline q n c vs RM) (hn : n < 4611686018427387904) (hP : PrintsL "PrintHTML" vs KM KM' f) :
    Prints "PrintHTML" (ptrV ty_P_Link b) ((b, cel (.slice q n c :: .string (bs u) :: .string (bs t) :: cs) e) :: (RM ++ KM)) ((b, cel (.slice q n c :: .string (bs u) :: .string (bs t) :: cs) e) :: (RM ++ KM')) (fun l => f (l ++ linkO u t) ++ aEnd) := by
  have hmax : IntKind.i64.max = 9223372036854775807 := rfl
  have l1 := escS_length linkPs8 u
  have l2 := escS_length (ps := htmlPs) (by decide) t
  refine ⟨fun l => ?_, fun σ R bb l M L w hB h hb hR => enter_meth meth_Link ?_⟩
  · have := hP.mono (l ++ linkO u t)
    simp only [List.length_append] at *; omega
  have hm := hP.mono (l ++ linkO u t)
  simp only [List.length_append] at hb hm
  refine g_Link_PrintHTML.sound ?_
  have hmem : ∀ {M : List Chunk}, (b, cel (.slice q n c :: .string (bs u) :: .string (bs t) :: cs) e) ∈ M ++ ((b, cel (.slice q n c :: .string (bs u) :: .string (bs t) :: cs) e) :: (RM ++ KM) ++ L) := List.mem_append_right _ (.head _)
  refine Sat.tk h fun w h => ?_
  refine nilP_some ⟨_, Sat.ld h (i := 1) hmem rfl, ?_⟩
  have h0 := h
  refine htmlLinkEscaper_ok h fun w eb h => ⟨_, _, _, rfl, h0.same h hmem (.tail _ hmem) 1, ?_⟩
  refine linkReplace_ok h (.head _) (by omega) fun w h => ⟨_, rfl, ?_⟩
  rw [show ByteArray.mk #[60, 97, 32, 104, 114, 101, 102, 61, 34] = bs aHref from rfl, show ByteArray.mk #[34] = bs [34] from rfl, bs_append, bs_append]
  have hlo : (linkO u t).length = (aHref ++ escS linkPs u ++ [34]).length + (if t = [] then [] else tAttr ++ escS htmlPs t ++ [34] : List UInt8).length + 1 := by simp [linkO]; omega
  refine ⟨by rw [hmax]; simp [aHref]; omega, by rw [hmax]; simp [aHref]; omega, ?_⟩
  have h : Sat σ w (M ++ ((b, cel (.slice q n c :: .string (bs u) :: .string (bs t) :: cs) e) :: (RM ++ KM) ++ L)) := h.tail
  refine writeS_ok hB h (by omega) fun w M hB h => ⟨_, _, rfl, ?_⟩
  refine nilP_some ⟨_, Sat.ld h (i := 2) hmem rfl, ?_⟩
  have k1 : ∀ w M, Buf bb (l ++ (aHref ++ escS linkPs u ++ [34] ++ (if t = [] then [] else tAttr ++ escS htmlPs t ++ [34]))) M → Sat σ w (M ++ ((b, cel (.slice q n c :: .string (bs u) :: .string (bs t) :: cs) e) :: (RM ++ KM) ++ L)) → g_Link_PrintHTML.k1 R (some ⟨b, 0, none⟩) (some ⟨bb, 0, none⟩) w := by
    intro w M hB h
    refine writeS_ok (s := [62]) hB h (by simp only [List.length_append, List.length_cons, List.length_nil] at hlo ⊢; omega) fun w M hB h => ⟨_, _, rfl, ?_⟩
    refine nilP_some ⟨_, _, _, Sat.ld h (i := 0) hmem rfl, ?_⟩
    intro X hX
    have e1 : l ++ (aHref ++ escS linkPs u ++ [34] ++ (if t = [] then [] else tAttr ++ escS htmlPs t ++ [34])) ++ [62] = l ++ linkO u t := by simp [linkO]
    rw [e1] at hB
    have h : Sat σ w (M ++ (RM ++ (KM ++ ((b, cel (.slice q n c :: .string (bs u) :: .string (bs t) :: cs) e) :: L)))) := h.re (by intro _; simp only [List.append_eq, cnt_append, cnt_cons, cnt_nil] <;> omega)
    refine printLoop (X := fun j w => X (some ⟨bb, 0, none⟩) q n c (n : Int) j w) (END := fun w => callE P i_bytes_Buffer_WriteString #[.pointer (some ⟨bb, 0, none⟩), .string (bs aEnd)] (fun e w10 => ∃ (r9_0 : Int), ∃ (r9_1 : Value), e = .returned (.tuple #[.int .i64 r9_0, r9_1]) ∧ R (.returned (.tuple #[])) w10) w) hS (fun j w hj => hX _ _ _ _ _ _ _ hj) hP hB h hn (by simp only [List.length_append] at *; omega) fun w M' hB h => ?_
    refine writeS_ok (s := aEnd) hB h (by simp only [List.length_append] at *; omega) fun w M hB h => ⟨_, _, rfl, ?_⟩
    exact hR w M hB (h.re (by intro _; simp only [List.append_eq, cnt_append, cnt_cons, cnt_nil] <;> omega))
  by_cases ht0 : t = []
  · refine br_false (by rw [ht0, bs_toList, mk_toList]; rfl) (k1 w M ?_ h)
    rw [if_pos ht0, List.append_nil]; exact hB
  · refine br_true (by rw [bs_toList, mk_toList]; simpa using ht0) ?_
    rw [if_neg ht0] at hlo
    simp only [List.length_append, List.length_cons, List.length_nil] at hlo
    refine Sat.tk h fun w h => ?_
    refine nilP_some ⟨_, Sat.ld h (i := 2) hmem rfl, ?_⟩
    have h0 := h
    refine htmlQuoteEscaper_ok h fun w eb h => ⟨_, _, _, rfl, h0.same h hmem (.tail _ hmem) 1, ?_⟩
    refine pairsReplace_ok (ps := htmlPs) h (.head _) (by decide) (by decide) (by omega) fun w h => ⟨_, rfl, ?_⟩
    rw [show ByteArray.mk #[32, 116, 105, 116, 108, 101, 61, 34] = bs tAttr from rfl, bs_append, bs_append]
    refine ⟨by rw [hmax]; simp [tAttr]; omega, by rw [hmax]; simp [tAttr]; omega, ?_⟩
    have h : Sat σ w (M ++ ((b, cel (.slice q n c :: .string (bs u) :: .string (bs t) :: cs) e) :: (RM ++ KM) ++ L)) := h.tail
    refine writeS_ok hB h (by simp only [List.length_append, List.length_cons, List.length_nil] at hlo ⊢; omega) fun w M hB h => ⟨_, _, rfl, k1 w M ?_ h⟩
    rw [if_neg ht0, ← List.append_assoc]; exact hB
end Go.Proofs.YtihmcipajjakgaaGreatDoor


set_option linter.unusedVariables false
namespace Go.Proofs.YtihmcipajjakgaaGreatDoor
open Go.Proofs Go.IntWalk Go.RowKit
variable {σ : Out} {w : World} {L L' : List Chunk} {R : Ending → World → Prop}
theorem meth_Strong : methB P ty_P_Strong "PrintHTML" i_Strong_PrintHTML = true := by kernel_rfl
theorem meth_Emph : methB P ty_P_Emph "PrintHTML" i_Emph_PrintHTML = true := by kernel_rfl
def oStrong : List UInt8 := [60, 115, 116, 114, 111, 110, 103, 62]
def cStrong : List UInt8 := [60, 47, 115, 116, 114, 111, 110, 103, 62]
def oEm : List UInt8 := [60, 101, 109, 62]
def cEm : List UInt8 := [60, 47, 101, 109, 62]
theorem strong_prints {b : Nat} {e : TypeId} {m : Value} {q : Option Addr} {n c : Nat} {vs : List Value} {RM KM KM' : List Chunk} {f : List UInt8 → List UInt8} (hS : Sl 1 ty_Inline q n c vs RM) (hn : n < 4611686018427387904) (hP : PrintsL "PrintHTML" vs KM KM' f) :
    Prints "PrintHTML" (.iface ty_P_Strong (.pointer (some ⟨b, 0, none⟩))) ((b, cel [m, .slice q n c] e) :: (RM ++ KM)) ((b, cel [m, .slice q n c] e) :: (RM ++ KM')) (fun l => f (l ++ oStrong) ++ cStrong) := by
  refine ⟨fun l => ?_, fun σ R bb l M L w hB h hb hR => enter_meth meth_Strong ?_⟩
  · have := hP.mono (l ++ oStrong)
    simp only [List.length_append] at *; omega
  refine g_Strong_PrintHTML.sound ?_
  have hm := hP.mono (l ++ oStrong)
  simp only [List.length_append] at hb hm
  refine writeS_ok (s := oStrong) hB h (by omega) fun w M hB h => ⟨_, _, rfl, ?_⟩
  refine nilP_some ?_
  refine ⟨_, _, _, Sat.ld h (List.mem_append_right _ (.head _)) rfl, ?_⟩
  intro X hX
  have h : Sat σ w (M ++ (RM ++ (KM ++ ((b, cel [m, .slice q n c] e) :: L)))) := h.re (by intro _; simp only [List.append_eq, cnt_append, cnt_cons, cnt_nil] <;> omega)
  refine printLoop (X := fun j w => X (some ⟨bb, 0, none⟩) q n c (n : Int) j w) (END := fun w => callE P i_bytes_Buffer_WriteString #[.pointer (some ⟨bb, 0, none⟩), .string (bs cStrong)] (fun e w10 => ∃ (r9_0 : Int), ∃ (r9_1 : Value), e = .returned (.tuple #[.int .i64 r9_0, r9_1]) ∧ R (.returned (.tuple #[])) w10) w) hS (fun j w hj => hX _ _ _ _ _ _ _ hj) hP hB h hn (by omega) fun w M' hB h => ?_
  refine writeS_ok (s := cStrong) hB h (by omega) fun w M hB h => ⟨_, _, rfl, ?_⟩
  exact hR w M hB (h.re (by intro _; simp only [List.append_eq, cnt_append, cnt_cons, cnt_nil] <;> omega))
theorem em_prints {b : Nat} {e : TypeId} {m : Value} {q : Option Addr} {n c : Nat} {vs : List Value} {RM KM KM' : List Chunk} {f : List UInt8 → List UInt8} (hS : Sl 1 ty_Inline q n c vs RM) (hn : n < 4611686018427387904) (hP : PrintsL "PrintHTML" vs KM KM' f) :
    Prints "PrintHTML" (.iface ty_P_Emph (.pointer (some ⟨b, 0, none⟩))) ((b, cel [m, .slice q n c] e) :: (RM ++ KM)) ((b, cel [m, .slice q n c] e) :: (RM ++ KM')) (fun l => f (l ++ oEm) ++ cEm) := by
  refine ⟨fun l => ?_, fun σ R bb l M L w hB h hb hR => enter_meth meth_Emph ?_⟩
  · have := hP.mono (l ++ oEm)
    simp only [List.length_append] at *; omega
  refine g_Emph_PrintHTML.sound ?_
  have hm := hP.mono (l ++ oEm)
  simp only [List.length_append] at hb hm
  refine writeS_ok (s := oEm) hB h (by omega) fun w M hB h => ⟨_, _, rfl, ?_⟩
  refine nilP_some ?_
  refine ⟨_, _, _, Sat.ld h (List.mem_append_right _ (.head _)) rfl, ?_⟩
  intro X hX
  have h : Sat σ w (M ++ (RM ++ (KM ++ ((b, cel [m, .slice q n c] e) :: L)))) := h.re (by intro _; simp only [List.append_eq, cnt_append, cnt_cons, cnt_nil] <;> omega)
  refine printLoop (X := fun j w => X (some ⟨bb, 0, none⟩) q n c (n : Int) j w) (END := fun w => callE P i_bytes_Buffer_WriteString #[.pointer (some ⟨bb, 0, none⟩), .string (bs cEm)] (fun e w10 => ∃ (r9_0 : Int), ∃ (r9_1 : Value), e = .returned (.tuple #[.int .i64 r9_0, r9_1]) ∧ R (.returned (.tuple #[])) w10) w) hS (fun j w hj => hX _ _ _ _ _ _ _ hj) hP hB h hn (by omega) fun w M' hB h => ?_
  refine writeS_ok (s := cEm) hB h (by omega) fun w M hB h => ⟨_, _, rfl, ?_⟩
  exact hR w M hB (h.re (by intro _; simp only [List.append_eq, cnt_append, cnt_cons, cnt_nil] <;> omega))
mutual
def outI : Inl → List UInt8
  | .plain s => escS htmlPs s
  | .strong _ ks => oStrong ++ outL ks ++ cStrong
  | .emph _ ks => oEm ++ outL ks ++ cEm
  | .esc s => escS htmlPs s
  | .auto t u => aHref ++ escS linkPs u ++ [34, 62] ++ escS htmlPs t ++ aEnd
  | .link ks u t _ _ => linkO u t ++ outL ks ++ aEnd
  | .soft => softT
  | .hard => hardT
  | _ => []
def outL : List Inl → List UInt8
  | [] => []
  | t :: ts => outI t ++ outL ts
end
mutual
def okI : Inl → Prop
  | .plain s => s.length < 4294967296
  | .strong _ ks => okL ks ∧ ks.length < 1073741824
  | .emph _ ks => okL ks ∧ ks.length < 1073741824
  | .esc s => s.length < 4294967296
  | .auto t u => t.length < 100000000 ∧ u.length < 100000000
  | .link ks u t _ _ => okL ks ∧ ks.length < 1073741824 ∧ u.length < 100000000 ∧ t.length < 100000000
  | .soft => True
  | .hard => True
  | _ => False
def okL : List Inl → Prop
  | [] => True
  | t :: ts => okI t ∧ okL ts
end
theorem Prints.as {m : String} {v : Value} {T T' : List Chunk} {f g : List UInt8 → List UInt8} (h : Prints m v T T' f) (e : f = g) : Prints m v T T' g := e ▸ h
theorem PrintsL.as {m : String} {v : List Value} {T T' : List Chunk} {f g : List UInt8 → List UInt8} (h : PrintsL m v T T' f) (e : f = g) : PrintsL m v T T' g := e ▸ h
mutual
theorem inl_prints : ∀ (t : Inl) (v : Value) (M : List Chunk), InlAt t v M → okI t → Prints "PrintHTML" v M M (ab (outI t))
  | .plain s, v, M, h, ho => by
    obtain ⟨b, cs, e, rfl, rfl⟩ := h
    exact plain_prints ho
  | .strong m ks, v, M, h, ho => by
    obtain ⟨b, e, q, n, c, vs, RM, KM, rfl, rfl, hS, hI⟩ := h
    have hl := hI.length
    have h0 := hS.1
    have h1 := ho.2
    refine (strong_prints hS (by omega) (inls_print ks vs KM hI ho.1)).as ?_
    funext l
    simp [ab, outI]
  | .emph m ks, v, M, h, ho => by
    obtain ⟨b, e, q, n, c, vs, RM, KM, rfl, rfl, hS, hI⟩ := h
    have hl := hI.length
    have h0 := hS.1
    have h1 := ho.2
    refine (em_prints hS (by omega) (inls_print ks vs KM hI ho.1)).as ?_
    funext l
    simp [ab, outI]
  | .esc s, v, M, h, ho => by
    obtain ⟨b, e, rfl, rfl⟩ := h
    exact esc_prints ho
  | .auto t u, v, M, h, ho => by
    obtain ⟨b, e, rfl, rfl⟩ := h
    exact auto_prints ho.1 ho.2
  | .link ks u t tc k, v, M, h, ho => by
    obtain ⟨b, e, q, n, c, vs, RM, KM, rfl, rfl, hS, hI⟩ := h
    have hl := hI.length
    have h0 := hS.1
    obtain ⟨h1, h2, h3, h4⟩ := ho
    refine (link_prints h3 h4 hS (by omega) (inls_print ks vs KM hI h1)).as ?_
    funext l
    simp [ab, outI]
  | .soft, v, M, h, ho => by
    obtain ⟨b, e, rfl, rfl⟩ := h
    exact soft_prints
  | .hard, v, M, h, ho => by
    obtain ⟨b, e, rfl, rfl⟩ := h
    exact hard_prints
  | .openP _ _, v, M, h, ho => absurd ho id
  | .emphP _ _ _ _ _, v, M, h, ho => absurd ho id
  | .code _, v, M, h, ho => absurd ho id
  | .del _ _, v, M, h, ho => absurd ho id
  | .image _ _ _ _ _, v, M, h, ho => absurd ho id
  | .tag _, v, M, h, ho => absurd ho id
  | .task _, v, M, h, ho => absurd ho id
theorem inls_print : ∀ (ts : List Inl) (vs : List Value) (M : List Chunk), InlsAt ts vs M → okL ts → PrintsL "PrintHTML" vs M M (ab (outL ts))
  | [], vs, M, h, ho => by
    obtain ⟨rfl, rfl⟩ := h
    exact PrintsL.nil.as (by funext l; simp [ab, outL])
  | t :: ts, vs, M, h, ho => by
    obtain ⟨v, vs', M1, M2, rfl, rfl, h1, h2⟩ := h
    refine (PrintsL.cons (inl_prints t v M1 h1 ho.1) (inls_print ts vs' M2 h2 ho.2)).as ?_
    funext l
    simp [ab, outL]
end
end Go.Proofs.YtihmcipajjakgaaGreatDoor

