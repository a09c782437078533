/- Part 6 of the proof of the law FnLink: for every input the law returns true, the inputs read as they did, and memory that was there is as it was; under the conditions of the given row alone. -/
import Derived.OpenShut
import Derived.ChangeMaps5
import Derived.MakeChecks
import Derived.LaidSub
import Derived.FnData
import Derived.Test.YtmicoampfglaiaaGreatDoorA5
set_option linter.all false
/- emph: the whole. -/
set_option linter.unusedVariables false
namespace Go.Proofs.YtmicoampfglaiaaGreatDoor
open Go.Proofs Go.IntWalk Go.RowKit
variable {σ : Out} {w : World} {L L' : List Chunk} {R : Ending → World → Prop}
def headOf : Inl → Option UInt8
  | .emphP s _ _ _ _ => s.head?
  | _ => none
/-- Delimiter runs are runs of one character each, and two that touch are of two characters. -/
def wfE (ts : List Inl) : Prop := ∀ s co cc i n, Inl.emphP s co cc i n ∈ ts → s ≠ [] ∧ (∃ c, isEm c ∧ AllC c s) ∧ s.length < 1000000000 ∧ 0 ≤ n ∧ n ≤ 1000000000
def apartE : Option UInt8 → List Inl → Prop
  | _, [] => True
  | h, t :: ts => (h = none ∨ headOf t ≠ h) ∧ apartE (headOf t) ts
theorem em1_ok {c : UInt8} (hc : isEm c) (hR : R (.returned (.int .i64 (ixOf c : Nat))) w) : callE P i_parseState_emph_1 #[.int .u8 (c.toNat : Int)] R w := by
  refine g_parseState_emph_1.sound ?_
  refine indexByte2_ok (l := [95, 42, 126, 34, 39]) ⟨_, rfl, ?_⟩
  rcases hc with rfl | rfl
  · exact hR
  · exact hR
theorem stk_app {b3 m pb ix : Nat} {S : List STK} {s : STK} {SM : List Chunk} (h5 : S.length = 5) (hs : S[ix]? = some s) (hS : StksAt S SM) (hsm : s.ent.length < 999999999) (h : Sat σ w (stkC b3 S :: (SM ++ L)))
    {K : World → Prop} (hK : ∀ w s' SM', s'.ent = s.ent ++ [(pb, m)] → StksAt (S.set ix s') SM' → Sat σ w (stkC b3 (S.set ix s') :: (SM' ++ L)) → K w) :
    nilP (some (⟨b3, ix, none⟩ : Addr)) fun a158 => ∃ (v159q : Option Addr), ∃ (v159n : Nat), ∃ (v159c : Nat), w.cell? a158 = some (.slice v159q v159n v159c) ∧
      ∃ (r160q : Option Addr), ∃ (r160n : Nat), ∃ (r160c : Nat), ∃ w161, (Instr.buildSlice ty_S_P_emphPlain 1 #[(0, .pointer (some ⟨pb, 0, none⟩))]).run P w = .ok (.slice r160q r160n r160c) w161 ∧
      ∃ (r162q : Option Addr), ∃ (r162n : Nat), ∃ (r162c : Nat), ∃ w163, (Builtin.append_ #[ty_S_P_emphPlain, ty_S_P_emphPlain] ty_S_P_emphPlain #[.slice v159q v159n v159c, .slice r160q r160n r160c]).run P w161 = .ok (.slice r162q r162n r162c) w163 ∧
      nilP (some (⟨b3, ix, none⟩ : Addr)) fun a164 => stV w163 (a164.add 0) (.slice r162q r162n r162c) fun w165 => K w165 := by
  have hixl := (List.getElem?_eq_some_iff.1 hs).1
  have hsplit : S = S.take ix ++ s :: S.drop (ix + 1) := by
    have hg : S[ix] = s := (List.getElem?_eq_some_iff.1 hs).2
    rw [← hg, ← List.drop_eq_getElem_cons hixl, List.take_append_drop]
  have hset : ∀ s' : STK, S.set ix s' = S.take ix ++ s' :: S.drop (ix + 1) := by
    intro s'; rw [List.set_eq_take_append_cons_drop, if_pos hixl]
  have hal : (S.take ix).length = ix := by rw [List.length_take]; omega
  rw [hsplit] at hS h
  obtain ⟨M1, M2, M3, rfl, h1, h2, h3⟩ := hS.split
  have hn := h2.1
  simp at hn
  refine nilP_some ⟨_, _, _, stk_cell h hal.symm, ?_⟩
  have h : Sat σ w (M2 ++ (stkC b3 (S.take ix ++ s :: S.drop (ix + 1)) :: (M1 ++ (M3 ++ L)))) := h.re (by intro _; simp only [List.append_eq, cnt_append, cnt_cons, cnt_nil] <;> omega)
  refine Sat.app1 rowEP h2 h (v := .pointer (some ⟨pb, 0, none⟩)) rfl (by simp [Value.cells, Value.oneCell']) (by kernel_rfl) (by omega) (by omega) (by decide) fun q' c' w' M' hS' h => ?_
  have h : Sat σ w' (stkC b3 (S.take ix ++ s :: S.drop (ix + 1)) :: (M1 ++ (M' ++ (M3 ++ L)))) := h.re (by intro _; simp only [List.append_eq, cnt_append, cnt_cons, cnt_nil] <;> omega)
  refine nilP_some ?_
  simp only [Addr.add_lit, Nat.add_zero]
  refine stk_store (s' := ⟨q', s.n + 1, c', s.ent ++ [(pb, m)]⟩) h hal.symm fun w h => ?_
  refine hK w ⟨q', s.n + 1, c', s.ent ++ [(pb, m)]⟩ (M1 ++ (M' ++ M3)) rfl ?_ ?_
  · rw [hset]; exact h1.join (by unfold STK.ok; rw [List.map_append]; exact hS') h3
  · rw [hset]; exact h.re (by intro _; simp only [List.append_eq, cnt_append, cnt_cons, cnt_nil] <;> omega)
def EM0 (σ : Out) (b1 b3 : Nat) (dst rts : List Inl) (S : List STK) (off : Nat) (sq : Option Addr) (sn sc : Nat) (SR : List Chunk) (L : List Chunk) (w : World) : Prop :=
  ∃ dq dc dvs rvs DM SM RS RM, InlsAt dst dvs DM ∧ StksAt S SM ∧ S.length = 5 ∧ StkIn dst dvs S ∧ DRow dq dc dvs rvs off sq sn sc SR RS ∧ dst.length < 999999998 ∧ InlsAt rts rvs RM ∧
    Sat σ w (stkC b3 S :: (b1, cel [.slice dq dvs.length dc] ty_S_Inline) :: (SM ++ (DM ++ (RS ++ (RM ++ L)))))
def Late (c : UInt8) (dst : List Inl) (S : List STK) : Prop := ∀ s, S[ixOf c]? = some s → ∀ e ∈ s.ent, e.2 + 1 < dst.length
theorem StkIn.lt {dst : List Inl} {dvs : List Value} {S : List STK} (h : StkIn dst dvs S) : ∀ s ∈ S, ∀ e ∈ s.ent, e.2 < dst.length := by
  intro s hs e he
  obtain ⟨t, co, cc, n, h1, _⟩ := (h s hs).2.2 e he
  exact (List.getElem?_eq_some_iff.1 h1).1
theorem StkIn.grow {dst x : List Inl} {dvs y : List Value} {S : List STK} (h : StkIn dst dvs S) : StkIn (dst ++ x) (dvs ++ y) S := by
  intro s hs
  obtain ⟨a, b, c⟩ := h s hs
  refine ⟨a, b, fun e he => ?_⟩
  obtain ⟨t, co, cc, n, h1, h2, h3⟩ := c e he
  exact ⟨t, co, cc, n, by rw [List.getElem?_append_left (List.getElem?_eq_some_iff.1 h1).1]; exact h1, by rw [List.getElem?_append_left (List.getElem?_eq_some_iff.1 h2).1]; exact h2, h3⟩
end Go.Proofs.YtmicoampfglaiaaGreatDoor


/- emph: the loop over the source. -/
set_option linter.unusedVariables false
namespace Go.Proofs.YtmicoampfglaiaaGreatDoor
open Go.Proofs Go.IntWalk Go.RowKit
variable {σ : Out} {w : World} {L L' : List Chunk} {R : Ending → World → Prop}
theorem app_step {b1 b3 off b : Nat} {t : TypeId} {dq sq : Option Addr} {dc sn sc : Nat} {dvs rvs : List Value} {S : List STK} {SM DM SR RS : List Chunk} (hD : DRow dq dc dvs rvs (off + 1) sq sn sc SR RS) (hlen : dvs.length ≤ off) (hn : dvs.length < 1000000000)
    (h : Sat σ w (stkC b3 S :: (b1, cel [.slice dq dvs.length dc] ty_S_Inline) :: (SM ++ (DM ++ (RS ++ L))))) {C : World → Prop} (hC : ∀ w1 X, Sat σ w1 (X :: (stkC b3 S :: (b1, cel [.slice dq dvs.length dc] ty_S_Inline) :: (SM ++ (DM ++ (RS ++ L))))) → C w1) {K : World → Prop}
    (hK : ∀ w dq' dc' RS', DRow dq' dc' (dvs ++ [ptrV t b]) rvs (off + 1) sq sn sc SR RS' → Sat σ w (stkC b3 S :: (b1, cel [.slice dq' (dvs.length + 1) dc'] ty_S_Inline) :: (SM ++ (DM ++ (RS' ++ L)))) → K w) :
    ∃ rq rn rc w1, (Instr.buildSlice ty_S_Inline 1 #[(0, ptrV t b)]).run P w = .ok (.slice rq rn rc) w1 ∧ C w1 ∧
      ∃ q' n' c' w2, (Builtin.append_ #[ty_S_Inline, ty_S_Inline] ty_S_Inline #[.slice dq dvs.length dc, .slice rq rn rc]).run P w1 = .ok (.slice q' n' c') w2 ∧ stV w2 ⟨b1, 0, none⟩ (.slice q' n' c') K := by
  have hr : Sat σ w (RS ++ (stkC b3 S :: (b1, cel [.slice dq dvs.length dc] ty_S_Inline) :: (SM ++ (DM ++ L)))) := h.re (by intro _; simp only [List.append_eq, cnt_append, cnt_cons, cnt_nil] <;> omega)
  refine hD.app (ty := ty_S_Inline) hr (by omega) hn (C := C) (fun w1 X hw => hC w1 X (hw.re (by intro _; simp only [List.append_eq, cnt_append, cnt_cons, cnt_nil] <;> omega))) (K := fun q' n' c' w2 => stV w2 ⟨b1, 0, none⟩ (.slice q' n' c') K) fun dq' dc' RS' w' hD' h => ?_
  have h : Sat σ w' (stkC b3 S :: (b1, cel [.slice dq dvs.length dc] ty_S_Inline) :: (SM ++ (DM ++ (RS' ++ L)))) := h.re (by intro _; simp only [List.append_eq, cnt_append, cnt_cons, cnt_nil] <;> omega)
  refine Sat.st h (k := 1) rfl (Nat.zero_lt_succ _) trivial rfl fun w h => ?_
  exact hK w dq' dc' RS' hD' h
theorem nilP_of {q : Option Addr} {a : Addr} {K : Addr → Prop} (h : q = some a) (hK : K a) : nilP q K := by subst h; exact hK
theorem noC {A : Option Addr → Nat → Nat → World → Prop} {B : Option Addr → Nat → Nat → World → Prop} (h : ∃ rq rn rc w1, A rq rn rc w1 ∧ True ∧ B rq rn rc w1) : ∃ rq rn rc w1, A rq rn rc w1 ∧ B rq rn rc w1 := by
  obtain ⟨a, b, c, d, h1, _, h2⟩ := h
  exact ⟨a, b, c, d, h1, h2⟩
theorem emph_loop {Xa : XA} {b1 b3 : Nat} {sq : Option Addr} {sn sc : Nat} {SR : List Chunk} (hXa : ∀ x10 w, g_parseState_emph.bl1 R Xa sq sn sc b1 b3 cl1 (cl2 b3 b1) x10 w → Xa sq sn sc b1 b3 cl1 (cl2 b3 b1) x10 w) (hsn : sn < 999999990) (final : List Inl)
    (hR : ∀ w dq dc dvs DM RS, InlsAt final dvs DM → DRow dq dc dvs [] sn sq sn sc SR RS → dvs.length ≤ sn → Sat σ w (DM ++ (RS ++ L)) → R (.returned (.slice dq dvs.length dc)) w) :
    ∀ (rts dst : List Inl) (S : List STK) (off : Nat) (hd : Option UInt8) (w : World), EM0 σ b1 b3 dst rts S off sq sn sc SR L w → off + rts.length = sn → dst.length ≤ off → wfE rts → apartE hd rts → (∀ c, isEm c → hd ≠ some c → Late c dst S) →
      emphGo dst (idxs S) rts = final → Xa sq sn sc b1 b3 cl1 (cl2 b3 b1) (off : Int) w := by
  intro rts
  induction rts with
  | nil =>
    intro dst S off hd w h hoff hle hwf hap hlate hfin
    obtain ⟨dq, dc, dvs, rvs, DM, SM, RS, RM, hI, hSt, h5, hSI, hD, hdl, hrt, h⟩ := h
    obtain ⟨rfl, rfl⟩ := hrt
    have hvl := hI.length
    simp at hoff
    subst hoff
    refine hXa _ _ (br_false (by simp) ?_)
    refine ⟨_, _, _, Sat.ld h (.tail _ (.head _)) rfl, ?_⟩
    simp only [emphGo] at hfin
    simp only [List.nil_append] at h
    refine hR w dq dc dvs DM RS (by rw [← hfin]; exact hI) hD (by omega) ?_
    exact h.less (stkC b3 S :: (b1, cel [.slice dq dvs.length dc] ty_S_Inline) :: SM) (by intro _; simp only [List.append_eq, cnt_append, cnt_cons, cnt_nil] <;> omega)
  | cons t rts ih =>
    intro dst S off hd w h hoff hle hwf hap hlate hfin
    obtain ⟨dq, dc, dvs, rvs, DM, SM, RS, RM, hI, hSt, h5, hSI, hD, hdl, hrt, h⟩ := h
    obtain ⟨v, rvs', M1, M2, rfl, rfl, hv, hrest⟩ := hrt
    have hvl := hI.length
    simp at hoff
    have hread : ∀ w, Sat σ w (stkC b3 S :: (b1, cel [.slice dq dvs.length dc] ty_S_Inline) :: (SM ++ (DM ++ (RS ++ ((M1 ++ M2) ++ L))))) → ∃ rb so, sq = some ⟨rb, so, none⟩ ∧ w.cell? ⟨rb, so + off, none⟩ = some v := by
      intro w h
      have h : Sat σ w (RS ++ (stkC b3 S :: (b1, cel [.slice dq dvs.length dc] ty_S_Inline) :: (SM ++ (DM ++ ((M1 ++ M2) ++ L))))) := h.re (by intro _; simp only [List.append_eq, cnt_append, cnt_cons, cnt_nil] <;> omega)
      exact hD.read h
    have hDc := hD.consume
    have hwf' : wfE rts := fun s co cc i n hm => hwf s co cc i n (.tail _ hm)
    have e1 : IntKind.i64.wrap ((off : Int) + 1) = ((off + 1 : Nat) : Int) := i64_inc (by omega)
    have hlt := hSI.lt
    -- an element that is appended; then the next one
    have next : ∀ w (t' : Inl) (ty : TypeId) (b : Nat) (M1' : List Chunk), InlAt t' (ptrV ty b) M1' → emphGo (dst ++ [t']) (idxs S) rts = final → ∀ dq' dc' RS', DRow dq' dc' (dvs ++ [ptrV ty b]) rvs' (off + 1) sq sn sc SR RS' →
        Sat σ w (stkC b3 S :: (b1, cel [.slice dq' (dvs.length + 1) dc'] ty_S_Inline) :: (SM ++ (DM ++ (RS' ++ (M1' ++ (M2 ++ L)))))) → Xa sq sn sc b1 b3 cl1 (cl2 b3 b1) ((off + 1 : Nat) : Int) w := by
      intro w t' ty b M1' hI1 hgo dq' dc' RS' hD' h
      refine ih (dst ++ [t']) S (off + 1) (headOf t) w ⟨dq', dc', _, rvs', DM ++ M1', SM, RS', M2, hI.append (InlsAt.one hI1), hSt, h5, hSI.grow, hD', by simp; omega, hrest, ?_⟩ (by omega) (by simp; omega) hwf' hap.2 ?_ hgo
      · rw [List.length_append, List.length_singleton]; exact h.re (by intro _; simp only [List.append_eq, cnt_append, cnt_cons, cnt_nil] <;> omega)
      · intro c _ _ s hs e he
        have := hlt s (List.mem_of_getElem? hs) e he
        simp; omega
    obtain ⟨pb, cs, ce, M1', rfl, hM1⟩ := hv.ptr
    refine hXa _ _ (br_true (by simp; omega) ⟨by omega, by omega, ?_⟩)
    obtain ⟨rb, so, hsq, hcell⟩ := hread w h
    refine nilP_of hsq ?_
    simp only [Addr.add_lit, Int.toNat_natCast, Nat.mul_one]
    refine ⟨_, hcell, ?_⟩
    by_cases hto : t.ty = ty_P_openPlain
    · -- an open bracket becomes plain
      obtain ⟨s, i, rfl⟩ : ∃ s i, t = .openP s i := by
        cases t <;> simp only [Inl.ty] at hto <;> first | exact ⟨_, _, rfl⟩ | exact absurd hto (by decide)
      have hta : (Instr.typeAssert (ptrV (Inl.openP s i).ty pb) ty_Inline ty_P_openPlain true).run P w = .ok (.tuple #[.pointer (some ⟨pb, 0, none⟩), .bool true]) w := ta_open_yes w
      refine ⟨_, _, w, hta, br_true rfl ?_⟩
      refine Sat.tk h fun w h => ?_
      refine nilP_some ⟨_, _, _, Sat.ld h (.tail _ (.head _)) rfl, ?_⟩
      have h0 := h
      refine app_step hDc (by omega) (by omega) h (C := fun w1 => SameC _ w1 _ 1) (fun w1 X hw => h0.same hw (.tail _ (.head _)) (.tail _ (.tail _ (.head _))) 1) fun w dq' dc' RS' hD' h => ?_
      rw [e1]
      refine next w (.plain s) ty_P_Plain pb M1 ?_ (by rw [← hfin, emphGo]) dq' dc' RS' hD' (h.re (by intro _; simp only [List.append_eq, cnt_append, cnt_cons, cnt_nil] <;> omega))
      obtain ⟨b', e', hb', rfl⟩ := hv
      have := ptrV_inj hb'
      subst this
      exact ⟨pb, _, _, rfl, rfl⟩
    · refine ⟨_, _, w, ta_open_no hto w, br_false rfl ⟨by omega, by omega, ?_⟩⟩
      refine nilP_of hsq ?_
      simp only [Addr.add_lit, Int.toNat_natCast, Nat.mul_one]
      refine ⟨_, hcell, ?_⟩
      by_cases hte : t.ty = ty_P_emphPlain
      · -- a run of delimiters
        obtain ⟨s, co, cc, i, n, rfl⟩ : ∃ s co cc i n, t = .emphP s co cc i n := by
          cases t <;> simp only [Inl.ty] at hte <;> first | exact ⟨_, _, _, _, _, rfl⟩ | exact absurd hte (by decide)
        obtain ⟨b', pe, hb', rfl⟩ := hv
        have := ptrV_inj hb'
        subst this
        obtain ⟨hs0, ⟨c, hc, hall⟩, hsl, hn0, hn1⟩ := hwf s co cc i n (.head _)
        have htc := hall.head hs0
        have hhd : headOf (.emphP s co cc i n) = some c := htc
        have hhd' : hd ≠ some c := by
          rcases hap.1 with h | h
          · rw [h]; simp
          · rw [hhd] at h; exact fun hh => h hh.symm
        have hix : ixOf (s.headD 0) = ixOf c := by rw [List.headD_eq_head?_getD, htc]; rfl
        have hix5 : ixOf c < 5 := by rcases hc with rfl | rfl <;> decide
        have hEM : ∀ w, Sat σ w (stkC b3 S :: (b1, cel [.slice dq dvs.length dc] ty_S_Inline) :: (SM ++ (DM ++ (RS ++ (([emC pb s co cc i n pe] ++ M2) ++ L))))) → EM σ b1 b3 pb s co cc i n pe dst S rvs' (off + 1) sq sn sc SR (M2 ++ L) w := fun w h =>
          ⟨dq, dc, dvs, DM, SM, RS, hI, hSt, h5, hSI, hDc, by omega, h.re (by intro _; simp only [List.append_eq, cnt_append, cnt_cons, cnt_nil] <;> omega)⟩
        have hta : (Instr.typeAssert (ptrV (Inl.emphP s co cc i n).ty pb) ty_Inline ty_P_emphPlain true).run P w = .ok (.tuple #[.pointer (some ⟨pb, 0, none⟩), .bool true]) w := ta_emph_yes w
        refine ⟨_, _, w, hta, br_false rfl (nilP_some ?_)⟩
        -- what is done with what is left of the run
        have fin : ∀ (t' : List UInt8) (dst' : List Inl) (S' : List STK) w, AllC c t' → t'.length ≤ s.length → EM σ b1 b3 pb t' co cc i n pe dst' S' rvs' (off + 1) sq sn sc SR (M2 ++ L) w → dst'.length ≤ off →
            (t' = [] → ∀ s ∈ S', ∀ e ∈ s.ent, e.2 + 1 < dst'.length) →
            (if t' = [] then emphGo dst' (idxs S') rts else if co then emphGo (dst' ++ [.emphP t' co cc dst'.length n]) ((idxs S').set (ixOf c) ((idxs S').getD (ixOf c) [] ++ [dst'.length])) rts else emphGo (dst' ++ [.plain t']) (idxs S') rts) = final →
            g_parseState_emph.k1 R Xa sq sn sc b1 b3 cl1 (cl2 b3 b1) off (some ⟨pb, 0, none⟩) w := by
          intro t' dst' S' w hall' htl' h hd' hnil hgo
          obtain ⟨dq, dc, dvs, DM, SM, RS, hI, hSt, h5, hSI, hDc, hdl, h⟩ := h
          have hvl := hI.length
          have hlt := hSI.lt
          refine nilP_some ⟨_, Sat.ld h (.head _) rfl, ?_⟩
          rw [bs_nil_eq]
          by_cases ht' : t' = []
          · subst ht'
            rw [if_pos rfl] at hgo
            refine br_false (by simp) ?_
            rw [e1]
            refine ih dst' S' (off + 1) (some c) w ⟨dq, dc, dvs, rvs', DM, SM, RS, M2, hI, hSt, h5, hSI, hDc, by omega, hrest, ?_⟩ (by omega) (by omega) hwf' (by have := hap.2; rw [hhd] at this; exact this) ?_ hgo
            · exact (h.tail).re (by intro _; simp only [List.append_eq, cnt_append, cnt_cons, cnt_nil] <;> omega)
            · intro c' _ _ s' hs' e he
              exact hnil rfl s' (List.mem_of_getElem? hs') e he
          · rw [if_neg ht'] at hgo
            refine br_true (by simpa using ht') (nilP_some ⟨_, Sat.ld h (.head _) rfl, by omega, head_pos (hall'.head ht'), ?_⟩)
            rw [bt0 (hall'.head ht')]
            refine enter_fn ?_
            refine em1_ok hc ⟨_, rfl, by omega, by omega, nilP_some ⟨_, Sat.ld h (.head _) rfl, ?_⟩⟩
            have hno : ∀ (d : UInt8), c ≠ d → ((bs t').toList == (ByteArray.mk #[d]).toList) = false := by
              intro d hd
              rw [bs_toList, mk_toList, beq_eq_false_iff_ne]
              intro h0
              have : t' = [d] := h0
              subst this
              exact hd (hall' d (by simp)).symm
            refine br_false (hno 39 (by rcases hc with rfl | rfl <;> decide)) ?_
            refine nilP_some ⟨_, Sat.ld h (.head _) rfl, br_false (hno 34 (by rcases hc with rfl | rfl <;> decide)) ?_⟩
            simp only [Addr.add_lit, Int.toNat_natCast, Nat.mul_one, Nat.zero_add]
            refine nilP_some ⟨co, Sat.ld h (.head _) rfl, ?_⟩
            cases hco : co with
            | true =>
              rw [hco] at h hgo
              rw [if_pos rfl] at hgo
              refine br_true rfl ⟨_, _, _, Sat.ld h (.tail _ (.tail _ (.head _))) rfl, nilP_some ?_⟩
              refine Sat.st h (k := 0) rfl (Nat.le_of_ble_eq_true rfl) trivial rfl fun w h => ?_
              have h : Sat σ w (emC pb t' true cc (dvs.length : Nat) n pe :: stkC b3 S' :: (b1, cel [.slice dq dvs.length dc] ty_S_Inline) :: (SM ++ (DM ++ (RS ++ (M2 ++ L))))) := h
              refine ⟨_, _, _, Sat.ld h (.tail _ (.tail _ (.head _))) rfl, ?_⟩
              have h : Sat σ w (stkC b3 S' :: (b1, cel [.slice dq dvs.length dc] ty_S_Inline) :: (SM ++ (DM ++ (RS ++ (emC pb t' true cc (dvs.length : Nat) n pe :: (M2 ++ L)))))) := h.re (by intro _; simp only [List.append_eq, cnt_append, cnt_cons, cnt_nil] <;> omega)
              refine noC (app_step (t := ty_P_emphPlain) (b := pb) hDc (by omega) (by omega) h (C := fun _ => True) (fun _ _ _ => trivial) fun w dq' dc' RS' hD' h => ?_)
              have hsx : S'[ixOf c]? = some S'[ixOf c] := List.getElem?_eq_getElem (by omega)
              generalize S'[ixOf c] = sx at hsx
              have hSIx := hSI sx (List.mem_of_getElem? hsx)
              have h : Sat σ w (stkC b3 S' :: (SM ++ ((b1, cel [.slice dq' (dvs.length + 1) dc'] ty_S_Inline) :: (DM ++ (RS' ++ (emC pb t' true cc (dvs.length : Nat) n pe :: (M2 ++ L))))))) := h.re (by intro _; simp only [List.append_eq, cnt_append, cnt_cons, cnt_nil] <;> omega)
              have hentl : sx.ent.length < 999999999 := by
                -- the places grow and lie below the output's length
                have : ∀ (es : List (Nat × Nat)) (k : Nat), es.Pairwise (fun a b => a.2 < b.2) → (∀ e ∈ es, k ≤ e.2 ∧ e.2 < dst'.length) → k ≤ dst'.length → k + es.length ≤ dst'.length := by
                  intro es
                  induction es with
                  | nil => intro k _ _ hk; simpa using hk
                  | cons e es ihe =>
                    intro k hp hb hk
                    rw [List.pairwise_cons] at hp
                    have h1 := hb e (.head _)
                    have := ihe (e.2 + 1) hp.2 (fun x hx => ⟨hp.1 x hx, (hb x (.tail _ hx)).2⟩) (by omega)
                    simp; omega
                have := this sx.ent 0 hSIx.2.1 (fun e he => ⟨Nat.zero_le _, hlt sx (List.mem_of_getElem? hsx) e he⟩) (Nat.zero_le _)
                omega
              refine stk_app (m := dvs.length) (pb := pb) h5 hsx hSt hentl h fun w s' SM' hs' hSt' h => ?_
              rw [e1]
              have hidx : (idxs S').set (ixOf c) ((idxs S').getD (ixOf c) [] ++ [dst'.length]) = idxs (S'.set (ixOf c) s') := by
                rw [idxs_get hsx, idxs, idxs, List.map_set, hs', List.map_append, hvl]; rfl
              rw [hidx] at hgo
              refine ih _ (S'.set (ixOf c) s') (off + 1) (some c) w ⟨dq', dc', dvs ++ [ptrV ty_P_emphPlain pb], rvs', DM ++ [emC pb t' true cc (dvs.length : Nat) n pe], SM', RS', M2, hI.append (InlsAt.one (t := .emphP t' true cc (dvs.length : Nat) n) ⟨pb, pe, rfl, rfl⟩), hSt', by rw [List.length_set]; exact h5, ?_, hD', by simp; omega, hrest, ?_⟩ (by omega) (by simp; omega) hwf' (by have := hap.2; rw [hhd] at this; exact this) ?_ (by rw [← hgo, hvl])
              · intro s2 hs2
                rcases List.mem_or_eq_of_mem_set hs2 with hs2 | hs2
                · exact hSI.grow s2 hs2
                · subst hs2
                  rw [hs']
                  refine ⟨by simp; omega, ?_, ?_⟩
                  · rw [List.pairwise_append]
                    refine ⟨hSIx.2.1, by simp, fun a ha b hb => ?_⟩
                    simp at hb; subst hb
                    have := hlt sx (List.mem_of_getElem? hsx) a ha
                    show a.2 < dvs.length
                    omega
                  · intro e he
                    rcases List.mem_append.1 he with he | he
                    · obtain ⟨g1, g2, g3, g4, g5, g6, g7⟩ := hSIx.2.2 e he
                      exact ⟨g1, g2, g3, g4, by rw [List.getElem?_append_left (List.getElem?_eq_some_iff.1 g5).1]; exact g5, by rw [List.getElem?_append_left (List.getElem?_eq_some_iff.1 g6).1]; exact g6, g7⟩
                    · simp at he; subst he
                      exact ⟨t', true, cc, n, by show (dst' ++ _)[dvs.length]? = _; rw [hvl, List.getElem?_append_right (Nat.le_refl _)]; simp, by show (dvs ++ _)[dvs.length]? = _; simp, hn0, hn1, ht', by omega⟩
              · rw [List.length_append, List.length_singleton]; exact h.re (by intro _; simp only [List.append_eq, cnt_append, cnt_cons, cnt_nil] <;> omega)
              · intro c' hc' hne s2 hs2 e he
                have hne2 : ixOf c' ≠ ixOf c := by
                  intro h0
                  apply hne
                  rcases hc with rfl | rfl <;> rcases hc' with rfl | rfl <;> first | rfl | exact absurd h0 (by decide)
                rw [List.getElem?_set_ne (fun h => hne2 h.symm)] at hs2
                have := hlt s2 (List.mem_of_getElem? hs2) e he
                simp; omega
            | false =>
              rw [hco] at h hgo
              rw [if_neg (by simp)] at hgo
              refine br_false rfl ?_
              refine Sat.tk h fun w h => ?_
              refine nilP_some ⟨_, _, _, Sat.ld h (.tail _ (.tail _ (.head _))) rfl, ?_⟩
              have h : Sat σ w (stkC b3 S' :: (b1, cel [.slice dq dvs.length dc] ty_S_Inline) :: (SM ++ (DM ++ (RS ++ (emC pb t' false cc i n pe :: (M2 ++ L)))))) := h.re (by intro _; simp only [List.append_eq, cnt_append, cnt_cons, cnt_nil] <;> omega)
              have h0 := h
              refine app_step (t := ty_P_Plain) (b := pb) hDc (by omega) (by omega) h (C := fun w1 => SameC _ w1 _ 1) (fun w1 X hw => h0.same hw (.tail _ (.head _)) (.tail _ (.tail _ (.head _))) 1) fun w dq' dc' RS' hD' h => ?_
              rw [e1]
              refine ih (dst' ++ [.plain t']) S' (off + 1) (some c) w ⟨dq', dc', dvs ++ [ptrV ty_P_Plain pb], rvs', DM ++ [emC pb t' false cc i n pe], SM, RS', M2, hI.append (InlsAt.one (t := .plain t') ⟨pb, _, pe, rfl, rfl⟩), hSt, h5, hSI.grow, hD', by simp; omega, hrest, ?_⟩ (by omega) (by simp; omega) hwf' (by have := hap.2; rw [hhd] at this; exact this) ?_ hgo
              · rw [List.length_append, List.length_singleton]; exact h.re (by intro _; simp only [List.append_eq, cnt_append, cnt_cons, cnt_nil] <;> omega)
              · intro c' hc' hne s2 hs2 e he
                have := hlt s2 (List.mem_of_getElem? hs2) e he
                simp; omega
        refine ⟨cc, Sat.ld h (.tail _ (.tail _ (List.mem_append_right _ (List.mem_append_right _ (List.mem_append_right _ (.head _)))))) rfl, ?_⟩
        have hfin' : (let r := if cc then closeGo (ixOf c) co cc n s.length s dst (idxs S) else (s, dst, idxs S)
            if r.1 = [] then emphGo r.2.1 r.2.2 rts else if co then emphGo (r.2.1 ++ [.emphP r.1 co cc r.2.1.length n]) (r.2.2.set (ixOf c) (r.2.2.getD (ixOf c) [] ++ [r.2.1.length])) rts else emphGo (r.2.1 ++ [.plain r.1]) r.2.2 rts) = final := by
          rw [← hfin, emphGo, hix]
        cases hcc : cc with
        | false =>
          rw [hcc] at hfin' hEM fin
          refine br_false rfl (fin s dst S w hall (Nat.le_refl _) (hEM w (by rw [hcc] at h; exact h)) hle (fun h => absurd h hs0) ?_)
          simpa using hfin'
        | true =>
          rw [hcc] at hfin' hEM fin h
          refine br_true rfl (nilP_some ⟨_, Sat.ld h (.tail _ (.tail _ (List.mem_append_right _ (List.mem_append_right _ (List.mem_append_right _ (.head _)))))) rfl, by omega, head_pos htc, ?_⟩)
          rw [bt0 htc]
          refine enter_fn ?_
          refine em1_ok hc ⟨_, rfl, by omega, by omega, ?_⟩
          simp only [Addr.add_lit, Int.toNat_natCast, Nat.mul_one, Nat.zero_add]
          intro Xb hXb
          refine close_ok hix5 hc ⟨hn0, hn1⟩ (fun w hh => hXb _ _ _ _ _ _ _ _ _ _ _ hh) s.length s dst S w (Nat.le_refl _) hall hsl (hEM w h) (by omega) (hlate c hc hhd') ?_
          intro t' dst' S' w hgo hall' htl' h hoff' hdl' hl
          refine fin t' dst' S' w hall' htl' h (by omega) ?_ ?_
          · intro ht'
            rcases hl with ⟨hl, _⟩ | hl
            · rw [ht'] at hl; exact absurd hl.symm hs0
            · exact hl
          · simp only [if_true, hgo] at hfin'
            exact hfin'
      · -- anything else
        refine ⟨_, _, w, ta_emph_no hte w, br_true rfl ?_⟩
        refine tk_gen (A := fun w => Sat σ w (stkC b3 S :: (b1, cel [.slice dq dvs.length dc] ty_S_Inline) :: (SM ++ (DM ++ (RS ++ ((M1 ++ M2) ++ L)))))) h.tick fun w h => ?_
        refine ⟨by omega, by omega, nilP_of hsq ?_⟩
        refine ⟨_, _, _, Sat.ld h (.tail _ (.head _)) rfl, ?_⟩
        simp only [Addr.add_lit, Int.toNat_natCast, Nat.mul_one]
        obtain ⟨rb2, so2, hsq2, hcell2⟩ := hread w h
        rw [hsq] at hsq2
        simp only [Option.some.injEq, Addr.mk.injEq, and_true] at hsq2
        obtain ⟨rfl, rfl⟩ := hsq2
        refine ⟨_, hcell2, ?_⟩
        have h0 := h
        refine app_step hDc (by omega) (by omega) h (C := fun w1 => SameC _ w1 _ 1) (fun w1 X hw => h0.same hw (.tail _ (.head _)) (.tail _ (.tail _ (.head _))) 1) fun w dq' dc' RS' hD' h => ?_
        rw [e1]
        refine next w t t.ty pb M1 hv (by rw [← hfin]; cases t <;> first | rfl | exact absurd rfl hto | exact absurd rfl hte) dq' dc' RS' hD' (h.re (by intro _; simp only [List.append_eq, cnt_append, cnt_cons, cnt_nil] <;> omega))
end Go.Proofs.YtmicoampfglaiaaGreatDoor


/- emph, where the output takes the source's place. -/
set_option linter.unusedVariables false
namespace Go.Proofs.YtmicoampfglaiaaGreatDoor
open Go.Proofs Go.IntWalk Go.RowKit
variable {σ : Out} {w : World} {L L' : List Chunk} {R : Ending → World → Prop}
theorem DRow.same {q : Option Addr} {n c : Nat} {vs : List Value} {RM : List Chunk} (h : Sl 1 ty_Inline q n c vs RM) : DRow q c [] vs 0 q n c [] RM := by
  obtain ⟨hl, hnc, ⟨rfl, rfl, rfl, rfl⟩ | ⟨rb, sp, rfl, rfl, h3⟩⟩ := h
  · have : vs = [] := List.eq_nil_of_length_eq_zero (by omega)
    subst this
    exact ⟨by simp, by simp, .inr ⟨[], Sl.nil 1 ty_Inline, rfl, fun j v hv => by simp at hv⟩⟩
  · refine ⟨by omega, by simp, .inl ⟨rb, [], sp, rfl, rfl, rfl, rfl, ?_⟩⟩
    rw [List.length_append] at h3; omega
theorem DRow.done {dq sq : Option Addr} {dc off sn sc : Nat} {dvs : List Value} {RS : List Chunk} (h : DRow dq dc dvs [] off sq sn sc [] RS) : Sl 1 ty_Inline dq dvs.length dc dvs RS := by
  obtain ⟨h0, hle, ⟨rb, junk, sp, rfl, rfl, rfl, h1, h2⟩ | ⟨DR, hS, rfl, hr⟩⟩ := h
  · refine ⟨by omega, hle, .inr ⟨rb, junk ++ sp, rfl, rfl, ?_⟩⟩
    simp only [List.length_append, List.length_nil] at h2 ⊢; omega
  · rw [List.append_nil]; exact hS
/-- emph, wherever the output goes. -/
theorem emph_ok {pq dq sq : Option Addr} {dc sn sc : Nat} {ts : List Inl} {vs : List Value} {SR RS EC : List Chunk} (hD : DRow dq dc [] vs 0 sq sn sc SR RS) (hI : InlsAt ts vs EC) (hwf : wfE ts) (hap : apartE none ts) (hn : sn < 999999990) (h : Sat σ w (RS ++ (EC ++ L)))
    (hR : ∀ w dq dc dvs DM RS, InlsAt (emphM ts) dvs DM → DRow dq dc dvs [] sn sq sn sc SR RS → dvs.length ≤ sn → Sat σ w (DM ++ (RS ++ L)) → R (.returned (.slice dq dvs.length dc)) w) :
    callE P i_parseState_emph #[.pointer pq, .slice dq 0 dc, .slice sq sn sc] R w := by
  refine g_parseState_emph.sound ?_
  refine Sat.bx h fun b1 w h => ?_
  refine Sat.bx h fun b3 w h => ?_
  intro X hX
  have hl := hI.length
  have h0 := hD.1
  let s0 : STK := ⟨none, 0, 0, []⟩
  have h : Sat σ w (stkC b3 [s0, s0, s0, s0, s0] :: (b1, cel [.slice dq 0 dc] ty_S_Inline) :: (RS ++ (EC ++ L))) := h
  have hs0 : s0.ok [] := Sl.nil 1 ty_P_emphPlain
  refine emph_loop (Xa := X) (fun x10 w hh => hX _ _ _ _ _ _ _ _ _ hh) hn (emphM ts) (fun w dq dc dvs DM RS h1 h2 h3 h4 => hR w dq dc dvs DM RS h1 h2 h3 h4) ts [] [s0, s0, s0, s0, s0] 0 none w
    ⟨dq, dc, [], vs, [], [], RS, EC, ⟨rfl, rfl⟩, ⟨[], [], rfl, hs0, [], [], rfl, hs0, [], [], rfl, hs0, [], [], rfl, hs0, [], [], rfl, hs0, rfl⟩, rfl, ?_, hD, by simp, hI, h⟩ (by omega) (by simp) hwf hap ?_ rfl
  · intro s hs
    simp only [List.mem_cons, List.mem_nil_iff, or_false, or_self] at hs
    subst hs
    exact ⟨by show (0 : Nat) < _; decide, List.Pairwise.nil, fun e he => by cases he⟩
  · intro c hc _ s hs e he
    have : s = s0 := by
      rcases hc with rfl | rfl
      · exact (Option.some.inj hs).symm
      · exact (Option.some.inj hs).symm
    subst this
    cases he
theorem emphOK_gen {ts : List Inl} (hwf : wfE ts) (hap : apartE none ts) (hts : ts.length < 999999990) : EmphOK ts (emphM ts) := by
  intro σ R pq q n c vs RM EM L w hS hI hn h hR
  have hl := hI.length
  have hn0 := hS.1
  exact emph_ok (DRow.same hS) hI hwf hap (by omega) h fun w dq dc dvs DM RS h1 h2 h3 h4 => hR w dq dvs.length dc dvs RS DM h2.done h3 h1 (h4.re (by intro _; simp only [List.append_eq, cnt_append, cnt_cons, cnt_nil] <;> omega))
end Go.Proofs.YtmicoampfglaiaaGreatDoor


/- Small lemmas on lists, and the options that are all off. -/
set_option linter.unusedVariables false
namespace Go.Proofs.YtmicoampfglaiaaGreatDoor
open Go.Proofs
theorem getD_app {a b : List UInt8} {k : Nat} (h : a.length ≤ k) : (a ++ b).getD k 0 = b.getD (k - a.length) 0 := by
  rw [List.getD_eq_getElem?_getD, List.getElem?_append_right h, ← List.getD_eq_getElem?_getD]
theorem getD_app' {a b : List UInt8} {k : Nat} {d : UInt8} (h : k < a.length) : (a ++ b).getD k d = a.getD k d := by
  rw [List.getD_eq_getElem?_getD, List.getElem?_append_left h, ← List.getD_eq_getElem?_getD]
theorem getD_mid (A C : List UInt8) (b d : UInt8) : (A ++ (b :: C)).getD A.length d = b := by
  rw [List.getD_eq_getElem?_getD, List.getElem?_append_right (Nat.le_refl _), Nat.sub_self]; rfl
theorem getElem_getD {l : List UInt8} {i : Nat} (h : i < l.length) (d : UInt8) : l[i] = l.getD i d := by
  rw [List.getD_eq_getElem?_getD, List.getElem?_eq_getElem h]; rfl
def optOff : Opt := ⟨false, false, false, false, false, false, false, false, false, false⟩
end Go.Proofs.YtmicoampfglaiaaGreatDoor


/- Brackets: the rounds of the loop that open and close them. -/
set_option linter.unusedVariables false
namespace Go.Proofs.YtmicoampfglaiaaGreatDoor
open Go.Proofs Go.IntWalk Go.RowKit
variable {σ : Out} {w : World} {L L' : List Chunk} {R : Ending → World → Prop}
theorem linkCorner_ok {s : List UInt8} (hs : s.length < 1000000000) (hR : ∀ r, R (.returned (.bool r)) w) : callE P i_linkCorner #[.string (bs s)] R w := by
  refine g_linkCorner.sound ?_
  intro X hX
  have hex : ∀ {Q : Ending → World → Prop} (c : Int), (∀ r, Q (.returned (.bool r)) w) → callE P i_isHexDigit #[.int .u8 c] Q w := by
    intro Q c hQ
    refine g_isHexDigit.sound ?_
    exact hQ _
  have key : ∀ k m, m + k = s.length → X (bs s) (m : Int) w := by
    intro k
    induction k with
    | zero => intro m hm; exact hX _ _ _ (br_false (by simp; omega) (hR _))
    | succ k ih =>
      intro m hm
      refine hX _ _ _ (br_true (by simp; omega) ⟨by omega, by simp; omega, ?_⟩)
      rw [show IntKind.i64.wrap ((m : Int) + 2) = ((m + 2 : Nat) : Int) by rw [show ((m : Int) + 2) = ((m + 2 : Nat) : Int) by omega, i64_in _ (by omega)], i64_inc (by omega)]
      have hnext := ih (m + 1) (by omega)
      refine br_split (fun _ => ?_) (fun _ => hnext)
      refine ⟨fun hh => ?_, ?_⟩
      · simp at hh; exact ⟨by omega, by simp; omega⟩
      refine br_split (fun _ => ?_) (fun hb => ?_)
      · exact ⟨fun h => Bool.noConfusion h, hR _⟩
      have hb' : m + 2 < s.length := by simp at hb; omega
      refine hex _ fun r => ⟨_, rfl, ?_⟩
      refine ⟨fun _ => ⟨by omega, by simp; omega⟩, ?_⟩
      refine br_split (fun _ => hR _) (fun _ => ?_)
      exact hex _ fun r => ⟨_, rfl, br_split (fun _ => hR _) (fun _ => hnext)⟩
  exact key s.length 0 (by omega)
theorem linkOpen_leaf {b i : Nat} {p : PS} {s : List UInt8} (hs : s.length < 1000000000) (hi : i < s.length) (hc : s[i] = 91) : LeafOK b p s i (.func (.func i_parseLinkOpen) #[] #[]) [] (some (.openP [91] (i + 1), i, i + 1)) (fun p' => p' = p) := by
  intro σ R L w _ h hR
  refine enter_fn (g_parseLinkOpen.sound ?_)
  unfold g_parseLinkOpen
  rw [i64_inc (by omega)]
  refine ⟨by omega, by omega, by simp; omega, ?_⟩
  rw [Int.toNat_natCast, Int.toNat_natCast, bs_extract]
  have e : (s.take (i + 1)).drop i = [91] := by
    rw [List.take_succ_eq_append_getElem hi, List.drop_left' (by rw [List.length_take]; omega), hc]
  rw [e]
  refine Sat.bx h fun nb w h => ?_
  exact hR w p _ _ rfl rfl ⟨nb, _, rfl, rfl⟩ h.up1
theorem imageOpen_leaf {b i : Nat} {p : PS} {s : List UInt8} (hs : s.length < 1000000000) (hi : i + 1 < s.length) (hc : s[i] = 33) (hc2 : s[i + 1] = 91) : LeafOK b p s i (.func (.func i_parseImageOpen) #[] #[]) [] (some (.openP [33, 91] (i + 2), i, i + 2)) (fun p' => p' = p) := by
  intro σ R L w _ h hR
  refine enter_fn (g_parseImageOpen.sound ?_)
  unfold g_parseImageOpen g_parseImageOpen.k1
  rw [i64_inc (by omega), show IntKind.i64.wrap ((i : Int) + 2) = ((i + 2 : Nat) : Int) by rw [show ((i : Int) + 2) = ((i + 2 : Nat) : Int) by omega, i64_in _ (by omega)]]
  refine ⟨fun _ => ⟨by omega, by simp; omega⟩, br_true ?_ ⟨by omega, by omega, by simp; omega, ?_⟩⟩
  · rw [bt_beq hi 91 91 rfl, hc2]; simp; omega
  rw [Int.toNat_natCast, Int.toNat_natCast, bs_extract]
  have e : (s.take (i + 2)).drop i = [33, 91] := by
    rw [List.take_succ_eq_append_getElem hi, List.take_succ_eq_append_getElem (by omega), List.append_assoc, List.drop_left' (by rw [List.length_take]; omega), hc, hc2]; rfl
  rw [e]
  refine Sat.bx h fun nb w h => ?_
  exact hR w p _ _ rfl rfl ⟨nb, _, rfl, rfl⟩ h.up1
/-- The loop is at byte i, with brackets open. -/
def AtB (X : XI) (σ : Out) (b : Nat) (p0 : PS) (raw : List UInt8) (L : List Chunk) (i e : Nat) (ts : List Inl) (opens : List Nat) (lo : Int) : Prop :=
  ∀ w (p : PS) oq on oc, p.coreS = p0.coreS → p.s = raw → p.em = (e : Int) → IIn σ b p ts opens oq on oc L w → X (some ⟨b, 0, none⟩) (bs raw) oq on oc lo false (i : Int) w
def LoopB (R : Ending → World → Prop) (X : XI) (b : Nat) (raw : List UInt8) : Prop :=
  ∀ oq on oc lo (i : Int) w, g_parseState_inline.bl1 R X (some ⟨b, 0, none⟩) (bs raw) oq on oc lo false i w → X (some ⟨b, 0, none⟩) (bs raw) oq on oc lo false i w
theorem AtB.plain {X : XI} {b pb i e : Nat} {p0 : PS} {raw : List UInt8} {ts : List Inl} {opens : List Nat} {lo : Int} {o : Opt} (hX : LoopB R X b raw) (hi : i < raw.length) (hs : raw.length < 1000000000) (hpz : p0.pz = some ⟨pb, 0, none⟩) (ho : o.at pb ∈ L) (hp : parserOf o raw[i] = .nil) (h93 : raw[i] ≠ 93 ∨ opens = [])
    (h : AtB X σ b p0 raw L (i + 1) e ts opens lo) : AtB X σ b p0 raw L i e ts opens lo := by
  intro w p oq on oc hc hraw he hI
  refine hX _ _ _ _ _ _ ?_
  obtain ⟨vs, RM, EM, OM, hS, hIn, hO, hlen, hsat⟩ := hI
  refine inl_dispatch (p := p) hi (by omega) (by rw [PS.pz_of hc, hpz]) (.head _) (.tail _ (List.mem_append_right _ (List.mem_append_right _ (List.mem_append_right _ ho)))) hsat ?_
  rw [hp]
  have hol := hO.1
  rw [List.length_map] at hol
  exact inl_none (inl_k5 hi (by omega) (h93.imp id (by rintro rfl; simp at hol; omega)) (h w p oq on oc hc hraw he ⟨vs, RM, EM, OM, hS, hIn, hO, hlen, hsat⟩))
theorem AtB.leaf {X : XI} {b pb i e st en : Nat} {p0 : PS} {raw : List UInt8} {ts : List Inl} {opens : List Nat} {lo : Int} {o : Opt} {f : FuncId} {t : Inl} {L0 : List Chunk} {Q : PS → PS → Prop} (hX : LoopB R X b raw) (hi : i < raw.length) (hs : raw.length < 1000000000) (hpz : p0.pz = some ⟨pb, 0, none⟩) (ho : o.at pb ∈ L)
    (hp : parserOf o raw[i] = .fn f) (hL0 : ∀ c ∈ L0, c ∈ L) (hf : ∀ p : PS, p.coreS = p0.coreS → p.s = raw → LeafOK b p raw i (.func (.func f) #[] #[]) L0 (some (t, st, en)) (Q p)) (hst : st ≤ raw.length) (hn : ts.length < 1000000000) (hon : opens.length < 1000000000)
    (h : AtB X σ b p0 raw L en en (emitM raw e st ts ++ [t]) (if t.isOpen then opens ++ [(emitM raw e st ts).length] else opens) lo) : AtB X σ b p0 raw L i e ts opens lo := by
  intro w p oq on oc hc hraw he hI
  refine hX _ _ _ _ _ _ ?_
  obtain ⟨vs, RM, EM, OM, hS, hIn, hO, hlen, hsat⟩ := hI
  refine inl_dispatch (p := p) hi (by omega) (by rw [PS.pz_of hc, hpz]) (.head _) (.tail _ (List.mem_append_right _ (List.mem_append_right _ (List.mem_append_right _ ho)))) hsat ?_
  rw [hp]
  dsimp only
  have hleaf := hf p hc hraw
  subst hraw
  refine inl_leaf ⟨vs, RM, EM, OM, hS, hIn, hO, hlen, hsat⟩ hL0 hleaf he hst hs hn hon fun w p2 oq on oc hp2 hem2 _ h2 => ?_
  refine h w p2 oq on oc (PS.coreS_of hp2 hc) ?_ hem2 h2
  have := congrArg PS.s hp2; exact this
theorem AtB.fin {X : XI} {b pb e : Nat} {p0 : PS} {raw : List UInt8} {ts ts' : List Inl} {opens : List Nat} {lo : Int} {o : Opt} (hX : LoopB R X b raw) (hs : raw.length < 1000000000) (hpz : p0.pz = some ⟨pb, 0, none⟩) (ho : o.at pb ∈ L) (hoff : o.auto = false) (hn : ts.length < 1000000000)
    (hE : EmphOK (emitM raw e raw.length ts) ts') (hpos : ∀ t ∈ ts', ∀ s, t.plain? = some s → s ≠ []) (hb : plen ts' < 1073741824)
    (hR : ∀ w (p' : PS) q n c vs RM EM, p'.coreS = p0.coreS → Sl 1 ty_Inline q n c vs RM → n < 1073741824 → InlsAt (mergeM ts') vs EM → Sat σ w (p'.at b :: (RM ++ (EM ++ L))) → R (.returned (.slice q n c)) w) :
    AtB X σ b p0 raw L raw.length e ts opens lo := by
  intro w p oq on oc hc hraw he hI
  refine hX _ _ _ _ _ _ ?_
  subst hraw
  exact inl_end hI he hs hn (by rw [PS.pz_of hc, hpz]) ho hoff hE hpos hb fun w p2 q n c vs RM EM hp2 hS hn hI h => hR w p2 q n c vs RM EM (PS.coreS_of hp2 hc) hS hn hI h
end Go.Proofs.YtmicoampfglaiaaGreatDoor


/- Brackets: the round that closes a link. -/
set_option linter.unusedVariables false
namespace Go.Proofs.YtmicoampfglaiaaGreatDoor
open Go.Proofs Go.IntWalk Go.RowKit
variable {σ : Out} {w : World} {L L' : List Chunk} {R : Ending → World → Prop}
def emitX (s : List UInt8) (e i : Nat) : List Inl := if e < i then [.plain (sub s e i)] else []
/-- emit, which leaves what there was. -/
theorem emitE_ok {b e i : Nat} {p : PS} {vs : List Value} {RM : List Chunk} (hS : Sl 1 ty_Inline p.lq p.ln p.lc vs RM) (h : Sat σ w (p.at b :: (RM ++ L))) (he : p.em = e) (hl : i ≤ p.s.length) (hn : vs.length < 1073741823)
    (hR : ∀ w (p' : PS) RM' xs XM, p'.core = p.core → p'.bt = p.bt → p'.em = ((max e i : Nat) : Int) → p'.corner = p.corner → Sl 1 ty_Inline p'.lq p'.ln p'.lc (vs ++ xs) RM' → InlsAt (emitX p.s e i) xs XM → Sat σ w (p'.at b :: (RM' ++ (XM ++ L))) → R (.returned (.tuple #[])) w) :
    callE P i_parseState_emit #[.pointer (some ⟨b, 0, none⟩), .int .i64 i] R w := by
  by_cases hi : e < i
  · have h : Sat σ w (p.at b :: RM ++ L) := h
    refine emit_ok h ⟨hS, by omega⟩ he hi hl (by omega) fun w p' M' nb hp' hS' h => ?_
    refine hR w p' M' _ [plainC nb (sub p.s e i)] (by rw [hp']; rfl) (by rw [hp']) (by rw [hp']; show ((i : Nat) : Int) = _; congr 1; omega) (by rw [hp']) hS'.1 ?_ ?_
    · unfold emitX; rw [if_pos hi]
      exact InlsAt.one ⟨nb, [], _, rfl, rfl⟩
    · have h : Sat σ w (p'.at b :: M' ++ (plainC nb (sub p.s e i) :: L)) := h
      exact h.re (by intro _; simp only [List.append_eq, cnt_append, cnt_cons, cnt_nil] <;> omega)
  · refine emit_no h (by rw [he]; omega) fun w h => ?_
    refine hR w p RM [] [] rfl rfl (by rw [he]; congr 1; omega) rfl (by rw [List.append_nil]; exact hS) ?_ h
    unfold emitX; rw [if_neg hi]; exact ⟨rfl, rfl⟩
def lnkC (lb : Nat) (inner : Value) (url title : List UInt8) (tc : UInt8) (cor : Bool) : Chunk := (lb, cel [inner, .string (bs url), .string (bs title), .int .u8 tc.toNat, .bool cor] ty_Link)
/-- What parseLinkClose answers. -/
def CloseOK (b : Nat) (p : PS) (raw : List UInt8) (i : Nat) (t : List UInt8) (k : Nat) (L0 : List Chunk) (url title : List UInt8) (tc : UInt8) (cor : Bool) (en : Nat) : Prop :=
  ∀ (σ : Out) (R : Ending → World → Prop) (L : List Chunk) (w : World) (ob : Nat) (e : TypeId), (∀ c ∈ L0, c ∈ L) → (ob, cel [.string (bs t), .int .i64 k] e) ∈ L → p.at b ∈ L → Sat σ w L →
    (∀ w lb, Sat σ w (lnkC lb (.slice none 0 0) url title tc cor :: L) → R (.returned (.tuple #[.pointer (some ⟨lb, 0, none⟩), .int .i64 en, .bool true])) w) →
    callE P i_parseState_parseLinkClose #[.pointer (some ⟨b, 0, none⟩), .string (bs raw), .int .i64 i, .pointer (some ⟨ob, 0, none⟩)] R w
theorem Sl.shrink {sz : Nat} {e : TypeId} {q : Option Addr} {n c m : Nat} {vs : List Value} {M : List Chunk} (h : Sl sz e q n c vs M) (hm : m ≤ n) : Sl sz e q m c (vs.take (m * sz)) M := by
  obtain ⟨h1, h2, h3⟩ := h
  have hms : m * sz ≤ n * sz := Nat.mul_le_mul_right _ hm
  refine ⟨by rw [List.length_take]; omega, by omega, ?_⟩
  rcases h3 with ⟨rfl, rfl, rfl, rfl⟩ | ⟨b, sp, rfl, rfl, h4⟩
  · exact .inl ⟨rfl, by omega, rfl, rfl⟩
  · refine .inr ⟨b, vs.drop (m * sz) ++ sp, rfl, ?_, ?_⟩
    · rw [← List.append_assoc, List.take_append_drop]
    · rw [← List.append_assoc, List.take_append_drop]; exact h4
theorem ta_open1 {v : Value} (w : World) : (Instr.typeAssert (.iface ty_P_openPlain v) ty_Inline ty_P_openPlain false).run P w = .ok v w :=
  ta_yes1 (by rw [und_open]; intro ms h; cases h) und_open w
def closeI (img : Bool) (ks : List Inl) (url title : List UInt8) (tc : UInt8) (cor : Bool) : Inl := if img then .image ks url title tc cor else .link ks url title tc cor
theorem AtB.close {X : XI} {b pb i e en k : Nat} {p0 : PS} {raw : List UInt8} {ts1 ts2 : List Inl} {opens : List Nat} {lo : Int} {o : Opt} {t url title : List UInt8} {tc : UInt8} {cor img : Bool} {L0 : List Chunk} (hX : LoopB R X b raw) (hi : i < raw.length) (hs : raw.length < 1000000) (hc : raw[i] = 93)
    (hpz : p0.pz = some ⟨pb, 0, none⟩) (ho : o.at pb ∈ L) (hL0 : ∀ c ∈ L0, c ∈ L) (ht : t.getD 0 0 = (if img then 33 else 91)) (ht0 : t ≠ []) (hlo : img = true ∨ lo ≤ (k : Int)) (hurl : url.length < 1000000)
    (hclose : ∀ p : PS, p.coreS = p0.coreS → p.s = raw → CloseOK b p raw i t k L0 url title tc cor en) (hne : ts2 ++ emitX raw e i ≠ []) (hwf : wfE (ts2 ++ emitX raw e i)) (hap : apartE none (ts2 ++ emitX raw e i)) (hn : (ts1 ++ ts2).length < 1000000) (hon : opens.length < 1000000)
    (hnext : AtB X σ b p0 raw L en en (ts1 ++ [closeI img (emphM (ts2 ++ emitX raw e i)) url title tc cor]) opens (if img then lo else (k : Int))) :
    AtB X σ b p0 raw L i e (ts1 ++ .openP t k :: ts2) (opens ++ [ts1.length]) lo := by
  intro w p oq on oc hcS hraw he hI
  refine hX _ _ _ _ _ _ ?_
  obtain ⟨vs, RM, EM, OM, hS, hIn, hO, hlen, hsat⟩ := hI
  refine inl_dispatch (p := p) hi (by omega) (by rw [PS.pz_of hcS, hpz]) (.head _) (.tail _ (List.mem_append_right _ (List.mem_append_right _ (List.mem_append_right _ ho)))) hsat ?_
  rw [hc, show parserOf o 93 = .nil from rfl]
  refine inl_none ⟨by omega, by simp; omega, ?_⟩
  have hol := hO.1
  rw [List.length_map, List.length_append, List.length_singleton] at hol
  refine br_true (by rw [bt_beq hi 93 93 rfl, hc]; simp; omega) ?_
  have e1 : IntKind.i64.wrap ((on : Int) - 1) = ((opens.length : Nat) : Int) := by rw [show ((on : Int) - 1) = ((opens.length : Nat) : Int) by omega, i64_in _ (by omega)]
  rw [e1]
  refine ⟨by omega, by omega, ?_⟩
  have hsl := hS.1
  have hsc := hS.2.1
  have hIl := hIn.length
  simp only [List.length_append, List.length_cons] at hIl hn
  have hsat2 : Sat σ w (OM ++ (p.at b :: (RM ++ (EM ++ L)))) := hsat.re (by intro _; simp only [List.append_eq, cnt_append, cnt_cons, cnt_nil] <;> omega)
  refine hO.loadAt hsat2 (j := opens.length) (v := .int .i64 (ts1.length : Nat)) (by simp [List.map_append]) fun ob1 hq1 hc1 => ?_
  simp only [Addr.add_lit, Int.toNat_natCast, Nat.mul_one, Nat.zero_add]
  refine ⟨_, hc1, nilP_some ?_⟩
  have h := hsat
  refine ⟨_, _, _, Sat.ld h (by first | assumption | (repeat (first | exact .head _ | apply List.Mem.tail))) (by exact rfl), ?_⟩
  refine ⟨by omega, by omega, ?_⟩
  obtain ⟨vs1, v, vs2, M1, M2, M3, rfl, rfl, hI1, hIo, hI2⟩ := hIn.mid
  have hl1 := hI1.length
  have hIl2 := hI2.length
  have hvl : (vs1 ++ v :: vs2).length = vs1.length + (vs2.length + 1) := by simp
  obtain ⟨ob, oe, rfl, rfl⟩ := hIo
  have hsat3 : Sat σ w (RM ++ (p.at b :: ((M1 ++ ([(ob, cel [.string (bs t), .int .i64 k] oe)] ++ M3)) ++ (OM ++ L)))) := hsat.re (by intro _; simp only [List.append_eq, cnt_append, cnt_cons, cnt_nil] <;> omega)
  refine hS.loadAt hsat3 (j := ts1.length) (v := ptrV ty_P_openPlain ob) (by rw [List.getElem?_append_right (by omega), show ts1.length - vs1.length = 0 by omega]; rfl) fun rb hq2 hc2 => ?_
  simp only [Addr.add_lit, Int.toNat_natCast, Nat.mul_one, Nat.zero_add]
  refine ⟨_, hc2, _, _, ta_open1 w, _, _, _, _, sliceT rowInt.ht rowInt.hi oq on oc opens.length (by have := hO.2.1; omega) w, nilP_some ?_⟩
  have hmo : (ob, cel [.string (bs t), .int .i64 k] oe) ∈ p.at b :: (RM ++ ((M1 ++ ([(ob, cel [.string (bs t), .int .i64 k] oe)] ++ M3)) ++ (OM ++ L))) :=
    .tail _ (List.mem_append_right _ (List.mem_append_left _ (List.mem_append_right _ (List.mem_append_left _ (.head _)))))
  have hb0 : bt (bs t) 0 = ((t.getD 0 0).toNat : Int) := bs_bt t 0
  have htl : 0 < t.length := List.length_pos_iff.2 ht0
  refine ⟨_, Sat.ld h hmo rfl, by decide, by simp; omega, ?_⟩
  rw [hb0]
  have hOs := hO.shrink (m := opens.length) (by omega)
  rw [Nat.mul_one, List.map_append, List.take_left' (by simp)] at hOs
  have k8 : g_parseState_inline.k8 R X (some ⟨b, 0, none⟩) (bs raw) oq opens.length oc lo false (i : Int) (ts1.length : Int) (some ⟨ob, 0, none⟩) true w := by
    refine br_true rfl ?_
    have hcl := hclose p hcS hraw
    refine hcl σ _ _ w ob oe (fun c hc => .tail _ (List.mem_append_right _ (List.mem_append_right _ (List.mem_append_right _ (hL0 c hc))))) hmo (.head _) h fun w lb h => ⟨_, _, _, rfl, br_true rfl ?_⟩
    -- behind the note of a corner
    have k9 : ∀ w r, Sat σ w (({ p with corner := r } : PS).at b :: (lnkC lb (.slice none 0 0) url title tc cor :: (RM ++ ((M1 ++ ([(ob, cel [.string (bs t), .int .i64 k] oe)] ++ M3)) ++ (OM ++ L))))) →
        g_parseState_inline.k9 R X (some ⟨b, 0, none⟩) (bs raw) oq opens.length oc lo false (i : Int) (ts1.length : Int) (some ⟨ob, 0, none⟩) (some ⟨lb, 0, none⟩) (en : Int) w := by
      intro w r h
      generalize hp1 : ({ p with corner := r } : PS) = p1 at h
      have hS1 : Sl 1 ty_Inline p1.lq p1.ln p1.lc (vs1 ++ ptrV ty_P_openPlain ob :: vs2) RM := by rw [← hp1]; exact hS
      have hcS1 : p1.coreS = p0.coreS := by rw [← hp1]; exact hcS
      have hs1 : p1.s = raw := by rw [← hp1]; exact hraw
      have he1 : p1.em = (e : Int) := by rw [← hp1]; exact he
      have h : Sat σ w (p1.at b :: (RM ++ (lnkC lb (.slice none 0 0) url title tc cor :: ((M1 ++ ([(ob, cel [.string (bs t), .int .i64 k] oe)] ++ M3)) ++ (OM ++ L))))) := h.re (by intro _; simp only [List.append_eq, cnt_append, cnt_cons, cnt_nil] <;> omega)
      refine emitE_ok hS1 h he1 (by rw [hs1]; omega) (by simp only [List.length_append, List.length_cons]; omega) fun w p2 RM2 xs XM hp2 hbt2 he2 hco2 hS2 hX2 h => ⟨rfl, nilP_some ?_⟩
      rw [hs1] at hX2
      have hcS2 := PS.coreS_of hp2 hcS1
      have hs2 : p2.s = raw := by rw [← hs1]; have := congrArg PS.s hp2; exact this
      refine ⟨_, _, _, Sat.ld h (by first | assumption | (repeat (first | exact .head _ | apply List.Mem.tail))) (by exact rfl), ?_⟩
      have hsl2 := hS2.1
      have hsc2 := hS2.2.1
      have hxl := hX2.length
      have hI2x := hI2.append hX2
      have hI2l := hI2x.length
      have hpos : 0 < (ts2 ++ emitX raw e i).length := List.length_pos_iff.2 hne
      simp only [List.length_append, List.length_cons] at hsl2 hI2l hpos
      have hxn : (emitX raw e i).length ≤ 1 := by unfold emitX; split <;> simp
      rw [i64_inc (by omega)]
      refine ⟨_, _, _, _, sliceF rowInl.ht rowInl.hi p2.lq p2.ln p2.lc (ts1.length + 1) (by omega) w, ?_⟩
      rw [if_neg (by omega)]
      obtain ⟨_, _, ⟨_, h0, _⟩ | ⟨rb2, sp, hq2', hRM2, hsp⟩⟩ := hS2
      · omega
      rw [hq2']
      simp only [Option.map_some, Addr.add_lit, Nat.zero_add, rowInl.hs, Nat.mul_one]
      have hrow : vs1 ++ ptrV ty_P_openPlain ob :: vs2 ++ xs ++ sp = (vs1 ++ [ptrV ty_P_openPlain ob]) ++ ((vs2 ++ xs) ++ sp) := by simp
      rw [hrow] at hRM2 hsp
      have hD : DRow none 0 [] (vs2 ++ xs) 0 (some ⟨rb2, ts1.length + 1, none⟩) (p2.ln - (ts1.length + 1)) (p2.lc - (ts1.length + 1)) RM2 RM2 := by
        refine ⟨by simp; omega, by simp, .inr ⟨[], Sl.nil 1 ty_Inline, rfl, fun j v hv => ⟨rb2, _, (vs1 ++ [ptrV ty_P_openPlain ob]) ++ ((vs2 ++ xs) ++ sp), ty_Inline, rfl, by rw [hRM2]; exact .head _, ?_⟩⟩⟩
        rw [List.getElem?_append_right (by simp; omega), List.getElem?_append_left (by have := (List.getElem?_eq_some_iff.1 hv).1; simp at this ⊢; omega)]
        rw [← hv]; congr 1; simp; omega
      have h : Sat σ w (RM2 ++ ((M3 ++ XM) ++ (p2.at b :: (lnkC lb (.slice none 0 0) url title tc cor :: ((ob, cel [.string (bs t), .int .i64 k] oe) :: (M1 ++ (OM ++ L))))))) := h.re (by intro _; simp only [List.append_eq, cnt_append, cnt_cons, cnt_nil] <;> omega)
      refine emph_ok hD hI2x hwf hap (by omega) h fun w dq dc dvs DM RS hI3 hD3 hdl h => ⟨_, _, _, rfl, nilP_some ?_⟩
      obtain ⟨_, _, ⟨rb3, junk, sp3, _, hq3, _⟩ | ⟨DR, hSd, hRS, _⟩⟩ := hD3
      · simp at hq3
      subst hRS
      have h : Sat σ w (lnkC lb (.slice none 0 0) url title tc cor :: (DM ++ ((DR ++ RM2) ++ (p2.at b :: ((ob, cel [.string (bs t), .int .i64 k] oe) :: (M1 ++ (OM ++ L))))))) := h.re (by intro _; simp only [List.append_eq, cnt_append, cnt_cons, cnt_nil] <;> omega)
      refine Sat.st h (k := 0) rfl (Nat.le_of_ble_eq_true rfl) trivial (by first | (dsimp only [List.set]; exact rfl) | exact rfl) fun w h => ?_
      have h : Sat σ w (lnkC lb (.slice dq dvs.length dc) url title tc cor :: (DM ++ ((DR ++ RM2) ++ (p2.at b :: ((ob, cel [.string (bs t), .int .i64 k] oe) :: (M1 ++ (OM ++ L))))))) := h
      have hmo2 : (ob, cel [.string (bs t), .int .i64 k] oe) ∈ lnkC lb (.slice dq dvs.length dc) url title tc cor :: (DM ++ ((DR ++ RM2) ++ (p2.at b :: ((ob, cel [.string (bs t), .int .i64 k] oe) :: (M1 ++ (OM ++ L)))))) :=
        .tail _ (List.mem_append_right _ (List.mem_append_right _ (.tail _ (.head _))))
      refine nilP_some ⟨_, Sat.ld h hmo2 rfl, by decide, by simp; omega, ?_⟩
      rw [hb0]
      have h : Sat σ w ((rb2, cel ((vs1 ++ [ptrV ty_P_openPlain ob]) ++ ((vs2 ++ xs) ++ sp)) ty_Inline) :: (p2.at b :: ((ob, cel [.string (bs t), .int .i64 k] oe) :: (lnkC lb (.slice dq dvs.length dc) url title tc cor :: (DM ++ (DR ++ (M1 ++ (OM ++ L)))))))) := by rw [hRM2] at h; exact h.re (by intro _; simp only [List.append_eq, cnt_append, cnt_cons, cnt_nil] <;> omega)
      -- the link stands in the row
      have k10 : ∀ w (ty : TypeId), Sat σ w ((rb2, cel ((vs1 ++ [ptrV ty lb]) ++ ((vs2 ++ xs) ++ sp)) ty_Inline) :: (p2.at b :: ((ob, cel [.string (bs t), .int .i64 k] oe) :: (lnkC lb (.slice dq dvs.length dc) url title tc cor :: (DM ++ (DR ++ (M1 ++ (OM ++ L)))))))) →
          InlAt (closeI img (emphM (ts2 ++ emitX raw e i)) url title tc cor) (ptrV ty lb) (lnkC lb (.slice dq dvs.length dc) url title tc cor :: (DR ++ DM)) →
          g_parseState_inline.k10 R X (some ⟨b, 0, none⟩) (bs raw) oq opens.length oc lo false (ts1.length : Int) (some ⟨ob, 0, none⟩) (en : Int) w := by
        intro w ty h hIL
        refine nilP_some ?_
        refine ⟨_, _, _, Sat.ld h (by first | assumption | (repeat (first | exact .head _ | apply List.Mem.tail))) (by exact rfl), ?_⟩
        rw [i64_inc (by omega)]
        refine ⟨_, _, _, _, sliceT rowInl.ht rowInl.hi p2.lq p2.ln p2.lc (ts1.length + 1) (by omega) w, nilP_some ?_⟩
        refine Sat.st h (k := 1) rfl (Nat.le_of_ble_eq_true rfl) trivial (by first | (dsimp only [List.set]; exact rfl) | exact rfl) fun w h => ?_
        let p3 : PS := { p2 with ln := ts1.length + 1 }
        have h : Sat σ w ((rb2, cel ((vs1 ++ [ptrV ty lb]) ++ ((vs2 ++ xs) ++ sp)) ty_Inline) :: (p3.at b :: ((ob, cel [.string (bs t), .int .i64 k] oe) :: (lnkC lb (.slice dq dvs.length dc) url title tc cor :: (DM ++ (DR ++ (M1 ++ (OM ++ L)))))))) := h
        have h : Sat σ w (p3.at b :: ((rb2, cel ((vs1 ++ [ptrV ty lb]) ++ ((vs2 ++ xs) ++ sp)) ty_Inline) :: ((ob, cel [.string (bs t), .int .i64 k] oe) :: (lnkC lb (.slice dq dvs.length dc) url title tc cor :: (DM ++ (DR ++ (M1 ++ (OM ++ L)))))))) := h.re (by intro _; simp only [List.append_eq, cnt_append, cnt_cons, cnt_nil] <;> omega)
        refine skipTo_ok h fun w h => ⟨rfl, nilP_some ?_⟩
        generalize hp4 : ({ p3 with em := (en : Int) } : PS) = p4 at h
        have hp4c : p4.core = p2.core := by rw [← hp4]; rfl
        have hII : ∀ w, Sat σ w (p4.at b :: ((rb2, cel ((vs1 ++ [ptrV ty lb]) ++ ((vs2 ++ xs) ++ sp)) ty_Inline) :: ((ob, cel [.string (bs t), .int .i64 k] oe) :: (lnkC lb (.slice dq dvs.length dc) url title tc cor :: (DM ++ (DR ++ (M1 ++ (OM ++ L)))))))) →
            IIn σ b p4 (ts1 ++ [closeI img (emphM (ts2 ++ emitX raw e i)) url title tc cor]) opens oq opens.length oc L w := by
          intro w h
          refine ⟨vs1 ++ [ptrV ty lb], [(rb2, cel ((vs1 ++ [ptrV ty lb]) ++ ((vs2 ++ xs) ++ sp)) ty_Inline)], M1 ++ (lnkC lb (.slice dq dvs.length dc) url title tc cor :: (DR ++ DM)), OM, ?_, hI1.append (InlsAt.one hIL), hOs, by simp; omega, ?_⟩
          · refine ⟨by rw [← hp4]; simp [p3]; omega, by rw [← hp4]; show ts1.length + 1 ≤ p2.lc; omega, .inr ⟨rb2, (vs2 ++ xs) ++ sp, by rw [← hp4]; exact hq2', rfl, ?_⟩⟩
            rw [← hp4]; show _ = p2.lc * 1
            simp only [List.length_append, List.length_singleton] at hsp ⊢; omega
          · exact h.less [(ob, cel [.string (bs t), .int .i64 k] oe)] (by intro _; simp only [List.append_eq, cnt_append, cnt_cons, cnt_nil] <;> omega)
        have hmo3 : (ob, cel [.string (bs t), .int .i64 k] oe) ∈ p4.at b :: ((rb2, cel ((vs1 ++ [ptrV ty lb]) ++ ((vs2 ++ xs) ++ sp)) ty_Inline) :: ((ob, cel [.string (bs t), .int .i64 k] oe) :: (lnkC lb (.slice dq dvs.length dc) url title tc cor :: (DM ++ (DR ++ (M1 ++ (OM ++ L))))))) := .tail _ (.tail _ (.head _))
        refine ⟨_, Sat.ld h hmo3 rfl, by decide, by simp; omega, ?_⟩
        rw [hb0]
        have hcS4 : p4.coreS = p0.coreS := PS.coreS_of hp4c hcS2
        have hs4 : p4.s = raw := by rw [← hp4]; exact hs2
        have he4 : p4.em = (en : Int) := by rw [← hp4]
        rcases Bool.eq_false_or_eq_true img with hg | hg
        · rw [hg] at ht hnext hII
          exact br_false (by rw [ht]; rfl) (hnext w p4 oq _ oc hcS4 hs4 he4 (hII w h))
        · rw [hg] at ht hnext hII
          exact br_true (by rw [ht]; rfl) (nilP_some ⟨_, Sat.ld h hmo3 rfl, hnext w p4 oq _ oc hcS4 hs4 he4 (hII w h)⟩)
      have eset : ∀ v : Value, ((vs1 ++ [ptrV ty_P_openPlain ob]) ++ ((vs2 ++ xs) ++ sp)).set ts1.length v = (vs1 ++ [v]) ++ ((vs2 ++ xs) ++ sp) := by
        intro v
        rw [← hl1, List.append_assoc, List.append_assoc, List.set_append_right _ _ (Nat.le_refl _), Nat.sub_self]; simp
      have hil : ts1.length < ((vs1 ++ [ptrV ty_P_openPlain ob]) ++ ((vs2 ++ xs) ++ sp)).length := by simp; omega
      rcases Bool.eq_false_or_eq_true img with hg | hg
      · refine br_true (by rw [ht, hg]; rfl) (nilP_some ?_)
        refine ⟨_, _, _, Sat.ld h (by first | assumption | (repeat (first | exact .head _ | apply List.Mem.tail))) (by exact rfl), ?_⟩
        refine ⟨by omega, by omega, ?_⟩
        rw [hq2']
        refine nilP_some ?_
        simp only [Addr.add_lit, Int.toNat_natCast, Nat.mul_one, Nat.zero_add, Nat.add_zero]
        refine Sat.st h (k := 0) rfl hil trivial rfl fun w h => ?_
        rw [eset] at h
        refine k10 w ty_P_Image h ?_
        rw [hg]
        exact ⟨lb, ty_Link, dq, dvs.length, dc, dvs, DR, DM, rfl, rfl, hSd, hI3⟩
      · refine br_false (by rw [ht, hg]; rfl) (nilP_some ?_)
        refine ⟨_, _, _, Sat.ld h (by first | assumption | (repeat (first | exact .head _ | apply List.Mem.tail))) (by exact rfl), ?_⟩
        refine ⟨by omega, by omega, ?_⟩
        rw [hq2']
        refine nilP_some ?_
        simp only [Addr.add_lit, Int.toNat_natCast, Nat.mul_one, Nat.zero_add, Nat.add_zero]
        refine Sat.st h (k := 0) rfl hil trivial rfl fun w h => ?_
        rw [eset] at h
        refine k10 w ty_P_Link h ?_
        rw [hg]
        exact ⟨lb, ty_Link, dq, dvs.length, dc, dvs, DR, DM, rfl, rfl, hSd, hI3⟩
    have fin : ∀ w r, Sat σ w (lnkC lb (.slice none 0 0) url title tc cor :: (({ p with corner := r } : PS).at b :: (RM ++ ((M1 ++ ([(ob, cel [.string (bs t), .int .i64 k] oe)] ++ M3)) ++ (OM ++ L))))) →
        g_parseState_inline.k9 R X (some ⟨b, 0, none⟩) (bs raw) oq opens.length oc lo false (i : Int) (ts1.length : Int) (some ⟨ob, 0, none⟩) (some ⟨lb, 0, none⟩) (en : Int) w := fun w r h => k9 w r h.up1
    refine nilP_some ⟨p.corner, Sat.ld h (.tail _ (.head _)) rfl, br_split (fun _ => nilP_some ?_) (fun _ => ?_)⟩
    · refine Sat.st h (k := 1) rfl (Nat.le_of_ble_eq_true rfl) trivial (by first | (dsimp only [List.set]; exact rfl) | exact rfl) fun w h => ?_
      exact fin _ true h
    · refine nilP_some ⟨cor, Sat.ld h (.head _) rfl, br_split (fun _ => nilP_some ?_) (fun _ => ?_)⟩
      · refine Sat.st h (k := 1) rfl (Nat.le_of_ble_eq_true rfl) trivial (by first | (dsimp only [List.set]; exact rfl) | exact rfl) fun w h => ?_
        exact fin _ true h
      · refine nilP_some ⟨bs url, Sat.ld h (.head _) rfl, ?_⟩
        refine linkCorner_ok (by omega) fun r => ⟨_, rfl, nilP_some ?_⟩
        refine Sat.st h (k := 1) rfl (Nat.le_of_ble_eq_true rfl) trivial (by first | (dsimp only [List.set]; exact rfl) | exact rfl) fun w h => ?_
        exact fin _ r h
  rcases Bool.eq_false_or_eq_true img with hg | hg
  · exact br_true (by rw [ht, hg]; rfl) k8
  · refine br_false (by rw [ht, hg]; rfl) (nilP_some ⟨_, Sat.ld h hmo rfl, ?_⟩)
    rw [decide_eq_true (hlo.resolve_left (by rw [hg]; decide))]
    exact k8
end Go.Proofs.YtmicoampfglaiaaGreatDoor


/- Brackets: a bracket that closes nothing; lists without runs; texts that begin with a bracket. -/
set_option linter.unusedVariables false
namespace Go.Proofs.YtmicoampfglaiaaGreatDoor
open Go.Proofs Go.IntWalk Go.RowKit
variable {σ : Out} {w : World} {L L' : List Chunk} {R : Ending → World → Prop}
/-! ### Lists without runs -/
def plainO : Inl → Inl
  | .openP s _ => .plain s
  | t => t
def noRun : Inl → Bool
  | .emphP _ _ _ _ _ => false
  | _ => true
theorem emphGo_noRun : ∀ (ts : List Inl) (dst : List Inl) (st : List (List Nat)), (∀ t ∈ ts, noRun t = true) → emphGo dst st ts = dst ++ ts.map plainO
  | [], dst, st, _ => by simp [emphGo]
  | t :: ts, dst, st, h => by
    have ih := fun d s => emphGo_noRun ts d s (fun t' ht' => h t' (List.mem_cons_of_mem _ ht'))
    have ht := h t (.head _)
    cases t <;> first | (simp [noRun] at ht; done) | (simp only [emphGo, ih, plainO, List.map_cons, List.append_assoc, List.singleton_append])
theorem emphM_noRun {ts : List Inl} (h : ∀ t ∈ ts, noRun t = true) : emphM ts = ts.map plainO := by
  unfold emphM; rw [emphGo_noRun ts [] _ h]; rfl
theorem wfE_noRun {ts : List Inl} (h : ∀ t ∈ ts, noRun t = true) : wfE ts := by
  intro s co cc i n hm
  have := h _ hm
  simp [noRun] at this
theorem apartE_noRun : ∀ {ts : List Inl}, (∀ t ∈ ts, noRun t = true) → apartE none ts
  | [], _ => trivial
  | t :: ts, h => by
    have ih := apartE_noRun (ts := ts) (fun t' ht' => h t' (List.mem_cons_of_mem _ ht'))
    have ht := h t (.head _)
    have : headOf t = none := by cases t <;> first | (simp [noRun] at ht; done) | rfl
    exact ⟨.inl rfl, by rw [this]; exact ih⟩
theorem emphOK_noRun {ts : List Inl} (h : ∀ t ∈ ts, noRun t = true) (hts : ts.length < 999999990) : EmphOK ts (ts.map plainO) := by
  have := emphOK_gen (wfE_noRun h) (apartE_noRun h) hts
  rw [emphM_noRun h] at this; exact this
/-! ### Texts that begin with a bracket, and with no definition -/
end Go.Proofs.YtmicoampfglaiaaGreatDoor


/- Brackets: destinations that stand plain. -/
set_option linter.unusedVariables false
namespace Go.Proofs.YtmicoampfglaiaaGreatDoor
open Go.Proofs Go.IntWalk Go.RowKit
variable {σ : Out} {w : World} {L L' : List Chunk} {R : Ending → World → Prop}
theorem pastSTN_here {s : List UInt8} {i : Nat} (hi : i < s.length) (h : isSTN (s.getD i 0) = false) : pastSTN s i = i := by
  unfold pastSTN
  rw [List.drop_eq_getElem_cons hi, List.dropWhile_cons_of_neg (by rw [getElem_getD hi 0, h]; decide)]
  simp; omega
theorem getD_at {A B : List UInt8} {i : Nat} (h : A.length = i) (k : Nat) : (A ++ B).getD (i + k) 0 = B.getD k 0 := by
  subst h; rw [getD_app (by omega), Nat.add_sub_cancel_left]
end Go.Proofs.YtmicoampfglaiaaGreatDoor


set_option linter.unusedVariables false
set_option maxRecDepth 20000
namespace Go.Proofs.YtmicoampfglaiaaGreatDoor
open Go.Proofs
/- 15 pub-paratext/laws.printable -/
namespace g_laws_printable
noncomputable def body : Code := bodyOf Tryz.f15
def bl1 (R : EP) (Xa : BA → Int → Int → WP) (x0 : BA) (x11 : Int) (x12 : Int) (w : World) : Prop :=
 br (decide (x12 < x11))
 (0 ≤ x12 ∧ x12 < (x0.size : Int) ∧
 ((!(decide ((bt x0 x12) < 32))) = true → 0 ≤ x12 ∧ x12 < (x0.size : Int)) ∧
 br ((decide ((bt x0 x12) < 32)) || (decide ((bt x0 x12) > 126)))
 (R (.returned (.bool false)) w)
 (Xa x0 x11 (IntKind.i64.wrap (x12 + 1)) w))
 (R (.returned (.bool true)) w)
def l1 (R : EP) (x0 : BA) (x11 : Int) (x12 : Int) (w : World) : Prop :=
  ∀ X : BA → Int → Int → WP, (∀ x0 x11 x12 w, bl1 R X x0 x11 x12 w → X x0 x11 x12 w) → X x0 x11 x12 w

noncomputable def al1 (R : EP) (Xa : BA → Int → Int → WP) : AC :=
  (.leaf (sel [1, 1, 0, 1, 0, 0] body))
end g_laws_printable
def g_laws_printable (R : EP) (x0 : BA) (x1 : Int) (w : World) : Prop :=
 br (decide ((x0.size : Int) > x1))
 (R (.returned (.bool false)) w)
 (g_laws_printable.l1 R x0 (x0.size : Int) 0 w)

noncomputable def g_laws_printable.ac (R : EP) : AC :=
  (.seq (.leaf (sel [0] g_laws_printable.body)) (.seq (.leaf (sel [1, 0] g_laws_printable.body)) (.seq (.seq (.leaf (sel [1, 1, 0, 0] g_laws_printable.body)) (.block 0 (.loop (leaf [(0, .s .str), (11, .s (.int .i64)), (12, .s (.int .i64))] (g_laws_printable.l1 R)) (sel [1, 1, 0, 1, 0, 0] g_laws_printable.body)))) (.leaf (sel [1, 1, 1] g_laws_printable.body)))))
theorem g_laws_printable.good (R : EP) : Good P 26 (g_laws_printable.ac R) (QF P [.tmp 4] R) :=
  ⟨trivial, ⟨trivial, ⟨⟨trivial, (loopG (g_laws_printable.al1 R) (g_laws_printable.bl1 R) (fun _ => by kernel_rfl) (fun Xa => trivial) (fun Xa => by intro x0 x11 x12 ρ w; kernel_rfl) (fun X h _ _ _ _ g => g X h))⟩, trivial⟩⟩⟩
theorem g_laws_printable.eq (R : EP) (x0 : BA) (x1 : Int) (w : World) : g_laws_printable R x0 x1 w = vcA P 26 (g_laws_printable.ac R) (QF P [.tmp 4] R) (fr0 [.string x0, .int .i64 x1]) w := by kernel_rfl
theorem g_laws_printable.sound {R : EP} {x0 : ByteArray} {x1 : Int} {w : World} (h : g_laws_printable R x0 x1 w) : callE P i_laws_printable #[.string x0, .int .i64 x1] R w :=
  callE_fin (c := g_laws_printable.body) Tryz.func15 Tryz.call15 (by kernel_rfl) (by kernel_rfl) (by kernel_rfl) (by kernel_rfl) (by kernel_rfl) (g_laws_printable.good R) (g_laws_printable.eq R x0 x1 w) h
/- 20 pub-paratext/spec.EscapeHTML -/
namespace g_spec_EscapeHTML
noncomputable def body : Code := bodyOf Tryz.f20
def bl1 (R : EP) (Xa : BA → BA → Int → WP) (x0 : BA) (x3 : BA) (x4 : Int) (w : World) : Prop :=
 br (decide (x4 < (x0.size : Int)))
 (0 ≤ x4 ∧ x4 < (x0.size : Int) ∧
 br ((bt x0 x4) == 38)
 (((x3.size + (ByteArray.mk #[38, 97, 109, 112, 59]).size : Nat) : Int) ≤ IntKind.i64.max ∧
 Xa x0 (x3 ++ (ByteArray.mk #[38, 97, 109, 112, 59])) (IntKind.i64.wrap (x4 + 1)) w)
 (br ((bt x0 x4) == 60)
 (((x3.size + (ByteArray.mk #[38, 108, 116, 59]).size : Nat) : Int) ≤ IntKind.i64.max ∧
 Xa x0 (x3 ++ (ByteArray.mk #[38, 108, 116, 59])) (IntKind.i64.wrap (x4 + 1)) w)
 (br ((bt x0 x4) == 62)
 (((x3.size + (ByteArray.mk #[38, 103, 116, 59]).size : Nat) : Int) ≤ IntKind.i64.max ∧
 Xa x0 (x3 ++ (ByteArray.mk #[38, 103, 116, 59])) (IntKind.i64.wrap (x4 + 1)) w)
 (br ((bt x0 x4) == 34)
 (((x3.size + (ByteArray.mk #[38, 113, 117, 111, 116, 59]).size : Nat) : Int) ≤ IntKind.i64.max ∧
 Xa x0 (x3 ++ (ByteArray.mk #[38, 113, 117, 111, 116, 59])) (IntKind.i64.wrap (x4 + 1)) w)
 (0 ≤ x4 ∧ x4 ≤ (IntKind.i64.wrap (x4 + 1)) ∧ (IntKind.i64.wrap (x4 + 1)) ≤ (x0.size : Int) ∧
 ((x3.size + (x0.extract (Int.toNat x4) (Int.toNat (IntKind.i64.wrap (x4 + 1)))).size : Nat) : Int) ≤ IntKind.i64.max ∧
 Xa x0 (x3 ++ (x0.extract (Int.toNat x4) (Int.toNat (IntKind.i64.wrap (x4 + 1))))) (IntKind.i64.wrap (x4 + 1)) w)))))
 (R (.returned (.string x3)) w)
def l1 (R : EP) (x0 : BA) (x3 : BA) (x4 : Int) (w : World) : Prop :=
  ∀ X : BA → BA → Int → WP, (∀ x0 x3 x4 w, bl1 R X x0 x3 x4 w → X x0 x3 x4 w) → X x0 x3 x4 w

noncomputable def al1 (R : EP) (Xa : BA → BA → Int → WP) : AC :=
  (.leaf (sel [1, 1, 0, 1, 0, 0] body))
end g_spec_EscapeHTML
def g_spec_EscapeHTML (R : EP) (x0 : BA) (w : World) : Prop :=
 g_spec_EscapeHTML.l1 R x0 (ByteArray.mk #[]) 0 w

noncomputable def g_spec_EscapeHTML.ac (R : EP) : AC :=
  (.seq (.leaf (sel [0] g_spec_EscapeHTML.body)) (.seq (.leaf (sel [1, 0] g_spec_EscapeHTML.body)) (.seq (.seq (.leaf (sel [1, 1, 0, 0] g_spec_EscapeHTML.body)) (.block 0 (.loop (leaf [(0, .s .str), (3, .s .str), (4, .s (.int .i64))] (g_spec_EscapeHTML.l1 R)) (sel [1, 1, 0, 1, 0, 0] g_spec_EscapeHTML.body)))) (.leaf (sel [1, 1, 1] g_spec_EscapeHTML.body)))))
theorem g_spec_EscapeHTML.good (R : EP) : Good P 38 (g_spec_EscapeHTML.ac R) (QF P [.tmp 2] R) :=
  ⟨trivial, ⟨trivial, ⟨⟨trivial, (loopG (g_spec_EscapeHTML.al1 R) (g_spec_EscapeHTML.bl1 R) (fun _ => by kernel_rfl) (fun Xa => trivial) (fun Xa => by intro x0 x3 x4 ρ w; kernel_rfl) (fun X h _ _ _ _ g => g X h))⟩, trivial⟩⟩⟩
theorem g_spec_EscapeHTML.eq (R : EP) (x0 : BA) (w : World) : g_spec_EscapeHTML R x0 w = vcA P 38 (g_spec_EscapeHTML.ac R) (QF P [.tmp 2] R) (fr0 [.string x0]) w := by kernel_rfl
theorem g_spec_EscapeHTML.sound {R : EP} {x0 : ByteArray} {w : World} (h : g_spec_EscapeHTML R x0 w) : callE P i_spec_EscapeHTML #[.string x0] R w :=
  callE_fin (c := g_spec_EscapeHTML.body) Tryz.func20 Tryz.call20 (by kernel_rfl) (by kernel_rfl) (by kernel_rfl) (by kernel_rfl) (by kernel_rfl) (g_spec_EscapeHTML.good R) (g_spec_EscapeHTML.eq R x0 w) h
end Go.Proofs.YtmicoampfglaiaaGreatDoor

/- Small functions of the laws and of the reference: printable, EscapeHTML. -/
set_option linter.unusedVariables false
namespace Go.Proofs.YtmicoampfglaiaaGreatDoor
open Go.Proofs Go.IntWalk Go.RowKit
variable {σ : Out} {w : World} {L L' : List Chunk} {R : Ending → World → Prop}
def prB (c : UInt8) : Bool := decide (32 ≤ c.toNat) && decide (c.toNat ≤ 126)
def printM (s : List UInt8) (n : Nat) : Bool := decide (s.length ≤ n) && s.all prB
theorem printable_ok {s : List UInt8} {n : Nat} (hs : s.length < 4611686018427387904) (hR : R (.returned (.bool (printM s n))) w) : callE P i_laws_printable #[.string (bs s), .int .i64 n] R w := by
  refine g_laws_printable.sound ?_
  by_cases hn : n < s.length
  · refine br_true (by simp; omega) ?_
    have : printM s n = false := by unfold printM; rw [decide_eq_false (by omega)]; rfl
    rw [← this]; exact hR
  refine br_false (by simp; omega) ?_
  intro X hX
  rw [bs_size]
  have hall : printM s n = s.all prB := by unfold printM; rw [decide_eq_true (by omega)]; rfl
  rw [hall] at hR
  have key : ∀ k i, i + k = s.length → s.all prB = (s.drop i).all prB → X (bs s) (s.length : Nat) (i : Int) w := by
    intro k
    induction k with
    | zero =>
      intro i hi ha
      refine hX _ _ _ _ (br_false (by simp; omega) ?_)
      rw [List.drop_eq_nil_of_le (by omega)] at ha
      rw [ha] at hR; exact hR
    | succ k ih =>
      intro i hi ha
      have hil : i < s.length := by omega
      rw [List.drop_eq_getElem_cons hil, List.all_cons] at ha
      refine hX _ _ _ _ (br_true (by simp; omega) ⟨by omega, by simp; omega, fun _ => ⟨by omega, by simp; omega⟩, ?_⟩)
      rw [bt_at hil]
      by_cases hm : prB s[i] = true
      · have hm' := hm
        simp only [prB, Bool.and_eq_true, decide_eq_true_eq] at hm'
        refine br_false (by simp; omega) ?_
        rw [i64_inc (by omega)]
        refine ih (i + 1) (by omega) ?_
        rw [ha, hm, Bool.true_and]
      · have hm' : prB s[i] = false := by simpa using hm
        rw [ha, hm', Bool.false_and] at hR
        refine br_true ?_ hR
        simp only [prB, Bool.and_eq_false_iff, decide_eq_false_iff_not] at hm'
        simp; omega
  exact key s.length 0 (by omega) (by rw [List.drop_zero])
theorem escB_cases (c : UInt8) : (c = 38 ∧ escB htmlPs c = [38, 97, 109, 112, 59]) ∨ (c = 60 ∧ escB htmlPs c = [38, 108, 116, 59]) ∨ (c = 62 ∧ escB htmlPs c = [38, 103, 116, 59]) ∨ (c = 34 ∧ escB htmlPs c = [38, 113, 117, 111, 116, 59]) ∨ (c ≠ 38 ∧ c ≠ 60 ∧ c ≠ 62 ∧ c ≠ 34 ∧ escB htmlPs c = [c]) := by
  by_cases h1 : c = 38
  · subst h1; exact .inl ⟨rfl, by decide⟩
  by_cases h2 : c = 60
  · subst h2; exact .inr (.inl ⟨rfl, by decide⟩)
  by_cases h3 : c = 62
  · subst h3; exact .inr (.inr (.inl ⟨rfl, by decide⟩))
  by_cases h4 : c = 34
  · subst h4; exact .inr (.inr (.inr (.inl ⟨rfl, by decide⟩)))
  refine .inr (.inr (.inr (.inr ⟨h1, h2, h3, h4, ?_⟩)))
  have ne : ∀ d : UInt8, c ≠ d → (d == c) = false := fun d hd => by simpa using fun h => hd h.symm
  unfold escB htmlPs
  simp [List.find?, ne 34 h4, ne 38 h1, ne 60 h2, ne 62 h3]
theorem escHTML_ok {s : List UInt8} (hs : s.length < 1000000000) (hR : R (.returned (.string (bs (escS htmlPs s)))) w) : callE P i_spec_EscapeHTML #[.string (bs s)] R w := by
  refine g_spec_EscapeHTML.sound ?_
  intro X hX
  have hmax : IntKind.i64.max = 9223372036854775807 := rfl
  have key : ∀ k i, i + k = s.length → X (bs s) (bs (escS htmlPs (s.take i))) (i : Int) w := by
    intro k
    induction k with
    | zero =>
      intro i hi
      refine hX _ _ _ _ (br_false (by simp; omega) ?_)
      rw [List.take_of_length_le (by omega)]; exact hR
    | succ k ih =>
      intro i hi
      have hil : i < s.length := by omega
      have hlen := escS_length (ps := htmlPs) (by decide) (s.take i)
      rw [List.length_take] at hlen
      have hst : escS htmlPs (s.take (i + 1)) = escS htmlPs (s.take i) ++ escB htmlPs s[i] := by
        rw [List.take_succ_eq_append_getElem hil, escS_append]; simp [escS]
      have next := ih (i + 1) (by omega)
      rw [hst] at next
      refine hX _ _ _ _ (br_true (by simp; omega) ⟨by omega, by simp; omega, ?_⟩)
      rw [bt_beq hil 38 38 rfl, bt_beq hil 60 60 rfl, bt_beq hil 62 62 rfl, bt_beq hil 34 34 rfl, i64_inc (by omega)]
      rw [show ByteArray.mk #[38, 97, 109, 112, 59] = bs [38, 97, 109, 112, 59] from rfl, show ByteArray.mk #[38, 108, 116, 59] = bs [38, 108, 116, 59] from rfl, show ByteArray.mk #[38, 103, 116, 59] = bs [38, 103, 116, 59] from rfl, show ByteArray.mk #[38, 113, 117, 111, 116, 59] = bs [38, 113, 117, 111, 116, 59] from rfl]
      rcases escB_cases s[i] with ⟨h, he⟩ | ⟨h, he⟩ | ⟨h, he⟩ | ⟨h, he⟩ | ⟨h1, h2, h3, h4, he⟩
      · rw [he] at next
        refine br_true (by simpa using h) ⟨by rw [hmax]; simp; omega, ?_⟩
        rw [bs_append]; exact next
      · rw [he] at next
        refine br_false (by rw [h]; decide) (br_true (by simpa using h) ⟨by rw [hmax]; simp; omega, ?_⟩)
        rw [bs_append]; exact next
      · rw [he] at next
        refine br_false (by rw [h]; decide) (br_false (by rw [h]; decide) (br_true (by simpa using h) ⟨by rw [hmax]; simp; omega, ?_⟩))
        rw [bs_append]; exact next
      · rw [he] at next
        refine br_false (by rw [h]; decide) (br_false (by rw [h]; decide) (br_false (by rw [h]; decide) (br_true (by simpa using h) ⟨by rw [hmax]; simp; omega, ?_⟩)))
        rw [bs_append]; exact next
      · rw [he] at next
        refine br_false (by simpa using h1) (br_false (by simpa using h2) (br_false (by simpa using h3) (br_false (by simpa using h4) ?_)))
        have e1 : (s.take (i + 1)).drop i = [s[i]] := by
          rw [List.take_succ_eq_append_getElem hil, List.drop_append_of_le_length (by rw [List.length_take]; omega), List.drop_eq_nil_of_le (by rw [List.length_take]; omega)]; rfl
        rw [Int.toNat_natCast, Int.toNat_natCast, bs_extract, e1, bs_append]
        refine ⟨by omega, by omega, by simp; omega, by rw [hmax]; simp; omega, next⟩
  exact key s.length 0 (by omega)
end Go.Proofs.YtmicoampfglaiaaGreatDoor


/- Escapes and the reference &amp; in destinations and titles. -/
set_option linter.unusedVariables false
namespace Go.Proofs.YtmicoampfglaiaaGreatDoor
open Go.Proofs Go.IntWalk Go.RowKit
variable {σ : Out} {w : World} {L L' : List Chunk} {R : Ending → World → Prop}
def ampT : List UInt8 := [38, 97, 109, 112, 59]
/-- The block of the table of names, by its first row. -/
def EntC (c : Chunk) : Prop := ∃ cs e fr, c = (1, .cells cs e fr) ∧ cs[0]? = some (.string (bs ampT)) ∧ cs[1]? = some (.string (bs [38]))
theorem htmlEntity_amp {c : Chunk} (hE : EntC c) (hc : c ∈ L) (h : Sat σ w L) (hR : R (.returned (.tuple #[.string (bs [38]), .bool true])) w) : callE P i_htmlEntity #[.string (bs ampT)] R w := by
  obtain ⟨cs, e, fr, rfl, h0, h1⟩ := hE
  have hb := h.at_ _ hc
  have l0 : w.cell? ⟨1, 0, none⟩ = some (.string (bs ampT)) := by rw [cell_of_heap hb]; exact h0
  have l1 : w.cell? ⟨1, 1, none⟩ = some (.string (bs [38])) := by rw [cell_of_heap hb]; exact h1
  refine g_htmlEntity.sound ?_
  intro X hX
  refine hX _ _ _ (br_true rfl ⟨by decide, by decide, by decide, by decide, _, l0, br_true (by simp) ⟨by decide, by decide, by decide, by decide, _, l1, hR⟩⟩)
/-- A text, each byte written in its way. -/
def tkS (tk : UInt8 → List UInt8) (s : List UInt8) : List UInt8 := s.flatMap tk
@[simp] theorem tkS_nil (tk : UInt8 → List UInt8) : tkS tk [] = [] := rfl
@[simp] theorem tkS_cons (tk : UInt8 → List UInt8) (c : UInt8) (s : List UInt8) : tkS tk (c :: s) = tk c ++ tkS tk s := List.flatMap_cons ..
@[simp] theorem tkS_append (tk : UInt8 → List UInt8) (s t : List UInt8) : tkS tk (s ++ t) = tkS tk s ++ tkS tk t := List.flatMap_append ..
/-- How a byte may be written. -/
def TokF (tk : UInt8 → List UInt8) (c : UInt8) : Prop := (tk c = [92, c] ∧ puB c = true) ∨ (c = 38 ∧ tk c = ampT) ∨ (tk c = [c] ∧ c ≠ 92 ∧ c ≠ 38)
theorem tok_mid {A T B : List UInt8} {k : Nat} (h : k < T.length) : (A ++ (T ++ B)).getD (A.length + k) 0 = T.getD k 0 := by rw [getD_at rfl, getD_app' h]
theorem tok_bt {A T B : List UInt8} {k : Nat} (h : k < T.length) : bt (bs (A ++ (T ++ B))) ((A.length + k : Nat) : Int) = ((T.getD k 0).toNat : Int) := by rw [bs_bt, tok_mid h]
theorem replace_ok {tk : UInt8 → List UInt8} {s : List UInt8} {ec : Chunk} (htk : ∀ c ∈ s, TokF tk c) (hl : (tkS tk s).length < 1000000) (hE : EntC ec) (hec : ec ∈ L) (h : Sat σ w L) (hR : ∀ w, Sat σ w L → R (.returned (.string (bs s))) w) :
    callE P i_mdUnescaper_Replace #[.agg #[], .string (bs (tkS tk s))] R w := by
  refine g_mdUnescaper_Replace.sound ?_
  refine Sat.bx h fun b0 w h => ?_
  refine Sat.bx h fun b w h => ?_
  intro X hX
  have hle : ∀ {t : List UInt8}, (∀ c ∈ t, TokF tk c) → t.length ≤ (tkS tk t).length := by
    intro t ht
    induction t with
    | nil => simp
    | cons c t ih =>
      have := ih (fun d hd => ht d (.tail _ hd))
      have h1 : 1 ≤ (tk c).length := by rcases ht c (.head _) with ⟨h, _⟩ | ⟨_, h⟩ | ⟨h, _⟩ <;> rw [h] <;> simp [ampT]
      rw [tkS_cons, List.length_append, List.length_cons]; omega
  have key : ∀ (rest don : List UInt8) (g : Bool) (M : List Chunk) w, don ++ rest = s → Bld b g don M → Sat σ w (M ++ ((b0, cel [] ty_mdUnescaper) :: L)) →
      X (bs (tkS tk s)) b (((tkS tk don).length : Nat) : Int) w := by
    intro rest
    induction rest with
    | nil =>
      intro don g M w hd hB h
      rw [List.append_nil] at hd; subst hd
      have hdl := hle htk
      refine hX _ _ _ _ (br_false (by simp) ?_)
      exact bldStr_ok hB h (by omega) fun w h => ⟨_, rfl, hR w h.tail⟩
    | cons c rest ih =>
      intro don g M w hd hB h
      have hraw : tkS tk s = tkS tk don ++ (tk c ++ tkS tk rest) := by rw [← hd]; simp
      have hnext : tkS tk (don ++ [c]) = tkS tk don ++ tk c := by simp
      have ih' := fun g M w hB h => ih (don ++ [c]) g M w (by rw [← hd]; simp) hB h
      rw [hnext] at ih'
      have hcs : c ∈ s := by rw [← hd]; simp
      have hdl : don.length ≤ (tkS tk s).length := by
        have := hle htk
        rw [← hd] at this ⊢
        simp only [List.length_append] at this ⊢; omega
      rw [hraw] at hl ih' hdl ⊢
      generalize hA : tkS tk don = A at hl ih' hdl ⊢
      generalize hBt : tkS tk rest = B at hl ih' hdl ⊢
      have gb := fun k hk => tok_bt (A := A) (T := tk c) (B := B) (k := k) hk
      have hlen : (A ++ (tk c ++ B)).length = A.length + (tk c).length + B.length := by simp; omega
      generalize hr : A ++ (tk c ++ B) = raw at hl ih' hdl gb hlen ⊢
      have w1 : IntKind.i64.wrap ((A.length : Int) + 1) = ((A.length + 1 : Nat) : Int) := i64_inc (by omega)
      rcases htk c hcs with ⟨ht, hp⟩ | ⟨rfl, ht⟩ | ⟨ht, h92, h38⟩
      · rw [ht] at gb hlen ih'
        simp only [List.length_cons, List.length_nil] at hlen gb
        have g0 := gb 0 (by decide); have g1 := gb 1 (by decide)
        rw [Nat.add_zero] at g0
        refine hX _ _ _ _ (br_true (by simp; omega) ⟨by omega, by simp; omega, ?_⟩)
        rw [g0, w1]
        refine ⟨fun _ => ⟨by omega, by simp; omega⟩, br_true (by rw [show (((([92, c] : List UInt8).getD 0 0).toNat : Int) == 92) = true from rfl, Bool.true_and]; simp; omega) ?_⟩
        rw [g1]
        refine isPunct_ok ⟨_, rfl, br_true hp ?_⟩
        rw [w1]
        refine ⟨by omega, by simp; omega, ?_⟩
        rw [g1]
        refine bldB_ok (k := c) hB h (by omega) fun w M' hB' h' => ⟨_, rfl, ?_⟩
        rw [i64_inc (by omega)]
        have := ih' true M' w hB' h'
        simp only [List.length_append, List.length_cons, List.length_nil] at this
        exact this
      · rw [ht] at gb hlen ih'
        simp only [show ampT.length = 5 from rfl] at hlen gb
        have g0 := gb 0 (by decide); have g1 := gb 1 (by decide); have g2 := gb 2 (by decide); have g3 := gb 3 (by decide); have g4 := gb 4 (by decide)
        rw [Nat.add_zero] at g0
        refine hX _ _ _ _ (br_true (by simp; omega) ⟨by omega, by simp; omega, ?_⟩)
        rw [g0, w1]
        refine ⟨fun hh => by simp [ampT] at hh, br_false (by rw [show ((ampT.getD 0 0).toNat : Int) = 38 from rfl]; rfl) ?_⟩
        refine br_false rfl ⟨by omega, by simp; omega, br_true (by rw [g0]; rfl) ?_⟩
        rw [w1]
        intro Y hY
        refine hY _ _ _ _ _ ⟨fun _ => ⟨by omega, by simp; omega⟩, br_true (by rw [g1, show ((((ampT.getD 1 0).toNat : Nat) : Int) != 59) = true from rfl, Bool.and_true]; simp; omega) ?_⟩
        rw [i64_inc (by omega)]
        refine hY _ _ _ _ _ ⟨fun _ => ⟨by omega, by simp; omega⟩, br_true (by rw [g2, show ((((ampT.getD 2 0).toNat : Nat) : Int) != 59) = true from rfl, Bool.and_true]; simp; omega) ?_⟩
        rw [i64_inc (by omega)]
        refine hY _ _ _ _ _ ⟨fun _ => ⟨by omega, by simp; omega⟩, br_true (by rw [g3, show ((((ampT.getD 3 0).toNat : Nat) : Int) != 59) = true from rfl, Bool.and_true]; simp; omega) ?_⟩
        rw [i64_inc (by omega)]
        refine hY _ _ _ _ _ ⟨fun _ => ⟨by omega, by simp; omega⟩, br_false (by rw [g4, show ((((ampT.getD 4 0).toNat : Nat) : Int) != 59) = false from rfl, Bool.and_false]) ?_⟩
        refine br_true (by simp; omega) ?_
        rw [i64_inc (by omega)]
        refine ⟨by omega, by omega, by simp; omega, ?_⟩
        rw [Int.toNat_natCast, Int.toNat_natCast, bs_extract]
        have esub : (raw.take (A.length + 4 + 1)).drop A.length = ampT := by
          rw [← hr, ht, ← List.append_assoc, List.take_left' (by simp [ampT]), List.drop_left]
        rw [show A.length + 1 + 1 + 1 + 1 + 1 = A.length + 4 + 1 by omega, esub]
        refine htmlEntity_amp hE (List.mem_append_right _ (.tail _ hec)) h ⟨_, _, rfl, br_true rfl ?_⟩
        refine bldS_ok (s := [38]) hB h (.inl (by simp)) (by simp; omega) fun w M' hB' h' => ⟨_, _, rfl, ?_⟩
        have := ih' true M' w hB' h'
        simp only [List.length_append, show ampT.length = 5 from rfl] at this
        exact this
      · rw [ht] at gb hlen ih'
        simp only [List.length_cons, List.length_nil] at hlen gb
        have g0 := gb 0 (by decide)
        rw [Nat.add_zero] at g0
        have n92 : (((([c] : List UInt8).getD 0 0).toNat : Int) == 92) = false := by rw [u8b _ 92 92 rfl]; simpa using h92
        have n38 : (((([c] : List UInt8).getD 0 0).toNat : Int) == 38) = false := by rw [u8b _ 38 38 rfl]; simpa using h38
        refine hX _ _ _ _ (br_true (by simp; omega) ⟨by omega, by simp; omega, ?_⟩)
        rw [g0, w1, n92]
        refine ⟨fun hh => by simp at hh, br_false rfl (br_false rfl ⟨by omega, by simp; omega, br_false (by rw [g0]; exact n38) ⟨by omega, by simp; omega, ?_⟩⟩)⟩
        rw [g0]
        refine bldB_ok (k := c) hB h (by omega) fun w M' hB' h' => ⟨_, rfl, ?_⟩
        rw [w1]
        have := ih' true M' w hB' h'
        simp only [List.length_append, List.length_cons, List.length_nil] at this
        exact this
  have := key s [] false _ w rfl (bldNew b) h
  simpa using this
end Go.Proofs.YtmicoampfglaiaaGreatDoor


/- Destinations in angle brackets, titles in quotation marks. -/
set_option linter.unusedVariables false
namespace Go.Proofs.YtmicoampfglaiaaGreatDoor
open Go.Proofs Go.IntWalk Go.RowKit
variable {σ : Out} {w : World} {L L' : List Chunk} {R : Ending → World → Prop}
theorem findSub_mem {c : UInt8} {l : List UInt8} : ∀ f i, findSub [c] l f i = none → l.length < i + f → ∀ j, i ≤ j → l[j]? ≠ some c
  | 0, i, _, hl, j, hj => by rw [List.getElem?_eq_none (by omega)]; simp
  | f + 1, i, h, hl, j, hj => by
    simp only [findSub, List.length_singleton] at h
    split at h
    · rename_i hi
      split at h
      · cases h
      · rename_i hne
        rcases Nat.lt_or_ge i j with hij | hij
        · exact findSub_mem f (i + 1) h (by omega) j hij
        · obtain rfl : j = i := by omega
          intro hc
          apply hne
          have hjl : j < l.length := by omega
          rw [List.getElem?_eq_getElem hjl, Option.some.injEq] at hc
          rw [List.drop_eq_getElem_cons hjl, hc]; rfl
    · rename_i hi
      rw [List.getElem?_eq_none (by omega)]; simp
theorem idx_mem {c : UInt8} {l : List UInt8} (hm : c ∈ l) : (idx l [c]).isSome = true := by
  cases h : idx l [c] with
  | some _ => rfl
  | none =>
    obtain ⟨j, hj, rfl⟩ := List.mem_iff_getElem.1 hm
    exact absurd (List.getElem?_eq_getElem hj) (findSub_mem _ _ h (by omega) j (Nat.zero_le _))
theorem tok_plain {tk : UInt8 → List UInt8} {s : List UInt8} (htk : ∀ c ∈ s, TokF tk c) (h1 : (92 : UInt8) ∉ tkS tk s) (h2 : (38 : UInt8) ∉ tkS tk s) : tkS tk s = s := by
  induction s with
  | nil => rfl
  | cons c s ih =>
    rw [tkS_cons] at h1 h2 ⊢
    rw [ih (fun d hd => htk d (.tail _ hd)) (fun h => h1 (List.mem_append_right _ h)) (fun h => h2 (List.mem_append_right _ h))]
    rcases htk c (.head _) with ⟨h, _⟩ | ⟨_, h⟩ | ⟨h, _⟩
    · rw [h] at h1; simp at h1
    · rw [h] at h2; simp [ampT] at h2
    · rw [h]; rfl
theorem mdUnescape_tok {tk : UInt8 → List UInt8} {s : List UInt8} {ec : Chunk} (htk : ∀ c ∈ s, TokF tk c) (hl : (tkS tk s).length < 1000000) (hE : EntC ec) (hec : ec ∈ L) (h : Sat σ w L) (hR : ∀ w, Sat σ w L → R (.returned (.string (bs s))) w) :
    callE P i_mdUnescape #[.string (bs (tkS tk s))] R w := by
  refine g_mdUnescape.sound ?_
  have hk1 : ∀ w, Sat σ w L → g_mdUnescape.k1 R (bs (tkS tk s)) w := fun w h => replace_ok htk hl hE hec h fun w h => ⟨_, rfl, hR w h⟩
  refine zzContains_ok (sub := [92]) (by omega) (by decide) ⟨_, rfl, br_split (fun h1 => ?_) (fun _ => hk1 w h)⟩
  refine zzContains_ok (sub := [38]) (by omega) (by decide) ⟨_, rfl, br_split (fun h2 => ?_) (fun _ => hk1 w h)⟩
  have e : tkS tk s = s := by
    refine tok_plain htk (fun hm => ?_) (fun hm => ?_)
    · rw [idx_mem hm] at h1; cases h1
    · rw [idx_mem hm] at h2; cases h2
  rw [e]; exact hR w h
/-- A byte of a destination in angle brackets, as it is written. -/
def TokD (tk : UInt8 → List UInt8) (c : UInt8) : Prop := TokF tk c ∧ (tk c = [c] → c ≠ 10 ∧ c ≠ 60 ∧ c ≠ 62)
theorem parseLinkDest_angle {tk : UInt8 → List UInt8} {A D B : List UInt8} {ec : Chunk} (htk : ∀ c ∈ D, TokD tk c) (hl : (A ++ 60 :: (tkS tk D ++ 62 :: B)).length < 1000000) (hE : EntC ec) (hec : ec ∈ L) (h : Sat σ w L)
    (hR : ∀ w, Sat σ w L → R (.returned (.tuple #[.string (bs D), .int .i64 ((A.length + 1 + (tkS tk D).length + 1 : Nat) : Int), .bool true])) w) :
    callE P i_parseLinkDest #[.string (bs (A ++ 60 :: (tkS tk D ++ 62 :: B))), .int .i64 A.length] R w := by
  generalize hr : A ++ 60 :: (tkS tk D ++ 62 :: B) = raw at hl ⊢
  have hlen : raw.length = A.length + 2 + (tkS tk D).length + B.length := by rw [← hr]; simp; omega
  have g0 : raw.getD A.length 0 = 60 := by rw [← hr]; exact getD_mid _ _ 60 0
  refine g_parseLinkDest.sound ?_
  refine br_false (by simp; omega) ⟨by omega, by simp; omega, br_true (by rw [bs_bt, g0]; rfl) ?_⟩
  rw [i64_inc (by omega)]
  intro X hX
  have st1 : ∀ m, m < raw.length → raw.getD m 0 ≠ 10 → raw.getD m 0 ≠ 60 → raw.getD m 0 ≠ 62 → raw.getD m 0 ≠ 92 → X (bs raw) (A.length : Int) ((m + 1 : Nat) : Int) w → X (bs raw) (A.length : Int) ((m : Nat) : Int) w := by
    intro m hm h1 h2 h3 h4 hx
    have nb : ∀ d : UInt8, raw.getD m 0 ≠ d → (((raw.getD m 0).toNat : Int) == (d.toNat : Int)) = false := fun d hd => by rw [u8_beq]; simpa using hd
    refine hX _ _ _ _ ⟨fun _ => ⟨by omega, by simp; omega⟩, fun _ => ⟨by omega, by simp; omega⟩, ?_⟩
    rw [bs_bt]
    refine br_false ?_ ⟨by omega, by simp; omega, ?_⟩
    · rw [show (((raw.getD m 0).toNat : Int) == 10) = false from nb 10 h1, show (((raw.getD m 0).toNat : Int) == 60) = false from nb 60 h2]; simp; omega
    rw [bs_bt]
    refine br_false (nb 62 h3) ⟨by omega, by simp; omega, ?_⟩
    refine br_false (nb 92 h4) ?_
    rw [i64_inc (by omega)]; exact hx
  have st2 : ∀ m, m < raw.length → raw.getD m 0 = 92 → X (bs raw) (A.length : Int) ((m + 2 : Nat) : Int) w → X (bs raw) (A.length : Int) ((m : Nat) : Int) w := by
    intro m hm h1 hx
    refine hX _ _ _ _ ⟨fun _ => ⟨by omega, by simp; omega⟩, fun _ => ⟨by omega, by simp; omega⟩, ?_⟩
    rw [bs_bt, h1]
    refine br_false ?_ ⟨by omega, by simp; omega, ?_⟩
    · rw [show (((92 : UInt8).toNat : Int) == 10) = false from rfl, show (((92 : UInt8).toNat : Int) == 60) = false from rfl]; simp; omega
    rw [bs_bt, h1]
    refine br_false rfl ⟨by omega, by simp; omega, ?_⟩
    refine br_true rfl ?_
    rw [i64_inc (by omega), i64_inc (by omega)]; exact hx
  have key : ∀ rest don, don ++ rest = D → X (bs raw) (A.length : Int) ((A.length + 1 + (tkS tk don).length : Nat) : Int) w := by
    intro rest
    induction rest with
    | nil =>
      intro don hd
      rw [List.append_nil] at hd; subst hd
      have g1 : raw.getD (A.length + 1 + (tkS tk don).length) 0 = 62 := by
        rw [← hr, show A ++ 60 :: (tkS tk don ++ 62 :: B) = (A ++ 60 :: tkS tk don) ++ 62 :: B by simp, show A.length + 1 + (tkS tk don).length = (A ++ 60 :: tkS tk don).length by simp; omega]
        exact getD_mid _ _ 62 0
      refine hX _ _ _ _ ⟨fun _ => ⟨by omega, by simp; omega⟩, fun _ => ⟨by omega, by simp; omega⟩, ?_⟩
      rw [bs_bt, g1]
      refine br_false ?_ ⟨by omega, by simp; omega, ?_⟩
      · rw [show (((62 : UInt8).toNat : Int) == 10) = false from rfl, show (((62 : UInt8).toNat : Int) == 60) = false from rfl]; simp; omega
      rw [bs_bt, g1]
      refine br_true rfl ?_
      rw [i64_inc (by omega), i64_inc (by omega)]
      refine ⟨by omega, by omega, by simp; omega, ?_⟩
      rw [Int.toNat_natCast, Int.toNat_natCast, bs_extract]
      have es : (raw.take (A.length + 1 + (tkS tk don).length)).drop (A.length + 1) = tkS tk don := by
        rw [← hr, show A ++ 60 :: (tkS tk don ++ 62 :: B) = ((A ++ [60]) ++ tkS tk don) ++ 62 :: B by simp, List.take_left' (by simp; omega), List.drop_left' (by simp)]
      rw [es]
      exact mdUnescape_tok (fun c hc => (htk c hc).1) (by omega) hE hec h fun w h => ⟨_, rfl, hR w h⟩
    | cons c rest ih =>
      intro don hd
      have ih' := ih (don ++ [c]) (by rw [← hd]; simp)
      have hraw : raw = (A ++ 60 :: tkS tk don) ++ (tk c ++ (tkS tk rest ++ 62 :: B)) := by rw [← hr, ← hd]; simp
      have hAl : (A ++ 60 :: tkS tk don).length = A.length + 1 + (tkS tk don).length := by simp; omega
      have hcl : (A ++ 60 :: tkS tk don).length + (tk c).length < raw.length := by rw [hraw]; simp; omega
      have gb : ∀ k, k < (tk c).length → raw.getD (A.length + 1 + (tkS tk don).length + k) 0 = (tk c).getD k 0 := by
        intro k hk; rw [hraw, ← hAl]; exact tok_mid hk
      have hn : (tkS tk (don ++ [c])).length = (tkS tk don).length + (tk c).length := by simp
      rw [hn] at ih'
      rw [hAl] at hcl
      have hcD : c ∈ D := by rw [← hd]; simp
      obtain ⟨hf, hlit⟩ := htk c hcD
      rcases hf with ⟨ht, hp⟩ | ⟨rfl, ht⟩ | ⟨ht, h92, h38⟩
      · rw [ht] at gb hcl ih'
        have g1 := gb 0 (by simp)
        exact st2 _ (by simp at hcl; omega) g1 ih'
      · rw [ht] at gb hcl ih'
        simp only [show ampT.length = 5 from rfl] at gb hcl ih'
        have b0 := gb 0 (by decide); have b1 := gb 1 (by decide); have b2 := gb 2 (by decide); have b3 := gb 3 (by decide); have b4 := gb 4 (by decide)
        refine st1 _ (by omega) (by rw [show A.length + 1 + (tkS tk don).length = A.length + 1 + (tkS tk don).length + 0 from rfl, b0]; decide) (by rw [show A.length + 1 + (tkS tk don).length = A.length + 1 + (tkS tk don).length + 0 from rfl, b0]; decide) (by rw [show A.length + 1 + (tkS tk don).length = A.length + 1 + (tkS tk don).length + 0 from rfl, b0]; decide) (by rw [show A.length + 1 + (tkS tk don).length = A.length + 1 + (tkS tk don).length + 0 from rfl, b0]; decide) ?_
        refine st1 _ (by omega) (by rw [b1]; decide) (by rw [b1]; decide) (by rw [b1]; decide) (by rw [b1]; decide) ?_
        refine st1 _ (by omega) (by rw [b2]; decide) (by rw [b2]; decide) (by rw [b2]; decide) (by rw [b2]; decide) ?_
        refine st1 _ (by omega) (by rw [b3]; decide) (by rw [b3]; decide) (by rw [b3]; decide) (by rw [b3]; decide) ?_
        refine st1 _ (by omega) (by rw [b4]; decide) (by rw [b4]; decide) (by rw [b4]; decide) (by rw [b4]; decide) ?_
        exact ih'
      · rw [ht] at gb hcl ih'
        obtain ⟨l1, l2, l3⟩ := hlit ht
        have b0 := gb 0 (by simp)
        rw [Nat.add_zero, show ([c] : List UInt8).getD 0 0 = c from rfl] at b0
        exact st1 _ (by simp at hcl; omega) (by rw [b0]; exact l1) (by rw [b0]; exact l2) (by rw [b0]; exact l3) (by rw [b0]; exact h92) ih'
  have := key D [] rfl
  simpa using this
/-- A byte of a title in quotation marks, as it is written. -/
def TokT (tk : UInt8 → List UInt8) (c : UInt8) : Prop := TokF tk c ∧ (tk c = [c] → c ≠ 34)
theorem parseLinkTitle_ok {tk : UInt8 → List UInt8} {A T B : List UInt8} {ec : Chunk} (htk : ∀ c ∈ T, TokT tk c) (hl : (A ++ 34 :: (tkS tk T ++ 34 :: B)).length < 1000000) (hE : EntC ec) (hec : ec ∈ L) (h : Sat σ w L)
    (hR : ∀ w, Sat σ w L → R (.returned (.tuple #[.string (bs T), .int .u8 34, .int .i64 ((A.length + 1 + (tkS tk T).length + 1 : Nat) : Int), .bool true])) w) :
    callE P i_parseLinkTitle #[.string (bs (A ++ 34 :: (tkS tk T ++ 34 :: B))), .int .i64 A.length] R w := by
  generalize hr : A ++ 34 :: (tkS tk T ++ 34 :: B) = raw at hl ⊢
  have hlen : raw.length = A.length + 2 + (tkS tk T).length + B.length := by rw [← hr]; simp; omega
  have g0 : raw.getD A.length 0 = 34 := by rw [← hr]; exact getD_mid _ _ 34 0
  refine g_parseLinkTitle.sound ?_
  refine ⟨fun _ => ⟨by omega, by simp; omega⟩, fun _ => ⟨by omega, by simp; omega⟩, fun _ => ⟨by omega, by simp; omega⟩, ?_⟩
  rw [bs_bt, g0]
  refine br_true (by rw [show (((34 : UInt8).toNat : Int) == 34) = true from rfl]; simp; omega) ⟨by omega, by simp; omega, ?_⟩
  rw [bs_bt, g0]
  refine br_false rfl ?_
  unfold g_parseLinkTitle.k2
  rw [i64_inc (by omega)]
  intro X hX
  have st1 : ∀ m, m < raw.length → raw.getD m 0 ≠ 34 → raw.getD m 0 ≠ 92 → X (bs raw) (A.length : Int) 34 ((m + 1 : Nat) : Int) w → X (bs raw) (A.length : Int) 34 ((m : Nat) : Int) w := by
    intro m hm h1 h2 hx
    have nb : ∀ d : UInt8, raw.getD m 0 ≠ d → (((raw.getD m 0).toNat : Int) == (d.toNat : Int)) = false := fun d hd => by rw [u8_beq]; simpa using hd
    refine hX _ _ _ _ _ (br_true (by simp; omega) ⟨by omega, by simp; omega, ?_⟩)
    rw [bs_bt]
    refine br_false (nb 34 h1) ⟨by omega, by simp; omega, br_false (by rw [show (((34 : Int)) == 41) = false from rfl, Bool.and_false]) ⟨by omega, by simp; omega, ?_⟩⟩
    rw [bs_bt]
    refine br_false (by rw [show (((raw.getD m 0).toNat : Int) == 92) = false from nb 92 h2, Bool.false_and]) ?_
    rw [i64_inc (by omega)]; exact hx
  have st2 : ∀ m, m + 1 < raw.length → raw.getD m 0 = 92 → X (bs raw) (A.length : Int) 34 ((m + 2 : Nat) : Int) w → X (bs raw) (A.length : Int) 34 ((m : Nat) : Int) w := by
    intro m hm h1 hx
    refine hX _ _ _ _ _ (br_true (by simp; omega) ⟨by omega, by simp; omega, ?_⟩)
    rw [bs_bt, h1]
    refine br_false rfl ⟨by omega, by simp; omega, br_false (by rw [show (((34 : Int)) == 41) = false from rfl, Bool.and_false]) ⟨by omega, by simp; omega, ?_⟩⟩
    rw [bs_bt, h1, i64_inc (by omega)]
    refine br_true (by rw [show (((92 : UInt8).toNat : Int) == 92) = true from rfl, Bool.true_and]; simp; omega) ?_
    rw [i64_inc (by omega)]; exact hx
  have key : ∀ rest don, don ++ rest = T → X (bs raw) (A.length : Int) 34 ((A.length + 1 + (tkS tk don).length : Nat) : Int) w := by
    intro rest
    induction rest with
    | nil =>
      intro don hd
      rw [List.append_nil] at hd; subst hd
      have g1 : raw.getD (A.length + 1 + (tkS tk don).length) 0 = 34 := by
        rw [← hr, show A ++ 34 :: (tkS tk don ++ 34 :: B) = (A ++ 34 :: tkS tk don) ++ 34 :: B by simp, show A.length + 1 + (tkS tk don).length = (A ++ 34 :: tkS tk don).length by simp; omega]
        exact getD_mid _ _ 34 0
      refine hX _ _ _ _ _ (br_true (by simp; omega) ⟨by omega, by simp; omega, ?_⟩)
      rw [bs_bt, g1]
      refine br_true rfl ?_
      rw [i64_inc (by omega), i64_inc (by omega)]
      refine ⟨by omega, by omega, by simp; omega, ?_⟩
      rw [Int.toNat_natCast, Int.toNat_natCast, bs_extract]
      have es : (raw.take (A.length + 1 + (tkS tk don).length)).drop (A.length + 1) = tkS tk don := by
        rw [← hr, show A ++ 34 :: (tkS tk don ++ 34 :: B) = ((A ++ [34]) ++ tkS tk don) ++ 34 :: B by simp, List.take_left' (by simp; omega), List.drop_left' (by simp)]
      rw [es]
      exact replace_ok (fun c hc => (htk c hc).1) (by omega) hE hec h fun w h => ⟨_, rfl, hR w h⟩
    | cons c rest ih =>
      intro don hd
      have ih' := ih (don ++ [c]) (by rw [← hd]; simp)
      have hraw : raw = (A ++ 34 :: tkS tk don) ++ (tk c ++ (tkS tk rest ++ 34 :: B)) := by rw [← hr, ← hd]; simp
      have hAl : (A ++ 34 :: tkS tk don).length = A.length + 1 + (tkS tk don).length := by simp; omega
      have hcl : (A ++ 34 :: tkS tk don).length + (tk c).length < raw.length := by rw [hraw]; simp; omega
      have gb : ∀ k, k < (tk c).length → raw.getD (A.length + 1 + (tkS tk don).length + k) 0 = (tk c).getD k 0 := by
        intro k hk; rw [hraw, ← hAl]; exact tok_mid hk
      have hn : (tkS tk (don ++ [c])).length = (tkS tk don).length + (tk c).length := by simp
      rw [hn] at ih'
      rw [hAl] at hcl
      have hcD : c ∈ T := by rw [← hd]; simp
      obtain ⟨hf, hlit⟩ := htk c hcD
      rcases hf with ⟨ht, hp⟩ | ⟨rfl, ht⟩ | ⟨ht, h92, h38⟩
      · rw [ht] at gb hcl ih'
        have g1 := gb 0 (by simp)
        exact st2 _ (by simp at hcl; omega) g1 ih'
      · rw [ht] at gb hcl ih'
        simp only [show ampT.length = 5 from rfl] at gb hcl ih'
        have b0 := gb 0 (by decide); have b1 := gb 1 (by decide); have b2 := gb 2 (by decide); have b3 := gb 3 (by decide); have b4 := gb 4 (by decide)
        rw [Nat.add_zero] at b0
        refine st1 _ (by omega) (by rw [b0]; decide) (by rw [b0]; decide) ?_
        refine st1 _ (by omega) (by rw [b1]; decide) (by rw [b1]; decide) ?_
        refine st1 _ (by omega) (by rw [b2]; decide) (by rw [b2]; decide) ?_
        refine st1 _ (by omega) (by rw [b3]; decide) (by rw [b3]; decide) ?_
        refine st1 _ (by omega) (by rw [b4]; decide) (by rw [b4]; decide) ?_
        exact ih'
      · rw [ht] at gb hcl ih'
        have b0 := gb 0 (by simp)
        rw [Nat.add_zero, show ([c] : List UInt8).getD 0 0 = c from rfl] at b0
        exact st1 _ (by simp at hcl; omega) (by rw [b0]; exact hlit ht) (by rw [b0]; exact h92) ih'
  have := key T [] rfl
  simpa using this
end Go.Proofs.YtmicoampfglaiaaGreatDoor


/- A link whose destination stands in angle brackets, with a title: parseLinkClose. -/
set_option linter.unusedVariables false
namespace Go.Proofs.YtmicoampfglaiaaGreatDoor
open Go.Proofs Go.IntWalk Go.RowKit
variable {σ : Out} {w : World} {L L' : List Chunk} {R : Ending → World → Prop}
theorem pastSTN_one {s : List UInt8} {i : Nat} (hi : i + 1 < s.length) (h0 : isSTN (s.getD i 0) = true) (h : isSTN (s.getD (i + 1) 0) = false) : pastSTN s i = i + 1 := by
  unfold pastSTN
  rw [List.drop_eq_getElem_cons (by omega), List.dropWhile_cons_of_pos (by rw [getElem_getD (by omega) 0, h0]), List.drop_eq_getElem_cons hi, List.dropWhile_cons_of_neg (by rw [getElem_getD hi 0, h]; decide)]
  simp; omega
/-- What is written behind the text of the link. -/
def destT (td tt : UInt8 → List UInt8) (D T : List UInt8) : List UInt8 := 60 :: (tkS td D ++ 62 :: 32 :: 34 :: (tkS tt T ++ [34, 41]))
theorem close_full {b : Nat} {p : PS} {td tt : UInt8 → List UInt8} {A D T t : List UInt8} {k : Nat} {ec : Chunk} (hE : EntC ec) (hD : ∀ c ∈ D, TokD td c) (hT : ∀ c ∈ T, TokT tt c) (hT0 : T ≠ []) (hl : (A ++ 93 :: 40 :: destT td tt D T).length < 1000000) :
    CloseOK b p (A ++ 93 :: 40 :: destT td tt D T) A.length t k [ec] D T 34 false (A ++ 93 :: 40 :: destT td tt D T).length := by
  intro σ R L w ob e hL0 _ _ h hR
  have hec : ec ∈ L := hL0 ec (.head _)
  generalize hs : A ++ 93 :: 40 :: destT td tt D T = s at hl hR ⊢
  have hsl : s.length = A.length + 9 + (tkS td D).length + (tkS tt T).length - 1 := by rw [← hs]; simp [destT]; omega
  have sD : s = (A ++ [93, 40]) ++ 60 :: (tkS td D ++ 62 :: (32 :: 34 :: (tkS tt T ++ [34, 41]))) := by rw [← hs]; simp [destT]
  have sT : s = (A ++ 93 :: 40 :: 60 :: (tkS td D ++ [62, 32])) ++ 34 :: (tkS tt T ++ 34 :: [41]) := by rw [← hs]; simp [destT]
  have aD : (A ++ [93, 40]).length = A.length + 2 := by simp
  have aT : (A ++ 93 :: 40 :: 60 :: (tkS td D ++ [62, 32])).length = A.length + 2 + 1 + (tkS td D).length + 1 + 1 := by simp; omega
  have g1 : s.getD (A.length + 1) 0 = 40 := by rw [← hs, getD_at rfl]; rfl
  have g2 : s.getD (A.length + 2) 0 = 60 := by rw [← hs, getD_at rfl]; rfl
  have g3 : s.getD (A.length + 2 + 1 + (tkS td D).length + 1) 0 = 32 := by
    have e : s = (A ++ 93 :: 40 :: 60 :: (tkS td D ++ [62])) ++ 32 :: (34 :: (tkS tt T ++ [34, 41])) := by rw [← hs]; simp [destT]
    rw [e, show A.length + 2 + 1 + (tkS td D).length + 1 = (A ++ 93 :: 40 :: 60 :: (tkS td D ++ [62])).length by simp; omega]
    exact getD_mid _ _ 32 0
  have g4 : s.getD (A.length + 2 + 1 + (tkS td D).length + 1 + 1) 0 = 34 := by rw [sT, ← aT]; exact getD_mid _ _ 34 0
  have g5 : s.getD (A.length + 2 + 1 + (tkS td D).length + 1 + 1 + 1 + (tkS tt T).length + 1) 0 = 41 := by
    have e : s = (A ++ 93 :: 40 :: 60 :: (tkS td D ++ 62 :: 32 :: 34 :: (tkS tt T ++ [34]))) ++ 41 :: [] := by rw [← hs]; simp [destT]
    rw [e, show A.length + 2 + 1 + (tkS td D).length + 1 + 1 + 1 + (tkS tt T).length + 1 = (A ++ 93 :: 40 :: 60 :: (tkS td D ++ 62 :: 32 :: 34 :: (tkS tt T ++ [34]))).length by simp; omega]
    exact getD_mid _ _ 41 0
  refine g_parseState_parseLinkClose.sound ?_
  unfold g_parseState_parseLinkClose
  rw [i64_inc (by omega), show IntKind.i64.wrap ((A.length : Int) + 2) = ((A.length + 2 : Nat) : Int) by rw [show ((A.length : Int) + 2) = ((A.length + 2 : Nat) : Int) by omega, i64_in _ (by omega)]]
  refine br_true (by simp; omega) ⟨by omega, by simp; omega, ?_⟩
  rw [bs_bt, g1]
  refine br_true rfl ?_
  refine skipSp_ok (by omega) (by omega) ⟨_, rfl, ?_⟩
  rw [pastSTN_here (by omega) (by rw [g2]; decide)]
  refine ⟨fun _ => ⟨by omega, by simp; omega⟩, ?_⟩
  rw [bs_bt, g2]
  refine br_true (by rw [show (((60 : UInt8).toNat : Int) != 41) = true from rfl, Bool.and_true]; simp; omega) ?_
  have hdest := parseLinkDest_angle (R := fun e w22 => ∃ (r21_0 : ByteArray), ∃ (r21_1 : Int), ∃ (r21_2 : Bool), e = .returned (.tuple #[.string r21_0, .int .i64 r21_1, .bool r21_2]) ∧
    br (!r21_2) (g_parseState_parseLinkClose.k2 R (some ⟨b, 0, none⟩) (bs s) (A.length : Int) (some ⟨ob, 0, none⟩) w22)
      (callE P i_skipSpace #[.string (bs s), .int .i64 r21_1] (fun e w24 => ∃ (r23 : Int), e = .returned (.int .i64 r23) ∧ ((decide (r23 < ((bs s).size : Int))) = true → 0 ≤ r23 ∧ r23 < ((bs s).size : Int)) ∧
        g_parseState_parseLinkClose.k3 R (some ⟨b, 0, none⟩) (bs s) (A.length : Int) (some ⟨ob, 0, none⟩) r23 r21_0 (ByteArray.mk #[]) 0 false ((decide (r23 < ((bs s).size : Int))) && ((bt (bs s) r23) != 41)) w24) w22)) hD (by rw [← sD]; exact hl) hE hec h
  rw [← sD, aD] at hdest
  refine hdest fun w h => ⟨_, _, _, rfl, br_false rfl ?_⟩
  refine skipSp_ok (by omega) (by omega) ⟨_, rfl, ?_⟩
  rw [pastSTN_one (by omega) (by rw [g3]; decide) (by rw [g4]; decide)]
  refine ⟨fun _ => ⟨by omega, by simp; omega⟩, ?_⟩
  rw [bs_bt, g4]
  refine br_true (by rw [show (((34 : UInt8).toNat : Int) != 41) = true from rfl, Bool.and_true]; simp; omega) ?_
  have htit := fun {R : Ending → World → Prop} => parseLinkTitle_ok (R := R) hT (by rw [← sT]; exact hl) hE hec h
  rw [← sT, aT] at htit
  refine htit fun w h => ⟨_, _, _, _, rfl, br_false (by rw [bs_toList, mk_toList]; cases T with | nil => exact absurd rfl hT0 | cons _ _ => rfl) ?_⟩
  refine br_false rfl ?_
  refine skipSp_ok (by omega) (by omega) ⟨_, rfl, ?_⟩
  rw [pastSTN_here (by omega) (by rw [g5]; decide)]
  refine ⟨fun _ => ⟨by omega, by simp; omega⟩, ?_⟩
  rw [bs_bt, g5]
  refine br_true (by rw [show (((41 : UInt8).toNat : Int) == 41) = true from rfl, Bool.and_true]; simp; omega) ?_
  rw [i64_inc (by omega), show A.length + 2 + 1 + (tkS td D).length + 1 + 1 + 1 + (tkS tt T).length + 1 + 1 = s.length by omega]
  exact Sat.bx h fun lb w h => hR w lb h
end Go.Proofs.YtmicoampfglaiaaGreatDoor


set_option linter.unusedVariables false
set_option maxRecDepth 20000
namespace Go.Proofs.YtmicoampfglaiaaGreatDoor
open Go.Proofs
/- 267 (*pub-paratext/pub/rscmarkdown.Image).PrintHTML -/
namespace g_Image_PrintHTML
noncomputable def body : Code := bodyOf Tryz.f267
def bl2 (R : EP) (Xa : OA → OA → Int → OA → Nat → Nat → WP) (x0 : OA) (x1 : OA) (x4 : Int) (x7q : OA) (x7n : Nat) (x7c : Nat) (w : World) : Prop :=
 br (decide (x4 < (x7n : Int)))
 (0 ≤ x4 ∧ x4 < (x7n : Int) ∧
 nilP x7q fun a22 =>
 ∃ (v23 : Int), w.cell? (a22.add (Int.toNat x4 * 1)) = some (.int .u8 v23) ∧
 br (v23 == 10)
 (0 ≤ x4 ∧ x4 < (x7n : Int) ∧
 nilP x7q fun a24 =>
 stV w ((a24.add (Int.toNat x4 * 1)).add 0) (.int .u8 32) fun w25 =>
 Xa x0 x1 (IntKind.i64.wrap (x4 + 1)) x7q x7n x7c w25)
 (Xa x0 x1 (IntKind.i64.wrap (x4 + 1)) x7q x7n x7c w))
 (callE P i_bytes_Buffer_WriteString #[.pointer x1, .string (ByteArray.mk #[34])] (fun e w27 => ∃ (r26_0 : Int), ∃ (r26_1 : Value), e = .returned (.tuple #[.int .i64 r26_0, r26_1]) ∧
 nilP x0 fun a28 =>
 ∃ (v29 : BA), w27.cell? (a28.add 2) = some (.string v29) ∧
 br (!(v29.toList == (ByteArray.mk #[]).toList))
 (tk w27 fun w30 =>
 nilP x0 fun a31 =>
 ∃ (v32 : BA), w30.cell? (a31.add 2) = some (.string v32) ∧
 callE P i_htmlQuoteEscaper #[] (fun e w34 => ∃ (r33q : OA), ∃ (r33n : Nat), ∃ (r33c : Nat), e = .returned (.slice r33q r33n r33c) ∧
 SameC w30 w34 (a31.add 2) 1 ∧
 callE P i_zzPairs_Replace #[.slice r33q r33n r33c, .string v32] (fun e w36 => ∃ (r35 : BA), e = .returned (.string r35) ∧
 (((ByteArray.mk #[32, 116, 105, 116, 108, 101, 61, 34]).size + r35.size : Nat) : Int) ≤ IntKind.i64.max ∧
 ((((ByteArray.mk #[32, 116, 105, 116, 108, 101, 61, 34]) ++ r35).size + (ByteArray.mk #[34]).size : Nat) : Int) ≤ IntKind.i64.max ∧
 callE P i_bytes_Buffer_WriteString #[.pointer x1, .string (((ByteArray.mk #[32, 116, 105, 116, 108, 101, 61, 34]) ++ r35) ++ (ByteArray.mk #[34]))] (fun e w38 => ∃ (r37_0 : Int), ∃ (r37_1 : Value), e = .returned (.tuple #[.int .i64 r37_0, r37_1]) ∧
 callE P i_bytes_Buffer_WriteString #[.pointer x1, .string (ByteArray.mk #[32, 47, 62])] (fun e w40 => ∃ (r39_0 : Int), ∃ (r39_1 : Value), e = .returned (.tuple #[.int .i64 r39_0, r39_1]) ∧
 R (.returned (.tuple #[])) w40) w38) w36) w34) w30)
 (callE P i_bytes_Buffer_WriteString #[.pointer x1, .string (ByteArray.mk #[32, 47, 62])] (fun e w42 => ∃ (r41_0 : Int), ∃ (r41_1 : Value), e = .returned (.tuple #[.int .i64 r41_0, r41_1]) ∧
 R (.returned (.tuple #[])) w42) w27)) w)
def l2 (R : EP) (x0 : OA) (x1 : OA) (x4 : Int) (x7q : OA) (x7n : Nat) (x7c : Nat) (w : World) : Prop :=
  ∀ X : OA → OA → Int → OA → Nat → Nat → WP, (∀ x0 x1 x4 x7q x7n x7c w, bl2 R X x0 x1 x4 x7q x7n x7c w → X x0 x1 x4 x7q x7n x7c w) → X x0 x1 x4 x7q x7n x7c w

noncomputable def al2 (R : EP) (Xa : OA → OA → Int → OA → Nat → Nat → WP) : AC :=
  (.leaf (sel [1, 1, 1, 1, 1, 0, 0, 0] body))
def bl1 (R : EP) (Xb : OA → OA → Int → OA → Nat → Nat → Int → Int → WP) (x0 : OA) (x1 : OA) (x4 : Int) (x25q : OA) (x25n : Nat) (x25c : Nat) (x26 : Int) (x27 : Int) (w : World) : Prop :=
 br (decide (x27 < x26))
 (0 ≤ x27 ∧ x27 < (x25n : Int) ∧
 nilP x25q fun a16 =>
 ∃ (v17 : Value), w.cell? (a16.add (Int.toNat x27 * 1)) = some v17 ∧
 enterE P (callMethod v17 "PrintText" #[.pointer x1]) (fun e w19 => e = .returned (.tuple #[]) ∧
 Xb x0 x1 x4 x25q x25n x25c x26 (IntKind.i64.wrap (x27 + 1)) w19) w)
 (callE P i_bytes_Buffer_Bytes #[.pointer x1] (fun e w21 => ∃ (r20q : OA), ∃ (r20n : Nat), ∃ (r20c : Nat), e = .returned (.slice r20q r20n r20c) ∧
 l2 R x0 x1 x4 r20q r20n r20c w21) w)
def l1 (R : EP) (x0 : OA) (x1 : OA) (x4 : Int) (x25q : OA) (x25n : Nat) (x25c : Nat) (x26 : Int) (x27 : Int) (w : World) : Prop :=
  ∀ X : OA → OA → Int → OA → Nat → Nat → Int → Int → WP, (∀ x0 x1 x4 x25q x25n x25c x26 x27 w, bl1 R X x0 x1 x4 x25q x25n x25c x26 x27 w → X x0 x1 x4 x25q x25n x25c x26 x27 w) → X x0 x1 x4 x25q x25n x25c x26 x27 w

noncomputable def al1 (R : EP) (Xb : OA → OA → Int → OA → Nat → Nat → Int → Int → WP) : AC :=
  (.leaf (sel [1, 1, 1, 0, 1, 0, 0] body))
end g_Image_PrintHTML
def g_Image_PrintHTML (R : EP) (x0 : OA) (x1 : OA) (w : World) : Prop :=
 tk w fun w1 =>
 nilP x0 fun a2 =>
 ∃ (v3 : BA), w1.cell? (a2.add 1) = some (.string v3) ∧
 callE P i_htmlLinkEscaper #[] (fun e w5 => ∃ (r4q : OA), ∃ (r4n : Nat), ∃ (r4c : Nat), e = .returned (.slice r4q r4n r4c) ∧
 SameC w1 w5 (a2.add 1) 1 ∧
 callE P i_zzPairs_Replace #[.slice r4q r4n r4c, .string v3] (fun e w7 => ∃ (r6 : BA), e = .returned (.string r6) ∧
 (((ByteArray.mk #[60, 105, 109, 103, 32, 115, 114, 99, 61, 34]).size + r6.size : Nat) : Int) ≤ IntKind.i64.max ∧
 ((((ByteArray.mk #[60, 105, 109, 103, 32, 115, 114, 99, 61, 34]) ++ r6).size + (ByteArray.mk #[34]).size : Nat) : Int) ≤ IntKind.i64.max ∧
 callE P i_bytes_Buffer_WriteString #[.pointer x1, .string (((ByteArray.mk #[60, 105, 109, 103, 32, 115, 114, 99, 61, 34]) ++ r6) ++ (ByteArray.mk #[34]))] (fun e w9 => ∃ (r8_0 : Int), ∃ (r8_1 : Value), e = .returned (.tuple #[.int .i64 r8_0, r8_1]) ∧
 callE P i_bytes_Buffer_WriteString #[.pointer x1, .string (ByteArray.mk #[32, 97, 108, 116, 61, 34])] (fun e w11 => ∃ (r10_0 : Int), ∃ (r10_1 : Value), e = .returned (.tuple #[.int .i64 r10_0, r10_1]) ∧
 callE P i_bytes_Buffer_Len #[.pointer x1] (fun e w13 => ∃ (r12 : Int), e = .returned (.int .i64 r12) ∧
 nilP x0 fun a14 =>
 ∃ (v15q : OA), ∃ (v15n : Nat), ∃ (v15c : Nat), w13.cell? a14 = some (.slice v15q v15n v15c) ∧
 g_Image_PrintHTML.l1 R x0 x1 r12 v15q v15n v15c (v15n : Int) 0 w13) w11) w9) w7) w5) w1

noncomputable def g_Image_PrintHTML.ac (R : EP) : AC :=
  (.seq (.draw (.pure 0 (.pure 2 (.pure 3 (.pure 4 (.load 5 (.one 1 (.one 6 (.pure 7 (.pure 8 (.one 9 .done)))))))))) (sel [0] g_Image_PrintHTML.body)) (.seq (.leaf (sel [1, 0] g_Image_PrintHTML.body)) (.seq (.leaf (sel [1, 1, 0] g_Image_PrintHTML.body)) (.seq (.seq (.leaf (sel [1, 1, 1, 0, 0] g_Image_PrintHTML.body)) (.block 0 (.loop (leaf [(0, .s .ptr), (1, .s .ptr), (4, .s (.int .i64)), (25, .s .slice), (26, .s (.int .i64)), (27, .s (.int .i64))] (g_Image_PrintHTML.l1 R)) (sel [1, 1, 1, 0, 1, 0, 0] g_Image_PrintHTML.body)))) (.seq (.leaf (sel [1, 1, 1, 1, 0] g_Image_PrintHTML.body)) (.seq (.block 2 (.loop (leaf [(0, .s .ptr), (1, .s .ptr), (4, .s (.int .i64)), (7, .s .slice)] (g_Image_PrintHTML.l2 R)) (sel [1, 1, 1, 1, 1, 0, 0, 0] g_Image_PrintHTML.body))) (.seq (.leaf (sel [1, 1, 1, 1, 1, 1, 0] g_Image_PrintHTML.body)) (.seq (.seq (.leaf (sel [1, 1, 1, 1, 1, 1, 1, 0, 0] g_Image_PrintHTML.body)) (.cond 57 (.draw (.pure 0 (.pure 2 (.pure 3 (.pure 4 (.load 5 (.one 1 (.one 6 (.pure 7 (.pure 8 (.one 9 .done)))))))))) (sel [1, 1, 1, 1, 1, 1, 1, 0, 1, 0] g_Image_PrintHTML.body)) (.leaf (sel [1, 1, 1, 1, 1, 1, 1, 0, 1, 1] g_Image_PrintHTML.body)))) (.leaf (sel [1, 1, 1, 1, 1, 1, 1, 1] g_Image_PrintHTML.body))))))))))
theorem g_Image_PrintHTML.good (R : EP) : Good P 70 (g_Image_PrintHTML.ac R) (QF P [] R) :=
  ⟨⟨by kernel_rfl, by kernel_rfl, fun _ _ _ h => h⟩, ⟨trivial, ⟨trivial, ⟨⟨trivial, (loopG (g_Image_PrintHTML.al1 R) (g_Image_PrintHTML.bl1 R) (fun _ => by kernel_rfl) (fun Xb => trivial) (fun Xb => by intro x0 x1 x4 x25q x25n x25c x26 x27 ρ w; kernel_rfl) (fun X h _ _ _ _ _ _ _ _ _ g => g X h))⟩, ⟨trivial, ⟨(loopG (g_Image_PrintHTML.al2 R) (g_Image_PrintHTML.bl2 R) (fun _ => by kernel_rfl) (fun Xa => trivial) (fun Xa => by intro x0 x1 x4 x7q x7n x7c ρ w; kernel_rfl) (fun X h _ _ _ _ _ _ _ g => g X h)), ⟨trivial, ⟨⟨trivial, ⟨⟨by kernel_rfl, by kernel_rfl, fun _ _ _ h => h⟩, trivial⟩⟩, trivial⟩⟩⟩⟩⟩⟩⟩⟩
theorem g_Image_PrintHTML.eq (R : EP) (x0 : OA) (x1 : OA) (w : World) : g_Image_PrintHTML R x0 x1 w = vcA P 70 (g_Image_PrintHTML.ac R) (QF P [] R) (fr0 [.pointer x0, .pointer x1]) w := by kernel_rfl
theorem g_Image_PrintHTML.sound {R : EP} {x0 : OA} {x1 : OA} {w : World} (h : g_Image_PrintHTML R x0 x1 w) : callE P i_Image_PrintHTML #[.pointer x0, .pointer x1] R w :=
  callE_fin (c := g_Image_PrintHTML.body) Tryz.func267 Tryz.call267 (by kernel_rfl) (by kernel_rfl) (by kernel_rfl) (by kernel_rfl) (by kernel_rfl) (g_Image_PrintHTML.good R) (g_Image_PrintHTML.eq R x0 x1 w) h
/- 254 (*pub-paratext/pub/rscmarkdown.Plain).PrintText -/
namespace g_Plain_PrintText
noncomputable def body : Code := bodyOf Tryz.f254
end g_Plain_PrintText
def g_Plain_PrintText (R : EP) (x0 : OA) (x1 : OA) (w : World) : Prop :=
 tk w fun w1 =>
 nilP x0 fun a2 =>
 ∃ (v3 : BA), w1.cell? a2 = some (.string v3) ∧
 callE P i_htmlEscaper #[] (fun e w5 => ∃ (r4q : OA), ∃ (r4n : Nat), ∃ (r4c : Nat), e = .returned (.slice r4q r4n r4c) ∧
 SameC w1 w5 (a2) 1 ∧
 callE P i_zzPairs_WriteString #[.slice r4q r4n r4c, .pointer x1, .string v3] (fun e w7 => e = .returned (.tuple #[]) ∧
 R (.returned (.tuple #[])) w7) w5) w1

noncomputable def g_Plain_PrintText.ac (R : EP) : AC :=
  (.draw (.pure 1 (.pure 2 (.pure 3 (.pure 4 (.load 5 (.one 0 (.one 6 .done))))))) (sel [] g_Plain_PrintText.body))
theorem g_Plain_PrintText.good (R : EP) : Good P 11 (g_Plain_PrintText.ac R) (QF P [] R) :=
  ⟨by kernel_rfl, by kernel_rfl, fun _ _ _ h => h⟩
theorem g_Plain_PrintText.eq (R : EP) (x0 : OA) (x1 : OA) (w : World) : g_Plain_PrintText R x0 x1 w = vcA P 11 (g_Plain_PrintText.ac R) (QF P [] R) (fr0 [.pointer x0, .pointer x1]) w := by kernel_rfl
theorem g_Plain_PrintText.sound {R : EP} {x0 : OA} {x1 : OA} {w : World} (h : g_Plain_PrintText R x0 x1 w) : callE P i_Plain_PrintText #[.pointer x0, .pointer x1] R w :=
  callE_fin (c := g_Plain_PrintText.body) Tryz.func254 Tryz.call254 (by kernel_rfl) (by kernel_rfl) (by kernel_rfl) (by kernel_rfl) (by kernel_rfl) (g_Plain_PrintText.good R) (g_Plain_PrintText.eq R x0 x1 w) h
/- 270 (*bytes.Buffer).Bytes -/
namespace g_bytes_Buffer_Bytes
noncomputable def body : Code := bodyOf Tryz.f270
end g_bytes_Buffer_Bytes
def g_bytes_Buffer_Bytes (R : EP) (x0 : OA) (w : World) : Prop :=
 tk w fun w1 =>
 nilP x0 fun a2 =>
 nilP x0 fun a3 =>
 ∃ (v4q : OA), ∃ (v4n : Nat), ∃ (v4c : Nat), w1.cell? a2 = some (.slice v4q v4n v4c) ∧
 ∃ (v5 : Int), w1.cell? (a3.add 1) = some (.int .i64 v5) ∧
 ∃ (r6q : OA), ∃ (r6n : Nat), ∃ (r6c : Nat), (∀ w, (Instr.sliceAt ty_S_uint8 (.slice v4q v4n v4c) (some (.int .i64 v5)) none none).run P w = .ok (.slice r6q r6n r6c) w) ∧
 R (.returned (.slice r6q r6n r6c)) w1

noncomputable def g_bytes_Buffer_Bytes.ac (R : EP) : AC :=
  (.seq (.leaf (sel [0] g_bytes_Buffer_Bytes.body)) (.seq (.draw (.pure 0 (.pure 1 (.pure 2 (.pure 4 (.pure 5 (.pure 6 (.load 3 (.load 7 (.pure 8 (.pure 9 .done)))))))))) (sel [1, 0] g_bytes_Buffer_Bytes.body)) (.leaf (sel [1, 1] g_bytes_Buffer_Bytes.body))))
theorem g_bytes_Buffer_Bytes.good (R : EP) : Good P 12 (g_bytes_Buffer_Bytes.ac R) (QF P [.tmp 2] R) :=
  ⟨trivial, ⟨⟨by kernel_rfl, by kernel_rfl, fun _ _ _ h => h⟩, trivial⟩⟩
theorem g_bytes_Buffer_Bytes.eq (R : EP) (x0 : OA) (w : World) : g_bytes_Buffer_Bytes R x0 w = vcA P 12 (g_bytes_Buffer_Bytes.ac R) (QF P [.tmp 2] R) (fr0 [.pointer x0]) w := by kernel_rfl
theorem g_bytes_Buffer_Bytes.sound {R : EP} {x0 : OA} {w : World} (h : g_bytes_Buffer_Bytes R x0 w) : callE P i_bytes_Buffer_Bytes #[.pointer x0] R w :=
  callE_fin (c := g_bytes_Buffer_Bytes.body) Tryz.func270 Tryz.call270 (by kernel_rfl) (by kernel_rfl) (by kernel_rfl) (by kernel_rfl) (by kernel_rfl) (g_bytes_Buffer_Bytes.good R) (g_bytes_Buffer_Bytes.eq R x0 w) h
/- 309 (*pub-paratext/pub/rscmarkdown.Emph).PrintHTML -/
namespace g_Emph_PrintHTML
noncomputable def body : Code := bodyOf Tryz.f309
def bl1 (R : EP) (Xa : OA → OA → Nat → Nat → Int → Int → WP) (x1 : OA) (x11q : OA) (x11n : Nat) (x11c : Nat) (x12 : Int) (x13 : Int) (w : World) : Prop :=
 br (decide (x13 < x12))
 (0 ≤ x13 ∧ x13 < (x11n : Int) ∧
 nilP x11q fun a5 =>
 ∃ (v6 : Value), w.cell? (a5.add (Int.toNat x13 * 1)) = some v6 ∧
 enterE P (callMethod v6 "PrintHTML" #[.pointer x1]) (fun e w8 => e = .returned (.tuple #[]) ∧
 Xa x1 x11q x11n x11c x12 (IntKind.i64.wrap (x13 + 1)) w8) w)
 (callE P i_bytes_Buffer_WriteString #[.pointer x1, .string (ByteArray.mk #[60, 47, 101, 109, 62])] (fun e w10 => ∃ (r9_0 : Int), ∃ (r9_1 : Value), e = .returned (.tuple #[.int .i64 r9_0, r9_1]) ∧
 R (.returned (.tuple #[])) w10) w)
def l1 (R : EP) (x1 : OA) (x11q : OA) (x11n : Nat) (x11c : Nat) (x12 : Int) (x13 : Int) (w : World) : Prop :=
  ∀ X : OA → OA → Nat → Nat → Int → Int → WP, (∀ x1 x11q x11n x11c x12 x13 w, bl1 R X x1 x11q x11n x11c x12 x13 w → X x1 x11q x11n x11c x12 x13 w) → X x1 x11q x11n x11c x12 x13 w

noncomputable def al1 (R : EP) (Xa : OA → OA → Nat → Nat → Int → Int → WP) : AC :=
  (.leaf (sel [1, 0, 1, 0, 0] body))
end g_Emph_PrintHTML
def g_Emph_PrintHTML (R : EP) (x0 : OA) (x1 : OA) (w : World) : Prop :=
 callE P i_bytes_Buffer_WriteString #[.pointer x1, .string (ByteArray.mk #[60, 101, 109, 62])] (fun e w2 => ∃ (r1_0 : Int), ∃ (r1_1 : Value), e = .returned (.tuple #[.int .i64 r1_0, r1_1]) ∧
 nilP x0 fun a3 =>
 ∃ (v4q : OA), ∃ (v4n : Nat), ∃ (v4c : Nat), w2.cell? (a3.add 1) = some (.slice v4q v4n v4c) ∧
 g_Emph_PrintHTML.l1 R x1 v4q v4n v4c (v4n : Int) 0 w2) w

noncomputable def g_Emph_PrintHTML.ac (R : EP) : AC :=
  (.seq (.leaf (sel [0] g_Emph_PrintHTML.body)) (.seq (.seq (.leaf (sel [1, 0, 0] g_Emph_PrintHTML.body)) (.block 0 (.loop (leaf [(1, .s .ptr), (11, .s .slice), (12, .s (.int .i64)), (13, .s (.int .i64))] (g_Emph_PrintHTML.l1 R)) (sel [1, 0, 1, 0, 0] g_Emph_PrintHTML.body)))) (.leaf (sel [1, 1] g_Emph_PrintHTML.body))))
theorem g_Emph_PrintHTML.good (R : EP) : Good P 23 (g_Emph_PrintHTML.ac R) (QF P [] R) :=
  ⟨trivial, ⟨⟨trivial, (loopG (g_Emph_PrintHTML.al1 R) (g_Emph_PrintHTML.bl1 R) (fun _ => by kernel_rfl) (fun Xa => trivial) (fun Xa => by intro x1 x11q x11n x11c x12 x13 ρ w; kernel_rfl) (fun X h _ _ _ _ _ _ _ g => g X h))⟩, trivial⟩⟩
theorem g_Emph_PrintHTML.eq (R : EP) (x0 : OA) (x1 : OA) (w : World) : g_Emph_PrintHTML R x0 x1 w = vcA P 23 (g_Emph_PrintHTML.ac R) (QF P [] R) (fr0 [.pointer x0, .pointer x1]) w := by kernel_rfl
theorem g_Emph_PrintHTML.sound {R : EP} {x0 : OA} {x1 : OA} {w : World} (h : g_Emph_PrintHTML R x0 x1 w) : callE P i_Emph_PrintHTML #[.pointer x0, .pointer x1] R w :=
  callE_fin (c := g_Emph_PrintHTML.body) Tryz.func309 Tryz.call309 (by kernel_rfl) (by kernel_rfl) (by kernel_rfl) (by kernel_rfl) (by kernel_rfl) (g_Emph_PrintHTML.good R) (g_Emph_PrintHTML.eq R x0 x1 w) h
/- 317 (*pub-paratext/pub/rscmarkdown.Strong).PrintHTML -/
namespace g_Strong_PrintHTML
noncomputable def body : Code := bodyOf Tryz.f317
def bl1 (R : EP) (Xa : OA → OA → Nat → Nat → Int → Int → WP) (x1 : OA) (x11q : OA) (x11n : Nat) (x11c : Nat) (x12 : Int) (x13 : Int) (w : World) : Prop :=
 br (decide (x13 < x12))
 (0 ≤ x13 ∧ x13 < (x11n : Int) ∧
 nilP x11q fun a5 =>
 ∃ (v6 : Value), w.cell? (a5.add (Int.toNat x13 * 1)) = some v6 ∧
 enterE P (callMethod v6 "PrintHTML" #[.pointer x1]) (fun e w8 => e = .returned (.tuple #[]) ∧
 Xa x1 x11q x11n x11c x12 (IntKind.i64.wrap (x13 + 1)) w8) w)
 (callE P i_bytes_Buffer_WriteString #[.pointer x1, .string (ByteArray.mk #[60, 47, 115, 116, 114, 111, 110, 103, 62])] (fun e w10 => ∃ (r9_0 : Int), ∃ (r9_1 : Value), e = .returned (.tuple #[.int .i64 r9_0, r9_1]) ∧
 R (.returned (.tuple #[])) w10) w)
def l1 (R : EP) (x1 : OA) (x11q : OA) (x11n : Nat) (x11c : Nat) (x12 : Int) (x13 : Int) (w : World) : Prop :=
  ∀ X : OA → OA → Nat → Nat → Int → Int → WP, (∀ x1 x11q x11n x11c x12 x13 w, bl1 R X x1 x11q x11n x11c x12 x13 w → X x1 x11q x11n x11c x12 x13 w) → X x1 x11q x11n x11c x12 x13 w

noncomputable def al1 (R : EP) (Xa : OA → OA → Nat → Nat → Int → Int → WP) : AC :=
  (.leaf (sel [1, 0, 1, 0, 0] body))
end g_Strong_PrintHTML
def g_Strong_PrintHTML (R : EP) (x0 : OA) (x1 : OA) (w : World) : Prop :=
 callE P i_bytes_Buffer_WriteString #[.pointer x1, .string (ByteArray.mk #[60, 115, 116, 114, 111, 110, 103, 62])] (fun e w2 => ∃ (r1_0 : Int), ∃ (r1_1 : Value), e = .returned (.tuple #[.int .i64 r1_0, r1_1]) ∧
 nilP x0 fun a3 =>
 ∃ (v4q : OA), ∃ (v4n : Nat), ∃ (v4c : Nat), w2.cell? (a3.add 1) = some (.slice v4q v4n v4c) ∧
 g_Strong_PrintHTML.l1 R x1 v4q v4n v4c (v4n : Int) 0 w2) w

noncomputable def g_Strong_PrintHTML.ac (R : EP) : AC :=
  (.seq (.leaf (sel [0] g_Strong_PrintHTML.body)) (.seq (.seq (.leaf (sel [1, 0, 0] g_Strong_PrintHTML.body)) (.block 0 (.loop (leaf [(1, .s .ptr), (11, .s .slice), (12, .s (.int .i64)), (13, .s (.int .i64))] (g_Strong_PrintHTML.l1 R)) (sel [1, 0, 1, 0, 0] g_Strong_PrintHTML.body)))) (.leaf (sel [1, 1] g_Strong_PrintHTML.body))))
theorem g_Strong_PrintHTML.good (R : EP) : Good P 23 (g_Strong_PrintHTML.ac R) (QF P [] R) :=
  ⟨trivial, ⟨⟨trivial, (loopG (g_Strong_PrintHTML.al1 R) (g_Strong_PrintHTML.bl1 R) (fun _ => by kernel_rfl) (fun Xa => trivial) (fun Xa => by intro x1 x11q x11n x11c x12 x13 ρ w; kernel_rfl) (fun X h _ _ _ _ _ _ _ g => g X h))⟩, trivial⟩⟩
theorem g_Strong_PrintHTML.eq (R : EP) (x0 : OA) (x1 : OA) (w : World) : g_Strong_PrintHTML R x0 x1 w = vcA P 23 (g_Strong_PrintHTML.ac R) (QF P [] R) (fr0 [.pointer x0, .pointer x1]) w := by kernel_rfl
theorem g_Strong_PrintHTML.sound {R : EP} {x0 : OA} {x1 : OA} {w : World} (h : g_Strong_PrintHTML R x0 x1 w) : callE P i_Strong_PrintHTML #[.pointer x0, .pointer x1] R w :=
  callE_fin (c := g_Strong_PrintHTML.body) Tryz.func317 Tryz.call317 (by kernel_rfl) (by kernel_rfl) (by kernel_rfl) (by kernel_rfl) (by kernel_rfl) (g_Strong_PrintHTML.good R) (g_Strong_PrintHTML.eq R x0 x1 w) h
/- 337 (*pub-paratext/pub/rscmarkdown.AutoLink).PrintHTML -/
namespace g_AutoLink_PrintHTML
noncomputable def body : Code := bodyOf Tryz.f337
end g_AutoLink_PrintHTML
def g_AutoLink_PrintHTML (R : EP) (x0 : OA) (x1 : OA) (w : World) : Prop :=
 tk w fun w1 =>
 nilP x0 fun a2 =>
 nilP x0 fun a3 =>
 ∃ (v4 : BA), w1.cell? (a2.add 1) = some (.string v4) ∧
 ∃ (v5 : BA), w1.cell? a3 = some (.string v5) ∧
 callE P i_htmlLinkEscaper #[] (fun e w7 => ∃ (r6q : OA), ∃ (r6n : Nat), ∃ (r6c : Nat), e = .returned (.slice r6q r6n r6c) ∧
 SameC w1 w7 (a3) 1 ∧
 SameC w1 w7 (a2.add 1) 1 ∧
 callE P i_zzPairs_Replace #[.slice r6q r6n r6c, .string v4] (fun e w9 => ∃ (r8 : BA), e = .returned (.string r8) ∧
 SameC w7 w9 (a3) 1 ∧
 (((ByteArray.mk #[60, 97, 32, 104, 114, 101, 102, 61, 34]).size + r8.size : Nat) : Int) ≤ IntKind.i64.max ∧
 ((((ByteArray.mk #[60, 97, 32, 104, 114, 101, 102, 61, 34]) ++ r8).size + (ByteArray.mk #[34, 62]).size : Nat) : Int) ≤ IntKind.i64.max ∧
 callE P i_htmlEscaper #[] (fun e w11 => ∃ (r10q : OA), ∃ (r10n : Nat), ∃ (r10c : Nat), e = .returned (.slice r10q r10n r10c) ∧
 SameC w9 w11 (a3) 1 ∧
 callE P i_zzPairs_Replace #[.slice r10q r10n r10c, .string v5] (fun e w13 => ∃ (r12 : BA), e = .returned (.string r12) ∧
 (((((ByteArray.mk #[60, 97, 32, 104, 114, 101, 102, 61, 34]) ++ r8) ++ (ByteArray.mk #[34, 62])).size + r12.size : Nat) : Int) ≤ IntKind.i64.max ∧
 ((((((ByteArray.mk #[60, 97, 32, 104, 114, 101, 102, 61, 34]) ++ r8) ++ (ByteArray.mk #[34, 62])) ++ r12).size + (ByteArray.mk #[60, 47, 97, 62]).size : Nat) : Int) ≤ IntKind.i64.max ∧
 callE P i_bytes_Buffer_WriteString #[.pointer x1, .string (((((ByteArray.mk #[60, 97, 32, 104, 114, 101, 102, 61, 34]) ++ r8) ++ (ByteArray.mk #[34, 62])) ++ r12) ++ (ByteArray.mk #[60, 47, 97, 62]))] (fun e w15 => ∃ (r14_0 : Int), ∃ (r14_1 : Value), e = .returned (.tuple #[.int .i64 r14_0, r14_1]) ∧
 R (.returned (.tuple #[])) w15) w13) w11) w9) w7) w1

noncomputable def g_AutoLink_PrintHTML.ac (R : EP) : AC :=
  (.draw (.pure 0 (.pure 2 (.pure 3 (.pure 4 (.pure 10 (.pure 11 (.pure 12 (.load 5 (.load 13 (.one 1 (.one 6 (.pure 7 (.pure 8 (.one 9 (.one 14 (.pure 15 (.pure 16 (.one 17 .done)))))))))))))))))) (sel [] g_AutoLink_PrintHTML.body))
theorem g_AutoLink_PrintHTML.good (R : EP) : Good P 22 (g_AutoLink_PrintHTML.ac R) (QF P [] R) :=
  ⟨by kernel_rfl, by kernel_rfl, fun _ _ _ h => h⟩
theorem g_AutoLink_PrintHTML.eq (R : EP) (x0 : OA) (x1 : OA) (w : World) : g_AutoLink_PrintHTML R x0 x1 w = vcA P 22 (g_AutoLink_PrintHTML.ac R) (QF P [] R) (fr0 [.pointer x0, .pointer x1]) w := by kernel_rfl
theorem g_AutoLink_PrintHTML.sound {R : EP} {x0 : OA} {x1 : OA} {w : World} (h : g_AutoLink_PrintHTML R x0 x1 w) : callE P i_AutoLink_PrintHTML #[.pointer x0, .pointer x1] R w :=
  callE_fin (c := g_AutoLink_PrintHTML.body) Tryz.func337 Tryz.call337 (by kernel_rfl) (by kernel_rfl) (by kernel_rfl) (by kernel_rfl) (by kernel_rfl) (g_AutoLink_PrintHTML.good R) (g_AutoLink_PrintHTML.eq R x0 x1 w) h
/- 293 (*pub-paratext/pub/rscmarkdown.HardBreak).PrintHTML -/
namespace g_HardBreak_PrintHTML
noncomputable def body : Code := bodyOf Tryz.f293
end g_HardBreak_PrintHTML
def g_HardBreak_PrintHTML (R : EP) (x0 : OA) (x1 : OA) (w : World) : Prop :=
 callE P i_bytes_Buffer_WriteString #[.pointer x1, .string (ByteArray.mk #[60, 98, 114, 32, 47, 62, 10])] (fun e w2 => ∃ (r1_0 : Int), ∃ (r1_1 : Value), e = .returned (.tuple #[.int .i64 r1_0, r1_1]) ∧
 R (.returned (.tuple #[])) w2) w

noncomputable def g_HardBreak_PrintHTML.ac (R : EP) : AC :=
  (.leaf (sel [] g_HardBreak_PrintHTML.body))
theorem g_HardBreak_PrintHTML.good (R : EP) : Good P 6 (g_HardBreak_PrintHTML.ac R) (QF P [] R) :=
  trivial
theorem g_HardBreak_PrintHTML.eq (R : EP) (x0 : OA) (x1 : OA) (w : World) : g_HardBreak_PrintHTML R x0 x1 w = vcA P 6 (g_HardBreak_PrintHTML.ac R) (QF P [] R) (fr0 [.pointer x0, .pointer x1]) w := by kernel_rfl
theorem g_HardBreak_PrintHTML.sound {R : EP} {x0 : OA} {x1 : OA} {w : World} (h : g_HardBreak_PrintHTML R x0 x1 w) : callE P i_HardBreak_PrintHTML #[.pointer x0, .pointer x1] R w :=
  callE_fin (c := g_HardBreak_PrintHTML.body) Tryz.func293 Tryz.call293 (by kernel_rfl) (by kernel_rfl) (by kernel_rfl) (by kernel_rfl) (by kernel_rfl) (g_HardBreak_PrintHTML.good R) (g_HardBreak_PrintHTML.eq R x0 x1 w) h
/- 260 (*pub-paratext/pub/rscmarkdown.Link).PrintHTML -/
namespace g_Link_PrintHTML
noncomputable def body : Code := bodyOf Tryz.f260
def bl1 (R : EP) (Xa : OA → OA → Nat → Nat → Int → Int → WP) (x1 : OA) (x36q : OA) (x36n : Nat) (x36c : Nat) (x37 : Int) (x38 : Int) (w : World) : Prop :=
 br (decide (x38 < x37))
 (0 ≤ x38 ∧ x38 < (x36n : Int) ∧
 nilP x36q fun a25 =>
 ∃ (v26 : Value), w.cell? (a25.add (Int.toNat x38 * 1)) = some v26 ∧
 enterE P (callMethod v26 "PrintHTML" #[.pointer x1]) (fun e w28 => e = .returned (.tuple #[]) ∧
 Xa x1 x36q x36n x36c x37 (IntKind.i64.wrap (x38 + 1)) w28) w)
 (callE P i_bytes_Buffer_WriteString #[.pointer x1, .string (ByteArray.mk #[60, 47, 97, 62])] (fun e w30 => ∃ (r29_0 : Int), ∃ (r29_1 : Value), e = .returned (.tuple #[.int .i64 r29_0, r29_1]) ∧
 R (.returned (.tuple #[])) w30) w)
def l1 (R : EP) (x1 : OA) (x36q : OA) (x36n : Nat) (x36c : Nat) (x37 : Int) (x38 : Int) (w : World) : Prop :=
  ∀ X : OA → OA → Nat → Nat → Int → Int → WP, (∀ x1 x36q x36n x36c x37 x38 w, bl1 R X x1 x36q x36n x36c x37 x38 w → X x1 x36q x36n x36c x37 x38 w) → X x1 x36q x36n x36c x37 x38 w

noncomputable def al1 (R : EP) (Xa : OA → OA → Nat → Nat → Int → Int → WP) : AC :=
  (.leaf (sel [1, 1, 1, 0, 1, 0, 0] body))
def k1 (R : EP) (x0 : OA) (x1 : OA) (w : World) : Prop :=
 callE P i_bytes_Buffer_WriteString #[.pointer x1, .string (ByteArray.mk #[62])] (fun e w22 => ∃ (r21_0 : Int), ∃ (r21_1 : Value), e = .returned (.tuple #[.int .i64 r21_0, r21_1]) ∧
 nilP x0 fun a23 =>
 ∃ (v24q : OA), ∃ (v24n : Nat), ∃ (v24c : Nat), w22.cell? a23 = some (.slice v24q v24n v24c) ∧
 l1 R x1 v24q v24n v24c (v24n : Int) 0 w22) w

end g_Link_PrintHTML
def g_Link_PrintHTML (R : EP) (x0 : OA) (x1 : OA) (w : World) : Prop :=
 tk w fun w1 =>
 nilP x0 fun a2 =>
 ∃ (v3 : BA), w1.cell? (a2.add 1) = some (.string v3) ∧
 callE P i_htmlLinkEscaper #[] (fun e w5 => ∃ (r4q : OA), ∃ (r4n : Nat), ∃ (r4c : Nat), e = .returned (.slice r4q r4n r4c) ∧
 SameC w1 w5 (a2.add 1) 1 ∧
 callE P i_zzPairs_Replace #[.slice r4q r4n r4c, .string v3] (fun e w7 => ∃ (r6 : BA), e = .returned (.string r6) ∧
 (((ByteArray.mk #[60, 97, 32, 104, 114, 101, 102, 61, 34]).size + r6.size : Nat) : Int) ≤ IntKind.i64.max ∧
 ((((ByteArray.mk #[60, 97, 32, 104, 114, 101, 102, 61, 34]) ++ r6).size + (ByteArray.mk #[34]).size : Nat) : Int) ≤ IntKind.i64.max ∧
 callE P i_bytes_Buffer_WriteString #[.pointer x1, .string (((ByteArray.mk #[60, 97, 32, 104, 114, 101, 102, 61, 34]) ++ r6) ++ (ByteArray.mk #[34]))] (fun e w9 => ∃ (r8_0 : Int), ∃ (r8_1 : Value), e = .returned (.tuple #[.int .i64 r8_0, r8_1]) ∧
 nilP x0 fun a10 =>
 ∃ (v11 : BA), w9.cell? (a10.add 2) = some (.string v11) ∧
 br (!(v11.toList == (ByteArray.mk #[]).toList))
 (tk w9 fun w12 =>
 nilP x0 fun a13 =>
 ∃ (v14 : BA), w12.cell? (a13.add 2) = some (.string v14) ∧
 callE P i_htmlQuoteEscaper #[] (fun e w16 => ∃ (r15q : OA), ∃ (r15n : Nat), ∃ (r15c : Nat), e = .returned (.slice r15q r15n r15c) ∧
 SameC w12 w16 (a13.add 2) 1 ∧
 callE P i_zzPairs_Replace #[.slice r15q r15n r15c, .string v14] (fun e w18 => ∃ (r17 : BA), e = .returned (.string r17) ∧
 (((ByteArray.mk #[32, 116, 105, 116, 108, 101, 61, 34]).size + r17.size : Nat) : Int) ≤ IntKind.i64.max ∧
 ((((ByteArray.mk #[32, 116, 105, 116, 108, 101, 61, 34]) ++ r17).size + (ByteArray.mk #[34]).size : Nat) : Int) ≤ IntKind.i64.max ∧
 callE P i_bytes_Buffer_WriteString #[.pointer x1, .string (((ByteArray.mk #[32, 116, 105, 116, 108, 101, 61, 34]) ++ r17) ++ (ByteArray.mk #[34]))] (fun e w20 => ∃ (r19_0 : Int), ∃ (r19_1 : Value), e = .returned (.tuple #[.int .i64 r19_0, r19_1]) ∧
 g_Link_PrintHTML.k1 R x0 x1 w20) w18) w16) w12)
 (g_Link_PrintHTML.k1 R x0 x1 w9)) w7) w5) w1

noncomputable def g_Link_PrintHTML.ac (R : EP) : AC :=
  (.seq (.draw (.pure 0 (.pure 2 (.pure 3 (.pure 4 (.load 5 (.one 1 (.one 6 (.pure 7 (.pure 8 (.one 9 .done)))))))))) (sel [0] g_Link_PrintHTML.body)) (.seq (.seq (.leaf (sel [1, 0, 0] g_Link_PrintHTML.body)) (.cond 20 (.draw (.pure 0 (.pure 2 (.pure 3 (.pure 4 (.load 5 (.one 1 (.one 6 (.pure 7 (.pure 8 (.one 9 .done)))))))))) (sel [1, 0, 1, 0] g_Link_PrintHTML.body)) (.leaf (sel [1, 0, 1, 1] g_Link_PrintHTML.body)))) (.mark (leaf [(0, .s .ptr), (1, .s .ptr)] (g_Link_PrintHTML.k1 R)) (.seq (.leaf (sel [1, 1, 0] g_Link_PrintHTML.body)) (.seq (.seq (.leaf (sel [1, 1, 1, 0, 0] g_Link_PrintHTML.body)) (.block 0 (.loop (leaf [(1, .s .ptr), (36, .s .slice), (37, .s (.int .i64)), (38, .s (.int .i64))] (g_Link_PrintHTML.l1 R)) (sel [1, 1, 1, 0, 1, 0, 0] g_Link_PrintHTML.body)))) (.leaf (sel [1, 1, 1, 1] g_Link_PrintHTML.body)))))))
theorem g_Link_PrintHTML.good (R : EP) : Good P 48 (g_Link_PrintHTML.ac R) (QF P [] R) :=
  ⟨⟨by kernel_rfl, by kernel_rfl, fun _ _ _ h => h⟩, ⟨⟨trivial, ⟨⟨by kernel_rfl, by kernel_rfl, fun _ _ _ h => h⟩, trivial⟩⟩, ⟨⟨trivial, ⟨⟨trivial, (loopG (g_Link_PrintHTML.al1 R) (g_Link_PrintHTML.bl1 R) (fun _ => by kernel_rfl) (fun Xa => trivial) (fun Xa => by intro x1 x36q x36n x36c x37 x38 ρ w; kernel_rfl) (fun X h _ _ _ _ _ _ _ g => g X h))⟩, trivial⟩⟩, cutE (by intro x0 x1 ρ w; kernel_rfl)⟩⟩⟩
theorem g_Link_PrintHTML.eq (R : EP) (x0 : OA) (x1 : OA) (w : World) : g_Link_PrintHTML R x0 x1 w = vcA P 48 (g_Link_PrintHTML.ac R) (QF P [] R) (fr0 [.pointer x0, .pointer x1]) w := by kernel_rfl
theorem g_Link_PrintHTML.sound {R : EP} {x0 : OA} {x1 : OA} {w : World} (h : g_Link_PrintHTML R x0 x1 w) : callE P i_Link_PrintHTML #[.pointer x0, .pointer x1] R w :=
  callE_fin (c := g_Link_PrintHTML.body) Tryz.func260 Tryz.call260 (by kernel_rfl) (by kernel_rfl) (by kernel_rfl) (by kernel_rfl) (by kernel_rfl) (g_Link_PrintHTML.good R) (g_Link_PrintHTML.eq R x0 x1 w) h
/- 301 (*pub-paratext/pub/rscmarkdown.SoftBreak).PrintHTML -/
namespace g_SoftBreak_PrintHTML
noncomputable def body : Code := bodyOf Tryz.f301
end g_SoftBreak_PrintHTML
def g_SoftBreak_PrintHTML (R : EP) (x0 : OA) (x1 : OA) (w : World) : Prop :=
 callE P i_bytes_Buffer_WriteString #[.pointer x1, .string (ByteArray.mk #[10])] (fun e w2 => ∃ (r1_0 : Int), ∃ (r1_1 : Value), e = .returned (.tuple #[.int .i64 r1_0, r1_1]) ∧
 R (.returned (.tuple #[])) w2) w

noncomputable def g_SoftBreak_PrintHTML.ac (R : EP) : AC :=
  (.leaf (sel [] g_SoftBreak_PrintHTML.body))
theorem g_SoftBreak_PrintHTML.good (R : EP) : Good P 6 (g_SoftBreak_PrintHTML.ac R) (QF P [] R) :=
  trivial
theorem g_SoftBreak_PrintHTML.eq (R : EP) (x0 : OA) (x1 : OA) (w : World) : g_SoftBreak_PrintHTML R x0 x1 w = vcA P 6 (g_SoftBreak_PrintHTML.ac R) (QF P [] R) (fr0 [.pointer x0, .pointer x1]) w := by kernel_rfl
theorem g_SoftBreak_PrintHTML.sound {R : EP} {x0 : OA} {x1 : OA} {w : World} (h : g_SoftBreak_PrintHTML R x0 x1 w) : callE P i_SoftBreak_PrintHTML #[.pointer x0, .pointer x1] R w :=
  callE_fin (c := g_SoftBreak_PrintHTML.body) Tryz.func301 Tryz.call301 (by kernel_rfl) (by kernel_rfl) (by kernel_rfl) (by kernel_rfl) (by kernel_rfl) (g_SoftBreak_PrintHTML.good R) (g_SoftBreak_PrintHTML.eq R x0 x1 w) h
end Go.Proofs.YtmicoampfglaiaaGreatDoor

/- Leaves and links print themselves. -/
set_option linter.unusedVariables false
namespace Go.Proofs.YtmicoampfglaiaaGreatDoor
open Go.Proofs Go.IntWalk Go.RowKit
variable {σ : Out} {w : World} {L L' : List Chunk} {R : Ending → World → Prop}
/-- A method of a struct that is embedded first, met through a pointer. -/
def methB1 (P : Program) (t : TypeId) (name : String) (f : FuncId) : Bool :=
  match P.info? t with
  | some i => match i.methods.find? (·.name == name) with
    | some m => match m.path.toList with
      | [s] => s.deref && (match P.underlying s.struct with
        | some (.struct fields) => match fields[s.index]? with
          | some fd => Nat.beq fd.offset 0 && (match P.info? fd.type with
            | some ti => !(Nat.beq ti.size 0) && (match P.underlying fd.type with
              | some (.struct _) => (match m.func with | some (g, true) => Nat.beq g f | _ => false)
              | _ => false)
            | none => false)
          | none => false
        | _ => false)
      | _ => false
    | none => false
  | none => false
theorem methB1_run {P : Program} {t : TypeId} {name : String} {f : FuncId} (h : methB1 P t name f = true) (b : Nat) (fuel : Nat) (w : World) :
    (Go.method (fuel + 1) t (.pointer (some ⟨b, 0, none⟩)) name).run P w = .ok (f, .pointer (some ⟨b, 0, none⟩)) w := by
  unfold methB1 at h
  split at h
  · rename_i i hi
    split at h
    · rename_i m hm
      split at h
      · rename_i s hp
        simp only [Bool.and_eq_true] at h
        obtain ⟨hd, h⟩ := h
        split at h
        · rename_i fields hu
          split at h
          · rename_i fd hf
            simp only [Bool.and_eq_true] at h
            obtain ⟨h0, h⟩ := h
            have h0 := Nat.eq_of_beq_eq_true h0
            split at h
            · rename_i ti hti
              simp only [Bool.and_eq_true, Bool.not_eq_true'] at h
              obtain ⟨hsz, h⟩ := h
              have hsz : ti.size ≠ 0 := by intro h1; rw [h1] at hsz; simp at hsz
              split at h
              · rename_i fs hfu
                split at h
                · rename_i g hg
                  have hgf := Nat.eq_of_beq_eq_true h
                  subst hgf
                  simp [Go.method, typeInfo, hi, hm, hp, Go.follow, run_underlying hu, hf, hd, Go.Place.get, asAddr, Go.fieldPlace, sizeOf, hti, hsz, h0, hg, Go.receiverAt, run_underlying hfu, Addr.add_lit]
                · cases h
              · cases h
            · cases h
          · cases h
        · cases h
      · cases h
    · cases h
  · cases h
theorem enter_meth1 {t : TypeId} {name : String} {f : FuncId} {b : Nat} {args : Array Value} (hm : methB1 P t name f = true) (h : callE P f (#[.pointer (some ⟨b, 0, none⟩)] ++ args) R w) :
    enterE P (callMethod (.iface t (.pointer (some ⟨b, 0, none⟩))) name args) R w := by
  obtain ⟨n, hn⟩ := depth_succ P
  have hr := methB1_run hm b n w
  have e : (callMethod (.iface t (.pointer (some ⟨b, 0, none⟩))) name args).run P w = (callFunc f (#[.pointer (some ⟨b, 0, none⟩)] ++ args)).run P w := by
    simp only [callMethod, Sem.run_bind, run_program, Result.andThen_ok, hn, hr]
  unfold enterE
  rw [e]
  exact h.imp (fun h => ⟨f, _, w, h.1 _ _, h.2⟩) id
theorem meth_EscapedP : methB1 P ty_P_Escaped "PrintHTML" i_Plain_PrintHTML = true := by kernel_rfl
theorem meth_Soft : methB P ty_P_SoftBreak "PrintHTML" i_SoftBreak_PrintHTML = true := by kernel_rfl
theorem meth_Hard : methB P ty_P_HardBreak "PrintHTML" i_HardBreak_PrintHTML = true := by kernel_rfl
theorem meth_Auto : methB P ty_P_AutoLink "PrintHTML" i_AutoLink_PrintHTML = true := by kernel_rfl
theorem meth_Link : methB P ty_P_Link "PrintHTML" i_Link_PrintHTML = true := by kernel_rfl
theorem esc_prints {pb : Nat} {s : List UInt8} {cs : List Value} {e : TypeId} (hs : s.length < 4294967296) :
    Prints "PrintHTML" (.iface ty_P_Escaped (.pointer (some ⟨pb, 0, none⟩))) [(pb, cel (.string (bs s) :: cs) e)] [(pb, cel (.string (bs s) :: cs) e)] (ab (escS htmlPs s)) := by
  refine ⟨ab_le _, fun σ R b l M L w hB h hb hR => enter_meth1 meth_EscapedP ?_⟩
  exact plainPrint_ok hB h hs (Nat.le_trans (ab_le _ l) hb) hR
def softT : List UInt8 := [10]
def hardT : List UInt8 := [60, 98, 114, 32, 47, 62, 10]
theorem soft_prints {b : Nat} {T : List Chunk} : Prints "PrintHTML" (ptrV ty_P_SoftBreak b) T T (ab softT) := by
  refine ⟨ab_le _, fun σ R bb l M L w hB h hb hR => enter_meth meth_Soft ?_⟩
  refine g_SoftBreak_PrintHTML.sound ?_
  have hb' : (l ++ softT).length ≤ 549755813888 := hb
  rw [List.length_append] at hb'
  exact writeS_ok (s := softT) hB h (by omega) fun w M hB h => ⟨_, _, rfl, hR w M hB h⟩
theorem hard_prints {b : Nat} {T : List Chunk} : Prints "PrintHTML" (ptrV ty_P_HardBreak b) T T (ab hardT) := by
  refine ⟨ab_le _, fun σ R bb l M L w hB h hb hR => enter_meth meth_Hard ?_⟩
  refine g_HardBreak_PrintHTML.sound ?_
  have hb' : (l ++ hardT).length ≤ 549755813888 := hb
  rw [List.length_append] at hb'
  exact writeS_ok (s := hardT) hB h (by omega) fun w M hB h => ⟨_, _, rfl, hR w M hB h⟩
def aHref : List UInt8 := [60, 97, 32, 104, 114, 101, 102, 61, 34]
def aEnd : List UInt8 := [60, 47, 97, 62]
def tAttr : List UInt8 := [32, 116, 105, 116, 108, 101, 61, 34]
theorem linkPs8 : small8 linkPs = true := by decide
theorem linkPs_len : linkPs.length = 170 := by kernel_rfl
theorem linkReplace_ok {pb c : Nat} {e : TypeId} {s : List UInt8} (h : Sat σ w L) (hp : (pb, cel (pairC linkPs) e) ∈ L) (hs : s.length < 4294967296) (hR : ∀ w, Sat σ w L → R (.returned (.string (bs (escS linkPs s)))) w) :
    callE P i_zzPairs_Replace #[.slice (some ⟨pb, 0, none⟩) 340 c, .string (bs s)] R w := by
  have := pairsReplace_ok (c := c) (R := R) h hp linkPs8 (by rw [linkPs_len]; decide) hs hR
  rw [linkPs_len] at this
  exact this
theorem auto_prints {b : Nat} {e : TypeId} {t u : List UInt8} (ht : t.length < 100000000) (hu : u.length < 100000000) :
    Prints "PrintHTML" (ptrV ty_P_AutoLink b) [(b, cel [.string (bs t), .string (bs u)] e)] [(b, cel [.string (bs t), .string (bs u)] e)] (ab (aHref ++ escS linkPs u ++ [34, 62] ++ escS htmlPs t ++ aEnd)) := by
  refine ⟨ab_le _, fun σ R bb l M L w hB h hb hR => enter_meth meth_Auto ?_⟩
  have hmax : IntKind.i64.max = 9223372036854775807 := rfl
  have l1 := escS_length linkPs8 u
  have l2 := escS_length (ps := htmlPs) (by decide) t
  have hb' : (l ++ (aHref ++ escS linkPs u ++ [34, 62] ++ escS htmlPs t ++ aEnd)).length ≤ 549755813888 := hb
  rw [List.length_append] at hb'
  refine g_AutoLink_PrintHTML.sound ?_
  refine Sat.tk h fun w h => ?_
  refine nilP_some (nilP_some ?_)
  have hm : ∀ {M : List Chunk}, (b, cel [.string (bs t), .string (bs u)] e) ∈ M ++ ([(b, cel [.string (bs t), .string (bs u)] e)] ++ L) := List.mem_append_right _ (.head _)
  refine ⟨_, Sat.ld h (i := 1) hm rfl, _, Sat.ld h (i := 0) hm rfl, ?_⟩
  have h0 := h
  refine htmlLinkEscaper_ok h fun w eb h => ⟨_, _, _, rfl, h0.same h hm (.tail _ hm) 1, h0.same h hm (.tail _ hm) 1, ?_⟩
  have h0 := h
  refine linkReplace_ok h (.head _) (by omega) fun w h => ⟨_, rfl, h0.same h (.tail _ hm) (.tail _ hm) 1, ?_⟩
  rw [show ByteArray.mk #[60, 97, 32, 104, 114, 101, 102, 61, 34] = bs aHref from rfl, show ByteArray.mk #[34, 62] = bs [34, 62] from rfl, show ByteArray.mk #[60, 47, 97, 62] = bs aEnd from rfl, bs_append, bs_append]
  refine ⟨by rw [hmax]; simp [aHref]; omega, by rw [hmax]; simp [aHref]; omega, ?_⟩
  have h0 := h
  refine htmlEscaper_ok h fun w eb2 h => ⟨_, _, _, rfl, h0.same h (.tail _ hm) (.tail _ (.tail _ hm)) 1, ?_⟩
  refine pairsReplace_ok (ps := htmlPs) h (.head _) (by decide) (by decide) (by omega) fun w h => ⟨_, rfl, ?_⟩
  rw [bs_append, bs_append]
  refine ⟨by rw [hmax]; simp [aHref]; omega, by rw [hmax]; simp [aHref, aEnd]; omega, ?_⟩
  have h : Sat σ w (M ++ ([(b, cel [.string (bs t), .string (bs u)] e)] ++ L)) := h.tail.tail
  exact writeS_ok hB h (by omega) fun w M hB h => ⟨_, _, rfl, hR w M hB h⟩
/-- What stands ahead of a link's text. -/
def linkO (u t : List UInt8) : List UInt8 := aHref ++ escS linkPs u ++ [34] ++ (if t = [] then [] else tAttr ++ escS htmlPs t ++ [34]) ++ [62]
theorem link_prints {b : Nat} {e : TypeId} {u t : List UInt8} {cs : List Value} {q : Option Addr} {n c : Nat} {vs : List Value} {RM KM KM' : List Chunk} {f : List UInt8 → List UInt8} (hu : u.length < 100000000) (ht : t.length < 100000000) (hS : Sl 1 ty_Inline q n c vs RM) (hn : n < 4611686018427387904) (hP : PrintsL "PrintHTML" vs KM KM' f) :
    Prints "PrintHTML" (ptrV ty_P_Link b) ((b, cel (.slice q n c :: .string (bs u) :: .string (bs t) :: cs) e) :: (RM ++ KM)) ((b, cel (.slice q n c :: .string (bs u) :: .string (bs t) :: cs) e) :: (RM ++ KM')) (fun l => f (l ++ linkO u t) ++ aEnd) := by
  have hmax : IntKind.i64.max = 9223372036854775807 := rfl
  have l1 := escS_length linkPs8 u
  have l2 := escS_length (ps := htmlPs) (by decide) t
  refine ⟨fun l => ?_, fun σ R bb l M L w hB h hb hR => enter_meth meth_Link ?_⟩
  · have := hP.mono (l ++ linkO u t)
    simp only [List.length_append] at *; omega
  have hm := hP.mono (l ++ linkO u t)
  simp only [List.length_append] at hb hm
  refine g_Link_PrintHTML.sound ?_
  have hmem : ∀ {M : List Chunk}, (b, cel (.slice q n c :: .string (bs u) :: .string (bs t) :: cs) e) ∈ M ++ ((b, cel (.slice q n c :: .string (bs u) :: .string (bs t) :: cs) e) :: (RM ++ KM) ++ L) := List.mem_append_right _ (.head _)
  refine Sat.tk h fun w h => ?_
  refine nilP_some ⟨_, Sat.ld h (i := 1) hmem rfl, ?_⟩
  have h0 := h
  refine htmlLinkEscaper_ok h fun w eb h => ⟨_, _, _, rfl, h0.same h hmem (.tail _ hmem) 1, ?_⟩
  refine linkReplace_ok h (.head _) (by omega) fun w h => ⟨_, rfl, ?_⟩
  rw [show ByteArray.mk #[60, 97, 32, 104, 114, 101, 102, 61, 34] = bs aHref from rfl, show ByteArray.mk #[34] = bs [34] from rfl, bs_append, bs_append]
  have hlo : (linkO u t).length = (aHref ++ escS linkPs u ++ [34]).length + (if t = [] then [] else tAttr ++ escS htmlPs t ++ [34] : List UInt8).length + 1 := by simp [linkO]; omega
  refine ⟨by rw [hmax]; simp [aHref]; omega, by rw [hmax]; simp [aHref]; omega, ?_⟩
  have h : Sat σ w (M ++ ((b, cel (.slice q n c :: .string (bs u) :: .string (bs t) :: cs) e) :: (RM ++ KM) ++ L)) := h.tail
  refine writeS_ok hB h (by omega) fun w M hB h => ⟨_, _, rfl, ?_⟩
  refine nilP_some ⟨_, Sat.ld h (i := 2) hmem rfl, ?_⟩
  have k1 : ∀ w M, Buf bb (l ++ (aHref ++ escS linkPs u ++ [34] ++ (if t = [] then [] else tAttr ++ escS htmlPs t ++ [34]))) M → Sat σ w (M ++ ((b, cel (.slice q n c :: .string (bs u) :: .string (bs t) :: cs) e) :: (RM ++ KM) ++ L)) → g_Link_PrintHTML.k1 R (some ⟨b, 0, none⟩) (some ⟨bb, 0, none⟩) w := by
    intro w M hB h
    refine writeS_ok (s := [62]) hB h (by simp only [List.length_append, List.length_cons, List.length_nil] at hlo ⊢; omega) fun w M hB h => ⟨_, _, rfl, ?_⟩
    refine nilP_some ⟨_, _, _, Sat.ld h (i := 0) hmem rfl, ?_⟩
    intro X hX
    have e1 : l ++ (aHref ++ escS linkPs u ++ [34] ++ (if t = [] then [] else tAttr ++ escS htmlPs t ++ [34])) ++ [62] = l ++ linkO u t := by simp [linkO]
    rw [e1] at hB
    have h : Sat σ w (M ++ (RM ++ (KM ++ ((b, cel (.slice q n c :: .string (bs u) :: .string (bs t) :: cs) e) :: L)))) := h.re (by intro _; simp only [List.append_eq, cnt_append, cnt_cons, cnt_nil] <;> omega)
    refine printLoop (X := fun j w => X (some ⟨bb, 0, none⟩) q n c (n : Int) j w) (END := fun w => callE P i_bytes_Buffer_WriteString #[.pointer (some ⟨bb, 0, none⟩), .string (bs aEnd)] (fun e w10 => ∃ (r9_0 : Int), ∃ (r9_1 : Value), e = .returned (.tuple #[.int .i64 r9_0, r9_1]) ∧ R (.returned (.tuple #[])) w10) w) hS (fun j w hj => hX _ _ _ _ _ _ _ hj) hP hB h hn (by simp only [List.length_append] at *; omega) fun w M' hB h => ?_
    refine writeS_ok (s := aEnd) hB h (by simp only [List.length_append] at *; omega) fun w M hB h => ⟨_, _, rfl, ?_⟩
    exact hR w M hB (h.re (by intro _; simp only [List.append_eq, cnt_append, cnt_cons, cnt_nil] <;> omega))
  by_cases ht0 : t = []
  · refine br_false (by rw [ht0, bs_toList, mk_toList]; rfl) (k1 w M ?_ h)
    rw [if_pos ht0, List.append_nil]; exact hB
  · refine br_true (by rw [bs_toList, mk_toList]; simpa using ht0) ?_
    rw [if_neg ht0] at hlo
    simp only [List.length_append, List.length_cons, List.length_nil] at hlo
    refine Sat.tk h fun w h => ?_
    refine nilP_some ⟨_, Sat.ld h (i := 2) hmem rfl, ?_⟩
    have h0 := h
    refine htmlQuoteEscaper_ok h fun w eb h => ⟨_, _, _, rfl, h0.same h hmem (.tail _ hmem) 1, ?_⟩
    refine pairsReplace_ok (ps := htmlPs) h (.head _) (by decide) (by decide) (by omega) fun w h => ⟨_, rfl, ?_⟩
    rw [show ByteArray.mk #[32, 116, 105, 116, 108, 101, 61, 34] = bs tAttr from rfl, bs_append, bs_append]
    refine ⟨by rw [hmax]; simp [tAttr]; omega, by rw [hmax]; simp [tAttr]; omega, ?_⟩
    have h : Sat σ w (M ++ ((b, cel (.slice q n c :: .string (bs u) :: .string (bs t) :: cs) e) :: (RM ++ KM) ++ L)) := h.tail
    refine writeS_ok hB h (by simp only [List.length_append, List.length_cons, List.length_nil] at hlo ⊢; omega) fun w M hB h => ⟨_, _, rfl, k1 w M ?_ h⟩
    rw [if_neg ht0, ← List.append_assoc]; exact hB
end Go.Proofs.YtmicoampfglaiaaGreatDoor


/- Inlines print themselves. -/
set_option linter.unusedVariables false
namespace Go.Proofs.YtmicoampfglaiaaGreatDoor
open Go.Proofs Go.IntWalk Go.RowKit
variable {σ : Out} {w : World} {L L' : List Chunk} {R : Ending → World → Prop}
theorem meth_Strong : methB P ty_P_Strong "PrintHTML" i_Strong_PrintHTML = true := by kernel_rfl
theorem meth_Emph : methB P ty_P_Emph "PrintHTML" i_Emph_PrintHTML = true := by kernel_rfl
def oStrong : List UInt8 := [60, 115, 116, 114, 111, 110, 103, 62]
def cStrong : List UInt8 := [60, 47, 115, 116, 114, 111, 110, 103, 62]
def oEm : List UInt8 := [60, 101, 109, 62]
def cEm : List UInt8 := [60, 47, 101, 109, 62]
theorem strong_prints {b : Nat} {e : TypeId} {m : Value} {q : Option Addr} {n c : Nat} {vs : List Value} {RM KM KM' : List Chunk} {f : List UInt8 → List UInt8} (hS : Sl 1 ty_Inline q n c vs RM) (hn : n < 4611686018427387904) (hP : PrintsL "PrintHTML" vs KM KM' f) :
    Prints "PrintHTML" (.iface ty_P_Strong (.pointer (some ⟨b, 0, none⟩))) ((b, cel [m, .slice q n c] e) :: (RM ++ KM)) ((b, cel [m, .slice q n c] e) :: (RM ++ KM')) (fun l => f (l ++ oStrong) ++ cStrong) := by
  refine ⟨fun l => ?_, fun σ R bb l M L w hB h hb hR => enter_meth meth_Strong ?_⟩
  · have := hP.mono (l ++ oStrong)
    simp only [List.length_append] at *; omega
  refine g_Strong_PrintHTML.sound ?_
  have hm := hP.mono (l ++ oStrong)
  simp only [List.length_append] at hb hm
  refine writeS_ok (s := oStrong) hB h (by omega) fun w M hB h => ⟨_, _, rfl, ?_⟩
  refine nilP_some ?_
  refine ⟨_, _, _, Sat.ld h (List.mem_append_right _ (.head _)) rfl, ?_⟩
  intro X hX
  have h : Sat σ w (M ++ (RM ++ (KM ++ ((b, cel [m, .slice q n c] e) :: L)))) := h.re (by intro _; simp only [List.append_eq, cnt_append, cnt_cons, cnt_nil] <;> omega)
  refine printLoop (X := fun j w => X (some ⟨bb, 0, none⟩) q n c (n : Int) j w) (END := fun w => callE P i_bytes_Buffer_WriteString #[.pointer (some ⟨bb, 0, none⟩), .string (bs cStrong)] (fun e w10 => ∃ (r9_0 : Int), ∃ (r9_1 : Value), e = .returned (.tuple #[.int .i64 r9_0, r9_1]) ∧ R (.returned (.tuple #[])) w10) w) hS (fun j w hj => hX _ _ _ _ _ _ _ hj) hP hB h hn (by omega) fun w M' hB h => ?_
  refine writeS_ok (s := cStrong) hB h (by omega) fun w M hB h => ⟨_, _, rfl, ?_⟩
  exact hR w M hB (h.re (by intro _; simp only [List.append_eq, cnt_append, cnt_cons, cnt_nil] <;> omega))
theorem em_prints {b : Nat} {e : TypeId} {m : Value} {q : Option Addr} {n c : Nat} {vs : List Value} {RM KM KM' : List Chunk} {f : List UInt8 → List UInt8} (hS : Sl 1 ty_Inline q n c vs RM) (hn : n < 4611686018427387904) (hP : PrintsL "PrintHTML" vs KM KM' f) :
    Prints "PrintHTML" (.iface ty_P_Emph (.pointer (some ⟨b, 0, none⟩))) ((b, cel [m, .slice q n c] e) :: (RM ++ KM)) ((b, cel [m, .slice q n c] e) :: (RM ++ KM')) (fun l => f (l ++ oEm) ++ cEm) := by
  refine ⟨fun l => ?_, fun σ R bb l M L w hB h hb hR => enter_meth meth_Emph ?_⟩
  · have := hP.mono (l ++ oEm)
    simp only [List.length_append] at *; omega
  refine g_Emph_PrintHTML.sound ?_
  have hm := hP.mono (l ++ oEm)
  simp only [List.length_append] at hb hm
  refine writeS_ok (s := oEm) hB h (by omega) fun w M hB h => ⟨_, _, rfl, ?_⟩
  refine nilP_some ?_
  refine ⟨_, _, _, Sat.ld h (List.mem_append_right _ (.head _)) rfl, ?_⟩
  intro X hX
  have h : Sat σ w (M ++ (RM ++ (KM ++ ((b, cel [m, .slice q n c] e) :: L)))) := h.re (by intro _; simp only [List.append_eq, cnt_append, cnt_cons, cnt_nil] <;> omega)
  refine printLoop (X := fun j w => X (some ⟨bb, 0, none⟩) q n c (n : Int) j w) (END := fun w => callE P i_bytes_Buffer_WriteString #[.pointer (some ⟨bb, 0, none⟩), .string (bs cEm)] (fun e w10 => ∃ (r9_0 : Int), ∃ (r9_1 : Value), e = .returned (.tuple #[.int .i64 r9_0, r9_1]) ∧ R (.returned (.tuple #[])) w10) w) hS (fun j w hj => hX _ _ _ _ _ _ _ hj) hP hB h hn (by omega) fun w M' hB h => ?_
  refine writeS_ok (s := cEm) hB h (by omega) fun w M hB h => ⟨_, _, rfl, ?_⟩
  exact hR w M hB (h.re (by intro _; simp only [List.append_eq, cnt_append, cnt_cons, cnt_nil] <;> omega))
/-! ### In general -/
mutual
/-- What an inline prints (of the kinds that are covered). -/
def outI : Inl → List UInt8
  | .plain s => escS htmlPs s
  | .strong _ ks => oStrong ++ outL ks ++ cStrong
  | .emph _ ks => oEm ++ outL ks ++ cEm
  | .esc s => escS htmlPs s
  | .auto t u => aHref ++ escS linkPs u ++ [34, 62] ++ escS htmlPs t ++ aEnd
  | .link ks u t _ _ => linkO u t ++ outL ks ++ aEnd
  | .soft => softT
  | .hard => hardT
  | _ => []
def outL : List Inl → List UInt8
  | [] => []
  | t :: ts => outI t ++ outL ts
end
mutual
def okI : Inl → Prop
  | .plain s => s.length < 4294967296
  | .strong _ ks => okL ks ∧ ks.length < 1073741824
  | .emph _ ks => okL ks ∧ ks.length < 1073741824
  | .esc s => s.length < 4294967296
  | .auto t u => t.length < 100000000 ∧ u.length < 100000000
  | .link ks u t _ _ => okL ks ∧ ks.length < 1073741824 ∧ u.length < 100000000 ∧ t.length < 100000000
  | .soft => True
  | .hard => True
  | _ => False
def okL : List Inl → Prop
  | [] => True
  | t :: ts => okI t ∧ okL ts
end
theorem Prints.as {m : String} {v : Value} {T T' : List Chunk} {f g : List UInt8 → List UInt8} (h : Prints m v T T' f) (e : f = g) : Prints m v T T' g := e ▸ h
theorem PrintsL.as {m : String} {v : List Value} {T T' : List Chunk} {f g : List UInt8 → List UInt8} (h : PrintsL m v T T' f) (e : f = g) : PrintsL m v T T' g := e ▸ h
mutual
theorem inl_prints : ∀ (t : Inl) (v : Value) (M : List Chunk), InlAt t v M → okI t → Prints "PrintHTML" v M M (ab (outI t))
  | .plain s, v, M, h, ho => by
    obtain ⟨b, cs, e, rfl, rfl⟩ := h
    exact plain_prints ho
  | .strong m ks, v, M, h, ho => by
    obtain ⟨b, e, q, n, c, vs, RM, KM, rfl, rfl, hS, hI⟩ := h
    have hl := hI.length
    have h0 := hS.1
    have h1 := ho.2
    refine (strong_prints hS (by omega) (inls_print ks vs KM hI ho.1)).as ?_
    funext l
    simp [ab, outI]
  | .emph m ks, v, M, h, ho => by
    obtain ⟨b, e, q, n, c, vs, RM, KM, rfl, rfl, hS, hI⟩ := h
    have hl := hI.length
    have h0 := hS.1
    have h1 := ho.2
    refine (em_prints hS (by omega) (inls_print ks vs KM hI ho.1)).as ?_
    funext l
    simp [ab, outI]
  | .esc s, v, M, h, ho => by
    obtain ⟨b, e, rfl, rfl⟩ := h
    exact esc_prints ho
  | .auto t u, v, M, h, ho => by
    obtain ⟨b, e, rfl, rfl⟩ := h
    exact auto_prints ho.1 ho.2
  | .link ks u t tc k, v, M, h, ho => by
    obtain ⟨b, e, q, n, c, vs, RM, KM, rfl, rfl, hS, hI⟩ := h
    have hl := hI.length
    have h0 := hS.1
    obtain ⟨h1, h2, h3, h4⟩ := ho
    refine (link_prints h3 h4 hS (by omega) (inls_print ks vs KM hI h1)).as ?_
    funext l
    simp [ab, outI]
  | .soft, v, M, h, ho => by
    obtain ⟨b, e, rfl, rfl⟩ := h
    exact soft_prints
  | .hard, v, M, h, ho => by
    obtain ⟨b, e, rfl, rfl⟩ := h
    exact hard_prints
  | .openP _ _, v, M, h, ho => absurd ho id
  | .emphP _ _ _ _ _, v, M, h, ho => absurd ho id
  | .code _, v, M, h, ho => absurd ho id
  | .del _ _, v, M, h, ho => absurd ho id
  | .image _ _ _ _ _, v, M, h, ho => absurd ho id
  | .tag _, v, M, h, ho => absurd ho id
  | .task _, v, M, h, ho => absurd ho id
theorem inls_print : ∀ (ts : List Inl) (vs : List Value) (M : List Chunk), InlsAt ts vs M → okL ts → PrintsL "PrintHTML" vs M M (ab (outL ts))
  | [], vs, M, h, ho => by
    obtain ⟨rfl, rfl⟩ := h
    exact PrintsL.nil.as (by funext l; simp [ab, outL])
  | t :: ts, vs, M, h, ho => by
    obtain ⟨v, vs', M1, M2, rfl, rfl, h1, h2⟩ := h
    refine (PrintsL.cons (inl_prints t v M1 h1 ho.1) (inls_print ts vs' M2 h2 ho.2)).as ?_
    funext l
    simp [ab, outL]
end
end Go.Proofs.YtmicoampfglaiaaGreatDoor


/- Images print themselves. -/
set_option linter.unusedVariables false
namespace Go.Proofs.YtmicoampfglaiaaGreatDoor
open Go.Proofs Go.IntWalk Go.RowKit
variable {σ : Out} {w : World} {L L' : List Chunk} {R : Ending → World → Prop}
theorem meth_PlainText : methB P ty_P_Plain "PrintText" i_Plain_PrintText = true := by kernel_rfl
theorem meth_Image : methB P ty_P_Image "PrintHTML" i_Image_PrintHTML = true := by kernel_rfl
theorem plainText_prints {pb : Nat} {s : List UInt8} {cs : List Value} {e : TypeId} (hs : s.length < 4294967296) :
    Prints "PrintText" (.iface ty_P_Plain (.pointer (some ⟨pb, 0, none⟩))) [(pb, cel (.string (bs s) :: cs) e)] [(pb, cel (.string (bs s) :: cs) e)] (ab (escS htmlPs s)) := by
  refine ⟨ab_le _, fun σ R b l M L w hB h hb hR => enter_meth meth_PlainText ?_⟩
  have hb' : l.length ≤ 549755813888 := Nat.le_trans (ab_le _ l) hb
  refine g_Plain_PrintText.sound ?_
  have h : Sat σ w (M ++ ((pb, cel (.string (bs s) :: cs) e) :: L)) := h
  refine Sat.tk h fun w h => ?_
  refine nilP_some ?_
  refine ⟨_, Sat.ld h (List.mem_append_right _ (.head _)) rfl, ?_⟩
  refine htmlEscaper_ok h fun w1 eb h1 => ⟨_, _, _, rfl, h.same h1 (List.mem_append_right _ (.head _)) (.tail _ (List.mem_append_right _ (.head _))) 1, ?_⟩
  have h1 : Sat σ w1 (M ++ ((eb, cel (pairC htmlPs) ty_string) :: (pb, cel (.string (bs s) :: cs) e) :: L)) := h1.re (by intro _; simp only [List.append_eq, cnt_append, cnt_cons, cnt_nil] <;> omega)
  refine writePairs_ok (ps := htmlPs) hB h1 (.head _) (by decide) (by decide) (by omega) (by omega) fun w M' hB h => ⟨rfl, hR w M' hB ?_⟩
  exact h.less [(eb, cel (pairC htmlPs) ty_string)] (by intro _; simp only [List.append_eq, cnt_append, cnt_cons, cnt_nil] <;> omega)
def imgT : List UInt8 := [60, 105, 109, 103, 32, 115, 114, 99, 61, 34]
def altT : List UInt8 := [32, 97, 108, 116, 61, 34]
def imgE : List UInt8 := [32, 47, 62]
def imgO (u : List UInt8) : List UInt8 := imgT ++ escS linkPs u ++ [34] ++ altT
def imgC (t : List UInt8) : List UInt8 := [34] ++ (if t = [] then [] else tAttr ++ escS htmlPs t ++ [34]) ++ imgE
theorem image_prints {b : Nat} {e : TypeId} {u t alt : List UInt8} {cs : List Value} {q : Option Addr} {n c : Nat} {vs : List Value} {RM KM KM' : List Chunk} (hu : u.length < 100000000) (ht : t.length < 100000000) (hS : Sl 1 ty_Inline q n c vs RM) (hn : n < 4611686018427387904) (hP : PrintsL "PrintText" vs KM KM' (ab alt)) (h10 : (10 : UInt8) ∉ alt) :
    Prints "PrintHTML" (ptrV ty_P_Image b) ((b, cel (.slice q n c :: .string (bs u) :: .string (bs t) :: cs) e) :: (RM ++ KM)) ((b, cel (.slice q n c :: .string (bs u) :: .string (bs t) :: cs) e) :: (RM ++ KM')) (ab (imgO u ++ alt ++ imgC t)) := by
  have hmax : IntKind.i64.max = 9223372036854775807 := rfl
  have l1 := escS_length linkPs8 u
  have l2 := escS_length (ps := htmlPs) (by decide) t
  refine ⟨ab_le _, fun σ R bb l M L w hB h hb hR => enter_meth meth_Image ?_⟩
  have hb' : (l ++ (imgO u ++ alt ++ imgC t)).length ≤ 549755813888 := hb
  have hlO : (imgO u).length = (escS linkPs u).length + 17 := by simp [imgO, imgT, altT] <;> omega
  have hlC : (imgC t).length = (if t = [] then [] else tAttr ++ escS htmlPs t ++ [34] : List UInt8).length + 4 := by simp [imgC, imgE] <;> omega
  simp only [List.length_append] at hb'
  refine g_Image_PrintHTML.sound ?_
  have hmem : ∀ {M : List Chunk}, (b, cel (.slice q n c :: .string (bs u) :: .string (bs t) :: cs) e) ∈ M ++ ((b, cel (.slice q n c :: .string (bs u) :: .string (bs t) :: cs) e) :: (RM ++ KM) ++ L) := List.mem_append_right _ (.head _)
  refine Sat.tk h fun w h => ?_
  refine nilP_some ⟨_, Sat.ld h (i := 1) hmem rfl, ?_⟩
  have h0 := h
  refine htmlLinkEscaper_ok h fun w eb h => ⟨_, _, _, rfl, h0.same h hmem (.tail _ hmem) 1, ?_⟩
  refine linkReplace_ok h (.head _) (by omega) fun w h => ⟨_, rfl, ?_⟩
  rw [show ByteArray.mk #[60, 105, 109, 103, 32, 115, 114, 99, 61, 34] = bs imgT from rfl, show ByteArray.mk #[34] = bs [34] from rfl, bs_append, bs_append]
  refine ⟨by rw [hmax]; simp [imgT] <;> omega, by rw [hmax]; simp [imgT] <;> omega, ?_⟩
  have h : Sat σ w (M ++ ((b, cel (.slice q n c :: .string (bs u) :: .string (bs t) :: cs) e) :: (RM ++ KM) ++ L)) := h.tail
  refine writeS_ok hB h (by simp only [List.length_append, List.length_cons, List.length_nil, show imgT.length = 10 from rfl]; omega) fun w M hB h => ⟨_, _, rfl, ?_⟩
  refine writeS_ok (s := altT) hB h (by simp [imgT, altT]; omega) fun w M hB h => ⟨_, _, rfl, ?_⟩
  have e1 : l ++ (imgT ++ escS linkPs u ++ [34]) ++ altT = l ++ imgO u := by simp [imgO]
  rw [e1] at hB
  obtain ⟨bq, bcap, blr, BM, rfl, hBy, hcap⟩ := hB
  refine bufLen_ok h (by simp; omega) fun w h => ⟨_, rfl, ?_⟩
  have hB : Buf bb (l ++ imgO u) (bufC bb bq (l ++ imgO u).length bcap blr :: BM) := ⟨bq, bcap, blr, BM, rfl, hBy, hcap⟩
  have h : Sat σ w ((bufC bb bq (l ++ imgO u).length bcap blr :: BM) ++ ((b, cel (.slice q n c :: .string (bs u) :: .string (bs t) :: cs) e) :: (RM ++ KM) ++ L)) := h
  generalize (bufC bb bq (l ++ imgO u).length bcap blr :: BM) = M at h hB
  refine nilP_some ⟨_, _, _, Sat.ld h (i := 0) hmem rfl, ?_⟩
  intro X hX
  have h : Sat σ w (M ++ (RM ++ (KM ++ ((b, cel (.slice q n c :: .string (bs u) :: .string (bs t) :: cs) e) :: L)))) := h.re (by intro _; simp only [List.append_eq, cnt_append, cnt_cons, cnt_nil] <;> omega)
  refine printLoop (X := fun j w => X (some ⟨b, 0, none⟩) (some ⟨bb, 0, none⟩) ((l ++ imgO u).length : Nat) q n c (n : Int) j w) (END := fun w => callE P i_bytes_Buffer_Bytes #[.pointer (some ⟨bb, 0, none⟩)] (fun e w21 => ∃ (r20q : Option Addr), ∃ (r20n : Nat), ∃ (r20c : Nat), e = .returned (.slice r20q r20n r20c) ∧ g_Image_PrintHTML.l2 R (some ⟨b, 0, none⟩) (some ⟨bb, 0, none⟩) ((l ++ imgO u).length : Nat) r20q r20n r20c w21) w) hS (fun j w hj => hX _ _ _ _ _ _ _ _ _ hj) hP hB h hn (by show ((l ++ imgO u) ++ alt).length ≤ _; simp only [List.length_append]; omega) fun w M' hB h => ?_
  have hB : Buf bb ((l ++ imgO u) ++ alt) M' := hB
  obtain ⟨aq, acap, alr, AM, rfl, hAy, hcap⟩ := hB
  refine g_bytes_Buffer_Bytes.sound ?_
  have hsl := hAy.2.1
  refine Sat.tk h fun w h => ?_
  refine nilP_some (nilP_some ?_)
  refine ⟨_, _, _, Sat.ld h (by first | assumption | (repeat (first | exact .head _ | apply List.Mem.tail))) (by exact rfl), ?_⟩
  refine ⟨_, Sat.ld h (.head _) rfl, _, _, _, fun w => sliceF rowU8.ht rowU8.hi aq _ acap 0 (Nat.zero_le _) w, _, _, _, rfl, ?_⟩
  have eq0 : (if acap = 0 then aq else aq.map (·.add (0 * rowU8.i.size))) = aq := by
    split
    · rfl
    · cases aq <;> simp [Addr.add]
  rw [eq0, Nat.sub_zero, Nat.sub_zero]
  intro Y hY
  have fin : ∀ w, Sat σ w ((bufC bb aq ((l ++ imgO u) ++ alt).length acap alr :: AM) ++ (RM ++ (KM' ++ ((b, cel (.slice q n c :: .string (bs u) :: .string (bs t) :: cs) e) :: L)))) →
      Y (some ⟨b, 0, none⟩) (some ⟨bb, 0, none⟩) (((l ++ imgO u) ++ alt).length : Nat) aq ((l ++ imgO u) ++ alt).length acap w := by
    intro w h
    refine hY _ _ _ _ _ _ _ (br_false (by simp) ?_)
    have hB : Buf bb ((l ++ imgO u) ++ alt) (bufC bb aq ((l ++ imgO u) ++ alt).length acap alr :: AM) := ⟨aq, acap, alr, AM, rfl, hAy, hcap⟩
    have hle : ((l ++ imgO u) ++ alt).length = l.length + (imgO u).length + alt.length := by simp; omega
    generalize (bufC bb aq ((l ++ imgO u) ++ alt).length acap alr :: AM) = M at h hB
    have h : Sat σ w (M ++ ((b, cel (.slice q n c :: .string (bs u) :: .string (bs t) :: cs) e) :: (RM ++ (KM' ++ L)))) := h.re (by intro _; simp only [List.append_eq, cnt_append, cnt_cons, cnt_nil] <;> omega)
    refine writeS_ok (s := [34]) hB h (by simp only [List.length_append, List.length_cons, List.length_nil]; omega) fun w M hB h => ⟨_, _, rfl, ?_⟩
    have hmem : ∀ {M : List Chunk}, (b, cel (.slice q n c :: .string (bs u) :: .string (bs t) :: cs) e) ∈ M ++ ((b, cel (.slice q n c :: .string (bs u) :: .string (bs t) :: cs) e) :: (RM ++ (KM' ++ L))) := List.mem_append_right _ (.head _)
    refine nilP_some ⟨_, Sat.ld h (i := 2) hmem rfl, ?_⟩
    by_cases ht0 : t = []
    · refine br_false (by rw [ht0, bs_toList, mk_toList]; rfl) ?_
      refine writeS_ok (s := imgE) hB h (by simp only [List.length_append, List.length_cons, List.length_nil, show imgE.length = 3 from rfl]; omega) fun w M hB h => ⟨_, _, rfl, ?_⟩
      have ef : l ++ imgO u ++ alt ++ [34] ++ imgE = ab (imgO u ++ alt ++ imgC t) l := by simp [ab, imgC, ht0]
      rw [ef] at hB
      exact hR w M hB (h.re (by intro _; simp only [List.append_eq, cnt_append, cnt_cons, cnt_nil] <;> omega))
    · refine br_true (by rw [bs_toList, mk_toList]; simpa using ht0) ?_
      rw [if_neg ht0] at hlC
      simp only [List.length_append, List.length_cons, List.length_nil] at hlC
      refine Sat.tk h fun w h => ?_
      refine nilP_some ⟨_, Sat.ld h (i := 2) hmem rfl, ?_⟩
      have h0 := h
      refine htmlQuoteEscaper_ok h fun w eb h => ⟨_, _, _, rfl, h0.same h hmem (.tail _ hmem) 1, ?_⟩
      refine pairsReplace_ok (ps := htmlPs) h (.head _) (by decide) (by decide) (by omega) fun w h => ⟨_, rfl, ?_⟩
      rw [show ByteArray.mk #[32, 116, 105, 116, 108, 101, 61, 34] = bs tAttr from rfl, show ByteArray.mk #[34] = bs [34] from rfl, bs_append, bs_append]
      refine ⟨by rw [hmax]; simp [tAttr]; omega, by rw [hmax]; simp [tAttr]; omega, ?_⟩
      have h : Sat σ w (M ++ ((b, cel (.slice q n c :: .string (bs u) :: .string (bs t) :: cs) e) :: (RM ++ (KM' ++ L)))) := h.tail
      refine writeS_ok hB h (by simp only [List.length_append, List.length_cons, List.length_nil]; omega) fun w M hB h => ⟨_, _, rfl, ?_⟩
      refine writeS_ok (s := imgE) hB h (by simp only [List.length_append, List.length_cons, List.length_nil, show imgE.length = 3 from rfl]; omega) fun w M hB h => ⟨_, _, rfl, ?_⟩
      have ef : l ++ imgO u ++ alt ++ [34] ++ (tAttr ++ escS htmlPs t ++ [34]) ++ imgE = ab (imgO u ++ alt ++ imgC t) l := by simp [ab, imgC, ht0]
      rw [ef] at hB
      exact hR w M hB (h.re (by intro _; simp only [List.append_eq, cnt_append, cnt_cons, cnt_nil] <;> omega))
  have key : ∀ k m, m + k = alt.length → Y (some ⟨b, 0, none⟩) (some ⟨bb, 0, none⟩) (((l ++ imgO u).length + m : Nat) : Int) aq ((l ++ imgO u) ++ alt).length acap w := by
    intro k
    induction k with
    | zero =>
      intro m hm
      have e : ((l ++ imgO u) ++ alt).length = (l ++ imgO u).length + m := by
        have e1 : ((l ++ imgO u) ++ alt).length = (l ++ imgO u).length + alt.length := List.length_append
        omega
      rw [← e]; exact fin w h
    | succ k ih =>
      intro m hm
      have hml : m < alt.length := by omega
      have hll : ((l ++ imgO u) ++ alt).length = (l ++ imgO u).length + alt.length := List.length_append
      have hgl : ((l ++ imgO u) ++ alt)[(l ++ imgO u).length + m]'(by omega) = alt[m] := by rw [List.getElem_append_right (by omega)]; congr 1; omega
      refine hY _ _ _ _ _ _ _ (br_true (by simp; omega) ⟨by omega, by simp; omega, ?_⟩)
      have h' : Sat σ w (AM ++ (bufC bb aq ((l ++ imgO u) ++ alt).length acap alr :: (RM ++ (KM' ++ ((b, cel (.slice q n c :: .string (bs u) :: .string (bs t) :: cs) e) :: L))))) := h.re (by intro _; simp only [List.append_eq, cnt_append, cnt_cons, cnt_nil] <;> omega)
      refine Sl.loadAt hAy h' (j := (l ++ imgO u).length + m) (v := .int .u8 (alt[m].toNat : Int)) (by rw [bc_get (by omega), hgl]) fun rb hq hc => ?_
      simp only [Addr.add_lit, Int.toNat_natCast, Nat.mul_one, Nat.zero_add]
      refine ⟨_, hc, br_false ?_ ?_⟩
      · have hne : alt[m] ≠ 10 := fun h => h10 (h ▸ List.getElem_mem hml)
        rw [u8b _ 10 10 rfl]; simpa using hne
      rw [i64_inc (by simp only [List.length_append] at *; omega), Nat.add_assoc]
      exact ih (m + 1) (by omega)
  have := key alt.length 0 (by omega)
  rw [Nat.add_zero] at this
  exact this
end Go.Proofs.YtmicoampfglaiaaGreatDoor


/- What FnLink's law writes and expects: EscapeURL, pointed, quotation; texts that begin with a label. -/
set_option linter.unusedVariables false
namespace Go.Proofs.YtmicoampfglaiaaGreatDoor
open Go.Proofs Go.IntWalk Go.RowKit
variable {σ : Out} {w : World} {L L' : List Chunk} {R : Ending → World → Prop}
theorem trimSTN_self {s : List UInt8} (hs : s.length < 4611686018427387904) (h0 : s ≠ []) (h1 : isSTN (s.getD 0 0) = false) (h2 : isSTN (s.getD (s.length - 1) 0) = false) (hR : R (.returned (.string (bs s))) w) : callE P i_trimSpaceTabNewline #[.string (bs s)] R w := by
  have hp := List.length_pos_iff.2 h0
  have nn : ∀ c : UInt8, isSTN c = false → ((((c.toNat : Int) == 32) || ((c.toNat : Int) == 9)) || ((c.toNat : Int) == 10)) = false := by
    intro c hc
    have a := u8_beq c 32; have b := u8_beq c 9; have d := u8_beq c 10
    rw [show ((c.toNat : Int) == 32) = (c == 32) from a, show ((c.toNat : Int) == 9) = (c == 9) from b, show ((c.toNat : Int) == 10) = (c == 10) from d]
    exact hc
  refine g_trimSpaceTabNewline.sound ?_
  intro X hX
  refine hX _ _ _ ⟨fun _ => ⟨by omega, by simp; omega⟩, fun _ => ⟨by omega, by simp; omega⟩, fun _ => ⟨by omega, by simp; omega⟩, ?_⟩
  rw [show (0 : Int) = ((0 : Nat) : Int) from rfl, bs_bt, nn _ h1]
  refine br_false (Bool.and_false _) ⟨by omega, by simp, ?_⟩
  rw [Int.toNat_natCast, bs_extract, bs_size, List.take_length, List.drop_zero, bs_size]
  intro Y hY
  have e1 : IntKind.i64.wrap ((s.length : Int) - 1) = ((s.length - 1 : Nat) : Int) := by rw [show ((s.length : Int) - 1) = ((s.length - 1 : Nat) : Int) by omega, i64_in _ (by omega)]
  refine hY _ _ _ ?_
  unfold g_trimSpaceTabNewline.bl2
  rw [e1, bs_bt, nn _ h2]
  refine ⟨fun _ => ⟨by omega, by simp; omega⟩, fun _ => ⟨by omega, by simp; omega⟩, fun _ => ⟨by omega, by simp; omega⟩, br_false (Bool.and_false _) ⟨by omega, by simp, ?_⟩⟩
  rw [Int.toNat_natCast, bs_extract, List.take_length, List.drop_zero]
  exact hR
/-- A label, and behind it no colon. -/
theorem noRef_label {c d : UInt8} {s : List UInt8} (hl : s.length < 1000000) (h93 : c ≠ 93) (h91 : c ≠ 91) (h92 : c ≠ 92) (hst : isSTN c = false) (hd : d ≠ 58) : NoRef (91 :: c :: 93 :: d :: s) := by
  intro R w q hR
  have nb : ∀ e : UInt8, c ≠ e → ((c.toNat : Int) == (e.toNat : Int)) = false := fun e he => by rw [u8_beq]; simpa using he
  refine g_parseLinkRefDef.sound ?_
  have hp : pastSTN (91 :: c :: 93 :: d :: s) 0 = 0 := by
    unfold pastSTN; rw [List.drop_zero, List.dropWhile_cons_of_neg (by decide)]; simp
  refine skipSp_ok (i := 0) (by simp; omega) (Nat.zero_le _) ⟨_, rfl, q, w, ta_ps q w, ?_⟩
  rw [hp]
  have b0 : bt (bs (91 :: c :: 93 :: d :: s)) ((0 : Nat) : Int) = 91 := by rw [bs_bt]; rfl
  have b1 : bt (bs (91 :: c :: 93 :: d :: s)) ((1 : Nat) : Int) = (c.toNat : Int) := by rw [bs_bt]; rfl
  have b2 : bt (bs (91 :: c :: 93 :: d :: s)) ((2 : Nat) : Int) = 93 := by rw [bs_bt]; rfl
  have b3 : bt (bs (91 :: c :: 93 :: d :: s)) ((3 : Nat) : Int) = (d.toNat : Int) := by rw [bs_bt]; rfl
  refine g_parseLinkLabel.sound ?_
  refine ⟨fun _ => ⟨by decide, by simp; omega⟩, br_false (by rw [b0]; simp; omega) ?_⟩
  unfold g_parseLinkLabel.k1
  rw [show IntKind.i64.wrap (((0 : Nat) : Int) + 1) = ((1 : Nat) : Int) from rfl]
  intro X hX
  refine hX _ _ _ _ _ (br_true (by simp; omega) ⟨by decide, by simp; omega, ?_⟩)
  rw [b1]
  refine br_false (nb 93 h93) ⟨by decide, by simp; omega, ?_⟩
  refine br_false (nb 91 h91) ⟨by decide, by simp; omega, ?_⟩
  rw [show ((c.toNat : Int) == 92) = false from nb 92 h92]
  refine br_false rfl ?_
  rw [show IntKind.i64.wrap (((1 : Nat) : Int) + 1) = ((2 : Nat) : Int) from rfl]
  refine hX _ _ _ _ _ (br_true (by simp; omega) ⟨by decide, by simp; omega, ?_⟩)
  rw [b2]
  refine br_true rfl (br_false rfl ⟨by decide, by decide, by simp; omega, ?_⟩)
  have e : (bs (91 :: c :: 93 :: d :: s)).extract (Int.toNat (IntKind.i64.wrap (((0 : Nat) : Int) + 1))) (Int.toNat ((2 : Nat) : Int)) = bs [c] := by
    rw [show Int.toNat (IntKind.i64.wrap (((0 : Nat) : Int) + 1)) = 1 from rfl, show Int.toNat ((2 : Nat) : Int) = 2 from rfl, bs_extract]; rfl
  rw [e]
  refine trimSTN_self (by show 1 < _; decide) (by simp) (by simpa using hst) (by simpa using hst) ⟨_, rfl, br_true (by rw [bs_toList, mk_toList]; rfl) ⟨_, _, _, rfl, ?_⟩⟩
  rw [show IntKind.i64.wrap (((2 : Nat) : Int) + 1) = ((3 : Nat) : Int) from rfl, b3]
  refine ⟨fun _ => ⟨by decide, by simp; omega⟩, br_true ?_ hR⟩
  rw [show ((d.toNat : Int) != 58) = true from by rw [bne, show ((d.toNat : Int) == 58) = (d == 58) from u8_beq d 58]; simpa using hd]
  simp
/-! ### EscapeURL -/
def safeL : List UInt8 := [45, 95, 46, 43, 33, 42, 39, 40, 41, 44, 37, 35, 64, 63, 61, 59, 58, 47, 38, 36, 126, 124]
def safeB (c : UInt8) : Bool := (((decide (97 ≤ c.toNat)) && decide (c.toNat ≤ 122)) || (decide (65 ≤ c.toNat) && decide (c.toNat ≤ 90))) || (decide (48 ≤ c.toNat) && decide (c.toNat ≤ 57)) || safeL.any (fun d => d == c)
theorem isSafe_ok {c : UInt8} (hR : R (.returned (.bool (safeB c))) w) : callE P i_spec_isSafe #[.int .u8 (c.toNat : Int)] R w := by
  refine g_spec_isSafe.sound ?_
  refine g_spec_IsLetter.sound ⟨_, rfl, ?_⟩
  have e1 : (((decide (((c.toNat : Nat) : Int) ≥ 97)) && (decide (((c.toNat : Nat) : Int) ≤ 122))) || ((decide (((c.toNat : Nat) : Int) ≥ 65)) && (decide (((c.toNat : Nat) : Int) ≤ 90)))) = (((decide (97 ≤ c.toNat)) && decide (c.toNat ≤ 122)) || (decide (65 ≤ c.toNat) && decide (c.toNat ≤ 90))) := by
    have a : decide (((c.toNat : Nat) : Int) ≥ 97) = decide (97 ≤ c.toNat) := by rw [decide_eq_decide]; omega
    have b : decide (((c.toNat : Nat) : Int) ≤ 122) = decide (c.toNat ≤ 122) := by rw [decide_eq_decide]; omega
    have d : decide (((c.toNat : Nat) : Int) ≥ 65) = decide (65 ≤ c.toNat) := by rw [decide_eq_decide]; omega
    have e : decide (((c.toNat : Nat) : Int) ≤ 90) = decide (c.toNat ≤ 90) := by rw [decide_eq_decide]; omega
    rw [a, b, d, e]
  have e2 : ((decide (((c.toNat : Nat) : Int) ≥ 48)) && (decide (((c.toNat : Nat) : Int) ≤ 57))) = (decide (48 ≤ c.toNat) && decide (c.toNat ≤ 57)) := by
    have a : decide (((c.toNat : Nat) : Int) ≥ 48) = decide (48 ≤ c.toNat) := by rw [decide_eq_decide]; omega
    have b : decide (((c.toNat : Nat) : Int) ≤ 57) = decide (c.toNat ≤ 57) := by rw [decide_eq_decide]; omega
    rw [a, b]
  rw [e1]
  refine br_split (fun h1 => ?_) (fun h1 => ?_)
  · have : safeB c = true := by unfold safeB; rw [h1]; rfl
    rw [← this]; exact hR
  refine g_spec_IsDigit.sound ⟨_, rfl, ?_⟩
  rw [e2]
  refine br_split (fun h2 => ?_) (fun h2 => ?_)
  · have : safeB c = true := by unfold safeB; rw [h2]; simp
    rw [← this]; exact hR
  have hs : safeB c = safeL.any (fun d => d == c) := by unfold safeB; rw [h1, h2]; rfl
  rw [hs] at hR
  intro X hX
  have key : ∀ k m, m + k = 22 → R (.returned (.bool ((safeL.drop m).any (fun d => d == c)))) w → X (c.toNat : Int) (m : Int) w := by
    intro k
    induction k with
    | zero =>
      intro m hm hr
      obtain rfl : m = 22 := hm
      exact hX _ _ _ (br_false rfl hr)
    | succ k ih =>
      intro m hm hr
      have hml : m < safeL.length := by show m < 22; omega
      refine hX _ _ _ (br_true (by simp; omega) ⟨by omega, by show (m : Int) < 22; omega, ?_⟩)
      rw [show ByteArray.mk #[45, 95, 46, 43, 33, 42, 39, 40, 41, 44, 37, 35, 64, 63, 61, 59, 58, 47, 38, 36, 126, 124] = bs safeL from rfl, bt_at hml]
      have e : (((safeL[m].toNat : Nat) : Int) == ((c.toNat : Nat) : Int)) = (safeL[m] == c) := u8_beq _ _
      rw [e]
      rw [List.drop_eq_getElem_cons hml, List.any_cons] at hr
      refine br_split (fun h3 => ?_) (fun h3 => ?_)
      · rw [h3, Bool.true_or] at hr; exact hr
      · rw [h3, Bool.false_or] at hr
        rw [i64_inc (by omega)]
        exact ih (m + 1) (by omega) hr
  exact key 22 0 rfl hR
def unsafeL : List UInt8 := [32, 34, 60, 62, 91, 92, 93, 94, 96, 123, 125]
theorem url_all : ((List.range 256).all fun n => !prB (UInt8.ofNat n) || (UInt8.ofNat n == 38) || (safeB (UInt8.ofNat n) && (escB linkPs (UInt8.ofNat n) == [UInt8.ofNat n])) || (!safeB (UInt8.ofNat n) && unsafeL.any (fun d => d == UInt8.ofNat n))) = true := by decide +kernel
theorem url_cases {c : UInt8} (h : prB c = true) : c = 38 ∨ (safeB c = true ∧ escB linkPs c = [c]) ∨ (safeB c = false ∧ c ∈ unsafeL) := by
  have := List.all_eq_true.1 url_all c.toNat (List.mem_range.2 c.toNat_lt)
  rw [UInt8.ofNat_toNat, h] at this
  simp only [Bool.not_true, Bool.false_or, Bool.or_eq_true, beq_iff_eq, Bool.and_eq_true, Bool.not_eq_true', List.any_eq_true] at this
  rcases this with (h | ⟨h1, h2⟩) | ⟨h1, d, h2, h3⟩
  · exact .inl h
  · exact .inr (.inl ⟨h1, h2⟩)
  · exact .inr (.inr ⟨h1, h3 ▸ h2⟩)
theorem escURL_ok {s : List UInt8} (hs : s.length < 100000) (hp : s.all prB = true) (h : Sat σ w L) (hR : ∀ w, Sat σ w L → R (.returned (.string (bs (escS linkPs s)))) w) : callE P i_spec_EscapeURL #[.string (bs s)] R w := by
  refine g_spec_EscapeURL.sound ?_
  intro X hX
  have hmax : IntKind.i64.max = 9223372036854775807 := rfl
  have key : ∀ k i w, i + k = s.length → Sat σ w L → X (bs s) (bs (escS linkPs (s.take i))) (i : Int) w := by
    intro k
    induction k with
    | zero =>
      intro i w hi h
      refine hX _ _ _ _ (br_false (by simp; omega) ?_)
      rw [List.take_of_length_le (by omega)]; exact hR w h
    | succ k ih =>
      intro i w hi h
      have hil : i < s.length := by omega
      have hlen := escS_length linkPs8 (s.take i)
      rw [List.length_take] at hlen
      have hst : escS linkPs (s.take (i + 1)) = escS linkPs (s.take i) ++ escB linkPs s[i] := by
        rw [List.take_succ_eq_append_getElem hil, escS_append]; simp [escS]
      have next := fun w h => ih (i + 1) w (by omega) h
      rw [hst] at next
      refine hX _ _ _ _ (br_true (by simp; omega) ⟨by omega, by simp; omega, ?_⟩)
      rw [bt_at hil, i64_inc (by omega)]
      have hpr : prB s[i] = true := List.all_eq_true.1 hp _ (List.getElem_mem hil)
      generalize escS linkPs (s.take i) = acc at hlen next ⊢
      rcases url_cases hpr with hc | ⟨hc, he⟩ | ⟨hc, hm⟩
      · rw [show ByteArray.mk #[38, 97, 109, 112, 59] = bs [38, 97, 109, 112, 59] from rfl]
        rw [hc, show escB linkPs 38 = [38, 97, 109, 112, 59] from by decide] at next
        refine br_true (by rw [hc]; rfl) ⟨by rw [hmax]; simp; omega, ?_⟩
        rw [bs_append]; exact next w h
      · have e1 : (s.take (i + 1)).drop i = [s[i]] := by
          rw [List.take_succ_eq_append_getElem hil, List.drop_append_of_le_length (by rw [List.length_take]; omega), List.drop_eq_nil_of_le (by rw [List.length_take]; omega)]; rfl
        rw [he] at next
        refine br_split (fun h38 => ?_) (fun _ => ⟨by omega, by simp; omega, ?_⟩)
        · have h38' : s[i] = 38 := by rw [u8b _ 38 38 rfl] at h38; simpa using h38
          rw [h38', show escB linkPs 38 = [38, 97, 109, 112, 59] from by decide] at he
          cases he
        refine isSafe_ok ⟨_, rfl, br_true hc ?_⟩
        rw [Int.toNat_natCast, Int.toNat_natCast, bs_extract, e1, bs_append]
        exact ⟨by omega, by omega, by simp; omega, by rw [hmax]; simp; omega, next w h⟩
      · have hne : s[i] ≠ 38 := by intro h; rw [h] at hm; exact absurd hm (by decide)
        refine br_false (by rw [u8b _ 38 38 rfl]; simpa using hne) ⟨by omega, by simp; omega, ?_⟩
        refine isSafe_ok ⟨_, rfl, br_false hc ?_⟩
        refine h.tk fun w h => ?_
        rw [show ByteArray.mk #[37] = bs [37] from rfl, show ByteArray.mk #[48, 49, 50, 51, 52, 53, 54, 55, 56, 57, 65, 66, 67, 68, 69, 70] = bs [48, 49, 50, 51, 52, 53, 54, 55, 56, 57, 65, 66, 67, 68, 69, 70] from rfl]
        simp only [unsafeL, List.mem_cons, List.mem_nil_iff, or_false] at hm
        rcases hm with hm | hm | hm | hm | hm | hm | hm | hm | hm | hm | hm <;>
        · rw [hm] at next ⊢
          refine ⟨by rw [hmax]; simp; omega, by omega, by simp; omega, by decide, by omega, by simp; omega, by decide, by decide, by decide, by decide, ?_⟩
          refine ⟨by rw [hmax, bs_append, bs_extract]; simp; omega, by omega, by simp; omega, by decide, by omega, by simp; omega, by decide, by decide, by decide, by decide, ?_⟩
          refine ⟨by rw [hmax, bs_append, bs_extract, bs_append, bs_extract]; simp; omega, ?_⟩
          rw [bs_extract, bs_extract, bs_append, bs_append, bs_append]
          have := next w h
          rw [List.append_assoc, List.append_assoc]
          exact this
  exact key s.length 0 w (by omega) h
end Go.Proofs.YtmicoampfglaiaaGreatDoor


/- FnLink: the law's walk. -/
set_option linter.unusedVariables false
namespace Go.Proofs.YtmicoampfglaiaaGreatDoor
open Go.Proofs Go.IntWalk Go.RowKit
variable {σ : Out} {w : World} {L L' : List Chunk} {R : Ending → World → Prop}
def pnt (c : UInt8) : List UInt8 := if c = 60 ∨ c = 62 ∨ c = 92 then [92, c] else if c = 38 then ampT else [c]
def qot (c : UInt8) : List UInt8 := if c = 34 then [92, 34] else [c]
def qnt (c : UInt8) : List UInt8 := if c = 34 then [92, 34] else pnt c
theorem pnt_cases (c : UInt8) : ((c = 60 ∨ c = 62 ∨ c = 92) ∧ pnt c = [92, c]) ∨ (c = 38 ∧ pnt c = ampT) ∨ (c ≠ 60 ∧ c ≠ 62 ∧ c ≠ 92 ∧ c ≠ 38 ∧ pnt c = [c]) := by
  by_cases h1 : c = 60 ∨ c = 62 ∨ c = 92
  · exact .inl ⟨h1, by unfold pnt; rw [if_pos h1]⟩
  · by_cases h2 : c = 38
    · exact .inr (.inl ⟨h2, by unfold pnt; rw [if_neg h1, if_pos h2]⟩)
    · simp only [not_or] at h1
      exact .inr (.inr ⟨h1.1, h1.2.1, h1.2.2, h2, by unfold pnt; rw [if_neg (by simp [h1]), if_neg h2]⟩)
theorem tokD_pnt {c : UInt8} (h : prB c = true) : TokD pnt c := by
  rcases pnt_cases c with ⟨h1, e⟩ | ⟨h1, e⟩ | ⟨h1, h2, h3, h4, e⟩
  · exact ⟨.inl ⟨e, by rcases h1 with rfl | rfl | rfl <;> decide⟩, fun e2 => by rw [e] at e2; simp at e2⟩
  · exact ⟨.inr (.inl ⟨h1, e⟩), fun e2 => by rw [e] at e2; simp [ampT] at e2⟩
  · exact ⟨.inr (.inr ⟨e, h3, h4⟩), fun _ => ⟨by rintro rfl; revert h; decide, h1, h2⟩⟩
theorem tokT_qnt {c : UInt8} : TokT qnt c := by
  by_cases hq : c = 34
  · subst hq
    exact ⟨.inl ⟨rfl, by decide⟩, fun e2 => by simp [qnt] at e2⟩
  · have e0 : qnt c = pnt c := by unfold qnt; rw [if_neg hq]
    rcases pnt_cases c with ⟨h1, e⟩ | ⟨h1, e⟩ | ⟨h1, h2, h3, h4, e⟩
    · exact ⟨.inl ⟨e0.trans e, by rcases h1 with rfl | rfl | rfl <;> decide⟩, fun _ => hq⟩
    · exact ⟨.inr (.inl ⟨h1, e0.trans e⟩), fun _ => hq⟩
    · exact ⟨.inr (.inr ⟨e0.trans e, h3, h4⟩), fun _ => hq⟩
theorem qot_pnt (c : UInt8) : tkS qot (pnt c) = qnt c := by
  by_cases hq : c = 34
  · subst hq; rfl
  · have e0 : qnt c = pnt c := by unfold qnt; rw [if_neg hq]
    rw [e0]
    have q1 : ∀ d : UInt8, d ≠ 34 → qot d = [d] := fun d hd => by unfold qot; rw [if_neg hd]
    rcases pnt_cases c with ⟨h1, e⟩ | ⟨h1, e⟩ | ⟨h1, h2, h3, h4, e⟩
    · rw [e, tkS_cons, tkS_cons, q1 92 (by decide), q1 c hq]; rfl
    · rw [e]; decide
    · rw [e, tkS_cons, q1 c hq]; rfl
theorem qot_all (s : List UInt8) : tkS qot (tkS pnt s) = tkS qnt s := by
  induction s with
  | nil => rfl
  | cons c s ih => rw [tkS_cons, tkS_append, ih, qot_pnt, tkS_cons]
theorem pnt_len (s : List UInt8) : (tkS pnt s).length ≤ 5 * s.length := by
  induction s with
  | nil => simp
  | cons c s ih =>
    have : (pnt c).length ≤ 5 := by rcases pnt_cases c with ⟨_, e⟩ | ⟨_, e⟩ | ⟨_, _, _, _, e⟩ <;> rw [e] <;> simp [ampT]
    rw [tkS_cons, List.length_append, List.length_cons]; omega
theorem qnt_len (s : List UInt8) : (tkS qnt s).length ≤ 5 * s.length := by
  induction s with
  | nil => simp
  | cons c s ih =>
    have : (qnt c).length ≤ 5 := by
      unfold qnt; split
      · decide
      · rcases pnt_cases c with ⟨_, e⟩ | ⟨_, e⟩ | ⟨_, _, _, _, e⟩ <;> rw [e] <;> simp [ampT]
    rw [tkS_cons, List.length_append, List.length_cons]; omega
def pointT (s : List UInt8) : List UInt8 := 60 :: (tkS pnt s ++ [62])
theorem pointed_ok {s : List UInt8} (hs : s.length < 100000) (h : Sat σ w L) (hR : ∀ w, Sat σ w L → R (.returned (.string (bs (pointT s)))) w) : callE P i_laws_pointed #[.string (bs s)] R w := by
  refine g_laws_pointed.sound ?_
  refine Sat.bx h fun b w h => ?_
  refine bldB_ok (k := 60) (bldNew b) h (by simp) fun w M hB h => ⟨_, rfl, ?_⟩
  rw [bs_size]
  intro X hX
  have key : ∀ k i M w, i + k = s.length → Bld b true (60 :: tkS pnt (s.take i)) M → Sat σ w (M ++ L) → X (bs s) b (s.length : Int) (i : Int) w := by
    intro k
    induction k with
    | zero =>
      intro i M w hi hB h
      have hpl := pnt_len s
      rw [List.take_of_length_le (by omega)] at hB
      refine hX _ _ _ _ _ (br_false (by simp; omega) ?_)
      refine bldB_ok (k := 62) hB h (by simp; omega) fun w M hB h => ⟨_, rfl, ?_⟩
      exact bldStr_ok hB h (by simp; omega) fun w h => ⟨_, rfl, hR w h⟩
    | succ k ih =>
      intro i M w hi hB h
      have hil : i < s.length := by omega
      have hpl := pnt_len (s.take i)
      rw [List.length_take] at hpl
      have hst : tkS pnt (s.take (i + 1)) = tkS pnt (s.take i) ++ pnt s[i] := by rw [List.take_succ_eq_append_getElem hil, tkS_append]; simp
      have ih' := fun M w => ih (i + 1) M w (by omega)
      rw [hst] at ih'
      refine hX _ _ _ _ _ (br_true (by simp; omega) ⟨by omega, by simp; omega, ?_⟩)
      rw [bt_at hil]
      have nb : ∀ d : UInt8, s[i] ≠ d → ((s[i].toNat : Int) == (d.toNat : Int)) = false := fun d hd => by rw [u8_beq]; simpa using hd
      have kT : pnt s[i] = [92, s[i]] → g_laws_pointed.k1 R X (bs s) b (i : Int) (s.length : Int) (i : Int) (s[i].toNat : Int) true w := by
        intro e
        rw [e] at ih'
        refine br_true rfl ?_
        refine bldB_ok (k := 92) hB h (by simp; omega) fun w M hB h => ⟨_, rfl, by omega, by simp; omega, ?_⟩
        rw [bt_at hil]
        refine bldB_ok (k := s[i]) hB h (by simp; omega) fun w M hB h => ⟨_, rfl, ?_⟩
        rw [i64_inc (by omega)]
        exact ih' M w (by simpa using hB) h
      rcases pnt_cases s[i] with ⟨h1, e⟩ | ⟨h1, e⟩ | ⟨h1, h2, h3, h4, e⟩
      · rcases h1 with h1 | h1 | h1
        · exact br_true (by rw [h1]; rfl) (kT e)
        · exact br_false (nb 60 (by rw [h1]; decide)) (br_true (by rw [h1]; rfl) (kT e))
        · refine br_false (nb 60 (by rw [h1]; decide)) (br_false (nb 62 (by rw [h1]; decide)) ?_)
          rw [show ((s[i].toNat : Int) == 92) = true from by rw [h1]; rfl]
          exact kT e
      · refine br_false (nb 60 (by rw [h1]; decide)) (br_false (nb 62 (by rw [h1]; decide)) ?_)
        rw [show ((s[i].toNat : Int) == 92) = false from nb 92 (by rw [h1]; decide)]
        refine br_false rfl (br_true (by rw [h1]; rfl) ?_)
        rw [e] at ih'
        refine bldS_ok (s := ampT) hB h (.inl (by simp [ampT])) (by simp [ampT]; omega) fun w M hB h => ⟨_, _, rfl, ?_⟩
        rw [i64_inc (by omega)]
        exact ih' M w (by simpa using hB) h
      · refine br_false (nb 60 h1) (br_false (nb 62 h2) ?_)
        rw [show ((s[i].toNat : Int) == 92) = false from nb 92 h3]
        refine br_false rfl (br_false (nb 38 h4) ⟨by omega, by simp; omega, ?_⟩)
        rw [bt_at hil]
        rw [e] at ih'
        refine bldB_ok (k := s[i]) hB h (by simp; omega) fun w M hB h => ⟨_, rfl, ?_⟩
        rw [i64_inc (by omega)]
        exact ih' M w (by simpa using hB) h
  exact key s.length 0 M w (by omega) (by simpa using hB) h
/-- What holds of the destination and the title. -/
structure LinkP (D T : List UInt8) : Prop where
  dl : D.length ≤ 60
  dp : D.all prB = true
  tl : T.length ≤ 60
  tp : T.all prB = true
  t0 : T ≠ []
def linkT (P : List UInt8) (D T : List UInt8) : List UInt8 := P ++ 93 :: 40 :: destT pnt qnt D T
theorem linkT_len {P D T : List UInt8} (hP : LinkP D T) : (linkT P D T).length ≤ P.length + 700 := by
  have h1 := pnt_len D; have h2 := qnt_len T; have h3 := hP.dl; have h4 := hP.tl
  simp [linkT, destT]; omega
theorem linkT_trim {p : UInt8} {P D T : List UInt8} (hp : isST p = false) : trimLR isST (linkT (p :: P) D T) = linkT (p :: P) D T ∧ (linkT (p :: P) D T).dropWhile isST = linkT (p :: P) D T := by
  have e1 : (linkT (p :: P) D T).dropWhile isST = linkT (p :: P) D T := by unfold linkT; rw [List.cons_append, List.dropWhile_cons_of_neg (by rw [hp]; decide)]
  refine ⟨?_, e1⟩
  unfold trimLR trimR
  rw [e1]
  have e2 : linkT (p :: P) D T = (p :: P ++ 93 :: 40 :: 60 :: (tkS pnt D ++ 62 :: 32 :: 34 :: (tkS qnt T ++ [34]))) ++ [41] := by simp [linkT, destT]
  rw [e2, List.reverse_append, List.reverse_singleton, List.singleton_append, List.dropWhile_cons_of_neg (by decide)]
  simp
theorem linkT_close {P D T t : List UInt8} {b k : Nat} {p : PS} {ec : Chunk} (hE : EntC ec) (hP : LinkP D T) (hl : P.length < 100) : CloseOK b p (linkT P D T) P.length t k [ec] D T 34 false (linkT P D T).length :=
  close_full hE (fun c hc => tokD_pnt (List.all_eq_true.1 hP.dp c hc)) (fun c _ => tokT_qnt) hP.t0 (by have := linkT_len (P := P) hP; show (linkT P D T).length < _; omega)
theorem one_noRun {t : Inl} (h : noRun t = true) : ∀ x ∈ [t], noRun x = true := by intro x hx; simp at hx; subst hx; exact h
theorem link_inline {o : Opt} {D T : List UInt8} {ec : Chunk} (hE : EntC ec) (hoff : o.auto = false) (hP : LinkP D T) : InlineOKL [ec] o (linkT [91, 116] D T) (ab (linkO D T ++ [116] ++ aEnd)) := by
  intro σ R b pb p L w hL0 h hpz ho hlk hR
  have hlen := linkT_len (P := [91, 116]) hP
  simp only [List.length_cons, List.length_nil] at hlen
  have htr := (linkT_trim (p := 91) (P := [116]) (D := D) (T := T) (by decide)).1
  refine inl_begin h (by omega) fun w h => ?_
  rw [htr] at h ⊢
  have hcl := fun (p : PS) => linkT_close (P := [91, 116]) (t := [91]) (b := b) (k := 1) (p := p) hE hP (by decide)
  have g0 : (linkT [91, 116] D T).getD 0 0 = 91 := rfl
  have g1 : (linkT [91, 116] D T).getD 1 0 = 116 := rfl
  have g2 : (linkT [91, 116] D T).getD 2 0 = 93 := rfl
  have hs1 : sub (linkT [91, 116] D T) 1 2 = [116] := rfl
  have hl3 : 3 ≤ (linkT [91, 116] D T).length := by simp [linkT]
  generalize hr : linkT [91, 116] D T = raw at h hlen hcl g0 g1 g2 hs1 hl3 ⊢
  intro X hX
  have hXL : LoopB R X b raw := fun _ _ _ _ _ _ h => hX _ _ _ _ _ _ _ _ _ h
  generalize hp0 : ({ p with s := raw, em := 0, lq := none, ln := 0, lc := 0 } : PS) = p0 at h
  have hpz0 : p0.pz = some ⟨pb, 0, none⟩ := by rw [← hp0]; exact hpz
  have hcs : p0.coreS = p.coreS := by rw [← hp0]; rfl
  suffices hat : AtB X σ b p0 raw L 0 0 [] [] 0 from hat w p0 none 0 0 rfl (by rw [← hp0]) (by rw [← hp0]; rfl) h
  have gi : ∀ k (hk : k < raw.length) (c : UInt8), raw.getD k 0 = c → raw[k] = c := fun k hk c hc => by rw [getElem_getD hk 0]; exact hc
  have c0 := gi 0 (by omega) _ g0
  have c1 := gi 1 (by omega) _ g1
  have c2 := gi 2 (by omega) _ g2
  have em : ∀ ts, emitM raw raw.length raw.length ts = ts := fun ts => by unfold emitM; rw [if_neg (by omega)]
  have s3 : AtB X σ b p0 raw L raw.length raw.length [closeI false [.plain [116]] D T 34 false] [] ((1 : Nat) : Int) := by
    have hnr := one_noRun (t := closeI false [.plain [116]] D T 34 false) rfl
    refine AtB.fin (ts' := [closeI false [.plain [116]] D T 34 false]) hXL (by omega) hpz0 ho hoff (by simp) (by rw [em]; exact emphOK_noRun hnr (by simp)) ?_ (by simp [plen, closeI, Inl.plain?]) ?_
    · intro t ht s hs; simp at ht; subst ht; simp [closeI, Inl.plain?] at hs
    · intro w p' q n' c vs RM EM hp' hS hn' hI h
      have hm : mergeM [closeI false [.plain [116]] D T 34 false] = [closeI false [.plain [116]] D T 34 false] := rfl
      rw [hm] at hI
      have hok : okL [closeI false [.plain [116]] D T 34 false] := ⟨⟨⟨by show ([116] : List UInt8).length < _; decide, trivial⟩, by simp, by have := hP.dl; omega, by have := hP.tl; omega⟩, trivial⟩
      have hPr := inls_print _ _ _ hI hok
      have eo : outL [closeI false [.plain [116]] D T 34 false] = linkO D T ++ [116] ++ aEnd := by
        show (linkO D T ++ (escS htmlPs [116] ++ []) ++ aEnd) ++ [] = _
        rw [show escS htmlPs [116] = [116] from by decide]; simp
      rw [eo] at hPr
      exact hR w p' q n' c vs RM EM EM (hp'.trans hcs) hS hn' hPr h
  have s2 : AtB X σ b p0 raw L 2 1 [.openP [91] 1] [0] 0 := by
    have hx : emitX raw 1 2 = [.plain [116]] := by unfold emitX; rw [if_pos (by decide), hs1]
    have hnr : ∀ t ∈ [] ++ emitX raw 1 2, noRun t = true := by rw [hx]; exact one_noRun rfl
    refine AtB.close (ts1 := []) (ts2 := []) (opens := []) (k := 1) (t := [91]) (img := false) (en := raw.length) (url := D) (title := T) (tc := 34) (cor := false) (L0 := [ec]) hXL (by omega) (by omega) c2 hpz0 ho hL0 rfl (by simp) (.inr (by decide)) (by have := hP.dl; omega) (fun p _ _ => hcl p) (by rw [hx]; simp) (wfE_noRun hnr) (apartE_noRun hnr) (by decide) (by decide) ?_
    rw [emphM_noRun hnr, hx]
    exact s3
  have s1 : AtB X σ b p0 raw L 1 1 [.openP [91] 1] [0] 0 := AtB.plain hXL (by omega) (by omega) hpz0 ho (by rw [c1]; rfl) (.inl (by rw [c1]; decide)) s2
  exact AtB.leaf (Q := fun p p' => p' = p) hXL (by omega) (by omega) hpz0 ho (f := i_parseLinkOpen) (by rw [c0]; rfl) (L0 := []) (by simp) (fun p _ _ => linkOpen_leaf (by omega) (by omega) c0) (by omega) (by decide) (by decide) s1
theorem image_inline {o : Opt} {D T : List UInt8} {ec : Chunk} (hE : EntC ec) (hoff : o.auto = false) (hP : LinkP D T) : InlineOKL [ec] o (linkT [33, 91, 116] D T) (ab (imgO D ++ [116] ++ imgC T)) := by
  intro σ R b pb p L w hL0 h hpz ho hlk hR
  have hlen := linkT_len (P := [33, 91, 116]) hP
  simp only [List.length_cons, List.length_nil] at hlen
  have htr := (linkT_trim (p := 33) (P := [91, 116]) (D := D) (T := T) (by decide)).1
  refine inl_begin h (by omega) fun w h => ?_
  rw [htr] at h ⊢
  have hcl := fun (p : PS) => linkT_close (P := [33, 91, 116]) (t := [33, 91]) (b := b) (k := 2) (p := p) hE hP (by decide)
  have g0 : (linkT [33, 91, 116] D T).getD 0 0 = 33 := rfl
  have g1 : (linkT [33, 91, 116] D T).getD 1 0 = 91 := rfl
  have g2 : (linkT [33, 91, 116] D T).getD 2 0 = 116 := rfl
  have g3 : (linkT [33, 91, 116] D T).getD 3 0 = 93 := rfl
  have hs1 : sub (linkT [33, 91, 116] D T) 2 3 = [116] := rfl
  have hl3 : 4 ≤ (linkT [33, 91, 116] D T).length := by simp [linkT]
  generalize hr : linkT [33, 91, 116] D T = raw at h hlen hcl g0 g1 g2 g3 hs1 hl3 ⊢
  intro X hX
  have hXL : LoopB R X b raw := fun _ _ _ _ _ _ h => hX _ _ _ _ _ _ _ _ _ h
  generalize hp0 : ({ p with s := raw, em := 0, lq := none, ln := 0, lc := 0 } : PS) = p0 at h
  have hpz0 : p0.pz = some ⟨pb, 0, none⟩ := by rw [← hp0]; exact hpz
  have hcs : p0.coreS = p.coreS := by rw [← hp0]; rfl
  suffices hat : AtB X σ b p0 raw L 0 0 [] [] 0 from hat w p0 none 0 0 rfl (by rw [← hp0]) (by rw [← hp0]; rfl) h
  have gi : ∀ k (hk : k < raw.length) (c : UInt8), raw.getD k 0 = c → raw[k] = c := fun k hk c hc => by rw [getElem_getD hk 0]; exact hc
  have c0 := gi 0 (by omega) _ g0
  have c1 := gi 1 (by omega) _ g1
  have c2 := gi 2 (by omega) _ g2
  have c3 := gi 3 (by omega) _ g3
  have em : ∀ ts, emitM raw raw.length raw.length ts = ts := fun ts => by unfold emitM; rw [if_neg (by omega)]
  have s3 : AtB X σ b p0 raw L raw.length raw.length [closeI true [.plain [116]] D T 34 false] [] 0 := by
    have hnr := one_noRun (t := closeI true [.plain [116]] D T 34 false) rfl
    refine AtB.fin (ts' := [closeI true [.plain [116]] D T 34 false]) hXL (by omega) hpz0 ho hoff (by simp) (by rw [em]; exact emphOK_noRun hnr (by simp)) ?_ (by simp [plen, closeI, Inl.plain?]) ?_
    · intro t ht s hs; simp at ht; subst ht; simp [closeI, Inl.plain?] at hs
    · intro w p' q n' c vs RM EM hp' hS hn' hI h
      have hm : mergeM [closeI true [.plain [116]] D T 34 false] = [closeI true [.plain [116]] D T 34 false] := rfl
      rw [hm] at hI
      obtain ⟨v, vs', M1, M2, rfl, rfl, hv, hrest⟩ := hI
      obtain ⟨rfl, rfl⟩ := hrest
      obtain ⟨ib, ie, iq, inn, ic, ivs, IRM, IKM, rfl, rfl, hIS, hII⟩ := hv
      obtain ⟨v2, vs2, M3, M4, rfl, rfl, hv2, hrest2⟩ := hII
      obtain ⟨rfl, rfl⟩ := hrest2
      obtain ⟨tb, tcs, te, rfl, rfl⟩ := hv2
      have hin := hIS.1
      have ha : escS htmlPs [116] = [116] := by decide
      have hT1 := plainText_prints (pb := tb) (s := [116]) (cs := tcs) (e := te) (by decide)
      rw [ha] at hT1
      have hTL : PrintsL "PrintText" [.iface ty_P_Plain (.pointer (some ⟨tb, 0, none⟩))] ([(tb, cel (.string (bs [116]) :: tcs) te)] ++ []) ([(tb, cel (.string (bs [116]) :: tcs) te)] ++ []) (ab [116]) := .cons hT1 .nil
      have hIm := image_prints (b := ib) (e := ie) (u := D) (t := T) (alt := [116]) (cs := [.int .u8 (34 : UInt8).toNat, .bool false]) (by have := hP.dl; omega) (by have := hP.tl; omega) hIS (by simp at hin; omega) hTL (by decide)
      have hPL := PrintsL.cons hIm PrintsL.nil
      exact hR w p' q n' c _ RM _ _ (hp'.trans hcs) hS hn' hPL h
  have s2 : AtB X σ b p0 raw L 3 2 [.openP [33, 91] 2] [0] 0 := by
    have hx : emitX raw 2 3 = [.plain [116]] := by unfold emitX; rw [if_pos (by decide), hs1]
    have hnr : ∀ t ∈ [] ++ emitX raw 2 3, noRun t = true := by rw [hx]; exact one_noRun rfl
    refine AtB.close (ts1 := []) (ts2 := []) (opens := []) (k := 2) (t := [33, 91]) (img := true) (en := raw.length) (url := D) (title := T) (tc := 34) (cor := false) (L0 := [ec]) hXL (by omega) (by omega) c3 hpz0 ho hL0 rfl (by simp) (.inl rfl) (by have := hP.dl; omega) (fun p _ _ => hcl p) (by rw [hx]; simp) (wfE_noRun hnr) (apartE_noRun hnr) (by decide) (by decide) ?_
    rw [emphM_noRun hnr, hx]
    exact s3
  have s1 : AtB X σ b p0 raw L 2 2 [.openP [33, 91] 2] [0] 0 := AtB.plain hXL (by omega) (by omega) hpz0 ho (by rw [c2]; rfl) (.inl (by rw [c2]; decide)) s2
  exact AtB.leaf (Q := fun p p' => p' = p) hXL (by omega) (by omega) hpz0 ho (f := i_parseImageOpen) (by rw [c0]; rfl) (L0 := []) (by simp) (fun p _ _ => imageOpen_leaf (by omega) (by omega) c0 c1) (by omega) (by decide) (by decide) s1
theorem linkT_mem {P D T : List UInt8} (hP : LinkP D T) (hPp : P.all prB = true) : ∀ c ∈ linkT P D T, prB c = true := by
  have hk : ∀ (tk : UInt8 → List UInt8) (s : List UInt8), (∀ c ∈ s, prB c = true → ∀ d ∈ tk c, prB d = true) → s.all prB = true → ∀ d ∈ tkS tk s, prB d = true := by
    intro tk s h1 h2 d hd
    unfold tkS at hd
    obtain ⟨c, hc, hd⟩ := List.mem_flatMap.1 hd
    exact h1 c hc (List.all_eq_true.1 h2 c hc) d hd
  have hp : ∀ c, prB c = true → ∀ d ∈ pnt c, prB d = true := by
    intro c hc d hd
    rcases pnt_cases c with ⟨_, e⟩ | ⟨_, e⟩ | ⟨_, _, _, _, e⟩
    · rw [e] at hd; simp at hd; rcases hd with rfl | rfl
      · decide
      · exact hc
    · rw [e] at hd; exact List.all_eq_true.1 (show ampT.all prB = true by decide) d hd
    · rw [e] at hd; simp at hd; subst hd; exact hc
  have hq : ∀ c, prB c = true → ∀ d ∈ qnt c, prB d = true := by
    intro c hc d hd
    unfold qnt at hd
    split at hd
    · simp at hd; rcases hd with rfl | rfl <;> decide
    · exact hp c hc d hd
  intro c hc
  simp only [linkT, destT, List.mem_append, List.mem_cons, List.mem_nil_iff, or_false] at hc
  rcases hc with h | h | h | h | h | h | h | h | h | h | h
  · exact List.all_eq_true.1 hPp c h
  all_goals first
    | (subst h; decide)
    | exact hk pnt D (fun c _ => hp c) hP.dp c h
    | exact hk qnt T (fun c _ => hq c) hP.tp c h
theorem html_link {L0 : List Chunk} {o : Opt} {p : UInt8} {P D T out : List UInt8} (hP : LinkP D T) (hPp : (p :: P).all prB = true) (hPl : P.length < 50) (hst : isST p = false) (hpl : plainStart p = true) (hnr : NoRef (linkT (p :: P) D T)) (hI : InlineOKL L0 o (linkT (p :: P) D T) (ab out)) :
    ParsesToL L0 o (linkT (p :: P) D T) (pOpen ++ out ++ pClose) := by
  have hlen := linkT_len (P := p :: P) hP
  simp only [List.length_cons] at hlen
  have hm := linkT_mem hP hPp
  have hno : ∀ c : UInt8, c = 0 ∨ c = 10 ∨ c = 13 → c ∉ linkT (p :: P) D T := by
    intro c hc hmem
    have := hm c hmem
    rcases hc with rfl | rfl | rfl <;> revert this <;> decide
  have hdw := (linkT_trim (P := P) (D := D) (T := T) hst).2
  have hplain : (lnOf (linkT (p :: P) D T)).plain := by
    have : linkT (p :: P) D T = p :: linkT P D T := rfl
    rw [this] at hlen ⊢
    simp only [List.length_cons] at hlen
    exact plain_first hpl (by omega)
  have := parses_lineL (L0 := L0) (op := o) (raw := linkT (p :: P) D T) (f := ab out) hplain (by omega) (idx_none (hno 0 (.inl rfl))) (idx_none (hno 10 (.inr (.inl rfl)))) (idx_none (hno 13 (.inr (.inr rfl))))
    (by rw [hdw]; simp [linkT]) (by rw [hdw]; exact hnr) (by rw [hdw]; exact hI)
  exact this
theorem fnLink_ok {x y : ByteArray} {img : Bool} {ec : Chunk} (hE : EntC ec) (hec : ec ∈ L) (h : Sat σ w L) (hR : ∀ w, Sat σ w L → R (.returned (.bool true)) w) : callE P i_laws_FnLink #[.string x, .string y, .bool img] R w := by
  rw [bs_of x, bs_of y]
  generalize x.data.toList = D
  generalize y.data.toList = T
  refine g_laws_FnLink.sound ?_
  refine br_split (fun _ => hR w h) (fun hsz => ?_)
  simp only [Bool.or_eq_false_iff, decide_eq_false_iff_not, bs_size] at hsz
  refine printable_ok (n := 60) (by omega) ⟨_, rfl, br_split (fun _ => hR w h) (fun hb1 => ?_)⟩
  refine printable_ok (n := 60) (by omega) ⟨_, rfl, br_split (fun _ => hR w h) (fun hb2 => ?_)⟩
  simp only [Bool.or_eq_false_iff, Bool.not_eq_false'] at hb1 hb2
  have hP : LinkP D T := by
    have h1 := hb1; have h2 := hb2.1
    simp only [printM, Bool.and_eq_true, decide_eq_true_eq] at h1 h2
    refine ⟨h1.1, h1.2, h2.1, h2.2, ?_⟩
    rintro rfl
    have := hb2.2
    rw [bs_toList, mk_toList] at this; cases this
  have h1 := hP.dl; have h2 := hP.tl
  have hpD := pnt_len D; have hpT := pnt_len T; have hqT := qnt_len T
  have hmax : IntKind.i64.max = 9223372036854775807 := rfl
  have b2 : ∀ s t : List UInt8, s.length + t.length < 10000 → (((bs s).size + (bs t).size : Nat) : Int) ≤ IntKind.i64.max := by intro s t hs; rw [hmax, bs_size, bs_size]; omega
  refine pointed_ok (by omega) h fun w h => ⟨_, rfl, ?_⟩
  refine Sat.bx h fun b w h => ?_
  -- behind the quotation
  intro X hX
  have hpl : (pointT T).length = (tkS pnt T).length + 2 := by simp [pointT]
  have body : ∀ g M w, Bld b g (tkS qnt T) M → Sat σ w (M ++ L) → X (bs D) (bs T) img (bs (pointT T)) b (((tkS pnt T).length + 1 : Nat) : Int) w := by
    intro g M w hB h
    refine hX _ _ _ _ _ _ _ (br_false (by rw [i64_inc (by omega), bs_size, hpl]; simp; omega) ?_)
    refine pointed_ok (by omega) h fun w h => ⟨_, rfl, ?_⟩
    have hpD2 : (pointT D).length = (tkS pnt D).length + 2 := by simp [pointT]
    rw [show ByteArray.mk #[91, 116, 93, 40] = bs [91, 116, 93, 40] from rfl, show ByteArray.mk #[32, 34] = bs [32, 34] from rfl, show ByteArray.mk #[34, 41] = bs [34, 41] from rfl, show ByteArray.mk #[33] = bs [33] from rfl]
    simp only [bs_append]
    refine ⟨b2 _ _ (by simp; omega), b2 _ _ (by simp; omega), ?_⟩
    refine bldStr_ok hB h (by omega) fun w h => ⟨_, rfl, ?_⟩
    simp only [bs_append]
    refine ⟨b2 _ _ (by simp; omega), b2 _ _ (by simp; omega), ?_⟩
    have eT : [91, 116, 93, 40] ++ pointT D ++ [32, 34] ++ tkS qnt T ++ [34, 41] = linkT [91, 116] D T := by simp [linkT, destT, pointT]
    have eI : [33] ++ linkT [91, 116] D T = linkT [33, 91, 116] D T := rfl
    have lk := linkT_len (P := [91, 116]) hP
    simp only [List.length_cons, List.length_nil] at lk
    have le1 := escS_length linkPs8 D
    have le2 := escS_length (ps := htmlPs) (by decide) T
    have hp3 : pOpen.length = 3 := rfl
    have hp4 : pClose.length = 5 := rfl
    have hp5 : aHref.length = 9 := rfl
    have hp6 : aEnd.length = 4 := rfl
    have hp7 : tAttr.length = 8 := rfl
    have hp8 : imgT.length = 10 := rfl
    have hp9 : altT.length = 6 := rfl
    have hp10 : imgE.length = 3 := rfl
    rw [eT]
    refine br_split (fun hi => ?_) (fun hi => ?_)
    · refine ⟨b2 _ _ (by simp; omega), ?_⟩
      rw [eI]
      have hPT := html_link (L0 := [ec]) (o := optOff) (p := 33) (P := [91, 116]) hP (by decide) (by decide) (by decide) (by decide)
        (noRef_of (by have := linkT_len (P := [33, 91, 116]) hP; simp only [List.length_cons, List.length_nil] at this; omega) (by simp [linkT, isSTN])) (image_inline hE rfl hP)
      show callE P i_impl_HTML #[optV optOff, .string (bs (linkT [33, 91, 116] D T))] _ w
      refine html_okL hPT (by intro c hc; simp at hc; subst hc; exact hec) (by simp only [imgO, imgC, if_neg hP.t0, List.length_append, List.length_cons, List.length_nil]; omega) h fun w h => ⟨_, rfl, ?_⟩
      refine escURL_ok (by omega) hP.dp h fun w h => ⟨_, rfl, ?_⟩
      rw [show ByteArray.mk #[60, 112, 62, 60, 105, 109, 103, 32, 115, 114, 99, 61, 34] = bs (pOpen ++ imgT) from rfl, show ByteArray.mk #[34, 32, 97, 108, 116, 61, 34, 116, 34, 32, 116, 105, 116, 108, 101, 61, 34] = bs ([34] ++ altT ++ [116] ++ [34] ++ tAttr) from rfl, show ByteArray.mk #[34, 32, 47, 62, 60, 47, 112, 62, 10] = bs ([34] ++ imgE ++ pClose) from rfl]
      simp only [bs_append]
      refine ⟨b2 _ _ (by simp only [List.length_append, List.length_cons, List.length_nil]; omega), b2 _ _ (by simp only [List.length_append, List.length_cons, List.length_nil]; omega), ?_⟩
      refine escHTML_ok (by omega) ⟨_, rfl, ?_⟩
      simp only [bs_append]
      refine ⟨b2 _ _ (by simp only [List.length_append, List.length_cons, List.length_nil]; omega), b2 _ _ (by simp only [List.length_append, List.length_cons, List.length_nil]; omega), ?_⟩
      rw [bs_toList, bs_toList]
      have e3 : pOpen ++ (imgO D ++ [116] ++ imgC T) ++ pClose = pOpen ++ imgT ++ escS linkPs D ++ ([34] ++ altT ++ [116] ++ [34] ++ tAttr) ++ escS htmlPs T ++ ([34] ++ imgE ++ pClose) := by simp [imgO, imgC, if_neg hP.t0]
      rw [e3]
      simpa using hR w h
    · have hPT := html_link (L0 := [ec]) (o := optOff) (p := 91) (P := [116]) hP (by decide) (by decide) (by decide) (by decide)
        (by
          have : linkT [91, 116] D T = 91 :: 116 :: 93 :: 40 :: destT pnt qnt D T := rfl
          rw [this] at lk ⊢
          simp only [List.length_cons] at lk
          exact noRef_label (by omega) (by decide) (by decide) (by decide) (by decide) (by decide)) (link_inline hE rfl hP)
      show callE P i_impl_HTML #[optV optOff, .string (bs (linkT [91, 116] D T))] _ w
      refine html_okL hPT (by intro c hc; simp at hc; subst hc; exact hec) (by simp only [linkO, if_neg hP.t0, List.length_append, List.length_cons, List.length_nil]; omega) h fun w h => ⟨_, rfl, ?_⟩
      refine escURL_ok (by omega) hP.dp h fun w h => ⟨_, rfl, ?_⟩
      rw [show ByteArray.mk #[60, 112, 62, 60, 97, 32, 104, 114, 101, 102, 61, 34] = bs (pOpen ++ aHref) from rfl, show ByteArray.mk #[34, 32, 116, 105, 116, 108, 101, 61, 34] = bs ([34] ++ tAttr) from rfl, show ByteArray.mk #[34, 62, 116, 60, 47, 97, 62, 60, 47, 112, 62, 10] = bs ([34] ++ [62] ++ [116] ++ aEnd ++ pClose) from rfl]
      simp only [bs_append]
      refine ⟨b2 _ _ (by simp only [List.length_append, List.length_cons, List.length_nil]; omega), b2 _ _ (by simp only [List.length_append, List.length_cons, List.length_nil]; omega), ?_⟩
      refine escHTML_ok (by omega) ⟨_, rfl, ?_⟩
      simp only [bs_append]
      refine ⟨b2 _ _ (by simp only [List.length_append, List.length_cons, List.length_nil]; omega), b2 _ _ (by simp only [List.length_append, List.length_cons, List.length_nil]; omega), ?_⟩
      rw [bs_toList, bs_toList]
      have e3 : pOpen ++ (linkO D T ++ [116] ++ aEnd) ++ pClose = pOpen ++ aHref ++ escS linkPs D ++ ([34] ++ tAttr) ++ escS htmlPs T ++ ([34] ++ [62] ++ [116] ++ aEnd ++ pClose) := by simp [linkO, if_neg hP.t0]
      rw [e3]
      simpa using hR w h
  -- the quotation
  have hget : ∀ i (hi : i < (tkS pnt T).length), (pointT T).getD (i + 1) 0 = (tkS pnt T)[i] := by
    intro i hi
    show (tkS pnt T ++ [62]).getD i 0 = _
    rw [getD_app' hi, ← getElem_getD hi]
  have key : ∀ k i g M w, i + k = (tkS pnt T).length → Bld b g (tkS qot ((tkS pnt T).take i)) M → Sat σ w (M ++ L) → X (bs D) (bs T) img (bs (pointT T)) b ((i + 1 : Nat) : Int) w := by
    intro k
    induction k with
    | zero =>
      intro i g M w hi hB h
      rw [List.take_of_length_le (by omega), qot_all] at hB
      obtain rfl : i = (tkS pnt T).length := hi
      exact body g M w hB h
    | succ k ih =>
      intro i g M w hi hB h
      have hil : i < (tkS pnt T).length := by omega
      have hst : tkS qot ((tkS pnt T).take (i + 1)) = tkS qot ((tkS pnt T).take i) ++ qot (tkS pnt T)[i] := by rw [List.take_succ_eq_append_getElem hil, tkS_append]; simp
      have ih' := fun M w => ih (i + 1) true M w (by omega)
      rw [hst] at ih'
      have hql : (tkS qot ((tkS pnt T).take i)).length ≤ 2 * (tkS pnt T).length := by
        have hg : ∀ s : List UInt8, (tkS qot s).length ≤ 2 * s.length := by
          intro s
          induction s with
          | nil => simp
          | cons c s ih =>
            have : (qot c).length ≤ 2 := by unfold qot; split <;> simp
            rw [tkS_cons, List.length_append, List.length_cons]; omega
        have := hg ((tkS pnt T).take i)
        rw [List.length_take] at this; omega
      have hgi := hget i hil
      generalize (tkS pnt T)[i] = c at hgi ih'
      refine hX _ _ _ _ _ _ _ (br_true (by rw [i64_inc (by omega), bs_size, hpl]; simp; omega) ⟨by omega, by rw [bs_size, hpl]; omega, ?_⟩)
      rw [bs_bt, hgi]
      have k3 : ∀ g w M, Bld b g (tkS qot ((tkS pnt T).take i) ++ (qot c).dropLast) M → Sat σ w (M ++ L) → g_laws_FnLink.k3 R X (bs D) (bs T) img (bs (pointT T)) b ((i + 1 : Nat) : Int) w := by
        intro g w M hB h
        have hdl : (qot c).dropLast ++ [c] = qot c := by unfold qot; split; (rename_i h; subst h; rfl); rfl
        have hd2 : (qot c).dropLast.length ≤ 1 := by unfold qot; split <;> simp
        refine ⟨by omega, by rw [bs_size, hpl]; omega, ?_⟩
        rw [bs_bt, hgi]
        refine bldB_ok (k := c) hB h (by rw [List.length_append]; omega) fun w M hB h => ⟨_, rfl, ?_⟩
        rw [i64_inc (by omega)]
        rw [List.append_assoc, hdl] at hB
        exact ih' M w hB h
      by_cases hc : c = 34
      · refine br_true (by rw [hc]; rfl) ?_
        refine bldB_ok (k := 92) hB h (by omega) fun w M hB h => ⟨_, rfl, k3 true w M ?_ h⟩
        rw [hc]; exact hB
      · refine br_false (by rw [u8b c 34 34 rfl]; simpa using hc) (k3 g w M ?_ h)
        have : qot c = [c] := by unfold qot; rw [if_neg hc]
        rw [this]; simpa using hB
  exact key (tkS pnt T).length 0 false _ w (by omega) (by simpa using bldNew b) h
end Go.Proofs.YtmicoampfglaiaaGreatDoor


/- The table of names, as it is laid when the call begins. -/
set_option linter.unusedVariables false
namespace Go.Proofs.YtmicoampfglaiaaGreatDoor
open Go.Proofs Go.ChangeShapes Go.WideShapes Go.RowKit
theorem ent_of_laid {P : Program} {TA TB TS : TypeId} {N : String} {W : World} {rest : List (DataW Unit)} (hU1 : P.underlying TA = some (.array 12 TB)) (hU2 : P.underlying TB = some (.array 2 TS)) (hU3 : P.underlying TS = some .string)
    (hcB : P.cellsOf TB = 2) (hcS : P.cellsOf TS = 1) (hN : P.globalNamed N = some 1) (hT : (P.globals[1]?).map (·.type) = some TA) {l : List (String × DataW Unit)} {d : DataW Unit} (hl : l.filter (fun x => x.1 == N) = [(N, d)]) (hd0 : d = .agg (.agg [.lit (.string [38, 97, 109, 112, 59]), .lit (.string [38])] :: rest)) (hno : d.handleName?.isNone = true)
    (h : laidMetH P l W) : ∃ c, EntC c ∧ c ∈ allBlocks W := by
  have h := h.filter (fun x => x.1 == N)
  rw [hl, MakeChecks.laidMetH_plain _ _ _ (by simp [hno])] at h
  obtain ⟨ps, ⟨g, t, cs, fuel, p, q, hg, ht, hv, hd, _, _⟩, _, _⟩ := h
  obtain rfl := Option.some.inj (hN.symm.trans hg)
  obtain rfl := Option.some.inj (hT.symm.trans ht)
  obtain ⟨xs, m, _, ex, hcl, hxl, hel⟩ := DataW.trod_array hU1 hd
  have hE := hel 0 (by decide)
  rw [hcB, Nat.zero_mul, List.drop_zero, List.getElem?_eq_getElem (by omega)] at hE
  obtain ⟨ys, m2, _, ey, _, hyl, hel2⟩ := DataW.trod_array hU2 hE
  have h0 := hel2 0 (by decide)
  have h1 := hel2 1 (by decide)
  rw [hcS, List.getElem?_eq_getElem (by omega)] at h0 h1
  obtain ⟨s0, e0, x0, _⟩ := DataW.trod_string hU3 h0
  obtain ⟨s1, e1, x1, _⟩ := DataW.trod_string hU3 h1
  have ed : d = .agg (xs.map (·.1)) := (Prod.mk.inj ex).1
  rw [hd0] at ed
  have em := DataW.agg.inj ed
  have ex0 : xs[0].1 = .agg [.lit (.string [38, 97, 109, 112, 59]), .lit (.string [38])] := by
    have := congrArg (fun l : List (DataW Unit) => l[0]?) em
    simp only [List.getElem?_cons_zero, List.getElem?_map, List.getElem?_eq_getElem (show 0 < xs.length by omega), Option.map_some, Option.some.injEq] at this
    exact this.symm
  rw [ey] at ex0
  have em2 := DataW.agg.inj ex0
  have f0 : ys[0].1 = .lit (.string [38, 97, 109, 112, 59]) := by
    have := congrArg (fun l : List (DataW Unit) => l[0]?) em2
    simp only [List.getElem?_cons_zero, List.getElem?_map, List.getElem?_eq_getElem (show 0 < ys.length by omega), Option.map_some, Option.some.injEq] at this
    exact this
  have f1 : ys[1].1 = .lit (.string [38]) := by
    have := congrArg (fun l : List (DataW Unit) => l[1]?) em2
    simp only [List.getElem?_cons_succ, List.getElem?_cons_zero, List.getElem?_map, List.getElem?_eq_getElem (show 1 < ys.length by omega), Option.map_some, Option.some.injEq] at this
    exact this
  rw [x0] at f0
  rw [x1] at f1
  have t0 : s0.data.toList = [38, 97, 109, 112, 59] := by simpa using f0
  have t1 : s1.data.toList = [38] := by simpa using f1
  have b0 : s0 = bs ampT := by
    cases s0 with | mk a => exact congrArg ByteArray.mk (by apply Array.ext'; exact t0)
  have b1 : s1 = bs [38] := by
    cases s1 with | mk a => exact congrArg ByteArray.mk (by apply Array.ext'; exact t1)
  simp only [World.var?, hN, Option.bind_some] at hv
  split at hv
  · rename_i c ty fr hb
    cases hv
    have hlt : 1 < W.heap.size := (Array.getElem?_eq_some_iff.1 hb).1
    refine ⟨(1, W.heap[1]), ⟨cs, ty, fr, ?_, ?_, ?_⟩, List.mem_map.2 ⟨(W.heap[1], 1), List.mem_zipIdx_iff_getElem?.2 (by simp [hlt]), rfl⟩⟩
    · rw [Array.getElem?_eq_getElem hlt] at hb; exact congrArg (Prod.mk 1) (Option.some.inj hb)
    · have : ((((cs.toList.take 2).drop (0 * 1)).take 1)[0]?) = some (.string s0) := by rw [e0]; rfl
      rw [← b0]; simpa using this
    · have : ((((cs.toList.take 2).drop (1 * 1)).take 1)[0]?) = some (.string s1) := by rw [e1]; rfl
      rw [← b1]; simpa using this
  · cases hv
end Go.Proofs.YtmicoampfglaiaaGreatDoor

