/- Part 6 of the proof of the law FnNested: for every input the law returns true, the inputs read as they did, and memory that was there is as it was; under the conditions of the given row alone. Holds: Emph3 Emph4 Emph5 Emph6 Emph7 Emph8 EmphOK G_Emph_PrintHTML G_Strong_PrintHTML Print3 Lays2 Repeat Nest G_laws_FnDots G_laws_ellipses G_parseDot Dots1 FnDots1 FnNested1. -/
import Derived.Shelf.Strings.Repeat
import Derived.Test.YtmkfleohcnopkaaGreatDoorA5
set_option linter.all false
/- emph: the model, and how an opener is found. -/
set_option linter.unusedVariables false
namespace Go.Proofs.YtmkfleohcnopkaaGreatDoor
open Go.Proofs Go.IntWalk Go.RowKit
variable {σ : Out} {w : World} {L L' : List Chunk} {R : Ending → World → Prop}
/-! ### The model -/
def badEmph (co cc : Bool) (n : Int) (sco scc : Bool) (sn : Int) : Bool := (co && cc || sco && scc) && (Int.tmod (n + sn) 3 == 0 && (Int.tmod n 3 != 0 || Int.tmod sn 3 != 0))
def cand (co cc : Bool) (n : Int) (dst : List Inl) (j : Nat) : Bool := match dst[j]? with
  | some (.emphP _ sco scc _ sn) => !badEmph co cc n sco scc sn
  | _ => false
def trimN (m : Nat) (l : List Nat) : List Nat := (l.reverse.dropWhile fun e => decide (m ≤ e)).reverse
def closeGo (ix : Nat) (co cc : Bool) (n : Int) : Nat → List UInt8 → List Inl → List (List Nat) → List UInt8 × List Inl × List (List Nat)
  | 0, t, dst, st => (t, dst, st)
  | f + 1, t, dst, st => if t = [] then (t, dst, st) else match (st.getD ix []).reverse.find? (cand co cc n dst) with
    | none => (t, dst, st)
    | some j => match dst[j]? with
      | some (.emphP s sco scc si sn) =>
        let d := if 2 ≤ t.length ∧ 2 ≤ s.length then 2 else 1
        let s' := s.take (s.length - d)
        let d1 := dst.take j ++ (if s' = [] then [] else [.emphP s' sco scc si sn])
        let x := if d = 2 then Inl.strong (t.take d) (dst.drop (j + 1)) else .emph (t.take d) (dst.drop (j + 1))
        closeGo ix co cc n f (t.drop d) (d1 ++ [x]) (st.map (trimN d1.length))
      | _ => (t, dst, st)
def ixOf (c : UInt8) : Nat := if c = 95 then 0 else 1
def emphGo : List Inl → List (List Nat) → List Inl → List Inl
  | dst, _, [] => dst
  | dst, st, t :: ts => match t with
    | .openP s _ => emphGo (dst ++ [.plain s]) st ts
    | .emphP s co cc i n =>
      let ix := ixOf (s.headD 0)
      let r := if cc then closeGo ix co cc n s.length s dst st else (s, dst, st)
      if r.1 = [] then emphGo r.2.1 r.2.2 ts
      else if co then emphGo (r.2.1 ++ [.emphP r.1 co cc r.2.1.length n]) (r.2.2.set ix (r.2.2.getD ix [] ++ [r.2.1.length])) ts
      else emphGo (r.2.1 ++ [.plain r.1]) r.2.2 ts
    | t => emphGo (dst ++ [t]) st ts
def emphM (ts : List Inl) : List Inl := emphGo [] [[], [], [], [], []] ts

/-! ### In memory -/
theorem InlsAt.get : ∀ {ts : List Inl} {vs : List Value} {M : List Chunk} {j : Nat} {t : Inl}, InlsAt ts vs M → ts[j]? = some t → ∃ v Mj, vs[j]? = some v ∧ InlAt t v Mj ∧ ∀ c ∈ Mj, c ∈ M
  | [], vs, M, j, t, h, hj => by simp at hj
  | t' :: ts, vs, M, 0, t, h, hj => by
    obtain ⟨v, vs', M1, M2, rfl, rfl, h1, h2⟩ := h
    simp at hj; subst hj
    exact ⟨v, M1, rfl, h1, fun c hc => List.mem_append_left _ hc⟩
  | t' :: ts, vs, M, j + 1, t, h, hj => by
    obtain ⟨v, vs', M1, M2, rfl, rfl, h1, h2⟩ := h
    obtain ⟨v', Mj, h3, h4, h5⟩ := h2.get (by simpa using hj)
    exact ⟨v', Mj, by simpa using h3, h4, fun c hc => List.mem_append_right _ (h5 c hc)⟩
def emC (b : Nat) (t : List UInt8) (co cc : Bool) (i n : Int) (e : TypeId) : Chunk := (b, cel [.string (bs t), .bool co, .bool cc, .int .i64 i, .int .i64 n] e)
/-- The entries of a stack are openers in the output. -/
def EntIn (dst : List Inl) (dvs : List Value) (e : Nat × Nat) : Prop := ∃ t co cc n, dst[e.2]? = some (.emphP t co cc (e.2 : Nat) n) ∧ dvs[e.2]? = some (ptrV ty_P_emphPlain e.1) ∧ 0 ≤ n ∧ n ≤ 1000000000 ∧ t ≠ [] ∧ t.length < 1000000000
def StkIn (dst : List Inl) (dvs : List Value) (S : List STK) : Prop := ∀ s ∈ S, s.ent.length < 1000000000 ∧ s.ent.Pairwise (fun a b => a.2 < b.2) ∧ ∀ e ∈ s.ent, EntIn dst dvs e
def idxs (S : List STK) : List (List Nat) := S.map fun s => s.ent.map Prod.snd
theorem ptrV_inj {t : TypeId} {a b : Nat} (h : ptrV t a = ptrV t b) : a = b := by
  simp only [ptrV, Value.iface.injEq, Value.pointer.injEq, Option.some.injEq, Addr.mk.injEq, true_and, and_true] at h
  exact h
theorem EntIn.chunk {dst : List Inl} {dvs : List Value} {DM : List Chunk} {e : Nat × Nat} (hI : InlsAt dst dvs DM) (h : EntIn dst dvs e) : ∃ t co cc n ty, dst[e.2]? = some (.emphP t co cc (e.2 : Nat) n) ∧ emC e.1 t co cc (e.2 : Nat) n ty ∈ DM ∧ 0 ≤ n ∧ n ≤ 1000000000 ∧ t ≠ [] ∧ t.length < 1000000000 := by
  obtain ⟨t, co, cc, n, h1, h2, h3, h4, h5⟩ := h
  obtain ⟨v, Mj, h6, h7, h8⟩ := hI.get h1
  rw [h2] at h6
  obtain rfl := Option.some.inj h6
  obtain ⟨b, ty, hb, rfl⟩ := h7
  have := ptrV_inj hb
  subst this
  exact ⟨t, co, cc, n, ty, h1, h8 _ (.head _), h3, h4, h5⟩
theorem EntsOK_of {dst : List Inl} {dvs : List Value} {DM : List Chunk} {es : List (Nat × Nat)} (hI : InlsAt dst dvs DM) (h : ∀ e ∈ es, EntIn dst dvs e) (hL : ∀ c ∈ DM, c ∈ L) : EntsOK es L := by
  intro e he
  obtain ⟨t, co, cc, n, ty, _, h2, _⟩ := (h e he).chunk hI
  exact ⟨_, ty, hL _ h2, rfl⟩
theorem trimE_lt {m : Nat} {es : List (Nat × Nat)} (h : es.Pairwise fun a b => a.2 < b.2) : ∀ e ∈ trimE m es, e.2 < m := by
  induction hn : es.length generalizing es with
  | zero => rw [List.eq_nil_of_length_eq_zero hn]; intro e he; simp [trimE_nil] at he
  | succ k ih =>
    rcases List.eq_nil_or_concat es with rfl | ⟨es', x, rfl⟩
    · simp at hn
    · rw [List.concat_eq_append] at *
      rw [List.pairwise_append] at h
      rw [trimE_snoc]
      split
      · exact ih h.1 (by simp at hn; omega)
      · rename_i hx
        intro e he
        rcases List.mem_append.1 he with he | he
        · have := h.2.2 e he x (by simp); omega
        · simp at he; subst he; omega
theorem trimE_sub {m : Nat} {es : List (Nat × Nat)} {e : Nat × Nat} (h : e ∈ trimE m es) : e ∈ es := by
  rw [trimE_prefix] at h
  exact List.mem_of_mem_take h
theorem trimE_len (m : Nat) (es : List (Nat × Nat)) : (trimE m es).length ≤ es.length := by
  unfold trimE
  have := (List.dropWhile_sublist (fun e : Nat × Nat => decide (m ≤ e.2)) (l := es.reverse)).length_le
  simpa using this
theorem trimE_pw {m : Nat} {es : List (Nat × Nat)} (h : es.Pairwise fun a b => a.2 < b.2) : (trimE m es).Pairwise fun a b => a.2 < b.2 := by
  rw [trimE_prefix]
  exact h.sublist (List.take_sublist ..)
theorem trimE_map (m : Nat) (es : List (Nat × Nat)) : (trimE m es).map Prod.snd = trimN m (es.map Prod.snd) := by
  unfold trimE trimN
  rw [← List.map_reverse (l := es), List.dropWhile_map, List.map_reverse]
  rfl
theorem idxs_trim (m : Nat) (S : List STK) : idxs (S.map (STK.trim m)) = (idxs S).map (trimN m) := by
  simp [idxs, STK.trim, Function.comp_def, trimE_map]

/-- What is known of the loop that closes: the closer in pb, the output, the stacks. -/
def EM (σ : Out) (b1 b3 pb : Nat) (t : List UInt8) (co cc : Bool) (pi n : Int) (pe : TypeId) (dst : List Inl) (S : List STK) (rvs : List Value) (off : Nat) (sq : Option Addr) (sn sc : Nat) (SR : List Chunk) (L : List Chunk) (w : World) : Prop :=
  ∃ dq dc dvs DM SM RS, InlsAt dst dvs DM ∧ StksAt S SM ∧ S.length = 5 ∧ StkIn dst dvs S ∧ DRow dq dc dvs rvs off sq sn sc SR RS ∧ dst.length < 1000000000 ∧
    Sat σ w (emC pb t co cc pi n pe :: stkC b3 S :: (b1, cel [.slice dq dvs.length dc] ty_S_Inline) :: (SM ++ (DM ++ (RS ++ L))))
theorem EM.tick {b1 b3 pb : Nat} {t : List UInt8} {co cc : Bool} {pi n : Int} {pe : TypeId} {dst : List Inl} {S : List STK} {rvs : List Value} {off : Nat} {sq : Option Addr} {sn sc : Nat} {SR : List Chunk} (h : EM σ b1 b3 pb t co cc pi n pe dst S rvs off sq sn sc SR L w) :
    EM σ b1 b3 pb t co cc pi n pe dst S rvs off sq sn sc SR L (tick w) := by
  obtain ⟨dq, dc, dvs, DM, SM, RS, h1, h2, h3, h4, h5, h6, h7⟩ := h
  exact ⟨dq, dc, dvs, DM, SM, RS, h1, h2, h3, h4, h5, h6, h7.tick⟩
/-! ### The search -/
theorem tPart {pb sb : Nat} {n sn : Int} (hn : 0 ≤ n ∧ n ≤ 1000000000) (hsn : 0 ≤ sn ∧ sn ≤ 1000000000) (h1 : w.cell? ⟨pb, 4, none⟩ = some (.int .i64 n)) (h2 : w.cell? ⟨sb, 4, none⟩ = some (.int .i64 sn)) {A B : Prop}
    (h : if Int.tmod (n + sn) 3 == 0 && (Int.tmod n 3 != 0 || Int.tmod sn 3 != 0) then A else B) :
    nilP (some (⟨pb, 0, none⟩ : Addr)) fun a62 => nilP (some (⟨sb, 0, none⟩ : Addr)) fun a63 => ∃ (v64 : Int), w.cell? (a62.add 4) = some (.int .i64 v64) ∧ ∃ (v65 : Int), w.cell? (a63.add 4) = some (.int .i64 v65) ∧
      br ((Int.tmod (IntKind.i64.wrap (v64 + v65)) 3) == 0)
        (nilP (some (⟨pb, 0, none⟩ : Addr)) fun a66 => ∃ (v67 : Int), w.cell? (a66.add 4) = some (.int .i64 v67) ∧ br ((Int.tmod v67 3) != 0) A
          (nilP (some (⟨sb, 0, none⟩ : Addr)) fun a68 => ∃ (v69 : Int), w.cell? (a68.add 4) = some (.int .i64 v69) ∧ br ((Int.tmod v69 3) != 0) A B)) B := by
  refine nilP_some (nilP_some ⟨n, h1, sn, h2, ?_⟩)
  rw [i64_in _ (by omega)]
  cases e1 : (Int.tmod (n + sn) 3 == 0) with
  | false => rw [e1] at h; exact br_false rfl (by simpa using h)
  | true =>
    refine br_true rfl (nilP_some ⟨n, h1, ?_⟩)
    cases e2 : (Int.tmod n 3 != 0) with
    | true => rw [e1, e2] at h; exact br_true rfl (by simpa using h)
    | false =>
      refine br_false rfl (nilP_some ⟨sn, h2, ?_⟩)
      cases e3 : (Int.tmod sn 3 != 0) with
      | true => rw [e1, e2, e3] at h; exact br_true rfl (by simpa using h)
      | false => rw [e1, e2, e3] at h; exact br_false rfl (by simpa using h)
theorem uPart {sb : Nat} {sco scc : Bool} (h1 : w.cell? ⟨sb, 1, none⟩ = some (.bool sco)) (h2 : w.cell? ⟨sb, 2, none⟩ = some (.bool scc)) {T B : Prop} (h : if sco && scc then T else B) :
    nilP (some (⟨sb, 0, none⟩ : Addr)) fun a70 => ∃ (v71 : Bool), w.cell? (a70.add 1) = some (.bool v71) ∧ br v71 (nilP (some (⟨sb, 0, none⟩ : Addr)) fun a72 => ∃ (v73 : Bool), w.cell? (a72.add 2) = some (.bool v73) ∧ br v73 T B) B := by
  refine nilP_some ⟨sco, h1, ?_⟩
  cases sco with
  | false => exact br_false rfl (by simpa using h)
  | true =>
    refine br_true rfl (nilP_some ⟨scc, h2, ?_⟩)
    cases scc with
    | false => exact br_false rfl (by simpa using h)
    | true => exact br_true rfl (by simpa using h)
end Go.Proofs.YtmkfleohcnopkaaGreatDoor

/- emph: the search for an opener. -/
set_option linter.unusedVariables false
namespace Go.Proofs.YtmkfleohcnopkaaGreatDoor
open Go.Proofs Go.IntWalk Go.RowKit
variable {σ : Out} {w : World} {L L' : List Chunk} {R : Ending → World → Prop}
theorem tk_gen {w : World} {K A : World → Prop} (hA : A (tick w)) (h : ∀ w', A w' → K w') : tk w K := h _ hA
abbrev cl1 : Value := .func (.func i_parseState_emph_1) #[] #[]
abbrev cl2 (b3 b1 : Nat) : Value := .func (.func i_parseState_emph_2) #[] #[.pointer (some ⟨b3, 0, none⟩), .pointer (some ⟨b1, 0, none⟩)]
abbrev XA := Option Addr → Nat → Nat → Nat → Nat → Value → Value → Int → World → Prop
abbrev XB := Option Addr → Nat → Nat → Nat → Nat → Value → Value → Int → Option Addr → Option Addr → World → Prop
abbrev XC := Option Addr → Nat → Nat → Nat → Nat → Value → Value → Int → Option Addr → Option Addr → Int → World → Prop
def isEm (c : UInt8) : Prop := c = 42 ∨ c = 95
theorem bt0 {t : List UInt8} {c : UInt8} (h : t.head? = some c) : bt (bs t) 0 = (c.toNat : Int) := by
  cases t with
  | nil => simp at h
  | cons x t => simp at h; subst h; rfl
theorem head_ne {t : List UInt8} {c : UInt8} (h : t.head? = some c) : t ≠ [] := by intro h0; subst h0; simp at h
theorem head_pos {t : List UInt8} {c : UInt8} (h : t.head? = some c) : 0 < ((bs t).size : Int) := by
  cases t with
  | nil => simp at h
  | cons x t => simp
def dOf (t s : List UInt8) : Nat := if 2 ≤ t.length ∧ 2 ≤ s.length then 2 else 1

theorem search_ok {Xa : XA} {Xb : XB} {Xc : XC} {b1 b3 pb ix off : Nat} {t : List UInt8} {c : UInt8} {co cc : Bool} {pi n x10 : Int} {pe : TypeId} {dst : List Inl} {S : List STK} {s : STK} {rvs : List Value} {sq : Option Addr} {sn sc : Nat} {SR : List Chunk}
    (h : EM σ b1 b3 pb t co cc pi n pe dst S rvs off sq sn sc SR L w) (htc : t.head? = some c) (hc : isEm c) (hn : 0 ≤ n ∧ n ≤ 1000000000) (hs : S[ix]? = some s)
    (hXc : ∀ x16 w, g_parseState_emph.bl3 R Xa Xb Xc sq sn sc b1 b3 cl1 (cl2 b3 b1) x10 (some ⟨pb, 0, none⟩) (some ⟨b3, ix, none⟩) x16 w → Xc sq sn sc b1 b3 cl1 (cl2 b3 b1) x10 (some ⟨pb, 0, none⟩) (some ⟨b3, ix, none⟩) x16 w)
    (hnone : (∀ e ∈ s.ent, cand co cc n dst e.2 = false) → ∀ w, EM σ b1 b3 pb t co cc pi n pe dst S rvs off sq sn sc SR L w → g_parseState_emph.k1 R Xa sq sn sc b1 b3 cl1 (cl2 b3 b1) x10 (some ⟨pb, 0, none⟩) w)
    (hfound : ∀ es1 e es2 st sco scc sn', s.ent = es1 ++ e :: es2 → cand co cc n dst e.2 = true → (∀ x ∈ es2, cand co cc n dst x.2 = false) → dst[e.2]? = some (.emphP st sco scc (e.2 : Nat) sn') → ∀ w, EM σ b1 b3 pb t co cc pi n pe dst S rvs off sq sn sc SR L w →
      g_parseState_emph.k6 R Xa Xb Xc sq sn sc b1 b3 cl1 (cl2 b3 b1) x10 (some ⟨pb, 0, none⟩) (some ⟨b3, ix, none⟩) (some ⟨e.1, 0, none⟩) (dOf t st : Nat) w) :
    Xc sq sn sc b1 b3 cl1 (cl2 b3 b1) x10 (some ⟨pb, 0, none⟩) (some ⟨b3, ix, none⟩) (IntKind.i64.wrap ((s.n : Int) - 1)) w := by
  have hsS : s ∈ S := List.mem_of_getElem? hs
  have hsn : s.n = s.ent.length ∧ s.ent.length < 1000000000 := by
    obtain ⟨dq, dc, dvs, DM, SM, RS, h1, h2, h3, h4, h5, h6, h7⟩ := h
    obtain ⟨A, B, rfl⟩ := List.append_of_mem hsS
    obtain ⟨M1, M2, M3, rfl, _, hok, _⟩ := h2.split
    have := hok.1
    simp at this
    exact ⟨by omega, (h4 s hsS).1⟩
  have key : ∀ (es1 es2 : List (Nat × Nat)) w, s.ent = es1 ++ es2 → (∀ x ∈ es2, cand co cc n dst x.2 = false) → EM σ b1 b3 pb t co cc pi n pe dst S rvs off sq sn sc SR L w →
      Xc sq sn sc b1 b3 cl1 (cl2 b3 b1) x10 (some ⟨pb, 0, none⟩) (some ⟨b3, ix, none⟩) ((es1.length : Int) - 1) w := by
    intro es1
    induction hk : es1.length generalizing es1 with
    | zero =>
      intro es2 w he hno h
      have : es1 = [] := List.eq_nil_of_length_eq_zero hk
      subst this
      refine hXc _ _ (br_false (by simp) ?_)
      exact hnone (by rw [he]; simpa using hno) w h
    | succ k ih =>
      intro es2 w he hno h
      obtain ⟨es1', e, rfl⟩ : ∃ es' e, es1 = es' ++ [e] := by
        rcases List.eq_nil_or_concat es1 with rfl | ⟨es', e, rfl⟩
        · simp at hk
        · exact ⟨es', e, by simp⟩
      simp at hk
      have hx : (((k + 1 : Nat) : Int) - 1) = (k : Int) := by omega
      rw [hx]
      have hsl : s.ent.length = k + 1 + es2.length := by rw [he]; simp; omega
      have hmem : e ∈ s.ent := by rw [he]; simp
      have hnext : cand co cc n dst e.2 = false → ∀ w, EM σ b1 b3 pb t co cc pi n pe dst S rvs off sq sn sc SR L w → Xc sq sn sc b1 b3 cl1 (cl2 b3 b1) x10 (some ⟨pb, 0, none⟩) (some ⟨b3, ix, none⟩) (IntKind.i64.wrap ((k : Int) - 1)) w := by
        intro hbad w h
        rw [i64_in _ (by omega)]
        have := ih es1' hk (e :: es2) w (by rw [he]; simp) (fun x hx => (List.mem_cons.1 hx).elim (fun h => h ▸ hbad) (hno x)) h
        rw [← hk] at this ⊢
        exact this
      have h0 := h
      obtain ⟨dq, dc, dvs, DM, SM, RS, h1, h2, h3, h4, h5, h6, h7⟩ := h
      obtain ⟨st, sco, scc, sn', ty, hd, hch, hn1, hn2, hst⟩ := ((h4 s hsS).2.2 e hmem).chunk h1
      have hcand : cand co cc n dst e.2 = !badEmph co cc n sco scc sn' := by unfold cand; rw [hd]
      refine hXc _ _ (br_true (by simp) (nilP_some ?_))
      have hsc : w.cell? ⟨b3, ix, none⟩ = some (.slice s.q s.n s.c) := by
        refine Sat.ld h7 (.tail _ (.head _)) ?_
        rw [List.getElem?_map, hs]; rfl
      refine ⟨_, _, _, hsc, by omega, by omega, ?_⟩
      obtain ⟨A, B, hAB⟩ := List.append_of_mem hsS
      have h2' := h2
      rw [hAB] at h2'
      obtain ⟨M1, M2, M3, rfl, _, hok, _⟩ := h2'.split
      have hvs : (s.ent.map entV)[k]? = some (.pointer (some ⟨e.1, 0, none⟩)) := by
        rw [he]; simp [entV, hk]
      have hM : Sat σ w (M2 ++ (emC pb t co cc pi n pe :: stkC b3 S :: (b1, cel [.slice dq dvs.length dc] ty_S_Inline) :: (M1 ++ (M3 ++ (DM ++ (RS ++ L)))))) := h7.re (by intro _; simp only [List.append_eq, cnt_append, cnt_cons, cnt_nil] <;> omega)
      refine Sl.loadAt hok hM hvs fun rb hq hcell => ?_
      simp only [Addr.add_lit, Int.toNat_natCast, Nat.mul_one, Nat.zero_add]
      refine ⟨_, hcell, ?_⟩
      refine tk_gen (A := fun w => EM σ b1 b3 pb t co cc pi n pe dst S rvs off sq sn sc SR L w ∧ Sat σ w (emC pb t co cc pi n pe :: stkC b3 S :: (b1, cel [.slice dq dvs.length dc] ty_S_Inline) :: ((M1 ++ (M2 ++ M3)) ++ (DM ++ (RS ++ L))))) ⟨h0.tick, h7.tick⟩ fun w hA => ?_
      obtain ⟨h0, h7⟩ := hA
      have hp : ∀ (k : Nat) (v : Value), ([Value.string (bs t), .bool co, .bool cc, .int .i64 pi, .int .i64 n])[k]? = some v → w.cell? ⟨pb, k, none⟩ = some v := fun k v hv => Sat.ld h7 (.head _) hv
      have hst' : ∀ (k : Nat) (v : Value), ([Value.string (bs st), .bool sco, .bool scc, .int .i64 (e.2 : Nat), .int .i64 sn'])[k]? = some v → w.cell? ⟨e.1, k, none⟩ = some v := fun k v hv =>
        Sat.ld h7 (.tail _ (.tail _ (.tail _ (List.mem_append_right _ (List.mem_append_left _ hch))))) hv
      -- what follows a fitting opener
      have k3 : cand co cc n dst e.2 = true → g_parseState_emph.k3 R Xa Xb Xc sq sn sc b1 b3 cl1 (cl2 b3 b1) x10 (some ⟨pb, 0, none⟩) (some ⟨b3, ix, none⟩) (k : Int) (some ⟨e.1, 0, none⟩) w := by
        intro hgood
        have fnd := fun w h => hfound es1' e es2 st sco scc sn' (by rw [he]; simp) hgood hno hd w h
        refine tk_gen (A := fun w => EM σ b1 b3 pb t co cc pi n pe dst S rvs off sq sn sc SR L w ∧ Sat σ w (emC pb t co cc pi n pe :: stkC b3 S :: (b1, cel [.slice dq dvs.length dc] ty_S_Inline) :: ((M1 ++ (M2 ++ M3)) ++ (DM ++ (RS ++ L))))) ⟨h0.tick, h7.tick⟩ fun w hA => ?_
        obtain ⟨h0, h7⟩ := hA
        have hp : ∀ (k : Nat) (v : Value), ([Value.string (bs t), .bool co, .bool cc, .int .i64 pi, .int .i64 n])[k]? = some v → w.cell? ⟨pb, k, none⟩ = some v := fun k v hv => Sat.ld h7 (.head _) hv
        have hst' : ∀ (k : Nat) (v : Value), ([Value.string (bs st), .bool sco, .bool scc, .int .i64 (e.2 : Nat), .int .i64 sn'])[k]? = some v → w.cell? ⟨e.1, k, none⟩ = some v := fun k v hv =>
          Sat.ld h7 (.tail _ (.tail _ (.tail _ (List.mem_append_right _ (List.mem_append_left _ hch))))) hv
        refine nilP_some ⟨_, hp 0 _ rfl, by omega, head_pos htc, ?_⟩
        rw [bt0 htc]
        refine br_false (by rcases hc with rfl | rfl <;> rfl) ?_
        refine nilP_some ⟨_, hp 0 _ rfl, by omega, head_pos htc, ?_⟩
        rw [bt0 htc]
        refine br_false (by rcases hc with rfl | rfl <;> rfl) ?_
        refine nilP_some ⟨_, hp 0 _ rfl, by omega, head_pos htc, ?_⟩
        rw [bt0 htc]
        refine br_false (by rcases hc with rfl | rfl <;> rfl) ?_
        refine nilP_some ⟨_, hp 0 _ rfl, ?_⟩
        rw [bs_size]
        have fnd := fnd w h0
        unfold dOf at fnd
        by_cases ht2 : 2 ≤ t.length
        · refine br_true (by simp; omega) (nilP_some ⟨_, hst' 0 _ rfl, ?_⟩)
          rw [bs_size]
          by_cases hs2 : 2 ≤ st.length
          · rw [if_pos ⟨ht2, hs2⟩] at fnd
            exact br_true (by simp; omega) fnd
          · rw [if_neg (by omega)] at fnd
            exact br_false (by simp; omega) fnd
        · rw [if_neg (by omega)] at fnd
          exact br_false (by simp; omega) fnd
      have body : nilP (some (⟨pb, 0, none⟩ : Addr)) fun a58 => ∃ (v59 : Bool), w.cell? (a58.add 1) = some (.bool v59) ∧ br v59
          (nilP (some (⟨pb, 0, none⟩ : Addr)) fun a60 => ∃ (v61 : Bool), w.cell? (a60.add 2) = some (.bool v61) ∧ br v61
            (nilP (some (⟨pb, 0, none⟩ : Addr)) fun a62 => nilP (some (⟨e.1, 0, none⟩ : Addr)) fun a63 => ∃ (v64 : Int), w.cell? (a62.add 4) = some (.int .i64 v64) ∧ ∃ (v65 : Int), w.cell? (a63.add 4) = some (.int .i64 v65) ∧
              br ((Int.tmod (IntKind.i64.wrap (v64 + v65)) 3) == 0)
                (nilP (some (⟨pb, 0, none⟩ : Addr)) fun a66 => ∃ (v67 : Int), w.cell? (a66.add 4) = some (.int .i64 v67) ∧ br ((Int.tmod v67 3) != 0) (Xc sq sn sc b1 b3 cl1 (cl2 b3 b1) x10 (some ⟨pb, 0, none⟩) (some ⟨b3, ix, none⟩) (IntKind.i64.wrap ((k : Int) - 1)) w)
                  (nilP (some (⟨e.1, 0, none⟩ : Addr)) fun a68 => ∃ (v69 : Int), w.cell? (a68.add 4) = some (.int .i64 v69) ∧ br ((Int.tmod v69 3) != 0) (Xc sq sn sc b1 b3 cl1 (cl2 b3 b1) x10 (some ⟨pb, 0, none⟩) (some ⟨b3, ix, none⟩) (IntKind.i64.wrap ((k : Int) - 1)) w)
                    (g_parseState_emph.k3 R Xa Xb Xc sq sn sc b1 b3 cl1 (cl2 b3 b1) x10 (some ⟨pb, 0, none⟩) (some ⟨b3, ix, none⟩) (k : Int) (some ⟨e.1, 0, none⟩) w)))
                (g_parseState_emph.k3 R Xa Xb Xc sq sn sc b1 b3 cl1 (cl2 b3 b1) x10 (some ⟨pb, 0, none⟩) (some ⟨b3, ix, none⟩) (k : Int) (some ⟨e.1, 0, none⟩) w))
            (nilP (some (⟨e.1, 0, none⟩ : Addr)) fun a70 => ∃ (v71 : Bool), w.cell? (a70.add 1) = some (.bool v71) ∧ br v71 (nilP (some (⟨e.1, 0, none⟩ : Addr)) fun a72 => ∃ (v73 : Bool), w.cell? (a72.add 2) = some (.bool v73) ∧ br v73
              (nilP (some (⟨pb, 0, none⟩ : Addr)) fun a62 => nilP (some (⟨e.1, 0, none⟩ : Addr)) fun a63 => ∃ (v64 : Int), w.cell? (a62.add 4) = some (.int .i64 v64) ∧ ∃ (v65 : Int), w.cell? (a63.add 4) = some (.int .i64 v65) ∧
                br ((Int.tmod (IntKind.i64.wrap (v64 + v65)) 3) == 0)
                  (nilP (some (⟨pb, 0, none⟩ : Addr)) fun a66 => ∃ (v67 : Int), w.cell? (a66.add 4) = some (.int .i64 v67) ∧ br ((Int.tmod v67 3) != 0) (Xc sq sn sc b1 b3 cl1 (cl2 b3 b1) x10 (some ⟨pb, 0, none⟩) (some ⟨b3, ix, none⟩) (IntKind.i64.wrap ((k : Int) - 1)) w)
                    (nilP (some (⟨e.1, 0, none⟩ : Addr)) fun a68 => ∃ (v69 : Int), w.cell? (a68.add 4) = some (.int .i64 v69) ∧ br ((Int.tmod v69 3) != 0) (Xc sq sn sc b1 b3 cl1 (cl2 b3 b1) x10 (some ⟨pb, 0, none⟩) (some ⟨b3, ix, none⟩) (IntKind.i64.wrap ((k : Int) - 1)) w)
                      (g_parseState_emph.k3 R Xa Xb Xc sq sn sc b1 b3 cl1 (cl2 b3 b1) x10 (some ⟨pb, 0, none⟩) (some ⟨b3, ix, none⟩) (k : Int) (some ⟨e.1, 0, none⟩) w)))
                  (g_parseState_emph.k3 R Xa Xb Xc sq sn sc b1 b3 cl1 (cl2 b3 b1) x10 (some ⟨pb, 0, none⟩) (some ⟨b3, ix, none⟩) (k : Int) (some ⟨e.1, 0, none⟩) w))
              (g_parseState_emph.k3 R Xa Xb Xc sq sn sc b1 b3 cl1 (cl2 b3 b1) x10 (some ⟨pb, 0, none⟩) (some ⟨b3, ix, none⟩) (k : Int) (some ⟨e.1, 0, none⟩) w))
              (g_parseState_emph.k3 R Xa Xb Xc sq sn sc b1 b3 cl1 (cl2 b3 b1) x10 (some ⟨pb, 0, none⟩) (some ⟨b3, ix, none⟩) (k : Int) (some ⟨e.1, 0, none⟩) w)))
          (nilP (some (⟨e.1, 0, none⟩ : Addr)) fun a70 => ∃ (v71 : Bool), w.cell? (a70.add 1) = some (.bool v71) ∧ br v71 (nilP (some (⟨e.1, 0, none⟩ : Addr)) fun a72 => ∃ (v73 : Bool), w.cell? (a72.add 2) = some (.bool v73) ∧ br v73
              (nilP (some (⟨pb, 0, none⟩ : Addr)) fun a62 => nilP (some (⟨e.1, 0, none⟩ : Addr)) fun a63 => ∃ (v64 : Int), w.cell? (a62.add 4) = some (.int .i64 v64) ∧ ∃ (v65 : Int), w.cell? (a63.add 4) = some (.int .i64 v65) ∧
                br ((Int.tmod (IntKind.i64.wrap (v64 + v65)) 3) == 0)
                  (nilP (some (⟨pb, 0, none⟩ : Addr)) fun a66 => ∃ (v67 : Int), w.cell? (a66.add 4) = some (.int .i64 v67) ∧ br ((Int.tmod v67 3) != 0) (Xc sq sn sc b1 b3 cl1 (cl2 b3 b1) x10 (some ⟨pb, 0, none⟩) (some ⟨b3, ix, none⟩) (IntKind.i64.wrap ((k : Int) - 1)) w)
                    (nilP (some (⟨e.1, 0, none⟩ : Addr)) fun a68 => ∃ (v69 : Int), w.cell? (a68.add 4) = some (.int .i64 v69) ∧ br ((Int.tmod v69 3) != 0) (Xc sq sn sc b1 b3 cl1 (cl2 b3 b1) x10 (some ⟨pb, 0, none⟩) (some ⟨b3, ix, none⟩) (IntKind.i64.wrap ((k : Int) - 1)) w)
                      (g_parseState_emph.k3 R Xa Xb Xc sq sn sc b1 b3 cl1 (cl2 b3 b1) x10 (some ⟨pb, 0, none⟩) (some ⟨b3, ix, none⟩) (k : Int) (some ⟨e.1, 0, none⟩) w)))
                  (g_parseState_emph.k3 R Xa Xb Xc sq sn sc b1 b3 cl1 (cl2 b3 b1) x10 (some ⟨pb, 0, none⟩) (some ⟨b3, ix, none⟩) (k : Int) (some ⟨e.1, 0, none⟩) w))
              (g_parseState_emph.k3 R Xa Xb Xc sq sn sc b1 b3 cl1 (cl2 b3 b1) x10 (some ⟨pb, 0, none⟩) (some ⟨b3, ix, none⟩) (k : Int) (some ⟨e.1, 0, none⟩) w))
              (g_parseState_emph.k3 R Xa Xb Xc sq sn sc b1 b3 cl1 (cl2 b3 b1) x10 (some ⟨pb, 0, none⟩) (some ⟨b3, ix, none⟩) (k : Int) (some ⟨e.1, 0, none⟩) w)) := by
        have tp : (co && cc || sco && scc) = true → if Int.tmod (n + sn') 3 == 0 && (Int.tmod n 3 != 0 || Int.tmod sn' 3 != 0) then (Xc sq sn sc b1 b3 cl1 (cl2 b3 b1) x10 (some ⟨pb, 0, none⟩) (some ⟨b3, ix, none⟩) (IntKind.i64.wrap ((k : Int) - 1)) w)
            else (g_parseState_emph.k3 R Xa Xb Xc sq sn sc b1 b3 cl1 (cl2 b3 b1) x10 (some ⟨pb, 0, none⟩) (some ⟨b3, ix, none⟩) (k : Int) (some ⟨e.1, 0, none⟩) w) := by
          intro hcc
          split
          · rename_i hb
            exact hnext (by rw [hcand]; unfold badEmph; rw [hcc, hb]; rfl) w h0
          · rename_i hb
            exact k3 (by rw [hcand]; unfold badEmph; rw [hcc]; simp only [Bool.not_eq_true] at hb; rw [hb]; rfl)
        refine nilP_some ⟨co, hp 1 _ rfl, ?_⟩
        cases hco : co with
        | false => exact br_false rfl (uPart (hst' 1 _ rfl) (hst' 2 _ rfl) (by
            split
            · rename_i hb; exact tPart hn ⟨hn1, hn2⟩ (hp 4 _ rfl) (hst' 4 _ rfl) (tp (by rw [hb]; simp))
            · rename_i hb; simp only [Bool.not_eq_true] at hb; exact k3 (by rw [hcand]; unfold badEmph; rw [hco, hb]; rfl)))
        | true =>
          refine br_true rfl (nilP_some ⟨cc, hp 2 _ rfl, ?_⟩)
          cases hcc : cc with
          | false => exact br_false rfl (uPart (hst' 1 _ rfl) (hst' 2 _ rfl) (by
            split
            · rename_i hb; exact tPart hn ⟨hn1, hn2⟩ (hp 4 _ rfl) (hst' 4 _ rfl) (tp (by rw [hb]; simp))
            · rename_i hb; simp only [Bool.not_eq_true] at hb; exact k3 (by rw [hcand]; unfold badEmph; rw [hco, hcc, hb]; rfl)))
          | true => exact br_true rfl (tPart hn ⟨hn1, hn2⟩ (hp 4 _ rfl) (hst' 4 _ rfl) (tp (by rw [hco, hcc]; rfl)))
      refine nilP_some ⟨_, hp 0 _ rfl, by omega, head_pos htc, ?_⟩
      rw [bt0 htc]
      rcases hc with rfl | rfl
      · exact br_true rfl body
      · refine br_false rfl (nilP_some ⟨_, hp 0 _ rfl, by omega, head_pos htc, ?_⟩)
        rw [bt0 htc]
        exact br_true rfl body
  rw [hsn.1, i64_in _ (by omega)]
  exact key s.ent [] w (by simp) (by simp) h
end Go.Proofs.YtmkfleohcnopkaaGreatDoor

/- emph: an opener and a closer meet. -/
set_option linter.unusedVariables false
namespace Go.Proofs.YtmkfleohcnopkaaGreatDoor
open Go.Proofs Go.IntWalk Go.RowKit
variable {σ : Out} {w : World} {L L' : List Chunk} {R : Ending → World → Prop}
def cutS (st : List UInt8) (d : Nat) : List UInt8 := st.take (st.length - d)
def d1Of (dst : List Inl) (j : Nat) (s' : List UInt8) (sco scc : Bool) (si sn : Int) : List Inl := dst.take j ++ (if s' = [] then [] else [.emphP s' sco scc si sn])
def xOf (t : List UInt8) (d : Nat) (inner : List Inl) : Inl := if d = 2 then Inl.strong (t.take d) inner else .emph (t.take d) inner
theorem bs_nil_eq (s : List UInt8) : ((bs s).toList == (ByteArray.mk #[]).toList) = decide (s = []) := by
  rw [bs_toList, mk_toList, Bool.eq_iff_iff]; simp
theorem InlAt.oneCell {t : Inl} {v : Value} {M : List Chunk} (h : InlAt t v M) : v.oneCell' = true := by
  obtain ⟨b, _, _, _, rfl, _⟩ := h.ptr; rfl
theorem InlsAt.oneCell {ts : List Inl} {vs : List Value} {M : List Chunk} (h : InlsAt ts vs M) : ∀ v ∈ vs, v.oneCell' = true := by
  intro v hv
  obtain ⟨j, hj⟩ := List.mem_iff_getElem?.1 hv
  have hl := h.length
  have hjl := (List.getElem?_eq_some_iff.1 hj).1
  obtain ⟨v', Mj, h1, h2, _⟩ := h.get (List.getElem?_eq_getElem (show j < ts.length by omega))
  rw [hj] at h1
  obtain rfl := Option.some.inj h1
  exact h2.oneCell
theorem step_ok {Xa : XA} {Xb : XB} {Xc : XC} {b1 b3 pb ix off : Nat} {t st : List UInt8} {c : UInt8} {co cc sco scc : Bool} {pi n x10 sn' : Int} {pe : TypeId} {dst : List Inl} {S : List STK} {s : STK} {rvs : List Value} {sq : Option Addr} {sn sc : Nat} {SR : List Chunk} {e : Nat × Nat}
    (h : EM σ b1 b3 pb t co cc pi n pe dst S rvs off sq sn sc SR L w) (htc : t.head? = some c) (hc : isEm c) (hs : S[ix]? = some s) (hse : e ∈ s.ent) (hd : dst[e.2]? = some (.emphP st sco scc (e.2 : Nat) sn')) (hin : e.2 + 1 < dst.length) (hoff : dst.length ≤ off) (htl : t.length < 1000000000)
    (hK : ∀ w, EM σ b1 b3 pb (t.drop (dOf t st)) co cc pi n pe (d1Of dst e.2 (cutS st (dOf t st)) sco scc (e.2 : Nat) sn' ++ [xOf t (dOf t st) (dst.drop (e.2 + 1))]) (S.map (STK.trim (d1Of dst e.2 (cutS st (dOf t st)) sco scc (e.2 : Nat) sn').length)) rvs off sq sn sc SR L w →
      Xb sq sn sc b1 b3 cl1 (cl2 b3 b1) x10 (some ⟨pb, 0, none⟩) (some ⟨b3, ix, none⟩) w) :
    g_parseState_emph.k6 R Xa Xb Xc sq sn sc b1 b3 cl1 (cl2 b3 b1) x10 (some ⟨pb, 0, none⟩) (some ⟨b3, ix, none⟩) (some ⟨e.1, 0, none⟩) (dOf t st : Nat) w := by
  obtain ⟨dq, dc, dvs, DM, SM, RS, hI, hSt, h5, hSI, hD, hdl, h⟩ := h
  have hsS : s ∈ S := List.mem_of_getElem? hs
  have hEe := (hSI s hsS).2.2 e hse
  have hvl := hI.length
  have hone := hI.oneCell
  have hsp : dst = dst.take e.2 ++ (.emphP st sco scc (e.2 : Nat) sn') :: dst.drop (e.2 + 1) := by
    have hj : e.2 < dst.length := by omega
    have hg : dst[e.2] = .emphP st sco scc (e.2 : Nat) sn' := by rw [List.getElem?_eq_getElem hj] at hd; exact Option.some.inj hd
    rw [← hg, ← List.drop_eq_getElem_cons hj, List.take_append_drop]
  have hI' := hI
  rw [hsp] at hI'
  obtain ⟨vs1, v, vs2, D1, D2, D3, hdv, rfl, hI1, hv, hI3⟩ := hI'.mid
  have hl1 : vs1.length = e.2 := by have := hI1.length; rw [List.length_take] at this; omega
  obtain ⟨sb, se, rfl, rfl⟩ := hv
  have hsb : sb = e.1 := by
    obtain ⟨_, _, _, _, _, h2, _⟩ := hEe
    rw [hdv, List.getElem?_append_right (by omega), hl1] at h2
    simp at h2
    exact ptrV_inj h2
  subst hsb
  obtain ⟨hst0, hsn0, hsn1, hsl⟩ : st ≠ [] ∧ 0 ≤ sn' ∧ sn' ≤ 1000000000 ∧ st.length < 1000000000 := by
    obtain ⟨t', co', cc', n', h1, h2, h3, h4, h5⟩ := hEe
    rw [hd] at h1
    simp only [Option.some.injEq, Inl.emphP.injEq] at h1
    obtain ⟨rfl, rfl, rfl, _, rfl⟩ := h1
    exact ⟨h5.1, h3, h4, h5.2⟩
  have htp := List.length_pos_iff.2 (head_ne htc)
  have hstp := List.length_pos_iff.2 hst0
  generalize hdd : dOf t st = d at hK ⊢
  have hd12 : (d = 1 ∨ d = 2) ∧ d ≤ t.length ∧ d ≤ st.length := by
    rw [← hdd]; unfold dOf; split <;> omega
  obtain ⟨hd12, hdt, hds⟩ := hd12
  have hdrop : dvs.drop (e.2 + 1) = vs2 := by rw [hdv, List.drop_append, List.drop_eq_nil_of_le (by omega), hl1]; simp
  have htake : dvs.take e.2 = vs1 := by rw [hdv, List.take_append_of_le_length (by omega), List.take_of_length_le (by omega)]
  have htake1 : dvs.take (e.2 + 1) = vs1 ++ [ptrV ty_P_emphPlain e.1] := by
    rw [hdv, List.take_append, List.take_of_length_le (by omega), hl1]; simp
  have h : Sat σ w (emC pb t co cc pi n pe :: stkC b3 S :: (b1, cel [.slice dq dvs.length dc] ty_S_Inline) :: (SM ++ ((D1 ++ ([emC e.1 st sco scc (e.2 : Nat) sn' se] ++ D3)) ++ (RS ++ L)))) := h
  have h : Sat σ w (emC pb t co cc pi n pe :: emC e.1 st sco scc (e.2 : Nat) sn' se :: (b1, cel [.slice dq dvs.length dc] ty_S_Inline) :: stkC b3 S :: (SM ++ (D1 ++ (D3 ++ (RS ++ L))))) := h.re (by intro _; simp only [List.append_eq, cnt_append, cnt_cons, cnt_nil] <;> omega)
  refine nilP_some ⟨_, Sat.ld h (.head _) rfl, by omega, head_pos htc, ?_⟩
  refine Sat.tk h fun w h => ?_
  refine nilP_some (nilP_some ?_)
  refine ⟨_, Sat.ld h (.head _) rfl, by omega, by rw [bs_size]; omega, ?_⟩
  refine ⟨_, _, _, Sat.ld h (.tail _ (.tail _ (.head _))) rfl, ?_⟩
  refine ⟨_, Sat.ld h (.tail _ (.head _)) rfl, ?_⟩
  have e1 : IntKind.i64.wrap (((e.2 : Nat) : Int) + 1) = ((e.2 + 1 : Nat) : Int) := i64_inc (by omega)
  rw [e1]
  have h0 := h
  have hr : Sat σ w (RS ++ (emC pb t co cc pi n pe :: emC e.1 st sco scc (e.2 : Nat) sn' se :: (b1, cel [.slice dq dvs.length dc] ty_S_Inline) :: stkC b3 S :: (SM ++ (D1 ++ (D3 ++ L))))) := h.re (by intro _; simp only [List.append_eq, cnt_append, cnt_cons, cnt_nil] <;> omega)
  refine hD.copy hr (k := e.2 + 1) (by omega) (by omega) hone (C := fun w1 => SameC _ w1 _ 1) (fun w1 X hw => h0.same hw (.head _) (List.mem_append_right _ (List.mem_append_right _ (.head _))) 1) fun q n2 c2 w M hSl h => ?_
  rw [hdrop] at hSl
  have h : Sat σ w (emC pb t co cc pi n pe :: emC e.1 st sco scc (e.2 : Nat) sn' se :: (b1, cel [.slice dq dvs.length dc] ty_S_Inline) :: stkC b3 S :: (SM ++ (D1 ++ (M ++ (D3 ++ (RS ++ L)))))) := h.re (by intro _; simp only [List.append_eq, cnt_append, cnt_cons, cnt_nil] <;> omega)
  refine Sat.bx h fun xb w h => ?_
  rw [Int.toNat_natCast, bs_extract, List.drop_zero] at h
  have h : Sat σ w (emC pb t co cc pi n pe :: emC e.1 st sco scc (e.2 : Nat) sn' se :: (b1, cel [.slice dq dvs.length dc] ty_S_Inline) :: stkC b3 S :: (SM ++ (D1 ++ ((xb, cel [.string (bs (t.take d)), .slice q n2 c2] ty_Emph) :: (M ++ (D3 ++ (RS ++ L))))))) := h.re (by intro _; simp only [List.append_eq, cnt_append, cnt_cons, cnt_nil] <;> omega)
  refine Sat.tk h fun w h => ?_
  refine nilP_some (nilP_some ?_)
  refine ⟨_, Sat.ld h (.tail _ (.head _)) rfl, _, Sat.ld h (.tail _ (.head _)) rfl, ?_⟩
  have e2 : IntKind.i64.wrap (((bs st).size : Int) - (d : Int)) = ((st.length - d : Nat) : Int) := by rw [bs_size, i64_in _ (by omega)]; omega
  rw [e2, bs_size]
  refine ⟨by omega, by omega, nilP_some ?_⟩
  rw [Int.toNat_natCast, bs_extract, List.drop_zero]
  refine Sat.st h (k := 1) rfl (Nat.le_of_ble_eq_true rfl) trivial (by first | (dsimp only [List.set]; exact rfl) | exact rfl) fun w h => ?_
  have h : Sat σ w (emC pb t co cc pi n pe :: emC e.1 (cutS st d) sco scc (e.2 : Nat) sn' se :: (b1, cel [.slice dq dvs.length dc] ty_S_Inline) :: stkC b3 S :: (SM ++ (D1 ++ ((xb, cel [.string (bs (t.take d)), .slice q n2 c2] ty_Emph) :: (M ++ (D3 ++ (RS ++ L))))))) := h
  refine nilP_some ⟨_, Sat.ld h (.head _) rfl, by omega, by rw [bs_size]; omega, nilP_some ?_⟩
  rw [bs_size, Int.toNat_natCast, bs_ext]
  refine Sat.st h (k := 0) rfl (Nat.le_of_ble_eq_true rfl) trivial (by first | (dsimp only [List.set]; exact rfl) | exact rfl) fun w h => ?_
  have h : Sat σ w (emC pb (t.drop d) co cc pi n pe :: emC e.1 (cutS st d) sco scc (e.2 : Nat) sn' se :: (b1, cel [.slice dq dvs.length dc] ty_S_Inline) :: stkC b3 S :: (SM ++ (D1 ++ ((xb, cel [.string (bs (t.take d)), .slice q n2 c2] ty_Emph) :: (M ++ (D3 ++ (RS ++ L))))))) := h
  refine nilP_some ⟨_, Sat.ld h (.tail _ (.head _)) rfl, ?_⟩
  rw [bs_nil_eq]
  -- the rest, once the output is cut
  have rest : ∀ (m : Nat) w, m = (d1Of dst e.2 (cutS st d) sco scc (e.2 : Nat) sn').length → m ≤ e.2 + 1 →
      (∃ DM1, InlsAt (d1Of dst e.2 (cutS st d) sco scc (e.2 : Nat) sn') (dvs.take m) DM1 ∧ ∃ G, (∀ a, cnt a (emC e.1 (cutS st d) sco scc (e.2 : Nat) sn' se :: D1) = cnt a (G ++ DM1))) →
      Sat σ w (emC pb (t.drop d) co cc pi n pe :: emC e.1 (cutS st d) sco scc (e.2 : Nat) sn' se :: (b1, cel [.slice dq m dc] ty_S_Inline) :: stkC b3 S :: (SM ++ (D1 ++ ((xb, cel [.string (bs (t.take d)), .slice q n2 c2] ty_Emph) :: (M ++ (D3 ++ (RS ++ L))))))) →
      g_parseState_emph.k7 R Xa Xb Xc sq sn sc b1 b3 cl1 (cl2 b3 b1) x10 (some ⟨pb, 0, none⟩) (some ⟨b3, ix, none⟩) (d : Nat) ((bt (bs t) 0) == 126) (some ⟨xb, 0, none⟩) w := by
    intro m w hm hme hDM h
    obtain ⟨DM1, hI4, G, hG⟩ := hDM
    refine enter_fn ?_
    have h : Sat σ w (stkC b3 S :: (b1, cel [.slice dq m dc] ty_S_Inline) :: (SM ++ (emC e.1 (cutS st d) sco scc (e.2 : Nat) sn' se :: (D1 ++ (D3 ++ (emC pb (t.drop d) co cc pi n pe :: (xb, cel [.string (bs (t.take d)), .slice q n2 c2] ty_Emph) :: (M ++ (RS ++ L)))))))) := h.re (by intro _; simp only [List.append_eq, cnt_append, cnt_cons, cnt_nil] <;> omega)
    have hEO : ∀ s ∈ S, EntsOK s.ent (emC e.1 (cutS st d) sco scc (e.2 : Nat) sn' se :: (D1 ++ (D3 ++ (emC pb (t.drop d) co cc pi n pe :: (xb, cel [.string (bs (t.take d)), .slice q n2 c2] ty_Emph) :: (M ++ (RS ++ L)))))) := by
      intro s' hs' x hx
      obtain ⟨t', co', cc', n', ty, h1, h2, _⟩ := ((hSI s' hs').2.2 x hx).chunk hI
      rcases List.mem_append.1 h2 with h2 | h2
      · exact ⟨_, ty, .tail _ (List.mem_append_left _ h2), rfl⟩
      · rcases List.mem_append.1 h2 with h2 | h2
        · simp only [List.mem_singleton] at h2
          have hx1 : x.1 = e.1 := by have := congrArg (fun c : Chunk => c.1) h2; exact this
          have hx2 : (x.2 : Int) = (e.2 : Int) := by
            have := congrArg (fun c : Chunk => c.2) h2
            simp only [emC, cel, Obj.cells.injEq] at this
            have := congrArg Array.toList this.1
            simp only [List.cons.injEq, Value.int.injEq, true_and] at this
            exact this.2.2.2.1
          have hx3 : x.2 = e.2 := by omega
          exact ⟨_, se, by rw [hx1]; exact .head _, by rw [hx3]; rfl⟩
        · exact ⟨_, ty, .tail _ (List.mem_append_right _ (List.mem_append_left _ h2)), rfl⟩
    refine trimStk_ok h5 hSt hEO (fun s hs => (hSI s hs).1) h fun w SM' hSt' h => ⟨rfl, ?_⟩
    rw [bt0 htc]
    refine br_false (by rcases hc with rfl | rfl <;> rfl) ?_
    have hlen1 : (dvs.take m).length = m := by rw [List.length_take]; omega
    have hD1 := hD.take (k := m) (by omega)
    have hSI' : StkIn (d1Of dst e.2 (cutS st d) sco scc (e.2 : Nat) sn' ++ [xOf t d (dst.drop (e.2 + 1))]) (dvs.take m ++ [ptrV (if d = 2 then ty_P_Strong else ty_P_Emph) xb]) (S.map (STK.trim m)) := by
      intro s' hs'
      obtain ⟨s0, hs0, rfl⟩ := List.mem_map.1 hs'
      obtain ⟨a1, a2, a3⟩ := hSI s0 hs0
      refine ⟨Nat.lt_of_le_of_lt (trimE_len m s0.ent) a1, trimE_pw a2, fun x hx => ?_⟩
      have hxm := trimE_lt a2 x hx
      obtain ⟨t', co', cc', n', g1, g2, g3, g4, g5⟩ := a3 x (trimE_sub hx)
      have hv2 : (dvs.take m ++ [ptrV (if d = 2 then ty_P_Strong else ty_P_Emph) xb])[x.2]? = some (ptrV ty_P_emphPlain x.1) := by
        rw [List.getElem?_append_left (by omega), List.getElem?_take_of_lt hxm]; exact g2
      by_cases hxe : x.2 < e.2
      · refine ⟨t', co', cc', n', ?_, hv2, g3, g4, g5⟩
        unfold d1Of
        rw [List.append_assoc, List.getElem?_append_left (by rw [List.length_take]; omega), List.getElem?_take_of_lt hxe]
        exact g1
      · have hxe : x.2 = e.2 := by omega
        have hne : cutS st d ≠ [] := by
          intro h0
          unfold d1Of at hm
          rw [h0, if_pos rfl, List.append_nil, List.length_take] at hm
          omega
        refine ⟨cutS st d, sco, scc, sn', ?_, hv2, hsn0, hsn1, hne, by unfold cutS; rw [List.length_take]; omega⟩
        unfold d1Of
        rw [if_neg hne, List.append_assoc, List.getElem?_append_right (by rw [List.length_take]; omega), hxe, List.length_take, Nat.min_eq_left (by omega), Nat.sub_self]
        rfl
    have fin : ∀ w (ty : TypeId), ty = (if d = 2 then ty_P_Strong else ty_P_Emph) → ∀ dq' dc' RS', DRow dq' dc' (dvs.take m ++ [ptrV ty xb]) rvs off sq sn sc SR RS' →
        Sat σ w ((b1, cel [.slice dq' (m + 1) dc'] ty_S_Inline) :: stkC b3 (S.map (STK.trim m)) :: (SM' ++ (emC e.1 (cutS st d) sco scc (e.2 : Nat) sn' se :: (D1 ++ (D3 ++ (emC pb (t.drop d) co cc pi n pe :: (xb, cel [.string (bs (t.take d)), .slice q n2 c2] ty_Emph) :: (M ++ (RS' ++ L)))))))) →
        Xb sq sn sc b1 b3 cl1 (cl2 b3 b1) x10 (some ⟨pb, 0, none⟩) (some ⟨b3, ix, none⟩) w := by
      intro w ty hty dq' dc' RS' hD' h
      subst hty
      refine hK w ⟨dq', dc', _, DM1 ++ ((xb, cel [.string (bs (t.take d)), .slice q n2 c2] ty_Emph) :: (M ++ D3)), SM', RS', hI4.append (InlsAt.one ?_), by rw [← hm]; exact hSt', by rw [List.length_map]; exact h5, by rw [← hm]; exact hSI', hD', ?_, ?_⟩
      · unfold xOf
        split
        · exact ⟨xb, _, q, n2, c2, vs2, M, D3, rfl, rfl, hSl, hI3⟩
        · exact ⟨xb, _, q, n2, c2, vs2, M, D3, rfl, rfl, hSl, hI3⟩
      · rw [List.length_append, ← hm]; simp; omega
      · rw [List.length_append, hlen1]
        rw [← hm]
        have h : Sat σ w ((emC e.1 (cutS st d) sco scc (e.2 : Nat) sn' se :: D1) ++ (emC pb (t.drop d) co cc pi n pe :: stkC b3 (S.map (STK.trim m)) :: (b1, cel [.slice dq' (m + 1) dc'] ty_S_Inline) :: (SM' ++ (D3 ++ ((xb, cel [.string (bs (t.take d)), .slice q n2 c2] ty_Emph) :: (M ++ (RS' ++ L))))))) := h.re (by intro _; simp only [List.append_eq, cnt_append, cnt_cons, cnt_nil] <;> omega)
        refine h.less G fun a => ?_
        have := hG a
        simp only [cnt_append, cnt_cons] at this ⊢
        simp only [List.length_singleton]
        omega
    have h : Sat σ w (RS ++ ((b1, cel [.slice dq m dc] ty_S_Inline) :: stkC b3 (S.map (STK.trim m)) :: (SM' ++ (emC e.1 (cutS st d) sco scc (e.2 : Nat) sn' se :: (D1 ++ (D3 ++ (emC pb (t.drop d) co cc pi n pe :: (xb, cel [.string (bs (t.take d)), .slice q n2 c2] ty_Emph) :: (M ++ L)))))))) := h.re (by intro _; simp only [List.append_eq, cnt_append, cnt_cons, cnt_nil] <;> omega)
    have hb1 : w.cell? ⟨b1, 0, none⟩ = some (.slice dq m dc) := Sat.ld h (List.mem_append_right _ (.head _)) rfl
    rcases hd12 with rfl | rfl
    · refine br_false rfl ⟨dq, m, dc, hb1, ?_⟩
      have := hD1.app (ty := ty_S_Inline) (t := ty_P_Emph) (b := xb) h (by omega) (by omega) (C := fun _ => True) (fun _ _ _ => trivial) (K := fun q' n' c' w' => stV w' ⟨b1, 0, none⟩ (.slice q' n' c') fun w => Xb sq sn sc b1 b3 cl1 (cl2 b3 b1) x10 (some ⟨pb, 0, none⟩) (some ⟨b3, ix, none⟩) w) (fun dq' dc' RS' w' hD' h => by
        have h : Sat σ w' ((b1, cel [.slice dq m dc] ty_S_Inline) :: stkC b3 (S.map (STK.trim m)) :: (SM' ++ (emC e.1 (cutS st 1) sco scc (e.2 : Nat) sn' se :: (D1 ++ (D3 ++ (emC pb (t.drop 1) co cc pi n pe :: (xb, cel [.string (bs (t.take 1)), .slice q n2 c2] ty_Emph) :: (M ++ (RS' ++ L)))))))) := h.re (by intro _; simp only [List.append_eq, cnt_append, cnt_cons, cnt_nil] <;> omega)
        rw [hlen1]
        refine Sat.st h (k := 0) rfl (Nat.zero_lt_succ _) trivial rfl fun w h => ?_
        exact fin w ty_P_Emph rfl dq' dc' RS' hD' h)
      rw [hlen1] at this
      obtain ⟨a, b, c, w1, r1, _, r2⟩ := this
      exact ⟨a, b, c, w1, r1, r2⟩
    · refine br_true rfl ⟨dq, m, dc, hb1, ?_⟩
      have := hD1.app (ty := ty_S_Inline) (t := ty_P_Strong) (b := xb) h (by omega) (by omega) (C := fun _ => True) (fun _ _ _ => trivial) (K := fun q' n' c' w' => stV w' ⟨b1, 0, none⟩ (.slice q' n' c') fun w => Xb sq sn sc b1 b3 cl1 (cl2 b3 b1) x10 (some ⟨pb, 0, none⟩) (some ⟨b3, ix, none⟩) w) (fun dq' dc' RS' w' hD' h => by
        have h : Sat σ w' ((b1, cel [.slice dq m dc] ty_S_Inline) :: stkC b3 (S.map (STK.trim m)) :: (SM' ++ (emC e.1 (cutS st 2) sco scc (e.2 : Nat) sn' se :: (D1 ++ (D3 ++ (emC pb (t.drop 2) co cc pi n pe :: (xb, cel [.string (bs (t.take 2)), .slice q n2 c2] ty_Emph) :: (M ++ (RS' ++ L)))))))) := h.re (by intro _; simp only [List.append_eq, cnt_append, cnt_cons, cnt_nil] <;> omega)
        rw [hlen1]
        refine Sat.st h (k := 0) rfl (Nat.zero_lt_succ _) trivial rfl fun w h => ?_
        exact fin w ty_P_Strong rfl dq' dc' RS' hD' h)
      rw [hlen1] at this
      obtain ⟨a, b, c, w1, r1, _, r2⟩ := this
      exact ⟨a, b, c, w1, r1, r2⟩
  by_cases hcut : cutS st d = []
  · refine br_true (by simpa using hcut) ?_
    refine Sat.tk h fun w h => ?_
    refine nilP_some ⟨_, _, _, Sat.ld h (.tail _ (.tail _ (.head _))) rfl, _, Sat.ld h (.tail _ (.head _)) rfl, ?_⟩
    have hdle := hD.2.1
    refine ⟨_, _, _, fun w => sliceT rowInl.ht rowInl.hi _ _ _ e.2 (by omega) w, ?_⟩
    refine Sat.st h (k := 2) rfl (Nat.zero_lt_succ _) trivial rfl fun w h => ?_
    refine rest e.2 w ?_ (by omega) ⟨D1, ?_, [emC e.1 (cutS st d) sco scc (e.2 : Nat) sn' se], fun a => rfl⟩ h
    · unfold d1Of; rw [if_pos hcut, List.append_nil, List.length_take]; omega
    · unfold d1Of; rw [if_pos hcut, List.append_nil, htake]; exact hI1
  · refine br_false (by simpa using hcut) ?_
    refine Sat.tk h fun w h => ?_
    refine nilP_some ⟨_, _, _, Sat.ld h (.tail _ (.tail _ (.head _))) rfl, _, Sat.ld h (.tail _ (.head _)) rfl, ?_⟩
    have hdle := hD.2.1
    rw [e1]
    refine ⟨_, _, _, fun w => sliceT rowInl.ht rowInl.hi _ _ _ (e.2 + 1) (by omega) w, ?_⟩
    refine Sat.st h (k := 2) rfl (Nat.zero_lt_succ _) trivial rfl fun w h => ?_
    refine rest (e.2 + 1) w ?_ (by omega) ⟨D1 ++ [emC e.1 (cutS st d) sco scc (e.2 : Nat) sn' se], ?_, [], fun a => ?_⟩ h
    · unfold d1Of; rw [if_neg hcut, List.length_append, List.length_take]; simp; omega
    · unfold d1Of; rw [if_neg hcut, htake1]; exact hI1.append (InlsAt.one ⟨e.1, se, rfl, rfl⟩)
    · simp only [cnt_append, cnt_cons, cnt_nil, List.nil_append]; omega
end Go.Proofs.YtmkfleohcnopkaaGreatDoor

/- emph: the loop that closes, and the whole. -/
set_option linter.unusedVariables false
namespace Go.Proofs.YtmkfleohcnopkaaGreatDoor
open Go.Proofs Go.IntWalk Go.RowKit
variable {σ : Out} {w : World} {L L' : List Chunk} {R : Ending → World → Prop}
theorem idxs_get {S : List STK} {ix : Nat} {s : STK} (hs : S[ix]? = some s) : (idxs S).getD ix [] = s.ent.map Prod.snd := by
  rw [List.getD_eq_getElem?_getD]
  simp [idxs, hs]
theorem find_none {p : Nat → Bool} {es : List (Nat × Nat)} (h : ∀ e ∈ es, p e.2 = false) : (es.map Prod.snd).reverse.find? p = none := by
  rw [List.find?_eq_none]
  intro x hx
  rw [List.mem_reverse] at hx
  obtain ⟨e, he, rfl⟩ := List.mem_map.1 hx
  simp [h e he]
theorem find_some {p : Nat → Bool} {es1 es2 : List (Nat × Nat)} {e : Nat × Nat} (h1 : p e.2 = true) (h2 : ∀ x ∈ es2, p x.2 = false) : ((es1 ++ e :: es2).map Prod.snd).reverse.find? p = some e.2 := by
  rw [List.map_append, List.reverse_append, List.map_cons, List.reverse_cons, List.append_assoc, List.find?_append, find_none h2]
  simp [h1]
def AllC (c : UInt8) (t : List UInt8) : Prop := ∀ x ∈ t, x = c
theorem AllC.head {c : UInt8} {t : List UInt8} (h : AllC c t) (ht : t ≠ []) : t.head? = some c := by
  cases t with
  | nil => exact absurd rfl ht
  | cons x t => rw [h x (by simp)]; rfl
theorem AllC.drop {c : UInt8} {t : List UInt8} (h : AllC c t) (d : Nat) : AllC c (t.drop d) := fun x hx => h x (List.mem_of_mem_drop hx)
theorem close_ok {Xa : XA} {Xb : XB} {b1 b3 pb ix off : Nat} {c : UInt8} {co cc : Bool} {pi n x10 : Int} {pe : TypeId} {rvs : List Value} {sq : Option Addr} {sn sc : Nat} {SR : List Chunk} (hix : ix < 5) (hc : isEm c) (hn : 0 ≤ n ∧ n ≤ 1000000000)
    (hXb : ∀ w, g_parseState_emph.bl2 R Xa Xb sq sn sc b1 b3 cl1 (cl2 b3 b1) x10 (some ⟨pb, 0, none⟩) (some ⟨b3, ix, none⟩) w → Xb sq sn sc b1 b3 cl1 (cl2 b3 b1) x10 (some ⟨pb, 0, none⟩) (some ⟨b3, ix, none⟩) w) :
    ∀ (f : Nat) (t : List UInt8) (dst : List Inl) (S : List STK) (w : World), t.length ≤ f → AllC c t → t.length < 1000000000 → EM σ b1 b3 pb t co cc pi n pe dst S rvs off sq sn sc SR L w → dst.length ≤ off →
      (∀ s, S[ix]? = some s → ∀ e ∈ s.ent, e.2 + 1 < dst.length) →
      (∀ t' dst' S' w, closeGo ix co cc n f t dst (idxs S) = (t', dst', idxs S') → AllC c t' → t'.length ≤ t.length → EM σ b1 b3 pb t' co cc pi n pe dst' S' rvs off sq sn sc SR L w → dst'.length ≤ off → dst'.length ≤ dst.length →
        (t' = t ∧ dst' = dst ∧ S' = S ∨ ∀ s ∈ S', ∀ e ∈ s.ent, e.2 + 1 < dst'.length) →
        g_parseState_emph.k1 R Xa sq sn sc b1 b3 cl1 (cl2 b3 b1) x10 (some ⟨pb, 0, none⟩) w) →
      Xb sq sn sc b1 b3 cl1 (cl2 b3 b1) x10 (some ⟨pb, 0, none⟩) (some ⟨b3, ix, none⟩) w := by
  intro f
  induction f with
  | zero =>
    intro t dst S w hf hall htl h hoff hlast hk1
    have ht : t = [] := List.eq_nil_of_length_eq_zero (by omega)
    subst ht
    refine hXb _ ?_
    have h0 := h
    obtain ⟨dq, dc, dvs, DM, SM, RS, _, _, _, _, _, _, h⟩ := h
    refine nilP_some ⟨_, Sat.ld h (.head _) rfl, br_false (by rw [bs_nil_eq]; rfl) ?_⟩
    exact hk1 [] dst S w rfl hall (Nat.le_refl _) h0 hoff (Nat.le_refl _) (.inl ⟨rfl, rfl, rfl⟩)
  | succ f ih =>
    intro t dst S w hf hall htl h hoff hlast hk1
    by_cases ht : t = []
    · subst ht
      refine hXb _ ?_
      have h0 := h
      obtain ⟨dq, dc, dvs, DM, SM, RS, _, _, _, _, _, _, h⟩ := h
      refine nilP_some ⟨_, Sat.ld h (.head _) rfl, br_false (by rw [bs_nil_eq]; rfl) ?_⟩
      exact hk1 [] dst S w rfl hall (Nat.le_refl _) h0 hoff (Nat.le_refl _) (.inl ⟨rfl, rfl, rfl⟩)
    have htc := hall.head ht
    refine hXb _ ?_
    have h0 := h
    have h5 : S.length = 5 := by obtain ⟨_, _, _, _, _, _, _, _, h, _⟩ := h; exact h
    have hs : S[ix]? = some S[ix] := List.getElem?_eq_getElem (by omega)
    generalize S[ix] = s at hs
    obtain ⟨dq, dc, dvs, DM, SM, RS, _, _, _, hSI, _, _, hsat⟩ := h
    refine nilP_some ⟨_, Sat.ld hsat (.head _) rfl, br_true (by rw [bs_nil_eq]; simpa using ht) (nilP_some ?_)⟩
    have hsc : w.cell? ⟨b3, ix, none⟩ = some (.slice s.q s.n s.c) := by
      refine Sat.ld hsat (.tail _ (.head _)) ?_
      rw [List.getElem?_map, hs]; rfl
    refine ⟨_, _, _, hsc, ?_⟩
    intro Xc hXc
    refine search_ok h0 htc hc hn hs (fun x16 w hh => hXc _ _ _ _ _ _ _ _ _ _ _ _ hh) (fun hno w h => ?_) (fun es1 e es2 st sco scc sn' hes hgood hno hd w h => ?_)
    · refine hk1 t dst S w ?_ hall (Nat.le_refl _) h hoff (Nat.le_refl _) (.inl ⟨rfl, rfl, rfl⟩)
      rw [closeGo, if_neg ht, idxs_get hs, find_none hno]
    · have hse : e ∈ s.ent := by rw [hes]; simp
      have hin := hlast s hs e hse
      refine step_ok h htc hc hs hse hd hin hoff htl fun w h => ?_
      have hd1len : (d1Of dst e.2 (cutS st (dOf t st)) sco scc (e.2 : Nat) sn').length ≤ e.2 + 1 := by
        unfold d1Of
        rw [List.length_append, List.length_take]
        split <;> simp <;> omega
      have hdpos : 0 < dOf t st := by unfold dOf; split <;> omega
      have htp := List.length_pos_iff.2 ht
      have hent : ∀ s' ∈ S.map (STK.trim (d1Of dst e.2 (cutS st (dOf t st)) sco scc (e.2 : Nat) sn').length), ∀ x ∈ s'.ent, x.2 + 1 < (d1Of dst e.2 (cutS st (dOf t st)) sco scc (e.2 : Nat) sn' ++ [xOf t (dOf t st) (dst.drop (e.2 + 1))]).length := by
        intro s' hs' x hx
        obtain ⟨s0, hs0, rfl⟩ := List.mem_map.1 hs'
        have := trimE_lt (hSI s0 hs0).2.1 x hx
        rw [List.length_append]; simp; omega
      refine ih (t.drop (dOf t st)) _ _ w (by rw [List.length_drop]; omega) (hall.drop _) (by rw [List.length_drop]; omega) h (by rw [List.length_append]; simp; omega) (fun s' hs' => hent s' (List.mem_of_getElem? hs')) ?_
      intro t' dst' S' w hgo hall' htl' h hoff' hdl' hlast'
      refine hk1 t' dst' S' w ?_ hall' (by rw [List.length_drop] at htl'; omega) h hoff' (by rw [List.length_append] at hdl'; simp at hdl'; omega) (.inr ?_)
      · rw [closeGo, if_neg ht, idxs_get hs, hes, find_some hgood hno]
        simp only [hd]
        rw [idxs_trim] at hgo
        exact hgo
      · rcases hlast' with ⟨_, rfl, rfl⟩ | hl
        · exact hent
        · exact hl
end Go.Proofs.YtmkfleohcnopkaaGreatDoor

/- emph: the whole. -/
set_option linter.unusedVariables false
namespace Go.Proofs.YtmkfleohcnopkaaGreatDoor
open Go.Proofs Go.IntWalk Go.RowKit
variable {σ : Out} {w : World} {L L' : List Chunk} {R : Ending → World → Prop}
def headOf : Inl → Option UInt8
  | .emphP s _ _ _ _ => s.head?
  | _ => none
/-- Delimiter runs are runs of one character each, and two that touch are of two characters. -/
def wfE (ts : List Inl) : Prop := ∀ s co cc i n, Inl.emphP s co cc i n ∈ ts → s ≠ [] ∧ (∃ c, isEm c ∧ AllC c s) ∧ s.length < 1000000000 ∧ 0 ≤ n ∧ n ≤ 1000000000
def apartE : Option UInt8 → List Inl → Prop
  | _, [] => True
  | h, t :: ts => (h = none ∨ headOf t ≠ h) ∧ apartE (headOf t) ts
theorem em1_ok {c : UInt8} (hc : isEm c) (hR : R (.returned (.int .i64 (ixOf c : Nat))) w) : callE P i_parseState_emph_1 #[.int .u8 (c.toNat : Int)] R w := by
  refine g_parseState_emph_1.sound ?_
  refine indexByte2_ok (l := [95, 42, 126, 34, 39]) ⟨_, rfl, ?_⟩
  rcases hc with rfl | rfl
  · exact hR
  · exact hR
theorem stk_app {b3 m pb ix : Nat} {S : List STK} {s : STK} {SM : List Chunk} (h5 : S.length = 5) (hs : S[ix]? = some s) (hS : StksAt S SM) (hsm : s.ent.length < 999999999) (h : Sat σ w (stkC b3 S :: (SM ++ L)))
    {K : World → Prop} (hK : ∀ w s' SM', s'.ent = s.ent ++ [(pb, m)] → StksAt (S.set ix s') SM' → Sat σ w (stkC b3 (S.set ix s') :: (SM' ++ L)) → K w) :
    nilP (some (⟨b3, ix, none⟩ : Addr)) fun a158 => ∃ (v159q : Option Addr), ∃ (v159n : Nat), ∃ (v159c : Nat), w.cell? a158 = some (.slice v159q v159n v159c) ∧
      ∃ (r160q : Option Addr), ∃ (r160n : Nat), ∃ (r160c : Nat), ∃ w161, (Instr.buildSlice ty_S_P_emphPlain 1 #[(0, .pointer (some ⟨pb, 0, none⟩))]).run P w = .ok (.slice r160q r160n r160c) w161 ∧
      ∃ (r162q : Option Addr), ∃ (r162n : Nat), ∃ (r162c : Nat), ∃ w163, (Builtin.append_ #[ty_S_P_emphPlain, ty_S_P_emphPlain] ty_S_P_emphPlain #[.slice v159q v159n v159c, .slice r160q r160n r160c]).run P w161 = .ok (.slice r162q r162n r162c) w163 ∧
      nilP (some (⟨b3, ix, none⟩ : Addr)) fun a164 => stV w163 (a164.add 0) (.slice r162q r162n r162c) fun w165 => K w165 := by
  have hixl := (List.getElem?_eq_some_iff.1 hs).1
  have hsplit : S = S.take ix ++ s :: S.drop (ix + 1) := by
    have hg : S[ix] = s := (List.getElem?_eq_some_iff.1 hs).2
    rw [← hg, ← List.drop_eq_getElem_cons hixl, List.take_append_drop]
  have hset : ∀ s' : STK, S.set ix s' = S.take ix ++ s' :: S.drop (ix + 1) := by
    intro s'; rw [List.set_eq_take_append_cons_drop, if_pos hixl]
  have hal : (S.take ix).length = ix := by rw [List.length_take]; omega
  rw [hsplit] at hS h
  obtain ⟨M1, M2, M3, rfl, h1, h2, h3⟩ := hS.split
  have hn := h2.1
  simp at hn
  refine nilP_some ⟨_, _, _, stk_cell h hal.symm, ?_⟩
  have h : Sat σ w (M2 ++ (stkC b3 (S.take ix ++ s :: S.drop (ix + 1)) :: (M1 ++ (M3 ++ L)))) := h.re (by intro _; simp only [List.append_eq, cnt_append, cnt_cons, cnt_nil] <;> omega)
  refine Sat.app1 rowEP h2 h (v := .pointer (some ⟨pb, 0, none⟩)) rfl (by simp [Value.cells, Value.oneCell']) (by kernel_rfl) (by omega) (by omega) (by decide) fun q' c' w' M' hS' h => ?_
  have h : Sat σ w' (stkC b3 (S.take ix ++ s :: S.drop (ix + 1)) :: (M1 ++ (M' ++ (M3 ++ L)))) := h.re (by intro _; simp only [List.append_eq, cnt_append, cnt_cons, cnt_nil] <;> omega)
  refine nilP_some ?_
  simp only [Addr.add_lit, Nat.add_zero]
  refine stk_store (s' := ⟨q', s.n + 1, c', s.ent ++ [(pb, m)]⟩) h hal.symm fun w h => ?_
  refine hK w ⟨q', s.n + 1, c', s.ent ++ [(pb, m)]⟩ (M1 ++ (M' ++ M3)) rfl ?_ ?_
  · rw [hset]; exact h1.join (by unfold STK.ok; rw [List.map_append]; exact hS') h3
  · rw [hset]; exact h.re (by intro _; simp only [List.append_eq, cnt_append, cnt_cons, cnt_nil] <;> omega)
def EM0 (σ : Out) (b1 b3 : Nat) (dst rts : List Inl) (S : List STK) (off : Nat) (sq : Option Addr) (sn sc : Nat) (SR : List Chunk) (L : List Chunk) (w : World) : Prop :=
  ∃ dq dc dvs rvs DM SM RS RM, InlsAt dst dvs DM ∧ StksAt S SM ∧ S.length = 5 ∧ StkIn dst dvs S ∧ DRow dq dc dvs rvs off sq sn sc SR RS ∧ dst.length < 999999998 ∧ InlsAt rts rvs RM ∧
    Sat σ w (stkC b3 S :: (b1, cel [.slice dq dvs.length dc] ty_S_Inline) :: (SM ++ (DM ++ (RS ++ (RM ++ L)))))
def Late (c : UInt8) (dst : List Inl) (S : List STK) : Prop := ∀ s, S[ixOf c]? = some s → ∀ e ∈ s.ent, e.2 + 1 < dst.length
theorem StkIn.lt {dst : List Inl} {dvs : List Value} {S : List STK} (h : StkIn dst dvs S) : ∀ s ∈ S, ∀ e ∈ s.ent, e.2 < dst.length := by
  intro s hs e he
  obtain ⟨t, co, cc, n, h1, _⟩ := (h s hs).2.2 e he
  exact (List.getElem?_eq_some_iff.1 h1).1
theorem StkIn.grow {dst x : List Inl} {dvs y : List Value} {S : List STK} (h : StkIn dst dvs S) : StkIn (dst ++ x) (dvs ++ y) S := by
  intro s hs
  obtain ⟨a, b, c⟩ := h s hs
  refine ⟨a, b, fun e he => ?_⟩
  obtain ⟨t, co, cc, n, h1, h2, h3⟩ := c e he
  exact ⟨t, co, cc, n, by rw [List.getElem?_append_left (List.getElem?_eq_some_iff.1 h1).1]; exact h1, by rw [List.getElem?_append_left (List.getElem?_eq_some_iff.1 h2).1]; exact h2, h3⟩
end Go.Proofs.YtmkfleohcnopkaaGreatDoor

/- emph: the loop over the source. -/
set_option linter.unusedVariables false
namespace Go.Proofs.YtmkfleohcnopkaaGreatDoor
open Go.Proofs Go.IntWalk Go.RowKit
variable {σ : Out} {w : World} {L L' : List Chunk} {R : Ending → World → Prop}
theorem app_step {b1 b3 off b : Nat} {t : TypeId} {dq sq : Option Addr} {dc sn sc : Nat} {dvs rvs : List Value} {S : List STK} {SM DM SR RS : List Chunk} (hD : DRow dq dc dvs rvs (off + 1) sq sn sc SR RS) (hlen : dvs.length ≤ off) (hn : dvs.length < 1000000000)
    (h : Sat σ w (stkC b3 S :: (b1, cel [.slice dq dvs.length dc] ty_S_Inline) :: (SM ++ (DM ++ (RS ++ L))))) {C : World → Prop} (hC : ∀ w1 X, Sat σ w1 (X :: (stkC b3 S :: (b1, cel [.slice dq dvs.length dc] ty_S_Inline) :: (SM ++ (DM ++ (RS ++ L))))) → C w1) {K : World → Prop}
    (hK : ∀ w dq' dc' RS', DRow dq' dc' (dvs ++ [ptrV t b]) rvs (off + 1) sq sn sc SR RS' → Sat σ w (stkC b3 S :: (b1, cel [.slice dq' (dvs.length + 1) dc'] ty_S_Inline) :: (SM ++ (DM ++ (RS' ++ L)))) → K w) :
    ∃ rq rn rc w1, (Instr.buildSlice ty_S_Inline 1 #[(0, ptrV t b)]).run P w = .ok (.slice rq rn rc) w1 ∧ C w1 ∧
      ∃ q' n' c' w2, (Builtin.append_ #[ty_S_Inline, ty_S_Inline] ty_S_Inline #[.slice dq dvs.length dc, .slice rq rn rc]).run P w1 = .ok (.slice q' n' c') w2 ∧ stV w2 ⟨b1, 0, none⟩ (.slice q' n' c') K := by
  have hr : Sat σ w (RS ++ (stkC b3 S :: (b1, cel [.slice dq dvs.length dc] ty_S_Inline) :: (SM ++ (DM ++ L)))) := h.re (by intro _; simp only [List.append_eq, cnt_append, cnt_cons, cnt_nil] <;> omega)
  refine hD.app (ty := ty_S_Inline) hr (by omega) hn (C := C) (fun w1 X hw => hC w1 X (hw.re (by intro _; simp only [List.append_eq, cnt_append, cnt_cons, cnt_nil] <;> omega))) (K := fun q' n' c' w2 => stV w2 ⟨b1, 0, none⟩ (.slice q' n' c') K) fun dq' dc' RS' w' hD' h => ?_
  have h : Sat σ w' (stkC b3 S :: (b1, cel [.slice dq dvs.length dc] ty_S_Inline) :: (SM ++ (DM ++ (RS' ++ L)))) := h.re (by intro _; simp only [List.append_eq, cnt_append, cnt_cons, cnt_nil] <;> omega)
  refine Sat.st h (k := 1) rfl (Nat.zero_lt_succ _) trivial rfl fun w h => ?_
  exact hK w dq' dc' RS' hD' h
theorem nilP_of {q : Option Addr} {a : Addr} {K : Addr → Prop} (h : q = some a) (hK : K a) : nilP q K := by subst h; exact hK
theorem noC {A : Option Addr → Nat → Nat → World → Prop} {B : Option Addr → Nat → Nat → World → Prop} (h : ∃ rq rn rc w1, A rq rn rc w1 ∧ True ∧ B rq rn rc w1) : ∃ rq rn rc w1, A rq rn rc w1 ∧ B rq rn rc w1 := by
  obtain ⟨a, b, c, d, h1, _, h2⟩ := h
  exact ⟨a, b, c, d, h1, h2⟩
theorem emph_loop {Xa : XA} {b1 b3 : Nat} {sq : Option Addr} {sn sc : Nat} {SR : List Chunk} (hXa : ∀ x10 w, g_parseState_emph.bl1 R Xa sq sn sc b1 b3 cl1 (cl2 b3 b1) x10 w → Xa sq sn sc b1 b3 cl1 (cl2 b3 b1) x10 w) (hsn : sn < 999999990) (final : List Inl)
    (hR : ∀ w dq dc dvs DM RS, InlsAt final dvs DM → DRow dq dc dvs [] sn sq sn sc SR RS → dvs.length ≤ sn → Sat σ w (DM ++ (RS ++ L)) → R (.returned (.slice dq dvs.length dc)) w) :
    ∀ (rts dst : List Inl) (S : List STK) (off : Nat) (hd : Option UInt8) (w : World), EM0 σ b1 b3 dst rts S off sq sn sc SR L w → off + rts.length = sn → dst.length ≤ off → wfE rts → apartE hd rts → (∀ c, isEm c → hd ≠ some c → Late c dst S) →
      emphGo dst (idxs S) rts = final → Xa sq sn sc b1 b3 cl1 (cl2 b3 b1) (off : Int) w := by
  intro rts
  induction rts with
  | nil =>
    intro dst S off hd w h hoff hle hwf hap hlate hfin
    obtain ⟨dq, dc, dvs, rvs, DM, SM, RS, RM, hI, hSt, h5, hSI, hD, hdl, hrt, h⟩ := h
    obtain ⟨rfl, rfl⟩ := hrt
    have hvl := hI.length
    simp at hoff
    subst hoff
    refine hXa _ _ (br_false (by simp) ?_)
    refine ⟨_, _, _, Sat.ld h (.tail _ (.head _)) rfl, ?_⟩
    simp only [emphGo] at hfin
    simp only [List.nil_append] at h
    refine hR w dq dc dvs DM RS (by rw [← hfin]; exact hI) hD (by omega) ?_
    exact h.less (stkC b3 S :: (b1, cel [.slice dq dvs.length dc] ty_S_Inline) :: SM) (by intro _; simp only [List.append_eq, cnt_append, cnt_cons, cnt_nil] <;> omega)
  | cons t rts ih =>
    intro dst S off hd w h hoff hle hwf hap hlate hfin
    obtain ⟨dq, dc, dvs, rvs, DM, SM, RS, RM, hI, hSt, h5, hSI, hD, hdl, hrt, h⟩ := h
    obtain ⟨v, rvs', M1, M2, rfl, rfl, hv, hrest⟩ := hrt
    have hvl := hI.length
    simp at hoff
    have hread : ∀ w, Sat σ w (stkC b3 S :: (b1, cel [.slice dq dvs.length dc] ty_S_Inline) :: (SM ++ (DM ++ (RS ++ ((M1 ++ M2) ++ L))))) → ∃ rb so, sq = some ⟨rb, so, none⟩ ∧ w.cell? ⟨rb, so + off, none⟩ = some v := by
      intro w h
      have h : Sat σ w (RS ++ (stkC b3 S :: (b1, cel [.slice dq dvs.length dc] ty_S_Inline) :: (SM ++ (DM ++ ((M1 ++ M2) ++ L))))) := h.re (by intro _; simp only [List.append_eq, cnt_append, cnt_cons, cnt_nil] <;> omega)
      exact hD.read h
    have hDc := hD.consume
    have hwf' : wfE rts := fun s co cc i n hm => hwf s co cc i n (.tail _ hm)
    have e1 : IntKind.i64.wrap ((off : Int) + 1) = ((off + 1 : Nat) : Int) := i64_inc (by omega)
    have hlt := hSI.lt
    -- an element that is appended; then the next one
    have next : ∀ w (t' : Inl) (ty : TypeId) (b : Nat) (M1' : List Chunk), InlAt t' (ptrV ty b) M1' → emphGo (dst ++ [t']) (idxs S) rts = final → ∀ dq' dc' RS', DRow dq' dc' (dvs ++ [ptrV ty b]) rvs' (off + 1) sq sn sc SR RS' →
        Sat σ w (stkC b3 S :: (b1, cel [.slice dq' (dvs.length + 1) dc'] ty_S_Inline) :: (SM ++ (DM ++ (RS' ++ (M1' ++ (M2 ++ L)))))) → Xa sq sn sc b1 b3 cl1 (cl2 b3 b1) ((off + 1 : Nat) : Int) w := by
      intro w t' ty b M1' hI1 hgo dq' dc' RS' hD' h
      refine ih (dst ++ [t']) S (off + 1) (headOf t) w ⟨dq', dc', _, rvs', DM ++ M1', SM, RS', M2, hI.append (InlsAt.one hI1), hSt, h5, hSI.grow, hD', by simp; omega, hrest, ?_⟩ (by omega) (by simp; omega) hwf' hap.2 ?_ hgo
      · rw [List.length_append, List.length_singleton]; exact h.re (by intro _; simp only [List.append_eq, cnt_append, cnt_cons, cnt_nil] <;> omega)
      · intro c _ _ s hs e he
        have := hlt s (List.mem_of_getElem? hs) e he
        simp; omega
    obtain ⟨pb, cs, ce, M1', rfl, hM1⟩ := hv.ptr
    refine hXa _ _ (br_true (by simp; omega) ⟨by omega, by omega, ?_⟩)
    obtain ⟨rb, so, hsq, hcell⟩ := hread w h
    refine nilP_of hsq ?_
    simp only [Addr.add_lit, Int.toNat_natCast, Nat.mul_one]
    refine ⟨_, hcell, ?_⟩
    by_cases hto : t.ty = ty_P_openPlain
    · -- an open bracket becomes plain
      obtain ⟨s, i, rfl⟩ : ∃ s i, t = .openP s i := by
        cases t <;> simp only [Inl.ty] at hto <;> first | exact ⟨_, _, rfl⟩ | exact absurd hto (by decide)
      have hta : (Instr.typeAssert (ptrV (Inl.openP s i).ty pb) ty_Inline ty_P_openPlain true).run P w = .ok (.tuple #[.pointer (some ⟨pb, 0, none⟩), .bool true]) w := ta_open_yes w
      refine ⟨_, _, w, hta, br_true rfl ?_⟩
      refine Sat.tk h fun w h => ?_
      refine nilP_some ⟨_, _, _, Sat.ld h (.tail _ (.head _)) rfl, ?_⟩
      have h0 := h
      refine app_step hDc (by omega) (by omega) h (C := fun w1 => SameC _ w1 _ 1) (fun w1 X hw => h0.same hw (.tail _ (.head _)) (.tail _ (.tail _ (.head _))) 1) fun w dq' dc' RS' hD' h => ?_
      rw [e1]
      refine next w (.plain s) ty_P_Plain pb M1 ?_ (by rw [← hfin, emphGo]) dq' dc' RS' hD' (h.re (by intro _; simp only [List.append_eq, cnt_append, cnt_cons, cnt_nil] <;> omega))
      obtain ⟨b', e', hb', rfl⟩ := hv
      have := ptrV_inj hb'
      subst this
      exact ⟨pb, _, _, rfl, rfl⟩
    · refine ⟨_, _, w, ta_open_no hto w, br_false rfl ⟨by omega, by omega, ?_⟩⟩
      refine nilP_of hsq ?_
      simp only [Addr.add_lit, Int.toNat_natCast, Nat.mul_one]
      refine ⟨_, hcell, ?_⟩
      by_cases hte : t.ty = ty_P_emphPlain
      · -- a run of delimiters
        obtain ⟨s, co, cc, i, n, rfl⟩ : ∃ s co cc i n, t = .emphP s co cc i n := by
          cases t <;> simp only [Inl.ty] at hte <;> first | exact ⟨_, _, _, _, _, rfl⟩ | exact absurd hte (by decide)
        obtain ⟨b', pe, hb', rfl⟩ := hv
        have := ptrV_inj hb'
        subst this
        obtain ⟨hs0, ⟨c, hc, hall⟩, hsl, hn0, hn1⟩ := hwf s co cc i n (.head _)
        have htc := hall.head hs0
        have hhd : headOf (.emphP s co cc i n) = some c := htc
        have hhd' : hd ≠ some c := by
          rcases hap.1 with h | h
          · rw [h]; simp
          · rw [hhd] at h; exact fun hh => h hh.symm
        have hix : ixOf (s.headD 0) = ixOf c := by rw [List.headD_eq_head?_getD, htc]; rfl
        have hix5 : ixOf c < 5 := by rcases hc with rfl | rfl <;> decide
        have hEM : ∀ w, Sat σ w (stkC b3 S :: (b1, cel [.slice dq dvs.length dc] ty_S_Inline) :: (SM ++ (DM ++ (RS ++ (([emC pb s co cc i n pe] ++ M2) ++ L))))) → EM σ b1 b3 pb s co cc i n pe dst S rvs' (off + 1) sq sn sc SR (M2 ++ L) w := fun w h =>
          ⟨dq, dc, dvs, DM, SM, RS, hI, hSt, h5, hSI, hDc, by omega, h.re (by intro _; simp only [List.append_eq, cnt_append, cnt_cons, cnt_nil] <;> omega)⟩
        have hta : (Instr.typeAssert (ptrV (Inl.emphP s co cc i n).ty pb) ty_Inline ty_P_emphPlain true).run P w = .ok (.tuple #[.pointer (some ⟨pb, 0, none⟩), .bool true]) w := ta_emph_yes w
        refine ⟨_, _, w, hta, br_false rfl (nilP_some ?_)⟩
        -- what is done with what is left of the run
        have fin : ∀ (t' : List UInt8) (dst' : List Inl) (S' : List STK) w, AllC c t' → t'.length ≤ s.length → EM σ b1 b3 pb t' co cc i n pe dst' S' rvs' (off + 1) sq sn sc SR (M2 ++ L) w → dst'.length ≤ off →
            (t' = [] → ∀ s ∈ S', ∀ e ∈ s.ent, e.2 + 1 < dst'.length) →
            (if t' = [] then emphGo dst' (idxs S') rts else if co then emphGo (dst' ++ [.emphP t' co cc dst'.length n]) ((idxs S').set (ixOf c) ((idxs S').getD (ixOf c) [] ++ [dst'.length])) rts else emphGo (dst' ++ [.plain t']) (idxs S') rts) = final →
            g_parseState_emph.k1 R Xa sq sn sc b1 b3 cl1 (cl2 b3 b1) off (some ⟨pb, 0, none⟩) w := by
          intro t' dst' S' w hall' htl' h hd' hnil hgo
          obtain ⟨dq, dc, dvs, DM, SM, RS, hI, hSt, h5, hSI, hDc, hdl, h⟩ := h
          have hvl := hI.length
          have hlt := hSI.lt
          refine nilP_some ⟨_, Sat.ld h (.head _) rfl, ?_⟩
          rw [bs_nil_eq]
          by_cases ht' : t' = []
          · subst ht'
            rw [if_pos rfl] at hgo
            refine br_false (by simp) ?_
            rw [e1]
            refine ih dst' S' (off + 1) (some c) w ⟨dq, dc, dvs, rvs', DM, SM, RS, M2, hI, hSt, h5, hSI, hDc, by omega, hrest, ?_⟩ (by omega) (by omega) hwf' (by have := hap.2; rw [hhd] at this; exact this) ?_ hgo
            · exact (h.tail).re (by intro _; simp only [List.append_eq, cnt_append, cnt_cons, cnt_nil] <;> omega)
            · intro c' _ _ s' hs' e he
              exact hnil rfl s' (List.mem_of_getElem? hs') e he
          · rw [if_neg ht'] at hgo
            refine br_true (by simpa using ht') (nilP_some ⟨_, Sat.ld h (.head _) rfl, by omega, head_pos (hall'.head ht'), ?_⟩)
            rw [bt0 (hall'.head ht')]
            refine enter_fn ?_
            refine em1_ok hc ⟨_, rfl, by omega, by omega, nilP_some ⟨_, Sat.ld h (.head _) rfl, ?_⟩⟩
            have hno : ∀ (d : UInt8), c ≠ d → ((bs t').toList == (ByteArray.mk #[d]).toList) = false := by
              intro d hd
              rw [bs_toList, mk_toList, beq_eq_false_iff_ne]
              intro h0
              have : t' = [d] := h0
              subst this
              exact hd (hall' d (by simp)).symm
            refine br_false (hno 39 (by rcases hc with rfl | rfl <;> decide)) ?_
            refine nilP_some ⟨_, Sat.ld h (.head _) rfl, br_false (hno 34 (by rcases hc with rfl | rfl <;> decide)) ?_⟩
            simp only [Addr.add_lit, Int.toNat_natCast, Nat.mul_one, Nat.zero_add]
            refine nilP_some ⟨co, Sat.ld h (.head _) rfl, ?_⟩
            cases hco : co with
            | true =>
              rw [hco] at h hgo
              rw [if_pos rfl] at hgo
              refine br_true rfl ⟨_, _, _, Sat.ld h (.tail _ (.tail _ (.head _))) rfl, nilP_some ?_⟩
              refine Sat.st h (k := 0) rfl (Nat.le_of_ble_eq_true rfl) trivial rfl fun w h => ?_
              have h : Sat σ w (emC pb t' true cc (dvs.length : Nat) n pe :: stkC b3 S' :: (b1, cel [.slice dq dvs.length dc] ty_S_Inline) :: (SM ++ (DM ++ (RS ++ (M2 ++ L))))) := h
              refine ⟨_, _, _, Sat.ld h (.tail _ (.tail _ (.head _))) rfl, ?_⟩
              have h : Sat σ w (stkC b3 S' :: (b1, cel [.slice dq dvs.length dc] ty_S_Inline) :: (SM ++ (DM ++ (RS ++ (emC pb t' true cc (dvs.length : Nat) n pe :: (M2 ++ L)))))) := h.re (by intro _; simp only [List.append_eq, cnt_append, cnt_cons, cnt_nil] <;> omega)
              refine noC (app_step (t := ty_P_emphPlain) (b := pb) hDc (by omega) (by omega) h (C := fun _ => True) (fun _ _ _ => trivial) fun w dq' dc' RS' hD' h => ?_)
              have hsx : S'[ixOf c]? = some S'[ixOf c] := List.getElem?_eq_getElem (by omega)
              generalize S'[ixOf c] = sx at hsx
              have hSIx := hSI sx (List.mem_of_getElem? hsx)
              have h : Sat σ w (stkC b3 S' :: (SM ++ ((b1, cel [.slice dq' (dvs.length + 1) dc'] ty_S_Inline) :: (DM ++ (RS' ++ (emC pb t' true cc (dvs.length : Nat) n pe :: (M2 ++ L))))))) := h.re (by intro _; simp only [List.append_eq, cnt_append, cnt_cons, cnt_nil] <;> omega)
              have hentl : sx.ent.length < 999999999 := by
                -- the places grow and lie below the output's length
                have : ∀ (es : List (Nat × Nat)) (k : Nat), es.Pairwise (fun a b => a.2 < b.2) → (∀ e ∈ es, k ≤ e.2 ∧ e.2 < dst'.length) → k ≤ dst'.length → k + es.length ≤ dst'.length := by
                  intro es
                  induction es with
                  | nil => intro k _ _ hk; simpa using hk
                  | cons e es ihe =>
                    intro k hp hb hk
                    rw [List.pairwise_cons] at hp
                    have h1 := hb e (.head _)
                    have := ihe (e.2 + 1) hp.2 (fun x hx => ⟨hp.1 x hx, (hb x (.tail _ hx)).2⟩) (by omega)
                    simp; omega
                have := this sx.ent 0 hSIx.2.1 (fun e he => ⟨Nat.zero_le _, hlt sx (List.mem_of_getElem? hsx) e he⟩) (Nat.zero_le _)
                omega
              refine stk_app (m := dvs.length) (pb := pb) h5 hsx hSt hentl h fun w s' SM' hs' hSt' h => ?_
              rw [e1]
              have hidx : (idxs S').set (ixOf c) ((idxs S').getD (ixOf c) [] ++ [dst'.length]) = idxs (S'.set (ixOf c) s') := by
                rw [idxs_get hsx, idxs, idxs, List.map_set, hs', List.map_append, hvl]; rfl
              rw [hidx] at hgo
              refine ih _ (S'.set (ixOf c) s') (off + 1) (some c) w ⟨dq', dc', dvs ++ [ptrV ty_P_emphPlain pb], rvs', DM ++ [emC pb t' true cc (dvs.length : Nat) n pe], SM', RS', M2, hI.append (InlsAt.one (t := .emphP t' true cc (dvs.length : Nat) n) ⟨pb, pe, rfl, rfl⟩), hSt', by rw [List.length_set]; exact h5, ?_, hD', by simp; omega, hrest, ?_⟩ (by omega) (by simp; omega) hwf' (by have := hap.2; rw [hhd] at this; exact this) ?_ (by rw [← hgo, hvl])
              · intro s2 hs2
                rcases List.mem_or_eq_of_mem_set hs2 with hs2 | hs2
                · exact hSI.grow s2 hs2
                · subst hs2
                  rw [hs']
                  refine ⟨by simp; omega, ?_, ?_⟩
                  · rw [List.pairwise_append]
                    refine ⟨hSIx.2.1, by simp, fun a ha b hb => ?_⟩
                    simp at hb; subst hb
                    have := hlt sx (List.mem_of_getElem? hsx) a ha
                    show a.2 < dvs.length
                    omega
                  · intro e he
                    rcases List.mem_append.1 he with he | he
                    · obtain ⟨g1, g2, g3, g4, g5, g6, g7⟩ := hSIx.2.2 e he
                      exact ⟨g1, g2, g3, g4, by rw [List.getElem?_append_left (List.getElem?_eq_some_iff.1 g5).1]; exact g5, by rw [List.getElem?_append_left (List.getElem?_eq_some_iff.1 g6).1]; exact g6, g7⟩
                    · simp at he; subst he
                      exact ⟨t', true, cc, n, by show (dst' ++ _)[dvs.length]? = _; rw [hvl, List.getElem?_append_right (Nat.le_refl _)]; simp, by show (dvs ++ _)[dvs.length]? = _; simp, hn0, hn1, ht', by omega⟩
              · rw [List.length_append, List.length_singleton]; exact h.re (by intro _; simp only [List.append_eq, cnt_append, cnt_cons, cnt_nil] <;> omega)
              · intro c' hc' hne s2 hs2 e he
                have hne2 : ixOf c' ≠ ixOf c := by
                  intro h0
                  apply hne
                  rcases hc with rfl | rfl <;> rcases hc' with rfl | rfl <;> first | rfl | exact absurd h0 (by decide)
                rw [List.getElem?_set_ne (fun h => hne2 h.symm)] at hs2
                have := hlt s2 (List.mem_of_getElem? hs2) e he
                simp; omega
            | false =>
              rw [hco] at h hgo
              rw [if_neg (by simp)] at hgo
              refine br_false rfl ?_
              refine Sat.tk h fun w h => ?_
              refine nilP_some ⟨_, _, _, Sat.ld h (.tail _ (.tail _ (.head _))) rfl, ?_⟩
              have h : Sat σ w (stkC b3 S' :: (b1, cel [.slice dq dvs.length dc] ty_S_Inline) :: (SM ++ (DM ++ (RS ++ (emC pb t' false cc i n pe :: (M2 ++ L)))))) := h.re (by intro _; simp only [List.append_eq, cnt_append, cnt_cons, cnt_nil] <;> omega)
              have h0 := h
              refine app_step (t := ty_P_Plain) (b := pb) hDc (by omega) (by omega) h (C := fun w1 => SameC _ w1 _ 1) (fun w1 X hw => h0.same hw (.tail _ (.head _)) (.tail _ (.tail _ (.head _))) 1) fun w dq' dc' RS' hD' h => ?_
              rw [e1]
              refine ih (dst' ++ [.plain t']) S' (off + 1) (some c) w ⟨dq', dc', dvs ++ [ptrV ty_P_Plain pb], rvs', DM ++ [emC pb t' false cc i n pe], SM, RS', M2, hI.append (InlsAt.one (t := .plain t') ⟨pb, _, pe, rfl, rfl⟩), hSt, h5, hSI.grow, hD', by simp; omega, hrest, ?_⟩ (by omega) (by simp; omega) hwf' (by have := hap.2; rw [hhd] at this; exact this) ?_ hgo
              · rw [List.length_append, List.length_singleton]; exact h.re (by intro _; simp only [List.append_eq, cnt_append, cnt_cons, cnt_nil] <;> omega)
              · intro c' hc' hne s2 hs2 e he
                have := hlt s2 (List.mem_of_getElem? hs2) e he
                simp; omega
        refine ⟨cc, Sat.ld h (.tail _ (.tail _ (List.mem_append_right _ (List.mem_append_right _ (List.mem_append_right _ (.head _)))))) rfl, ?_⟩
        have hfin' : (let r := if cc then closeGo (ixOf c) co cc n s.length s dst (idxs S) else (s, dst, idxs S)
            if r.1 = [] then emphGo r.2.1 r.2.2 rts else if co then emphGo (r.2.1 ++ [.emphP r.1 co cc r.2.1.length n]) (r.2.2.set (ixOf c) (r.2.2.getD (ixOf c) [] ++ [r.2.1.length])) rts else emphGo (r.2.1 ++ [.plain r.1]) r.2.2 rts) = final := by
          rw [← hfin, emphGo, hix]
        cases hcc : cc with
        | false =>
          rw [hcc] at hfin' hEM fin
          refine br_false rfl (fin s dst S w hall (Nat.le_refl _) (hEM w (by rw [hcc] at h; exact h)) hle (fun h => absurd h hs0) ?_)
          simpa using hfin'
        | true =>
          rw [hcc] at hfin' hEM fin h
          refine br_true rfl (nilP_some ⟨_, Sat.ld h (.tail _ (.tail _ (List.mem_append_right _ (List.mem_append_right _ (List.mem_append_right _ (.head _)))))) rfl, by omega, head_pos htc, ?_⟩)
          rw [bt0 htc]
          refine enter_fn ?_
          refine em1_ok hc ⟨_, rfl, by omega, by omega, ?_⟩
          simp only [Addr.add_lit, Int.toNat_natCast, Nat.mul_one, Nat.zero_add]
          intro Xb hXb
          refine close_ok hix5 hc ⟨hn0, hn1⟩ (fun w hh => hXb _ _ _ _ _ _ _ _ _ _ _ hh) s.length s dst S w (Nat.le_refl _) hall hsl (hEM w h) (by omega) (hlate c hc hhd') ?_
          intro t' dst' S' w hgo hall' htl' h hoff' hdl' hl
          refine fin t' dst' S' w hall' htl' h (by omega) ?_ ?_
          · intro ht'
            rcases hl with ⟨hl, _⟩ | hl
            · rw [ht'] at hl; exact absurd hl.symm hs0
            · exact hl
          · simp only [if_true, hgo] at hfin'
            exact hfin'
      · -- anything else
        refine ⟨_, _, w, ta_emph_no hte w, br_true rfl ?_⟩
        refine tk_gen (A := fun w => Sat σ w (stkC b3 S :: (b1, cel [.slice dq dvs.length dc] ty_S_Inline) :: (SM ++ (DM ++ (RS ++ ((M1 ++ M2) ++ L)))))) h.tick fun w h => ?_
        refine ⟨by omega, by omega, nilP_of hsq ?_⟩
        refine ⟨_, _, _, Sat.ld h (.tail _ (.head _)) rfl, ?_⟩
        simp only [Addr.add_lit, Int.toNat_natCast, Nat.mul_one]
        obtain ⟨rb2, so2, hsq2, hcell2⟩ := hread w h
        rw [hsq] at hsq2
        simp only [Option.some.injEq, Addr.mk.injEq, and_true] at hsq2
        obtain ⟨rfl, rfl⟩ := hsq2
        refine ⟨_, hcell2, ?_⟩
        have h0 := h
        refine app_step hDc (by omega) (by omega) h (C := fun w1 => SameC _ w1 _ 1) (fun w1 X hw => h0.same hw (.tail _ (.head _)) (.tail _ (.tail _ (.head _))) 1) fun w dq' dc' RS' hD' h => ?_
        rw [e1]
        refine next w t t.ty pb M1 hv (by rw [← hfin]; cases t <;> first | rfl | exact absurd rfl hto | exact absurd rfl hte) dq' dc' RS' hD' (h.re (by intro _; simp only [List.append_eq, cnt_append, cnt_cons, cnt_nil] <;> omega))
end Go.Proofs.YtmkfleohcnopkaaGreatDoor

/- emph, where the output takes the source's place. -/
set_option linter.unusedVariables false
namespace Go.Proofs.YtmkfleohcnopkaaGreatDoor
open Go.Proofs Go.IntWalk Go.RowKit
variable {σ : Out} {w : World} {L L' : List Chunk} {R : Ending → World → Prop}
theorem DRow.same {q : Option Addr} {n c : Nat} {vs : List Value} {RM : List Chunk} (h : Sl 1 ty_Inline q n c vs RM) : DRow q c [] vs 0 q n c [] RM := by
  obtain ⟨hl, hnc, ⟨rfl, rfl, rfl, rfl⟩ | ⟨rb, sp, rfl, rfl, h3⟩⟩ := h
  · have : vs = [] := List.eq_nil_of_length_eq_zero (by omega)
    subst this
    exact ⟨by simp, by simp, .inr ⟨[], Sl.nil 1 ty_Inline, rfl, fun j v hv => by simp at hv⟩⟩
  · refine ⟨by omega, by simp, .inl ⟨rb, [], sp, rfl, rfl, rfl, rfl, ?_⟩⟩
    rw [List.length_append] at h3; omega
theorem DRow.done {dq sq : Option Addr} {dc off sn sc : Nat} {dvs : List Value} {RS : List Chunk} (h : DRow dq dc dvs [] off sq sn sc [] RS) : Sl 1 ty_Inline dq dvs.length dc dvs RS := by
  obtain ⟨h0, hle, ⟨rb, junk, sp, rfl, rfl, rfl, h1, h2⟩ | ⟨DR, hS, rfl, hr⟩⟩ := h
  · refine ⟨by omega, hle, .inr ⟨rb, junk ++ sp, rfl, rfl, ?_⟩⟩
    simp only [List.length_append, List.length_nil] at h2 ⊢; omega
  · rw [List.append_nil]; exact hS
/-- emph, wherever the output goes. -/
theorem emph_ok {pq dq sq : Option Addr} {dc sn sc : Nat} {ts : List Inl} {vs : List Value} {SR RS EC : List Chunk} (hD : DRow dq dc [] vs 0 sq sn sc SR RS) (hI : InlsAt ts vs EC) (hwf : wfE ts) (hap : apartE none ts) (hn : sn < 999999990) (h : Sat σ w (RS ++ (EC ++ L)))
    (hR : ∀ w dq dc dvs DM RS, InlsAt (emphM ts) dvs DM → DRow dq dc dvs [] sn sq sn sc SR RS → dvs.length ≤ sn → Sat σ w (DM ++ (RS ++ L)) → R (.returned (.slice dq dvs.length dc)) w) :
    callE P i_parseState_emph #[.pointer pq, .slice dq 0 dc, .slice sq sn sc] R w := by
  refine g_parseState_emph.sound ?_
  refine Sat.bx h fun b1 w h => ?_
  refine Sat.bx h fun b3 w h => ?_
  intro X hX
  have hl := hI.length
  have h0 := hD.1
  let s0 : STK := ⟨none, 0, 0, []⟩
  have h : Sat σ w (stkC b3 [s0, s0, s0, s0, s0] :: (b1, cel [.slice dq 0 dc] ty_S_Inline) :: (RS ++ (EC ++ L))) := h
  have hs0 : s0.ok [] := Sl.nil 1 ty_P_emphPlain
  refine emph_loop (Xa := X) (fun x10 w hh => hX _ _ _ _ _ _ _ _ _ hh) hn (emphM ts) (fun w dq dc dvs DM RS h1 h2 h3 h4 => hR w dq dc dvs DM RS h1 h2 h3 h4) ts [] [s0, s0, s0, s0, s0] 0 none w
    ⟨dq, dc, [], vs, [], [], RS, EC, ⟨rfl, rfl⟩, ⟨[], [], rfl, hs0, [], [], rfl, hs0, [], [], rfl, hs0, [], [], rfl, hs0, [], [], rfl, hs0, rfl⟩, rfl, ?_, hD, by simp, hI, h⟩ (by omega) (by simp) hwf hap ?_ rfl
  · intro s hs
    simp only [List.mem_cons, List.mem_nil_iff, or_false, or_self] at hs
    subst hs
    exact ⟨by show (0 : Nat) < _; decide, List.Pairwise.nil, fun e he => by cases he⟩
  · intro c hc _ s hs e he
    have : s = s0 := by
      rcases hc with rfl | rfl
      · exact (Option.some.inj hs).symm
      · exact (Option.some.inj hs).symm
    subst this
    cases he
theorem emphOK_gen {ts : List Inl} (hwf : wfE ts) (hap : apartE none ts) (hts : ts.length < 999999990) : EmphOK ts (emphM ts) := by
  intro σ R pq q n c vs RM EM L w hS hI hn h hR
  have hl := hI.length
  have hn0 := hS.1
  exact emph_ok (DRow.same hS) hI hwf hap (by omega) h fun w dq dc dvs DM RS h1 h2 h3 h4 => hR w dq dvs.length dc dvs RS DM h2.done h3 h1 (h4.re (by intro _; simp only [List.append_eq, cnt_append, cnt_cons, cnt_nil] <;> omega))
end Go.Proofs.YtmkfleohcnopkaaGreatDoor

set_option linter.unusedVariables false
set_option maxRecDepth 20000
namespace Go.Proofs.YtmkfleohcnopkaaGreatDoor
open Go.Proofs
/- 296 (*pub-paratext/pub/rscmarkdown.Emph).PrintHTML -/
noncomputable def g_Emph_PrintHTML.body : Code := bodyOf Tryz.f296
def g_Emph_PrintHTML.bl1 (R : Ending → World → Prop) (Xa : Option Addr → Option Addr → Nat → Nat → Int → Int → World → Prop) (x1 : Option Addr) (x11q : Option Addr) (x11n : Nat) (x11c : Nat) (x12 : Int) (x13 : Int) (w : World) : Prop :=
 br (decide (x13 < x12))
 (0 ≤ x13 ∧ x13 < (x11n : Int) ∧
 nilP x11q fun a5 =>
 ∃ (v6 : Value), w.cell? (a5.add (Int.toNat x13 * 1)) = some v6 ∧
 enterE P (callMethod v6 "PrintHTML" #[.pointer x1]) (fun e w8 => e = .returned (.tuple #[]) ∧
 Xa x1 x11q x11n x11c x12 (IntKind.i64.wrap (x13 + 1)) w8) w)
 (callE P i_bytes_Buffer_WriteString #[.pointer x1, .string (ByteArray.mk #[60, 47, 101, 109, 62])] (fun e w10 => ∃ (r9_0 : Int), ∃ (r9_1 : Value), e = .returned (.tuple #[.int .i64 r9_0, r9_1]) ∧
 R (.returned (.tuple #[])) w10) w)
def g_Emph_PrintHTML.l1 (R : Ending → World → Prop) (x1 : Option Addr) (x11q : Option Addr) (x11n : Nat) (x11c : Nat) (x12 : Int) (x13 : Int) (w : World) : Prop :=
  ∀ X : Option Addr → Option Addr → Nat → Nat → Int → Int → World → Prop, (∀ x1 x11q x11n x11c x12 x13 w, g_Emph_PrintHTML.bl1 R X x1 x11q x11n x11c x12 x13 w → X x1 x11q x11n x11c x12 x13 w) → X x1 x11q x11n x11c x12 x13 w

noncomputable def g_Emph_PrintHTML.al1 (R : Ending → World → Prop) (Xa : Option Addr → Option Addr → Nat → Nat → Int → Int → World → Prop) : AC :=
  (.leaf (sel [1, 0, 1, 0, 0] g_Emph_PrintHTML.body))
def g_Emph_PrintHTML (R : Ending → World → Prop) (x0 : Option Addr) (x1 : Option Addr) (w : World) : Prop :=
 callE P i_bytes_Buffer_WriteString #[.pointer x1, .string (ByteArray.mk #[60, 101, 109, 62])] (fun e w2 => ∃ (r1_0 : Int), ∃ (r1_1 : Value), e = .returned (.tuple #[.int .i64 r1_0, r1_1]) ∧
 nilP x0 fun a3 =>
 ∃ (v4q : Option Addr), ∃ (v4n : Nat), ∃ (v4c : Nat), w2.cell? (a3.add 1) = some (.slice v4q v4n v4c) ∧
 g_Emph_PrintHTML.l1 R x1 v4q v4n v4c (v4n : Int) 0 w2) w

noncomputable def g_Emph_PrintHTML.ac (R : Ending → World → Prop) : AC :=
  (.seq (.leaf (sel [0] g_Emph_PrintHTML.body)) (.seq (.seq (.leaf (sel [1, 0, 0] g_Emph_PrintHTML.body)) (.block 0 (.loop (leaf [(1, .s .ptr), (11, .s .slice), (12, .s (.int .i64)), (13, .s (.int .i64))] (g_Emph_PrintHTML.l1 R)) (sel [1, 0, 1, 0, 0] g_Emph_PrintHTML.body)))) (.leaf (sel [1, 1] g_Emph_PrintHTML.body))))
theorem g_Emph_PrintHTML.good (R : Ending → World → Prop) : Good P 23 (g_Emph_PrintHTML.ac R) (QF P [] R) :=
  ⟨trivial, ⟨⟨trivial, (loopG (g_Emph_PrintHTML.al1 R) (g_Emph_PrintHTML.bl1 R) (fun _ => by kernel_rfl) (fun Xa => trivial) (fun Xa => by intro x1 x11q x11n x11c x12 x13 ρ w; kernel_rfl) (fun X h _ _ _ _ _ _ _ g => g X h))⟩, trivial⟩⟩
theorem g_Emph_PrintHTML.eq (R : Ending → World → Prop) (x0 : Option Addr) (x1 : Option Addr) (w : World) : g_Emph_PrintHTML R x0 x1 w = vcA P 23 (g_Emph_PrintHTML.ac R) (QF P [] R) (fr0 [.pointer x0, .pointer x1]) w := by kernel_rfl
theorem g_Emph_PrintHTML.sound {R : Ending → World → Prop} {x0 : Option Addr} {x1 : Option Addr} {w : World} (h : g_Emph_PrintHTML R x0 x1 w) : callE P i_Emph_PrintHTML #[.pointer x0, .pointer x1] R w :=
  callE_fin (c := g_Emph_PrintHTML.body) Tryz.func296 Tryz.call296 (by kernel_rfl) (by kernel_rfl) (by kernel_rfl) (by kernel_rfl) (by kernel_rfl) (g_Emph_PrintHTML.good R) (g_Emph_PrintHTML.eq R x0 x1 w) h
end Go.Proofs.YtmkfleohcnopkaaGreatDoor

set_option linter.unusedVariables false
set_option maxRecDepth 20000
namespace Go.Proofs.YtmkfleohcnopkaaGreatDoor
open Go.Proofs
/- 304 (*pub-paratext/pub/rscmarkdown.Strong).PrintHTML -/
noncomputable def g_Strong_PrintHTML.body : Code := bodyOf Tryz.f304
def g_Strong_PrintHTML.bl1 (R : Ending → World → Prop) (Xa : Option Addr → Option Addr → Nat → Nat → Int → Int → World → Prop) (x1 : Option Addr) (x11q : Option Addr) (x11n : Nat) (x11c : Nat) (x12 : Int) (x13 : Int) (w : World) : Prop :=
 br (decide (x13 < x12))
 (0 ≤ x13 ∧ x13 < (x11n : Int) ∧
 nilP x11q fun a5 =>
 ∃ (v6 : Value), w.cell? (a5.add (Int.toNat x13 * 1)) = some v6 ∧
 enterE P (callMethod v6 "PrintHTML" #[.pointer x1]) (fun e w8 => e = .returned (.tuple #[]) ∧
 Xa x1 x11q x11n x11c x12 (IntKind.i64.wrap (x13 + 1)) w8) w)
 (callE P i_bytes_Buffer_WriteString #[.pointer x1, .string (ByteArray.mk #[60, 47, 115, 116, 114, 111, 110, 103, 62])] (fun e w10 => ∃ (r9_0 : Int), ∃ (r9_1 : Value), e = .returned (.tuple #[.int .i64 r9_0, r9_1]) ∧
 R (.returned (.tuple #[])) w10) w)
def g_Strong_PrintHTML.l1 (R : Ending → World → Prop) (x1 : Option Addr) (x11q : Option Addr) (x11n : Nat) (x11c : Nat) (x12 : Int) (x13 : Int) (w : World) : Prop :=
  ∀ X : Option Addr → Option Addr → Nat → Nat → Int → Int → World → Prop, (∀ x1 x11q x11n x11c x12 x13 w, g_Strong_PrintHTML.bl1 R X x1 x11q x11n x11c x12 x13 w → X x1 x11q x11n x11c x12 x13 w) → X x1 x11q x11n x11c x12 x13 w

noncomputable def g_Strong_PrintHTML.al1 (R : Ending → World → Prop) (Xa : Option Addr → Option Addr → Nat → Nat → Int → Int → World → Prop) : AC :=
  (.leaf (sel [1, 0, 1, 0, 0] g_Strong_PrintHTML.body))
def g_Strong_PrintHTML (R : Ending → World → Prop) (x0 : Option Addr) (x1 : Option Addr) (w : World) : Prop :=
 callE P i_bytes_Buffer_WriteString #[.pointer x1, .string (ByteArray.mk #[60, 115, 116, 114, 111, 110, 103, 62])] (fun e w2 => ∃ (r1_0 : Int), ∃ (r1_1 : Value), e = .returned (.tuple #[.int .i64 r1_0, r1_1]) ∧
 nilP x0 fun a3 =>
 ∃ (v4q : Option Addr), ∃ (v4n : Nat), ∃ (v4c : Nat), w2.cell? (a3.add 1) = some (.slice v4q v4n v4c) ∧
 g_Strong_PrintHTML.l1 R x1 v4q v4n v4c (v4n : Int) 0 w2) w

noncomputable def g_Strong_PrintHTML.ac (R : Ending → World → Prop) : AC :=
  (.seq (.leaf (sel [0] g_Strong_PrintHTML.body)) (.seq (.seq (.leaf (sel [1, 0, 0] g_Strong_PrintHTML.body)) (.block 0 (.loop (leaf [(1, .s .ptr), (11, .s .slice), (12, .s (.int .i64)), (13, .s (.int .i64))] (g_Strong_PrintHTML.l1 R)) (sel [1, 0, 1, 0, 0] g_Strong_PrintHTML.body)))) (.leaf (sel [1, 1] g_Strong_PrintHTML.body))))
theorem g_Strong_PrintHTML.good (R : Ending → World → Prop) : Good P 23 (g_Strong_PrintHTML.ac R) (QF P [] R) :=
  ⟨trivial, ⟨⟨trivial, (loopG (g_Strong_PrintHTML.al1 R) (g_Strong_PrintHTML.bl1 R) (fun _ => by kernel_rfl) (fun Xa => trivial) (fun Xa => by intro x1 x11q x11n x11c x12 x13 ρ w; kernel_rfl) (fun X h _ _ _ _ _ _ _ g => g X h))⟩, trivial⟩⟩
theorem g_Strong_PrintHTML.eq (R : Ending → World → Prop) (x0 : Option Addr) (x1 : Option Addr) (w : World) : g_Strong_PrintHTML R x0 x1 w = vcA P 23 (g_Strong_PrintHTML.ac R) (QF P [] R) (fr0 [.pointer x0, .pointer x1]) w := by kernel_rfl
theorem g_Strong_PrintHTML.sound {R : Ending → World → Prop} {x0 : Option Addr} {x1 : Option Addr} {w : World} (h : g_Strong_PrintHTML R x0 x1 w) : callE P i_Strong_PrintHTML #[.pointer x0, .pointer x1] R w :=
  callE_fin (c := g_Strong_PrintHTML.body) Tryz.func304 Tryz.call304 (by kernel_rfl) (by kernel_rfl) (by kernel_rfl) (by kernel_rfl) (by kernel_rfl) (g_Strong_PrintHTML.good R) (g_Strong_PrintHTML.eq R x0 x1 w) h
end Go.Proofs.YtmkfleohcnopkaaGreatDoor

/- Inlines print themselves. -/
set_option linter.unusedVariables false
namespace Go.Proofs.YtmkfleohcnopkaaGreatDoor
open Go.Proofs Go.IntWalk Go.RowKit
variable {σ : Out} {w : World} {L L' : List Chunk} {R : Ending → World → Prop}
theorem meth_Strong : methB P ty_P_Strong "PrintHTML" i_Strong_PrintHTML = true := by kernel_rfl
theorem meth_Emph : methB P ty_P_Emph "PrintHTML" i_Emph_PrintHTML = true := by kernel_rfl
def oStrong : List UInt8 := [60, 115, 116, 114, 111, 110, 103, 62]
def cStrong : List UInt8 := [60, 47, 115, 116, 114, 111, 110, 103, 62]
def oEm : List UInt8 := [60, 101, 109, 62]
def cEm : List UInt8 := [60, 47, 101, 109, 62]
theorem strong_prints {b : Nat} {e : TypeId} {m : Value} {q : Option Addr} {n c : Nat} {vs : List Value} {RM KM KM' : List Chunk} {f : List UInt8 → List UInt8} (hS : Sl 1 ty_Inline q n c vs RM) (hn : n < 4611686018427387904) (hP : PrintsL "PrintHTML" vs KM KM' f) :
    Prints "PrintHTML" (.iface ty_P_Strong (.pointer (some ⟨b, 0, none⟩))) ((b, cel [m, .slice q n c] e) :: (RM ++ KM)) ((b, cel [m, .slice q n c] e) :: (RM ++ KM')) (fun l => f (l ++ oStrong) ++ cStrong) := by
  refine ⟨fun l => ?_, fun σ R bb l M L w hB h hb hR => enter_meth meth_Strong ?_⟩
  · have := hP.mono (l ++ oStrong)
    simp only [List.length_append] at *; omega
  refine g_Strong_PrintHTML.sound ?_
  have hm := hP.mono (l ++ oStrong)
  simp only [List.length_append] at hb hm
  refine writeS_ok (s := oStrong) hB h (by omega) fun w M hB h => ⟨_, _, rfl, ?_⟩
  refine nilP_some ?_
  refine ⟨_, _, _, Sat.ld h (List.mem_append_right _ (.head _)) rfl, ?_⟩
  intro X hX
  have h : Sat σ w (M ++ (RM ++ (KM ++ ((b, cel [m, .slice q n c] e) :: L)))) := h.re (by intro _; simp only [List.append_eq, cnt_append, cnt_cons, cnt_nil] <;> omega)
  refine printLoop (X := fun j w => X (some ⟨bb, 0, none⟩) q n c (n : Int) j w) (END := fun w => callE P i_bytes_Buffer_WriteString #[.pointer (some ⟨bb, 0, none⟩), .string (bs cStrong)] (fun e w10 => ∃ (r9_0 : Int), ∃ (r9_1 : Value), e = .returned (.tuple #[.int .i64 r9_0, r9_1]) ∧ R (.returned (.tuple #[])) w10) w) hS (fun j w hj => hX _ _ _ _ _ _ _ hj) hP hB h hn (by omega) fun w M' hB h => ?_
  refine writeS_ok (s := cStrong) hB h (by omega) fun w M hB h => ⟨_, _, rfl, ?_⟩
  exact hR w M hB (h.re (by intro _; simp only [List.append_eq, cnt_append, cnt_cons, cnt_nil] <;> omega))
theorem em_prints {b : Nat} {e : TypeId} {m : Value} {q : Option Addr} {n c : Nat} {vs : List Value} {RM KM KM' : List Chunk} {f : List UInt8 → List UInt8} (hS : Sl 1 ty_Inline q n c vs RM) (hn : n < 4611686018427387904) (hP : PrintsL "PrintHTML" vs KM KM' f) :
    Prints "PrintHTML" (.iface ty_P_Emph (.pointer (some ⟨b, 0, none⟩))) ((b, cel [m, .slice q n c] e) :: (RM ++ KM)) ((b, cel [m, .slice q n c] e) :: (RM ++ KM')) (fun l => f (l ++ oEm) ++ cEm) := by
  refine ⟨fun l => ?_, fun σ R bb l M L w hB h hb hR => enter_meth meth_Emph ?_⟩
  · have := hP.mono (l ++ oEm)
    simp only [List.length_append] at *; omega
  refine g_Emph_PrintHTML.sound ?_
  have hm := hP.mono (l ++ oEm)
  simp only [List.length_append] at hb hm
  refine writeS_ok (s := oEm) hB h (by omega) fun w M hB h => ⟨_, _, rfl, ?_⟩
  refine nilP_some ?_
  refine ⟨_, _, _, Sat.ld h (List.mem_append_right _ (.head _)) rfl, ?_⟩
  intro X hX
  have h : Sat σ w (M ++ (RM ++ (KM ++ ((b, cel [m, .slice q n c] e) :: L)))) := h.re (by intro _; simp only [List.append_eq, cnt_append, cnt_cons, cnt_nil] <;> omega)
  refine printLoop (X := fun j w => X (some ⟨bb, 0, none⟩) q n c (n : Int) j w) (END := fun w => callE P i_bytes_Buffer_WriteString #[.pointer (some ⟨bb, 0, none⟩), .string (bs cEm)] (fun e w10 => ∃ (r9_0 : Int), ∃ (r9_1 : Value), e = .returned (.tuple #[.int .i64 r9_0, r9_1]) ∧ R (.returned (.tuple #[])) w10) w) hS (fun j w hj => hX _ _ _ _ _ _ _ hj) hP hB h hn (by omega) fun w M' hB h => ?_
  refine writeS_ok (s := cEm) hB h (by omega) fun w M hB h => ⟨_, _, rfl, ?_⟩
  exact hR w M hB (h.re (by intro _; simp only [List.append_eq, cnt_append, cnt_cons, cnt_nil] <;> omega))
/-! ### In general -/
mutual
/-- What an inline prints (of the kinds that are covered). -/
def outI : Inl → List UInt8
  | .plain s => escS htmlPs s
  | .strong _ ks => oStrong ++ outL ks ++ cStrong
  | .emph _ ks => oEm ++ outL ks ++ cEm
  | _ => []
def outL : List Inl → List UInt8
  | [] => []
  | t :: ts => outI t ++ outL ts
end
mutual
def okI : Inl → Prop
  | .plain s => s.length < 4294967296
  | .strong _ ks => okL ks ∧ ks.length < 1073741824
  | .emph _ ks => okL ks ∧ ks.length < 1073741824
  | _ => False
def okL : List Inl → Prop
  | [] => True
  | t :: ts => okI t ∧ okL ts
end
theorem Prints.as {m : String} {v : Value} {T T' : List Chunk} {f g : List UInt8 → List UInt8} (h : Prints m v T T' f) (e : f = g) : Prints m v T T' g := e ▸ h
theorem PrintsL.as {m : String} {v : List Value} {T T' : List Chunk} {f g : List UInt8 → List UInt8} (h : PrintsL m v T T' f) (e : f = g) : PrintsL m v T T' g := e ▸ h
mutual
theorem inl_prints : ∀ (t : Inl) (v : Value) (M : List Chunk), InlAt t v M → okI t → Prints "PrintHTML" v M M (ab (outI t))
  | .plain s, v, M, h, ho => by
    obtain ⟨b, cs, e, rfl, rfl⟩ := h
    exact plain_prints ho
  | .strong m ks, v, M, h, ho => by
    obtain ⟨b, e, q, n, c, vs, RM, KM, rfl, rfl, hS, hI⟩ := h
    have hl := hI.length
    have h0 := hS.1
    have h1 := ho.2
    refine (strong_prints hS (by omega) (inls_print ks vs KM hI ho.1)).as ?_
    funext l
    simp [ab, outI]
  | .emph m ks, v, M, h, ho => by
    obtain ⟨b, e, q, n, c, vs, RM, KM, rfl, rfl, hS, hI⟩ := h
    have hl := hI.length
    have h0 := hS.1
    have h1 := ho.2
    refine (em_prints hS (by omega) (inls_print ks vs KM hI ho.1)).as ?_
    funext l
    simp [ab, outI]
  | .openP _ _, v, M, h, ho => absurd ho id
  | .emphP _ _ _ _ _, v, M, h, ho => absurd ho id
  | .esc _, v, M, h, ho => absurd ho id
  | .code _, v, M, h, ho => absurd ho id
  | .del _ _, v, M, h, ho => absurd ho id
  | .link _ _ _ _ _, v, M, h, ho => absurd ho id
  | .image _ _ _ _ _, v, M, h, ho => absurd ho id
  | .auto _ _, v, M, h, ho => absurd ho id
  | .tag _, v, M, h, ho => absurd ho id
  | .hard, v, M, h, ho => absurd ho id
  | .soft, v, M, h, ho => absurd ho id
  | .task _, v, M, h, ho => absurd ho id
theorem inls_print : ∀ (ts : List Inl) (vs : List Value) (M : List Chunk), InlsAt ts vs M → okL ts → PrintsL "PrintHTML" vs M M (ab (outL ts))
  | [], vs, M, h, ho => by
    obtain ⟨rfl, rfl⟩ := h
    exact PrintsL.nil.as (by funext l; simp [ab, outL])
  | t :: ts, vs, M, h, ho => by
    obtain ⟨v, vs', M1, M2, rfl, rfl, h1, h2⟩ := h
    refine (PrintsL.cons (inl_prints t v M1 h1 ho.1) (inls_print ts vs' M2 h2 ho.2)).as ?_
    funext l
    simp [ab, outL]
end
end Go.Proofs.YtmkfleohcnopkaaGreatDoor

set_option linter.unusedVariables false
namespace Go.Proofs.YtmkfleohcnopkaaGreatDoor
open Go.Proofs Go.Shelf
def lays105_ren : Go.Shelf.Ren := ⟨fun | 105 => 11 | 212 => 24 | 99 => 25 | 165 => 26 | 166 => 21 | 170 => 27 | 169 => 23 | 263 => 32 | 264 => 33 | 206 => 34 | 240 => 31 | 241 => 35 | 276 => 45 | 277 => 46 | n => n, fun | 9 => 9 | 3 => 3 | 4 => 4 | 20 => 20 | 0 => 0 | 46 => 52 | 109 => 53 | 5 => 5 | 72 => 44 | 76 => 48 | 51 => 70 | 146 => 71 | 53 => 73 | 148 => 74 | 70 => 41 | 37 => 42 | 75 => 47 | 127 => 69 | 164 => 103 | 80 => 51 | n => n, fun | n => n⟩
theorem lays105 : Go.Proofs.Lays.n105 Tryz.prog lays105_ren := {
  mixed := by kernel_rfl
  f99 := Tryz.func25.trans (congrArg some (by kernel_rfl))
  f105 := Tryz.func11.trans (congrArg some (by kernel_rfl))
  f165 := Tryz.func26.trans (congrArg some (by kernel_rfl))
  f166 := Tryz.func21.trans (congrArg some (by kernel_rfl))
  f169 := Tryz.func23.trans (congrArg some (by kernel_rfl))
  f170 := Tryz.func27.trans (congrArg some (by kernel_rfl))
  f206 := Tryz.func34.trans (congrArg some (by kernel_rfl))
  f212 := Tryz.func24.trans (congrArg some (by kernel_rfl))
  f240 := Tryz.func31.trans (congrArg some (by kernel_rfl))
  f241 := Tryz.func35.trans (congrArg some (by kernel_rfl))
  f263 := Tryz.func32.trans (congrArg some (by kernel_rfl))
  f264 := Tryz.func33.trans (congrArg some (by kernel_rfl))
  f276 := Tryz.func45.trans (congrArg some (by kernel_rfl))
  f277 := Tryz.func46.trans (congrArg some (by kernel_rfl))
  t0 := Tryz.underlying0
  a0 := Tryz.isAgg0
  z0 := Tryz.sizeOf0
  v0 := Tryz.zeroValue0
  t3 := Tryz.underlying3
  a3 := Tryz.isAgg3
  z3 := Tryz.sizeOf3
  v3 := Tryz.zeroValue3
  t4 := Tryz.underlying4
  a4 := Tryz.isAgg4
  z4 := Tryz.sizeOf4
  v4 := Tryz.zeroValue4
  t5 := Tryz.underlying5
  a5 := Tryz.isAgg5
  z5 := Tryz.sizeOf5
  v5 := Tryz.zeroValue5
  t9 := Tryz.underlying9
  a9 := Tryz.isAgg9
  z9 := Tryz.sizeOf9
  v9 := Tryz.zeroValue9
  t20 := Tryz.underlying20
  a20 := Tryz.isAgg20
  z20 := Tryz.sizeOf20
  v20 := Tryz.zeroValue20
  t37 := Tryz.underlying42
  a37 := Tryz.isAgg42
  z37 := Tryz.sizeOf42
  v37 := Tryz.zeroValue42
  t46 := Tryz.underlying52
  a46 := Tryz.isAgg52
  z46 := Tryz.sizeOf52
  v46 := Tryz.zeroValue52
  t51 := Tryz.underlying70
  a51 := Tryz.isAgg70
  z51 := Tryz.sizeOf70
  v51 := Tryz.zeroValue70
  t53 := Tryz.underlying73
  a53 := Tryz.isAgg73
  z53 := Tryz.sizeOf73
  v53 := Tryz.zeroValue73
  t70 := Tryz.underlying41
  a70 := Tryz.isAgg41
  z70 := Tryz.sizeOf41
  v70 := Tryz.zeroValue41
  t72 := Tryz.underlying44
  a72 := Tryz.isAgg44
  z72 := Tryz.sizeOf44
  v72 := Tryz.zeroValue44
  t75 := Tryz.underlying47
  a75 := Tryz.isAgg47
  z75 := Tryz.sizeOf47
  v75 := Tryz.zeroValue47
  t76 := Tryz.underlying48
  a76 := Tryz.isAgg48
  z76 := Tryz.sizeOf48
  v76 := Tryz.zeroValue48
  t109 := Tryz.underlying53
  a109 := Tryz.isAgg53
  z109 := Tryz.sizeOf53
  v109 := Tryz.zeroValue53
  t127 := Tryz.underlying69
  a127 := Tryz.isAgg69
  z127 := Tryz.sizeOf69
  v127 := Tryz.zeroValue69
  t146 := Tryz.underlying71
  a146 := Tryz.isAgg71
  z146 := Tryz.sizeOf71
  v146 := Tryz.zeroValue71
  t148 := Tryz.underlying74
  a148 := Tryz.isAgg74
  z148 := Tryz.sizeOf74
  v148 := Tryz.zeroValue74
  t164 := Tryz.underlying103
  a164 := Tryz.isAgg103
  z164 := Tryz.sizeOf103
  v164 := Tryz.zeroValue103 }
theorem lays105_cf : ∀ args w, (callFunc 11 args).run Tryz.prog w = .ok (.enter 11 args) w := Tryz.call11
end Go.Proofs.YtmkfleohcnopkaaGreatDoor

/- strings.Repeat, by the shelf's contract. -/
set_option linter.unusedVariables false
namespace Go.Proofs.YtmkfleohcnopkaaGreatDoor
open Go.Proofs Go.IntWalk Go.RowKit Go.Shelf
variable {σ : Out} {w : World} {L L' : List Chunk} {R : Ending → World → Prop}
theorem bExtra : Builder.Extra P lays105_ren := {
  sizeBuilder := by kernel_rfl
  liesBuilder := by kernel_rfl
  t5 := lays105.t5
  a5 := lays105.a5
  z5 := lays105.z5
  v5 := lays105.v5
  infoByte := by kernel_rfl
  cellsByte := by kernel_rfl
  sizeByte := by kernel_rfl
  neB5 := by decide }
theorem Sat.below (h : Sat σ w L) {w' : World} (hb : Below w.heap.size w w') : Sat σ w' L := by
  refine ⟨hb.os.trans h.os, hb.output.trans h.out, h.nodup, ?_⟩
  intro c hc
  rw [hb.block _ (h.lt hc)]
  exact h.at_ _ hc
theorem repeat_ok {s : List UInt8} {c : Nat} (hb : s.length * c ≤ 140737488355328) (hc : c < 9223372036854775807) (h : Sat σ w L) (hR : ∀ w, Sat σ w L → R (.returned (.string (bs (Lib.repeatL s c)))) w) :
    callE P i_strings_Repeat #[.string (bs s), .int .i64 c] R w := by
  refine callE_calls lays105_cf ((Any.strings_Repeat (P := P) lays105 bExtra (bs s) c w (by omega) (by rw [bs_size]; exact hb)).mono ?_)
  rintro e w' ⟨rfl, hbl⟩
  exact hR w' (h.below hbl)
end Go.Proofs.YtmkfleohcnopkaaGreatDoor

/- A word between asterisks: the emphasis within each other. -/
set_option linter.unusedVariables false
namespace Go.Proofs.YtmkfleohcnopkaaGreatDoor
open Go.Proofs Go.IntWalk Go.RowKit
variable {σ : Out} {w : World} {L L' : List Chunk} {R : Ending → World → Prop}
def stars (n : Nat) : List UInt8 := List.replicate n 42
@[simp] theorem stars_length (n : Nat) : (stars n).length = n := by simp [stars]
theorem stars_take {m n : Nat} (h : m ≤ n) : (stars n).take m = stars m := by simp [stars, Nat.min_eq_left h]
theorem stars_drop (m n : Nat) : (stars n).drop m = stars (n - m) := by simp [stars]
theorem stars_nil {n : Nat} : stars n = [] ↔ n = 0 := by
  constructor
  · intro h; have := congrArg List.length h; simpa using this
  · rintro rfl; rfl
def nest : Nat → Inl → Inl
  | 0, y => y
  | 1, y => .emph (stars 1) [y]
  | m + 2, y => nest m (.strong (stars 2) [y])
theorem closeNest (n : Int) (px : Inl) : ∀ (f m : Nat) (y : Inl), m ≤ f → 1 ≤ m →
    ∃ st', closeGo 1 false true n f (stars m) [px, .emphP (stars m) true false 1 n, y] [[], [1], [], [], []] = ([], [px, nest m y], st') := by
  intro f
  induction f using Nat.strongRecOn with
  | ind f ih =>
    intro m y hmf h1
    match f, hmf with
    | 0, hmf => omega
    | f + 1, hmf =>
      have hne : stars m ≠ [] := fun h => by have := stars_nil.1 h; omega
      rw [closeGo, if_neg hne]
      have hcand : cand false true n [px, .emphP (stars m) true false 1 n, y] 1 = true := by
        simp [cand, badEmph]
      have hfind : (([[], [1], [], [], []] : List (List Nat)).getD 1 []).reverse.find? (cand false true n [px, .emphP (stars m) true false 1 n, y]) = some 1 := by
        simp [hcand]
      rw [hfind]
      simp only [List.getElem?_cons_succ, List.getElem?_cons_zero, stars_length, and_self, List.take_succ_cons, List.take_zero, List.drop_succ_cons, List.drop_zero]
      by_cases h2 : 2 ≤ m
      · simp only [if_pos h2]
        rw [stars_take (show m - 2 ≤ m by omega), stars_take h2, stars_drop]
        match m, h2 with
        | k + 2, h2 =>
          simp only [Nat.add_sub_cancel]
          by_cases hk : k = 0
          · subst hk
            simp only [stars_nil.2 rfl, if_true, List.append_nil]
            cases f with
            | zero => exact ⟨_, rfl⟩
            | succ f => exact ⟨_, rfl⟩
          · have hks : stars k ≠ [] := fun h => hk (stars_nil.1 h)
            rw [if_neg hks]
            exact ih f (by omega) k (.strong (stars 2) [y]) (by omega) (by omega)
      · have hm1 : m = 1 := by omega
        subst hm1
        cases f with
        | zero => exact ⟨_, rfl⟩
        | succ f => exact ⟨_, rfl⟩
theorem emphM_nest {n : Nat} (hn : 1 ≤ n) (s : List UInt8) (y : List UInt8) :
    emphM [.plain s, .emphP (stars n) true false 0 n, .plain y, .emphP (stars n) false true 0 n] = [.plain s, nest n (.plain y)] := by
  obtain ⟨st', h⟩ := closeNest (n : Int) (.plain s) n n (.plain y) (Nat.le_refl _) hn
  have hne : stars n ≠ [] := fun h => by have := stars_nil.1 h; omega
  have hix : ixOf ((stars n).headD 0) = 1 := by
    match n, hn with
    | k + 1, _ => rfl
  unfold emphM
  rw [emphGo, emphGo]
  simp only [hix, Bool.false_eq_true, if_false, if_true, if_neg hne, List.nil_append]
  rw [emphGo, emphGo]
  simp only [hix, stars_length, if_true]
  have e : (([.plain s] : List Inl) ++ [.emphP (stars n) true false (([.plain s] : List Inl).length : Nat) n] ++ [.plain y]) = [.plain s, .emphP (stars n) true false 1 n, .plain y] := rfl
  have e2 : (([[], [], [], [], []] : List (List Nat)).set 1 (([[], [], [], [], []] : List (List Nat)).getD 1 [] ++ [([.plain s] : List Inl).length])) = [[], [1], [], [], []] := rfl
  rw [e, e2, h]
  simp only [if_true]
  rw [emphGo]
  all_goals (intros; rename_i h'; cases h')
def nestO : Nat → List UInt8 → List UInt8
  | 0, o => o
  | 1, o => oEm ++ o ++ cEm
  | m + 2, o => nestO m (oStrong ++ o ++ cStrong)
theorem nest_out : ∀ (m : Nat) (y : Inl), outI (nest m y) = nestO m (outI y)
  | 0, y => rfl
  | 1, y => by simp [nest, nestO, outI, outL]
  | m + 2, y => by rw [nest, nestO, nest_out m]; simp [outI, outL]
theorem nest_ok : ∀ (m : Nat) (y : Inl), okI y → okI (nest m y)
  | 0, y, h => h
  | 1, y, h => ⟨⟨h, trivial⟩, by simp⟩
  | m + 2, y, h => nest_ok m _ ⟨⟨h, trivial⟩, by simp⟩
theorem nest_noplain : ∀ (m : Nat) (y : Inl), 1 ≤ m → (nest m y).plain? = none
  | 0, y, h => by omega
  | 1, y, h => rfl
  | 2, y, h => rfl
  | m + 3, y, h => by rw [nest]; exact nest_noplain (m + 1) _ (by omega)
theorem repeatL_comm (l : List UInt8) : ∀ c, l ++ Lib.repeatL l c = Lib.repeatL l c ++ l
  | 0 => by simp [Lib.repeatL]
  | c + 1 => by rw [Lib.repeatL, List.append_assoc, ← repeatL_comm l c]
theorem nestO_eq : ∀ (m : Nat) (o : List UInt8), nestO m o = (if m % 2 = 1 then oEm else []) ++ ((Lib.repeatL oStrong (m / 2) ++ o) ++ Lib.repeatL cStrong (m / 2)) ++ (if m % 2 = 1 then cEm else [])
  | 0, o => by simp [nestO, Lib.repeatL]
  | 1, o => by simp [nestO, Lib.repeatL]
  | m + 2, o => by
    rw [nestO, nestO_eq m]
    have e1 : (m + 2) % 2 = m % 2 := by omega
    have e2 : (m + 2) / 2 = m / 2 + 1 := by omega
    rw [e1, e2, Lib.repeatL, Lib.repeatL, repeatL_comm oStrong]
    simp
def nestT (n : Nat) : List UInt8 := [120, 32] ++ stars n ++ [97] ++ stars n
theorem nestT_length (n : Nat) : (nestT n).length = 3 + 2 * n := by simp [nestT]; omega
theorem nestT_mem {n : Nat} {c : UInt8} (h : c ∈ nestT n) : c = 120 ∨ c = 32 ∨ c = 42 ∨ c = 97 := by
  simp only [nestT, List.mem_append, List.mem_cons, List.mem_nil_iff, or_false, stars, List.mem_replicate] at h
  rcases h with (((h | h) | h) | h) | h
  · exact .inl h
  · exact .inr (.inl h)
  · exact .inr (.inr (.inl h.2))
  · exact .inr (.inr (.inr h))
  · exact .inr (.inr (.inl h.2))
theorem nestT_trim (n : Nat) : trimLR isST (nestT n) = nestT n := by
  have e : ∃ l c, nestT n = 120 :: (l ++ [c]) ∧ isST c = false := by
    cases n with
    | zero => exact ⟨[32], 97, rfl, by decide⟩
    | succ k =>
      refine ⟨[32] ++ stars (k + 1) ++ [97] ++ stars k, 42, ?_, by decide⟩
      have : stars (k + 1) = stars k ++ [42] := by unfold stars; rw [List.replicate_succ']
      simp only [nestT, List.cons_append, List.nil_append, List.append_assoc]
      rw [← this]
  obtain ⟨l, c, e, hc⟩ := e
  rw [e]
  unfold trimLR trimR
  have e1 : (120 :: (l ++ [c]) : List UInt8).dropWhile isST = 120 :: (l ++ [c]) := rfl
  rw [e1]
  have e2 : (120 :: (l ++ [c]) : List UInt8).reverse = c :: (l.reverse ++ [120]) := by simp
  rw [e2, List.dropWhile_cons, hc]
  simp
theorem getD_app {a b : List UInt8} {k : Nat} (h : a.length ≤ k) : (a ++ b).getD k 0 = b.getD (k - a.length) 0 := by
  rw [List.getD_eq_getElem?_getD, List.getElem?_append_right h, ← List.getD_eq_getElem?_getD]
theorem getD_app' {a b : List UInt8} {k : Nat} {d : UInt8} (h : k < a.length) : (a ++ b).getD k d = a.getD k d := by
  rw [List.getD_eq_getElem?_getD, List.getElem?_append_left h, ← List.getD_eq_getElem?_getD]
end Go.Proofs.YtmkfleohcnopkaaGreatDoor

set_option linter.unusedVariables false
set_option maxRecDepth 20000
namespace Go.Proofs.YtmkfleohcnopkaaGreatDoor
open Go.Proofs
/- 3 pub-paratext/laws.FnDots -/
noncomputable def g_laws_FnDots.body : Code := bodyOf Tryz.f3
def g_laws_FnDots (R : Ending → World → Prop) (x0 : ByteArray) (w : World) : Prop :=
 br (decide ((x0.size : Int) > 2147483647))
 (R (.returned (.bool true)) w)
 (callE P i_laws_only #[.string x0, .string (ByteArray.mk #[97, 98, 32, 46]), .int .i64 100] (fun e w2 => ∃ (r1 : Bool), e = .returned (.bool r1) ∧
 br (!r1)
 (R (.returned (.bool true)) w2)
 ((((ByteArray.mk #[120]).size + x0.size : Nat) : Int) ≤ IntKind.i64.max ∧
 ((((ByteArray.mk #[120]) ++ x0).size + (ByteArray.mk #[120]).size : Nat) : Int) ≤ IntKind.i64.max ∧
 callE P i_impl_HTML #[.agg #[.bool false, .bool false, .bool false, .bool false, .bool false, .bool true, .bool false, .bool false, .bool false, .bool false], .string (((ByteArray.mk #[120]) ++ x0) ++ (ByteArray.mk #[120]))] (fun e w4 => ∃ (r3 : ByteArray), e = .returned (.string r3) ∧
 callE P i_laws_ellipses #[.string (((ByteArray.mk #[120]) ++ x0) ++ (ByteArray.mk #[120]))] (fun e w6 => ∃ (r5 : ByteArray), e = .returned (.string r5) ∧
 (((ByteArray.mk #[60, 112, 62]).size + r5.size : Nat) : Int) ≤ IntKind.i64.max ∧
 ((((ByteArray.mk #[60, 112, 62]) ++ r5).size + (ByteArray.mk #[60, 47, 112, 62, 10]).size : Nat) : Int) ≤ IntKind.i64.max ∧
 R (.returned (.bool (r3.toList == (((ByteArray.mk #[60, 112, 62]) ++ r5) ++ (ByteArray.mk #[60, 47, 112, 62, 10])).toList))) w6) w4) w2)) w)

noncomputable def g_laws_FnDots.ac (R : Ending → World → Prop) : AC :=
  (.leaf (sel [] g_laws_FnDots.body))
theorem g_laws_FnDots.good (R : Ending → World → Prop) : Good P 20 (g_laws_FnDots.ac R) (QF P [.tmp 2] R) :=
  trivial
theorem g_laws_FnDots.eq (R : Ending → World → Prop) (x0 : ByteArray) (w : World) : g_laws_FnDots R x0 w = vcA P 20 (g_laws_FnDots.ac R) (QF P [.tmp 2] R) (fr0 [.string x0]) w := by kernel_rfl
theorem g_laws_FnDots.sound {R : Ending → World → Prop} {x0 : ByteArray} {w : World} (h : g_laws_FnDots R x0 w) : callE P i_laws_FnDots #[.string x0] R w :=
  callE_fin (c := g_laws_FnDots.body) Tryz.func3 Tryz.call3 (by kernel_rfl) (by kernel_rfl) (by kernel_rfl) (by kernel_rfl) (by kernel_rfl) (g_laws_FnDots.good R) (g_laws_FnDots.eq R x0 w) h
end Go.Proofs.YtmkfleohcnopkaaGreatDoor

set_option linter.unusedVariables false
set_option maxRecDepth 20000
namespace Go.Proofs.YtmkfleohcnopkaaGreatDoor
open Go.Proofs
/- 9 pub-paratext/laws.ellipses -/
noncomputable def g_laws_ellipses.body : Code := bodyOf Tryz.f9
def g_laws_ellipses.bl1 (R : Ending → World → Prop) (Xa : ByteArray → Nat → Int → World → Prop) (x0 : ByteArray) (x3 : Nat) (x4 : Int) (w : World) : Prop :=
 br (decide (x4 < (x0.size : Int)))
 (0 ≤ x4 ∧ x4 ≤ (x0.size : Int) ∧
 callE P i_laws_headed #[.string (x0.extract (Int.toNat x4) x0.size), .string (ByteArray.mk #[46, 46, 46])] (fun e w4 => ∃ (r3 : Bool), e = .returned (.bool r3) ∧
 br r3
 (callE P i_strings_Builder_WriteString #[.pointer (some ⟨x3, 0, none⟩), .string (ByteArray.mk #[226, 128, 166])] (fun e w6 => ∃ (r5_0 : Int), ∃ (r5_1 : Value), e = .returned (.tuple #[.int .i64 r5_0, r5_1]) ∧
 Xa x0 x3 (IntKind.i64.wrap ((IntKind.i64.wrap (x4 + 2)) + 1)) w6) w4)
 (0 ≤ x4 ∧ x4 < (x0.size : Int) ∧
 callE P i_strings_Builder_WriteByte #[.pointer (some ⟨x3, 0, none⟩), .int .u8 (bt x0 x4)] (fun e w8 => ∃ (r7 : Value), e = .returned r7 ∧
 Xa x0 x3 (IntKind.i64.wrap (x4 + 1)) w8) w4)) w)
 (callE P i_strings_Builder_String #[.pointer (some ⟨x3, 0, none⟩)] (fun e w10 => ∃ (r9 : ByteArray), e = .returned (.string r9) ∧
 R (.returned (.string r9)) w10) w)
def g_laws_ellipses.l1 (R : Ending → World → Prop) (x0 : ByteArray) (x3 : Nat) (x4 : Int) (w : World) : Prop :=
  ∀ X : ByteArray → Nat → Int → World → Prop, (∀ x0 x3 x4 w, g_laws_ellipses.bl1 R X x0 x3 x4 w → X x0 x3 x4 w) → X x0 x3 x4 w

noncomputable def g_laws_ellipses.al1 (R : Ending → World → Prop) (Xa : ByteArray → Nat → Int → World → Prop) : AC :=
  (.leaf (sel [1, 1, 0, 1, 0, 0] g_laws_ellipses.body))
def g_laws_ellipses (R : Ending → World → Prop) (x0 : ByteArray) (w : World) : Prop :=
 box w #[.pointer none, .slice none 0 0] ty_strings_Builder fun b1 w2 =>
 g_laws_ellipses.l1 R x0 b1 0 w2

noncomputable def g_laws_ellipses.ac (R : Ending → World → Prop) : AC :=
  (.seq (.leaf (sel [0] g_laws_ellipses.body)) (.seq (.leaf (sel [1, 0] g_laws_ellipses.body)) (.seq (.seq (.leaf (sel [1, 1, 0, 0] g_laws_ellipses.body)) (.block 0 (.loop (leaf [(0, .s .str), (3, .s .loc), (4, .s (.int .i64))] (g_laws_ellipses.l1 R)) (sel [1, 1, 0, 1, 0, 0] g_laws_ellipses.body)))) (.leaf (sel [1, 1, 1] g_laws_ellipses.body)))))
theorem g_laws_ellipses.good (R : Ending → World → Prop) : Good P 23 (g_laws_ellipses.ac R) (QF P [.tmp 2] R) :=
  ⟨trivial, ⟨trivial, ⟨⟨trivial, (loopG (g_laws_ellipses.al1 R) (g_laws_ellipses.bl1 R) (fun _ => by kernel_rfl) (fun Xa => trivial) (fun Xa => by intro x0 x3 x4 ρ w; kernel_rfl) (fun X h _ _ _ _ g => g X h))⟩, trivial⟩⟩⟩
theorem g_laws_ellipses.eq (R : Ending → World → Prop) (x0 : ByteArray) (w : World) : g_laws_ellipses R x0 w = vcA P 23 (g_laws_ellipses.ac R) (QF P [.tmp 2] R) (fr0 [.string x0]) w := by kernel_rfl
theorem g_laws_ellipses.sound {R : Ending → World → Prop} {x0 : ByteArray} {w : World} (h : g_laws_ellipses R x0 w) : callE P i_laws_ellipses #[.string x0] R w :=
  callE_fin (c := g_laws_ellipses.body) Tryz.func9 Tryz.call9 (by kernel_rfl) (by kernel_rfl) (by kernel_rfl) (by kernel_rfl) (by kernel_rfl) (g_laws_ellipses.good R) (g_laws_ellipses.eq R x0 w) h
end Go.Proofs.YtmkfleohcnopkaaGreatDoor

set_option linter.unusedVariables false
set_option maxRecDepth 20000
namespace Go.Proofs.YtmkfleohcnopkaaGreatDoor
open Go.Proofs
/- 59 pub-paratext/pub/rscmarkdown.parseDot -/
noncomputable def g_parseDot.body : Code := bodyOf Tryz.f59
def g_parseDot.k1 (R : Ending → World → Prop) (x2 : Int) (x28 : Bool) (w : World) : Prop :=
 br x28
 (box w #[.string (ByteArray.mk #[226, 128, 166])] ty_Plain fun b1 w2 =>
 R (.returned (.tuple #[.iface ty_P_Plain (.pointer (some ⟨b1, 0, none⟩)), .int .i64 x2, .int .i64 (IntKind.i64.wrap (x2 + 3)), .bool true])) w2)
 (R (.returned (.tuple #[.nilIface, .int .i64 0, .int .i64 0, .bool false])) w)

def g_parseDot (R : Ending → World → Prop) (x0 : Option Addr) (x1 : ByteArray) (x2 : Int) (w : World) : Prop :=
 ((decide ((IntKind.i64.wrap (x2 + 2)) < (x1.size : Int))) = true → 0 ≤ (IntKind.i64.wrap (x2 + 1)) ∧ (IntKind.i64.wrap (x2 + 1)) < (x1.size : Int)) ∧
 (((decide ((IntKind.i64.wrap (x2 + 2)) < (x1.size : Int))) && ((bt x1 (IntKind.i64.wrap (x2 + 1))) == 46)) = true → 0 ≤ (IntKind.i64.wrap (x2 + 2)) ∧ (IntKind.i64.wrap (x2 + 2)) < (x1.size : Int)) ∧
 g_parseDot.k1 R x2 (((decide ((IntKind.i64.wrap (x2 + 2)) < (x1.size : Int))) && ((bt x1 (IntKind.i64.wrap (x2 + 1))) == 46)) && ((bt x1 (IntKind.i64.wrap (x2 + 2))) == 46)) w

noncomputable def g_parseDot.ac (R : Ending → World → Prop) : AC :=
  (.seq (.leaf (sel [0] g_parseDot.body)) (.seq (.seq (.leaf (sel [1, 0, 0] g_parseDot.body)) (.mark (leaf [(2, .s (.int .i64)), (28, .s .bool)] (g_parseDot.k1 R)) (.leaf (sel [1, 0, 1] g_parseDot.body)))) (.leaf (sel [1, 1] g_parseDot.body))))
theorem g_parseDot.good (R : Ending → World → Prop) : Good P 35 (g_parseDot.ac R) (QF P [.tmp 6, .tmp 7, .tmp 8, .tmp 9] R) :=
  ⟨trivial, ⟨⟨trivial, ⟨trivial, cutE (by intro x2 x28 ρ w; kernel_rfl)⟩⟩, trivial⟩⟩
theorem g_parseDot.eq (R : Ending → World → Prop) (x0 : Option Addr) (x1 : ByteArray) (x2 : Int) (w : World) : g_parseDot R x0 x1 x2 w = vcA P 35 (g_parseDot.ac R) (QF P [.tmp 6, .tmp 7, .tmp 8, .tmp 9] R) (fr0 [.pointer x0, .string x1, .int .i64 x2]) w := by kernel_rfl
theorem g_parseDot.sound {R : Ending → World → Prop} {x0 : Option Addr} {x1 : ByteArray} {x2 : Int} {w : World} (h : g_parseDot R x0 x1 x2 w) : callE P i_parseDot #[.pointer x0, .string x1, .int .i64 x2] R w :=
  callE_fin (c := g_parseDot.body) Tryz.func59 Tryz.call59 (by kernel_rfl) (by kernel_rfl) (by kernel_rfl) (by kernel_rfl) (by kernel_rfl) (g_parseDot.good R) (g_parseDot.eq R x0 x1 x2 w) h
end Go.Proofs.YtmkfleohcnopkaaGreatDoor

/- Smart dots: the inlines of a line of letters, spaces and full stops. -/
set_option linter.unusedVariables false
namespace Go.Proofs.YtmkfleohcnopkaaGreatDoor
open Go.Proofs Go.IntWalk Go.RowKit
variable {σ : Out} {w : World} {L L' : List Chunk} {R : Ending → World → Prop}
def dots3 (s : List UInt8) (i : Nat) : Bool := decide (i + 2 < s.length) && (s.getD (i + 1) 0 == 46) && (s.getD (i + 2) 0 == 46)
theorem bt_getD {l : List UInt8} {i : Nat} (d : UInt8) (n : Int) (hd : (d.toNat : Int) = n) : (bt (bs l) (i : Int) == n) = (l.getD i 0 == d) := by
  subst hd
  rw [bs_bt, u8_beq]
theorem parseDot_ok {q : Option Addr} {s : List UInt8} {i : Nat} (hs : s.length < 4611686018427387904) (hi : i < s.length) (h : Sat σ w L)
    (hR : if dots3 s i then ∀ w nb, Sat σ w (plainC nb [226, 128, 166] :: L) → R (.returned (.tuple #[ptrV ty_P_Plain nb, .int .i64 i, .int .i64 ((i + 3 : Nat) : Int), .bool true])) w
      else R (.returned (.tuple #[.nilIface, .int .i64 0, .int .i64 0, .bool false])) w) :
    callE P i_parseDot #[.pointer q, .string (bs s), .int .i64 i] R w := by
  refine g_parseDot.sound ?_
  have e1 : IntKind.i64.wrap ((i : Int) + 1) = ((i + 1 : Nat) : Int) := i64_inc (by omega)
  have e2 : IntKind.i64.wrap ((i : Int) + 2) = ((i + 2 : Nat) : Int) := by simp (disch := omega) only [i64_in]; rfl
  have e3 : IntKind.i64.wrap ((i : Int) + 3) = ((i + 3 : Nat) : Int) := by simp (disch := omega) only [i64_in]; rfl
  have hd : (((decide (((i + 2 : Nat) : Int) < ((bs s).size : Int))) && ((bt (bs s) ((i + 1 : Nat) : Int)) == 46)) && ((bt (bs s) ((i + 2 : Nat) : Int)) == 46)) = dots3 s i := by
    rw [bt_getD 46 46 rfl, bt_getD 46 46 rfl, bs_size]
    unfold dots3
    congr 2
    simp only [decide_eq_decide]
    omega
  unfold g_parseDot
  rw [e1, e2, hd]
  refine ⟨fun h => ?_, fun h => ?_, ?_⟩
  · simp at h; simp; omega
  · simp at h; simp; omega
  · unfold g_parseDot.k1
    rw [e3]
    split at hR
    · rename_i hd
      rw [hd]
      exact Sat.bx h fun nb w h => hR w nb h
    · rename_i hd
      rw [Bool.not_eq_true] at hd
      rw [hd]
      exact hR
def dotRes (s : List UInt8) (i : Nat) : Option (Inl × Nat × Nat) := if dots3 s i then some (.plain [226, 128, 166], i, i + 3) else none
theorem parseDot_leaf {b i : Nat} {p : PS} {s : List UInt8} (hs : s.length < 4611686018427387904) (hi : i < s.length) : LeafOK b p s i (.func (.func i_parseDot) #[] #[]) [] (dotRes s i) (fun p' => p' = p) := by
  intro σ R L w _ h hR
  refine enter_fn ?_
  refine parseDot_ok hs hi h ?_
  unfold dotRes at hR
  split
  · rename_i hd
    rw [if_pos hd] at hR
    exact fun w nb h => hR w p _ _ rfl rfl ⟨nb, [], _, rfl, rfl⟩ h.up1
  · rename_i hd
    rw [if_neg hd] at hR
    exact hR w p _ 0 0 rfl rfl h
/-- Each three full stops, from the left. -/
def ell : List UInt8 → List UInt8
  | [] => []
  | [a] => [a]
  | [a, b] => [a, b]
  | a :: b :: c :: s => if a = 46 ∧ b = 46 ∧ c = 46 then [226, 128, 166] ++ ell s else a :: ell (b :: c :: s)
theorem ell_dots {s : List UInt8} {i : Nat} (hi : i < s.length) (h46 : s[i] = 46) (hd : dots3 s i = true) : ell (s.drop i) = [226, 128, 166] ++ ell (s.drop (i + 3)) := by
  simp only [dots3, Bool.and_eq_true, decide_eq_true_eq] at hd
  obtain ⟨⟨h0, h1⟩, h2⟩ := hd
  rw [List.getD_eq_getElem?_getD, List.getElem?_eq_getElem (by omega)] at h1 h2
  simp at h1 h2
  rw [List.drop_eq_getElem_cons hi, List.drop_eq_getElem_cons (show i + 1 < s.length by omega), List.drop_eq_getElem_cons (show i + 2 < s.length by omega), ell, if_pos ⟨h46, h1, h2⟩]
theorem ell_step {s : List UInt8} {i : Nat} (hi : i < s.length) (h : s[i] = 46 → dots3 s i = false) : ell (s.drop i) = s[i] :: ell (s.drop (i + 1)) := by
  rw [List.drop_eq_getElem_cons hi]
  by_cases h1 : i + 1 < s.length
  · rw [List.drop_eq_getElem_cons h1]
    by_cases h2 : i + 2 < s.length
    · rw [List.drop_eq_getElem_cons h2, ell, if_neg]
      rintro ⟨ha, hb, hc⟩
      have := h ha
      simp [dots3, List.getD_eq_getElem?_getD, h2, h1, hb, hc] at this
    · rw [List.drop_eq_nil_of_le (by omega)]; rfl
  · rw [List.drop_eq_nil_of_le (by omega)]; rfl
def isDotText (s : List UInt8) : Bool := s.all fun c => c == 120 || c == 97 || c == 98 || c == 32 || c == 46
theorem parserOf_dot {o : Opt} {c : UInt8} (hd : o.dot = true) (hc : (c == 120 || c == 97 || c == 98 || c == 32 || c == 46) = true) : (c = 46 ∧ parserOf o c = .fn i_parseDot) ∨ (c ≠ 46 ∧ c ≠ 93 ∧ parserOf o c = .nil) := by
  simp only [Bool.or_eq_true, beq_iff_eq] at hc
  rcases hc with (((rfl | rfl) | rfl) | rfl) | rfl
  all_goals simp [parserOf, hd]
theorem sub_append {s : List UInt8} {e i j : Nat} (h1 : e ≤ i) (h2 : i ≤ j) (h3 : j ≤ s.length) : sub s e i ++ sub s i j = sub s e j := by
  unfold sub
  have e1 : (s.take j).take i = s.take i := by rw [List.take_take, Nat.min_eq_left h2]
  have e2 : (s.take j).drop e = ((s.take j).take i ++ (s.take j).drop i).drop e := by rw [List.take_append_drop]
  rw [e2, List.drop_append_of_le_length (by rw [List.length_take, List.length_take]; omega), e1]
theorem sub_one {s : List UInt8} {i : Nat} (h : i < s.length) : sub s i (i + 1) = [s[i]] := by
  unfold sub
  rw [List.take_succ_eq_append_getElem h, List.drop_append_of_le_length (by rw [List.length_take]; omega), List.drop_eq_nil_of_le (by rw [List.length_take]; omega)]
  rfl
theorem sub_self (s : List UInt8) (i : Nat) : sub s i i = [] := List.drop_eq_nil_of_le (by rw [List.length_take]; omega)
theorem sub_length {s : List UInt8} {i j : Nat} (h : j ≤ s.length) : (sub s i j).length = j - i := by unfold sub; rw [List.length_drop, List.length_take]; omega
theorem emitM_plain {s : List UInt8} {e i : Nat} {us : List (List UInt8)} (he : e ≤ i) (hi : i ≤ s.length) (hne : ∀ u ∈ us, u ≠ []) :
    ∃ us' : List (List UInt8), emitM s e i (us.map .plain) = us'.map .plain ∧ us'.flatten = us.flatten ++ sub s e i ∧ (∀ u ∈ us', u ≠ []) ∧ us'.length ≤ us.length + 1 := by
  unfold emitM
  split
  · rename_i h
    refine ⟨us ++ [sub s e i], by simp, by simp, ?_, by simp⟩
    intro u hu
    rcases List.mem_append.1 hu with hu | hu
    · exact hne u hu
    · simp at hu; subst hu
      intro h0
      have := sub_length (i := e) hi
      rw [h0] at this; simp at this; omega
  · have : e = i := by omega
    subst this
    exact ⟨us, rfl, by rw [sub_self]; simp, hne, by omega⟩
theorem mergeGo_plain : ∀ (us : List (List UInt8)) (p : List (List UInt8)), mergeGo p (us.map .plain) = flushP (p ++ us)
  | [], p => by simp [mergeGo]
  | u :: us, p => by simp [mergeGo, Inl.plain?, mergeGo_plain us]
theorem plen_plain : ∀ us : List (List UInt8), plen (us.map .plain) = us.flatten.length
  | [] => rfl
  | u :: us => by simp [plen, Inl.plain?, plen_plain us]
theorem ell_length : ∀ s : List UInt8, (ell s).length ≤ s.length
  | [] => by simp [ell]
  | [a] => by simp [ell]
  | [a, b] => by simp [ell]
  | a :: b :: c :: s => by
    have h1 := ell_length s
    have h2 := ell_length (b :: c :: s)
    rw [ell]
    split
    · simp; omega
    · simp at h2 ⊢; omega
theorem inlineDots_ok {b pb : Nat} {p : PS} {o : Opt} {raw : List UInt8} (h : Sat σ w (p.at b :: L)) (hpz : p.pz = some ⟨pb, 0, none⟩) (ho : o.at pb ∈ L) (hoff : o.auto = false) (hdot : o.dot = true) (hl : raw.length < 1000000) (hne : raw ≠ [])
    (htr : trimLR isST raw = raw) (hD : isDotText raw = true)
    (hR : ∀ w (p' : PS) q n c vs RM EM, ({ p' with s := [] } : PS).core = ({ p with s := [] } : PS).core → Sl 1 ty_Inline q n c vs RM → n < 1073741824 → InlsAt [.plain (ell raw)] vs EM → Sat σ w (p'.at b :: (RM ++ (EM ++ L))) → R (.returned (.slice q n c)) w) :
    callE P i_parseState_inline #[.pointer (some ⟨b, 0, none⟩), .string (bs raw)] R w := by
  refine inl_begin h (by omega) fun w h => ?_
  rw [htr] at h ⊢
  intro X hX
  have key : ∀ k i e (us : List (List UInt8)) (p1 : PS) oq on oc w, i + k ≤ raw.length + 2 → raw.length ≤ i + k → i ≤ raw.length → e ≤ i → us.length ≤ e → (∀ u ∈ us, u ≠ []) → ({ p1 with s := [] } : PS).core = ({ p with s := [] } : PS).core → p1.s = raw → p1.em = e →
      us.flatten ++ sub raw e i ++ ell (raw.drop i) = ell raw → IIn σ b p1 (us.map .plain) [] oq on oc L w → X (some ⟨b, 0, none⟩) (bs raw) oq on oc 0 false (i : Int) w := by
    intro k
    induction k using Nat.strongRecOn with
    | ind k ih =>
      intro i e us p1 oq on oc w hik hik2 hil he hul hune hc hs hem hel h
      have hpz1 : p1.pz = some ⟨pb, 0, none⟩ := by have := congrArg PS.pz hc; rw [← hpz]; exact this
      refine hX _ _ _ _ _ _ _ _ _ ?_
      rcases Nat.lt_or_ge i raw.length with hlt | hge
      · obtain ⟨vs, RM, EM, OM, hS, hI, hO, hlen, hsat⟩ := h
        have on0 : on = 0 := by have := hO.1; simp at this; omega
        have h : IIn σ b p1 (us.map .plain) [] oq on oc L w := ⟨vs, RM, EM, OM, hS, hI, hO, hlen, hsat⟩
        refine inl_dispatch (p := p1) hlt (by omega) hpz1 (.head _) (.tail _ (List.mem_append_right _ (List.mem_append_right _ (List.mem_append_right _ ho)))) hsat ?_
        have hch : (raw[i] == 120 || raw[i] == 97 || raw[i] == 98 || raw[i] == 32 || raw[i] == 46) = true := (List.all_eq_true.1 hD) raw[i] (List.getElem_mem hlt)
        have next : ∀ (p2 : PS) w, p2 = p1 → IIn σ b p2 (us.map .plain) [] oq on oc L w → (raw[i] = 46 → dots3 raw i = false) → X (some ⟨b, 0, none⟩) (bs raw) oq on oc 0 false ((i + 1 : Nat) : Int) w := by
          intro p2 w hp2 h2 hnd
          rw [hp2] at h2
          refine ih (k - 1) (by omega) (i + 1) e us p1 oq on oc w (by omega) (by omega) (by omega) (by omega) hul hune hc hs hem ?_ h2
          rw [← hel, ell_step hlt hnd, ← sub_append (show e ≤ i from he) (show i ≤ i + 1 by omega) (by omega), sub_one hlt]
          simp
        rcases parserOf_dot hdot hch with ⟨h46, hp⟩ | ⟨h46, h93, hp⟩
        · rw [hp]
          dsimp only
          have hleaf := parseDot_leaf (b := b) (p := p1) (show raw.length < 4611686018427387904 by omega) hlt
          rw [← hs] at hleaf
          cases hd : dots3 raw i with
          | true =>
            have hres : dotRes p1.s i = some (.plain [226, 128, 166], i, i + 3) := by unfold dotRes; rw [hs, hd]; rfl
            rw [hres] at hleaf
            have hi3 : i + 3 ≤ raw.length := by simp [dots3] at hd; omega
            rw [← hs]
            refine inl_leaf h (by simp) hleaf hem (by rw [hs]; omega) (by rw [hs]; omega) (by simp; omega) (by simp) fun w p2 oq on oc hp2 hem2 _ h2 => ?_
            obtain ⟨us', hu1, hu2, hu3, hu4⟩ := emitM_plain (s := p1.s) he (by rw [hs]; omega) hune
            rw [hs]
            refine ih (k - 3) (by omega) (i + 3) (i + 3) (us' ++ [[226, 128, 166]]) p2 oq on oc w (by omega) (by omega) hi3 (Nat.le_refl _) (by simp; omega) ?_ ?_ ?_ hem2 ?_ ?_
            · intro u hu
              rcases List.mem_append.1 hu with hu | hu
              · exact hu3 u hu
              · simp at hu; subst hu; simp
            · rw [← hc]
              have := congrArg (fun q : PS => ({ q with s := [] } : PS)) hp2
              exact this
            · have := congrArg PS.s hp2; rw [← hs]; exact this
            · rw [sub_self, ← hel, ell_dots hlt h46 hd]
              rw [List.flatten_append, hu2, hs]
              simp
            · rw [hu1] at h2
              simpa [Inl.isOpen] using h2
          | false =>
            have hres : dotRes p1.s i = none := by unfold dotRes; rw [hs, hd]; rfl
            rw [hres] at hleaf
            rw [← hs]
            refine inl_decl h (by simp) hleaf fun w p2 _ hp2 h2 => ?_
            rw [hs]
            exact inl_k5 hlt (by omega) (.inr on0) (next p2 w hp2 h2 fun _ => hd)
        · rw [hp]
          exact inl_none (inl_k5 hlt (by omega) (.inr on0) (next p1 w rfl h fun h => absurd h h46))
      · have hi : i = raw.length := by omega
        obtain ⟨us', hu1, hu2, hu3, hu4⟩ := emitM_plain (s := p1.s) (e := e) (i := p1.s.length) (by rw [hs]; omega) (Nat.le_refl _) hune
        have hfl : us'.flatten = ell raw := by
          rw [hu2, hs, ← hel, hi, List.drop_length]; simp [ell]
        have hus : us' ≠ [] := by
          intro h0
          rw [h0] at hfl
          have h1 : ell raw = [] := by rw [← hfl]; rfl
          match raw, hne, h1 with
          | [a], _, h1 => simp [ell] at h1
          | [a, b], _, h1 => simp [ell] at h1
          | a :: b :: c :: s, _, h1 => rw [ell] at h1; split at h1 <;> simp at h1
        have := inl_end (R := R) (X := X) (lo := 0) (bk := false) (ts' := us'.map .plain) h hem (by rw [hs]; omega) (by simp; omega) hpz1 ho hoff (by rw [hu1]; exact emphOK_none (by intro t ht; obtain ⟨u, _, rfl⟩ := List.mem_map.1 ht; exact ⟨by simp only [Inl.ty]; decide, by simp only [Inl.ty]; decide⟩))
          (by intro t ht s hs'; obtain ⟨u, hu, rfl⟩ := List.mem_map.1 ht; simp only [Inl.plain?, Option.some.injEq] at hs'; subst hs'; exact hu3 u hu)
          (by rw [plen_plain, hfl]; have := ell_length raw; omega)
          (fun w p2 q n c vs RM EM hp2 hS hn hI h => hR w p2 q n c vs RM EM (by rw [← hc]; have := congrArg (fun q : PS => ({ q with s := [] } : PS)) hp2; exact this) hS hn (by
            have e : mergeM (us'.map .plain) = [.plain (ell raw)] := by rw [mergeM, mergeGo_plain, List.nil_append, flushP, if_neg hus, hfl]
            rw [← e]; exact hI) h)
        rw [hs] at this
        rw [hi]
        exact this
  have := key raw.length 0 0 [] { p with s := raw, em := 0, lq := none, ln := 0, lc := 0 } none 0 0 w (by omega) (by omega) (by omega) (Nat.le_refl _) (by simp) (by simp) rfl rfl rfl (by rw [sub_self]; simp) h
  exact this
end Go.Proofs.YtmkfleohcnopkaaGreatDoor

/- FnDots: the law's walk. -/
set_option linter.unusedVariables false
namespace Go.Proofs.YtmkfleohcnopkaaGreatDoor
open Go.Proofs Go.IntWalk Go.RowKit
variable {σ : Out} {w : World} {L L' : List Chunk} {R : Ending → World → Prop}
theorem ell_hd {s : List UInt8} {i : Nat} (hi : i < s.length) (h : (s.drop i).take 3 = [46, 46, 46]) : i + 3 ≤ s.length ∧ ell (s.drop i) = [226, 128, 166] ++ ell (s.drop (i + 3)) := by
  have h3 : i + 3 ≤ s.length := by have := congrArg List.length h; simp at this; omega
  refine ⟨h3, ?_⟩
  rw [List.drop_eq_getElem_cons hi, List.drop_eq_getElem_cons (show i + 1 < s.length by omega), List.drop_eq_getElem_cons (show i + 2 < s.length by omega)] at h ⊢
  simp only [List.take_succ_cons, List.take_zero, List.cons.injEq, and_true] at h
  rw [ell, if_pos ⟨h.1, h.2.1, h.2.2⟩]
theorem ell_nh {s : List UInt8} {i : Nat} (hi : i < s.length) (h : (s.drop i).take 3 ≠ [46, 46, 46]) : ell (s.drop i) = s[i] :: ell (s.drop (i + 1)) := by
  rw [List.drop_eq_getElem_cons hi] at h ⊢
  by_cases h1 : i + 1 < s.length
  · rw [List.drop_eq_getElem_cons h1] at h ⊢
    by_cases h2 : i + 2 < s.length
    · rw [List.drop_eq_getElem_cons h2] at h ⊢
      rw [ell, if_neg]
      rintro ⟨ha, hb, hc⟩
      exact h (by simp [ha, hb, hc])
    · rw [List.drop_eq_nil_of_le (by omega)]; rfl
  · rw [List.drop_eq_nil_of_le (by omega)]; rfl
theorem ellipses_ok {s : List UInt8} (hs : s.length < 1000000000) (h : Sat σ w L) (hR : ∀ w, Sat σ w L → R (.returned (.string (bs (ell s)))) w) : callE P i_laws_ellipses #[.string (bs s)] R w := by
  refine g_laws_ellipses.sound ?_
  refine Sat.bx h fun b w h => ?_
  intro X hX
  have hbound := ell_length s
  have key : ∀ k i l g M w, i + k = s.length → Bld b g l M → Sat σ w (M ++ L) → l ++ ell (s.drop i) = ell s → X (bs s) b (i : Int) w := by
    intro k
    induction k using Nat.strongRecOn with
    | ind k ih =>
      intro i l g M w hi hB h hl
      rcases Nat.lt_or_ge i s.length with hlt | hge
      · have hll : l.length ≤ s.length := by have := congrArg List.length hl; simp at this; omega
        refine hX _ _ _ _ (br_true (by simp; omega) ⟨by omega, by simp; omega, ?_⟩)
        rw [bs_size, Int.toNat_natCast, bs_ext]
        refine headed_ok (t := [46, 46, 46]) ⟨_, rfl, ?_⟩
        by_cases hh : (s.drop i).take 3 = [46, 46, 46]
        · obtain ⟨h3, he⟩ := ell_hd hlt hh
          refine br_true (decide_eq_true hh) ?_
          refine bldS_ok (s := [226, 128, 166]) hB h (.inl (by simp)) (by simp; omega) fun w M hB h => ⟨_, _, rfl, ?_⟩
          have e : IntKind.i64.wrap (IntKind.i64.wrap ((i : Int) + 2) + 1) = ((i + 3 : Nat) : Int) := by simp (disch := omega) only [i64_in]; omega
          rw [e]
          exact ih (k - 3) (by omega) (i + 3) _ true M w (by omega) hB h (by rw [← hl, he]; simp)
        · refine br_false (decide_eq_false hh) ⟨by omega, by simp; omega, ?_⟩
          rw [bt_at hlt]
          refine bldB_ok hB h (by omega) fun w M hB h => ⟨_, rfl, ?_⟩
          rw [i64_inc (by omega)]
          exact ih (k - 1) (by omega) (i + 1) _ true M w (by omega) hB h (by rw [← hl, ell_nh hlt hh]; simp)
      · refine hX _ _ _ _ (br_false (by simp; omega) ?_)
        rw [List.drop_eq_nil_of_le (by omega)] at hl
        simp only [ell, List.append_nil] at hl
        refine bldStr_ok hB h (by rw [hl]; omega) fun w h => ⟨_, rfl, ?_⟩
        rw [hl]; exact hR w h
  exact key s.length 0 [] false _ w (by omega) (bldNew b) h rfl
def dotSet : List UInt8 := [97, 98, 32, 46]
theorem dropWhile_x (s : List UInt8) : (120 :: s).dropWhile isST = 120 :: s := rfl
theorem trim_x (s : List UInt8) : trimLR isST ([120] ++ s ++ [120]) = [120] ++ s ++ [120] := by
  have e : ([120] ++ s ++ [120] : List UInt8).dropWhile isST = [120] ++ s ++ [120] := rfl
  unfold trimLR trimR
  rw [e]
  have e2 : ([120] ++ s ++ [120] : List UInt8).reverse = 120 :: (s.reverse ++ [120]) := by simp
  rw [e2, dropWhile_x]
  simp
/-- A byte with which a line begins that no block but a paragraph begins with. -/
def plainStart (c : UInt8) : Bool := !(isST c || c == 62 || c == 35 || c == 95 || c == 60 || c == 96 || c == 126 || c == 61 || isBullet c)
theorem tsGo_first {c : UInt8} {s : List UInt8} (hc : isST c = false) (mn k n : Nat) (e : Bool) : (lnOf (c :: s)).tsGo mn e (k + 1) n = if mn ≤ n then some (lnOf (c :: s)) else none := by
  simp only [isST, Bool.or_eq_false_iff, beq_eq_false_iff_ne, ne_eq] at hc
  simp [Ln.tsGo, lnOf, hc.1, hc.2]
theorem plain_first {c : UInt8} {s : List UInt8} (hc : plainStart c = true) (hs : s.length < 1000000) : (lnOf (c :: s)).plain := by
  simp only [plainStart, Bool.not_eq_true', Bool.or_eq_false_iff, beq_eq_false_iff_ne, ne_eq] at hc
  obtain ⟨⟨⟨⟨⟨⟨⟨⟨hst, h62⟩, h35⟩, h95⟩, h60⟩, h96⟩, h126⟩, h61⟩, hbu⟩ := hc
  have hlead : ∀ e, (lnOf (c :: s)).lead 3 e = lnOf (c :: s) := by
    intro e; unfold Ln.lead Ln.trimSp; rw [tsGo_first hst]; rfl
  have hstrip : (lnOf (c :: s)).strip 3 0 = (0, lnOf (c :: s)) := by
    simp only [Ln.strip, Ln.trimSp]; rw [tsGo_first hst]; rfl
  have hpeek : (lnOf (c :: s)).peek = c := rfl
  have htc : ∀ d : UInt8, c ≠ d → (lnOf (c :: s)).trimC d = none := by
    intro d hd
    simp [Ln.trimC, lnOf, hd]
  have hnb : c ≠ 45 ∧ c ≠ 42 := by
    constructor
    · intro h; subst h; exact absurd hbu (by decide)
    · intro h; subst h; exact absurd hbu (by decide)
  refine ⟨⟨by simp [lnOf], by simp [lnOf], by simp [lnOf]; omega, by simp [lnOf]⟩, ?_, ?_, ?_, ?_, ?_, ?_, ?_, ?_⟩
  · show (c :: s).all isST = false
    rw [List.all_cons, hst]; rfl
  · unfold Ln.quote; rw [hlead, htc 62 h62]; rfl
  · unfold Ln.heading; rw [hlead, htc 35 h35]
  · unfold Ln.isHR
    simp only [hlead, hpeek]
    rw [if_neg]
    rintro (h | h | h)
    · exact hnb.1 h
    · exact h95 h
    · exact hnb.2 h
  · rw [hstrip]; exact hbu
  · rw [hlead]; exact h60
  · rw [hstrip]; exact ⟨h96, h126⟩
  · unfold Ln.trimSp; rw [tsGo_first hst]; rfl
theorem dots_inline {o : Opt} {raw : List UInt8} (hoff : o.auto = false) (hdot : o.dot = true) (hl : raw.length < 1000000) (hne : raw ≠ []) (htr : trimLR isST raw = raw) (hD : isDotText raw = true) : InlineOK o raw (ab (escS htmlPs (ell raw))) := by
  intro σ R b pb p L w h hpz ho hlk hR
  refine inlineDots_ok h hpz ho hoff hdot hl hne htr hD fun w p' q n c vs RM EM hp' hS hn hI h => ?_
  obtain ⟨v, vs', M1, M2, rfl, rfl, h1, rfl, rfl⟩ := hI
  obtain ⟨pb, cs, e, rfl, rfl⟩ := h1
  refine hR w p' q n c _ RM _ _ hp' hS hn (.cons (plain_prints (by have := ell_length raw; omega)) .nil) h
theorem html_dots {o : Opt} {s : List UInt8} (hoff : o.auto = false) (hdot : o.dot = true) (hs : s.length ≤ 100) (hD : isDotText s = true) :
    ParsesTo o ([120] ++ s ++ [120]) (pOpen ++ escS htmlPs (ell ([120] ++ s ++ [120])) ++ pClose) := by
  have hlen : ([120] ++ s ++ [120] : List UInt8).length < 1000000 := by simp; omega
  have hD2 : isDotText ([120] ++ s ++ [120]) = true := by
    unfold isDotText at hD ⊢
    simp only [List.all_append, hD]; rfl
  have hmem : ∀ c : UInt8, (c == 120 || c == 97 || c == 98 || c == 32 || c == 46) = false → c ∉ ([120] ++ s ++ [120] : List UInt8) := by
    intro c hc hm
    have := (List.all_eq_true.1 hD2) c hm
    rw [hc] at this; cases this
  have hdw : ([120] ++ s ++ [120] : List UInt8).dropWhile isST = [120] ++ s ++ [120] := rfl
  have := parses_line (op := o) (raw := [120] ++ s ++ [120]) (f := ab (escS htmlPs (ell ([120] ++ s ++ [120])))) (plain_first (by decide) (by simp; omega)) hlen (idx_none (hmem 0 (by decide))) (idx_none (hmem 10 (by decide))) (idx_none (hmem 13 (by decide)))
    (by rw [hdw]; simp) (by rw [hdw]; show some (120 : UInt8) ≠ some 91; decide) (by rw [hdw]; exact dots_inline hoff hdot hlen (by simp) (trim_x s) hD2)
  exact this
theorem esc_ell {s : List UInt8} (hD : isDotText s = true) : escS htmlPs (ell s) = ell s := by
  have h1 : ∀ c, (c == 120 || c == 97 || c == 98 || c == 32 || c == 46) = true → escB htmlPs c = [c] := by
    intro c hc
    simp only [Bool.or_eq_true, beq_iff_eq] at hc
    rcases hc with (((rfl | rfl) | rfl) | rfl) | rfl <;> decide
  have key : ∀ (n : Nat) (s : List UInt8), s.length ≤ n → isDotText s = true → escS htmlPs (ell s) = ell s := by
    intro n
    induction n with
    | zero => intro s hs _; obtain rfl : s = [] := List.eq_nil_of_length_eq_zero (by omega); rfl
    | succ n ih =>
      intro s hs hD
      match s, hs, hD with
      | [], _, _ => rfl
      | [a], _, hD =>
        have := (List.all_eq_true.1 hD) a (by simp)
        simp [ell, escS, h1 a this]
      | [a, b], _, hD =>
        have ha := (List.all_eq_true.1 hD) a (by simp)
        have hb := (List.all_eq_true.1 hD) b (by simp)
        simp [ell, escS, h1 a ha, h1 b hb]
      | a :: b :: c :: s, hs, hD =>
        have ha := (List.all_eq_true.1 hD) a (by simp)
        rw [ell]
        split
        · have : isDotText s = true := by
            unfold isDotText at hD ⊢; simp only [List.all_cons, Bool.and_eq_true] at hD; exact hD.2.2.2
          rw [escS_append, ih s (by simp at hs; omega) this]; rfl
        · have : isDotText (b :: c :: s) = true := by
            unfold isDotText at hD ⊢; rw [List.all_cons, Bool.and_eq_true] at hD; exact hD.2
          rw [escS_cons, ih (b :: c :: s) (by simp at hs ⊢; omega) this, h1 a ha]; rfl
  exact key s.length s (Nat.le_refl _) hD
def optDots : Opt := ⟨false, false, false, false, false, false, false, true, false, false⟩
theorem fnDots_ok {x : ByteArray} (h : Sat σ w L) (hR : ∀ w, Sat σ w L → R (.returned (.bool true)) w) : callE P i_laws_FnDots #[.string x] R w := by
  rw [bs_of x]
  generalize x.data.toList = s
  refine g_laws_FnDots.sound ?_
  refine br_split (fun _ => hR w h) (fun hsz => ?_)
  have hs : s.length ≤ 2147483647 := by simp at hsz; omega
  refine only_ok (set := [97, 98, 32, 46]) (n := 100) (by omega) ⟨_, rfl, ?_⟩
  cases ho : onlyM s [97, 98, 32, 46] 100 with
  | false => exact br_true rfl (hR w h)
  | true =>
    simp only [onlyM, Bool.and_eq_true, decide_eq_true_eq] at ho
    obtain ⟨hs100, hall⟩ := ho
    have hD : isDotText s = true := by
      unfold isDotText
      rw [List.all_eq_true] at hall ⊢
      intro c hc
      have := hall c hc
      simp at this
      rcases this with rfl | rfl | rfl | rfl <;> decide
    have hD2 : isDotText ([120] ++ s ++ [120]) = true := by
      unfold isDotText at hD ⊢
      simp only [List.all_append, hD]; rfl
    refine br_false rfl ?_
    have hcat : (ByteArray.mk #[120] ++ bs s) ++ ByteArray.mk #[120] = bs ([120] ++ s ++ [120]) := by
      rw [show ByteArray.mk #[120] = bs [120] from rfl, bs_append, bs_append]
    rw [hcat]
    have hmax : IntKind.i64.max = 9223372036854775807 := rfl
    have hel := ell_length ([120] ++ s ++ [120])
    simp only [List.length_append, List.length_singleton] at hel
    refine ⟨by rw [hmax]; simp [ByteArray.size]; omega, ?_, ?_⟩
    · rw [hmax, show ByteArray.mk #[120] = bs [120] from rfl, bs_append]; simp; omega
    have hesc := esc_ell hD2
    have hP := html_dots (o := optDots) rfl rfl hs100 hD
    rw [hesc] at hP
    have hb : (pOpen ++ ell ([120] ++ s ++ [120]) ++ pClose).length ≤ 549755813888 := by
      rw [List.length_append, List.length_append]
      have h1 : pOpen.length = 3 := rfl
      have h2 : pClose.length = 5 := rfl
      omega
    show callE P i_impl_HTML #[optV optDots, .string (bs ([120] ++ s ++ [120]))] _ w
    refine html_ok hP hb h fun w h => ⟨_, rfl, ?_⟩
    refine ellipses_ok (by simp; omega) h fun w h => ⟨_, rfl, ?_⟩
    rw [show ByteArray.mk #[60, 112, 62] = bs pOpen from rfl, show ByteArray.mk #[60, 47, 112, 62, 10] = bs pClose from rfl, bs_append, bs_append]
    refine ⟨by rw [hmax]; simp [pOpen] at hel ⊢; omega, by rw [hmax]; simp [pOpen, pClose] at hel ⊢; omega, ?_⟩
    rw [bs_toList]
    simpa using hR w h
end Go.Proofs.YtmkfleohcnopkaaGreatDoor

/- FnNested: the law's walk. -/
set_option linter.unusedVariables false
namespace Go.Proofs.YtmkfleohcnopkaaGreatDoor
open Go.Proofs Go.IntWalk Go.RowKit
variable {σ : Out} {w : World} {L L' : List Chunk} {R : Ending → World → Prop}
theorem sub_mid (A B C : List UInt8) : sub (A ++ (B ++ C)) A.length (A.length + B.length) = B := by
  unfold sub
  rw [← List.append_assoc, show A.length + B.length = (A ++ B).length by simp, List.take_left, List.drop_left]
theorem getD_mid (A C : List UInt8) (b d : UInt8) : (A ++ (b :: C)).getD A.length d = b := by
  rw [List.getD_eq_getElem?_getD, List.getElem?_append_right (Nat.le_refl _), Nat.sub_self]; rfl
theorem nest_f2 (n : Nat) : nestT n = ([120, 32] ++ stars n) ++ (97 :: stars n) := by simp [nestT]
theorem nest_f3 (n : Nat) : nestT n = ([120, 32] ++ stars n ++ [97]) ++ (stars n ++ []) := by simp [nestT]
theorem nest_f1 (n : Nat) : nestT n = [120, 32] ++ (stars n ++ (97 :: stars n)) := by simp [nestT]
theorem stars_getD {n k : Nat} (h : k < n) : (stars n).getD k 0 = 42 := by
  rw [List.getD_eq_getElem?_getD, List.getElem?_eq_getElem (by simpa using h)]; simp [stars]
theorem nest_a (n : Nat) (d : UInt8) : (nestT n).getD (2 + n) d = 97 := by
  have := getD_mid ([120, 32] ++ stars n) (stars n) 97 d
  rw [nest_f2]
  rw [show ([120, 32] ++ stars n : List UInt8).length = 2 + n by simp; omega] at this
  exact this
theorem nest_r1 {n k : Nat} (h1 : 2 ≤ k) (h2 : k < 2 + n) : (nestT n).getD k 0 = 42 := by
  rw [nest_f1, getD_app (by simpa using h1), getD_app' (by simp; omega)]
  exact stars_getD (by simp; omega)
theorem nest_r2 {n k : Nat} (h1 : 3 + n ≤ k) (h2 : k < 3 + 2 * n) : (nestT n).getD k 0 = 42 := by
  have e : ([120, 32] ++ stars n ++ [97] : List UInt8).length = 3 + n := by simp; omega
  rw [nest_f3, getD_app (by rw [e]; exact h1), e, List.append_nil]
  exact stars_getD (by omega)
theorem nest_s1 (n : Nat) : sub (nestT n) 2 (2 + n) = stars n := by
  have := sub_mid [120, 32] (stars n) (97 :: stars n)
  rw [nest_f1]
  simpa using this
theorem nest_s2 (n : Nat) : sub (nestT n) (2 + n) (3 + n) = [97] := by
  have := sub_mid ([120, 32] ++ stars n) [97] (stars n)
  have e : ([120, 32] ++ stars n : List UInt8).length = 2 + n := by simp; omega
  rw [e, show 2 + n + ([97] : List UInt8).length = 3 + n by simp; omega] at this
  rw [nest_f2]; exact this
theorem nest_s3 (n : Nat) : sub (nestT n) (3 + n) (3 + 2 * n) = stars n := by
  have := sub_mid ([120, 32] ++ stars n ++ [97]) (stars n) []
  have e : ([120, 32] ++ stars n ++ [97] : List UInt8).length = 3 + n := by simp; omega
  rw [e, stars_length, show 3 + n + n = 3 + 2 * n by omega] at this
  rw [nest_f3]; exact this
theorem getElem_getD {l : List UInt8} {i : Nat} (h : i < l.length) (d : UInt8) : l[i] = l.getD i d := by
  rw [List.getD_eq_getElem?_getD, List.getElem?_eq_getElem h]; rfl
theorem nested_inline {o : Opt} {n : Nat} (hoff : o.auto = false) (hn : n ≤ 60) : InlineOK o (nestT n) (ab ([120, 32] ++ nestO n [97])) := by
  intro σ R b pb p L w h hpz ho hlk hR
  have hlen := nestT_length n
  refine inl_begin h (by omega) fun w h => ?_
  rw [nestT_trim] at h ⊢
  intro X hX
  have hXL : LoopX R X b (nestT n) := fun _ _ _ _ _ h => hX _ _ _ _ _ _ _ _ _ h
  generalize hp0 : ({ p with s := nestT n, em := 0, lq := none, ln := 0, lc := 0 } : PS) = p0 at h
  have hpz0 : p0.pz = some ⟨pb, 0, none⟩ := by rw [← hp0]; exact hpz
  have hcs : p0.coreS = p.coreS := by rw [← hp0]; rfl
  have g0 : (nestT n)[0]'(by omega) = 120 := rfl
  have g1 : (nestT n)[1]'(by omega) = 32 := rfl
  have ga : (nestT n)[2 + n]'(by omega) = 97 := by rw [getElem_getD _ 0]; exact nest_a n 0
  suffices hat : AtI X σ b p0 (nestT n) L 0 0 [] from hat w p0 none 0 0 rfl (by rw [← hp0]) (by rw [← hp0]; rfl) h
  refine AtI.plain hXL (by omega) (by omega) hpz0 ho (by rw [g0]; rfl) (by rw [g0]; decide) ?_
  refine AtI.plain hXL (by omega) (by omega) hpz0 ho (by rw [g1]; rfl) (by rw [g1]; decide) ?_
  rcases Nat.eq_zero_or_pos n with rfl | hpos
  · refine AtI.plain hXL (by omega) (by omega) hpz0 ho (by rw [ga]; rfl) (by rw [ga]; decide) ?_
    refine AtI.fin (ts' := [.plain [120, 32, 97]]) hXL (by omega) hpz0 ho hoff (by simp) ?_ ?_ (by decide) ?_
    · exact emphOK_none (by intro t ht; simp only [emitM, List.nil_append] at ht; rw [if_pos (by omega)] at ht; simp at ht; subst ht; exact ⟨by simp only [Inl.ty]; decide, by simp only [Inl.ty]; decide⟩)
    · intro t ht s hs; simp at ht; subst ht; simp [Inl.plain?] at hs; subst hs; simp
    · intro w p' q n' c vs RM EM hp' hS hn' hI h
      have hP := inls_print _ _ _ hI (by show okL [.plain [120, 32, 97]]; exact ⟨by show (3 : Nat) < _; decide, trivial⟩)
      exact hR w p' q n' c vs RM EM EM (hp'.trans hcs) hS hn' hP h
  · have e1 : emitM (nestT n) 0 2 [] = [.plain [120, 32]] := rfl
    have b1 : befB (nestT n) 2 = 32 := rfl
    have a1 : aftB (nestT n) (2 + n) = 97 := nest_a n 32
    have b2 : befB (nestT n) (3 + n) = 97 := by
      unfold befB; rw [if_neg (by omega), show 3 + n - 1 = 2 + n by omega]; exact nest_a n 32
    have a2 : aftB (nestT n) (3 + 2 * n) = 32 := by
      unfold aftB; rw [List.getD_eq_getElem?_getD, List.getElem?_eq_none (by omega)]; rfl
    refine AtI.star (j := 2 + n) hXL (by omega) (by omega) (by omega) hpz0 ho (fun k h1 h2 => nest_r1 h1 h2) (fun _ => by rw [nest_a]; decide) (by rw [b1]; decide) (by rw [a1]; decide) (by simp) ?_
    rw [e1, b1, a1, nest_s1]
    refine AtI.plain hXL (by omega) (by omega) hpz0 ho (by rw [ga]; rfl) (by rw [ga]; decide) ?_
    rw [show 2 + n + 1 = 3 + n by omega]
    refine AtI.star (j := 3 + 2 * n) hXL (by omega) (by omega) (by omega) hpz0 ho (fun k h1 h2 => nest_r2 h1 h2) (fun h => absurd h (by omega)) (by rw [b2]; decide) (by rw [a2]; decide) (by simp) ?_
    have e2 : ∀ ts, emitM (nestT n) (2 + n) (3 + n) ts = ts ++ [.plain [97]] := by
      intro ts; unfold emitM; rw [if_pos (by omega), nest_s2]
    rw [e2, b2, a2, nest_s3, show 2 + n - 2 = n by omega, show 3 + 2 * n - (3 + n) = n by omega]
    have l1 : leftF 32 97 = true := by decide
    have r1 : rightF 32 97 = false := by decide
    have l2 : leftF 97 32 = false := by decide
    have r2 : rightF 97 32 = true := by decide
    rw [l1, r1, l2, r2, ← hlen]
    have e3 : ∀ ts, emitM (nestT n) (nestT n).length (nestT n).length ts = ts := by
      intro ts; unfold emitM; rw [if_neg (by omega)]
    have hem := emphM_nest hpos [120, 32] [97]
    have hstar : ∀ x ∈ stars n, x = 42 := fun x hx => by simp [stars] at hx; exact hx.2
    have hne : stars n ≠ [] := fun h => by have := stars_nil.1 h; omega
    have hap : apartE none [.plain [120, 32], .emphP (stars n) true false 0 n, .plain [97], .emphP (stars n) false true 0 n] := by
      refine ⟨.inl rfl, .inl rfl, .inr ?_, .inl rfl, trivial⟩
      match n, hpos with
      | k + 1, _ => simp [headOf, stars, List.replicate_succ]
    have hwf : wfE [.plain [120, 32], .emphP (stars n) true false 0 n, .plain [97], .emphP (stars n) false true 0 n] := by
      intro s co cc i m hm
      have : s = stars n ∧ m = n := by
        simp at hm
        rcases hm with hm | hm
        · exact ⟨hm.1, hm.2.2.2.2⟩
        · exact ⟨hm.1, hm.2.2.2.2⟩
      obtain ⟨rfl, rfl⟩ := this
      exact ⟨hne, ⟨42, .inl rfl, hstar⟩, by simp; omega, by omega, by omega⟩
    have hE := emphOK_gen hwf hap (by simp)
    rw [hem] at hE
    have hnp := nest_noplain n (.plain [97]) hpos
    refine AtI.fin (ts' := [.plain [120, 32], nest n (.plain [97])]) hXL (by omega) hpz0 ho hoff (by simp) (by rw [e3]; exact hE) ?_ ?_ ?_
    · intro t ht s hs
      simp at ht
      rcases ht with rfl | rfl
      · simp [Inl.plain?] at hs; subst hs; simp
      · rw [hnp] at hs; cases hs
    · show 2 + ((match (nest n (.plain [97])).plain? with | some s => s.length | none => 0) + 0) < 1073741824
      rw [hnp]; decide
    · intro w p' q n' c vs RM EM hp' hS hn' hI h
      have em : mergeM [.plain [120, 32], nest n (.plain [97])] = [.plain [120, 32], nest n (.plain [97])] := by
        unfold mergeM
        rw [mergeGo]
        simp only [Inl.plain?]
        rw [mergeGo, hnp]
        simp [mergeGo, flushP]
      rw [em] at hI
      have hP := inls_print _ _ _ hI ⟨by show (2 : Nat) < _; decide, nest_ok n _ (by show (1 : Nat) < _; decide), trivial⟩
      have eo : outL [.plain [120, 32], nest n (.plain [97])] = [120, 32] ++ nestO n [97] := by
        have x1 : escS htmlPs [120, 32] = [120, 32] := by decide
        have x2 : escS htmlPs [97] = [97] := by decide
        simp only [outL, nest_out, outI, x1, x2, List.append_nil]
      rw [eo] at hP
      exact hR w p' q n' c vs RM EM EM (hp'.trans hcs) hS hn' hP h
theorem html_nested {o : Opt} {n : Nat} (hoff : o.auto = false) (hn : n ≤ 60) : ParsesTo o (nestT n) (pOpen ++ ([120, 32] ++ nestO n [97]) ++ pClose) := by
  have hlen := nestT_length n
  have hmem : ∀ c : UInt8, (c == 120 || c == 32 || c == 42 || c == 97) = false → c ∉ nestT n := by
    intro c hc hm
    rcases nestT_mem hm with rfl | rfl | rfl | rfl <;> exact absurd hc (by decide)
  have e0 : nestT n = 120 :: ([32] ++ stars n ++ [97] ++ stars n) := by simp [nestT]
  have hdw : (nestT n).dropWhile isST = nestT n := by rw [e0]; rfl
  have hdw2 : (nestT n).dropWhile isSTN = nestT n := by rw [e0]; rfl
  have := parses_line (op := o) (raw := nestT n) (f := ab ([120, 32] ++ nestO n [97])) (by rw [e0]; exact plain_first (by decide) (by simp; omega)) (by omega) (idx_none (hmem 0 (by decide))) (idx_none (hmem 10 (by decide))) (idx_none (hmem 13 (by decide)))
    (by rw [hdw, e0]; simp) (by rw [hdw, hdw2, e0]; show some (120 : UInt8) ≠ some 91; decide) (by rw [hdw]; exact nested_inline hoff hn)
  exact this
def optOff : Opt := ⟨false, false, false, false, false, false, false, false, false, false⟩
theorem repeat_stars : ∀ n, Lib.repeatL [42] n = stars n
  | 0 => rfl
  | n + 1 => by rw [Lib.repeatL, repeat_stars n]; simp [stars, List.replicate_succ]
theorem mk_bs (a : List UInt8) : ByteArray.mk ⟨a⟩ = bs a := rfl
theorem nestO_length (n : Nat) (hn : n ≤ 60) : (nestO n [97]).length ≤ 600 := by
  rw [nestO_eq]
  simp only [List.length_append, Lib.repeatL_length]
  have a : oStrong.length = 8 := rfl
  have b : cStrong.length = 9 := rfl
  have c : (if n % 2 = 1 then oEm else []).length ≤ 4 := by split <;> decide
  have d : (if n % 2 = 1 then cEm else []).length ≤ 5 := by split <;> decide
  rw [a, b]
  simp only [List.length_singleton]
  omega
theorem fnNested_ok {x : Int} (h : Sat σ w L) (hR : ∀ w, Sat σ w L → R (.returned (.bool true)) w) : callE P i_laws_FnNested #[.int .i64 x] R w := by
  refine g_laws_FnNested.sound ?_
  unfold g_laws_FnNested
  by_cases hx : x < 0 ∨ 60 < x
  · refine br_true ?_ (hR w h)
    simpa using hx
  refine br_false (by simp; omega) ?_
  obtain ⟨n, rfl⟩ : ∃ n : Nat, x = n := ⟨x.toNat, by omega⟩
  have hn : n ≤ 60 := by omega
  have hmax : IntKind.i64.max = 9223372036854775807 := rfl
  have hd : IntKind.i64.wrap (Int.tdiv (n : Int) 2) = ((n / 2 : Nat) : Int) := by
    rw [show Int.tdiv (n : Int) 2 = ((n / 2 : Nat) : Int) from rfl]
    exact i64_in _ (by omega)
  have hm : (Int.tmod (n : Int) 2 == 1) = decide (n % 2 = 1) := by
    rw [show Int.tmod (n : Int) 2 = ((n % 2 : Nat) : Int) from rfl, Bool.eq_iff_iff]
    simp; omega
  refine repeat_ok (s := [42]) (by simp; omega) (by omega) h fun w h => ⟨_, rfl, ?_⟩
  refine ⟨by decide, ?_⟩
  rw [hd]
  refine repeat_ok (s := oStrong) (by show 8 * _ ≤ _; omega) (by omega) h fun w h => ⟨_, rfl, ?_⟩
  have ls : (Lib.repeatL oStrong (n / 2)).length ≤ 300 := by rw [Lib.repeatL_length, show oStrong.length = 8 from rfl]; omega
  have lc : (Lib.repeatL cStrong (n / 2)).length ≤ 300 := by rw [Lib.repeatL_length, show cStrong.length = 9 from rfl]; omega
  refine ⟨by rw [hmax, bs_size]; simp [ByteArray.size]; omega, by decide, ?_⟩
  refine repeat_ok (s := cStrong) (by show 9 * _ ≤ _; omega) (by omega) h fun w h => ⟨_, rfl, ?_⟩
  rw [repeat_stars, hm, show ByteArray.mk #[97] = bs [97] from rfl, show ByteArray.mk #[60, 101, 109, 62] = bs oEm from rfl, show ByteArray.mk #[60, 47, 101, 109, 62] = bs cEm from rfl]
  simp only [bs_append]
  have len1 : ((Lib.repeatL oStrong (n / 2) ++ [97]) ++ Lib.repeatL cStrong (n / 2)).length ≤ 700 := by simp only [List.length_append, List.length_singleton]; omega
  have fin : ∀ w, Sat σ w L → g_laws_FnNested.k2 R (bs (stars n)) (bs (nestO n [97])) w := by
    intro w h
    unfold g_laws_FnNested.k2
    rw [show ByteArray.mk #[120, 32] = bs [120, 32] from rfl, show ByteArray.mk #[97] = bs [97] from rfl, show ByteArray.mk #[60, 112, 62, 120, 32] = bs (pOpen ++ [120, 32]) from rfl, show ByteArray.mk #[60, 47, 112, 62, 10] = bs pClose from rfl]
    simp only [bs_append]
    have lo := nestO_length n hn
    refine ⟨by rw [hmax, bs_size, bs_size]; simp; omega, by rw [hmax, bs_size, bs_size]; simp; omega, by rw [hmax, bs_size, bs_size]; simp; omega, ?_⟩
    have hb : (pOpen ++ ([120, 32] ++ nestO n [97]) ++ pClose).length ≤ 549755813888 := by
      have h1 : pOpen.length = 3 := rfl
      have h2 : pClose.length = 5 := rfl
      simp only [List.length_append, h1, h2, List.length_cons, List.length_nil]; omega
    show callE P i_impl_HTML #[optV optOff, .string (bs (nestT n))] _ w
    refine html_ok (html_nested (o := optOff) rfl hn) hb h fun w h => ⟨_, rfl, ?_⟩
    have h1 : pOpen.length = 3 := rfl
    have h2 : pClose.length = 5 := rfl
    refine ⟨by rw [hmax, bs_size, bs_size]; simp only [List.length_append, h1, List.length_cons, List.length_nil]; omega, by rw [hmax, bs_size, bs_size]; simp only [List.length_append, h1, h2, List.length_cons, List.length_nil]; omega, ?_⟩
    rw [bs_toList, bs_toList]
    have e : (pOpen ++ ([120, 32] ++ nestO n [97]) ++ pClose == pOpen ++ [120, 32] ++ nestO n [97] ++ pClose) = true := by simp
    rw [e]; exact hR w h
  have hO := nestO_eq n [97]
  refine ⟨by rw [hmax, bs_size, bs_size]; simp only [List.length_append, List.length_singleton]; omega, by decide, ?_⟩
  by_cases hodd : n % 2 = 1
  · rw [if_pos hodd, if_pos hodd] at hO
    refine br_true (decide_eq_true hodd) ?_
    have l1 : oEm.length = 4 := rfl
    have l2 : cEm.length = 5 := rfl
    refine ⟨by rw [hmax, bs_size, bs_size]; simp only [List.length_append, List.length_singleton, l1]; omega, by rw [hmax, bs_size, bs_size]; simp only [List.length_append, List.length_singleton, l1, l2]; omega, ?_⟩
    rw [← hO]
    exact fin w h
  · rw [if_neg hodd, if_neg hodd] at hO
    refine br_false (decide_eq_false hodd) ?_
    rw [List.nil_append, List.append_nil] at hO
    rw [← hO]
    exact fin w h
end Go.Proofs.YtmkfleohcnopkaaGreatDoor
